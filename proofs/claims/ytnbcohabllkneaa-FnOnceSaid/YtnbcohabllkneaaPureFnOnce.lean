/- For every list of texts: laws.FnOnce answers true (the plain statement behind its walk); lengths are those that an int can hold. -/
import Derived.Test.YtnbcohabllkneaaOFnOncex6
import Derived.Test.YtnbcohabllkneaaBase
set_option linter.unusedSimpArgs false
set_option linter.unusedVariables false
namespace Go.Proofs.Ytnbcohabllkneaa.Pure
open Go.RowKit Go.Proofs.Ytnbcohabllkneaa.PFnOnce Go.Proofs.YtnbcohabllkneaaW.PrintWords Go.Proofs.YtnbcohabllkneaaW.PrintLast Go.Proofs.Ytnbcohabllkneaa.Base

theorem awake : Ev laws_awakeUtil.f true := Ev.of laws_awakeUtil.mono (k := 30) (by decide +kernel)

theorem zzFits10_loop (q : List ByteArray) : ∀ p : List ByteArray, p.length + q.length ≤ 9223372036854775807 → ∃ b, Ev (fun k => laws_zzFits10.l0 k (p ++ q) (((p ++ q).length : Nat) : Int) (p.length : Int)) b := by
  induction q with
  | nil => intro p _; exact ⟨_, Ev.step (fun _ => laws_zzFits10.l0.eq_2 _ _ _ _) (Ev.neg (by simp) (Ev.now _))⟩
  | cons c q ih =>
    intro p hp
    simp only [List.length_cons] at hp
    obtain ⟨b, hb⟩ := ih (p ++ [c]) (by simp <;> omega)
    by_cases h : (c.size : Int) > 2147483647
    · exact ⟨_, Ev.step (fun _ => laws_zzFits10.l0.eq_2 _ _ _ _) (Ev.pos (by simp <;> omega) (Ev.pos (by omega) (Ev.pos (by simp <;> omega) (Ev.pos (by rw [rdOf_mid _ p q c _ rfl]; exact h) (Ev.now _)))))⟩
    · refine ⟨b, Ev.step (fun _ => laws_zzFits10.l0.eq_2 _ _ _ _) (Ev.pos (by simp <;> omega) (Ev.pos (by omega) (Ev.pos (by simp <;> omega) (Ev.neg (by rw [rdOf_mid _ p q c _ rfl]; exact h) ?_))))⟩
      rw [w64 (by omega) (by omega)]
      simpa using hb
theorem zzFits10_f (l : List ByteArray) (h : l.length ≤ 9223372036854775807) : ∃ b, Ev (fun k => laws_zzFits10.f k l) b := by
  by_cases g : (l.length : Int) > 2147483647
  · exact ⟨_, Ev.pos g (Ev.now _)⟩
  · obtain ⟨b, hb⟩ := zzFits10_loop l [] (by simpa using h)
    exact ⟨b, Ev.neg g hb⟩
theorem copied_f (l : List ByteArray) (h : l.length ≤ 20) : Ev (fun _ => laws_copied.f l) l := by
  unfold laws_copied.f
  refine Ev.bind (Ev.now ([] : List ByteArray)) (Ev.pos (by simp <;> omega) ?_)
  exact Ev.now _
theorem texts_f (l : List ByteArray) : laws_texts.f l = some (decide (l.length ≤ 20)) := by
  unfold laws_texts.f
  congr 1
  rw [Bool.eq_iff_iff]
  simp
  omega
theorem SameList_loop (q : List ByteArray) : ∀ (p q' : List ByteArray), q.length = q'.length → p.length + q.length ≤ 9223372036854775807 →
    Ev (fun k => spec_SameList.l0 k (p ++ q) (p ++ q') (p.length : Int)) (decide (q = q')) := by
  induction q with
  | nil =>
    intro p q' h _
    cases q' with
    | nil => exact Ev.step (fun _ => spec_SameList.l0.eq_2 _ _ _ _) (Ev.neg (by simp) (Ev.now _))
    | cons _ _ => simp at h
  | cons c q ih =>
    intro p q' h hp
    cases q' with
    | nil => simp at h
    | cons d q' =>
      simp only [List.length_cons] at hp h
      refine Ev.step (fun _ => spec_SameList.l0.eq_2 _ _ _ _) (Ev.pos (by simp <;> omega) (Ev.pos (by omega) (Ev.pos (by simp <;> omega) ?_)))
      rw [rdOf_mid _ p q c _ rfl, rdOf_mid _ p q' d _ rfl, w64 (by omega) (by omega)]
      by_cases e : c = d
      · subst e
        refine Ev.pos rfl ?_
        have := ih (p ++ [c]) q' (by omega) (by simp <;> omega)
        simpa using this
      · refine Ev.neg (fun x => e ((toList_iff _ _).1 x)) ?_
        rw [show decide (c :: q = d :: q') = false from by simp [e]]
        exact Ev.now _
theorem SameList_f (l m : List ByteArray) (h : l.length ≤ 9223372036854775807) : Ev (fun k => spec_SameList.f k l m) (decide (l = m)) := by
  by_cases g : (l.length : Int) = (m.length : Int)
  · exact Ev.pos g (SameList_loop l [] m (by omega) (by simpa using h))
  · rw [show decide (l = m) = false from by simp; rintro rfl; exact g rfl]
    exact Ev.neg g (Ev.now _)

theorem Often_loop (s : ByteArray) (q : List ByteArray) : ∀ (p : List ByteArray) (n : Int), p.length + q.length ≤ 9223372036854775807 → 0 ≤ n → n ≤ p.length →
    Ev (fun k => spec_Often.l0 k (p ++ q) s n (p.length : Int)) (n + ((q.filter fun x => decide (x = s)).length : Nat)) := by
  induction q with
  | nil =>
    intro p n _ _ _
    refine Ev.step (fun _ => spec_Often.l0.eq_2 _ _ _ _ _) (Ev.neg (by simp) ?_)
    refine Ev.eqr ?_ (Ev.now _)
    simp
  | cons c q ih =>
    intro p n hp h0 hn
    simp only [List.length_cons] at hp
    refine Ev.step (fun _ => spec_Often.l0.eq_2 _ _ _ _ _) (Ev.pos (by simp <;> omega) (Ev.pos (by omega) ?_))
    rw [rdOf_mid _ p q c _ rfl, w64 (x := (p.length : Int) + 1) (by omega) (by omega)]
    by_cases e : c = s
    · subst e
      refine Ev.pos rfl ?_
      rw [w64 (by omega) (by omega)]
      have := ih (p ++ [c]) (n + 1) (by simp <;> omega) (by omega) (by simp <;> omega)
      simp only [List.append_assoc, List.cons_append, List.nil_append, List.length_append, List.length_cons, List.length_nil] at this
      refine Ev.eqr ?_ this
      simp
      omega
    · refine Ev.neg (fun x => e ((toList_iff _ _).1 x)) ?_
      have := ih (p ++ [c]) n (by simp <;> omega) h0 (by simp <;> omega)
      simp only [List.append_assoc, List.cons_append, List.nil_append, List.length_append, List.length_cons, List.length_nil] at this
      refine Ev.eqr ?_ this
      simp [e]
/-- how often a text stands in a list -/
def often (l : List ByteArray) (s : ByteArray) : Nat := (l.filter fun x => decide (x = s)).length
theorem Often_f (l : List ByteArray) (s : ByteArray) (h : l.length ≤ 9223372036854775807) : Ev (fun k => spec_Often.f k l s) (often l s : Int) := by
  have := Often_loop s l [] 0 (by simpa using h) (by omega) (by simp)
  unfold spec_Often.f
  simpa [often] using this
theorem often_zero (l : List ByteArray) (s : ByteArray) : (often l s : Int) = 0 ↔ s ∉ l := by
  unfold often
  constructor
  · intro h hm
    have : (l.filter fun x => decide (x = s)) = [] := List.length_eq_zero_iff.1 (by omega)
    have h2 : s ∈ (l.filter fun x => decide (x = s)) := List.mem_filter.2 ⟨hm, by simp⟩
    rw [this] at h2
    cases h2
  · intro h
    have : (l.filter fun x => decide (x = s)) = [] := by
      rw [List.filter_eq_nil_iff]
      intro a ha e
      rw [decide_eq_true_eq] at e
      exact h (e ▸ ha)
    rw [this]
    rfl

theorem sorted_ends (n : Nat) (hn : n ≤ 1000) (m : Nat) : ∀ (i : Nat) (xs : List ByteArray), xs.length = n → n - i = m → ∃ r, Ev (fun k => laws_sorted.l0 k xs (i : Int)) r ∧ r.length = n := by
  induction m with
  | zero =>
    intro i xs hx hm
    exact ⟨xs, Ev.step (fun _ => laws_sorted.l0.eq_2 _ _ _) (Ev.neg (by omega) (Ev.now _)), hx⟩
  | succ m ih =>
    intro i xs hx hm
    have inner : ∀ (j : Nat) (ys : List ByteArray), ys.length = n → j ≤ i → ∃ r, Ev (fun k => laws_sorted.l1 k ys (i : Int) (j : Int)) r ∧ r.length = n := by
      intro j
      induction j with
      | zero =>
        intro ys hy _
        obtain ⟨r, hr, hl⟩ := ih (i + 1) ys hy (by omega)
        refine ⟨r, Ev.step (fun _ => laws_sorted.l1.eq_2 _ _ _ _) (Ev.neg (by simp) ?_), hl⟩
        rw [w64 (by omega) (by omega)]
        exact hr
      | succ j ihj =>
        intro ys hy hj
        have hw : wrap64 (((j + 1 : Nat) : Int) - 1) = (j : Int) := by rw [w64 (by omega) (by omega)]; omega
        by_cases hlt : Op.bytesLess ((rdOf ByteArray.empty ys ((j + 1 : Nat) : Int)).toList) ((rdOf ByteArray.empty ys (j : Int)).toList) = true
        · obtain ⟨r, hr, hl⟩ := ihj ((ys.set (((j + 1 : Nat) : Int)).toNat (rdOf ByteArray.empty ys (j : Int))).set ((j : Int)).toNat (rdOf ByteArray.empty ys ((j + 1 : Nat) : Int))) (by simp [hy]) (by omega)
          refine ⟨r, Ev.step (fun _ => laws_sorted.l1.eq_2 _ _ _ _) ?_, hl⟩
          rw [hw]
          exact Ev.pos (by omega) (Ev.pos (by omega) (Ev.pos (by omega) (Ev.pos (by omega) (Ev.pos (by omega) (Ev.pos hlt hr)))))
        · obtain ⟨r, hr, hl⟩ := ih (i + 1) ys hy (by omega)
          refine ⟨r, Ev.step (fun _ => laws_sorted.l1.eq_2 _ _ _ _) ?_, hl⟩
          rw [hw]
          refine Ev.pos (by omega) (Ev.pos (by omega) (Ev.pos (by omega) (Ev.pos (by omega) (Ev.pos (by omega) (Ev.neg hlt ?_)))))
          rw [w64 (by omega) (by omega)]
          exact hr
    obtain ⟨r, hr, hl⟩ := inner i xs hx (Nat.le_refl _)
    exact ⟨r, Ev.step (fun _ => laws_sorted.l0.eq_2 _ _ _) (Ev.pos (by omega) hr), hl⟩
theorem sorted_f (l : List ByteArray) (h : l.length ≤ 1000) : ∃ r, Ev (fun k => laws_sorted.f k l) r ∧ r.length = l.length := by
  obtain ⟨r, hr, hl⟩ := sorted_ends l.length h (l.length - 1) 1 l rfl rfl
  refine ⟨r, Ev.bind (Ev.now ([] : List ByteArray)) (Ev.pos (by simp <;> omega) ?_), hl⟩
  exact hr
theorem SameTexts_self (q : List ByteArray) : ∀ p : List ByteArray, p.length + q.length ≤ 9223372036854775807 → Ev (fun k => spec_SameTexts.l0 k (p ++ q) (p ++ q) (p.length : Int)) true := by
  induction q with
  | nil => intro p _; exact Ev.step (fun _ => spec_SameTexts.l0.eq_2 _ _ _ _) (Ev.neg (by simp) (Ev.now _))
  | cons c q ih =>
    intro p hp
    simp only [List.length_cons] at hp
    refine Ev.step (fun _ => spec_SameTexts.l0.eq_2 _ _ _ _) (Ev.pos (by simp <;> omega) (Ev.pos (by omega) (Ev.pos (by simp <;> omega) (Ev.pos rfl ?_))))
    rw [w64 (by omega) (by omega)]
    have := ih (p ++ [c]) (by simp <;> omega)
    simpa using this
theorem sameSet_self (l : List ByteArray) (h : l.length ≤ 1000) : Ev (fun k => laws_sameSet.f k l l) true := by
  obtain ⟨r, hr, hl⟩ := sorted_f l h
  refine Ev.bind hr (Ev.bind hr (Ev.bind (a := true) (Ev.pos rfl ?_) (Ev.now _)))
  exact SameTexts_self r [] (by simp <;> omega)

theorem Distinct_loop (q : List ByteArray) : ∀ (p o : List ByteArray), p.length + q.length ≤ 1000 → o.length ≤ p.length →
    Ev (fun k => spec_Distinct.l0 k (p ++ q) o (p.length : Int)) (onceT o q) := by
  induction q with
  | nil => intro p o _ _; exact Ev.step (fun _ => spec_Distinct.l0.eq_2 _ _ _ _) (Ev.neg (by simp) (Ev.now _))
  | cons c q ih =>
    intro p o hp ho
    simp only [List.length_cons] at hp
    refine Ev.step (fun _ => spec_Distinct.l0.eq_2 _ _ _ _) (Ev.pos (by simp <;> omega) (Ev.pos (by omega) ?_))
    rw [rdOf_mid _ p q c _ rfl, w64 (by omega) (by omega)]
    refine Ev.bind (Often_f o c (by omega)) ?_
    rw [onceT]
    by_cases e : c ∈ o
    · refine Ev.neg (fun x => (often_zero o c).1 x e) ?_
      have := ih (p ++ [c]) o (by simp <;> omega) (by simp <;> omega)
      rw [if_pos ((hasT_iff o c).2 e)]
      simpa using this
    · refine Ev.pos ((often_zero o c).2 e) (Ev.pos (by omega) ?_)
      have := ih (p ++ [c]) (o ++ [c]) (by simp <;> omega) (by simp <;> omega)
      rw [if_neg (fun h => e ((hasT_iff o c).1 h))]
      simpa using this
theorem FnOnce (a : List ByteArray) (ha : a.length ≤ 9223372036854775807) (ha2 : ∀ v ∈ a, v.size ≤ maxLen) :
    ∃ k, laws_FnOnce.f k a = some true := by
  refine Ev.rounds (g := fun k => laws_FnOnce.f k a) ?_
  obtain ⟨x1, h1⟩ := zzFits10_f a ha
  refine Ev.bind h1 ?_
  cases x1
  · exact Ev.neg (by simp) (Ev.now _)
  refine Ev.pos rfl (Ev.bind (Ev.const (texts_f a)) ?_)
  by_cases h20 : a.length ≤ 20
  · refine Ev.pos (by simpa using h20) ?_
    have hon := onceT_len a []
    have h0 : ([] : List ByteArray).length = 0 := rfl
    have hD : Ev (fun k => spec_Distinct.f k a) (onceT [] a) := by
      have := Distinct_loop a [] [] (by simp <;> omega) (by simp)
      exact this
    have hR : Ev (fun _ => impl_RemoveDuplicates.f a) (onceT [] a) := by
      refine Ev.const ?_
      unfold impl_RemoveDuplicates.f
      rw [if_pos ⟨by omega, ha2⟩]
    have hE : Ev (fun _ => impl_RemoveDuplicateElement.f a) (onceT [] a) := by
      refine Ev.bind (Ev.const ?_) (Ev.now _)
      unfold util_RemoveDuplicateElement.f
      rw [if_pos ⟨by omega, ha2⟩]
    refine Ev.bind (copied_f a h20) (Ev.bind hR (Ev.bind hD (Ev.bind (sameSet_self _ (by omega)) (Ev.pos rfl ?_))))
    exact Ev.bind (copied_f a h20) (Ev.bind hE (Ev.bind hD (Ev.bind (SameList_f _ _ (by omega)) (Ev.pos (by simp) (Ev.bind awake (Ev.now _))))))
  · exact Ev.neg (by simpa using h20) (Ev.bind awake (Ev.now _))

end Go.Proofs.Ytnbcohabllkneaa.Pure
