/- For all lists of texts and all lists of rows: laws.FnListEquals answers true (the plain statement behind its walk); lengths are those that an int can hold. -/
import Derived.Test.YtnbcohabllkneaaOFnListEqualsx5
import Derived.Test.YtnbcohabllkneaaBase
set_option linter.unusedSimpArgs false
set_option linter.unusedVariables false
namespace Go.Proofs.Ytnbcohabllkneaa.Pure
open Go.RowKit Go.Proofs.Ytnbcohabllkneaa.PFnListEquals Go.Proofs.YtnbcohabllkneaaW.PrintWords Go.Proofs.YtnbcohabllkneaaW.PrintLast Go.Proofs.Ytnbcohabllkneaa.Base

theorem awake : Ev laws_awakeUtil.f true := Ev.of laws_awakeUtil.mono (k := 30) (by decide +kernel)

theorem zzFits10_loop (q : List ByteArray) : ∀ p : List ByteArray, p.length + q.length ≤ 9223372036854775807 → ∃ b, Ev (fun k => laws_zzFits10.l0 k (p ++ q) (((p ++ q).length : Nat) : Int) (p.length : Int)) b := by
  induction q with
  | nil => intro p _; exact ⟨_, Ev.step (fun _ => laws_zzFits10.l0.eq_2 _ _ _ _) (Ev.neg (by simp) (Ev.now _))⟩
  | cons c q ih =>
    intro p hp
    simp only [List.length_cons] at hp
    obtain ⟨b, hb⟩ := ih (p ++ [c]) (by simp <;> omega)
    by_cases h : (c.size : Int) > 2147483647
    · exact ⟨_, Ev.step (fun _ => laws_zzFits10.l0.eq_2 _ _ _ _) (Ev.pos (by simp <;> omega) (Ev.pos (by omega) (Ev.pos (by simp <;> omega) (Ev.pos (by rw [rdOf_mid _ p q c _ rfl]; exact h) (Ev.now _)))))⟩
    · refine ⟨b, Ev.step (fun _ => laws_zzFits10.l0.eq_2 _ _ _ _) (Ev.pos (by simp <;> omega) (Ev.pos (by omega) (Ev.pos (by simp <;> omega) (Ev.neg (by rw [rdOf_mid _ p q c _ rfl]; exact h) ?_))))⟩
      rw [w64 (by omega) (by omega)]
      simpa using hb
theorem zzFits10_f (l : List ByteArray) (h : l.length ≤ 9223372036854775807) : ∃ b, Ev (fun k => laws_zzFits10.f k l) b := by
  by_cases g : (l.length : Int) > 2147483647
  · exact ⟨_, Ev.pos g (Ev.now _)⟩
  · obtain ⟨b, hb⟩ := zzFits10_loop l [] (by simpa using h)
    exact ⟨b, Ev.neg g hb⟩
theorem copied_f (l : List ByteArray) (h : l.length ≤ 20) : Ev (fun _ => laws_copied.f l) l := by
  unfold laws_copied.f
  refine Ev.bind (Ev.now ([] : List ByteArray)) (Ev.pos (by simp <;> omega) ?_)
  exact Ev.now _
theorem texts_f (l : List ByteArray) : laws_texts.f l = some (decide (l.length ≤ 20)) := by
  unfold laws_texts.f
  congr 1
  rw [Bool.eq_iff_iff]
  simp
  omega
theorem SameList_loop (q : List ByteArray) : ∀ (p q' : List ByteArray), q.length = q'.length → p.length + q.length ≤ 9223372036854775807 →
    Ev (fun k => spec_SameList.l0 k (p ++ q) (p ++ q') (p.length : Int)) (decide (q = q')) := by
  induction q with
  | nil =>
    intro p q' h _
    cases q' with
    | nil => exact Ev.step (fun _ => spec_SameList.l0.eq_2 _ _ _ _) (Ev.neg (by simp) (Ev.now _))
    | cons _ _ => simp at h
  | cons c q ih =>
    intro p q' h hp
    cases q' with
    | nil => simp at h
    | cons d q' =>
      simp only [List.length_cons] at hp h
      refine Ev.step (fun _ => spec_SameList.l0.eq_2 _ _ _ _) (Ev.pos (by simp <;> omega) (Ev.pos (by omega) (Ev.pos (by simp <;> omega) ?_)))
      rw [rdOf_mid _ p q c _ rfl, rdOf_mid _ p q' d _ rfl, w64 (by omega) (by omega)]
      by_cases e : c = d
      · subst e
        refine Ev.pos rfl ?_
        have := ih (p ++ [c]) q' (by omega) (by simp <;> omega)
        simpa using this
      · refine Ev.neg (fun x => e ((toList_iff _ _).1 x)) ?_
        rw [show decide (c :: q = d :: q') = false from by simp [e]]
        exact Ev.now _
theorem SameList_f (l m : List ByteArray) (h : l.length ≤ 9223372036854775807) : Ev (fun k => spec_SameList.f k l m) (decide (l = m)) := by
  by_cases g : (l.length : Int) = (m.length : Int)
  · exact Ev.pos g (SameList_loop l [] m (by omega) (by simpa using h))
  · rw [show decide (l = m) = false from by simp; rintro rfl; exact g rfl]
    exact Ev.neg g (Ev.now _)

theorem ArrayEquals_loop (q : List ByteArray) : ∀ (p q' : List ByteArray), q.length = q'.length → p.length + q.length ≤ 9223372036854775807 →
    Ev (fun k => util_ArrayEquals.l0 k (p ++ q') (p ++ q) (((p ++ q).length : Nat) : Int) (p.length : Int)) (decide (q = q')) := by
  induction q with
  | nil =>
    intro p q' h _
    cases q' with
    | nil => exact Ev.step (fun _ => util_ArrayEquals.l0.eq_2 _ _ _ _ _) (Ev.neg (by simp) (Ev.now _))
    | cons _ _ => simp at h
  | cons c q ih =>
    intro p q' h hp
    cases q' with
    | nil => simp at h
    | cons d q' =>
      simp only [List.length_cons] at hp h
      refine Ev.step (fun _ => util_ArrayEquals.l0.eq_2 _ _ _ _ _) (Ev.pos (by simp <;> omega) (Ev.pos (by omega) (Ev.pos (by simp <;> omega) (Ev.pos (by simp <;> omega) ?_))))
      rw [rdOf_mid _ p q c _ rfl, rdOf_mid _ p q' d _ rfl, w64 (by omega) (by omega)]
      by_cases e : c = d
      · subst e
        refine Ev.pos rfl ?_
        have := ih (p ++ [c]) q' (by omega) (by simp <;> omega)
        simpa using this
      · refine Ev.neg (fun x => e ((toList_iff _ _).1 x)) ?_
        rw [show decide (c :: q = d :: q') = false from by simp [e]]
        exact Ev.now _
theorem ArrayEquals_f (l m : List ByteArray) (h : l.length ≤ 9223372036854775807) : Ev (fun k => util_ArrayEquals.f k l m) (decide (l = m)) := by
  by_cases g : (l.length : Int) = (m.length : Int)
  · exact Ev.pos g (ArrayEquals_loop l [] m (by omega) (by simpa using h))
  · rw [show decide (l = m) = false from by simp; rintro rfl; exact g rfl]
    exact Ev.neg g (Ev.now _)

theorem rd_L1_mid (p q : List (List ByteArray)) (c : List ByteArray) (i : Int) (h : i = (p.length : Int)) : rd_L1 (p ++ c :: q) i = c := getD_mid _ p q c i h
theorem zzFits11_loop (q : List (List ByteArray)) (hq : ∀ x ∈ q, x.length ≤ 9223372036854775807) : ∀ p : List (List ByteArray), p.length + q.length ≤ 9223372036854775807 → ∃ b, Ev (fun k => laws_zzFits11.l0 k (p ++ q) (((p ++ q).length : Nat) : Int) (p.length : Int)) b := by
  induction q with
  | nil => intro p _; exact ⟨_, Ev.step (fun _ => laws_zzFits11.l0.eq_2 _ _ _ _) (Ev.neg (by simp) (Ev.now _))⟩
  | cons c q ih =>
    intro p hp
    simp only [List.length_cons] at hp
    obtain ⟨b, hb⟩ := ih (fun x hx => hq x (by simp [hx])) (p ++ [c]) (by simp <;> omega)
    obtain ⟨b1, hb1⟩ := zzFits10_f c (hq c (by simp))
    have hgo : ∀ r, Ev (fun k => if b1 = true then laws_zzFits11.l0 k (p ++ c :: q) (((p ++ c :: q).length : Nat) : Int) (wrap64 ((p.length : Int) + 1)) else some false) r → Ev (fun k => laws_zzFits11.l0 k (p ++ c :: q) (((p ++ c :: q).length : Nat) : Int) (p.length : Int)) r := by
      intro r hr
      refine Ev.step (fun _ => laws_zzFits11.l0.eq_2 _ _ _ _) (Ev.pos (by simp <;> omega) (Ev.pos (by omega) (Ev.pos (by simp <;> omega) ?_)))
      rw [rd_L1_mid p q c _ rfl]
      exact Ev.bind hb1 hr
    cases b1 with
    | true =>
      refine ⟨b, hgo b (Ev.pos rfl ?_)⟩
      rw [w64 (by omega) (by omega)]
      simpa using hb
    | false => exact ⟨_, hgo _ (Ev.neg (by simp) (Ev.now _))⟩
theorem zzFits11_f (l : List (List ByteArray)) (h : l.length ≤ 9223372036854775807) (hl : ∀ x ∈ l, x.length ≤ 9223372036854775807) : ∃ b, Ev (fun k => laws_zzFits11.f k l) b := by
  by_cases g : (l.length : Int) > 2147483647
  · exact ⟨_, Ev.pos g (Ev.now _)⟩
  · obtain ⟨b, hb⟩ := zzFits11_loop l hl [] (by simpa using h)
    exact ⟨b, Ev.neg g hb⟩
theorem rows_loop (q : List (List ByteArray)) : ∀ p : List (List ByteArray), p.length + q.length ≤ 9223372036854775807 → ∃ b, Ev (fun k => laws_rows.l0 k (p ++ q) (p.length : Int)) b ∧ (b = true → (p ++ q).length ≤ 10 ∧ ∀ x ∈ q, x.length ≤ 8) := by
  induction q with
  | nil =>
    intro p _
    refine ⟨_, Ev.step (fun _ => laws_rows.l0.eq_2 _ _ _) (Ev.neg (by simp) (Ev.now _)), fun h => ⟨?_, fun x hx => by simp at hx⟩⟩
    simp at h ⊢
    omega
  | cons c q ih =>
    intro p hp
    simp only [List.length_cons] at hp
    by_cases h : (c.length : Int) > 8
    · exact ⟨_, Ev.step (fun _ => laws_rows.l0.eq_2 _ _ _) (Ev.pos (by simp <;> omega) (Ev.pos (by omega) (Ev.pos (by rw [rd_L1_mid p q c _ rfl]; exact h) (Ev.now _)))), fun e => by cases e⟩
    · obtain ⟨b, hb, hq⟩ := ih (p ++ [c]) (by simp <;> omega)
      refine ⟨b, Ev.step (fun _ => laws_rows.l0.eq_2 _ _ _) (Ev.pos (by simp <;> omega) (Ev.pos (by omega) (Ev.neg (by rw [rd_L1_mid p q c _ rfl]; exact h) ?_))), fun e => ?_⟩
      · rw [w64 (by omega) (by omega)]
        simpa using hb
      · obtain ⟨h1, h2⟩ := hq e
        refine ⟨by simpa using h1, fun x hx => ?_⟩
        rcases List.mem_cons.1 hx with rfl | hx
        · omega
        · exact h2 x hx
theorem rows_f (l : List (List ByteArray)) (h : l.length ≤ 9223372036854775807) : ∃ b, Ev (fun k => laws_rows.f k l) b ∧ (b = true → l.length ≤ 10 ∧ ∀ x ∈ l, x.length ≤ 8) := by
  by_cases g : (l.length : Int) > 10
  · exact ⟨_, Ev.pos g (Ev.now _), fun e => by cases e⟩
  · obtain ⟨b, hb, hq⟩ := rows_loop l [] (by simpa using h)
    exact ⟨b, Ev.neg g hb, fun e => by simpa using hq e⟩
theorem copiedRows_loop (q : List (List ByteArray)) (hq : ∀ x ∈ q, x.length ≤ 20) : ∀ p : List (List ByteArray), p.length + q.length ≤ 1000 →
    Ev (fun k => laws_copiedRows.l0 k (p ++ q) p (p.length : Int)) (p ++ q) := by
  induction q with
  | nil =>
    intro p _
    refine Ev.step (fun _ => laws_copiedRows.l0.eq_2 _ _ _ _) (Ev.neg (by simp) ?_)
    rw [List.append_nil]
    exact Ev.now _
  | cons c q ih =>
    intro p hp
    simp only [List.length_cons] at hp
    refine Ev.step (fun _ => laws_copiedRows.l0.eq_2 _ _ _ _) (Ev.pos (by simp <;> omega) (Ev.pos (by omega) ?_))
    rw [rd_L1_mid p q c _ rfl, w64 (by omega) (by omega)]
    refine Ev.bind (copied_f c (hq c (by simp))) (Ev.pos (by omega) ?_)
    have := ih (fun x hx => hq x (by simp [hx])) (p ++ [c]) (by simp <;> omega)
    simpa using this
theorem copiedRows_f (l : List (List ByteArray)) (h : l.length ≤ 1000) (hl : ∀ x ∈ l, x.length ≤ 20) : Ev (fun k => laws_copiedRows.f k l) l := copiedRows_loop l hl [] (by simpa using h)
theorem SameRows_loop (q : List (List ByteArray)) (hq : ∀ x ∈ q, x.length ≤ 9223372036854775807) : ∀ (p q' : List (List ByteArray)), q.length = q'.length → p.length + q.length ≤ 9223372036854775807 →
    Ev (fun k => spec_SameRows.l0 k (p ++ q) (p ++ q') (p.length : Int)) (decide (q = q')) := by
  induction q with
  | nil =>
    intro p q' h _
    cases q' with
    | nil => exact Ev.step (fun _ => spec_SameRows.l0.eq_2 _ _ _ _) (Ev.neg (by simp) (Ev.now _))
    | cons _ _ => simp at h
  | cons c q ih =>
    intro p q' h hp
    cases q' with
    | nil => simp at h
    | cons d q' =>
      simp only [List.length_cons] at hp h
      refine Ev.step (fun _ => spec_SameRows.l0.eq_2 _ _ _ _) (Ev.pos (by simp <;> omega) (Ev.pos (by omega) (Ev.pos (by simp <;> omega) ?_)))
      rw [rd_L1_mid p q c _ rfl, rd_L1_mid p q' d _ rfl, w64 (by omega) (by omega)]
      refine Ev.bind (SameList_f c d (hq c (by simp))) ?_
      by_cases e : c = d
      · subst e
        refine Ev.pos (by simp) ?_
        have := ih (fun x hx => hq x (by simp [hx])) (p ++ [c]) q' (by omega) (by simp <;> omega)
        simpa using this
      · refine Ev.neg (by simpa using e) ?_
        rw [show decide (c :: q = d :: q') = false from by simp [e]]
        exact Ev.now _
theorem SameRows_f (l m : List (List ByteArray)) (h : l.length ≤ 9223372036854775807) (hl : ∀ x ∈ l, x.length ≤ 9223372036854775807) : Ev (fun k => spec_SameRows.f k l m) (decide (l = m)) := by
  by_cases g : (l.length : Int) = (m.length : Int)
  · exact Ev.pos g (SameRows_loop l hl [] m (by omega) (by simpa using h))
  · rw [show decide (l = m) = false from by simp; rintro rfl; exact g rfl]
    exact Ev.neg g (Ev.now _)

theorem Array2D_loop (q : List (List ByteArray)) (hq : ∀ x ∈ q, x.length ≤ 9223372036854775807) : ∀ (p q' : List (List ByteArray)), q.length = q'.length → p.length + q.length ≤ 9223372036854775807 →
    Ev (fun k => util_Array2DEquals.l0 k (p ++ q') (p ++ q) (((p ++ q).length : Nat) : Int) (p.length : Int)) (decide (q = q')) := by
  induction q with
  | nil =>
    intro p q' h _
    cases q' with
    | nil => exact Ev.step (fun _ => util_Array2DEquals.l0.eq_2 _ _ _ _ _) (Ev.neg (by simp) (Ev.now _))
    | cons _ _ => simp at h
  | cons c q ih =>
    intro p q' h hp
    cases q' with
    | nil => simp at h
    | cons d q' =>
      simp only [List.length_cons] at hp h
      refine Ev.step (fun _ => util_Array2DEquals.l0.eq_2 _ _ _ _ _) (Ev.pos (by simp <;> omega) (Ev.pos (by omega) (Ev.pos (by simp <;> omega) (Ev.pos (by simp <;> omega) ?_))))
      rw [rd_L1_mid p q c _ rfl, rd_L1_mid p q' d _ rfl, w64 (by omega) (by omega)]
      refine Ev.bind (ArrayEquals_f c d (hq c (by simp))) ?_
      by_cases e : c = d
      · subst e
        refine Ev.pos (by simp) ?_
        have := ih (fun x hx => hq x (by simp [hx])) (p ++ [c]) q' (by omega) (by simp <;> omega)
        simpa using this
      · refine Ev.neg (by simpa using e) ?_
        rw [show decide (c :: q = d :: q') = false from by simp [e]]
        exact Ev.now _
theorem Array2D_f (l m : List (List ByteArray)) (h : l.length ≤ 9223372036854775807) (hl : ∀ x ∈ l, x.length ≤ 9223372036854775807) : Ev (fun k => util_Array2DEquals.f k l m) (decide (l = m)) := by
  by_cases g : (l.length : Int) = (m.length : Int)
  · exact Ev.pos g (Array2D_loop l hl [] m (by omega) (by simpa using h))
  · rw [show decide (l = m) = false from by simp; rintro rfl; exact g rfl]
    exact Ev.neg g (Ev.now _)

theorem j1_true (a b : List ByteArray) (c d : List (List ByteArray)) : Ev (fun k => laws_FnListEquals.j1 k a b c d true) true :=
  Ev.step (fun _ => laws_FnListEquals.j1.eq_2 _ _ _ _ _ _) (Ev.pos rfl (Ev.bind awake (Ev.now _)))
theorem j1_false (a b : List ByteArray) (c d : List (List ByteArray)) (ha : a.length ≤ 20) (hb : b.length ≤ 20) (hc : c.length ≤ 10 ∧ ∀ x ∈ c, x.length ≤ 8) (hd : d.length ≤ 10 ∧ ∀ x ∈ d, x.length ≤ 8) : Ev (fun k => laws_FnListEquals.j1 k a b c d false) true := by
  have hc2 : ∀ x ∈ c, x.length ≤ 9223372036854775807 := fun x hx => by have := hc.2 x hx; omega
  refine Ev.step (fun _ => laws_FnListEquals.j1.eq_2 _ _ _ _ _ _) (Ev.neg (by simp) ?_)
  refine Ev.bind (copied_f a ha) (Ev.bind (copied_f b hb) (Ev.bind (Ev.bind (ArrayEquals_f a b (by omega)) (Ev.now _)) (Ev.bind (SameList_f a b (by omega)) (Ev.pos (by simp) ?_))))
  refine Ev.bind (copiedRows_f c (by omega) (fun x hx => by have := hc.2 x hx; omega)) (Ev.bind (copiedRows_f d (by omega) (fun x hx => by have := hd.2 x hx; omega)) ?_)
  refine Ev.bind (Ev.bind (Array2D_f c d (by omega) hc2) (Ev.now _)) (Ev.bind (SameRows_f c d (by omega) hc2) (Ev.pos (by simp) (Ev.bind awake (Ev.now _))))

theorem FnListEquals (a b : List ByteArray) (c d : List (List ByteArray)) (ha : a.length ≤ 9223372036854775807) (_ : ∀ v ∈ a, v.size ≤ maxLen) (hb : b.length ≤ 9223372036854775807) (_ : ∀ v ∈ b, v.size ≤ maxLen)
    (hc : c.length ≤ 9223372036854775807) (hc2' : ∀ v ∈ c, v.length ≤ 9223372036854775807 ∧ ∀ x ∈ v, x.size ≤ maxLen) (hd : d.length ≤ 9223372036854775807) (hd2' : ∀ v ∈ d, v.length ≤ 9223372036854775807 ∧ ∀ x ∈ v, x.size ≤ maxLen) :
    ∃ k, laws_FnListEquals.f k a b c d = some true := by
  have hc2 := fun v hv => (hc2' v hv).1
  have hd2 := fun v hv => (hd2' v hv).1
  refine Ev.rounds (g := fun k => laws_FnListEquals.f k a b c d) ?_
  have j0_true : Ev (fun k => laws_FnListEquals.j0 k a b c d true) true := Ev.step (fun _ => laws_FnListEquals.j0.eq_2 _ _ _ _ _ _) (Ev.pos rfl (Ev.now _))
  have j0_false : Ev (fun k => laws_FnListEquals.j0 k a b c d false) true := by
    refine Ev.step (fun _ => laws_FnListEquals.j0.eq_2 _ _ _ _ _ _) (Ev.neg (by simp) ?_)
    refine Ev.bind (Ev.const (texts_f a)) ?_
    by_cases h1 : a.length ≤ 20
    · refine Ev.pos (by simpa using h1) (Ev.bind (Ev.const (texts_f b)) ?_)
      by_cases h2 : b.length ≤ 20
      · refine Ev.pos (by simpa using h2) ?_
        obtain ⟨x, hx, hx2⟩ := rows_f c hc
        refine Ev.bind hx ?_
        cases x with
        | false => exact Ev.neg (by simp) (j1_true a b c d)
        | true =>
          refine Ev.pos rfl ?_
          obtain ⟨y, hy, hy2⟩ := rows_f d hd
          refine Ev.bind hy ?_
          cases y with
          | false => exact j1_true a b c d
          | true => exact j1_false a b c d h1 h2 (hx2 rfl) (hy2 rfl)
      · exact Ev.neg (by simpa using h2) (j1_true a b c d)
    · exact Ev.neg (by simpa using h1) (j1_true a b c d)
  obtain ⟨x1, h1⟩ := zzFits10_f a ha
  refine Ev.bind h1 ?_
  cases x1
  · exact Ev.neg (by simp) j0_true
  refine Ev.pos rfl ?_
  obtain ⟨x1, h1⟩ := zzFits10_f b hb
  refine Ev.bind h1 ?_
  cases x1
  · exact Ev.neg (by simp) j0_true
  refine Ev.pos rfl ?_
  obtain ⟨x1, h1⟩ := zzFits11_f c hc hc2
  refine Ev.bind h1 ?_
  cases x1
  · exact Ev.neg (by simp) j0_true
  refine Ev.pos rfl ?_
  obtain ⟨x1, h1⟩ := zzFits11_f d hd hd2
  refine Ev.bind h1 ?_
  cases x1
  · exact j0_true
  · exact j0_false

end Go.Proofs.Ytnbcohabllkneaa.Pure
