/- For every list of rows of texts: laws.FnRowsSorted answers true (the plain statement behind its walk); lengths are those that an int can hold. -/
import Derived.Test.YthmkbojkhoaolaaOFnRowsSortedx5
import Derived.Test.YthmkbojkhoaolaaBase
set_option linter.unusedSimpArgs false
set_option linter.unusedVariables false
namespace Go.Proofs.Ythmkbojkhoaolaa.Pure
open Go.RowKit Go.Proofs.Ythmkbojkhoaolaa.PFnRowsSorted Go.Proofs.YthmkbojkhoaolaaW.PrintWords Go.Proofs.YthmkbojkhoaolaaW.PrintLast Go.Proofs.Ythmkbojkhoaolaa.Base

theorem awake : Ev laws_awakeUtil.f true := Ev.of laws_awakeUtil.mono (k := 30) (by decide +kernel)

theorem SameList_loop (q : List ByteArray) : ∀ (p q' : List ByteArray), q.length = q'.length → p.length + q.length ≤ 9223372036854775807 →
    Ev (fun k => spec_SameList.l0 k (p ++ q) (p ++ q') (p.length : Int)) (decide (q = q')) := by
  induction q with
  | nil =>
    intro p q' h _
    cases q' with
    | nil => exact Ev.step (fun _ => spec_SameList.l0.eq_2 _ _ _ _) (Ev.neg (by simp) (Ev.now _))
    | cons _ _ => simp at h
  | cons c q ih =>
    intro p q' h hp
    cases q' with
    | nil => simp at h
    | cons d q' =>
      simp only [List.length_cons] at hp h
      refine Ev.step (fun _ => spec_SameList.l0.eq_2 _ _ _ _) (Ev.pos (by simp <;> omega) (Ev.pos (by omega) (Ev.pos (by simp <;> omega) ?_)))
      rw [rdOf_mid _ p q c _ rfl, rdOf_mid _ p q' d _ rfl, w64 (by omega) (by omega)]
      by_cases e : c = d
      · subst e
        refine Ev.pos rfl ?_
        have := ih (p ++ [c]) q' (by omega) (by simp <;> omega)
        simpa using this
      · refine Ev.neg (fun x => e ((toList_iff _ _).1 x)) ?_
        rw [show decide (c :: q = d :: q') = false from by simp [e]]
        exact Ev.now _
theorem SameList_f (l m : List ByteArray) (h : l.length ≤ 9223372036854775807) : Ev (fun k => spec_SameList.f k l m) (decide (l = m)) := by
  by_cases g : (l.length : Int) = (m.length : Int)
  · exact Ev.pos g (SameList_loop l [] m (by omega) (by simpa using h))
  · rw [show decide (l = m) = false from by simp; rintro rfl; exact g rfl]
    exact Ev.neg g (Ev.now _)

theorem zzFits10_loop (q : List ByteArray) : ∀ p : List ByteArray, p.length + q.length ≤ 9223372036854775807 → ∃ b, Ev (fun k => laws_zzFits10.l0 k (p ++ q) (((p ++ q).length : Nat) : Int) (p.length : Int)) b := by
  induction q with
  | nil => intro p _; exact ⟨_, Ev.step (fun _ => laws_zzFits10.l0.eq_2 _ _ _ _) (Ev.neg (by simp) (Ev.now _))⟩
  | cons c q ih =>
    intro p hp
    simp only [List.length_cons] at hp
    obtain ⟨b, hb⟩ := ih (p ++ [c]) (by simp <;> omega)
    by_cases h : (c.size : Int) > 2147483647
    · exact ⟨_, Ev.step (fun _ => laws_zzFits10.l0.eq_2 _ _ _ _) (Ev.pos (by simp <;> omega) (Ev.pos (by omega) (Ev.pos (by simp <;> omega) (Ev.pos (by rw [rdOf_mid _ p q c _ rfl]; exact h) (Ev.now _)))))⟩
    · refine ⟨b, Ev.step (fun _ => laws_zzFits10.l0.eq_2 _ _ _ _) (Ev.pos (by simp <;> omega) (Ev.pos (by omega) (Ev.pos (by simp <;> omega) (Ev.neg (by rw [rdOf_mid _ p q c _ rfl]; exact h) ?_))))⟩
      rw [w64 (by omega) (by omega)]
      simpa using hb
theorem zzFits10_f (l : List ByteArray) (h : l.length ≤ 9223372036854775807) : ∃ b, Ev (fun k => laws_zzFits10.f k l) b := by
  by_cases g : (l.length : Int) > 2147483647
  · exact ⟨_, Ev.pos g (Ev.now _)⟩
  · obtain ⟨b, hb⟩ := zzFits10_loop l [] (by simpa using h)
    exact ⟨b, Ev.neg g hb⟩

theorem copied_f (l : List ByteArray) (h : l.length ≤ 20) : Ev (fun _ => laws_copied.f l) l := by
  unfold laws_copied.f
  refine Ev.bind (Ev.now ([] : List ByteArray)) (Ev.pos (by simp <;> omega) ?_)
  exact Ev.now _

theorem rd_L1_mid (p q : List (List ByteArray)) (c : List ByteArray) (i : Int) (h : i = (p.length : Int)) : rd_L1 (p ++ c :: q) i = c := getD_mid _ p q c i h
theorem rows_loop (q : List (List ByteArray)) : ∀ p : List (List ByteArray), p.length + q.length ≤ 9223372036854775807 → ∃ b, Ev (fun k => laws_rows.l0 k (p ++ q) (p.length : Int)) b ∧ (b = true → (p ++ q).length ≤ 10 ∧ ∀ x ∈ q, x.length ≤ 8) := by
  induction q with
  | nil =>
    intro p _
    refine ⟨_, Ev.step (fun _ => laws_rows.l0.eq_2 _ _ _) (Ev.neg (by simp) (Ev.now _)), fun h => ⟨?_, fun x hx => by simp at hx⟩⟩
    simp at h ⊢
    omega
  | cons c q ih =>
    intro p hp
    simp only [List.length_cons] at hp
    by_cases h : (c.length : Int) > 8
    · exact ⟨_, Ev.step (fun _ => laws_rows.l0.eq_2 _ _ _) (Ev.pos (by simp <;> omega) (Ev.pos (by omega) (Ev.pos (by rw [rd_L1_mid p q c _ rfl]; exact h) (Ev.now _)))), fun e => by cases e⟩
    · obtain ⟨b, hb, hq⟩ := ih (p ++ [c]) (by simp <;> omega)
      refine ⟨b, Ev.step (fun _ => laws_rows.l0.eq_2 _ _ _) (Ev.pos (by simp <;> omega) (Ev.pos (by omega) (Ev.neg (by rw [rd_L1_mid p q c _ rfl]; exact h) ?_))), fun e => ?_⟩
      · rw [w64 (by omega) (by omega)]
        simpa using hb
      · obtain ⟨h1, h2⟩ := hq e
        refine ⟨by simpa using h1, fun x hx => ?_⟩
        rcases List.mem_cons.1 hx with rfl | hx
        · omega
        · exact h2 x hx
theorem rows_f (l : List (List ByteArray)) (h : l.length ≤ 9223372036854775807) : ∃ b, Ev (fun k => laws_rows.f k l) b ∧ (b = true → l.length ≤ 10 ∧ ∀ x ∈ l, x.length ≤ 8) := by
  by_cases g : (l.length : Int) > 10
  · exact ⟨_, Ev.pos g (Ev.now _), fun e => by cases e⟩
  · obtain ⟨b, hb, hq⟩ := rows_loop l [] (by simpa using h)
    exact ⟨b, Ev.neg g hb, fun e => by simpa using hq e⟩
theorem copiedRows_loop (q : List (List ByteArray)) (hq : ∀ x ∈ q, x.length ≤ 20) : ∀ p : List (List ByteArray), p.length + q.length ≤ 1000 →
    Ev (fun k => laws_copiedRows.l0 k (p ++ q) p (p.length : Int)) (p ++ q) := by
  induction q with
  | nil =>
    intro p _
    refine Ev.step (fun _ => laws_copiedRows.l0.eq_2 _ _ _ _) (Ev.neg (by simp) ?_)
    rw [List.append_nil]
    exact Ev.now _
  | cons c q ih =>
    intro p hp
    simp only [List.length_cons] at hp
    refine Ev.step (fun _ => laws_copiedRows.l0.eq_2 _ _ _ _) (Ev.pos (by simp <;> omega) (Ev.pos (by omega) ?_))
    rw [rd_L1_mid p q c _ rfl, w64 (by omega) (by omega)]
    refine Ev.bind (copied_f c (hq c (by simp))) (Ev.pos (by omega) ?_)
    have := ih (fun x hx => hq x (by simp [hx])) (p ++ [c]) (by simp <;> omega)
    simpa using this
theorem copiedRows_f (l : List (List ByteArray)) (h : l.length ≤ 1000) (hl : ∀ x ∈ l, x.length ≤ 20) : Ev (fun k => laws_copiedRows.f k l) l := copiedRows_loop l hl [] (by simpa using h)

theorem tables_f (l : List (List ByteArray)) (h : l.length ≤ 1000) (hl : ∀ x ∈ l, x.length ≤ 20) : Ev (fun k => impl_tables.f k l) l := by
  have cp : ∀ l : List ByteArray, l.length ≤ 20 → Ev (fun _ => impl_texts.f l) l := by
    intro l h
    unfold impl_texts.f
    exact Ev.bind (Ev.now ([] : List ByteArray)) (Ev.pos (by simp <;> omega) (Ev.now _))
  have loop : ∀ (q p : List (List ByteArray)), (∀ x ∈ q, x.length ≤ 20) → p.length + q.length ≤ 1000 → Ev (fun k => impl_tables.l0 k (p ++ q) p (p.length : Int)) (p ++ q) := by
    intro q
    induction q with
    | nil =>
      intro p _ _
      refine Ev.step (fun _ => impl_tables.l0.eq_2 _ _ _ _) (Ev.neg (by simp) ?_)
      rw [List.append_nil]
      exact Ev.now _
    | cons c q ih =>
      intro p hq hp
      simp only [List.length_cons] at hp
      refine Ev.step (fun _ => impl_tables.l0.eq_2 _ _ _ _) (Ev.pos (by simp <;> omega) (Ev.pos (by omega) ?_))
      rw [rd_L1_mid p q c _ rfl, w64 (by omega) (by omega)]
      refine Ev.bind (cp c (hq c (by simp))) (Ev.pos (by omega) ?_)
      have := ih (p ++ [c]) (fun x hx => hq x (by simp [hx])) (by simp <;> omega)
      simpa using this
  exact loop l [] hl (by simpa using h)

theorem zzFits11_loop (q : List (List ByteArray)) (hq : ∀ x ∈ q, x.length ≤ 9223372036854775807) : ∀ p : List (List ByteArray), p.length + q.length ≤ 9223372036854775807 → ∃ b, Ev (fun k => laws_zzFits11.l0 k (p ++ q) (((p ++ q).length : Nat) : Int) (p.length : Int)) b := by
  induction q with
  | nil => intro p _; exact ⟨_, Ev.step (fun _ => laws_zzFits11.l0.eq_2 _ _ _ _) (Ev.neg (by simp) (Ev.now _))⟩
  | cons c q ih =>
    intro p hp
    simp only [List.length_cons] at hp
    obtain ⟨b, hb⟩ := ih (fun x hx => hq x (by simp [hx])) (p ++ [c]) (by simp <;> omega)
    obtain ⟨b1, hb1⟩ := zzFits10_f c (hq c (by simp))
    have hgo : ∀ r, Ev (fun k => if b1 = true then laws_zzFits11.l0 k (p ++ c :: q) (((p ++ c :: q).length : Nat) : Int) (wrap64 ((p.length : Int) + 1)) else some false) r → Ev (fun k => laws_zzFits11.l0 k (p ++ c :: q) (((p ++ c :: q).length : Nat) : Int) (p.length : Int)) r := by
      intro r hr
      refine Ev.step (fun _ => laws_zzFits11.l0.eq_2 _ _ _ _) (Ev.pos (by simp <;> omega) (Ev.pos (by omega) (Ev.pos (by simp <;> omega) ?_)))
      rw [rd_L1_mid p q c _ rfl]
      exact Ev.bind hb1 hr
    cases b1 with
    | true =>
      refine ⟨b, hgo b (Ev.pos rfl ?_)⟩
      rw [w64 (by omega) (by omega)]
      simpa using hb
    | false => exact ⟨_, hgo _ (Ev.neg (by simp) (Ev.now _))⟩
theorem zzFits11_f (l : List (List ByteArray)) (h : l.length ≤ 9223372036854775807) (hl : ∀ x ∈ l, x.length ≤ 9223372036854775807) : ∃ b, Ev (fun k => laws_zzFits11.f k l) b := by
  by_cases g : (l.length : Int) > 2147483647
  · exact ⟨_, Ev.pos g (Ev.now _)⟩
  · obtain ⟨b, hb⟩ := zzFits11_loop l hl [] (by simpa using h)
    exact ⟨b, Ev.neg g hb⟩
theorem SameRows_loop (q : List (List ByteArray)) (hq : ∀ x ∈ q, x.length ≤ 9223372036854775807) : ∀ (p q' : List (List ByteArray)), q.length = q'.length → p.length + q.length ≤ 9223372036854775807 →
    Ev (fun k => spec_SameRows.l0 k (p ++ q) (p ++ q') (p.length : Int)) (decide (q = q')) := by
  induction q with
  | nil =>
    intro p q' h _
    cases q' with
    | nil => exact Ev.step (fun _ => spec_SameRows.l0.eq_2 _ _ _ _) (Ev.neg (by simp) (Ev.now _))
    | cons _ _ => simp at h
  | cons c q ih =>
    intro p q' h hp
    cases q' with
    | nil => simp at h
    | cons d q' =>
      simp only [List.length_cons] at hp h
      refine Ev.step (fun _ => spec_SameRows.l0.eq_2 _ _ _ _) (Ev.pos (by simp <;> omega) (Ev.pos (by omega) (Ev.pos (by simp <;> omega) ?_)))
      rw [rd_L1_mid p q c _ rfl, rd_L1_mid p q' d _ rfl, w64 (by omega) (by omega)]
      refine Ev.bind (SameList_f c d (hq c (by simp))) ?_
      by_cases e : c = d
      · subst e
        refine Ev.pos (by simp) ?_
        have := ih (fun x hx => hq x (by simp [hx])) (p ++ [c]) q' (by omega) (by simp <;> omega)
        simpa using this
      · refine Ev.neg (by simpa using e) ?_
        rw [show decide (c :: q = d :: q') = false from by simp [e]]
        exact Ev.now _
theorem SameRows_f (l m : List (List ByteArray)) (h : l.length ≤ 9223372036854775807) (hl : ∀ x ∈ l, x.length ≤ 9223372036854775807) : Ev (fun k => spec_SameRows.f k l m) (decide (l = m)) := by
  by_cases g : (l.length : Int) = (m.length : Int)
  · exact Ev.pos g (SameRows_loop l hl [] m (by omega) (by simpa using h))
  · rw [show decide (l = m) = false from by simp; rintro rfl; exact g rfl]
    exact Ev.neg g (Ev.now _)

theorem level_loop (l : List (List ByteArray)) (h : l.length ≤ 9223372036854775807) : ∀ (q p : List (List ByteArray)), l = p ++ q → ∃ b, Ev (fun k => laws_level.l0 k l (p.length : Int)) b := by
  intro q
  induction q with
  | nil =>
    intro p hp
    have hl : l.length = p.length := by rw [hp]; simp
    exact ⟨_, Ev.step (fun _ => laws_level.l0.eq_2 _ _ _) (Ev.neg (by omega) (Ev.now _))⟩
  | cons c q ih =>
    intro p hp
    have hl : l.length = p.length + (q.length + 1) := by rw [hp]; simp
    obtain ⟨b, hb⟩ := ih (p ++ [c]) (by rw [hp]; simp)
    by_cases e : ((rd_L1 l (p.length : Int)).length : Int) = ((rd_L1 l 0).length : Int)
    · refine ⟨b, Ev.step (fun _ => laws_level.l0.eq_2 _ _ _) (Ev.pos (by omega) (Ev.pos (by omega) (Ev.pos (by omega) (Ev.pos e ?_))))⟩
      rw [w64 (by omega) (by omega)]
      simpa using hb
    · exact ⟨_, Ev.step (fun _ => laws_level.l0.eq_2 _ _ _) (Ev.pos (by omega) (Ev.pos (by omega) (Ev.pos (by omega) (Ev.neg e (Ev.now _)))))⟩
theorem level_f (l : List (List ByteArray)) (h : l.length ≤ 9223372036854775807) : ∃ b, Ev (fun k => laws_level.f k l) b := level_loop l h l [] rfl
theorem sortR_mem {l : List (List ByteArray)} {x : List ByteArray} (h : x ∈ sortR l) : x ∈ l := (sortR_perm l).mem_iff.1 h
theorem SortArray_f (l : List (List ByteArray)) (h : l.length ≤ 1000) (hl : ∀ x ∈ l, x.length ≤ 20) : Ev (fun k => impl_SortArray2D.f k l) (sortR l) := by
  unfold impl_SortArray2D.f
  refine Ev.bind (tables_f l h hl) (Ev.bind (a := ()) (Ev.const ?_) (Ev.now _))
  unfold util_SortArray2D.f
  rw [if_pos (by omega)]
theorem FnRowsSorted (l : List (List ByteArray)) (h : l.length ≤ 9223372036854775807) (h2' : ∀ v ∈ l, v.length ≤ 9223372036854775807 ∧ ∀ x ∈ v, x.size ≤ maxLen) : ∃ k, laws_FnRowsSorted.f k l = some true := by
  have h2 := fun v hv => (h2' v hv).1
  refine Ev.rounds (g := fun k => laws_FnRowsSorted.f k l) ?_
  unfold laws_FnRowsSorted.f
  obtain ⟨x1, e1⟩ := zzFits11_f l h h2
  refine Ev.bind e1 ?_
  cases x1
  · exact Ev.neg (by simp) (Ev.now _)
  refine Ev.pos rfl ?_
  obtain ⟨x2, e2, hr⟩ := rows_f l h
  refine Ev.bind e2 ?_
  cases x2
  · exact Ev.neg (by simp) (Ev.bind awake (Ev.now _))
  refine Ev.pos rfl ?_
  obtain ⟨h10, h8⟩ := hr rfl
  obtain ⟨x3, e3⟩ := level_f l h
  refine Ev.bind e3 ?_
  cases x3
  · exact Ev.neg (by simp) (Ev.bind awake (Ev.now _))
  refine Ev.pos rfl ?_
  have h20 : ∀ x ∈ l, x.length ≤ 20 := fun x hx => by have := h8 x hx; omega
  have hs20 : ∀ x ∈ sortR l, x.length ≤ 20 := fun x hx => h20 x (sortR_mem hx)
  have hsm : ∀ x ∈ sortR l, x.length ≤ 9223372036854775807 := fun x hx => by have := hs20 x hx; omega
  have hsl : (sortR l).length = l.length := sortR_length l
  refine Ev.bind (copiedRows_f l (by omega) h20) (Ev.bind (SortArray_f l (by omega) h20) (Ev.bind (a := sortR l) (Ev.const ?_) ?_))
  · unfold spec_SortedRows.f
    rw [if_pos (by omega)]
  refine Ev.bind (SameRows_f (sortR l) (sortR l) (by omega) hsm) (Ev.pos (by simp) ?_)
  have e : sortR (sortR l) = sortR l := (sortR_unique (List.Perm.refl _) (sortR_sorted l)).symm
  refine Ev.bind (copiedRows_f (sortR l) (by omega) hs20) (Ev.bind (SortArray_f (sortR l) (by omega) hs20) ?_)
  rw [e]
  exact Ev.bind (SameRows_f (sortR l) (sortR l) (by omega) hsm) (Ev.pos (by simp) (Ev.bind awake (Ev.now _)))

end Go.Proofs.Ythmkbojkhoaolaa.Pure
