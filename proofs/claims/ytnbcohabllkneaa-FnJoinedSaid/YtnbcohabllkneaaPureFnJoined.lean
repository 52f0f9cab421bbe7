/- For every text and every list of texts: laws.FnJoined answers true (the plain statement behind its walk); lengths are those that an int can hold. -/
import Derived.Test.YtnbcohabllkneaaOFnJoinedx4
import Derived.Test.YtnbcohabllkneaaBase
set_option linter.unusedSimpArgs false
set_option linter.unusedVariables false
namespace Go.Proofs.Ytnbcohabllkneaa.Pure
open Go.RowKit Go.Proofs.Ytnbcohabllkneaa.PFnJoined Go.Proofs.YtnbcohabllkneaaW.PrintWords Go.Proofs.YtnbcohabllkneaaW.PrintLast Go.Proofs.Ytnbcohabllkneaa.Base

theorem awake : Ev laws_awakeUtil.f true := Ev.of laws_awakeUtil.mono (k := 30) (by decide +kernel)

theorem zzFits10_loop (q : List ByteArray) : ∀ p : List ByteArray, p.length + q.length ≤ 9223372036854775807 → ∃ b, Ev (fun k => laws_zzFits10.l0 k (p ++ q) (((p ++ q).length : Nat) : Int) (p.length : Int)) b := by
  induction q with
  | nil => intro p _; exact ⟨_, Ev.step (fun _ => laws_zzFits10.l0.eq_2 _ _ _ _) (Ev.neg (by simp) (Ev.now _))⟩
  | cons c q ih =>
    intro p hp
    simp only [List.length_cons] at hp
    obtain ⟨b, hb⟩ := ih (p ++ [c]) (by simp <;> omega)
    by_cases h : (c.size : Int) > 2147483647
    · exact ⟨_, Ev.step (fun _ => laws_zzFits10.l0.eq_2 _ _ _ _) (Ev.pos (by simp <;> omega) (Ev.pos (by omega) (Ev.pos (by simp <;> omega) (Ev.pos (by rw [rdOf_mid _ p q c _ rfl]; exact h) (Ev.now _)))))⟩
    · refine ⟨b, Ev.step (fun _ => laws_zzFits10.l0.eq_2 _ _ _ _) (Ev.pos (by simp <;> omega) (Ev.pos (by omega) (Ev.pos (by simp <;> omega) (Ev.neg (by rw [rdOf_mid _ p q c _ rfl]; exact h) ?_))))⟩
      rw [w64 (by omega) (by omega)]
      simpa using hb
theorem zzFits10_f (l : List ByteArray) (h : l.length ≤ 9223372036854775807) : ∃ b, Ev (fun k => laws_zzFits10.f k l) b := by
  by_cases g : (l.length : Int) > 2147483647
  · exact ⟨_, Ev.pos g (Ev.now _)⟩
  · obtain ⟨b, hb⟩ := zzFits10_loop l [] (by simpa using h)
    exact ⟨b, Ev.neg g hb⟩
theorem copied_f (l : List ByteArray) (h : l.length ≤ 20) : Ev (fun _ => laws_copied.f l) l := by
  unfold laws_copied.f
  refine Ev.bind (Ev.now ([] : List ByteArray)) (Ev.pos (by simp <;> omega) ?_)
  exact Ev.now _
theorem texts_f (l : List ByteArray) : laws_texts.f l = some (decide (l.length ≤ 20)) := by
  unfold laws_texts.f
  congr 1
  rw [Bool.eq_iff_iff]
  simp
  omega
theorem SameList_loop (q : List ByteArray) : ∀ (p q' : List ByteArray), q.length = q'.length → p.length + q.length ≤ 9223372036854775807 →
    Ev (fun k => spec_SameList.l0 k (p ++ q) (p ++ q') (p.length : Int)) (decide (q = q')) := by
  induction q with
  | nil =>
    intro p q' h _
    cases q' with
    | nil => exact Ev.step (fun _ => spec_SameList.l0.eq_2 _ _ _ _) (Ev.neg (by simp) (Ev.now _))
    | cons _ _ => simp at h
  | cons c q ih =>
    intro p q' h hp
    cases q' with
    | nil => simp at h
    | cons d q' =>
      simp only [List.length_cons] at hp h
      refine Ev.step (fun _ => spec_SameList.l0.eq_2 _ _ _ _) (Ev.pos (by simp <;> omega) (Ev.pos (by omega) (Ev.pos (by simp <;> omega) ?_)))
      rw [rdOf_mid _ p q c _ rfl, rdOf_mid _ p q' d _ rfl, w64 (by omega) (by omega)]
      by_cases e : c = d
      · subst e
        refine Ev.pos rfl ?_
        have := ih (p ++ [c]) q' (by omega) (by simp <;> omega)
        simpa using this
      · refine Ev.neg (fun x => e ((toList_iff _ _).1 x)) ?_
        rw [show decide (c :: q = d :: q') = false from by simp [e]]
        exact Ev.now _
theorem SameList_f (l m : List ByteArray) (h : l.length ≤ 9223372036854775807) : Ev (fun k => spec_SameList.f k l m) (decide (l = m)) := by
  by_cases g : (l.length : Int) = (m.length : Int)
  · exact Ev.pos g (SameList_loop l [] m (by omega) (by simpa using h))
  · rw [show decide (l = m) = false from by simp; rintro rfl; exact g rfl]
    exact Ev.neg g (Ev.now _)

theorem zzFits10_loopS (q : List ByteArray) : ∀ p : List ByteArray, p.length + q.length ≤ 9223372036854775807 → ∃ b, Ev (fun k => laws_zzFits10.l0 k (p ++ q) (((p ++ q).length : Nat) : Int) (p.length : Int)) b ∧ (b = true → ∀ v ∈ q, v.size ≤ 2147483647) := by
  induction q with
  | nil => intro p _; exact ⟨_, Ev.step (fun _ => laws_zzFits10.l0.eq_2 _ _ _ _) (Ev.neg (by simp) (Ev.now _)), by simp⟩
  | cons c q ih =>
    intro p hp
    simp only [List.length_cons] at hp
    obtain ⟨b, hb, hs⟩ := ih (p ++ [c]) (by simp <;> omega)
    by_cases h : (c.size : Int) > 2147483647
    · exact ⟨_, Ev.step (fun _ => laws_zzFits10.l0.eq_2 _ _ _ _) (Ev.pos (by simp <;> omega) (Ev.pos (by omega) (Ev.pos (by simp <;> omega) (Ev.pos (by rw [rdOf_mid _ p q c _ rfl]; exact h) (Ev.now _))))), by simp⟩
    · refine ⟨b, Ev.step (fun _ => laws_zzFits10.l0.eq_2 _ _ _ _) (Ev.pos (by simp <;> omega) (Ev.pos (by omega) (Ev.pos (by simp <;> omega) (Ev.neg (by rw [rdOf_mid _ p q c _ rfl]; exact h) ?_)))), ?_⟩
      · rw [w64 (by omega) (by omega)]
        simpa using hb
      · intro hb v hv
        rcases List.mem_cons.1 hv with rfl | hv
        · omega
        · exact hs hb v hv
theorem zzFits10_s (l : List ByteArray) (h : l.length ≤ 9223372036854775807) : ∃ b, Ev (fun k => laws_zzFits10.f k l) b ∧ (b = true → ∀ v ∈ l, v.size ≤ 2147483647) := by
  by_cases g : (l.length : Int) > 2147483647
  · exact ⟨_, Ev.pos g (Ev.now _), by simp⟩
  · obtain ⟨b, hb, hs⟩ := zzFits10_loopS l [] (by simpa using h)
    exact ⟨b, Ev.neg g hb, hs⟩
/-- texts, each behind a comma and a blank -/
def behind (q : List ByteArray) : List UInt8 := (q.map fun x => [44, 32] ++ x.data.toList).flatten
theorem behind_nil : behind [] = [] := rfl
theorem behind_cons (c : ByteArray) (q : List ByteArray) : behind (c :: q) = [44, 32] ++ c.data.toList ++ behind q := by simp [behind]
theorem behind_length : ∀ q : List ByteArray, (∀ v ∈ q, v.size ≤ 2147483647) → (behind q).length ≤ q.length * 2147483649
  | [], _ => by simp [behind]
  | c :: q, h => by
    have h1 := behind_length q (fun v hv => h v (List.mem_cons_of_mem _ hv))
    have h2 := h c (List.mem_cons_self ..)
    have h3 : c.data.toList.length = c.size := by simp
    rw [behind_cons]
    simp only [List.length_append, List.length_cons, List.length_nil, h3]
    omega
theorem inter (c : ByteArray) (q : List ByteArray) : Lib.join ((c :: q).map (·.data.toList)) [44, 32] = c.data.toList ++ behind q := by
  unfold Lib.join
  induction q generalizing c with
  | nil => simp [List.intercalate, behind]
  | cons d q ih =>
    have e := ih d
    simp only [List.map_cons, List.intercalate, List.intersperse] at e ⊢
    simp only [List.flatten_cons, behind_cons]
    rw [e]
    simp
theorem Joined_loop (q : List ByteArray) : ∀ (p : List ByteArray) (s : List UInt8), 0 < p.length → p.length + q.length ≤ 20 → (∀ v ∈ q, v.size ≤ 2147483647) → s.length ≤ p.length * 2147483649 →
    Ev (fun k => spec_Joined.l0 k (p ++ q) (B [44, 32]) (B s) (p.length : Int)) (B (s ++ behind q)) := by
  induction q with
  | nil =>
    intro p s _ _ _ _
    refine Ev.step (fun _ => spec_Joined.l0.eq_2 _ _ _ _ _) (Ev.neg (by simp) ?_)
    simp only [behind_nil, List.append_nil]
    exact Ev.now _
  | cons c q ih =>
    intro p s h0 hp hs hl
    simp only [List.length_cons] at hp
    have hc := hs c (List.mem_cons_self ..)
    have h3 : c.data.toList.length = c.size := by simp
    refine Ev.step (fun _ => spec_Joined.l0.eq_2 _ _ _ _ _) (Ev.pos (by simp <;> omega) (Ev.pos (by omega) (Ev.pos (by rw [B_size, B_size]; simp; omega) (Ev.pos (by omega) ?_))))
    rw [rdOf_mid _ p q c _ rfl, w64 (by omega) (by omega), B_app, show B (s ++ [44, 32]) ++ c = B (s ++ [44, 32] ++ c.data.toList) from by conv => { lhs; rw [← B_data c] }; rw [B_app]]
    refine Ev.pos (by rw [B_size]; simp; omega) ?_
    have := ih (p ++ [c]) (s ++ [44, 32] ++ c.data.toList) (by simp) (by simp <;> omega) (fun v hv => hs v (List.mem_cons_of_mem _ hv)) (by simp only [List.length_append, List.length_cons, List.length_nil, h3]; omega)
    rw [behind_cons]
    simp only [List.append_assoc, List.cons_append, List.nil_append, List.length_append, List.length_cons, List.length_nil] at this ⊢
    simpa using this
theorem Joined_f (l : List ByteArray) (h : l.length ≤ 20) (hs : ∀ v ∈ l, v.size ≤ 2147483647) : Ev (fun k => spec_Joined.f k l (B [44, 32])) (B (Lib.join (l.map (·.data.toList)) [44, 32])) := by
  unfold spec_Joined.f
  cases l with
  | nil => exact Ev.step (fun _ => spec_Joined.l0.eq_2 _ _ _ _ _) (Ev.neg (by simp) (Ev.now _))
  | cons c q =>
    rw [inter]
    have hc := hs c (List.mem_cons_self ..)
    have h3 : c.data.toList.length = c.size := by simp
    simp only [List.length_cons] at h
    refine Ev.step (fun _ => spec_Joined.l0.eq_2 _ _ _ _ _) (Ev.pos (by simp <;> omega) (Ev.neg (by omega) (Ev.pos (by omega) ?_)))
    have e : rdOf ByteArray.empty (c :: q) 0 = c := rfl
    rw [e, w64 (by omega) (by omega), B_nil, show B [] ++ c = B (c.data.toList) from by conv => { lhs; rw [← B_data c] }; rw [B_app]; rfl]
    refine Ev.pos (by show 0 + c.size ≤ _; omega) ?_
    have := Joined_loop q [c] c.data.toList (by simp) (by simp <;> omega) (fun v hv => hs v (List.mem_cons_of_mem _ hv)) (by simp only [List.length_cons, List.length_nil, h3]; omega)
    simpa using this
theorem Join_f (l : List ByteArray) (h : l.length ≤ 20) (hs : ∀ v ∈ l, v.size ≤ 2147483647) : strings_Join.f l (B [44, 32]) = some (B (Lib.join (l.map (·.data.toList)) [44, 32])) := by
  unfold strings_Join.f
  rw [data_B, if_pos]
  · rfl
  · refine ⟨by omega, ?_⟩
    cases l with
    | nil => show 0 ≤ _; omega
    | cons c q =>
      rw [inter]
      have hc := hs c (List.mem_cons_self ..)
      have hb := behind_length q (fun v hv => hs v (List.mem_cons_of_mem _ hv))
      have h3 : c.data.toList.length = c.size := by simp
      simp only [List.length_cons] at h
      simp only [List.length_append, h3]
      omega

theorem FnJoined (a : ByteArray) (b : List ByteArray) (ha : a.size ≤ 140737488351232) (hb : b.length ≤ 9223372036854775807) (hb2 : ∀ v ∈ b, v.size ≤ maxLen) :
    ∃ k, laws_FnJoined.f k a b = some true := by
  refine Ev.rounds (g := fun k => laws_FnJoined.f k a b) ?_
  have j0_true : Ev (fun k => laws_FnJoined.j0 k a b true) true := Ev.step (fun _ => laws_FnJoined.j0.eq_2 _ _ _ _) (Ev.pos rfl (Ev.now _))
  have j0_false : (∀ v ∈ b, v.size ≤ 2147483647) → Ev (fun k => laws_FnJoined.j0 k a b false) true := by
    intro hs
    refine Ev.step (fun _ => laws_FnJoined.j0.eq_2 _ _ _ _) (Ev.neg (by simp) (Ev.bind (Ev.const (texts_f b)) ?_))
    by_cases h1 : b.length ≤ 20
    · refine Ev.pos (by simpa using h1) (Ev.bind (copied_f b h1) (Ev.bind (a := B (Lib.join (b.map (·.data.toList)) [44, 32])) ?_ ?_))
      · exact Ev.bind (Ev.bind (Ev.const (Join_f b h1 hs)) (Ev.now _)) (Ev.now _)
      · refine Ev.bind (Joined_f b h1 hs) (Ev.pos rfl (Ev.bind (copied_f b h1) (Ev.bind (a := a :: b) ?_ ?_)))
        · refine Ev.bind (Ev.const ?_) (Ev.now _)
          unfold util_JoinSlice.f
          rw [if_pos (by omega)]
        · refine Ev.bind (Ev.now _) (Ev.pos (by simp; omega) ?_)
          refine Ev.bind (SameList_f _ _ (by simp; omega)) (Ev.pos (by simp) (Ev.bind awake (Ev.now _)))
    · exact Ev.neg (by simpa using h1) (Ev.bind awake (Ev.now _))
  by_cases g : (a.size : Int) > 2147483647
  · exact Ev.pos g j0_true
  refine Ev.neg g ?_
  obtain ⟨x1, h1, hs⟩ := zzFits10_s b hb
  refine Ev.bind h1 ?_
  cases x1
  · exact j0_true
  · exact j0_false (hs rfl)

end Go.Proofs.Ytnbcohabllkneaa.Pure
