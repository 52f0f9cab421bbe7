/- For every text: laws.FnEvals answers true (the plain statement behind its walk). No condition beyond the form's own sizes. -/
import Derived.Test.YtnbcohabllkneaaOFnEvalsx5
import Derived.Test.YtnbcohabllkneaaBase
set_option linter.unusedSimpArgs false
set_option linter.unusedVariables false
namespace Go.Proofs.Ytnbcohabllkneaa.Pure
open Go.RowKit Go.Proofs.Ytnbcohabllkneaa.PFnEvals Go.Proofs.YtnbcohabllkneaaW.PrintWords Go.Proofs.YtnbcohabllkneaaW.PrintLast Go.Proofs.Ytnbcohabllkneaa.Base

theorem awake : Ev laws_awakeUtil.f true := Ev.of laws_awakeUtil.mono (k := 30) (by decide +kernel)

/-- a text of few bytes, each from 1 to 126 -/
def plainText (s : List UInt8) : Prop := s.length ≤ 300 ∧ ∀ c ∈ s, c ≠ 0 ∧ c.toNat ≤ 126
theorem ascii_loop (l : List UInt8) : ∀ p : List UInt8, p.length + l.length ≤ 140737488351232 → ∃ b, Ev (fun k => laws_ascii.l0 k (B (p ++ l)) (p.length : Int)) b ∧ (b = true → (p ++ l).length ≤ 300 ∧ ∀ c ∈ l, c ≠ 0 ∧ c.toNat ≤ 126) := by
  induction l with
  | nil =>
    intro p _
    refine ⟨_, Ev.step (fun _ => laws_ascii.l0.eq_2 _ _ _) (Ev.neg (by rw [B_size]; simp) (Ev.step (fun _ => laws_ascii.j1.eq_2 _ _ _ _) (Ev.neg (by simp) (Ev.now _)))), fun h => ⟨?_, fun c hc => by cases hc⟩⟩
    rw [B_size, decide_eq_true_eq] at h
    omega
  | cons c l ih =>
    intro p hp
    simp only [List.length_cons] at hp
    obtain ⟨b, hb, hq⟩ := ih (p ++ [c]) (by simp <;> omega)
    simp only [List.append_assoc, List.cons_append, List.nil_append, List.length_append, List.length_cons, List.length_nil] at hb hq
    have hmain : ∃ b, Ev (fun k => laws_ascii.j1 k (B (p ++ c :: l)) (p.length : Int) (decide ((p.length : Int) ≤ 300))) b ∧ (b = true → (p ++ c :: l).length ≤ 300 ∧ ∀ x ∈ c :: l, x ≠ 0 ∧ x.toNat ≤ 126) := by
      by_cases h3 : (p.length : Int) ≤ 300
      · rw [decide_eq_true h3]
        by_cases h0 : (c.toNat : Int) = 0
        · exact ⟨_, Ev.step (fun _ => laws_ascii.j1.eq_2 _ _ _ _) (Ev.pos rfl (Ev.pos (by omega) (Ev.pos (by rw [B_size]; simp <;> omega) (Ev.pos (by rw [bt_mid p l c _ rfl]; exact h0) (Ev.now _))))), fun e => by cases e⟩
        · by_cases h1 : (c.toNat : Int) > 126
          · exact ⟨_, Ev.step (fun _ => laws_ascii.j1.eq_2 _ _ _ _) (Ev.pos rfl (Ev.pos (by omega) (Ev.pos (by rw [B_size]; simp <;> omega) (Ev.neg (by rw [bt_mid p l c _ rfl]; exact h0) (Ev.pos (by rw [bt_mid p l c _ rfl]; exact h1) (Ev.now _)))))), fun e => by cases e⟩
          · refine ⟨b, Ev.step (fun _ => laws_ascii.j1.eq_2 _ _ _ _) (Ev.pos rfl (Ev.pos (by omega) (Ev.pos (by rw [B_size]; simp <;> omega) (Ev.neg (by rw [bt_mid p l c _ rfl]; exact h0) (Ev.neg (by rw [bt_mid p l c _ rfl]; exact h1) ?_))))), fun e => ?_⟩
            · rw [w64 (by omega) (by omega)]
              exact hb
            · obtain ⟨q1, q2⟩ := hq e
              refine ⟨by simp at q1 ⊢; omega, fun x hx => ?_⟩
              rcases List.mem_cons.1 hx with rfl | hx
              · exact ⟨fun e => h0 (by rw [e]; rfl), by omega⟩
              · exact q2 x hx
      · rw [decide_eq_false h3]
        refine ⟨_, Ev.step (fun _ => laws_ascii.j1.eq_2 _ _ _ _) (Ev.neg (by simp) (Ev.now _)), fun h => ?_⟩
        rw [B_size, decide_eq_true_eq] at h
        simp at h
        omega
    obtain ⟨b', hb', hq'⟩ := hmain
    exact ⟨b', Ev.step (fun _ => laws_ascii.l0.eq_2 _ _ _) (Ev.pos (by rw [B_size]; simp <;> omega) hb'), hq'⟩
theorem ascii_f (s : List UInt8) (h : s.length ≤ 140737488351232) : ∃ b, Ev (fun k => laws_ascii.f k (B s)) b ∧ (b = true → plainText s) := by
  obtain ⟨b, hb, hq⟩ := ascii_loop s [] (by simpa using h)
  exact ⟨b, hb, fun e => by simpa [plainText] using hq e⟩

theorem SameList_loop (q : List ByteArray) : ∀ (p q' : List ByteArray), q.length = q'.length → p.length + q.length ≤ 9223372036854775807 →
    Ev (fun k => spec_SameList.l0 k (p ++ q) (p ++ q') (p.length : Int)) (decide (q = q')) := by
  induction q with
  | nil =>
    intro p q' h _
    cases q' with
    | nil => exact Ev.step (fun _ => spec_SameList.l0.eq_2 _ _ _ _) (Ev.neg (by simp) (Ev.now _))
    | cons _ _ => simp at h
  | cons c q ih =>
    intro p q' h hp
    cases q' with
    | nil => simp at h
    | cons d q' =>
      simp only [List.length_cons] at hp h
      refine Ev.step (fun _ => spec_SameList.l0.eq_2 _ _ _ _) (Ev.pos (by simp <;> omega) (Ev.pos (by omega) (Ev.pos (by simp <;> omega) ?_)))
      rw [rdOf_mid _ p q c _ rfl, rdOf_mid _ p q' d _ rfl, w64 (by omega) (by omega)]
      by_cases e : c = d
      · subst e
        refine Ev.pos rfl ?_
        have := ih (p ++ [c]) q' (by omega) (by simp <;> omega)
        simpa using this
      · refine Ev.neg (fun x => e ((toList_iff _ _).1 x)) ?_
        rw [show decide (c :: q = d :: q') = false from by simp [e]]
        exact Ev.now _
theorem SameList_f (l m : List ByteArray) (h : l.length ≤ 9223372036854775807) : Ev (fun k => spec_SameList.f k l m) (decide (l = m)) := by
  by_cases g : (l.length : Int) = (m.length : Int)
  · exact Ev.pos g (SameList_loop l [] m (by omega) (by simpa using h))
  · rw [show decide (l = m) = false from by simp; rintro rfl; exact g rfl]
    exact Ev.neg g (Ev.now _)

/-- a byte of a word -/
def wd (c : UInt8) : Bool := (97 ≤ c && c ≤ 122) || (65 ≤ c && c ≤ 90) || (48 ≤ c && c ≤ 57) || c == 95
theorem wd_int (c : UInt8) : wd c = decide ((97 ≤ (c.toNat : Int) ∧ (c.toNat : Int) ≤ 122) ∨ (65 ≤ (c.toNat : Int) ∧ (c.toNat : Int) ≤ 90) ∨ (48 ≤ (c.toNat : Int) ∧ (c.toNat : Int) ≤ 57) ∨ (c.toNat : Int) = 95) := by
  rw [Bool.eq_iff_iff]
  simp only [wd, Bool.or_eq_true, Bool.and_eq_true, decide_eq_true_eq, beq_iff_eq, UInt8.le_iff_toNat_le, ← UInt8.toNat_inj]
  simp only [show (97 : UInt8).toNat = 97 from rfl, show (122 : UInt8).toNat = 122 from rfl, show (65 : UInt8).toNat = 65 from rfl, show (90 : UInt8).toNat = 90 from rfl, show (48 : UInt8).toNat = 48 from rfl, show (57 : UInt8).toNat = 57 from rfl, show (95 : UInt8).toNat = 95 from rfl]
  omega
theorem WordByte_f (c : UInt8) : spec_WordByte.f (c.toNat : Int) = some (wd c) := by
  rw [wd_int]
  generalize (c.toNat : Int) = x
  unfold spec_WordByte.f
  repeat' split
  all_goals (congr 1; rw [Bool.eq_iff_iff]; simp only [beq_iff_eq, decide_eq_true_eq, true_iff]; omega)
theorem zzWord_f (c : UInt8) : util_zzWord.f (c.toNat : Int) = some (wd c) := by
  rw [wd_int]
  generalize (c.toNat : Int) = x
  unfold util_zzWord.f
  repeat' split
  all_goals (congr 1; rw [Bool.eq_iff_iff]; simp only [beq_iff_eq, decide_eq_true_eq, true_iff, iff_true, Bool.false_eq_true, false_iff]; omega)
theorem bt_nat (s : List UInt8) (i : Nat) (x : Int) (h : x = (i : Int)) : bt (B s) x = ((s.getD i 0).toNat : Int) := by
  subst h
  rw [B_bt]
  rfl
/-- a call of eval begins here -/
def opens (s : List UInt8) (i : Nat) : Bool := (s.drop i).take 5 == [101, 118, 97, 108, 40] && !(decide (0 < i) && wd (s.getD (i - 1) 0))
/-- the next closing bracket -/
def shuts : Nat → List UInt8 → Nat → Option Nat
  | 0, _, _ => none
  | m + 1, s, k => if k < s.length then (if s.getD k 0 = 41 then some k else shuts m s (k + 1)) else none
/-- the next call of eval that is closed: where it begins and where its bracket closes -/
def nextEval : Nat → List UInt8 → Nat → Option (Nat × Nat)
  | 0, _, _ => none
  | m + 1, s, i => if i + 5 ≤ s.length then (if opens s i then (match shuts (s.length + 1) s (i + 5) with | some b => some (i, b) | none => nextEval m s (i + 1)) else nextEval m s (i + 1)) else none
theorem shuts_range (m : Nat) (s : List UInt8) : ∀ k b, shuts m s k = some b → k ≤ b ∧ b < s.length := by
  induction m with
  | zero => intro k b h; cases h
  | succ m ih =>
    intro k b h
    unfold shuts at h
    by_cases hk : k < s.length
    · rw [if_pos hk] at h
      by_cases hc : s.getD k 0 = 41
      · rw [if_pos hc] at h; injection h with h; omega
      · rw [if_neg hc] at h; have := ih _ _ h; omega
    · rw [if_neg hk] at h; cases h
theorem nextEval_range (m : Nat) (s : List UInt8) : ∀ i a b, nextEval m s i = some (a, b) → i ≤ a ∧ a + 5 ≤ b ∧ b < s.length := by
  induction m with
  | zero => intro i a b h; cases h
  | succ m ih =>
    intro i a b h
    unfold nextEval at h
    by_cases hi : i + 5 ≤ s.length
    · rw [if_pos hi] at h
      by_cases ho : opens s i = true
      · rw [if_pos ho] at h
        cases hs : shuts (s.length + 1) s (i + 5) with
        | some c =>
          rw [hs] at h
          injection h with h
          injection h with h1 h2
          have := shuts_range _ _ _ _ hs
          omega
        | none => rw [hs] at h; have := ih _ _ _ h; omega
      · rw [if_neg ho] at h; have := ih _ _ _ h; omega
    · rw [if_neg hi] at h; cases h

/-- both scans, at the test of one place -/
theorem evalAt_test (s : List UInt8) (hn : s.length ≤ 1000) (i : Nat) (hi : i + 5 ≤ s.length) {r : Int × Int × Int × Bool} (h : Ev (fun k => spec_evalAt.j1 k (B s) (i : Int) (!opens s i)) r) : Ev (fun k => spec_evalAt.l0 k (B s) (i : Int)) r := by
  have hw : wrap64 ((i : Int) + 5) = (i : Int) + 5 := w64 (by omega) (by omega)
  refine Ev.step (fun _ => spec_evalAt.l0.eq_2 _ _ _) ?_
  rw [hw]
  refine Ev.pos (by rw [B_size]; omega) (Ev.pos (by omega) (Ev.pos (by omega) ?_))
  rw [B_ext, B_toList, show ((i : Int)).toNat = i from by omega, show ((i : Int) + 5).toNat - i = 5 from by omega]
  by_cases h5 : (s.drop i).take 5 = [101, 118, 97, 108, 40]
  · refine Ev.pos h5 ?_
    by_cases h0 : (i : Int) > 0
    · refine Ev.pos h0 ?_
      have hw1 : wrap64 ((i : Int) - 1) = ((i - 1 : Nat) : Int) := by rw [w64 (by omega) (by omega)]; omega
      rw [hw1]
      refine Ev.pos (by omega) (Ev.pos (by rw [B_size]; omega) ?_)
      rw [bt_nat s (i - 1) _ rfl]
      refine Ev.bind (Ev.const (WordByte_f _)) ?_
      have e : (!opens s i) = wd (s.getD (i - 1) 0) := by simp only [opens, h5, beq_self_eq_true, decide_eq_true (show 0 < i by omega), Bool.true_and, Bool.not_not]
      rw [e] at h
      exact h
    · refine Ev.neg h0 ?_
      have e : (!opens s i) = false := by simp only [opens, h5, beq_self_eq_true, decide_eq_false (show ¬ 0 < i by omega), Bool.false_and, Bool.not_false, Bool.true_and, Bool.and_true, Bool.not_true]
      rw [e] at h
      exact h
  · refine Ev.neg h5 ?_
    have e : (!opens s i) = true := by simp [opens, h5]
    rw [e] at h
    exact h
theorem evalAt_inner (s : List UInt8) (hn : s.length ≤ 1000) (i : Nat) (m : Nat) : ∀ k : Nat, s.length < k + m →
    (∀ b, shuts m s k = some b → Ev (fun r => spec_evalAt.l1 r (B s) (i : Int) (k : Int)) ((i : Int), wrap64 ((i : Int) + 5), (b : Int), true)) ∧
    (shuts m s k = none → ∀ r, Ev (fun k => spec_evalAt.l0 k (B s) (wrap64 ((i : Int) + 1))) r → Ev (fun r => spec_evalAt.l1 r (B s) (i : Int) (k : Int)) r) := by
  induction m with
  | zero =>
    intro k hk
    refine ⟨fun b hb => (by cases hb), fun _ r hr => ?_⟩
    exact Ev.step (fun _ => spec_evalAt.l1.eq_2 _ _ _ _) (Ev.neg (by rw [B_size]; omega) hr)
  | succ m ih =>
    intro k hk
    unfold shuts
    by_cases hl : k < s.length
    · rw [if_pos hl]
      by_cases hc : s.getD k 0 = 41
      · rw [if_pos hc]
        refine ⟨fun b hb => ?_, fun h => by cases h⟩
        injection hb with hb
        subst hb
        refine Ev.step (fun _ => spec_evalAt.l1.eq_2 _ _ _ _) (Ev.pos (by rw [B_size]; omega) (Ev.pos (by omega) (Ev.pos (by rw [bt_nat s k _ rfl, hc]; rfl) (Ev.now _))))
      · rw [if_neg hc]
        have hne : ¬ bt (B s) (k : Int) = 41 := by rw [bt_nat s k _ rfl]; exact fun e => hc ((byte_eq _ 41 (by omega)).1 e)
        have hw : wrap64 ((k : Int) + 1) = ((k + 1 : Nat) : Int) := by rw [w64 (by omega) (by omega)]; omega
        obtain ⟨h1, h2⟩ := ih (k + 1) (by omega)
        refine ⟨fun b hb => ?_, fun h r hr => ?_⟩
        · refine Ev.step (fun _ => spec_evalAt.l1.eq_2 _ _ _ _) (Ev.pos (by rw [B_size]; omega) (Ev.pos (by omega) (Ev.neg hne ?_)))
          rw [hw]
          exact h1 b hb
        · refine Ev.step (fun _ => spec_evalAt.l1.eq_2 _ _ _ _) (Ev.pos (by rw [B_size]; omega) (Ev.pos (by omega) (Ev.neg hne ?_)))
          rw [hw]
          exact h2 h r hr
    · rw [if_neg hl]
      refine ⟨fun b hb => (by cases hb), fun _ r hr => ?_⟩
      exact Ev.step (fun _ => spec_evalAt.l1.eq_2 _ _ _ _) (Ev.neg (by rw [B_size]; omega) hr)
theorem evalAt_f (s : List UInt8) (hn : s.length ≤ 1000) (m : Nat) : ∀ i : Nat, i ≤ 2000 → s.length < i + m → Ev (fun k => spec_evalAt.l0 k (B s) (i : Int)) (match nextEval m s i with | some (a, b) => ((a : Int), (a : Int) + 5, (b : Int), true) | none => (0, 0, 0, false)) := by
  induction m with
  | zero =>
    intro i h2 hi
    refine Ev.step (fun _ => spec_evalAt.l0.eq_2 _ _ _) (Ev.neg ?_ (Ev.now _))
    rw [B_size, w64 (by omega) (by omega)]; omega
  | succ m ih =>
    intro i h2 hi
    unfold nextEval
    by_cases h5 : i + 5 ≤ s.length
    · rw [if_pos h5]
      refine evalAt_test s hn i h5 ?_
      have hw : wrap64 ((i : Int) + 1) = ((i + 1 : Nat) : Int) := by rw [w64 (by omega) (by omega)]; omega
      have hw5 : wrap64 ((i : Int) + 5) = ((i + 5 : Nat) : Int) := by rw [w64 (by omega) (by omega)]; omega
      have hr := ih (i + 1) (by omega) (by omega)
      refine Ev.step (fun _ => spec_evalAt.j1.eq_2 _ _ _ _) ?_
      by_cases ho : opens s i = true
      · rw [if_pos ho, ho]
        refine Ev.neg (by simp) ?_
        obtain ⟨h1, h2⟩ := evalAt_inner s hn i (s.length + 1) (i + 5) (by omega)
        rw [hw5]
        cases hs : shuts (s.length + 1) s (i + 5) with
        | some b =>
          have := h1 b hs
          rw [hw5] at this
          exact this
        | none => exact h2 hs _ (by rw [hw]; exact hr)
      · rw [if_neg ho, show opens s i = false from by simpa using ho]
        refine Ev.pos rfl ?_
        rw [hw]
        exact hr
    · rw [if_neg h5]
      refine Ev.step (fun _ => spec_evalAt.l0.eq_2 _ _ _) (Ev.neg ?_ (Ev.now _))
      rw [B_size, w64 (by omega) (by omega)]; omega

/-- the calls of eval from a place on -/
def evs : Nat → List UInt8 → Nat → List (Nat × Nat)
  | 0, _, _ => []
  | m + 1, s, i => match nextEval (s.length + 1) s i with | some (a, b) => (a, b) :: evs m s (b + 1) | none => []
def pairOf (p : Nat × Nat) : S55 := ⟨(p.1 : Int), (p.2 : Int) + 1⟩

theorem zz_test (s : List UInt8) (hn : s.length ≤ 1000) (out : List S55) (i : Nat) (hi : i + 5 ≤ s.length) {r : List S55} (h : Ev (fun k => util_zzEvals.j1 k (B s) out (i : Int) (!opens s i)) r) : Ev (fun k => util_zzEvals.l0 k (B s) out (i : Int)) r := by
  have hw : wrap64 ((i : Int) + 5) = (i : Int) + 5 := w64 (by omega) (by omega)
  refine Ev.step (fun _ => util_zzEvals.l0.eq_2 _ _ _ _) ?_
  rw [hw]
  refine Ev.pos (by rw [B_size]; omega) (Ev.pos (by omega) (Ev.pos (by omega) ?_))
  rw [B_ext, B_toList, show ((i : Int)).toNat = i from by omega, show ((i : Int) + 5).toNat - i = 5 from by omega]
  by_cases h5 : (s.drop i).take 5 = [101, 118, 97, 108, 40]
  · refine Ev.pos h5 ?_
    by_cases h0 : (i : Int) > 0
    · refine Ev.pos h0 ?_
      have hw1 : wrap64 ((i : Int) - 1) = ((i - 1 : Nat) : Int) := by rw [w64 (by omega) (by omega)]; omega
      rw [hw1]
      refine Ev.pos (by omega) (Ev.pos (by rw [B_size]; omega) ?_)
      rw [bt_nat s (i - 1) _ rfl]
      refine Ev.bind (Ev.const (zzWord_f _)) ?_
      have e : (!opens s i) = wd (s.getD (i - 1) 0) := by simp only [opens, h5, beq_self_eq_true, decide_eq_true (show 0 < i by omega), Bool.true_and, Bool.not_not]
      rw [e] at h
      exact h
    · refine Ev.neg h0 ?_
      have e : (!opens s i) = false := by simp only [opens, h5, beq_self_eq_true, decide_eq_false (show ¬ 0 < i by omega), Bool.false_and, Bool.not_false, Bool.true_and, Bool.and_true, Bool.not_true]
      rw [e] at h
      exact h
  · refine Ev.neg h5 ?_
    have e : (!opens s i) = true := by simp [opens, h5]
    rw [e] at h
    exact h
theorem zz_inner (s : List UInt8) (hn : s.length ≤ 1000) (out : List S55) (ho : out.length ≤ 1000) (i : Nat) (m : Nat) : ∀ k : Nat, s.length < k + m →
    (∀ b, shuts m s k = some b → ∀ r, Ev (fun k => util_zzEvals.l0 k (B s) (out ++ [pairOf (i, b)]) ((b + 1 : Nat) : Int)) r → Ev (fun r => util_zzEvals.l1 r (B s) out (i : Int) (k : Int)) r) ∧
    (shuts m s k = none → ∀ r, Ev (fun k => util_zzEvals.l0 k (B s) out (wrap64 ((i : Int) + 1))) r → Ev (fun r => util_zzEvals.l1 r (B s) out (i : Int) (k : Int)) r) := by
  induction m with
  | zero =>
    intro k hk
    refine ⟨fun b hb => (by cases hb), fun _ r hr => ?_⟩
    exact Ev.step (fun _ => util_zzEvals.l1.eq_2 _ _ _ _ _) (Ev.neg (by rw [B_size]; omega) hr)
  | succ m ih =>
    intro k hk
    unfold shuts
    by_cases hl : k < s.length
    · rw [if_pos hl]
      have hw : wrap64 ((k : Int) + 1) = ((k + 1 : Nat) : Int) := by rw [w64 (by omega) (by omega)]; omega
      by_cases hc : s.getD k 0 = 41
      · rw [if_pos hc]
        refine ⟨fun b hb r hr => ?_, fun h => by cases h⟩
        injection hb with hb
        subst hb
        refine Ev.step (fun _ => util_zzEvals.l1.eq_2 _ _ _ _ _) (Ev.pos (by rw [B_size]; omega) (Ev.pos (by omega) (Ev.pos (by rw [bt_nat s k _ rfl, hc]; rfl) (Ev.pos (by omega) ?_))))
        rw [hw]
        exact hr
      · rw [if_neg hc]
        have hne : ¬ bt (B s) (k : Int) = 41 := by rw [bt_nat s k _ rfl]; exact fun e => hc ((byte_eq _ 41 (by omega)).1 e)
        obtain ⟨h1, h2⟩ := ih (k + 1) (by omega)
        refine ⟨fun b hb r hr => ?_, fun h r hr => ?_⟩
        · refine Ev.step (fun _ => util_zzEvals.l1.eq_2 _ _ _ _ _) (Ev.pos (by rw [B_size]; omega) (Ev.pos (by omega) (Ev.neg hne ?_)))
          rw [hw]
          exact h1 b hb r hr
        · refine Ev.step (fun _ => util_zzEvals.l1.eq_2 _ _ _ _ _) (Ev.pos (by rw [B_size]; omega) (Ev.pos (by omega) (Ev.neg hne ?_)))
          rw [hw]
          exact h2 h r hr
    · rw [if_neg hl]
      refine ⟨fun b hb => (by cases hb), fun _ r hr => ?_⟩
      exact Ev.step (fun _ => util_zzEvals.l1.eq_2 _ _ _ _ _) (Ev.neg (by rw [B_size]; omega) hr)
theorem zz_next (s : List UInt8) (hn : s.length ≤ 1000) (out : List S55) (ho : out.length ≤ 1000) (m : Nat) : ∀ i : Nat, i ≤ 2000 → s.length < i + m →
    (∀ a b, nextEval m s i = some (a, b) → ∀ r, Ev (fun k => util_zzEvals.l0 k (B s) (out ++ [pairOf (a, b)]) ((b + 1 : Nat) : Int)) r → Ev (fun k => util_zzEvals.l0 k (B s) out (i : Int)) r) ∧
    (nextEval m s i = none → Ev (fun k => util_zzEvals.l0 k (B s) out (i : Int)) out) := by
  induction m with
  | zero =>
    intro i h2 hi
    refine ⟨fun a b h => (by cases h), fun _ => Ev.step (fun _ => util_zzEvals.l0.eq_2 _ _ _ _) (Ev.neg ?_ (Ev.now _))⟩
    rw [B_size, w64 (by omega) (by omega)]; omega
  | succ m ih =>
    intro i h2 hi
    unfold nextEval
    by_cases h5 : i + 5 ≤ s.length
    · rw [if_pos h5]
      have hw : wrap64 ((i : Int) + 1) = ((i + 1 : Nat) : Int) := by rw [w64 (by omega) (by omega)]; omega
      have hw5 : wrap64 ((i : Int) + 5) = ((i + 5 : Nat) : Int) := by rw [w64 (by omega) (by omega)]; omega
      obtain ⟨r1, r2⟩ := ih (i + 1) (by omega) (by omega)
      by_cases hop : opens s i = true
      · rw [if_pos hop]
        obtain ⟨h1, h3⟩ := zz_inner s hn out ho i (s.length + 1) (i + 5) (by omega)
        have go : ∀ r, Ev (fun k => util_zzEvals.l1 k (B s) out (i : Int) ((i + 5 : Nat) : Int)) r → Ev (fun k => util_zzEvals.l0 k (B s) out (i : Int)) r := by
          intro r hr
          refine zz_test s hn out i h5 (Ev.step (fun _ => util_zzEvals.j1.eq_2 _ _ _ _ _) ?_)
          rw [hop]
          refine Ev.neg (by simp) ?_
          rw [hw5]
          exact hr
        cases hs : shuts (s.length + 1) s (i + 5) with
        | some c =>
          refine ⟨fun a b h r hr => go r (h1 c hs r ?_), fun h => by cases h⟩
          injection h with h
          injection h with e1 e2
          subst e1
          subst e2
          exact hr
        | none =>
          exact ⟨fun a b h r hr => go r (h3 hs r (by rw [hw]; exact r1 a b h r hr)), fun h => go _ (h3 hs _ (by rw [hw]; exact r2 h))⟩
      · rw [if_neg hop]
        have go : ∀ r, Ev (fun k => util_zzEvals.l0 k (B s) out ((i + 1 : Nat) : Int)) r → Ev (fun k => util_zzEvals.l0 k (B s) out (i : Int)) r := by
          intro r hr
          refine zz_test s hn out i h5 (Ev.step (fun _ => util_zzEvals.j1.eq_2 _ _ _ _ _) ?_)
          rw [show opens s i = false from by simpa using hop]
          refine Ev.pos rfl ?_
          rw [hw]
          exact hr
        exact ⟨fun a b h r hr => go r (r1 a b h r hr), fun h => go _ (r2 h)⟩
    · rw [if_neg h5]
      refine ⟨fun a b h => (by cases h), fun _ => Ev.step (fun _ => util_zzEvals.l0.eq_2 _ _ _ _) (Ev.neg ?_ (Ev.now _))⟩
      rw [B_size, w64 (by omega) (by omega)]; omega
theorem zz_all (s : List UInt8) (hn : s.length ≤ 1000) (m : Nat) : ∀ (i : Nat) (out : List S55), i ≤ s.length → s.length < i + m → out.length ≤ i →
    Ev (fun k => util_zzEvals.l0 k (B s) out (i : Int)) (out ++ (evs m s i).map pairOf) := by
  induction m with
  | zero => intro i out h1 h2; omega
  | succ m ih =>
    intro i out h1 h2 h3
    obtain ⟨r1, r2⟩ := zz_next s hn out (by omega) (s.length + 1) i (by omega) (by omega)
    unfold evs
    cases h : nextEval (s.length + 1) s i with
    | none =>
      simp only [List.map_nil, List.append_nil]
      exact r2 h
    | some p =>
      obtain ⟨a, b⟩ := p
      have hr := nextEval_range _ _ _ _ _ h
      refine r1 a b h _ ?_
      have := ih (b + 1) (out ++ [pairOf (a, b)]) (by omega) (by omega) (by simp; omega)
      simpa using this
theorem zzEvals_f (s : List UInt8) (hn : s.length ≤ 1000) : Ev (fun k => util_zzEvals.f k (B s)) ((evs (s.length + 1) s 0).map pairOf) := by
  have := zz_all s hn (s.length + 1) 0 [] (by omega) (by omega) (by simp)
  exact this
/-- the calls stand one behind the other -/
inductive Chain (n : Nat) : Nat → List (Nat × Nat) → Prop
  | nil (i : Nat) : Chain n i []
  | cons {i a b : Nat} {l : List (Nat × Nat)} : i ≤ a → a + 5 ≤ b → b < n → Chain n (b + 1) l → Chain n i ((a, b) :: l)
theorem evs_chain (s : List UInt8) (m : Nat) : ∀ i, Chain s.length i (evs m s i) := by
  induction m with
  | zero => intro i; exact Chain.nil i
  | succ m ih =>
    intro i
    unfold evs
    cases h : nextEval (s.length + 1) s i with
    | none => exact Chain.nil i
    | some p =>
      obtain ⟨a, b⟩ := p
      have hr := nextEval_range _ _ _ _ _ h
      exact Chain.cons hr.1 hr.2.1 hr.2.2 (ih _)
theorem chain_len {n i : Nat} {l : List (Nat × Nat)} (h : Chain n i l) : i ≤ n → l.length + i ≤ n := by
  induction h with
  | nil i => intro h; simp; exact h
  | cons h1 h2 h3 _ ih => intro h; have := ih (by omega); simp; omega

/-- the arguments of the calls -/
def argOf (s : List UInt8) (p : Nat × Nat) : ByteArray := B ((s.drop (p.1 + 5)).take (p.2 - (p.1 + 5)))
theorem specEvals_loop (s : List UInt8) (hn : s.length ≤ 1000) (m : Nat) : ∀ (i : Nat) (o : List ByteArray), i ≤ s.length → s.length < i + m → o.length ≤ i →
    Ev (fun k => spec_Evals.l0 k (B s) o (i : Int)) (o ++ (evs m s i).map (argOf s)) := by
  induction m with
  | zero => intro i out h1 h2; omega
  | succ m ih =>
    intro i o h1 h2 h3
    have hE := evalAt_f s hn (s.length + 1) i (by omega) (by omega)
    unfold evs
    refine Ev.step (fun _ => spec_Evals.l0.eq_2 _ _ _ _) ?_
    refine Ev.bind hE ?_
    cases h : nextEval (s.length + 1) s i with
    | none =>
      refine Ev.neg (by simp) ?_
      simp only [List.map_nil, List.append_nil]
      exact Ev.now _
    | some p =>
      obtain ⟨a, b⟩ := p
      have hr := nextEval_range _ _ _ _ _ h
      refine Ev.pos rfl (Ev.pos (by simp only []; omega) (Ev.pos (by simp only []; omega) (Ev.pos (by rw [B_size]; simp only []; omega) (Ev.pos (by omega) ?_))))
      simp only []
      rw [B_ext, show ((a : Int) + 5).toNat = a + 5 from by omega, show ((b : Int)).toNat = b from by omega, show wrap64 ((b : Int) + 1) = ((b + 1 : Nat) : Int) from by rw [w64 (by omega) (by omega)]; omega]
      have := ih (b + 1) (o ++ [argOf s (a, b)]) (by omega) (by omega) (by simp; omega)
      simpa [argOf] using this
theorem rd_T_mid (p q : List S55) (c : S55) (i : Int) (h : i = (p.length : Int)) : rd_T55 (p ++ c :: q) i = c := getD_mid _ p q c i h
theorem getEval_loop (s : List UInt8) (hn : s.length ≤ 1000) (q : List (Nat × Nat)) : ∀ (i : Nat) (p : List (Nat × Nat)) (o : List ByteArray), Chain s.length i q → p.length + q.length ≤ 2000 → o.length ≤ p.length →
    Ev (fun k => util_GetEvalValue.l0 k (B s) o ((p ++ q).map pairOf) ((((p ++ q).map pairOf).length : Nat) : Int) (p.length : Int)) (o ++ q.map (argOf s)) := by
  induction q with
  | nil =>
    intro i p o _ _ _
    refine Ev.step (fun _ => util_GetEvalValue.l0.eq_2 _ _ _ _ _ _) (Ev.neg (by simp) ?_)
    simp only [List.map_nil, List.append_nil]
    exact Ev.now _
  | cons c q ih =>
    intro i p o hC hp ho
    simp only [List.length_cons] at hp
    obtain ⟨a, b⟩ := c
    cases hC with
    | cons h1 h2 h3 hC =>
      refine Ev.step (fun _ => util_GetEvalValue.l0.eq_2 _ _ _ _ _ _) (Ev.pos (by simp <;> omega) (Ev.pos (by omega) (Ev.pos (by simp <;> omega) ?_)))
      have e : rd_T55 ((p ++ (a, b) :: q).map pairOf) (p.length : Int) = pairOf (a, b) := by
        rw [List.map_append, List.map_cons]
        exact rd_T_mid _ _ _ _ (by simp)
      rw [e]
      have w1 : wrap64 ((pairOf (a, b)).f0 + 5) = (a : Int) + 5 := w64 (by simp [pairOf]; omega) (by simp [pairOf]; omega)
      have w2 : wrap64 ((pairOf (a, b)).f1 - 1) = (b : Int) := by simp only [pairOf]; rw [w64 (by omega) (by omega)]; omega
      rw [w1, w2]
      refine Ev.pos (by omega) (Ev.pos (by omega) (Ev.pos (by rw [B_size]; omega) (Ev.pos (by omega) ?_)))
      rw [B_ext, show ((a : Int) + 5).toNat = a + 5 from by omega, show ((b : Int)).toNat = b from by omega, w64 (by omega) (by omega)]
      have := ih (b + 1) (p ++ [(a, b)]) (o ++ [argOf s (a, b)]) hC (by simp; omega) (by simp; omega)
      simpa [argOf] using this
theorem FnEvals : laws_FnEvals.Pure := by
  intro a0 h0
  obtain ⟨s, rfl⟩ := exists_B a0
  rw [B_size] at h0
  refine Ev.rounds (g := fun k => laws_FnEvals.f k (B s)) ?_
  by_cases g0 : ((B s).size : Int) > 2147483647
  · exact Ev.pos g0 (Ev.now _)
  refine Ev.neg g0 ?_
  obtain ⟨b, hb, hq⟩ := ascii_f s h0
  refine Ev.bind hb ?_
  cases b
  · exact Ev.neg (by simp) (Ev.bind awake (Ev.now _))
  have hn : s.length ≤ 1000 := by have := (hq rfl).1; omega
  refine Ev.pos rfl ?_
  have hS : Ev (fun k => spec_Evals.f k (B s)) ((evs (s.length + 1) s 0).map (argOf s)) := by
    have := specEvals_loop s hn (s.length + 1) 0 [] (by omega) (by omega) (by simp)
    exact this
  have hH : Ev (fun k => impl_HasEval.f k (B s)) (decide (0 < (evs (s.length + 1) s 0).length)) := by
    refine Ev.bind (a := decide (0 < (evs (s.length + 1) s 0).length)) ?_ (Ev.now _)
    refine Ev.bind (zzEvals_f s hn) ?_
    refine Ev.eqr ?_ (Ev.now _)
    rw [Bool.eq_iff_iff]
    simp
  have hlen : (evs (s.length + 1) s 0).length ≤ 1000 := by
    have := chain_len (evs_chain s (s.length + 1) 0) (by omega)
    omega
  have hG : Ev (fun k => impl_EvalValues.f k (B s)) ((evs (s.length + 1) s 0).map (argOf s)) := by
    refine Ev.bind (a := (evs (s.length + 1) s 0).map (argOf s)) ?_ (Ev.now _)
    refine Ev.bind (zzEvals_f s hn) ?_
    have := getEval_loop s hn (evs (s.length + 1) s 0) 0 [] [] (evs_chain _ _ _) (by simp; omega) (by simp)
    exact this
  refine Ev.bind hS (Ev.bind hH (Ev.neg ?_ ?_))
  · simp only [bne_iff_ne, ne_eq, Decidable.not_not]
    rw [Bool.eq_iff_iff]
    simp
  · have hSame := SameList_f ((evs (s.length + 1) s 0).map (argOf s)) ((evs (s.length + 1) s 0).map (argOf s)) (by simp; omega)
    by_cases hz : ((((evs (s.length + 1) s 0).map (argOf s)).length : Nat) : Int) = 0
    · exact Ev.pos hz (Ev.bind awake (Ev.pos rfl (Ev.now _)))
    · exact Ev.neg hz (Ev.bind hG (Ev.bind hSame (Ev.pos (by simp) (Ev.bind awake (Ev.now _)))))

end Go.Proofs.Ytnbcohabllkneaa.Pure
