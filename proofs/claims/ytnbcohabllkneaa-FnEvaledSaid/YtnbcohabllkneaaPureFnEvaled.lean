/- For every two texts: laws.FnEvaled answers true (the plain statement behind its walk). No condition beyond the form's own sizes. -/
import Derived.Test.YtnbcohabllkneaaOFnEvaledx5
import Derived.Test.YtnbcohabllkneaaBase
set_option linter.unusedSimpArgs false
set_option linter.unusedVariables false
namespace Go.Proofs.Ytnbcohabllkneaa.Pure
open Go.RowKit Go.Proofs.Ytnbcohabllkneaa.PFnEvaled Go.Proofs.YtnbcohabllkneaaW.PrintWords Go.Proofs.YtnbcohabllkneaaW.PrintLast Go.Proofs.Ytnbcohabllkneaa.Base

theorem awake : Ev laws_awakeUtil.f true := Ev.of laws_awakeUtil.mono (k := 30) (by decide +kernel)

/-- a text of few bytes, each from 1 to 126 -/
def plainText (s : List UInt8) : Prop := s.length ≤ 300 ∧ ∀ c ∈ s, c ≠ 0 ∧ c.toNat ≤ 126
theorem ascii_loop (l : List UInt8) : ∀ p : List UInt8, p.length + l.length ≤ 140737488351232 → ∃ b, Ev (fun k => laws_ascii.l0 k (B (p ++ l)) (p.length : Int)) b ∧ (b = true → (p ++ l).length ≤ 300 ∧ ∀ c ∈ l, c ≠ 0 ∧ c.toNat ≤ 126) := by
  induction l with
  | nil =>
    intro p _
    refine ⟨_, Ev.step (fun _ => laws_ascii.l0.eq_2 _ _ _) (Ev.neg (by rw [B_size]; simp) (Ev.step (fun _ => laws_ascii.j1.eq_2 _ _ _ _) (Ev.neg (by simp) (Ev.now _)))), fun h => ⟨?_, fun c hc => by cases hc⟩⟩
    rw [B_size, decide_eq_true_eq] at h
    omega
  | cons c l ih =>
    intro p hp
    simp only [List.length_cons] at hp
    obtain ⟨b, hb, hq⟩ := ih (p ++ [c]) (by simp <;> omega)
    simp only [List.append_assoc, List.cons_append, List.nil_append, List.length_append, List.length_cons, List.length_nil] at hb hq
    have hmain : ∃ b, Ev (fun k => laws_ascii.j1 k (B (p ++ c :: l)) (p.length : Int) (decide ((p.length : Int) ≤ 300))) b ∧ (b = true → (p ++ c :: l).length ≤ 300 ∧ ∀ x ∈ c :: l, x ≠ 0 ∧ x.toNat ≤ 126) := by
      by_cases h3 : (p.length : Int) ≤ 300
      · rw [decide_eq_true h3]
        by_cases h0 : (c.toNat : Int) = 0
        · exact ⟨_, Ev.step (fun _ => laws_ascii.j1.eq_2 _ _ _ _) (Ev.pos rfl (Ev.pos (by omega) (Ev.pos (by rw [B_size]; simp <;> omega) (Ev.pos (by rw [bt_mid p l c _ rfl]; exact h0) (Ev.now _))))), fun e => by cases e⟩
        · by_cases h1 : (c.toNat : Int) > 126
          · exact ⟨_, Ev.step (fun _ => laws_ascii.j1.eq_2 _ _ _ _) (Ev.pos rfl (Ev.pos (by omega) (Ev.pos (by rw [B_size]; simp <;> omega) (Ev.neg (by rw [bt_mid p l c _ rfl]; exact h0) (Ev.pos (by rw [bt_mid p l c _ rfl]; exact h1) (Ev.now _)))))), fun e => by cases e⟩
          · refine ⟨b, Ev.step (fun _ => laws_ascii.j1.eq_2 _ _ _ _) (Ev.pos rfl (Ev.pos (by omega) (Ev.pos (by rw [B_size]; simp <;> omega) (Ev.neg (by rw [bt_mid p l c _ rfl]; exact h0) (Ev.neg (by rw [bt_mid p l c _ rfl]; exact h1) ?_))))), fun e => ?_⟩
            · rw [w64 (by omega) (by omega)]
              exact hb
            · obtain ⟨q1, q2⟩ := hq e
              refine ⟨by simp at q1 ⊢; omega, fun x hx => ?_⟩
              rcases List.mem_cons.1 hx with rfl | hx
              · exact ⟨fun e => h0 (by rw [e]; rfl), by omega⟩
              · exact q2 x hx
      · rw [decide_eq_false h3]
        refine ⟨_, Ev.step (fun _ => laws_ascii.j1.eq_2 _ _ _ _) (Ev.neg (by simp) (Ev.now _)), fun h => ?_⟩
        rw [B_size, decide_eq_true_eq] at h
        simp at h
        omega
    obtain ⟨b', hb', hq'⟩ := hmain
    exact ⟨b', Ev.step (fun _ => laws_ascii.l0.eq_2 _ _ _) (Ev.pos (by rw [B_size]; simp <;> omega) hb'), hq'⟩
theorem ascii_f (s : List UInt8) (h : s.length ≤ 140737488351232) : ∃ b, Ev (fun k => laws_ascii.f k (B s)) b ∧ (b = true → plainText s) := by
  obtain ⟨b, hb, hq⟩ := ascii_loop s [] (by simpa using h)
  exact ⟨b, hb, fun e => by simpa [plainText] using hq e⟩

/-- a byte of a word -/
def wd (c : UInt8) : Bool := (97 ≤ c && c ≤ 122) || (65 ≤ c && c ≤ 90) || (48 ≤ c && c ≤ 57) || c == 95
theorem wd_int (c : UInt8) : wd c = decide ((97 ≤ (c.toNat : Int) ∧ (c.toNat : Int) ≤ 122) ∨ (65 ≤ (c.toNat : Int) ∧ (c.toNat : Int) ≤ 90) ∨ (48 ≤ (c.toNat : Int) ∧ (c.toNat : Int) ≤ 57) ∨ (c.toNat : Int) = 95) := by
  rw [Bool.eq_iff_iff]
  simp only [wd, Bool.or_eq_true, Bool.and_eq_true, decide_eq_true_eq, beq_iff_eq, UInt8.le_iff_toNat_le, ← UInt8.toNat_inj]
  simp only [show (97 : UInt8).toNat = 97 from rfl, show (122 : UInt8).toNat = 122 from rfl, show (65 : UInt8).toNat = 65 from rfl, show (90 : UInt8).toNat = 90 from rfl, show (48 : UInt8).toNat = 48 from rfl, show (57 : UInt8).toNat = 57 from rfl, show (95 : UInt8).toNat = 95 from rfl]
  omega
theorem WordByte_f (c : UInt8) : spec_WordByte.f (c.toNat : Int) = some (wd c) := by
  rw [wd_int]
  generalize (c.toNat : Int) = x
  unfold spec_WordByte.f
  repeat' split
  all_goals (congr 1; rw [Bool.eq_iff_iff]; simp only [beq_iff_eq, decide_eq_true_eq, true_iff]; omega)
theorem zzWord_f (c : UInt8) : util_zzWord.f (c.toNat : Int) = some (wd c) := by
  rw [wd_int]
  generalize (c.toNat : Int) = x
  unfold util_zzWord.f
  repeat' split
  all_goals (congr 1; rw [Bool.eq_iff_iff]; simp only [beq_iff_eq, decide_eq_true_eq, true_iff, iff_true, Bool.false_eq_true, false_iff]; omega)
theorem bt_nat (s : List UInt8) (i : Nat) (x : Int) (h : x = (i : Int)) : bt (B s) x = ((s.getD i 0).toNat : Int) := by
  subst h
  rw [B_bt]
  rfl
/-- a call of eval begins here -/
def opens (s : List UInt8) (i : Nat) : Bool := (s.drop i).take 5 == [101, 118, 97, 108, 40] && !(decide (0 < i) && wd (s.getD (i - 1) 0))
/-- the next closing bracket -/
def shuts : Nat → List UInt8 → Nat → Option Nat
  | 0, _, _ => none
  | m + 1, s, k => if k < s.length then (if s.getD k 0 = 41 then some k else shuts m s (k + 1)) else none
/-- the next call of eval that is closed: where it begins and where its bracket closes -/
def nextEval : Nat → List UInt8 → Nat → Option (Nat × Nat)
  | 0, _, _ => none
  | m + 1, s, i => if i + 5 ≤ s.length then (if opens s i then (match shuts (s.length + 1) s (i + 5) with | some b => some (i, b) | none => nextEval m s (i + 1)) else nextEval m s (i + 1)) else none
theorem shuts_range (m : Nat) (s : List UInt8) : ∀ k b, shuts m s k = some b → k ≤ b ∧ b < s.length := by
  induction m with
  | zero => intro k b h; cases h
  | succ m ih =>
    intro k b h
    unfold shuts at h
    by_cases hk : k < s.length
    · rw [if_pos hk] at h
      by_cases hc : s.getD k 0 = 41
      · rw [if_pos hc] at h; injection h with h; omega
      · rw [if_neg hc] at h; have := ih _ _ h; omega
    · rw [if_neg hk] at h; cases h
theorem nextEval_range (m : Nat) (s : List UInt8) : ∀ i a b, nextEval m s i = some (a, b) → i ≤ a ∧ a + 5 ≤ b ∧ b < s.length := by
  induction m with
  | zero => intro i a b h; cases h
  | succ m ih =>
    intro i a b h
    unfold nextEval at h
    by_cases hi : i + 5 ≤ s.length
    · rw [if_pos hi] at h
      by_cases ho : opens s i = true
      · rw [if_pos ho] at h
        cases hs : shuts (s.length + 1) s (i + 5) with
        | some c =>
          rw [hs] at h
          injection h with h
          injection h with h1 h2
          have := shuts_range _ _ _ _ hs
          omega
        | none => rw [hs] at h; have := ih _ _ _ h; omega
      · rw [if_neg ho] at h; have := ih _ _ _ h; omega
    · rw [if_neg hi] at h; cases h

/-- both scans, at the test of one place -/
theorem evalAt_test (s : List UInt8) (hn : s.length ≤ 1000) (i : Nat) (hi : i + 5 ≤ s.length) {r : Int × Int × Int × Bool} (h : Ev (fun k => spec_evalAt.j1 k (B s) (i : Int) (!opens s i)) r) : Ev (fun k => spec_evalAt.l0 k (B s) (i : Int)) r := by
  have hw : wrap64 ((i : Int) + 5) = (i : Int) + 5 := w64 (by omega) (by omega)
  refine Ev.step (fun _ => spec_evalAt.l0.eq_2 _ _ _) ?_
  rw [hw]
  refine Ev.pos (by rw [B_size]; omega) (Ev.pos (by omega) (Ev.pos (by omega) ?_))
  rw [B_ext, B_toList, show ((i : Int)).toNat = i from by omega, show ((i : Int) + 5).toNat - i = 5 from by omega]
  by_cases h5 : (s.drop i).take 5 = [101, 118, 97, 108, 40]
  · refine Ev.pos h5 ?_
    by_cases h0 : (i : Int) > 0
    · refine Ev.pos h0 ?_
      have hw1 : wrap64 ((i : Int) - 1) = ((i - 1 : Nat) : Int) := by rw [w64 (by omega) (by omega)]; omega
      rw [hw1]
      refine Ev.pos (by omega) (Ev.pos (by rw [B_size]; omega) ?_)
      rw [bt_nat s (i - 1) _ rfl]
      refine Ev.bind (Ev.const (WordByte_f _)) ?_
      have e : (!opens s i) = wd (s.getD (i - 1) 0) := by simp only [opens, h5, beq_self_eq_true, decide_eq_true (show 0 < i by omega), Bool.true_and, Bool.not_not]
      rw [e] at h
      exact h
    · refine Ev.neg h0 ?_
      have e : (!opens s i) = false := by simp only [opens, h5, beq_self_eq_true, decide_eq_false (show ¬ 0 < i by omega), Bool.false_and, Bool.not_false, Bool.true_and, Bool.and_true, Bool.not_true]
      rw [e] at h
      exact h
  · refine Ev.neg h5 ?_
    have e : (!opens s i) = true := by simp [opens, h5]
    rw [e] at h
    exact h
theorem evalAt_inner (s : List UInt8) (hn : s.length ≤ 1000) (i : Nat) (m : Nat) : ∀ k : Nat, s.length < k + m →
    (∀ b, shuts m s k = some b → Ev (fun r => spec_evalAt.l1 r (B s) (i : Int) (k : Int)) ((i : Int), wrap64 ((i : Int) + 5), (b : Int), true)) ∧
    (shuts m s k = none → ∀ r, Ev (fun k => spec_evalAt.l0 k (B s) (wrap64 ((i : Int) + 1))) r → Ev (fun r => spec_evalAt.l1 r (B s) (i : Int) (k : Int)) r) := by
  induction m with
  | zero =>
    intro k hk
    refine ⟨fun b hb => (by cases hb), fun _ r hr => ?_⟩
    exact Ev.step (fun _ => spec_evalAt.l1.eq_2 _ _ _ _) (Ev.neg (by rw [B_size]; omega) hr)
  | succ m ih =>
    intro k hk
    unfold shuts
    by_cases hl : k < s.length
    · rw [if_pos hl]
      by_cases hc : s.getD k 0 = 41
      · rw [if_pos hc]
        refine ⟨fun b hb => ?_, fun h => by cases h⟩
        injection hb with hb
        subst hb
        refine Ev.step (fun _ => spec_evalAt.l1.eq_2 _ _ _ _) (Ev.pos (by rw [B_size]; omega) (Ev.pos (by omega) (Ev.pos (by rw [bt_nat s k _ rfl, hc]; rfl) (Ev.now _))))
      · rw [if_neg hc]
        have hne : ¬ bt (B s) (k : Int) = 41 := by rw [bt_nat s k _ rfl]; exact fun e => hc ((byte_eq _ 41 (by omega)).1 e)
        have hw : wrap64 ((k : Int) + 1) = ((k + 1 : Nat) : Int) := by rw [w64 (by omega) (by omega)]; omega
        obtain ⟨h1, h2⟩ := ih (k + 1) (by omega)
        refine ⟨fun b hb => ?_, fun h r hr => ?_⟩
        · refine Ev.step (fun _ => spec_evalAt.l1.eq_2 _ _ _ _) (Ev.pos (by rw [B_size]; omega) (Ev.pos (by omega) (Ev.neg hne ?_)))
          rw [hw]
          exact h1 b hb
        · refine Ev.step (fun _ => spec_evalAt.l1.eq_2 _ _ _ _) (Ev.pos (by rw [B_size]; omega) (Ev.pos (by omega) (Ev.neg hne ?_)))
          rw [hw]
          exact h2 h r hr
    · rw [if_neg hl]
      refine ⟨fun b hb => (by cases hb), fun _ r hr => ?_⟩
      exact Ev.step (fun _ => spec_evalAt.l1.eq_2 _ _ _ _) (Ev.neg (by rw [B_size]; omega) hr)
theorem evalAt_f (s : List UInt8) (hn : s.length ≤ 1000) (m : Nat) : ∀ i : Nat, i ≤ 2000 → s.length < i + m → Ev (fun k => spec_evalAt.l0 k (B s) (i : Int)) (match nextEval m s i with | some (a, b) => ((a : Int), (a : Int) + 5, (b : Int), true) | none => (0, 0, 0, false)) := by
  induction m with
  | zero =>
    intro i h2 hi
    refine Ev.step (fun _ => spec_evalAt.l0.eq_2 _ _ _) (Ev.neg ?_ (Ev.now _))
    rw [B_size, w64 (by omega) (by omega)]; omega
  | succ m ih =>
    intro i h2 hi
    unfold nextEval
    by_cases h5 : i + 5 ≤ s.length
    · rw [if_pos h5]
      refine evalAt_test s hn i h5 ?_
      have hw : wrap64 ((i : Int) + 1) = ((i + 1 : Nat) : Int) := by rw [w64 (by omega) (by omega)]; omega
      have hw5 : wrap64 ((i : Int) + 5) = ((i + 5 : Nat) : Int) := by rw [w64 (by omega) (by omega)]; omega
      have hr := ih (i + 1) (by omega) (by omega)
      refine Ev.step (fun _ => spec_evalAt.j1.eq_2 _ _ _ _) ?_
      by_cases ho : opens s i = true
      · rw [if_pos ho, ho]
        refine Ev.neg (by simp) ?_
        obtain ⟨h1, h2⟩ := evalAt_inner s hn i (s.length + 1) (i + 5) (by omega)
        rw [hw5]
        cases hs : shuts (s.length + 1) s (i + 5) with
        | some b =>
          have := h1 b hs
          rw [hw5] at this
          exact this
        | none => exact h2 hs _ (by rw [hw]; exact hr)
      · rw [if_neg ho, show opens s i = false from by simpa using ho]
        refine Ev.pos rfl ?_
        rw [hw]
        exact hr
    · rw [if_neg h5]
      refine Ev.step (fun _ => spec_evalAt.l0.eq_2 _ _ _) (Ev.neg ?_ (Ev.now _))
      rw [B_size, w64 (by omega) (by omega)]; omega

/-- the calls of eval from a place on -/
def evs : Nat → List UInt8 → Nat → List (Nat × Nat)
  | 0, _, _ => []
  | m + 1, s, i => match nextEval (s.length + 1) s i with | some (a, b) => (a, b) :: evs m s (b + 1) | none => []
def pairOf (p : Nat × Nat) : S55 := ⟨(p.1 : Int), (p.2 : Int) + 1⟩

theorem zz_test (s : List UInt8) (hn : s.length ≤ 1000) (out : List S55) (i : Nat) (hi : i + 5 ≤ s.length) {r : List S55} (h : Ev (fun k => util_zzEvals.j1 k (B s) out (i : Int) (!opens s i)) r) : Ev (fun k => util_zzEvals.l0 k (B s) out (i : Int)) r := by
  have hw : wrap64 ((i : Int) + 5) = (i : Int) + 5 := w64 (by omega) (by omega)
  refine Ev.step (fun _ => util_zzEvals.l0.eq_2 _ _ _ _) ?_
  rw [hw]
  refine Ev.pos (by rw [B_size]; omega) (Ev.pos (by omega) (Ev.pos (by omega) ?_))
  rw [B_ext, B_toList, show ((i : Int)).toNat = i from by omega, show ((i : Int) + 5).toNat - i = 5 from by omega]
  by_cases h5 : (s.drop i).take 5 = [101, 118, 97, 108, 40]
  · refine Ev.pos h5 ?_
    by_cases h0 : (i : Int) > 0
    · refine Ev.pos h0 ?_
      have hw1 : wrap64 ((i : Int) - 1) = ((i - 1 : Nat) : Int) := by rw [w64 (by omega) (by omega)]; omega
      rw [hw1]
      refine Ev.pos (by omega) (Ev.pos (by rw [B_size]; omega) ?_)
      rw [bt_nat s (i - 1) _ rfl]
      refine Ev.bind (Ev.const (zzWord_f _)) ?_
      have e : (!opens s i) = wd (s.getD (i - 1) 0) := by simp only [opens, h5, beq_self_eq_true, decide_eq_true (show 0 < i by omega), Bool.true_and, Bool.not_not]
      rw [e] at h
      exact h
    · refine Ev.neg h0 ?_
      have e : (!opens s i) = false := by simp only [opens, h5, beq_self_eq_true, decide_eq_false (show ¬ 0 < i by omega), Bool.false_and, Bool.not_false, Bool.true_and, Bool.and_true, Bool.not_true]
      rw [e] at h
      exact h
  · refine Ev.neg h5 ?_
    have e : (!opens s i) = true := by simp [opens, h5]
    rw [e] at h
    exact h
theorem zz_inner (s : List UInt8) (hn : s.length ≤ 1000) (out : List S55) (ho : out.length ≤ 1000) (i : Nat) (m : Nat) : ∀ k : Nat, s.length < k + m →
    (∀ b, shuts m s k = some b → ∀ r, Ev (fun k => util_zzEvals.l0 k (B s) (out ++ [pairOf (i, b)]) ((b + 1 : Nat) : Int)) r → Ev (fun r => util_zzEvals.l1 r (B s) out (i : Int) (k : Int)) r) ∧
    (shuts m s k = none → ∀ r, Ev (fun k => util_zzEvals.l0 k (B s) out (wrap64 ((i : Int) + 1))) r → Ev (fun r => util_zzEvals.l1 r (B s) out (i : Int) (k : Int)) r) := by
  induction m with
  | zero =>
    intro k hk
    refine ⟨fun b hb => (by cases hb), fun _ r hr => ?_⟩
    exact Ev.step (fun _ => util_zzEvals.l1.eq_2 _ _ _ _ _) (Ev.neg (by rw [B_size]; omega) hr)
  | succ m ih =>
    intro k hk
    unfold shuts
    by_cases hl : k < s.length
    · rw [if_pos hl]
      have hw : wrap64 ((k : Int) + 1) = ((k + 1 : Nat) : Int) := by rw [w64 (by omega) (by omega)]; omega
      by_cases hc : s.getD k 0 = 41
      · rw [if_pos hc]
        refine ⟨fun b hb r hr => ?_, fun h => by cases h⟩
        injection hb with hb
        subst hb
        refine Ev.step (fun _ => util_zzEvals.l1.eq_2 _ _ _ _ _) (Ev.pos (by rw [B_size]; omega) (Ev.pos (by omega) (Ev.pos (by rw [bt_nat s k _ rfl, hc]; rfl) (Ev.pos (by omega) ?_))))
        rw [hw]
        exact hr
      · rw [if_neg hc]
        have hne : ¬ bt (B s) (k : Int) = 41 := by rw [bt_nat s k _ rfl]; exact fun e => hc ((byte_eq _ 41 (by omega)).1 e)
        obtain ⟨h1, h2⟩ := ih (k + 1) (by omega)
        refine ⟨fun b hb r hr => ?_, fun h r hr => ?_⟩
        · refine Ev.step (fun _ => util_zzEvals.l1.eq_2 _ _ _ _ _) (Ev.pos (by rw [B_size]; omega) (Ev.pos (by omega) (Ev.neg hne ?_)))
          rw [hw]
          exact h1 b hb r hr
        · refine Ev.step (fun _ => util_zzEvals.l1.eq_2 _ _ _ _ _) (Ev.pos (by rw [B_size]; omega) (Ev.pos (by omega) (Ev.neg hne ?_)))
          rw [hw]
          exact h2 h r hr
    · rw [if_neg hl]
      refine ⟨fun b hb => (by cases hb), fun _ r hr => ?_⟩
      exact Ev.step (fun _ => util_zzEvals.l1.eq_2 _ _ _ _ _) (Ev.neg (by rw [B_size]; omega) hr)
theorem zz_next (s : List UInt8) (hn : s.length ≤ 1000) (out : List S55) (ho : out.length ≤ 1000) (m : Nat) : ∀ i : Nat, i ≤ 2000 → s.length < i + m →
    (∀ a b, nextEval m s i = some (a, b) → ∀ r, Ev (fun k => util_zzEvals.l0 k (B s) (out ++ [pairOf (a, b)]) ((b + 1 : Nat) : Int)) r → Ev (fun k => util_zzEvals.l0 k (B s) out (i : Int)) r) ∧
    (nextEval m s i = none → Ev (fun k => util_zzEvals.l0 k (B s) out (i : Int)) out) := by
  induction m with
  | zero =>
    intro i h2 hi
    refine ⟨fun a b h => (by cases h), fun _ => Ev.step (fun _ => util_zzEvals.l0.eq_2 _ _ _ _) (Ev.neg ?_ (Ev.now _))⟩
    rw [B_size, w64 (by omega) (by omega)]; omega
  | succ m ih =>
    intro i h2 hi
    unfold nextEval
    by_cases h5 : i + 5 ≤ s.length
    · rw [if_pos h5]
      have hw : wrap64 ((i : Int) + 1) = ((i + 1 : Nat) : Int) := by rw [w64 (by omega) (by omega)]; omega
      have hw5 : wrap64 ((i : Int) + 5) = ((i + 5 : Nat) : Int) := by rw [w64 (by omega) (by omega)]; omega
      obtain ⟨r1, r2⟩ := ih (i + 1) (by omega) (by omega)
      by_cases hop : opens s i = true
      · rw [if_pos hop]
        obtain ⟨h1, h3⟩ := zz_inner s hn out ho i (s.length + 1) (i + 5) (by omega)
        have go : ∀ r, Ev (fun k => util_zzEvals.l1 k (B s) out (i : Int) ((i + 5 : Nat) : Int)) r → Ev (fun k => util_zzEvals.l0 k (B s) out (i : Int)) r := by
          intro r hr
          refine zz_test s hn out i h5 (Ev.step (fun _ => util_zzEvals.j1.eq_2 _ _ _ _ _) ?_)
          rw [hop]
          refine Ev.neg (by simp) ?_
          rw [hw5]
          exact hr
        cases hs : shuts (s.length + 1) s (i + 5) with
        | some c =>
          refine ⟨fun a b h r hr => go r (h1 c hs r ?_), fun h => by cases h⟩
          injection h with h
          injection h with e1 e2
          subst e1
          subst e2
          exact hr
        | none =>
          exact ⟨fun a b h r hr => go r (h3 hs r (by rw [hw]; exact r1 a b h r hr)), fun h => go _ (h3 hs _ (by rw [hw]; exact r2 h))⟩
      · rw [if_neg hop]
        have go : ∀ r, Ev (fun k => util_zzEvals.l0 k (B s) out ((i + 1 : Nat) : Int)) r → Ev (fun k => util_zzEvals.l0 k (B s) out (i : Int)) r := by
          intro r hr
          refine zz_test s hn out i h5 (Ev.step (fun _ => util_zzEvals.j1.eq_2 _ _ _ _ _) ?_)
          rw [show opens s i = false from by simpa using hop]
          refine Ev.pos rfl ?_
          rw [hw]
          exact hr
        exact ⟨fun a b h r hr => go r (r1 a b h r hr), fun h => go _ (r2 h)⟩
    · rw [if_neg h5]
      refine ⟨fun a b h => (by cases h), fun _ => Ev.step (fun _ => util_zzEvals.l0.eq_2 _ _ _ _) (Ev.neg ?_ (Ev.now _))⟩
      rw [B_size, w64 (by omega) (by omega)]; omega
theorem zz_all (s : List UInt8) (hn : s.length ≤ 1000) (m : Nat) : ∀ (i : Nat) (out : List S55), i ≤ s.length → s.length < i + m → out.length ≤ i →
    Ev (fun k => util_zzEvals.l0 k (B s) out (i : Int)) (out ++ (evs m s i).map pairOf) := by
  induction m with
  | zero => intro i out h1 h2; omega
  | succ m ih =>
    intro i out h1 h2 h3
    obtain ⟨r1, r2⟩ := zz_next s hn out (by omega) (s.length + 1) i (by omega) (by omega)
    unfold evs
    cases h : nextEval (s.length + 1) s i with
    | none =>
      simp only [List.map_nil, List.append_nil]
      exact r2 h
    | some p =>
      obtain ⟨a, b⟩ := p
      have hr := nextEval_range _ _ _ _ _ h
      refine r1 a b h _ ?_
      have := ih (b + 1) (out ++ [pairOf (a, b)]) (by omega) (by omega) (by simp; omega)
      simpa using this
theorem zzEvals_f (s : List UInt8) (hn : s.length ≤ 1000) : Ev (fun k => util_zzEvals.f k (B s)) ((evs (s.length + 1) s 0).map pairOf) := by
  have := zz_all s hn (s.length + 1) 0 [] (by omega) (by omega) (by simp)
  exact this
/-- the calls stand one behind the other -/
inductive Chain (n : Nat) : Nat → List (Nat × Nat) → Prop
  | nil (i : Nat) : Chain n i []
  | cons {i a b : Nat} {l : List (Nat × Nat)} : i ≤ a → a + 5 ≤ b → b < n → Chain n (b + 1) l → Chain n i ((a, b) :: l)
theorem evs_chain (s : List UInt8) (m : Nat) : ∀ i, Chain s.length i (evs m s i) := by
  induction m with
  | zero => intro i; exact Chain.nil i
  | succ m ih =>
    intro i
    unfold evs
    cases h : nextEval (s.length + 1) s i with
    | none => exact Chain.nil i
    | some p =>
      obtain ⟨a, b⟩ := p
      have hr := nextEval_range _ _ _ _ _ h
      exact Chain.cons hr.1 hr.2.1 hr.2.2 (ih _)
theorem chain_len {n i : Nat} {l : List (Nat × Nat)} (h : Chain n i l) : i ≤ n → l.length + i ≤ n := by
  induction h with
  | nil i => intro h; simp; exact h
  | cons h1 h2 h3 _ ih => intro h; have := ih (by omega); simp; omega

theorem rd_T_mid (p q : List S55) (c : S55) (i : Int) (h : i = (p.length : Int)) : rd_T55 (p ++ c :: q) i = c := getD_mid _ p q c i h
/-- a text, from a place on, with a rule in the place of the calls -/
def repl (s rule : List UInt8) : Nat → List (Nat × Nat) → List UInt8
  | i, [] => s.drop i
  | i, (a, b) :: l => (s.drop i).take (a - i) ++ (40 :: rule ++ [41]) ++ repl s rule (b + 1) l
theorem ext_tail (s : List UInt8) (i : Nat) (h : i ≤ s.length) : (B s).extract i (B s).size = B (s.drop i) := by
  rw [B_ext, B_size, List.take_of_length_le (by simp)]
theorem replaceEvals_loop (s rule : List UInt8) (hn : s.length ≤ 300) (hr : rule.length ≤ 300) (q : List (Nat × Nat)) : ∀ (i : Nat) (p : List (Nat × Nat)) (o : List UInt8), Chain s.length i q → i ≤ s.length → p.length + q.length ≤ 2000 → o.length ≤ i * 400 →
    Ev (fun k => util_zzReplaceEvals.l0 k (B s) (B (40 :: rule ++ [41])) (B o) (i : Int) ((p ++ q).map pairOf) ((((p ++ q).map pairOf).length : Nat) : Int) (p.length : Int)) (B (o ++ repl s rule i q)) := by
  induction q with
  | nil =>
    intro i p o _ hi _ ho
    refine Ev.step (fun _ => util_zzReplaceEvals.l0.eq_2 _ _ _ _ _ _ _ _) (Ev.neg (by simp) (Ev.pos (by omega) (Ev.pos (by rw [B_size]; omega) ?_)))
    rw [show ((i : Int)).toNat = i from by omega, ext_tail s i hi, B_app, B_size, B_size]
    refine Ev.pos (by simp only [List.length_drop]; omega) ?_
    exact Ev.now _
  | cons c q ih =>
    intro i p o hC hi hp ho
    simp only [List.length_cons] at hp
    obtain ⟨a, b⟩ := c
    cases hC with
    | cons h1 h2 h3 hC =>
      refine Ev.step (fun _ => util_zzReplaceEvals.l0.eq_2 _ _ _ _ _ _ _ _) (Ev.pos (by simp <;> omega) (Ev.pos (by omega) (Ev.pos (by simp <;> omega) ?_)))
      have e : rd_T55 ((p ++ (a, b) :: q).map pairOf) (p.length : Int) = pairOf (a, b) := by
        rw [List.map_append, List.map_cons]
        exact rd_T_mid _ _ _ _ (by simp)
      rw [e]
      have f0 : (pairOf (a, b)).f0 = (a : Int) := rfl
      have f1 : (pairOf (a, b)).f1 = ((b + 1 : Nat) : Int) := by simp [pairOf]
      rw [f0, f1]
      rw [B_ext, show ((i : Int)).toNat = i from by omega, show ((a : Int)).toNat = a from by omega, w64 (by omega) (by omega), B_app, B_app]
      simp only [B_size, List.length_append, List.length_cons, List.length_nil, List.length_take, List.length_drop]
      refine Ev.pos (by omega) (Ev.pos (by omega) (Ev.pos (by omega) (Ev.pos (by omega) (Ev.pos (by omega) ?_))))
      have := ih (b + 1) (p ++ [(a, b)]) (o ++ ((s.drop i).take (a - i) ++ (40 :: rule ++ [41]))) hC (by omega) (by simp; omega) (by simp; omega)
      simp only [repl]
      simp only [List.append_assoc, List.cons_append, List.nil_append, List.length_append, List.length_cons, List.length_nil] at this ⊢
      exact this
theorem specEvaled_loop (s rule : List UInt8) (hn : s.length ≤ 300) (hr : rule.length ≤ 300) (m : Nat) : ∀ (i : Nat) (o : List UInt8), i ≤ s.length → s.length < i + m → o.length ≤ i * 400 →
    Ev (fun k => spec_Evaled.l0 k (B s) (B rule) (B o) (i : Int)) (B (o ++ repl s rule i (evs m s i))) := by
  induction m with
  | zero => intro i out h1 h2; omega
  | succ m ih =>
    intro i o h1 h2 ho
    have hE := evalAt_f s (by omega) (s.length + 1) i (by omega) (by omega)
    unfold evs
    refine Ev.step (fun _ => spec_Evaled.l0.eq_2 _ _ _ _ _) ?_
    refine Ev.bind hE ?_
    cases h : nextEval (s.length + 1) s i with
    | none =>
      refine Ev.neg (by simp) (Ev.pos (by omega) (Ev.pos (by rw [B_size]; omega) ?_))
      rw [show ((i : Int)).toNat = i from by omega, ext_tail s i h1, B_app, B_size, B_size]
      refine Ev.pos (by simp only [List.length_drop]; omega) ?_
      exact Ev.now _
    | some p =>
      obtain ⟨a, b⟩ := p
      have hrg := nextEval_range _ _ _ _ _ h
      refine Ev.pos rfl ?_
      simp only []
      rw [B_ext, show ((i : Int)).toNat = i from by omega, show ((a : Int)).toNat = a from by omega, show wrap64 ((b : Int) + 1) = ((b + 1 : Nat) : Int) from by rw [w64 (by omega) (by omega)]; omega]
      rw [show (⟨#[40]⟩ : ByteArray) = B [40] from rfl, show (⟨#[41]⟩ : ByteArray) = B [41] from rfl, B_app, B_app, B_app, B_app]
      simp only [B_size, List.length_append, List.length_cons, List.length_nil, List.length_take, List.length_drop]
      refine Ev.pos (by omega) (Ev.pos (by omega) (Ev.pos (by omega) (Ev.pos (by omega) (Ev.pos (by omega) (Ev.pos (by omega) (Ev.pos (by omega) ?_))))))
      have := ih (b + 1) (o ++ ((s.drop i).take (a - i) ++ (40 :: rule ++ [41]))) (by omega) (by omega) (by simp; omega)
      simp only [repl]
      simp only [List.append_assoc, List.cons_append, List.nil_append, List.length_append, List.length_cons, List.length_nil] at this ⊢
      exact this
theorem Evaled_law (s rule : List UInt8) (hn : s.length ≤ 300) (hr : rule.length ≤ 300) (q : List UInt8) : ∀ p : List UInt8, p ++ q = rule → Ev (fun k => laws_FnEvaled.l0 k (B s) (B rule) (p.length : Int)) true := by
  induction q with
  | nil =>
    intro p hp
    have hl : p.length = rule.length := by rw [← hp]; simp
    refine Ev.step (fun _ => laws_FnEvaled.l0.eq_2 _ _ _ _) (Ev.neg (by rw [B_size]; omega) ?_)
    have hI : Ev (fun k => impl_ReplaceEval.f k (B s) (B rule)) (B (repl s rule 0 (evs (s.length + 1) s 0))) := by
      refine Ev.bind (a := B (repl s rule 0 (evs (s.length + 1) s 0))) ?_ (Ev.now _)
      show Ev (fun k => if 1 + (B rule).size ≤ 9223372036854775807 then _ else none) _
      rw [show (⟨#[40]⟩ : ByteArray) = B [40] from rfl, show (⟨#[41]⟩ : ByteArray) = B [41] from rfl, B_app, B_app, B_size, B_size]
      refine Ev.pos (by omega) (Ev.pos (by simp; omega) (Ev.bind (a := B (repl s rule 0 (evs (s.length + 1) s 0))) (Ev.bind (zzEvals_f s (by omega)) ?_) (Ev.now _)))
      have hc := chain_len (evs_chain s (s.length + 1) 0) (by omega)
      have := replaceEvals_loop s rule hn hr (evs (s.length + 1) s 0) 0 [] [] (evs_chain _ _ _) (by omega) (by simp; omega) (by simp)
      rw [show (⟨#[]⟩ : ByteArray) = B [] from rfl]
      simpa using this
    have hS : Ev (fun k => spec_Evaled.f k (B s) (B rule)) (B (repl s rule 0 (evs (s.length + 1) s 0))) := by
      have := specEvaled_loop s rule hn hr (s.length + 1) 0 [] (by omega) (by omega) (by simp)
      unfold spec_Evaled.f
      rw [show (⟨#[]⟩ : ByteArray) = B [] from rfl]
      simpa using this
    exact Ev.bind hI (Ev.bind hS (Ev.pos rfl (Ev.bind awake (Ev.now _))))
  | cons c q ih =>
    intro p hp
    have hl : p.length + q.length + 1 = rule.length := by rw [← hp]; simp; omega
    refine Ev.step (fun _ => laws_FnEvaled.l0.eq_2 _ _ _ _) (Ev.pos (by rw [B_size]; omega) (Ev.pos (by omega) ?_))
    rw [show bt (B rule) (p.length : Int) = (c.toNat : Int) from by rw [← hp]; exact bt_mid p q c _ rfl, w64 (by omega) (by omega)]
    by_cases h36 : (c.toNat : Int) = 36
    · exact Ev.pos h36 (Ev.bind awake (Ev.now _))
    · refine Ev.neg h36 ?_
      have := ih (p ++ [c]) (by rw [← hp]; simp)
      simpa using this
theorem FnEvaled : laws_FnEvaled.Pure := by
  intro a0 a1 h0 h1
  obtain ⟨s, rfl⟩ := exists_B a0
  obtain ⟨rule, rfl⟩ := exists_B a1
  rw [B_size] at h0 h1
  refine Ev.rounds (g := fun k => laws_FnEvaled.f k (B s) (B rule)) ?_
  have j0_true : Ev (fun k => laws_FnEvaled.j0 k (B s) (B rule) true) true := Ev.step (fun _ => laws_FnEvaled.j0.eq_2 _ _ _ _) (Ev.pos rfl (Ev.now _))
  have j1_true : Ev (fun k => laws_FnEvaled.j1 k (B s) (B rule) true) true := Ev.step (fun _ => laws_FnEvaled.j1.eq_2 _ _ _ _) (Ev.pos rfl (Ev.bind awake (Ev.now _)))
  have j0_false : Ev (fun k => laws_FnEvaled.j0 k (B s) (B rule) false) true := by
    refine Ev.step (fun _ => laws_FnEvaled.j0.eq_2 _ _ _ _) (Ev.neg (by simp) ?_)
    obtain ⟨b, hb, hq⟩ := ascii_f s h0
    refine Ev.bind hb ?_
    cases b
    · exact Ev.neg (by simp) j1_true
    refine Ev.pos rfl ?_
    obtain ⟨b, hb, hq2⟩ := ascii_f rule h1
    refine Ev.bind hb ?_
    cases b
    · exact j1_true
    exact Ev.step (fun _ => laws_FnEvaled.j1.eq_2 _ _ _ _) (Ev.neg (by simp) (Evaled_law s rule (hq rfl).1 (hq2 rfl).1 rule [] rfl))
  by_cases g0 : ((B s).size : Int) > 2147483647
  · exact Ev.pos g0 j0_true
  refine Ev.neg g0 ?_
  by_cases g1 : ((B rule).size : Int) > 2147483647
  · rw [decide_eq_true g1]; exact j0_true
  · rw [decide_eq_false g1]; exact j0_false

end Go.Proofs.Ytnbcohabllkneaa.Pure
