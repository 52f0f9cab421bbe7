/- For every text: laws.FnLiterals answers true (the plain statement that its printed walk asks for). No condition beyond the form's own sizes. -/
import Derived.Test.YtnbcohabllkneaaOFnLiteralsx4
import Derived.Test.YtnbcohabllkneaaBase
set_option linter.unusedSimpArgs false
set_option linter.unusedVariables false
namespace Go.Proofs.Ytnbcohabllkneaa.Pure
open Go.RowKit Go.Proofs.Ytnbcohabllkneaa.PFnLiterals Go.Proofs.YtnbcohabllkneaaW.PrintWords Go.Proofs.YtnbcohabllkneaaW.PrintLast Go.Proofs.Ytnbcohabllkneaa.Base

theorem awake : Ev laws_awakeUtil.f true := Ev.of laws_awakeUtil.mono (k := 30) (by decide +kernel)

/-- a text of few bytes, each from 1 to 126 -/
def plainText (s : List UInt8) : Prop := s.length ≤ 300 ∧ ∀ c ∈ s, c ≠ 0 ∧ c.toNat ≤ 126
theorem ascii_loop (l : List UInt8) : ∀ p : List UInt8, p.length + l.length ≤ 140737488351232 → ∃ b, Ev (fun k => laws_ascii.l0 k (B (p ++ l)) (p.length : Int)) b ∧ (b = true → (p ++ l).length ≤ 300 ∧ ∀ c ∈ l, c ≠ 0 ∧ c.toNat ≤ 126) := by
  induction l with
  | nil =>
    intro p _
    refine ⟨_, Ev.step (fun _ => laws_ascii.l0.eq_2 _ _ _) (Ev.neg (by rw [B_size]; simp) (Ev.step (fun _ => laws_ascii.j1.eq_2 _ _ _ _) (Ev.neg (by simp) (Ev.now _)))), fun h => ⟨?_, fun c hc => by cases hc⟩⟩
    rw [B_size, decide_eq_true_eq] at h
    omega
  | cons c l ih =>
    intro p hp
    simp only [List.length_cons] at hp
    obtain ⟨b, hb, hq⟩ := ih (p ++ [c]) (by simp <;> omega)
    simp only [List.append_assoc, List.cons_append, List.nil_append, List.length_append, List.length_cons, List.length_nil] at hb hq
    have hmain : ∃ b, Ev (fun k => laws_ascii.j1 k (B (p ++ c :: l)) (p.length : Int) (decide ((p.length : Int) ≤ 300))) b ∧ (b = true → (p ++ c :: l).length ≤ 300 ∧ ∀ x ∈ c :: l, x ≠ 0 ∧ x.toNat ≤ 126) := by
      by_cases h3 : (p.length : Int) ≤ 300
      · rw [decide_eq_true h3]
        by_cases h0 : (c.toNat : Int) = 0
        · exact ⟨_, Ev.step (fun _ => laws_ascii.j1.eq_2 _ _ _ _) (Ev.pos rfl (Ev.pos (by omega) (Ev.pos (by rw [B_size]; simp <;> omega) (Ev.pos (by rw [bt_mid p l c _ rfl]; exact h0) (Ev.now _))))), fun e => by cases e⟩
        · by_cases h1 : (c.toNat : Int) > 126
          · exact ⟨_, Ev.step (fun _ => laws_ascii.j1.eq_2 _ _ _ _) (Ev.pos rfl (Ev.pos (by omega) (Ev.pos (by rw [B_size]; simp <;> omega) (Ev.neg (by rw [bt_mid p l c _ rfl]; exact h0) (Ev.pos (by rw [bt_mid p l c _ rfl]; exact h1) (Ev.now _)))))), fun e => by cases e⟩
          · refine ⟨b, Ev.step (fun _ => laws_ascii.j1.eq_2 _ _ _ _) (Ev.pos rfl (Ev.pos (by omega) (Ev.pos (by rw [B_size]; simp <;> omega) (Ev.neg (by rw [bt_mid p l c _ rfl]; exact h0) (Ev.neg (by rw [bt_mid p l c _ rfl]; exact h1) ?_))))), fun e => ?_⟩
            · rw [w64 (by omega) (by omega)]
              exact hb
            · obtain ⟨q1, q2⟩ := hq e
              refine ⟨by simp at q1 ⊢; omega, fun x hx => ?_⟩
              rcases List.mem_cons.1 hx with rfl | hx
              · exact ⟨fun e => h0 (by rw [e]; rfl), by omega⟩
              · exact q2 x hx
      · rw [decide_eq_false h3]
        refine ⟨_, Ev.step (fun _ => laws_ascii.j1.eq_2 _ _ _ _) (Ev.neg (by simp) (Ev.now _)), fun h => ?_⟩
        rw [B_size, decide_eq_true_eq] at h
        simp at h
        omega
    obtain ⟨b', hb', hq'⟩ := hmain
    exact ⟨b', Ev.step (fun _ => laws_ascii.l0.eq_2 _ _ _) (Ev.pos (by rw [B_size]; simp <;> omega) hb'), hq'⟩
theorem ascii_f (s : List UInt8) (h : s.length ≤ 140737488351232) : ∃ b, Ev (fun k => laws_ascii.f k (B s)) b ∧ (b = true → plainText s) := by
  obtain ⟨b, hb, hq⟩ := ascii_loop s [] (by simpa using h)
  exact ⟨b, hb, fun e => by simpa [plainText] using hq e⟩

/-- a text as it is written: the bytes of the rest; the quote, 0: none -/
def dbl : List UInt8 → Int → List UInt8
  | [], _ => []
  | c :: t, q => if q = 0 then (if c = 39 ∨ c = 34 then c :: dbl t (c.toNat : Int) else c :: dbl t 0)
    else if (c.toNat : Int) = q then c :: dbl t 0 else if c = 92 then 92 :: c :: dbl t q else c :: dbl t q
theorem enc_one (c : UInt8) (h : c.toNat ≤ 127) : Lib.encodeRune (c.toNat : Int) = [c] := by
  unfold Lib.encodeRune
  rw [Lib.encodeRuneZ_one (by omega) (by omega)]
  simp
theorem lit_loop (t : List UInt8) : ∀ (p l : List UInt8) (s : Bool) (q : Int), p.length + t.length ≤ 300 → l.length ≤ 2 * p.length → (∀ c ∈ t, c.toNat ≤ 126) → (s = true → q = 39 ∨ q = 34) →
    Ev (fun k => lit k (B (p ++ t)) l (p.length : Int) s q) (B (l ++ dbl t (if s = true then q else 0))) := by
  induction t with
  | nil =>
    intro p l s q _ _ _ _
    refine Ev.step (fun _ => lit.eq_2 _ _ _ _ _ _) (Ev.neg (by rw [B_size]; simp) ?_)
    simp only [dbl, List.append_nil]
    exact Ev.now _
  | cons c t ih =>
    intro p l s q hp hl hc hs
    simp only [List.length_cons] at hp
    have h1 := hc c (List.mem_cons_self ..)
    have hc' : ∀ x ∈ t, x.toNat ≤ 126 := fun x hx => hc x (List.mem_cons_of_mem _ hx)
    have e1 := enc_one c (by omega)
    have e92 : Lib.encodeRune 92 = [92] := enc_one 92 (by decide)
    have nx : ∀ (l' : List UInt8) (s' : Bool) (q' : Int), l'.length ≤ l.length + 2 → (s' = true → q' = 39 ∨ q' = 34) → Ev (fun k => lit k (B (p ++ c :: t)) l' ((p.length : Int) + 1) s' q') (B (l' ++ dbl t (if s' = true then q' else 0))) := by
      intro l' s' q' hl' hs'
      have := ih (p ++ [c]) l' s' q' (by simp <;> omega) (by simp <;> omega) hc' hs'
      simpa using this
    refine Ev.step (fun _ => lit.eq_2 _ _ _ _ _ _) (Ev.pos (by rw [B_size]; simp <;> omega) (Ev.pos (by omega) (Ev.pos (by omega) ?_)))
    rw [bt_mid p t c _ rfl, e1, e92, w64 (by omega) (by omega)]
    have b92 : (c.toNat : Int) = 92 ↔ c = 92 := byte_eq c 92 (by decide)
    have b39 : (c.toNat : Int) = 39 ↔ c = 39 := byte_eq c 39 (by decide)
    have b34 : (c.toNat : Int) = 34 ↔ c = 34 := byte_eq c 34 (by decide)
    cases s with
    | true =>
      have hq := hs rfl
      have q0 : ¬ q = 0 := by omega
      refine Ev.pos rfl ?_
      simp only [if_true, dbl, if_neg q0]
      by_cases z : (c.toNat : Int) = 92
      · have zc : c = 92 := b92.1 z
        have := nx ((l ++ [c]) ++ [92]) true q (by simp) (fun _ => hq)
        refine Ev.pos z (Ev.eqr ?_ this)
        rw [if_neg (by omega : ¬ (c.toNat : Int) = q), if_pos zc, zc]
        simp
      · refine Ev.neg z ?_
        by_cases y : (c.toNat : Int) = q
        · have := nx (l ++ [c]) false q (by simp) (by simp)
          refine Ev.pos y (Ev.eqr ?_ this)
          rw [if_pos y]; simp
        · have := nx (l ++ [c]) true q (by simp) (fun _ => hq)
          refine Ev.neg y (Ev.eqr ?_ this)
          rw [if_neg y, if_neg (fun x => z (b92.2 x))]; simp
    | false =>
      refine Ev.neg (by simp) ?_
      simp only [dbl, if_true, Bool.false_eq_true, if_false]
      by_cases z : (c.toNat : Int) = 39
      · have := nx (l ++ [c]) true (c.toNat : Int) (by simp) (fun _ => .inl z)
        refine Ev.pos z (Ev.eqr ?_ this)
        rw [if_pos (Or.inl (b39.1 z))]; simp
      · refine Ev.neg z ?_
        by_cases y : (c.toNat : Int) = 34
        · have := nx (l ++ [c]) true (c.toNat : Int) (by simp) (fun _ => .inr y)
          refine Ev.pos y (Ev.eqr ?_ this)
          rw [if_pos (Or.inr (b34.1 y))]; simp
        · have := nx (l ++ [c]) false q (by simp) (by simp)
          refine Ev.neg y (Ev.eqr ?_ this)
          rw [if_neg (fun x : c = 39 ∨ c = 34 => x.elim (fun x => z (b39.2 x)) (fun x => y (b34.2 x)))]; simp
theorem dbl_length : ∀ (t : List UInt8) (q : Int), (dbl t q).length ≤ 2 * t.length
  | [], _ => by simp [dbl]
  | c :: t, q => by
    have h0 := dbl_length t 0
    have hq := dbl_length t q
    have hc := dbl_length t (c.toNat : Int)
    unfold dbl
    split
    · split <;> simp only [List.length_cons] <;> omega
    · split
      · simp only [List.length_cons]; omega
      · split <;> simp only [List.length_cons] <;> omega
theorem Doubled_loop (t : List UInt8) : ∀ (p s : List UInt8) (q : Int), p.length + t.length ≤ 300 → s.length ≤ 2 * p.length → (q = 0 ∨ q = 39 ∨ q = 34) →
    Ev (fun k => spec_Doubled.l0 k (B (p ++ t)) (B s) q (p.length : Int)) (B (s ++ dbl t q)) := by
  induction t with
  | nil =>
    intro p s q _ _ _
    refine Ev.step (fun _ => spec_Doubled.l0.eq_2 _ _ _ _ _) (Ev.neg (by rw [B_size]; simp) ?_)
    simp only [dbl, List.append_nil]
    exact Ev.now _
  | cons c t ih =>
    intro p s q hp hl hq
    simp only [List.length_cons] at hp
    have b92 : (c.toNat : Int) = 92 ↔ c = 92 := byte_eq c 92 (by decide)
    have b39 : (c.toNat : Int) = 39 ↔ c = 39 := byte_eq c 39 (by decide)
    have b34 : (c.toNat : Int) = 34 ↔ c = 34 := byte_eq c 34 (by decide)
    have nx : ∀ (s' : List UInt8) (q' : Int), s'.length ≤ s.length + 2 → (q' = 0 ∨ q' = 39 ∨ q' = 34) → Ev (fun k => spec_Doubled.l0 k (B (p ++ c :: t)) (B s') q' ((p.length : Int) + 1)) (B (s' ++ dbl t q')) := by
      intro s' q' hl' hs'
      have := ih (p ++ [c]) s' q' (by simp <;> omega) (by simp <;> omega) hs'
      simpa using this
    have ex : (B (p ++ c :: t)).extract ((p.length : Int)).toNat ((p.length : Int) + 1).toNat = B [c] := ext_mid p t c _ _ (by omega) (by omega)
    have sz : (B (p ++ c :: t)).size = p.length + (t.length + 1) := by rw [B_size]; simp
    have bm : bt (B (p ++ c :: t)) (p.length : Int) = (c.toNat : Int) := bt_mid p t c _ rfl
    have w1 : wrap64 ((p.length : Int) + 1) = (p.length : Int) + 1 := w64 (by omega) (by omega)
    have one : ∀ q', (q' = 0 ∨ q' = 39 ∨ q' = 34) → ∀ r, r = s ++ c :: dbl t q' → Ev (fun k => spec_Doubled.l0 k (B (p ++ c :: t)) (B s ++ B [c]) q' ((p.length : Int) + 1)) (B r) := by
      intro q' h r hr
      have := nx (s ++ [c]) q' (by simp) h
      rw [B_app, hr]
      simpa using this
    refine Ev.step (fun _ => spec_Doubled.l0.eq_2 _ _ _ _ _) (Ev.pos (by omega) (Ev.pos (by omega) ?_))
    rw [bm]
    have room : ∀ u v : List UInt8, u.length ≤ 1000 → v.length ≤ 1000 → (B u).size + (B v).size ≤ 9223372036854775807 := by
      intro u v hu hv; rw [B_size, B_size]; omega
    have sl : s.length ≤ 1000 := by omega
    have opened : (c.toNat : Int) = 39 ∨ (c.toNat : Int) = 34 → Ev (fun k => spec_Doubled.j1 k (B (p ++ c :: t)) (B s) q (p.length : Int) (c.toNat : Int) true) (B (s ++ c :: dbl t (c.toNat : Int))) := by
      intro h
      refine Ev.step (fun _ => spec_Doubled.j1.eq_2 _ _ _ _ _ _ _) (Ev.pos rfl ?_)
      rw [w1, ex]
      exact Ev.pos (by omega) (Ev.pos (by omega) (Ev.pos (by omega) (Ev.pos (room _ _ sl (by simp)) (one _ (.inr h) _ rfl))))
    have j2t : Ev (fun k => spec_Doubled.j2 k (B (p ++ c :: t)) (B s) q (p.length : Int) (c.toNat : Int) true) (B (s ++ c :: dbl t 0)) := by
      refine Ev.step (fun _ => spec_Doubled.j2.eq_2 _ _ _ _ _ _ _) (Ev.pos rfl ?_)
      rw [w1, ex]
      exact Ev.pos (by omega) (Ev.pos (by omega) (Ev.pos (by omega) (Ev.pos (room _ _ sl (by simp)) (one _ (.inl rfl) _ rfl))))
    have j2f : Ev (fun k => spec_Doubled.j2 k (B (p ++ c :: t)) (B s) q (p.length : Int) (c.toNat : Int) false) (B (s ++ (if q = 0 then c :: dbl t q else if c = 92 then 92 :: c :: dbl t q else c :: dbl t q))) := by
      refine Ev.step (fun _ => spec_Doubled.j2.eq_2 _ _ _ _ _ _ _) (Ev.neg (by simp) ?_)
      rw [w1, ex]
      by_cases h0 : q = 0
      · rw [if_pos h0]
        exact Ev.pos h0 (Ev.pos (by omega) (Ev.pos (by omega) (Ev.pos (by omega) (Ev.pos (room _ _ sl (by simp)) (one _ hq _ rfl)))))
      · rw [if_neg h0]
        refine Ev.neg h0 ?_
        by_cases h9 : (c.toNat : Int) = 92
        · rw [if_pos (b92.1 h9)]
          have e9 : (⟨#[92]⟩ : ByteArray) = B [92] := rfl
          refine Ev.pos h9 (Ev.pos (by rw [B_size]; omega) (Ev.pos (by omega) (Ev.pos (by omega) (Ev.pos (by omega) (Ev.pos (by rw [e9, B_app]; exact room _ _ (by simp; omega) (by simp)) ?_)))))
          rw [e9, B_app, B_app]
          have := nx ((s ++ [92]) ++ [c]) q (by simp) hq
          simpa using this
        · rw [if_neg (fun x => h9 (b92.2 x))]
          exact Ev.neg h9 (Ev.pos (by omega) (Ev.pos (by omega) (Ev.pos (by omega) (Ev.pos (room _ _ sl (by simp)) (one _ hq _ rfl)))))
    have j1f : Ev (fun k => spec_Doubled.j1 k (B (p ++ c :: t)) (B s) q (p.length : Int) (c.toNat : Int) false) (B (s ++ (if q = 0 then c :: dbl t q else if (c.toNat : Int) = q then c :: dbl t 0 else if c = 92 then 92 :: c :: dbl t q else c :: dbl t q))) := by
      refine Ev.step (fun _ => spec_Doubled.j1.eq_2 _ _ _ _ _ _ _) (Ev.neg (by simp) ?_)
      by_cases h0 : q = 0
      · refine Ev.pos h0 ?_
        simpa only [if_pos h0] using j2f
      · refine Ev.neg h0 ?_
        by_cases h : (c.toNat : Int) = q
        · rw [show ((c.toNat : Int) == q) = true from beq_iff_eq.2 h, if_neg h0, if_pos h]; exact j2t
        · rw [show ((c.toNat : Int) == q) = false from beq_eq_false_iff_ne.2 h, if_neg h0, if_neg h]
          simpa only [if_neg h0] using j2f
    by_cases h0 : q = 0
    · refine Ev.pos h0 ?_
      rw [dbl, if_pos h0]
      by_cases h3 : (c.toNat : Int) = 39
      · rw [if_pos (Or.inl (b39.1 h3))]
        exact Ev.pos h3 (opened (.inl h3))
      · refine Ev.neg h3 ?_
        by_cases h4 : (c.toNat : Int) = 34
        · rw [if_pos (Or.inr (b34.1 h4)), show ((c.toNat : Int) == 34) = true from beq_iff_eq.2 h4]
          exact opened (.inr h4)
        · rw [if_neg (fun x : c = 39 ∨ c = 34 => x.elim (fun x => h3 (b39.2 x)) (fun x => h4 (b34.2 x))), show ((c.toNat : Int) == 34) = false from beq_eq_false_iff_ne.2 h4]
          have := j1f
          rw [if_pos h0] at this
          rw [h0] at this ⊢
          exact this
    · refine Ev.neg h0 ?_
      rw [dbl, if_neg h0]
      simpa only [if_neg h0] using j1f
theorem FnLiterals : laws_FnLiterals.Pure := by
  intro a0 hsz
  obtain ⟨s, rfl⟩ := exists_B a0
  rw [B_size] at hsz
  refine Ev.rounds (g := fun k => laws_FnLiterals.f k (B s)) ?_
  by_cases hm : ((B s).size : Int) > 2147483647
  · exact Ev.pos hm (Ev.now _)
  refine Ev.neg hm ?_
  rw [B_size] at hm
  have last : Ev (fun k => (laws_ascii.f k (B s)).bind fun t126 => (if t126 = true then ((impl_EscapeStringLiterals.f k (B s)).bind fun t127 => ((spec_Doubled.f k (B s)).bind fun t128 => (if t127.toList = t128.toList then ((laws_awakeUtil.f k).bind fun t129 => (some t129)) else (some false)))) else (some true))) true := by
    obtain ⟨b, hb, hq⟩ := ascii_f s hsz
    refine Ev.bind hb ?_
    cases b
    · exact Ev.neg (by simp) (Ev.now _)
    · obtain ⟨h3, hc⟩ := hq rfl
      have l1 := lit_loop s [] [] false 0 (by simpa using h3) (by simp) (fun c h => (hc c h).2) (by simp)
      have l2 := Doubled_loop s [] [] 0 (by simpa using h3) (by simp) (.inl rfl)
      refine Ev.pos rfl (Ev.bind (a := B (dbl s 0)) (Ev.bind (a := B (dbl s 0)) ?_ (Ev.now _)) (Ev.bind (a := B (dbl s 0)) ?_ (Ev.pos rfl (Ev.bind awake (Ev.now _)))))
      · simpa [util_EscapeStringLiterals.f] using l1
      · exact l2
  have loop : ∀ (n : Nat) (i : Int), 1 ≤ i → i + n = s.length ∨ (n = 0 ∧ (s.length : Int) ≤ i) → i ≤ 2147483648 → Ev (fun k => laws_FnLiterals.l0 k (B s) i) true := by
    intro n
    induction n with
    | zero =>
      intro i h1 h2 _
      exact Ev.step (fun _ => laws_FnLiterals.l0.eq_2 _ _ _) (Ev.neg (by rw [B_size]; omega) last)
    | succ n ih =>
      intro i h1 h2 h3
      have hi : i < (s.length : Int) := by omega
      have nx := ih (i + 1) (by omega) (by omega) (by omega)
      refine Ev.step (fun _ => laws_FnLiterals.l0.eq_2 _ _ _) (Ev.pos (by rw [B_size]; omega) ?_)
      rw [w64 (x := i - 1) (by omega) (by omega), w64 (x := i + 1) (by omega) (by omega)]
      refine Ev.pos (by omega) (Ev.pos (by rw [B_size]; omega) ?_)
      by_cases h : bt (B s) (i - 1) = 92
      · refine Ev.pos h (Ev.pos (by omega) ?_)
        by_cases h9 : bt (B s) i = 39
        · exact Ev.pos h9 (Ev.bind awake (Ev.now _))
        · refine Ev.neg h9 ?_
          by_cases h4 : bt (B s) i = 34
          · exact Ev.pos h4 (Ev.bind awake (Ev.now _))
          · exact Ev.neg h4 nx
      · exact Ev.neg h nx
  by_cases h1 : 1 ≤ s.length
  · exact loop (s.length - 1) 1 (by omega) (by omega) (by omega)
  · exact loop 0 1 (by omega) (by omega) (by omega)

end Go.Proofs.Ytnbcohabllkneaa.Pure
