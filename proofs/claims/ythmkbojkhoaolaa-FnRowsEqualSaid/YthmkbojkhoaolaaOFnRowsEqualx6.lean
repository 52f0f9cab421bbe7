/- The machine side of laws.FnRowsEqual: each function of this text answers what its Lean function answers (written for this claim by a program of this session over the kit's print; no condition beyond what each theorem says). -/
import Derived.Test.YthmkbojkhoaolaaOFnRowsEqualx0
import Derived.Test.YthmkbojkhoaolaaOFnRowsEqualx1
namespace Go.Proofs.Ythmkbojkhoaolaa.PFnRowsEqual
open Go.RowKit Go.Proofs.YthmkbojkhoaolaaW.PrintWords Go.Proofs.YthmkbojkhoaolaaW.PrintLast Go.Proofs.YthmkbojkhoaolaaW.PrintMore
attribute [local go_sem] max2_int min2_int max_two min_two max_three min_three max_four min_four   -- for this text's walks alone
set_option linter.unusedVariables false
set_option linter.unusedSimpArgs false

/-! ### util_SortedArray2DEquals: function 39 -/
/-- row x stands ahead of row y, text by text -/
def rowLt : List ByteArray → List ByteArray → Bool
  | _, [] => false
  | [], _ :: _ => true
  | a :: x, b :: y => if a.toList = b.toList then rowLt x y else Op.bytesLess a.toList b.toList
theorem rowLt_step (x y : List ByteArray) (t : Int) (h0 : 0 ≤ t) (h1 : t < x.length) (h2 : t < y.length) : rowLt (x.drop t.toNat) (y.drop t.toNat) = if (rdOf ByteArray.empty x t).toList = (rdOf ByteArray.empty y t).toList then rowLt (x.drop (t.toNat + 1)) (y.drop (t.toNat + 1)) else Op.bytesLess (rdOf ByteArray.empty x t).toList (rdOf ByteArray.empty y t).toList := by
  have g1 : t.toNat < x.length := by omega
  have g2 : t.toNat < y.length := by omega
  have e1 : rdOf ByteArray.empty x t = x[t.toNat] := by simp [rdOf, List.getD_eq_getElem?_getD, g1]
  have e2 : rdOf ByteArray.empty y t = y[t.toNat] := by simp [rdOf, List.getD_eq_getElem?_getD, g2]
  rw [List.drop_eq_getElem_cons g1, List.drop_eq_getElem_cons g2, e1, e2]
  rfl
theorem rowLt_end (x y : List ByteArray) (t : Nat) (h : t ≤ x.length) (h2 : t ≤ y.length) (h3 : t = x.length ∨ t = y.length) : rowLt (x.drop t) (y.drop t) = decide (x.length < y.length) := by
  rcases Nat.lt_or_ge t y.length with g | g
  · obtain rfl : t = x.length := by omega
    rw [List.drop_length, List.drop_eq_getElem_cons g]
    have : x.length < y.length := by omega
    simp [rowLt, this]
  · obtain rfl : t = y.length := by omega
    rw [List.drop_length]
    have : ¬ x.length < y.length := by omega
    simp [rowLt, this]
set_option maxHeartbeats 8000000 in
set_option maxRecDepth 100000 in
/-- The closure that util.SortArray2D hands to sort.Slice: it reads two rows and answers rowLt. -/
theorem less_rows (Bs blk off size c : Nat) (W : World) (x y : List ByteArray) (Ax Ay : Option Addr) (cx cy i j : Nat) (hi : i < size) (hj : j < size)
    (hs : W.cell? ⟨Bs, 0, none⟩ = some (.slice (some ⟨blk, off, none⟩) size c)) (hx : W.cell? ⟨blk, off + i, none⟩ = some (.slice Ax x.length cx)) (hy : W.cell? ⟨blk, off + j, none⟩ = some (.slice Ay y.length cy))
    (hrx : Kd.C Kd.string W Ax x.length x) (hry : Kd.C Kd.string W Ay y.length y) (hlx : x.length < 9223372036854775808) (hly : y.length < 9223372036854775808) :
    Calls Try.prog 48 #[.int .i64 i, .int .i64 j, .pointer (some ⟨Bs, 0, none⟩)] W fun e w' => e = .returned (.bool (rowLt x y)) ∧ Drawn0 W w' := by
  have HRx := Aside0.mk hrx
  have HRy := Aside0.mk hry
  have HLX := Aside0.mk (And.intro hlx hly)
  clear hrx hry hlx hly
  go_enter Try.func48, Try.ntmps48
  by_cases c0 : (y.length : Int) < (x.length : Int)
  · have c0b0 : decide ((y.length : Int) < (x.length : Int)) = true := decide_eq_true c0
    have c0b1 : decide (y.length < x.length) = true := decide_eq_true (by omega)
    have HM := Aside0.mk (show ((y.length : Int) ≤ x.length ∧ (y.length : Int) ≤ y.length ∧ (y.length = x.length ∨ y.length = y.length)) from ⟨by omega, by omega, .inr rfl⟩)
    clear c0
    go_wp2
    repeat (go_quiet (fail); try go_wp2)
    obtain ⟨fk, hfk⟩ : ∃ f : Nat, f = y.length + 1 := ⟨_, rfl⟩
    go_loopg [7] fk (fun kq v7 w' => ∃ (x7_1 : Int), v7 = .int .i64 x7_1 ∧ Aside0 (0 ≤ x7_1 ∧ x7_1 ≤ (y.length : Int) ∧ rowLt (x.drop x7_1.toNat) (y.drop x7_1.toNat) = rowLt x y) ∧ Aside0 ((y.length : Int) + 1 ≤ x7_1 + kq) ∧ Drawn0 W w')
    case atStart => exact ⟨0, by first | rfl | (simp; done) | (simp [*]; done), ⟨by omega, by omega, rfl⟩, ⟨by rw [hfk]; push_cast; omega⟩, by repeat (first | exact Drawn0.refl _ | apply Drawn0.step)⟩
    case round =>
      clear hfk
      obtain ⟨x7_1, rfl, HI, HK, ⟨m1, rfl⟩⟩ := hrel
      cases gk with
      | zero => exact absurd HK.out (by have := HI.out; push_cast; omega)
      | succ k1 =>
        by_cases c4 : x7_1 < (y.length : Int)
        · have c4b0 : decide (x7_1 < (y.length : Int)) = true := decide_eq_true c4
          have p1 : 0 ≤ x7_1 := HI.out.1
          have q1 : x7_1 < (x.length : Int) := by have := HM.out; omega
          have q2 : x7_1 < (y.length : Int) := by have := HM.out; omega
          have HST := Aside0.mk (rowLt_step x y x7_1 p1 q1 q2)
          obtain ⟨ad1, e1, hx1⟩ := Kd.at_string HRx.out x7_1 p1 q1
          cases e1
          obtain ⟨ad2, e2, hx2⟩ := Kd.at_string HRy.out x7_1 p1 q2
          cases e2
          clear c4
          have d1 : decide (0 ≤ x7_1) = true := decide_eq_true p1
          have d2 : decide (x7_1 < (x.length : Int)) = true := decide_eq_true q1
          have d3 : decide (x7_1 < (y.length : Int)) = true := decide_eq_true q2
          by_cases c9 : (rdOf ByteArray.empty x x7_1).toList = (rdOf ByteArray.empty y x7_1).toList
          · have c9b0 : ((rdOf ByteArray.empty x x7_1).toList == (rdOf ByteArray.empty y x7_1).toList) = true := beq_iff_eq.mpr c9
            have c9b1 : ((rdOf ByteArray.empty x x7_1).toList != (rdOf ByteArray.empty y x7_1).toList) = false := bne_eq_false_iff_eq.mpr c9
            have HST2 := Aside0.mk (HST.out.trans (if_pos c9))
            clear c9 HST
            go_wp2
            repeat (go_quiet (fail); try go_wp2)
            go_roundg k1
            case measure => have := HK.out; omega
            case rel =>
              refine ⟨(wrap64 (x7_1 + 1)), (by first | rfl | (simp; done) | (simp [*]; done)), ?_, ?_, by repeat (first | exact Drawn0.refl _ | apply Drawn0.step)⟩
              · have e : wrap64 (x7_1 + 1) = x7_1 + 1 := by have := HLX.out; unfold wrap64; omega
                rw [e]
                refine ⟨by omega, by have := HM.out; have := of_decide_eq_true c4b0; omega, ?_⟩
                rw [show (x7_1 + 1).toNat = x7_1.toNat + 1 from by omega, ← HST2.out]
                exact HI.out.2.2
              · have e : wrap64 (x7_1 + 1) = x7_1 + 1 := by have := HLX.out; unfold wrap64; omega
                rw [e]
                exact ⟨by have := HK.out; push_cast at this ⊢; omega⟩
          · have c9b0 : ((rdOf ByteArray.empty x x7_1).toList == (rdOf ByteArray.empty y x7_1).toList) = false := beq_eq_false_iff_ne.mpr c9
            have c9b1 : ((rdOf ByteArray.empty x x7_1).toList != (rdOf ByteArray.empty y x7_1).toList) = true := bne_iff_ne.mpr c9
            have HR := Aside0.mk (HI.out.2.2.symm.trans (HST.out.trans (if_neg c9)))
            clear c9 HST
            go_wp2
            repeat (go_quiet (fail); try go_wp2)
            go_ret
            exact ⟨congrArg (fun b => Ending.returned (Value.bool b)) HR.out.symm, by repeat (first | exact Drawn0.refl _ | apply Drawn0.step)⟩
        · have c4b0 : decide (x7_1 < (y.length : Int)) = false := decide_eq_false c4
          have HR := Aside0.mk (HI.out.2.2.symm.trans (rowLt_end x y x7_1.toNat (by have := HM.out; have := HI.out; omega) (by have := HM.out; have := HI.out; omega) (by have := HM.out; have := HI.out; omega)))
          clear c4
          go_wp2
          repeat (go_quiet (fail); try go_wp2)
          go_ret
          exact ⟨congrArg (fun b => Ending.returned (Value.bool b)) HR.out.symm, by repeat (first | exact Drawn0.refl _ | apply Drawn0.step)⟩
  · have c0b0 : decide ((y.length : Int) < (x.length : Int)) = false := decide_eq_false c0
    have c0b1 : decide (y.length < x.length) = false := decide_eq_false (by omega)
    have HM := Aside0.mk (show ((x.length : Int) ≤ x.length ∧ (x.length : Int) ≤ y.length ∧ (x.length = x.length ∨ x.length = y.length)) from ⟨by omega, by omega, .inl rfl⟩)
    clear c0
    go_wp2
    repeat (go_quiet (fail); try go_wp2)
    obtain ⟨fk, hfk⟩ : ∃ f : Nat, f = x.length + 1 := ⟨_, rfl⟩
    go_loopg [7] fk (fun kq v7 w' => ∃ (x7_1 : Int), v7 = .int .i64 x7_1 ∧ Aside0 (0 ≤ x7_1 ∧ x7_1 ≤ (x.length : Int) ∧ rowLt (x.drop x7_1.toNat) (y.drop x7_1.toNat) = rowLt x y) ∧ Aside0 ((x.length : Int) + 1 ≤ x7_1 + kq) ∧ Drawn0 W w')
    case atStart => exact ⟨0, by first | rfl | (simp; done) | (simp [*]; done), ⟨by omega, by omega, rfl⟩, ⟨by rw [hfk]; push_cast; omega⟩, by repeat (first | exact Drawn0.refl _ | apply Drawn0.step)⟩
    case round =>
      clear hfk
      obtain ⟨x7_1, rfl, HI, HK, ⟨m1, rfl⟩⟩ := hrel
      cases gk with
      | zero => exact absurd HK.out (by have := HI.out; push_cast; omega)
      | succ k1 =>
        by_cases c4 : x7_1 < (x.length : Int)
        · have c4b0 : decide (x7_1 < (x.length : Int)) = true := decide_eq_true c4
          have p1 : 0 ≤ x7_1 := HI.out.1
          have q1 : x7_1 < (x.length : Int) := by have := HM.out; omega
          have q2 : x7_1 < (y.length : Int) := by have := HM.out; omega
          have HST := Aside0.mk (rowLt_step x y x7_1 p1 q1 q2)
          obtain ⟨ad1, e1, hx1⟩ := Kd.at_string HRx.out x7_1 p1 q1
          cases e1
          obtain ⟨ad2, e2, hx2⟩ := Kd.at_string HRy.out x7_1 p1 q2
          cases e2
          clear c4
          have d1 : decide (0 ≤ x7_1) = true := decide_eq_true p1
          have d2 : decide (x7_1 < (x.length : Int)) = true := decide_eq_true q1
          have d3 : decide (x7_1 < (y.length : Int)) = true := decide_eq_true q2
          by_cases c9 : (rdOf ByteArray.empty x x7_1).toList = (rdOf ByteArray.empty y x7_1).toList
          · have c9b0 : ((rdOf ByteArray.empty x x7_1).toList == (rdOf ByteArray.empty y x7_1).toList) = true := beq_iff_eq.mpr c9
            have c9b1 : ((rdOf ByteArray.empty x x7_1).toList != (rdOf ByteArray.empty y x7_1).toList) = false := bne_eq_false_iff_eq.mpr c9
            have HST2 := Aside0.mk (HST.out.trans (if_pos c9))
            clear c9 HST
            go_wp2
            repeat (go_quiet (fail); try go_wp2)
            go_roundg k1
            case measure => have := HK.out; omega
            case rel =>
              refine ⟨(wrap64 (x7_1 + 1)), (by first | rfl | (simp; done) | (simp [*]; done)), ?_, ?_, by repeat (first | exact Drawn0.refl _ | apply Drawn0.step)⟩
              · have e : wrap64 (x7_1 + 1) = x7_1 + 1 := by have := HLX.out; unfold wrap64; omega
                rw [e]
                refine ⟨by omega, by have := HM.out; have := of_decide_eq_true c4b0; omega, ?_⟩
                rw [show (x7_1 + 1).toNat = x7_1.toNat + 1 from by omega, ← HST2.out]
                exact HI.out.2.2
              · have e : wrap64 (x7_1 + 1) = x7_1 + 1 := by have := HLX.out; unfold wrap64; omega
                rw [e]
                exact ⟨by have := HK.out; push_cast at this ⊢; omega⟩
          · have c9b0 : ((rdOf ByteArray.empty x x7_1).toList == (rdOf ByteArray.empty y x7_1).toList) = false := beq_eq_false_iff_ne.mpr c9
            have c9b1 : ((rdOf ByteArray.empty x x7_1).toList != (rdOf ByteArray.empty y x7_1).toList) = true := bne_iff_ne.mpr c9
            have HR := Aside0.mk (HI.out.2.2.symm.trans (HST.out.trans (if_neg c9)))
            clear c9 HST
            go_wp2
            repeat (go_quiet (fail); try go_wp2)
            go_ret
            exact ⟨congrArg (fun b => Ending.returned (Value.bool b)) HR.out.symm, by repeat (first | exact Drawn0.refl _ | apply Drawn0.step)⟩
        · have c4b0 : decide (x7_1 < (x.length : Int)) = false := decide_eq_false c4
          have HR := Aside0.mk (HI.out.2.2.symm.trans (rowLt_end x y x7_1.toNat (by have := HM.out; have := HI.out; omega) (by have := HM.out; have := HI.out; omega) (by have := HM.out; have := HI.out; omega)))
          clear c4
          go_wp2
          repeat (go_quiet (fail); try go_wp2)
          go_ret
          exact ⟨congrArg (fun b => Ending.returned (Value.bool b)) HR.out.symm, by repeat (first | exact Drawn0.refl _ | apply Drawn0.step)⟩
/-- a slice's header: where it begins, its length, its capacity -/
abbrev Hdr := Option Addr × Nat × Nat
def Hdr.val (h : Hdr) : Value := .slice h.1 h.2.1 h.2.2
def header : Kd Hdr := Kd.scalar Hdr.val (fun _ => rfl)
/-- what headers lead to: rows of texts, told by the blocks ok -/
def Leads (w : World) (ok : Nat → Prop) (hs : List Hdr) (l : List (List ByteArray)) : Prop :=
  hs.length = l.length ∧ ∀ (j : Nat) (h : Hdr) (x : List ByteArray), hs[j]? = some h → l[j]? = some x → h.2.1 = x.length ∧ x.length ≤ h.2.2 ∧ Kd.F Kd.string w ok h.1 x.length x
theorem Leads.step {w w1 : World} {ok : Nat → Prop} {hs : List Hdr} {l : List (List ByteArray)} (h : Leads w ok hs l) (hm : ∀ k, ok k → k < w.heap.size → w1.heap[k]? = w.heap[k]?) : Leads w1 ok hs l :=
  ⟨h.1, fun j q x hq hx => ⟨(h.2 j q x hq hx).1, (h.2 j q x hq hx).2.1, Kd.F_step (h.2 j q x hq hx).2.2 hm⟩⟩
theorem Leads.mono {w : World} {ok ok' : Nat → Prop} {hs : List Hdr} {l : List (List ByteArray)} (h : Leads w ok hs l) (hm : ∀ k, ok k → ok' k) : Leads w ok' hs l :=
  ⟨h.1, fun j q x hq hx => ⟨(h.2 j q x hq hx).1, (h.2 j q x hq hx).2.1, Kd.F_mono (h.2 j q x hq hx).2.2 hm⟩⟩
theorem N_headers {w : World} {base : Nat} {ok : Nat → Prop} {v : Value} {l : List (List ByteArray)} (h : Kd.N (Kd.slice 9 Kd.string) 22 w base ok v l) :
    ∃ hs, header.R 22 w base (fun k => some k = v.ownBlock) v hs ∧ Leads w (fun k => ok k ∧ some k ≠ v.ownBlock) hs l ∧ ∀ k, v.ownBlock = some k → ok k := by
  obtain ⟨h0, rows, hl, ⟨hr0, inner, ho, hr⟩, hf⟩ := h
  have form : ∀ (j : Nat) (c : List Value), rows[j]? = some c → ∃ q : Hdr, c = [q.val] := by
    intro j c hc
    have hj : j < l.length := by rw [← hl]; exact (List.getElem?_eq_some_iff.1 hc).1
    obtain ⟨A, c', e, _, _⟩ := Foot.now (hf j l[j] c (List.getElem?_eq_getElem hj) hc)
    exact ⟨(A, l[j].length, c'), e⟩
  obtain ⟨hs, hhs⟩ : ∃ hs : List Hdr, rows = hs.map fun q => [q.val] := by
    clear hf hr hr0 ho h0 hl
    induction rows with
    | nil => exact ⟨[], rfl⟩
    | cons c rows ih =>
      obtain ⟨hs, e⟩ := ih (fun j c' hc => form (j + 1) c' (by simpa using hc))
      obtain ⟨q, e2⟩ := form 0 c rfl
      exact ⟨q :: hs, by rw [e, e2]; rfl⟩
  have hlen : hs.length = rows.length := by rw [hhs]; simp
  have at_ : ∀ (j : Nat) (q : Hdr), hs[j]? = some q → rows[j]? = some [q.val] := by
    intro j q hq
    rw [hhs, List.getElem?_map, hq]; rfl
  refine ⟨hs, ⟨fun k hk => hk.symm, inner, ?_, ?_, ?_⟩, ⟨by rw [hlen, hl], ?_⟩, h0⟩
  · rw [hlen]; exact ho
  · rw [hlen]; exact hr.1
  · intro j q hq
    exact (hr.2 j _ (at_ j q hq)).1
  · intro j q x hq hx
    have hf1 := hf j x _ hx (at_ j q hq)
    obtain ⟨A, c', e, hc, hC⟩ := Foot.now hf1
    have e1 : q = (A, x.length, c') := by
      obtain ⟨q1, q2, q3⟩ := q
      simp only [Hdr.val, List.cons.injEq, and_true] at e
      injection e with e1 e2 e3
      rw [e1, e2, e3]
    subst e1
    refine ⟨rfl, hc, Foot.imp hf1 ?_⟩
    intro W' hK
    obtain ⟨A2, c2, e2, _, hC2⟩ := hK
    simp only [Hdr.val, List.cons.injEq, and_true] at e2
    injection e2 with e3 _ _
    rw [e3]; exact hC2
theorem headers_N {w : World} {base : Nat} {ok okv : Nat → Prop} {v : Value} {hs : List Hdr} {l : List (List ByteArray)} (hR : header.R 22 w base okv v hs) (hL : Leads w (fun k => ok k ∧ some k ≠ v.ownBlock) hs l) (h0 : ∀ k, v.ownBlock = some k → ok k) :
    Kd.N (Kd.slice 9 Kd.string) 22 w base ok v l := by
  obtain ⟨_, inner, ho, hr⟩ := hR
  refine ⟨h0, hs.map fun q => [q.val], by rw [List.length_map]; exact hL.1, ⟨fun k hk => hk.symm, inner, ?_, ?_, ?_⟩, ?_⟩
  · rw [List.length_map]; exact ho
  · rw [List.length_map]; exact hr.1
  · intro j c hc
    rw [List.getElem?_map] at hc
    obtain ⟨q, hq, rfl⟩ := Option.map_eq_some_iff.1 hc
    have e : (inner.drop (j * 1)).take 1 = [q.val] := hr.2 j q hq
    refine ⟨e, ?_, fun u hu => ?_⟩
    · show ((inner.drop (j * 1)).take 1).length = 1
      rw [e]; rfl
    · have hu2 : u ∈ (inner.drop (j * 1)).take 1 := hu
      rw [e] at hu2
      rw [List.mem_singleton.1 hu2]; rfl
  · intro j x c hx hc
    rw [List.getElem?_map] at hc
    obtain ⟨q, hq, rfl⟩ := Option.map_eq_some_iff.1 hc
    obtain ⟨e1, e2, hF⟩ := hL.2 j q x hq hx
    obtain ⟨q1, q2, q3⟩ := q
    simp only at e1 e2 hF
    subst e1
    exact Foot.imp hF (fun W' hC => ⟨q1, q3, rfl, e2, hC⟩)
/-- headers of a row that is read -/
theorem C_headers {w : World} {A : Option Addr} {n : Nat} {l : List (List ByteArray)} (h : Kd.C (Kd.slice 9 Kd.string) w A n l) (hH : Kd.Heap Kd.string) :
    ∃ hs, header.C w A n hs ∧ Leads w (fun k => k < w.heap.size) hs l := by
  obtain ⟨hl, hm, hrow⟩ := h
  have each : ∀ j x, l[j]? = some x → ∃ q : Hdr, q.2.1 = x.length ∧ x.length ≤ q.2.2 ∧ Kd.F Kd.string w (fun k => k < w.heap.size) q.1 x.length x ∧ ∀ ad, A = some ad → w.cell? (ad.add (j * 1 + 0)) = some q.val := by
    intro j x hx
    have hj := (List.getElem?_eq_some_iff.1 hx).1
    obtain ⟨ad, rfl, hc⟩ := hrow (by omega)
    obtain ⟨cs, hcl, ⟨A', c', rfl, hle, hC⟩, hcell⟩ := hc j x hx
    exact ⟨(A', x.length, c'), rfl, hle, Kd.C_F hH hC, fun ad' e => by injection e with e; subst e; exact hcell 0 _ rfl⟩
  obtain ⟨hs, hhl, hhs⟩ : ∃ hs : List Hdr, hs.length = l.length ∧ ∀ j q x, hs[j]? = some q → l[j]? = some x → q.2.1 = x.length ∧ x.length ≤ q.2.2 ∧ Kd.F Kd.string w (fun k => k < w.heap.size) q.1 x.length x ∧ ∀ ad, A = some ad → w.cell? (ad.add (j * 1 + 0)) = some q.val := by
    have gen : ∀ (l' : List (List ByteArray)) (o : Nat), (∀ j x, l'[j]? = some x → ∃ q : Hdr, q.2.1 = x.length ∧ x.length ≤ q.2.2 ∧ Kd.F Kd.string w (fun k => k < w.heap.size) q.1 x.length x ∧ ∀ ad, A = some ad → w.cell? (ad.add ((j + o) * 1 + 0)) = some q.val) →
        ∃ hs : List Hdr, hs.length = l'.length ∧ ∀ j q x, hs[j]? = some q → l'[j]? = some x → q.2.1 = x.length ∧ x.length ≤ q.2.2 ∧ Kd.F Kd.string w (fun k => k < w.heap.size) q.1 x.length x ∧ ∀ ad, A = some ad → w.cell? (ad.add ((j + o) * 1 + 0)) = some q.val := by
      intro l'
      induction l' with
      | nil => intro o _; exact ⟨[], rfl, fun j q x hq => by simp at hq⟩
      | cons x l' ih =>
        intro o he
        obtain ⟨q, hq⟩ := he 0 x rfl
        obtain ⟨hs, h1, h2⟩ := ih (o + 1) (fun j y hy => by
          have := he (j + 1) y (by simpa using hy)
          rwa [show j + 1 + o = j + (o + 1) from by omega] at this)
        refine ⟨q :: hs, by simp [h1], fun j q' y hq' hy => ?_⟩
        cases j with
        | zero =>
          simp only [List.getElem?_cons_zero, Option.some.injEq] at hq' hy
          subst hq'; subst hy
          exact hq
        | succ j =>
          simp only [List.getElem?_cons_succ] at hq' hy
          have := h2 j q' y hq' hy
          rwa [show j + (o + 1) = j + 1 + o from by omega] at this
    obtain ⟨hs, h1, h2⟩ := gen l 0 (fun j x hx => each j x hx)
    exact ⟨hs, h1, fun j q x hq hx => h2 j q x hq hx⟩
  refine ⟨hs, ⟨by rw [hhl]; exact hl, hm, fun hp => ?_⟩, hhl, fun j q x hq hx => ⟨(hhs j q x hq hx).1, (hhs j q x hq hx).2.1, (hhs j q x hq hx).2.2.1⟩⟩
  obtain ⟨ad, rfl, _⟩ := hrow hp
  refine ⟨ad, rfl, fun j q hq => ⟨[q.val], rfl, rfl, fun i u hu => ?_⟩⟩
  have hj := (List.getElem?_eq_some_iff.1 hq).1
  cases i with
  | zero =>
    simp only [List.getElem?_cons_zero, Option.some.injEq] at hu
    subst hu
    exact (hhs j q l[j] hq (List.getElem?_eq_getElem (by omega))).2.2.2 ad rfl
  | succ i => simp at hu
section
open Go.Sort
variable {α : Type} [Inhabited α]
theorem holds_blk (enc : α → Value) {w : World} {g : Nat} {cur : Array Value} {e : TypeId} {ss : List α} (hb : w.heap[g]? = some (.cells cur e (0, 0))) (ht : cur.toList.take ss.length = ss.map enc) : Holds enc w g 0 ss.toArray := by
  intro j hj
  have hj' : j < ss.length := by simpa using hj
  refine ⟨?_, by simp [World.frozen?, hb]⟩
  have h1 : (cur.toList.take ss.length)[j]? = (ss.map enc)[j]? := by rw [ht]
  rw [List.getElem?_take_of_lt hj'] at h1
  simp only [World.cell?, hb, Nat.zero_add]
  simp only [Option.isSome_none, Bool.false_eq_true, if_false]
  rw [← Array.getElem?_toList, h1]
  simp [hj']
theorem heap_srt (enc : α → Value) {w : World} {g n : Nat} {os : Array Obj} {cur : Array Value} {e : TypeId} {fr : Nat × Nat} (d : Array α) (hb : w.heap[g]? = some (.cells cur e fr)) :
    (grow (putRow enc (Sort.ahead w n) g 0 d) os).heap[g]? = some (.cells (putCells enc 0 d cur) e fr) := by
  have hg : g < w.heap.size := (Array.getElem?_eq_some_iff.1 hb).1
  rw [heap_grow_old _ _ (by simpa using hg)]
  simp [putRow, mapBlock, Sort.ahead, Array.getElem?_modify, hb, onCells]
theorem grownBy_srt (enc : α → Value) {w : World} {g n : Nat} {os : Array Obj} (d : Array α) : w.grownBy (grow (putRow enc (Sort.ahead w n) g 0 d) os) (some g) := by
  refine ⟨rfl, rfl, rfl, by simp, fun k hk hne => ?_⟩
  rw [heap_grow_old _ _ (by simpa using hk)]
  have : g ≠ k := fun e => hne (by rw [e])
  simp [putRow, mapBlock, Sort.ahead, Array.getElem?_modify, this]
theorem take_put (enc : α → Value) (cur : Array Value) (ts : List α) (h : ts.length ≤ cur.size) : (putCells enc 0 ts.toArray cur).toList.take ts.length = ts.map enc := by
  apply List.ext_getElem?
  intro j
  by_cases hj : j < ts.length
  · rw [List.getElem?_take_of_lt hj, Array.getElem?_toList]
    simp [putCells, hj, show j < cur.size by omega]
  · rw [List.getElem?_take_eq_none (by omega), List.getElem?_eq_none (by simp; omega)]
theorem owns_srt (enc : α → Value) {w : World} {base g cap n m : Nat} {e : TypeId} {os : Array Obj} {cur : Array Value} {ts : List α} (hl : ts.length = m) (hbase : base ≤ g) (hb : w.heap[g]? = some (.cells cur e (0, 0)))
    (h1 : m ≤ cap) (h2 : cap ≤ maxLen) (h3 : cur.size = cap * 1) :
    (grow (putRow enc (Sort.ahead w n) g 0 ts.toArray) os).ownsRow base e 1 (.slice (some ⟨g, 0, none⟩) m cap) m (ts.map enc) :=
  ⟨by simp [hl], .inr ⟨g, cap, _, rfl, hbase, heap_srt enc _ hb, h1, h2, by simp [putCells, h3], by rw [Nat.mul_one, ← hl]; exact take_put enc cur ts (by omega)⟩⟩
end
/-- a row as lists of bytes -/
def bs (x : List ByteArray) : List (List UInt8) := x.map (·.data.toList)
theorem rowLt_iff : ∀ x y : List ByteArray, rowLt x y = decide (bs x < bs y)
  | [], [] => by simp [rowLt, bs]
  | _ :: _, [] => by simp [rowLt, bs]
  | [], _ :: _ => by simp [rowLt, bs]
  | a :: x, b :: y => by
    have ih := rowLt_iff x y
    unfold rowLt bs
    simp only [List.map_cons, List.cons_lt_cons_iff]
    rw [ByteArray.toList_eq, ByteArray.toList_eq, bytesLess_eq]
    by_cases h : a.data.toList = b.data.toList
    · rw [if_pos h, ih, h]
      have n : ¬ b.data.toList < b.data.toList := List.lt_irrefl _
      rw [decide_eq_decide]
      exact ⟨fun z => .inr ⟨rfl, z⟩, fun z => z.elim (fun q => absurd q n) (fun q => q.2)⟩
    · rw [if_neg h]
      simp [h]
theorem bs_inj {x y : List ByteArray} (h : bs x = bs y) : x = y := by
  unfold bs at h
  have h2 := congrArg (List.map fun b : List UInt8 => (⟨b.toArray⟩ : ByteArray)) h
  simpa [List.map_map, Function.comp_def] using h2
theorem swo_row : Go.Sort.SWO rowLt where
  irrefl := fun x => by rw [rowLt_iff]; exact decide_eq_false (List.lt_irrefl _)
  trans := fun x y z h1 h2 => by
    rw [rowLt_iff] at h1 h2 ⊢
    exact decide_eq_true (List.lt_trans (of_decide_eq_true h1) (of_decide_eq_true h2))
  ntrans := fun x y z h1 h2 => by
    rw [rowLt_iff] at h1 h2 ⊢
    exact decide_eq_false (List.not_lt.2 (List.le_trans (List.not_lt.1 (of_decide_eq_false h2)) (List.not_lt.1 (of_decide_eq_false h1))))
theorem rowLt_anti {x y : List ByteArray} (h1 : rowLt x y = false) (h2 : rowLt y x = false) : x = y := by
  rw [rowLt_iff] at h1 h2
  exact bs_inj (List.le_antisymm (List.not_lt.1 (of_decide_eq_false h2)) (List.not_lt.1 (of_decide_eq_false h1)))
/-- rows in order, text by text -/
def sortR (l : List (List ByteArray)) : List (List ByteArray) := l.mergeSort fun x y => !rowLt y x
theorem sortR_perm (l : List (List ByteArray)) : (sortR l).Perm l := List.mergeSort_perm l _
theorem sortR_length (l : List (List ByteArray)) : (sortR l).length = l.length := (sortR_perm l).length_eq
theorem sortR_sorted (l : List (List ByteArray)) : (sortR l).Pairwise fun x y => rowLt y x = false := by
  have h := List.pairwise_mergeSort (le := fun x y => !rowLt y x) (fun x y z h1 h2 => by
    simp only [Bool.not_eq_true'] at h1 h2 ⊢
    exact swo_row.ntrans _ _ _ h2 h1) (fun x y => by
    cases h : rowLt y x
    · simp
    · have : rowLt x y = false := by
        cases g : rowLt x y
        · rfl
        · have := swo_row.trans _ _ _ h g
          rw [swo_row.irrefl] at this; cases this
      simp [this]) l
  exact h.imp (fun h => by simpa using h)
theorem sortR_unique {l l' : List (List ByteArray)} (hp : l'.Perm l) (hs : l'.Pairwise fun x y => rowLt y x = false) : l' = sortR l :=
  List.Perm.eq_of_pairwise (le := fun x y => rowLt y x = false) (fun x y _ _ h1 h2 => rowLt_anti h2 h1) hs (sortR_sorted l) (hp.trans (sortR_perm l).symm)
noncomputable def siT : TypeInfo := (Try.prog.info? 30).get (by kernel_rfl)
noncomputable def siE : TypeInfo := (Try.prog.info? 22).get (by kernel_rfl)
theorem siK (n : Nat) (h2 : 2 ≤ n) : Lib.swapperK n siE 23 = 9 := by
  have a : siE.hasPointers = true := by kernel_rfl
  have b : siE.bytes = 24 := by kernel_rfl
  have c : (n == 0) = false := by simp; omega
  have d : (n == 1) = false := by simp; omega
  simp [Lib.swapperK, a, b, c, d]
def util_SortArray2D.f (l : List (List ByteArray)) : Option Unit := if l.length < 4611686018427387904 then some () else none
section
open Go.Shelf Go.Lib Go.Sort
/-- the order of the places: by the rows that lie there -/
def ltI (l : List (List ByteArray)) (i j : Fin l.length) : Bool := rowLt (l.get i) (l.get j)
theorem swo_I (l : List (List ByteArray)) : SWO (ltI l) where
  irrefl := fun _ => swo_row.irrefl _
  trans := fun _ _ _ h1 h2 => swo_row.trans _ _ _ h1 h2
  ntrans := fun _ _ _ h1 h2 => swo_row.ntrans _ _ _ h1 h2
set_option maxHeartbeats 8000000 in
set_option maxRecDepth 100000 in
/-- sort.Slice over headers that lead to rows: two or more -/
theorem sort_many (w : World) (g cap : Nat) (cur : Array Value) (hs : List Hdr) (l : List (List ByteArray)) (ok : Nat → Prop) (h2 : 2 ≤ l.length) (h62 : l.length < 4611686018427387904)
    (hb : w.heap[g]? = some (.cells cur 22 (0, 0))) (ht : cur.toList.take hs.length = hs.map Hdr.val) (hL : Leads w ok hs l) (hok : ∀ k, ok k → k ≠ g) (box : Obj) (hbox : box = .cells #[.slice (some ⟨g, 0, none⟩) l.length cap] 30 (0, 0)) :
    Calls Try.prog 47 #[.iface 30 (.slice (some ⟨g, 0, none⟩) l.length cap), .func (.func 48) #[] #[.pointer (some ⟨w.heap.size, 0, none⟩)]] (w.alloc box) fun e w' =>
      e = .returned (.tuple #[]) ∧ ∃ (hs' : List Hdr) (is : List (Fin l.length)) (n : Nat) (os : Array Obj), is.Perm (List.finRange l.length) ∧ is.map l.get = sortR l ∧ hs'.length = hs.length ∧ (∀ (j : Nat) (i : Fin l.length), is[j]? = some i → hs'[j]? = hs[i.val]?) ∧ w' = grow (putRow Hdr.val (Sort.ahead (w.alloc box) n) g 0 hs'.toArray) os := by
  have hg : g < w.heap.size := (Array.getElem?_eq_some_iff.1 hb).1
  have hlen : hs.length = l.length := hL.1
  letI inst : Inhabited (Fin l.length) := ⟨⟨0, by omega⟩⟩
  letI instH : Inhabited Hdr := ⟨(none, 0, 0)⟩
  obtain ⟨enc, henc⟩ : ∃ enc : Fin l.length → Value, enc = fun i => (hs.getD i.val (none, 0, 0)).val := ⟨_, rfl⟩
  have enc1 : ∀ x, (enc x).oneCell' = true := fun x => by rw [henc]; rfl
  obtain ⟨d, hd⟩ : ∃ d : Array (Fin l.length), d = (List.finRange l.length).toArray := ⟨_, rfl⟩
  have hds : d.size = l.length := by rw [hd]; simp
  have hmap : (List.finRange l.length).map enc = hs.map Hdr.val := by
    apply List.ext_getElem (by simp [hlen])
    intro j h1 h3
    simp only [List.length_map, List.length_finRange] at h1
    simp [henc, List.getD_eq_getElem?_getD, List.getElem?_eq_getElem (show j < hs.length by omega)]
  have hb1 : (w.alloc box).heap[g]? = some (.cells cur 22 (0, 0)) := (Below.heap_alloc w box g hg).trans hb
  have hgb : g < (w.alloc box).heap.size := (Array.getElem?_eq_some_iff.1 hb1).1
  have hH1 : Holds enc (w.alloc box) g 0 d := by
    rw [hd]
    refine holds_blk enc hb1 ?_
    rw [hmap, List.length_finRange, ← hlen]; exact ht
  have hboxc : (w.alloc box).cell? ⟨w.heap.size, 0, none⟩ = some (.slice (some ⟨g, 0, none⟩) l.length cap) := by subst hbox; simp
  have hless : LessReads Try.prog 48 #[.pointer (some ⟨w.heap.size, 0, none⟩)] enc (ltI l) g 0 d.size (w.alloc box) := by
    intro m os dk hs2 i j hi hj
    have e : sortWorld enc (w.alloc box) g 0 m dk os = putRow enc (grow (Sort.ahead (w.alloc box) m) os) g 0 dk := by
      unfold sortWorld; rw [putRow_grow _ (Sort.ahead (w.alloc box) m) _ g 0 _ hgb]
    have hHg : Holds enc (grow (Sort.ahead (w.alloc box) m) os) g 0 d := holds_grow _ _ _ g 0 d hgb (holds_ahead _ _ _ _ _ _ hH1)
    have old : ∀ k, k < w.heap.size → k ≠ g → (sortWorld enc (w.alloc box) g 0 m dk os).heap[k]? = w.heap[k]? := by
      intro k hk hne
      have := (grownBy_srt (n := m) (os := os) (w := w.alloc box) (g := g) enc dk).block k (by simp; omega) (by simpa using hne)
      rw [show sortWorld enc (w.alloc box) g 0 m dk os = grow (putRow enc (Sort.ahead (w.alloc box) m) g 0 dk) os from rfl, this]
      exact Below.heap_alloc w box k hk
    have at_ : ∀ p : Fin l.length, ∃ A c, enc p = .slice A (l.get p).length c ∧ Kd.C Kd.string (sortWorld enc (w.alloc box) g 0 m dk os) A (l.get p).length (l.get p) := by
      intro p
      have hp : p.val < hs.length := by rw [hlen]; exact p.isLt
      obtain ⟨e1, e2, hF⟩ := hL.2 p.val hs[p.val] (l.get p) (List.getElem?_eq_getElem hp) (by simp)
      refine ⟨hs[p.val].1, hs[p.val].2.2, ?_, ?_⟩
      · rw [henc]
        simp only [List.getD_eq_getElem?_getD, List.getElem?_eq_getElem hp, Option.getD_some, Hdr.val, e1]
      · exact hF _ (fun k hk hlt => old k hlt (hok k hk))
    have cellat : ∀ t, t < d.size → (sortWorld enc (w.alloc box) g 0 m dk os).cell? ⟨g, 0 + t, none⟩ = some (enc dk[t]!) := by
      intro t ht
      rw [e]; exact cell?_putRow _ _ g 0 d dk hHg hs2 t (by omega)
    obtain ⟨Ai, ci, ei, hCi⟩ := at_ dk[i]!
    obtain ⟨Aj, cj, ej, hCj⟩ := at_ dk[j]!
    refine (less_rows w.heap.size g 0 d.size cap _ (l.get dk[i]!) (l.get dk[j]!) Ai Aj ci cj i j hi hj ?_ ?_ ?_ hCi hCj (by have := hCi.2.1; omega) (by have := hCj.2.1; omega)).mono ?_
    · rw [e, cell?_putRow_other _ _ g 0 dk _ (Or.inl (by show w.heap.size ≠ g; omega)), cell?_grow _ _ _ (by show w.heap.size < (w.alloc box).heap.size; simp)]
      rw [hds]; exact hboxc
    · rw [cellat i hi, ei]
    · rw [cellat j hj, ej]
    · rintro e w' ⟨rfl, q, rfl⟩
      exact ⟨rfl, q, rfl⟩
  have hS := Any.sort_Slice_sorted Try.laysGg6 30 22 siT siE (by kernel_rfl) (by kernel_rfl) (by kernel_rfl) (by kernel_rfl) 23 (fun _ => by kernel_rfl) (by kernel_rfl) (fun _ => by kernel_rfl) enc enc1 (ltI l) (swo_I l) 48 _
    (enters_of Try.func48 (by kernel_rfl) rfl) g 0 cap d (by omega) (by omega) 75 (by rw [siK _ (by omega)]; kernel_rfl) false
    (fun args W => run_callFunc_extern Try.func75 (by kernel_rfl) (by kernel_rfl) (by kernel_rfl) (e := Extern.ReflectliteSwapper.swap false) (by kernel_rfl) args W) (w.alloc box) hless hH1 hgb
  rw [hds] at hS
  refine Calls.mono (show Calls Try.prog 47 _ _ _ from hS) ?_
  rintro e w' ⟨rfl, d', n, os, ⟨hsz, _, hperm⟩, hso, rfl⟩
  have full : ∀ z : Array (Fin l.length), z.size = l.length → z.extract 0 l.length = z := fun z hz => by
    apply Array.ext
    · simp; omega
    · intro i h1 h2; simp
  have e1 : d'.extract 0 l.length = d' := full d' (hsz.trans hds)
  rw [e1] at hperm
  have e2 : (d.extract 0 l.length).toList = List.finRange l.length := by rw [full d hds, hd]
  rw [e2] at hperm
  have hdl : d'.toList.length = l.length := by rw [hperm.length_eq]; simp
  refine ⟨rfl, d'.toList.map fun i => hs.getD i.val (none, 0, 0), d'.toList, n, os, hperm, ?_, ?_, ?_, ?_⟩
  · apply sortR_unique
    · have := hperm.map l.get
      rwa [show (List.finRange l.length).map l.get = l from List.ext_getElem (by simp) (fun i h1 h2 => by simp)] at this
    · rw [List.pairwise_map]
      rw [List.pairwise_iff_getElem]
      intro i j hi hj hij
      have := hso i j (Nat.zero_le _) hij (by omega)
      rw [getElem!_pos d' j (by simpa using hj), getElem!_pos d' i (by simpa using hi)] at this
      simpa [ltI] using this
  · rw [List.length_map, hdl, hlen]
  · intro j i hi
    rw [List.getElem?_map, hi]
    have hp : i.val < hs.length := by rw [hlen]; exact i.isLt
    simp [List.getElem?_eq_getElem hp]
  · have ep : ∀ W : World, putRow enc W g 0 d' = putRow Hdr.val W g 0 (d'.toList.map fun i => hs.getD i.val (none, 0, 0)).toArray := by
      intro W
      unfold putRow
      congr 1
      funext c
      unfold putCells
      apply Array.ext_getElem?
      intro k
      simp only [Array.getElem?_mapIdx]
      cases c[k]? with
      | none => rfl
      | some x =>
        simp only [Option.map_some, List.size_toArray, List.length_map, Array.length_toList]
        congr 1
        by_cases hk : 0 ≤ k ∧ k < 0 + d'.size
        · rw [if_pos hk, if_pos hk]
          have hk2 : k < d'.size := by omega
          simp only [Nat.sub_zero]
          rw [getElem!_pos d' k hk2]
          simp [henc, hk2]
        · rw [if_neg hk, if_neg hk]
    rw [ep]
theorem grown_grow (w : World) (os : Array Obj) (row : Option Nat) : w.grownBy (grow w os) row := ⟨rfl, rfl, rfl, by simp, fun k hk _ => heap_grow_old _ _ hk⟩
theorem sortR_short {l : List (List ByteArray)} (h : l.length ≤ 1) : sortR l = l := by
  match l, h with
  | [], _ => simp [sortR]
  | [x], _ => simp [sortR]
set_option maxHeartbeats 8000000 in
set_option maxRecDepth 100000 in
/-- util.SortArray2D: the row of headers, which the caller made, holds the rows in order. -/
theorem util_SortArray2D.own (v : Value) (l : List (List ByteArray)) (w0 w : World) (ok : Nat → Prop) (h : Kd.N (Kd.slice 9 Kd.string) 22 w w0.heap.size ok v l) (hB : Below w0.heap.size w0 w) (hf : util_SortArray2D.f l = some ()) :
    Calls Try.prog 37 #[v] w fun e w' => e = .returned (.tuple #[]) ∧ Kd.N (Kd.slice 9 Kd.string) 22 w' w0.heap.size ok v (sortR l) ∧ Below w0.heap.size w0 w' ∧ w.grownBy w' v.ownBlock := by
  have h62 : l.length < 4611686018427387904 := by
    unfold util_SortArray2D.f at hf
    by_cases g : l.length < 4611686018427387904
    · exact g
    · rw [if_neg g] at hf; cases hf
  clear hf
  obtain ⟨hs, hR, hL, h0⟩ := N_headers h
  have hlen := hL.1
  have ho := Kd.own_of_R hR
  have HN := Aside0.mk h
  have HB := Aside0.mk hB
  have HL := Aside0.mk hL
  have hbs : w0.heap.size ≤ w.heap.size := below_size hB
  clear h hB hL
  have done_ : ∀ (box : Obj) (os : Array Obj), l.length ≤ 1 → Kd.N (Kd.slice 9 Kd.string) 22 (grow (w.alloc box) os) w0.heap.size ok v (sortR l) ∧ Below w0.heap.size w0 (grow (w.alloc box) os) ∧ w.grownBy (grow (w.alloc box) os) v.ownBlock := by
    intro box os h1
    rw [sortR_short h1, alloc_eq_grow, grow_grow]
    exact ⟨Kd.N_grown HN.out (grown_grow w _ none) (fun _ _ => by simp), HB.out.grown (grown_grow w _ none) hbs (fun k hk => by cases hk), grown_grow w _ _⟩
  rcases ho.2 with ⟨rfl, hn⟩ | ⟨g, cap, cur, rfl, hbase, hb, h1, h2, h3, h4⟩
  · have hl0 : l = [] := List.eq_nil_of_length_eq_zero (by omega)
    subst hl0
    go_enter Try.func37, Try.ntmps37
    go_wp2
    (try simp only [Exit.inBlock, Exit.then])
    refine bodyPost_ret (results_none rfl _ _ _) rfl ?_
    have := done_ (.cells #[.slice none 0 0] 30 (0, 0)) #[] (by simp)
    rw [grow_empty] at this
    exact ⟨rfl, this⟩
  · have hv : Value.slice (some ⟨g, 0, none⟩) hs.length cap = .slice (some ⟨g, 0, none⟩) l.length cap := by rw [hlen]
    rw [hv] at HN HL h0 done_ ⊢
    rcases Nat.eq_zero_or_pos l.length with hz | hp
    · have hl0 : l = [] := List.eq_nil_of_length_eq_zero hz
      subst hl0
      go_enter Try.func37, Try.ntmps37
      go_wp2
      (try simp only [Exit.inBlock, Exit.then])
      refine bodyPost_ret (results_none rfl _ _ _) rfl ?_
      have := done_ (.cells #[.slice (some ⟨g, 0, none⟩) ([] : List (List ByteArray)).length cap] 30 (0, 0)) #[] (by simp)
      rw [grow_empty] at this
      exact ⟨rfl, this⟩
    have c0 : ((l.length : Int) == 0) = false := beq_eq_false_iff_ne.mpr (by omega)
    have c1 : (l.length == 0) = false := beq_eq_false_iff_ne.mpr (by omega)
    have c2 : ¬ l = [] := by rintro rfl; simp at hp
    rcases Nat.lt_or_ge l.length 2 with hs1 | hs2
    · have hK : Lib.swapperK l.length siE 23 = 2 := by
        have e : l.length = 1 := by omega
        rw [e]; simp [Lib.swapperK]
      have hS := fun W => Any.sort_Slice_tiny Try.laysGg6 30 22 siT siE (by kernel_rfl) (by kernel_rfl) (by kernel_rfl) (by kernel_rfl) 23 (fun _ => by kernel_rfl) (some ⟨g, 0, none⟩) l.length cap (by omega) 68 (by rw [hK]; kernel_rfl)
        (.func 48) #[] #[.pointer (some ⟨w.heap.size, 0, none⟩)] W
      go_enter Try.func37, Try.ntmps37
      go_wp2_with (go_at_call 47; refine (hS _).mono ?_; rintro e w' ⟨rfl, os, rfl⟩)
      go_end0
      exact ⟨rfl, done_ _ os (by omega)⟩
    · have hS := sort_many w g cap cur hs l (fun k => ok k ∧ some k ≠ (Value.slice (some ⟨g, 0, none⟩) l.length cap).ownBlock) hs2 h62 hb (by rw [Nat.mul_one] at h4; rw [h4]; rfl) HL.out (fun k hk e => hk.2 (by rw [e]; simp [Value.ownBlock])) _ rfl
      go_enter Try.func37, Try.ntmps37
      go_wp2_with (go_at_call 47; refine hS.mono ?_; rintro e w' ⟨rfl, hs', is, n, os, hper, hsr, hsl, hat, rfl⟩)
      go_end0
      have hgr : w.grownBy (grow (putRow Hdr.val (Sort.ahead (w.alloc (.cells #[.slice (some ⟨g, 0, none⟩) l.length cap] 30 (0, 0))) n) g 0 hs'.toArray) os) (some g) := by
        letI instH : Inhabited Hdr := ⟨(none, 0, 0)⟩
        have e : grow (putRow Hdr.val (Sort.ahead (w.alloc (.cells #[.slice (some ⟨g, 0, none⟩) l.length cap] 30 (0, 0))) n) g 0 hs'.toArray) os = grow (putRow Hdr.val (Sort.ahead w n) g 0 hs'.toArray) (#[.cells #[.slice (some ⟨g, 0, none⟩) l.length cap] 30 (0, 0)] ++ os) := by
          rw [alloc_eq_grow, ahead_grow, putRow_grow _ (Sort.ahead w n) _ g 0 _ (Array.getElem?_eq_some_iff.1 hb).1, grow_grow]
        rw [e]
        exact grownBy_srt Hdr.val hs'.toArray
      refine ⟨rfl, ?_, HB.out.grown hgr hbs (fun k hk => by injection hk with hk; omega), by simpa [Value.ownBlock] using hgr⟩
      have hLl : hs'.length = l.length := by rw [hsl, hlen]
      have isl : is.length = l.length := by rw [hper.length_eq]; simp
      letI instH : Inhabited Hdr := ⟨(none, 0, 0)⟩
      have hown := owns_srt Hdr.val (n := n) (os := os) (w := w.alloc (.cells #[.slice (some ⟨g, 0, none⟩) l.length cap] 30 (0, 0))) (base := w0.heap.size) (g := g) (cap := cap) (ts := hs') hLl hbase ((Below.heap_alloc w _ g (Array.getElem?_eq_some_iff.1 hb).1).trans hb) (by omega) h2 h3
      refine headers_N (okv := fun _ => True) (hs := hs') (Kd.R_of_own (by rw [hLl]; exact hown) (fun _ _ => trivial)) ⟨by rw [hLl, sortR_length], ?_⟩ h0
      intro j q x hq hx
      have hj : j < l.length := by have := (List.getElem?_eq_some_iff.1 hq).1; omega
      have hi := List.getElem?_eq_getElem (l := is) (i := j) (by omega)
      have h5 := hat j _ hi
      rw [hq] at h5
      have h6 : x = l.get is[j] := by
        rw [← hsr, List.getElem?_map, hi] at hx
        exact (Option.some.inj hx).symm
      obtain ⟨e1, e2, hF⟩ := HL.out.2 (is[j]).val q x h5.symm (by rw [h6]; simp)
      refine ⟨e1, e2, Kd.F_grown hF hgr (fun k hk e => hk.2 (by rw [e]; rfl))⟩
end
theorem copied_all (hs : List Hdr) {n m : Nat} (h : hs.length = n) (hm : m = n) : hs.take (min n (List.replicate m ((none, 0, 0) : Hdr)).length) ++ (List.replicate m ((none, 0, 0) : Hdr)).drop (min n (List.replicate m ((none, 0, 0) : Hdr)).length) = hs := by
  subst hm
  rw [List.length_replicate, Nat.min_self, List.drop_of_length_le (by simp), List.append_nil, List.take_of_length_le (by omega)]
theorem R_tight0 {e base : Nat} {w : World} {ok : Nat → Prop} {v : Value} {hs : List Hdr} (h : header.R e w base ok v hs) : header.R e w base (fun k => some k = v.ownBlock) v hs := Kd.R_tight rfl h
theorem ne_made2 {v1 v2 : Value} {n : Nat} (h : ∀ k, v1.ownBlock = some k → k < n) (hat : ∃ b, v2.ownBlock = some b ∧ n ≤ b) : ∀ k, v1.ownBlock = some k → v2.ownBlock = some k → False := by
  intro k h1 h2
  obtain ⟨b, hb, hle⟩ := hat
  rw [hb] at h2
  injection h2 with h2
  have := h k h1
  omega
theorem base_made {v : Value} {n : Nat} (hat : ∃ b, v.ownBlock = some b ∧ n ≤ b) : ∀ k, v.ownBlock = some k → n ≤ k := by
  intro k hk
  obtain ⟨b, hb, hle⟩ := hat
  rw [hb] at hk
  injection hk with hk
  omega
theorem base_made2 {v : Value} {n m : Nat} (hat : ∃ b, v.ownBlock = some b ∧ m ≤ b) (h : n ≤ m) : ∀ k, v.ownBlock = some k → n ≤ k := fun k hk => Nat.le_trans h (base_made hat k hk)
theorem leads_own {w w' : World} {hs : List Hdr} {l : List (List ByteArray)} {v : Value} (h : Leads w (fun k => k < w.heap.size) hs l) (hb : Below w.heap.size w w') (hv : ∀ k, v.ownBlock = some k → w.heap.size ≤ k) : Leads w' (fun k => (k < w.heap.size ∨ some k = v.ownBlock) ∧ some k ≠ v.ownBlock) hs l :=
  (h.step (fun k hk _ => hb.block k hk)).mono (fun k hk => ⟨.inl hk, fun e => by have := hv k e.symm; omega⟩)
def util_SortedArray2DEquals.l0 : Nat → List (List ByteArray) → List (List ByteArray) → Int → Int → Option (Bool)
  | 0, _, _, _, _ => none
  | k + 1, x1, x12, x13, x14 => if x14 < x13 then (if 0 ≤ x14 then (if x14 < (x12.length : Int) then (if x14 < (x1.length : Int) then ((util_ArrayEquals.f k (rd_L1 x12 x14) (rd_L1 x1 x14)).bind fun t137 => (if t137 = true then (util_SortedArray2DEquals.l0 k x1 x12 x13 (wrap64 (x14 + 1))) else (some false))) else (none)) else (none)) else (none)) else (some true)
def util_SortedArray2DEquals.f (k : Nat) (l0 : List (List ByteArray)) (l1 : List (List ByteArray)) : Option (Bool) := if (l0.length : Int) = (l1.length : Int) then (if l0.length < 5864062014805 then (util_SortedArray2DEquals.l0 k (sortR l1) (sortR l0) ((sortR l0).length : Int) 0) else none) else (some false)
theorem util_SortedArray2DEquals.mono_l : ∀ k, (∀ y0 y1 y2 y3, LeO (util_SortedArray2DEquals.l0 k y0 y1 y2 y3) (util_SortedArray2DEquals.l0 (k + 1) y0 y1 y2 y3))
  | 0 => fun _ _ _ _ r h => by simp [util_SortedArray2DEquals.l0] at h
  | k + 1 => by
    have ih0 := util_SortedArray2DEquals.mono_l k
    · intro y0 y1 y2 y3
      unfold util_SortedArray2DEquals.l0
      repeat' first
      | (with_reducible exact ih0 _ _ _ _)
      | (with_reducible exact util_ArrayEquals.mono _ _ _)
      | (with_reducible exact LeO.refl _)
      | (with_reducible exact LeO.none _)
      | (with_reducible refine LeO.ite ?_ ?_)
      | (with_reducible refine LeO.bind ?_ (fun _ => ?_))
      | exact ih0 _ _ _ _
      | exact util_ArrayEquals.mono _ _ _
      | exact LeO.none _
      | refine LeO.ite ?_ ?_
      | refine LeO.bind ?_ (fun _ => ?_)
theorem util_SortedArray2DEquals.mono : ∀ a0 a1 k, LeO (util_SortedArray2DEquals.f k a0 a1) (util_SortedArray2DEquals.f (k + 1) a0 a1) := by
  intro a0 a1 k
  have ih0 := util_SortedArray2DEquals.mono_l k
  unfold util_SortedArray2DEquals.f
  repeat' first
      | (with_reducible exact ih0 _ _ _ _)
      | (with_reducible exact util_ArrayEquals.mono _ _ _)
      | (with_reducible exact LeO.refl _)
      | (with_reducible exact LeO.none _)
      | (with_reducible refine LeO.ite ?_ ?_)
      | (with_reducible refine LeO.bind ?_ (fun _ => ?_))
      | exact ih0 _ _ _ _
      | exact util_ArrayEquals.mono _ _ _
      | exact LeO.none _
      | refine LeO.ite ?_ ?_
      | refine LeO.bind ?_ (fun _ => ?_)
set_option maxHeartbeats 8000000 in
set_option maxRecDepth 100000 in
theorem util_SortedArray2DEquals.calls (k : Nat) (A0 : Option Addr) (c0 : Nat) (l0 : List (List ByteArray)) (A1 : Option Addr) (c1 : Nat) (l1 : List (List ByteArray)) (r : Bool) (w : World) (hr0 : Kd.C (Kd.slice 9 Kd.string) w A0 l0.length l0) (hc0 : l0.length ≤ c0) (hr1 : Kd.C (Kd.slice 9 Kd.string) w A1 l1.length l1) (hc1 : l1.length ≤ c1) (h : util_SortedArray2DEquals.f k l0 l1 = some r) :
    Calls Try.prog 39 #[.slice A0 l0.length c0, .slice A1 l1.length c1] w fun e w' => e = .returned (.bool r) ∧ Below w.heap.size w w' := by
  obtain ⟨hs0, hC0, hL0⟩ := C_headers hr0 Kd.heap_string
  obtain ⟨hs1, hC1, hL1⟩ := C_headers hr1 Kd.heap_string
  have HC0 := Aside0.mk hC0
  have HC1 := Aside0.mk hC1
  have HL0 := Aside0.mk hL0
  have HL1 := Aside0.mk hL1
  have HB := Aside0.mk (Below.refl w.heap.size w)
  clear hr0 hr1 hc0 hc1 hC0 hC1 hL0 hL1
  have H : (if (l0.length : Int) = (l1.length : Int) then (if l0.length < 5864062014805 then (util_SortedArray2DEquals.l0 k (sortR l1) (sortR l0) ((sortR l0).length : Int) 0) else none) else (some false)) = some r := h
  clear h
  by_cases c3 : (l0.length : Int) = (l1.length : Int)
  · rw [if_pos c3] at H
    have c3b0 : ((l0.length : Int) == (l1.length : Int)) = true := beq_iff_eq.mpr c3
    have c3b1 : ((l0.length : Int) != (l1.length : Int)) = false := bne_eq_false_iff_eq.mpr c3
    have c3b2 : (l0.length == l1.length) = true := by first | simpa using c3 | (simp at c3 ⊢; omega)
    have hll : l0.length = l1.length := by omega
    clear c3
    have hl0 : l0.length < 5864062014805 := by
      by_cases g : l0.length < 5864062014805
      · exact g
      · rw [if_neg g] at H; cases H
    have hl1 : l1.length < 5864062014805 := by omega
    rw [if_pos hl0] at H
    have HLL := Aside0.mk hll
    clear hll
    have H' := Aside0.mk H
    clear H
    have hf0 : util_SortArray2D.f l0 = some () := by unfold util_SortArray2D.f; rw [if_pos (by omega)]
    have hf1 : util_SortArray2D.f l1 = some () := by unfold util_SortArray2D.f; rw [if_pos (by omega)]
    have HF0 := Aside0.mk hf0
    have HF1 := Aside0.mk hf1
    clear hf0 hf1
    go_enter Try.func39, Try.ntmps39
    go_wp2_with (first
      | ((with_reducible refine gate_dst (N := 16) rfl ?_); refine Kd.R_make header _ 22 rfl (N := 16) rfl 30 _ _ rfl (l0.length : Int) rfl rfl Try.underlying30 (.slice none 0 0) 24 info22 rfl (by decide) (by omega) ((none, 0, 0) : Hdr) (ok := fun _ => True) (okp := fun _ => True) rfl (fun _ hk => hk) trivial (by omega) (by rw [Int.toNat_natCast]; omega) (Below.refl _ _) (Nat.le_refl _) ?_; intro v1 w1 ho hb hg hat; have HOA := Aside0.mk ho; have HBA := Aside0.mk hb; have HAT := Aside0.mk hat; clear ho hb hg hat)
      | ((with_reducible refine gate_builtin (b := .copy) (xs := #[.tmp 17, .tmp 18]) rfl ?_); refine Kd.R_copy (enc := Hdr.val) (h1 := fun _ => rfl) ((none, 0, 0) : Hdr) (w0 := w) w.heap.size rfl (.tmp 17) (.tmp 18) 30 30 22 rfl Try.underlying30 ?cI v1 (List.replicate ((l0.length : Nat) : Int).toNat ((none, 0, 0) : Hdr)) hs0 A0 l0.length c0 (fun _ => True) rfl rfl ?cO ?cR ?cB ?cS ?_; (case cI => kernel_rfl); (case cR => exact Kd.C_below HC0.out HBA.out); (case cB => exact HBA.out); (case cO => exact HOA.out); (case cS => exact below_size HBA.out); intro w2 ho hb hg; rw [copied_all hs0 HL0.out.1 (Int.toNat_natCast _)] at ho; have n0_ := Aside0.mk (R_tight0 ho); have n1_ := Aside0.mk hb; clear HOA HBA; have HOA := n0_; have HBA := n1_; clear n0_ n1_ ho hb hg)
      | ((with_reducible refine gate_dst (N := 22) rfl ?_); refine Kd.R_make header w.heap.size 22 rfl (N := 22) rfl 30 _ _ rfl (l1.length : Int) rfl rfl Try.underlying30 (.slice none 0 0) 24 info22 rfl (by decide) (by omega) ((none, 0, 0) : Hdr) (ok := fun _ => True) (okp := fun _ => True) rfl (fun _ hk => hk) trivial (by omega) (by rw [Int.toNat_natCast]; omega) HBA.out (below_size HBA.out) ?_; intro v2 w3 ho hb hg hat; have NE := Aside0.mk (ne_made2 (Kd.R_lt HOA.out) hat); have HAT2 := Aside0.mk (base_made2 hat (below_size HBA.out)); have n0_ := Aside0.mk (Kd.R_grown HOA.out hg (fun _ _ => by simp)); have HOB := Aside0.mk ho; clear HOA HBA; have HOA := n0_; have HBA := Aside0.mk hb; clear n0_ ho hb hg hat)
      | ((with_reducible refine gate_builtin (b := .copy) (xs := #[.tmp 23, .tmp 24]) rfl ?_); refine Kd.R_copy (enc := Hdr.val) (h1 := fun _ => rfl) ((none, 0, 0) : Hdr) (w0 := w) w.heap.size rfl (.tmp 23) (.tmp 24) 30 30 22 rfl Try.underlying30 ?cI v2 (List.replicate ((l1.length : Nat) : Int).toNat ((none, 0, 0) : Hdr)) hs1 A1 l1.length c1 (fun _ => True) rfl rfl ?cO ?cR ?cB ?cS ?_; (case cI => kernel_rfl); (case cR => exact Kd.C_below HC1.out HBA.out); (case cB => exact HBA.out); (case cO => exact HOB.out); (case cS => exact below_size HBA.out); intro w4 ho hb hg; rw [copied_all hs1 HL1.out.1 (Int.toNat_natCast _)] at ho; have n2_ := Aside0.mk (Kd.R_grown HOA.out hg (fun k hk he => NE.out k hk.symm he.symm)); have n0_ := Aside0.mk (headers_N (ok := fun k => k < w.heap.size ∨ some k = v1.ownBlock) n2_.out (leads_own HL0.out hb (base_made HAT.out)) (fun _ hk => .inr hk.symm)); have n3_ := Aside0.mk (headers_N (ok := fun k => k < w.heap.size ∨ some k = v2.ownBlock) (R_tight0 ho) (leads_own HL1.out hb HAT2.out) (fun _ hk => .inr hk.symm)); have n1_ := Aside0.mk hb; clear HOA HBA HOB; have HNA := n0_; have HNB := n3_; have HBA := n1_; clear n0_ n1_ n2_ n3_ ho hb hg)
      | (go_at_call 37; have zc := util_SortArray2D.own v1 l0 w _ _ HNA.out HBA.out HF0.out; (with_reducible refine zc.mono ?_); clear zc; rintro e w5 ⟨rfl, hn_, hb, hg⟩; have n0_ := Aside0.mk (Kd.N_grown HNB.out hg (fun k hk he => by rcases hk with hk | hk; exact absurd hk (Nat.not_lt.2 (base_made HAT.out k he.symm)); exact NE.out k he.symm hk.symm)); clear HNA HNB HBA; have HNA := Aside0.mk hn_; have HNB := n0_; have HBA := Aside0.mk hb; clear n0_ hn_ hb hg)
      | (go_at_call 37; have zc := util_SortArray2D.own v2 l1 w _ _ HNB.out HBA.out HF1.out; (with_reducible refine zc.mono ?_); clear zc; rintro e w6 ⟨rfl, hn_, hb, hg⟩; have n0_ := Aside0.mk (Kd.N_grown HNA.out hg (fun k hk he => by rcases hk with hk | hk; exact absurd hk (Nat.not_lt.2 (HAT2.out k he.symm)); exact NE.out k hk.symm he.symm)); clear HNA HNB HBA; have HNB := Aside0.mk hn_; have HNA := n0_; have HBA := Aside0.mk hb; clear n0_ hn_ hb hg; obtain ⟨Aa, ca, ea⟩ := Kd.N_slice HNA.out; subst ea; obtain ⟨Ab, cb, eb⟩ := Kd.N_slice HNB.out; subst eb; have HR0 := Aside0.mk (Kd.N_reads' HNA.out).2.2; have HR1 := Aside0.mk (Kd.N_reads' HNB.out).2.2; clear HNA HNB))
    go_loopg [32] k (fun kq v14 w' => ∃ (x14_1 : Int), v14 = .int .i64 x14_1 ∧ Aside0 (util_SortedArray2DEquals.l0 kq (sortR l1) (sortR l0) ((sortR l0).length : Int) x14_1 = some r) ∧ Aside0 (kq ≤ k) ∧ Drawn0 w6 w')
    case atStart => exact ⟨(0), (by first | rfl | (simp; done) | (simp [*]; done)), H', ⟨Nat.le_refl _⟩, by repeat (first | exact Drawn0.refl _ | apply Drawn0.step)⟩
    case round =>
      clear H'
      try clear c1
      try clear p2
      try clear c3
      try clear c3b0
      try clear c3b1
      try clear c3b2
      obtain ⟨x14_1, rfl, HA, HK1, ⟨m1, rfl⟩⟩ := hrel
      cases gk with
      | zero => exact absurd HA.out (by simp [util_SortedArray2DEquals.l0])
      | succ k1 =>
        have H := HA.out
        clear HA
        simp only [util_SortedArray2DEquals.l0] at H
        by_cases c4 : x14_1 < ((sortR l0).length : Int)
        · rw [if_pos c4] at H
          have c4b0 : decide (x14_1 < ((sortR l0).length : Int)) = true := decide_eq_true c4
          clear c4
          by_cases c5 : 0 ≤ x14_1
          · rw [if_pos c5] at H
            have c5b0 : decide (0 ≤ x14_1) = true := decide_eq_true c5
            clear c5
            by_cases c6 : x14_1 < ((sortR l0).length : Int)
            · rw [if_pos c6] at H
              have c6b0 : decide (x14_1 < ((sortR l0).length : Int)) = true := decide_eq_true c6
              clear c6
              by_cases c7 : x14_1 < ((sortR l1).length : Int)
              · rw [if_pos c7] at H
                have c7b0 : decide (x14_1 < ((sortR l1).length : Int)) = true := decide_eq_true c7
                clear c7
                replace H := Option.bind_eq_some_iff.mp H
                obtain ⟨t137, A80, H⟩ := H
                replace H : (if t137 = true then (util_SortedArray2DEquals.l0 k1 (sortR l1) (sortR l0) ((sortR l0).length : Int) (wrap64 (x14_1 + 1))) else (some false)) = some r := H
                have A8 := Aside0.mk A80
                clear A80
                by_cases c9 : t137 = true
                · subst c9
                  have H1 : (util_SortedArray2DEquals.l0 k1 (sortR l1) (sortR l0) ((sortR l0).length : Int) (wrap64 (x14_1 + 1))) = some r := by rw [if_pos rfl] at H; exact H
                  clear H
                  have H := H1
                  clear H1
                  have H' := Aside0.mk H
                  clear H
                  have p135 : 0 ≤ (x14_1 : Int) := of_decide_eq_true (by first | (with_reducible assumption) | assumption)
                  have q135 : x14_1 < ((sortR l0).length : Int) := of_decide_eq_true (by first | (with_reducible assumption) | assumption)
                  obtain ⟨ad135, A135_0, c135_0, e135, hx135_0, hl135_0, hi135_0⟩ := at_L1 HR0.out x14_1 p135 q135
                  cases e135
                  have HR135_0 := Aside0.mk hi135_0
                  have HC135_0 := Aside0.mk hl135_0
                  clear hi135_0 hl135_0
                  replace p135 := eq_true p135
                  replace q135 := eq_true q135
                  have p136 : 0 ≤ (x14_1 : Int) := of_decide_eq_true (by first | (with_reducible assumption) | assumption)
                  have q136 : x14_1 < ((sortR l1).length : Int) := of_decide_eq_true (by first | (with_reducible assumption) | assumption)
                  obtain ⟨ad136, A136_0, c136_0, e136, hx136_0, hl136_0, hi136_0⟩ := at_L1 HR1.out x14_1 p136 q136
                  cases e136
                  have HR136_0 := Aside0.mk hi136_0
                  have HC136_0 := Aside0.mk hl136_0
                  clear hi136_0 hl136_0
                  replace p136 := eq_true p136
                  replace q136 := eq_true q136
                  go_wp2_with (first | ((with_reducible refine gate_callee (f := 42) rfl ?_); refine goesL_ (some 42) rfl rfl Try.func42 (by kernel_rfl) rfl #[.slice A135_0 (rd_L1 (sortR l0) x14_1).length c135_0, .slice A136_0 (rd_L1 (sortR l1) x14_1).length c136_0] rfl (by (try simp only [List.map_toArray, List.map_cons, List.map_nil]); first | done | rfl | (simp only [List.length_drop, List.length_take]; rfl)) ?_; (with_reducible refine (util_ArrayEquals.calls k1 _ _ (rd_L1 (sortR l0) x14_1) _ _ (rd_L1 (sortR l1) x14_1) true _ ?side1 ?side2 ?side3 ?side4 A8.out).mono ?_); (case side1 => repeat (first | exact HR135_0.out | (with_reducible refine Kd.C_alloc ?_ _) | (with_reducible refine Kd.C_drewN ?_ _) | (with_reducible refine Kd.C_drew ?_))); (case side2 => exact HC135_0.out); (case side3 => repeat (first | exact HR136_0.out | (with_reducible refine Kd.C_alloc ?_ _) | (with_reducible refine Kd.C_drewN ?_ _) | (with_reducible refine Kd.C_drew ?_))); (case side4 => exact HC136_0.out); rintro e w' ⟨rfl, ⟨nd, rfl⟩⟩; refine ⟨_, rfl, ?_⟩))
                  go_roundg k1
                  case measure => have := HK1.out; omega
                  case rel => exact ⟨(wrap64 (x14_1 + 1)), (by first | rfl | (simp; done) | (simp [*]; done)), H', ⟨by have := HK1.out; omega⟩, by repeat (first | exact Drawn0.refl _ | apply Drawn0.step)⟩
                · replace c9 := Bool.eq_false_iff.mpr c9
                  subst c9
                  have H1 : (some false) = some r := by rw [if_neg (show ¬ (false = true) by decide)] at H; exact H
                  clear H
                  have H := H1
                  clear H1
                  obtain rfl := Option.some.inj H
                  have p135 : 0 ≤ (x14_1 : Int) := of_decide_eq_true (by first | (with_reducible assumption) | assumption)
                  have q135 : x14_1 < ((sortR l0).length : Int) := of_decide_eq_true (by first | (with_reducible assumption) | assumption)
                  obtain ⟨ad135, A135_0, c135_0, e135, hx135_0, hl135_0, hi135_0⟩ := at_L1 HR0.out x14_1 p135 q135
                  cases e135
                  have HR135_0 := Aside0.mk hi135_0
                  have HC135_0 := Aside0.mk hl135_0
                  clear hi135_0 hl135_0
                  replace p135 := eq_true p135
                  replace q135 := eq_true q135
                  have p136 : 0 ≤ (x14_1 : Int) := of_decide_eq_true (by first | (with_reducible assumption) | assumption)
                  have q136 : x14_1 < ((sortR l1).length : Int) := of_decide_eq_true (by first | (with_reducible assumption) | assumption)
                  obtain ⟨ad136, A136_0, c136_0, e136, hx136_0, hl136_0, hi136_0⟩ := at_L1 HR1.out x14_1 p136 q136
                  cases e136
                  have HR136_0 := Aside0.mk hi136_0
                  have HC136_0 := Aside0.mk hl136_0
                  clear hi136_0 hl136_0
                  replace p136 := eq_true p136
                  replace q136 := eq_true q136
                  go_wp2_with (first | ((with_reducible refine gate_callee (f := 42) rfl ?_); refine goesL_ (some 42) rfl rfl Try.func42 (by kernel_rfl) rfl #[.slice A135_0 (rd_L1 (sortR l0) x14_1).length c135_0, .slice A136_0 (rd_L1 (sortR l1) x14_1).length c136_0] rfl (by (try simp only [List.map_toArray, List.map_cons, List.map_nil]); first | done | rfl | (simp only [List.length_drop, List.length_take]; rfl)) ?_; (with_reducible refine (util_ArrayEquals.calls k1 _ _ (rd_L1 (sortR l0) x14_1) _ _ (rd_L1 (sortR l1) x14_1) false _ ?side1 ?side2 ?side3 ?side4 A8.out).mono ?_); (case side1 => repeat (first | exact HR135_0.out | (with_reducible refine Kd.C_alloc ?_ _) | (with_reducible refine Kd.C_drewN ?_ _) | (with_reducible refine Kd.C_drew ?_))); (case side2 => exact HC135_0.out); (case side3 => repeat (first | exact HR136_0.out | (with_reducible refine Kd.C_alloc ?_ _) | (with_reducible refine Kd.C_drewN ?_ _) | (with_reducible refine Kd.C_drew ?_))); (case side4 => exact HC136_0.out); rintro e w' ⟨rfl, ⟨nd, rfl⟩⟩; refine ⟨_, rfl, ?_⟩))
                  go_ret
                  exact ⟨by first | rfl | (simp; done) | (simp [*]; done), below_step HBA.out (Drawn0.below (by repeat (first | exact Drawn0.refl _ | apply Drawn0.step)))⟩
              · rw [if_neg c7] at H
                exact absurd H (by simp)
            · rw [if_neg c6] at H
              exact absurd H (by simp)
          · rw [if_neg c5] at H
            exact absurd H (by simp)
        · rw [if_neg c4] at H
          have c4b0 : decide (x14_1 < ((sortR l0).length : Int)) = false := decide_eq_false c4
          clear c4
          obtain rfl := Option.some.inj H
          go_wp2
          go_ret
          exact ⟨by first | rfl | (simp; done) | (simp [*]; done), below_step HBA.out (Drawn0.below (by repeat (first | exact Drawn0.refl _ | apply Drawn0.step)))⟩
  · rw [if_neg c3] at H
    have c3b0 : ((l0.length : Int) == (l1.length : Int)) = false := beq_eq_false_iff_ne.mpr c3
    have c3b1 : ((l0.length : Int) != (l1.length : Int)) = true := bne_iff_ne.mpr c3
    have c3b2 : (l0.length == l1.length) = false := by first | simpa using c3 | (simp at c3 ⊢; omega)
    obtain rfl := Option.some.inj H
    go_enter Try.func39, Try.ntmps39
    go_wp2
    go_ret
    exact ⟨by first | rfl | (simp; done) | (simp [*]; done), HB.out⟩


/-! ### impl_SortedArray2DEquals: function 25 -/
def impl_SortedArray2DEquals.f (k : Nat) (l0 : List (List ByteArray)) (l1 : List (List ByteArray)) : Option (Bool) := (util_SortedArray2DEquals.f k l0 l1).bind fun t161 => (some t161)
theorem impl_SortedArray2DEquals.mono : ∀ a0 a1 k, LeO (impl_SortedArray2DEquals.f k a0 a1) (impl_SortedArray2DEquals.f (k + 1) a0 a1) := by
  intro a0 a1 k
  unfold impl_SortedArray2DEquals.f
  repeat' first
      | (with_reducible exact util_SortedArray2DEquals.mono _ _ _)
      | (with_reducible exact LeO.refl _)
      | (with_reducible exact LeO.none _)
      | (with_reducible refine LeO.ite ?_ ?_)
      | (with_reducible refine LeO.bind ?_ (fun _ => ?_))
      | exact util_SortedArray2DEquals.mono _ _ _
      | exact LeO.none _
      | refine LeO.ite ?_ ?_
      | refine LeO.bind ?_ (fun _ => ?_)
set_option maxHeartbeats 8000000 in
set_option maxRecDepth 100000 in
theorem impl_SortedArray2DEquals.calls (k : Nat) (A0 : Option Addr) (c0 : Nat) (l0 : List (List ByteArray)) (A1 : Option Addr) (c1 : Nat) (l1 : List (List ByteArray)) (r : Bool) (w : World) (hr0 : Kd.C (Kd.slice 9 Kd.string) w A0 l0.length l0) (hc0 : l0.length ≤ c0) (hr1 : Kd.C (Kd.slice 9 Kd.string) w A1 l1.length l1) (hc1 : l1.length ≤ c1) (h : impl_SortedArray2DEquals.f k l0 l1 = some r) :
    Calls Try.prog 25 #[.slice A0 l0.length c0, .slice A1 l1.length c1] w fun e w' => e = .returned (.bool r) ∧ Below w.heap.size w w' := by
  have HR0 := Aside0.mk hr0
  have HC0 := Aside0.mk hc0
  clear hr0 hc0
  have HR1 := Aside0.mk hr1
  have HC1 := Aside0.mk hc1
  clear hr1 hc1
  have HB := Aside0.mk (Below.refl w.heap.size w)
  have H : ((util_SortedArray2DEquals.f k l0 l1).bind fun t161 => (some t161)) = some r := h
  clear h
  replace H := Option.bind_eq_some_iff.mp H
  obtain ⟨t161, A30, H⟩ := H
  replace H : (some t161) = some r := H
  have A3 := Aside0.mk A30
  clear A30
  obtain rfl := Option.some.inj H
  go_enter Try.func25, Try.ntmps25
  go_wp2_with (first | ((with_reducible refine gate_callee (f := 39) rfl ?_); refine goesL_ (some 7) rfl rfl Try.func39 (by kernel_rfl) rfl #[.slice A0 l0.length c0, .slice A1 l1.length c1] rfl (by (try simp only [List.map_toArray, List.map_cons, List.map_nil]); first | done | rfl | (simp only [List.length_drop, List.length_take]; rfl)) ?_; (with_reducible refine (util_SortedArray2DEquals.calls k _ _ l0 _ _ l1 t161 _ ?side1 ?side2 ?side3 ?side4 A3.out).mono ?_); (case side1 => repeat (first | exact HR0.out | (with_reducible refine Kd.C_alloc ?_ _) | (with_reducible refine Kd.C_drewN ?_ _) | (with_reducible refine Kd.C_drew ?_))); (case side2 => exact HC0.out); (case side3 => repeat (first | exact HR1.out | (with_reducible refine Kd.C_alloc ?_ _) | (with_reducible refine Kd.C_drewN ?_ _) | (with_reducible refine Kd.C_drew ?_))); (case side4 => exact HC1.out); rintro e w4 ⟨rfl, hb⟩; refine ⟨_, rfl, ?_⟩; have n0_ := Aside0.mk (below_step (by repeat (first | (with_reducible first | exact HB.out | apply below_alloc | apply pw_below_drewN | apply below_drew1) | exact HB.out)) hb); clear HB; have HB := n0_; clear n0_; (try clear hb); (try clear hb2); (try clear hk); (try clear hi)))
  go_ret
  exact ⟨by first | rfl | (simp [errW_none, errW_some] <;> rfl) | (simp [*, errW_none, errW_some] <;> rfl), by repeat (first | (with_reducible first | exact HB.out | apply below_alloc | apply pw_below_drewN | apply below_drew1) | exact HB.out)⟩

end Go.Proofs.Ythmkbojkhoaolaa.PFnRowsEqual
