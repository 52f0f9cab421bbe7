/- The machine side of laws.FnConfigValues: each function of this text answers what its Lean function answers (written for this claim by a program of this session over the kit's print; no condition beyond what each theorem says). -/
import Derived.Test.YtbomcdnijklgjaaGreatDoorOFnConfigValuesx0
import Derived.Test.YtbomcdnijklgjaaGreatDoorOFnConfigValuesx5
import Derived.Test.YtbomcdnijklgjaaGreatDoorOFnConfigValuesx9
namespace Go.Proofs.YtbomcdnijklgjaaGreatDoor.PFnConfigValues
open Go.RowKit Go.Proofs.YtbomcdnijklgjaaGreatDoorW.PrintWords Go.Proofs.YtbomcdnijklgjaaGreatDoorW.PrintLast Go.Proofs.YtbomcdnijklgjaaGreatDoorW.PrintMore
attribute [local go_sem] max2_int min2_int max_two min_two max_three min_three max_four min_four   -- for this text's walks alone
set_option linter.unusedVariables false
set_option linter.unusedSimpArgs false

/-! ### impl_ConfigInt: function 22 -/
/-! Whole numbers. -/
section
open Go.Proofs
set_option maxHeartbeats 4000000 in
set_option maxRecDepth 100000 in
theorem sc_lower (b : UInt8) (w : World) :
    Calls Tryz.prog 117 #[.int .u8 (b.toNat : Int)] w fun e w' => ∃ y : Int, 0 ≤ y ∧ y < 256 ∧ e = .returned (.int .u8 y) ∧ w' = w := by
  have hb := b.toNat_lt
  go_enter Tryz.func117, Tryz.ntmps117
  go_wp2
  go_ret
  have hq : bits .or .u8 (b.toNat : Int) 32 = (bits .or .u8 (b.toNat : Int) 32) % 256 := by
    conv => lhs; unfold bits
    unfold bits
    simp only [IntKind.wrap_u8]
    omega
  exact ⟨_, by rw [hq]; omega, by rw [hq]; omega, rfl, rfl⟩
def MOST : Int := 18446744073709551615
theorem meas_step {m k : Nat} (h : k < m) : m - (intOf (.int .i64 ((k : Int) + 1))).toNat < m - (intOf (.int .i64 (k : Int))).toNat := by
  simp [intOf]
  omega
theorem wrapU {n : Int} (h0 : 0 ≤ n) (h1 : n ≤ 18446744073709551615) : IntKind.u64.wrap n = n := by
  simp [IntKind.wrap, IntKind.bits, IntKind.signed]
  omega
/-- what a text of digits is as a number: its kind 0; 1: there is another byte; 2: it is too great -/
def uP : List UInt8 → Int → Int × Nat
  | [], n => (n, 0)
  | c :: l, n => if 48 ≤ c.toNat ∧ c.toNat ≤ 57 then (if (MOST - ((c.toNat : Int) - 48)) / 10 < n then (MOST, 2) else uP l (n * 10 + ((c.toNat : Int) - 48))) else (0, 1)
def synB : ByteArray := ⟨#[105, 110, 118, 97, 108, 105, 100, 32, 115, 121, 110, 116, 97, 120]⟩
def rngB : ByteArray := ⟨#[118, 97, 108, 117, 101, 32, 111, 117, 116, 32, 111, 102, 32, 114, 97, 110, 103, 101]⟩
def errU : Nat → Value
  | 0 => .nilIface
  | 1 => .iface 168 (.string synB)
  | _ => .iface 168 (.string rngB)
set_option maxHeartbeats 8000000 in
set_option maxRecDepth 100000 in
theorem parse_uint (s : ByteArray) (w : World) (hne : s.toList ≠ []) (hz : s.size ≤ 1000000) :
    Calls Tryz.prog 109 #[.string s, .int .i64 10, .int .i64 0] w fun e w' => e = .returned (.tuple #[.int .u64 (uP s.data.toList 0).1, errU (uP s.data.toList 0).2]) ∧ Below w.heap.size w w' := by
  have b1 : (s.toList == ([] : List UInt8)) = false := beq_eq_false_iff_ne.2 hne
  have b2 : s.toList.isEmpty = false := by
    cases hq : s.toList with
    | nil => exact absurd hq hne
    | cons _ _ => rfl
  obtain ⟨W1, hW1⟩ : ∃ W1, W1 = Lib.bytesWorld w 5 s := ⟨_, rfl⟩
  obtain ⟨B, hB⟩ : ∃ B, B = w.heap.size := ⟨_, rfl⟩
  obtain ⟨c, hc⟩ : ∃ c, c = grownCap w s.size 0 5 := ⟨_, rfl⟩
  have hcv : (convert 9 84 (.string s)).run Tryz.prog w = .ok (.slice (some ⟨B, 0, none⟩) s.size c) W1 := by
    rw [hW1, hB, hc]
    exact Lib.run_convert_string_bytes w 9 84 5 s Tryz.underlying9 Tryz.underlying84 Tryz.underlying5
  have hcell : ∀ j, j < s.size → W1.cell? ⟨B, j, none⟩ = some (.int .u8 ((s.data.toList.getD j 0).toNat : Int)) := fun j hj => by
    rw [hW1, hB]
    exact Lib.bytesWorld_cell w _ s j hj
  have hbl : Below w.heap.size w W1 := by
    rw [hW1]
    exact ⟨rfl, rfl, rfl, by rw [Lib.bytesWorld_size]; omega, fun k hk => Lib.bytesWorld_at_old w _ s k hk⟩
  have HC := Aside0.mk hcell
  have HB := Aside0.mk hbl
  have HZ := Aside0.mk hz
  clear hW1 hB hc hcell hbl hz hne
  go_enter Tryz.func109, Tryz.ntmps109
  go_wp2
  go_loop [11, 12, 88] (fun v11 v12 v88 => ∃ (k : Nat) (n : Int), v11 = .int .u64 n ∧ v12 = .bool false ∧ v88 = .int .i64 (k : Int) ∧ k ≤ s.size ∧ 0 ≤ n ∧ n ≤ 18446744073709551615 ∧ Aside0 (uP (s.data.toList.drop k) n = uP s.data.toList 0)) (fun _ _ v88 => s.size - (intOf v88).toNat)
  case atStart => exact ⟨0, 0, rfl, rfl, rfl, Nat.zero_le _, by decide, by decide, ⟨rfl⟩⟩
  case round =>
    obtain ⟨k, n, rfl, rfl, rfl, hk, hn0, hn1, HN⟩ := hrel
    by_cases hlt : k < s.size
    · have hx := HC.out k hlt
      obtain ⟨b, hb⟩ : ∃ b, b = s.data.toList.getD k 0 := ⟨_, rfl⟩
      rw [← hb] at hx
      have HBB := Aside0.mk hb
      clear hb
      have hdrop : s.data.toList.drop k = b :: s.data.toList.drop (k + 1) := by
        have hkl : k < s.data.toList.length := by rw [ba_list]; exact hlt
        rw [HBB.out, List.getD_eq_getElem?_getD, List.getElem?_eq_getElem hkl]
        exact List.drop_eq_getElem_cons hkl
      have HD := Aside0.mk hdrop
      clear hdrop
      by_cases hd : 48 ≤ b.toNat ∧ b.toNat ≤ 57
      · have HD0 := Aside0.mk hd
        obtain ⟨d, hdd⟩ : ∃ d : Int, d = (b.toNat : Int) - 48 := ⟨_, rfl⟩
        have hdb : 0 ≤ d ∧ d ≤ 9 := by omega
        obtain ⟨z, hz⟩ : ∃ z : Int, (b.toNat : Int) = z := ⟨_, rfl⟩
        rw [hz] at hx hdd
        have HDD := Aside0.mk (And.intro hdd hz)
        have e1 : ¬ (z = 95) := by omega
        have e2 : (48 : Int) ≤ z := by omega
        have e3 : z ≤ 57 := by omega
        have e4 : IntKind.u8.wrap (z - 48) = d := by rw [IntKind.wrap_u8]; omega
        have e4b : z - 48 = d := by omega
        have e5 : ¬ (10 ≤ d) := by omega
        have eM : IntKind.u64.wrap (IntKind.u64.wrap 18446744073709551616 - 1) = 18446744073709551615 := by decide
        have e6 : ¬ ((18446744073709551615 : Int) < d) := by omega
        have e7 : IntKind.u64.wrap (18446744073709551615 - d) = 18446744073709551615 - d := wrapU (by omega) (by omega)
        obtain ⟨q, hq⟩ : ∃ q : Int, (18446744073709551615 - d).tdiv 10 = q := ⟨_, rfl⟩
        have hq2 : q = (18446744073709551615 - d) / 10 := by rw [← hq]; exact Int.tdiv_eq_ediv_of_nonneg (by omega)
        have e8 : IntKind.u64.wrap q = q := wrapU (by omega) (by omega)
        by_cases hgt : q < n
        · have HF := Aside0.mk (And.intro hq2 hgt)
          clear hd hdd hz hq2 hdb
          go_wp2
          go_ret2
          refine ⟨?_, HB.out⟩
          have h1 := HF.out
          have h2 := HDD.out
          rw [← HN.out, HD.out]
          unfold uP
          rw [if_pos HD0.out, if_pos (show (MOST - ((b.toNat : Int) - 48)) / 10 < n by unfold MOST; rw [h2.2, ← h2.1, ← h1.1]; exact h1.2)]
          rfl
        · have e9 : IntKind.u64.wrap (n * 10) = n * 10 := wrapU (by omega) (by omega)
          have e10 : IntKind.u64.wrap (n * 10 + d) = n * 10 + d := wrapU (by omega) (by omega)
          have HF := Aside0.mk (And.intro hq2 (And.intro hgt hdb))
          clear hd hdd hz hq2 hdb
          go_wp2
          have hzz := HZ.out
          go_round
          case rel =>
            have h1 := HF.out
            have h2 := HDD.out
            refine ⟨_, _, _, _, _, _, _, ⟨k + 1, n * 10 + d, rfl, rfl, rfl, by omega, by omega, by omega, ⟨?_⟩⟩, rfl, rfl, rfl, rfl, rfl, rfl, congrArg (Value.int .i64) (w64e (by omega) (by omega) (by omega))⟩
            rw [← HN.out, HD.out]
            conv => rhs; unfold uP
            rw [if_pos HD0.out, if_neg (show ¬ (MOST - ((b.toNat : Int) - 48)) / 10 < n by unfold MOST; rw [h2.2, ← h2.1, ← h1.1]; omega), h2.2, ← h2.1]
          case measure =>
            have hw : wrap64 ((k : Int) + 1) = (k : Int) + 1 := w64e rfl (by omega) (by omega)
            rw [hw]
            exact meas_step hlt
      · have HD0 := Aside0.mk hd
        have hfin : (uP s.data.toList 0) = (0, 1) := by
          rw [← HN.out, HD.out]
          unfold uP
          rw [if_neg HD0.out]
        have HF := Aside0.mk hfin
        clear hfin
        obtain ⟨z, hz⟩ : ∃ z : Int, (b.toNat : Int) = z := ⟨_, rfl⟩
        rw [hz] at hx
        obtain ⟨y, hy⟩ : ∃ y : Int, bits .or .u8 z 32 = y := ⟨_, rfl⟩
        have hyb : 0 ≤ y ∧ y < 256 := by
          have hq : bits .or .u8 z 32 = (bits .or .u8 z 32) % 256 := by
            conv => lhs; unfold bits
            unfold bits
            simp only [IntKind.wrap_u8]
            omega
          rw [hy] at hq
          omega
        have eM : IntKind.u64.wrap (IntKind.u64.wrap 18446744073709551616 - 1) = 18446744073709551615 := by decide
        by_cases h95 : z = 95
        · clear hd hz hyb
          subst h95
          have y2 : y = 127 := by rw [← hy]; decide
          subst y2
          go_wp2
          go_ret2
          exact ⟨by rw [HF.out]; rfl, HB.out⟩
        · have hdz : ¬ (48 ≤ z ∧ z ≤ 57) := by omega
          by_cases h97 : (97 : Int) ≤ y
          · by_cases h122 : y ≤ 122
            · have e1 : IntKind.u8.wrap (y - 97) = y - 97 := by rw [IntKind.wrap_u8]; omega
              obtain ⟨d, hd2⟩ : ∃ d : Int, y - 97 = d := ⟨_, rfl⟩
              rw [hd2] at e1
              have e2 : IntKind.u64.wrap (d + 10) = d + 10 := wrapU (by omega) (by omega)
              have e3 : (10 : Int) ≤ d + 10 := by omega
              have e4 : (0 : Int) ≤ d := by omega
              by_cases h48 : (48 : Int) ≤ z
              · have h57 : ¬ z ≤ 57 := by omega
                clear hd hz hyb hdz
                go_wp2
                go_ret2
                exact ⟨by rw [HF.out]; rfl, HB.out⟩
              · clear hd hz hyb hdz
                go_wp2
                go_ret2
                exact ⟨by rw [HF.out]; rfl, HB.out⟩
            · by_cases h48 : (48 : Int) ≤ z
              · have h57 : ¬ z ≤ 57 := by omega
                clear hd hz hyb hdz
                go_wp2
                go_ret2
                exact ⟨by rw [HF.out]; rfl, HB.out⟩
              · clear hd hz hyb hdz
                go_wp2
                go_ret2
                exact ⟨by rw [HF.out]; rfl, HB.out⟩
          · by_cases h48 : (48 : Int) ≤ z
            · have h57 : ¬ z ≤ 57 := by omega
              clear hd hz hyb hdz
              go_wp2
              go_ret2
              exact ⟨by rw [HF.out]; rfl, HB.out⟩
            · clear hd hz hyb hdz
              go_wp2
              go_ret2
              exact ⟨by rw [HF.out]; rfl, HB.out⟩
    · obtain rfl : k = s.size := by omega
      go_wp2
      go_ret2
      refine ⟨?_, HB.out⟩
      rw [← HN.out, List.drop_of_length_le (by rw [ba_list]; exact Nat.le_refl _)]
      rfl
end
section
open Go.Proofs
set_option maxHeartbeats 4000000 in
set_option maxRecDepth 100000 in
theorem parse_uint_nil (w : World) :
    Calls Tryz.prog 109 #[.string ⟨#[]⟩, .int .i64 10, .int .i64 0] w fun e w' => e = .returned (.tuple #[.int .u64 0, errU 1]) ∧ w' = w := by
  go_enter Tryz.func109, Tryz.ntmps109
  go_wp2
  go_ret2
  exact ⟨rfl, rfl⟩
/-- a text without its sign, as a number -/
def uP0 (l : List UInt8) : Int × Nat := if l = [] then (0, 1) else uP l 0
theorem parse_uint_any (s : ByteArray) (w : World) (hz : s.size ≤ 1000000) :
    Calls Tryz.prog 109 #[.string s, .int .i64 10, .int .i64 0] w fun e w' => e = .returned (.tuple #[.int .u64 (uP0 s.data.toList).1, errU (uP0 s.data.toList).2]) ∧ Below w.heap.size w w' := by
  by_cases h : s.data.toList = []
  · have e : s = ⟨#[]⟩ := ba_ext h
    subst e
    refine (parse_uint_nil w).mono ?_
    rintro e w' ⟨rfl, rfl⟩
    exact ⟨rfl, Below.refl _ _⟩
  · have e : uP0 s.data.toList = uP s.data.toList 0 := by unfold uP0; rw [if_neg h]
    rw [e]
    exact parse_uint s w (by rw [ByteArray.toList_eq]; exact h) hz
def CUTU : Int := 9223372036854775808
/-- a text as a whole number: its kind 0; else it is none -/
def iP (l : List UInt8) : Int × Nat :=
  let neg := decide (l.head? = some 45)
  let r := uP0 (if l.head? = some 45 ∨ l.head? = some 43 then l.tail else l)
  if l = [] then (0, 1) else if r.2 = 1 then (0, 1) else if neg then (if CUTU < r.1 then (-CUTU, 2) else (-r.1, 0)) else (if CUTU ≤ r.1 then (CUTU - 1, 2) else (r.1, 0))
theorem uP_kind : ∀ (l : List UInt8) (n : Int), 0 ≤ n → n ≤ MOST → 0 ≤ (uP l n).1 ∧ (uP l n).1 ≤ MOST ∧ ((uP l n).2 = 0 ∨ (uP l n).2 = 1 ∨ ((uP l n).2 = 2 ∧ (uP l n).1 = MOST))
  | [], n, h0, h1 => ⟨h0, h1, .inl rfl⟩
  | c :: l, n, h0, h1 => by
    unfold uP
    by_cases hd : 48 ≤ c.toNat ∧ c.toNat ≤ 57
    · rw [if_pos hd]
      by_cases hg : (MOST - ((c.toNat : Int) - 48)) / 10 < n
      · rw [if_pos hg]
        exact ⟨by decide, by decide, .inr (.inr ⟨rfl, rfl⟩)⟩
      · rw [if_neg hg]
        refine uP_kind l _ (by omega) ?_
        unfold MOST at *
        omega
    · rw [if_neg hd]
      exact ⟨by decide, by decide, .inr (.inl rfl)⟩
theorem uP0_kind (l : List UInt8) : 0 ≤ (uP0 l).1 ∧ (uP0 l).1 ≤ MOST ∧ ((uP0 l).2 = 0 ∨ (uP0 l).2 = 1 ∨ ((uP0 l).2 = 2 ∧ (uP0 l).1 = MOST)) := by
  unfold uP0
  split
  · exact ⟨by decide, by decide, .inr (.inl rfl)⟩
  · exact uP_kind l 0 (by decide) (by decide)
theorem iP_plus (l : List UInt8) : iP (43 :: l) = if (uP0 l).2 = 1 then (0, 1) else if CUTU ≤ (uP0 l).1 then (CUTU - 1, 2) else ((uP0 l).1, 0) := rfl
theorem iP_bare {c : UInt8} {l : List UInt8} (h45 : ¬ c = 45) (h43 : ¬ c = 43) : iP (c :: l) = if (uP0 (c :: l)).2 = 1 then (0, 1) else if CUTU ≤ (uP0 (c :: l)).1 then (CUTU - 1, 2) else ((uP0 (c :: l)).1, 0) := by
  unfold iP
  simp only [List.head?_cons, Option.some.injEq, h45, h43, decide_false, or_self, if_false, reduceCtorEq, Bool.false_eq_true]
theorem posw {u : Int} (h0 : 0 ≤ u) (h1 : u < 9223372036854775808) : wrap64 u = u := by unfold wrap64; omega
theorem negw {u : Int} (h0 : 0 ≤ u) (h1 : u ≤ 9223372036854775808) : wrap64 (-wrap64 u) = -u := by unfold wrap64; omega
set_option maxHeartbeats 8000000 in
set_option maxRecDepth 100000 in
theorem parse_int (s : ByteArray) (w : World) (hz : s.size ≤ 1000000) :
    Calls Tryz.prog 101 #[.string s, .int .i64 10, .int .i64 0] w fun e w' => e = .returned (.tuple #[.int .i64 (iP s.data.toList).1, errU (iP s.data.toList).2]) ∧ Below w.heap.size w w' := by
  by_cases h : s.data.toList = []
  · have e : s = ⟨#[]⟩ := ba_ext h
    subst e
    go_enter Tryz.func101, Tryz.ntmps101
    go_wp2
    go_ret2
    exact ⟨rfl, Below.refl _ _⟩
  · have b1 : (s.toList == ([] : List UInt8)) = false := by rw [beq_eq_false_iff_ne, ByteArray.toList_eq]; exact h
    have b2 : s.toList.isEmpty = false := by
      cases hq : s.toList with
      | nil => rw [ByteArray.toList_eq] at hq; exact absurd hq h
      | cons _ _ => rfl
    obtain ⟨c, l, hl⟩ := List.exists_cons_of_ne_nil h
    have hs0 : 0 < s.size := by rw [← ba_list, hl]; simp
    have hc0 : s[0]'hs0 = c := by
      have := congrArg (fun z => z[0]?) hl
      simp only [List.getElem?_cons_zero] at this
      rw [List.getElem?_eq_getElem (by rw [ba_list]; exact hs0)] at this
      exact Option.some.inj this
    obtain ⟨t, ht⟩ : ∃ t, s.extract 1 s.size = t := ⟨_, rfl⟩
    have htl : t.data.toList = l := by
      rw [← ht, ba_extract, hl]
      simp
      rw [List.take_of_length_le]
      have := congrArg List.length hl
      rw [ba_list] at this
      simp at this
      omega
    have htz : t.size ≤ 1000000 := by
      have := congrArg List.length hl
      rw [ba_list] at this
      rw [← ba_list, htl]
      simp at this
      omega
    have hpt := fun w => parse_uint_any t w htz
    have hps := fun w => parse_uint_any s w hz
    rw [htl] at hpt
    rw [hl] at hps
    have hnn : ∀ w : World, (binOp .neq 57 .nilIface .nilIface).run Tryz.prog w = .ok (.bool false) w := fun w => by kernel_rfl
    have hn1 : ∀ w : World, (binOp .neq 57 (.iface 168 (.string synB)) .nilIface).run Tryz.prog w = .ok (.bool true) w := fun w => by kernel_rfl
    have hn2 : ∀ w : World, (binOp .neq 57 (.iface 168 (.string rngB)) .nilIface).run Tryz.prog w = .ok (.bool true) w := fun w => by kernel_rfl
    have hr1 : ∀ w : World, (binOp .neq 57 (.iface 168 (.string synB)) (.iface 168 (.string ⟨#[118, 97, 108, 117, 101, 32, 111, 117, 116, 32, 111, 102, 32, 114, 97, 110, 103, 101]⟩))).run Tryz.prog w = .ok (.bool true) w := fun w => by kernel_rfl
    have hr2 : ∀ w : World, (binOp .neq 57 (.iface 168 (.string rngB)) (.iface 168 (.string ⟨#[118, 97, 108, 117, 101, 32, 111, 117, 116, 32, 111, 102, 32, 114, 97, 110, 103, 101]⟩))).run Tryz.prog w = .ok (.bool false) w := fun w => by kernel_rfl
    rw [hl]
    have HS := Aside0.mk (And.intro htl (And.intro htz hl))
    clear h hz hl htl htz
    by_cases h45 : c = 45
    · subst h45
      have hP := uP0_kind l
      have hi : iP (45 :: l) = if (uP0 l).2 = 1 then (0, 1) else if CUTU < (uP0 l).1 then (-CUTU, 2) else (-(uP0 l).1, 0) := rfl
      rw [hi]
      clear hi
      generalize uP0 l = r at hP hpt ⊢
      obtain ⟨u, k⟩ := r
      obtain ⟨h0, h1, hk⟩ := hP
      simp only at h0 h1 hk hpt ⊢
      unfold MOST at h1 hk
      rcases hk with rfl | rfl | ⟨rfl, rfl⟩
      · have e0 : errU 0 = .nilIface := rfl
        rw [e0] at hpt
        have HPT := Aside0.mk hpt
        by_cases hcut : (9223372036854775808 : Int) < u
        · rw [if_neg (by decide), if_pos (show CUTU < u from hcut)]
          clear hpt hps e0 h0 h1
          go_enter Tryz.func101, Tryz.ntmps101
          go_wp2_with (go_at_call 109; refine (HPT.out _).mono ?_; rintro e w2 ⟨rfl, hb⟩; have HB2 := Aside0.mk hb; clear hb)
          go_ret2
          exact ⟨by rw [show wrap64 (-wrap64 9223372036854775808) = -CUTU from negw (by decide) (by decide)]; rfl, HB2.out⟩
        · rw [if_neg (by decide), if_neg (show ¬ CUTU < u from hcut)]
          have hw : wrap64 (-wrap64 u) = -u := negw h0 (by omega)
          clear hpt hps e0 h0 h1
          go_enter Tryz.func101, Tryz.ntmps101
          go_wp2_with (go_at_call 109; refine (HPT.out _).mono ?_; rintro e w2 ⟨rfl, hb⟩; have HB2 := Aside0.mk hb; clear hb)
          go_ret2
          exact ⟨by rw [hw]; rfl, HB2.out⟩
      · have e0 : errU 1 = .iface 168 (.string synB) := rfl
        rw [e0] at hpt
        clear e0
        have HPT := Aside0.mk hpt
        rw [if_pos rfl]
        clear hpt hps h0 h1
        go_enter Tryz.func101, Tryz.ntmps101
        go_wp2_with (go_at_call 109; refine (HPT.out _).mono ?_; rintro e w2 ⟨rfl, hb⟩; have HB2 := Aside0.mk hb; clear hb)
        go_ret2
        exact ⟨rfl, HB2.out⟩
      · have e0 : errU 2 = .iface 168 (.string rngB) := rfl
        rw [e0] at hpt
        clear e0
        have HPT := Aside0.mk hpt
        rw [if_neg (by decide), if_pos (by decide)]
        clear hpt hps h0 h1
        go_enter Tryz.func101, Tryz.ntmps101
        go_wp2_with (go_at_call 109; refine (HPT.out _).mono ?_; rintro e w2 ⟨rfl, hb⟩; have HB2 := Aside0.mk hb; clear hb)
        go_ret2
        exact ⟨by rw [show wrap64 (-wrap64 9223372036854775808) = -CUTU from negw (by decide) (by decide)]; rfl, HB2.out⟩
    · have n45 : ¬ ((c.toNat : Int) = 45) := fun e => h45 ((by apply UInt8.toNat_inj.1; have : (45 : UInt8).toNat = 45 := rfl; omega))
      have n45b : ((c.toNat : Int) == 45) = false := beq_eq_false_iff_ne.2 n45
      by_cases h43 : c = 43
      · subst h43
        have hP := uP0_kind l
        have hi := iP_plus l
        rw [hi]
        clear hi
        generalize uP0 l = r at hP hpt ⊢
        obtain ⟨u, k⟩ := r
        obtain ⟨h0, h1, hk⟩ := hP
        simp only at h0 h1 hk hpt ⊢
        unfold MOST at h1 hk
        rcases hk with rfl | rfl | ⟨rfl, rfl⟩
        · have e0 : errU 0 = .nilIface := rfl
          rw [e0] at hpt
          have HPT := Aside0.mk hpt
          by_cases hcut : (9223372036854775808 : Int) ≤ u
          · rw [if_neg (by decide), if_pos (show CUTU ≤ u from hcut)]
            clear hpt hps e0 h0 h1
            go_enter Tryz.func101, Tryz.ntmps101
            go_wp2_with (go_at_call 109; refine (HPT.out _).mono ?_; rintro e w2 ⟨rfl, hb⟩; have HB2 := Aside0.mk hb; clear hb)
            go_ret2
            exact ⟨rfl, HB2.out⟩
          · rw [if_neg (by decide), if_neg (show ¬ CUTU ≤ u from hcut)]
            have hw : wrap64 u = u := posw h0 (by omega)
            clear hpt hps e0 h0 h1
            go_enter Tryz.func101, Tryz.ntmps101
            go_wp2_with (go_at_call 109; refine (HPT.out _).mono ?_; rintro e w2 ⟨rfl, hb⟩; have HB2 := Aside0.mk hb; clear hb)
            go_ret2
            exact ⟨by rw [hw]; rfl, HB2.out⟩
        · have e0 : errU 1 = .iface 168 (.string synB) := rfl
          rw [e0] at hpt
          clear e0
          have HPT := Aside0.mk hpt
          rw [if_pos rfl]
          clear hpt hps h0 h1
          go_enter Tryz.func101, Tryz.ntmps101
          go_wp2_with (go_at_call 109; refine (HPT.out _).mono ?_; rintro e w2 ⟨rfl, hb⟩; have HB2 := Aside0.mk hb; clear hb)
          go_ret2
          exact ⟨rfl, HB2.out⟩
        · have e0 : errU 2 = .iface 168 (.string rngB) := rfl
          rw [e0] at hpt
          clear e0
          have HPT := Aside0.mk hpt
          rw [if_neg (by decide), if_pos (by decide)]
          clear hpt hps h0 h1
          go_enter Tryz.func101, Tryz.ntmps101
          go_wp2_with (go_at_call 109; refine (HPT.out _).mono ?_; rintro e w2 ⟨rfl, hb⟩; have HB2 := Aside0.mk hb; clear hb)
          go_ret2
          exact ⟨rfl, HB2.out⟩
      · have n43 : ¬ ((c.toNat : Int) = 43) := fun e => h43 ((by apply UInt8.toNat_inj.1; have : (43 : UInt8).toNat = 43 := rfl; omega))
        have n43b : ((c.toNat : Int) == 43) = false := beq_eq_false_iff_ne.2 n43
        have hP := uP0_kind (c :: l)
        have hi := iP_bare (l := l) h45 h43
        rw [hi]
        clear hi
        generalize uP0 (c :: l) = r at hP hps ⊢
        obtain ⟨u, k⟩ := r
        obtain ⟨h0, h1, hk⟩ := hP
        simp only at h0 h1 hk hps ⊢
        unfold MOST at h1 hk
        rcases hk with rfl | rfl | ⟨rfl, rfl⟩
        · have e0 : errU 0 = .nilIface := rfl
          rw [e0] at hps
          have HPT := Aside0.mk hps
          by_cases hcut : (9223372036854775808 : Int) ≤ u
          · rw [if_neg (by decide), if_pos (show CUTU ≤ u from hcut)]
            clear hpt hps e0 h0 h1
            go_enter Tryz.func101, Tryz.ntmps101
            go_wp2_with (go_at_call 109; refine (HPT.out _).mono ?_; rintro e w2 ⟨rfl, hb⟩; have HB2 := Aside0.mk hb; clear hb)
            go_ret2
            exact ⟨rfl, HB2.out⟩
          · rw [if_neg (by decide), if_neg (show ¬ CUTU ≤ u from hcut)]
            have hw : wrap64 u = u := posw h0 (by omega)
            clear hpt hps e0 h0 h1
            go_enter Tryz.func101, Tryz.ntmps101
            go_wp2_with (go_at_call 109; refine (HPT.out _).mono ?_; rintro e w2 ⟨rfl, hb⟩; have HB2 := Aside0.mk hb; clear hb)
            go_ret2
            exact ⟨by rw [hw]; rfl, HB2.out⟩
        · have e0 : errU 1 = .iface 168 (.string synB) := rfl
          rw [e0] at hps
          clear e0
          have HPT := Aside0.mk hps
          rw [if_pos rfl]
          clear hpt hps h0 h1
          go_enter Tryz.func101, Tryz.ntmps101
          go_wp2_with (go_at_call 109; refine (HPT.out _).mono ?_; rintro e w2 ⟨rfl, hb⟩; have HB2 := Aside0.mk hb; clear hb)
          go_ret2
          exact ⟨rfl, HB2.out⟩
        · have e0 : errU 2 = .iface 168 (.string rngB) := rfl
          rw [e0] at hps
          clear e0
          have HPT := Aside0.mk hps
          rw [if_neg (by decide), if_pos (by decide)]
          clear hpt hps h0 h1
          go_enter Tryz.func101, Tryz.ntmps101
          go_wp2_with (go_at_call 109; refine (HPT.out _).mono ?_; rintro e w2 ⟨rfl, hb⟩; have HB2 := Aside0.mk hb; clear hb)
          go_ret2
          exact ⟨rfl, HB2.out⟩
/-- a text as a whole number, its kind: 0 one, 1 none -/
def atoiP (s : ByteArray) : Int × Int := if (iP s.data.toList).2 = 0 then ((iP s.data.toList).1, 0) else (0, 1)
theorem iP_kind (l : List UInt8) : (iP l).2 = 0 ∨ (iP l).2 = 1 ∨ (iP l).2 = 2 := by
  unfold iP
  simp only []
  repeat' split
  all_goals simp
set_option maxHeartbeats 4000000 in
set_option maxRecDepth 100000 in
theorem sc_atoi (s : ByteArray) (w : World) (hz : s.size ≤ 1000000) :
    Calls Tryz.prog 97 #[.string s] w fun e w' => ∃ n err, e = .returned (.tuple #[.int .i64 n, err]) ∧ ErrK (atoiP s).2 err ∧ ((atoiP s).2 = 0 → n = (atoiP s).1) ∧ Below w.heap.size w w' := by
  have hp := parse_int s w hz
  have hk := iP_kind s.data.toList
  unfold atoiP
  generalize iP s.data.toList = r at hp hk ⊢
  obtain ⟨u, k⟩ := r
  simp only at hp hk ⊢
  have hnn : ∀ w : World, (binOp .neq 57 .nilIface .nilIface).run Tryz.prog w = .ok (.bool false) w := fun w => by kernel_rfl
  have hn1 : ∀ w : World, (binOp .neq 57 (.iface 168 (.string synB)) .nilIface).run Tryz.prog w = .ok (.bool true) w := fun w => by kernel_rfl
  have hn2 : ∀ w : World, (binOp .neq 57 (.iface 168 (.string rngB)) .nilIface).run Tryz.prog w = .ok (.bool true) w := fun w => by kernel_rfl
  rcases hk with rfl | rfl | rfl
  · have e0 : errU 0 = .nilIface := rfl
    rw [e0] at hp
    have HP := Aside0.mk hp
    clear hp e0
    go_enter Tryz.func97, Tryz.ntmps97
    go_wp2_with (go_at_call 101; refine HP.out.mono ?_; rintro e w2 ⟨rfl, hb⟩; have HB2 := Aside0.mk hb; clear hb)
    go_ret2
    exact ⟨_, _, rfl, .inl ⟨rfl, rfl⟩, rfl, HB2.out⟩
  · have e0 : errU 1 = .iface 168 (.string synB) := rfl
    rw [e0] at hp
    have HP := Aside0.mk hp
    clear hp e0
    go_enter Tryz.func97, Tryz.ntmps97
    go_wp2_with (go_at_call 101; refine HP.out.mono ?_; rintro e w2 ⟨rfl, hb⟩; have HB2 := Aside0.mk hb; clear hb)
    go_ret2
    exact ⟨_, _, rfl, .inr ⟨rfl, _, _, rfl⟩, HB2.out.alloc HB2.out.size _⟩
  · have e0 : errU 2 = .iface 168 (.string rngB) := rfl
    rw [e0] at hp
    have HP := Aside0.mk hp
    clear hp e0
    go_enter Tryz.func97, Tryz.ntmps97
    go_wp2_with (go_at_call 101; refine HP.out.mono ?_; rintro e w2 ⟨rfl, hb⟩; have HB2 := Aside0.mk hb; clear hb)
    go_ret2
    exact ⟨_, _, rfl, .inr ⟨rfl, _, _, rfl⟩, HB2.out.alloc HB2.out.size _⟩
end
section
open Go.Proofs
set_option maxHeartbeats 4000000 in
set_option maxRecDepth 100000 in
theorem conf_Int {w : World} {p m : Nat} {st : Secs} (h : ConfIs w p m st) (key v : ByteArray) (hk : lowKey key = true) (hv : getConf (confOf st) key = v) (hz : v.size ≤ 1000000) :
    Calls Tryz.prog 90 #[.pointer (some ⟨p, 0, none⟩), .string key] w fun e w' => ∃ n err, e = .returned (.tuple #[.int .i64 n, err]) ∧ (ErrK (atoiP v).2 err ∧ ((atoiP v).2 = 0 → n = (atoiP v).1)) ∧ Below w.heap.size w w' := by
  have hg := conf_get h key hk
  rw [hv] at hg
  have HZ := Aside0.mk hz
  clear h hk hv hz
  go_enter Tryz.func90, Tryz.ntmps90
  go_wp2_with (first
    | (go_at_call 96; refine hg.mono ?_; rintro e w2 ⟨rfl, hb⟩; have HB2 := Aside0.mk hb; clear hb)
    | (go_at_call 97; refine (sc_atoi _ _ HZ.out).mono ?_; rintro e w3 ⟨n, err, rfl, he, hn, hb⟩; have HB3 := Aside0.mk hb; have HE := Aside0.mk (And.intro he hn); clear hb he hn))
  go_ret2
  exact ⟨_, _, rfl, HE.out, HB2.out.trans (HB3.out.mono HB2.out.size)⟩
def impl_ConfigInt.f (text key : ByteArray) : Option (Int × Int) := if goodText text && lowKey key then (parseP text.data.toList).bind fun D => if 1000000 < (getConf D key).size then none else some (if (atoiP (getConf D key)).2 = 0 then ((atoiP (getConf D key)).1, 0) else (0, 1)) else none
set_option maxHeartbeats 4000000 in
set_option maxRecDepth 100000 in
theorem config_int {pe pb : Addr} {W : World} (hG : GlobsIn pe pb W) (a0 a1 : ByteArray) (r0 : Int) (r1 : Int) (h : impl_ConfigInt.f a0 a1 = some (r0, r1)) :
    Calls Tryz.prog 22 #[.string a0, .string a1] W fun e w' => e = .returned (.tuple #[.int .i64 r0, .int .i64 r1]) ∧ Below W.heap.size W w' := by
  unfold impl_ConfigInt.f at h
  by_cases hc : (goodText a0 && lowKey a1) = true
  · rw [if_pos hc] at h
    rw [Bool.and_eq_true] at hc
    obtain ⟨D, hD, hr⟩ := Option.bind_eq_some_iff.1 h
    by_cases hq : 1000000 < (getConf D a1).size
    · rw [if_pos hq] at hr; cases hr
    rw [if_neg hq, Option.some.injEq] at hr
    obtain ⟨v, hv⟩ : ∃ v, v = getConf D a1 := ⟨_, rfl⟩
    rw [← hv] at hr hq
    have hn := Aside0.mk (new_config hG a0 D hc.1 hD)
    have HK := Aside0.mk hc.2
    have HQ := Aside0.mk hq
    have HV := Aside0.mk hv
    have hnn : ∀ w : World, (binOp .neq 57 .nilIface .nilIface).run Tryz.prog w = .ok (.bool false) w := fun w => by kernel_rfl
    have hn1 : ∀ (t : TypeId) (x : Value) (w : World), (binOp .neq 57 (.iface t x) .nilIface).run Tryz.prog w = .ok (.bool true) w := fun t x w => by kernel_rfl
    have hki : (atoiP v).2 = 0 ∨ (atoiP v).2 = 1 := by unfold atoiP; split; exact .inl rfl; exact .inr rfl
    have HKI := Aside0.mk (And.intro hr hki)
    clear h hc hD hG hq hr hki hv
    go_enter Tryz.func22, Tryz.ntmps22
    go_wp2_with (first
      | (go_at_call 25; refine hn.out.mono ?_; rintro e w2 ⟨p, m, st, rfl, hC, hD, hle, hb⟩; have H2 := Aside0.mk (And.intro hC (And.intro hD (And.intro hle hb))); clear hC hD hle hb)
      | (go_at_call 90; refine (conf_Int H2.out.1 a1 v HK.out (by rw [H2.out.2.1]; exact HV.out.symm) (by have := HQ.out; omega)).mono ?_; rintro e w3 ⟨n, err, rfl, he, hb⟩; have HB3 := Aside0.mk hb; have HE := Aside0.mk he; clear hb he; rcases HE.out.1 with ⟨hk0, rfl⟩ | ⟨hk1, t1, x1, rfl⟩))
    · go_ret2
      have hr := HKI.out.1
      rw [if_pos hk0, Prod.mk.injEq] at hr
      obtain ⟨rfl, rfl⟩ := hr
      exact ⟨by rw [HE.out.2 hk0]; rfl, H2.out.2.2.2.trans (HB3.out.mono H2.out.2.2.2.size)⟩
    · go_ret2
      have hr := HKI.out.1
      rw [if_neg (by omega), Prod.mk.injEq] at hr
      obtain ⟨rfl, rfl⟩ := hr
      exact ⟨rfl, H2.out.2.2.2.trans (HB3.out.mono H2.out.2.2.2.size)⟩
  · rw [if_neg hc] at h; cases h
end
theorem impl_ConfigInt.calls (a0 a1 : ByteArray) (r0 : Int) (r1 : Int) (w : World) (hprem : Prem w) (h : impl_ConfigInt.f a0 a1 = some (r0, r1)) :
    Calls Tryz.prog 22 #[.string a0, .string a1] w fun e w' => e = .returned (.tuple #[.int .i64 r0, .int .i64 r1]) ∧ Below w.heap.size w w' := by
  obtain ⟨pe, pb, hg⟩ := hprem
  exact config_int hg a0 a1 r0 r1 h

end Go.Proofs.YtbomcdnijklgjaaGreatDoor.PFnConfigValues
