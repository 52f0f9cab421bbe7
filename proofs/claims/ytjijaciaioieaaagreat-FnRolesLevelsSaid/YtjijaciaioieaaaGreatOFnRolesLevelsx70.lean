/- The machine side of laws.FnRolesLevels: the law itself answers what its Lean function answers. No condition beyond what each theorem says. -/
import Derived.Test.YtjijaciaioieaaaGreatOFnRolesOrderx1
import Derived.Test.YtjijaciaioieaaaGreatOFnRolesOrderx2
import Derived.Test.YtjijaciaioieaaaGreatOFnRolesOrderx85
import Derived.Test.YtjijaciaioieaaaGreatOFnRolesOrderx95
import Derived.Test.YtjijaciaioieaaaGreatOFnRolesOrderx96
namespace Go.Proofs.YtjijaciaioieaaaGreat.PFnRolesOrder
open Go.RowKit Go.Proofs.YtjijaciaioieaaaGreatW.PrintWords Go.Proofs.YtjijaciaioieaaaGreatW.PrintLast Go.Proofs.YtjijaciaioieaaaGreatW.PrintMore
attribute [local go_sem] max2_int min2_int max_two min_two max_three min_three max_four min_four   -- for this text's walks alone
set_option linter.unusedVariables false
set_option linter.unusedSimpArgs false
/-! ### spec_Figure: function 20 -/
def spec_Figure.l0 : Nat → Int → ByteArray → Option (ByteArray)
 | 0, _, _ => none
 | k + 1, x0, x3 => if x0 ≥ 10 then ((some (([(wrap64 (48 + (Int.tmod (wrap64 (Int.tdiv x0 10)) 10))) % 256] : List Int) : List Int)).bind fun y104 => (if (strOfNums y104).size + x3.size ≤ 9223372036854775807 then (spec_Figure.l0 k (wrap64 (Int.tdiv x0 10)) ((strOfNums y104) ++ x3)) else (none))) else (some x3)
def spec_Figure.f (k : Nat) (a0 : Int) : Option (ByteArray) := spec_Figure.l0 k a0 (strOfNums (([(wrap64 (48 + (Int.tmod a0 10))) % 256] : List Int)))
theorem spec_Figure.mono_l : ∀ k, (∀ y0 y1, LeO (spec_Figure.l0 k y0 y1) (spec_Figure.l0 (k + 1) y0 y1))
 | 0 => fun _ _ r h => by simp [spec_Figure.l0] at h
 | k + 1 => by
  have ih0 := spec_Figure.mono_l k
  ·intro y0 y1
   unfold spec_Figure.l0
   repeat' first
   | (with_reducible exact ih0 _ _)
   | (with_reducible exact LeO.refl _)
   | (with_reducible exact LeO.none _)
   | (with_reducible refine LeO.ite ?_ ?_)
   | (with_reducible refine LeO.bind ?_ (fun _ => ?_))
   | exact ih0 _ _
   | exact LeO.none _
   | refine LeO.ite ?_ ?_
   | refine LeO.bind ?_ (fun _ => ?_)
theorem spec_Figure.mono : ∀ a0 k, LeO (spec_Figure.f k a0) (spec_Figure.f (k + 1) a0) := by
 intro a0 k
 have ih0 := spec_Figure.mono_l k
 unfold spec_Figure.f
 repeat' first
   | (with_reducible exact ih0 _ _)
   | (with_reducible exact LeO.refl _)
   | (with_reducible exact LeO.none _)
   | (with_reducible refine LeO.ite ?_ ?_)
   | (with_reducible refine LeO.bind ?_ (fun _ => ?_))
   | exact ih0 _ _
   | exact LeO.none _
   | refine LeO.ite ?_ ?_
   | refine LeO.bind ?_ (fun _ => ?_)
set_option maxHeartbeats 8000000 in
set_option maxRecDepth 100000 in
theorem spec_Figure.calls (k : Nat) (a0 : Int) (r : ByteArray) (w : World) (h : spec_Figure.f k a0 = some r) :
  Calls Tryz.prog 20 #[.int .i64 a0] w fun e w' => e = .returned (.string r) ∧ Below w.heap.size w w' := by
 have HB := Aside0.mk (Below.refl w.heap.size w)
 have H : (spec_Figure.l0 k a0 (strOfNums (([(wrap64 (48 + (Int.tmod a0 10))) % 256] : List Int)))) = some r := h
 clear h
 obtain ⟨y101, hy101⟩ : ∃ y_ : List Int, y_ = (([(wrap64 (48 + (Int.tmod a0 10))) % 256] : List Int)) := ⟨_, rfl⟩
 replace H : (spec_Figure.l0 k a0 (strOfNums y101)) = some r := by first | (rw [hy101]; with_reducible exact H) | (have H2_ := (Option.bind_some _ _).symm.trans H; rw [hy101]; with_reducible exact H2_) | (have H2_ := (Option.bind_some _ _).symm.trans H; with_reducible exact H2_) | with_reducible exact H | (rw [hy101]; exact H) | exact H
 have Ny101 := Aside0.mk hy101
 clear hy101
 have H' := Aside0.mk H
 clear H
 go_enter Tryz.func20, Tryz.ntmps20
 go_wp2_with (first | ((with_reducible refine gate_dst (N := 8) rfl ?_); refine Kd.R_lit (Kd.int .u8) _ 5 ?hg (N := 8) ?hd (xs := ([(wrap64 (48 + (Int.tmod a0 10))) % 256] : List Int)) (inner := [.int .u8 ((wrap64 (48 + (Int.tmod a0 10))) % 256)]) (ok := fun _ => True) (okp := fun _ => True) ?hr ?hp (fun _ hk => hk) trivial (Below.refl _ _) (Nat.le_refl _) (by simp) ?_; (case hd => rfl); (case hg => rfl); (case hr => first | (go_simp; done) | (go_simp; rfl)); (case hp => exact (Reps.one (show Kd.M (Kd.int .u8) _ _ _ ((wrap64 (48 + (Int.tmod a0 10))) % 256) [.int .u8 ((wrap64 (48 + (Int.tmod a0 10))) % 256)] from rfl) (Reps.none _ _))); intro v102 w2 ho3 hb hg_ hnew_; clear hg_ hnew_; (first | rw [← Ny101.out] at ho3 | (simp only [Int.reduceToNat] at ho3; rw [← Ny101.out] at ho3)); have n0_ := Aside0.mk (Kd.R_lower ho3 (below_size (by repeat (first | (with_reducible first | exact HB.out | apply below_alloc | apply pw_below_drewN | apply below_drew1) | exact HB.out)))); have n1_ := Aside0.mk (below_step (by repeat (first | (with_reducible first | exact HB.out | apply below_alloc | apply pw_below_drewN | apply below_drew1) | exact HB.out)) hb); clear HB; have HO103 := n0_; have HB := n1_; clear n0_ n1_; clear hb ho3; have hcv4 := own_string (P := Tryz.prog) Tryz.underlying68 Tryz.underlying5 Tryz.underlying9 (Kd.own_of_R HO103.out)))
 go_loopg [0, 3] k (fun kq v0 v3 w' => ∃ (x0_1 : Int) (x3_1 : ByteArray), v0 = .int .i64 x0_1 ∧ v3 = .string x3_1 ∧ Aside0 (spec_Figure.l0 kq x0_1 x3_1 = some r) ∧ Aside0 (kq ≤ k) ∧ Aside0 (Below w.heap.size w w'))
 case atStart => exact ⟨(a0), (strOfNums y101), (by first | rfl | (simp; done) | (simp [*]; done)), (by first | rfl | (simp; done) | (simp [*]; done)), H', ⟨Nat.le_refl _⟩, ⟨by repeat (first | (with_reducible first | exact HB.out | apply below_alloc | apply pw_below_drewN | apply below_drew1) | exact HB.out)⟩⟩
 case round =>
  clear H'
  try clear c2
  try clear p2
  try clear hcv4
  obtain ⟨x0_1, x3_1, rfl, rfl, HA, HK1, HB⟩ := hrel
  cases gk with
  | zero => exact absurd HA.out (by simp [spec_Figure.l0])
  | succ k1 =>
   have H := HA.out
   clear HA
   simp only [spec_Figure.l0] at H
   by_cases c5 : x0_1 ≥ 10
   ·rw [if_pos c5] at H
    have c5b0 : decide (10 ≤ x0_1) = true := decide_eq_true c5
    clear c5
    obtain ⟨y104, hy104⟩ : ∃ y_ : List Int, y_ = (([(wrap64 (48 + (Int.tmod (wrap64 (Int.tdiv x0_1 10)) 10))) % 256] : List Int)) := ⟨_, rfl⟩
    replace H : (if (strOfNums y104).size + x3_1.size ≤ 9223372036854775807 then (spec_Figure.l0 k1 (wrap64 (Int.tdiv x0_1 10)) ((strOfNums y104) ++ x3_1)) else (none)) = some r := by first | (rw [hy104]; with_reducible exact H) | (have H2_ := (Option.bind_some _ _).symm.trans H; rw [hy104]; with_reducible exact H2_) | (have H2_ := (Option.bind_some _ _).symm.trans H; with_reducible exact H2_) | with_reducible exact H | (rw [hy104]; exact H) | exact H
    have Ny104 := Aside0.mk hy104
    clear hy104
    by_cases c6 : (strOfNums y104).size + x3_1.size ≤ 9223372036854775807
    ·rw [if_pos c6] at H
     have c6b0 := eq_true c6
     have c6b1 : decide ((strOfNums y104).size + x3_1.size ≤ 9223372036854775807) = true := decide_eq_true c6
     try have c6b2 : (9223372036854775807 < (strOfNums y104).size + x3_1.size) = False := eq_false (Nat.not_lt.2 c6)
     have H' := Aside0.mk H
     clear H
     go_wp2_with (first | ((with_reducible refine gate_dst (N := 18) rfl ?_); refine Kd.R_lit (Kd.int .u8) _ 5 ?hg (N := 18) ?hd (xs := ([(wrap64 (48 + (Int.tmod (wrap64 (Int.tdiv x0_1 10)) 10))) % 256] : List Int)) (inner := [.int .u8 ((wrap64 (48 + (Int.tmod (wrap64 (Int.tdiv x0_1 10)) 10))) % 256)]) (ok := fun _ => True) (okp := fun _ => True) ?hr ?hp (fun _ hk => hk) trivial (Below.refl _ _) (Nat.le_refl _) (by simp) ?_; (case hd => rfl); (case hg => rfl); (case hr => first | (go_simp; done) | (go_simp; rfl)); (case hp => exact (Reps.one (show Kd.M (Kd.int .u8) _ _ _ ((wrap64 (48 + (Int.tmod (wrap64 (Int.tdiv x0_1 10)) 10))) % 256) [.int .u8 ((wrap64 (48 + (Int.tmod (wrap64 (Int.tdiv x0_1 10)) 10))) % 256)] from rfl) (Reps.none _ _))); intro v105 w7 ho8 hb hg_ hnew_; clear hg_ hnew_; (first | rw [← Ny104.out] at ho8 | (simp only [Int.reduceToNat] at ho8; rw [← Ny104.out] at ho8)); have n0_ := Aside0.mk (Kd.R_lower ho8 (below_size (by repeat (first | (with_reducible first | exact HB.out | apply below_alloc | apply pw_below_drewN | apply below_drew1) | exact HB.out)))); have n1_ := Aside0.mk (below_step (by repeat (first | (with_reducible first | exact HB.out | apply below_alloc | apply pw_below_drewN | apply below_drew1) | exact HB.out)) hb); clear HB; have HO106 := n0_; have HB := n1_; clear n0_ n1_; clear hb ho8; have hcv9 := own_string (P := Tryz.prog) Tryz.underlying68 Tryz.underlying5 Tryz.underlying9 (Kd.own_of_R HO106.out)))
     go_roundg k1
     case measure => have := HK1.out; omega
     case rel => exact ⟨(wrap64 (Int.tdiv x0_1 10)), ((strOfNums y104) ++ x3_1), (by first | rfl | (simp; done) | (simp [*]; done)), (by first | rfl | (simp; done) | (simp [*]; done)), H', ⟨by have := HK1.out; omega⟩, ⟨by repeat (first | (with_reducible first | exact HB.out | apply below_alloc | apply pw_below_drewN | apply below_drew1) | exact HB.out)⟩⟩
    ·rw [if_neg c6] at H
     exact absurd H (by simp)
   ·rw [if_neg c5] at H
    have c5b0 : decide (10 ≤ x0_1) = false := decide_eq_false c5
    clear c5
    obtain rfl := Option.some.inj H
    go_wp2
    go_ret
    exact ⟨by first | rfl | (simp [errW_none, errW_some] <;> rfl) | (simp [*, errW_none, errW_some] <;> rfl), by repeat (first | (with_reducible first | exact HB.out | apply below_alloc | apply pw_below_drewN | apply below_drew1) | exact HB.out)⟩

/-! ### laws_FnRolesLevels_1: function 19 -/
def laws_FnRolesLevels_1.f (k : Nat) (a0 : Int) : Option (ByteArray) := (spec_Figure.f k a0).bind fun t107 => (if 1 + t107.size ≤ 9223372036854775807 then (some ((⟨#[110]⟩ : ByteArray) ++ t107)) else (none))
theorem laws_FnRolesLevels_1.mono : ∀ a0 k, LeO (laws_FnRolesLevels_1.f k a0) (laws_FnRolesLevels_1.f (k + 1) a0) := by
 intro a0 k
 unfold laws_FnRolesLevels_1.f
 repeat' first
   | (with_reducible exact spec_Figure.mono _ _)
   | (with_reducible exact LeO.refl _)
   | (with_reducible exact LeO.none _)
   | (with_reducible refine LeO.ite ?_ ?_)
   | (with_reducible refine LeO.bind ?_ (fun _ => ?_))
   | exact spec_Figure.mono _ _
   | exact LeO.none _
   | refine LeO.ite ?_ ?_
   | refine LeO.bind ?_ (fun _ => ?_)
set_option maxHeartbeats 8000000 in
set_option maxRecDepth 100000 in
theorem laws_FnRolesLevels_1.calls (k : Nat) (a0 : Int) (r : ByteArray) (w : World) (h : laws_FnRolesLevels_1.f k a0 = some r) :
  Calls Tryz.prog 19 #[.int .i64 a0] w fun e w' => e = .returned (.string r) ∧ Below w.heap.size w w' := by
 have HB := Aside0.mk (Below.refl w.heap.size w)
 have H : ((spec_Figure.f k a0).bind fun t107 => (if 1 + t107.size ≤ 9223372036854775807 then (some ((⟨#[110]⟩ : ByteArray) ++ t107)) else (none))) = some r := h
 clear h
 replace H := Option.bind_eq_some_iff.mp H
 obtain ⟨t107, A20, H⟩ := H
 replace H : (if 1 + t107.size ≤ 9223372036854775807 then (some ((⟨#[110]⟩ : ByteArray) ++ t107)) else (none)) = some r := H
 have A2 := Aside0.mk A20
 clear A20
 by_cases c3 : 1 + t107.size ≤ 9223372036854775807
 ·rw [if_pos c3] at H
  have c3b0 := eq_true c3
  have c3b1 : decide (1 + t107.size ≤ 9223372036854775807) = true := decide_eq_true c3
  try have c3b2 : (9223372036854775807 < 1 + t107.size) = False := eq_false (Nat.not_lt.2 c3)
  obtain rfl := Option.some.inj H
  go_enter Tryz.func19, Tryz.ntmps19
  go_wp2_with (first | ((with_reducible refine gate_callee (f := 20) rfl ?_); refine goesL_ (some 4) rfl rfl Tryz.func20 (by kernel_rfl) rfl #[.int .i64 a0] rfl (by (try simp only [List.map_toArray, List.map_cons, List.map_nil]); first | done | rfl | (simp only [List.length_drop, List.length_take]; rfl)) ?_; (with_reducible refine (spec_Figure.calls k a0 t107 _ A2.out).mono ?_); rintro e w4 ⟨rfl, hb⟩; refine ⟨_, rfl, ?_⟩; have n0_ := Aside0.mk (below_step (by repeat (first | (with_reducible first | exact HB.out | apply below_alloc | apply pw_below_drewN | apply below_drew1) | exact HB.out)) hb); clear HB; have HB := n0_; clear n0_; (try clear hb); (try clear hb2); (try clear hk); (try clear hi)))
  go_ret
  exact ⟨by first | rfl | (simp [errW_none, errW_some] <;> rfl) | (simp [*, errW_none, errW_some] <;> rfl), by repeat (first | (with_reducible first | exact HB.out | apply below_alloc | apply pw_below_drewN | apply below_drew1) | exact HB.out)⟩
 ·rw [if_neg c3] at H
  exact absurd H (by simp)

/-! ### laws_FnRolesLevels: function 5 -/
mutual
def laws_FnRolesLevels.j0 : Nat → Int → Int → Int → Int → Bool → Option (Bool)
 | 0, _, _, _, _, _ => none
 | k + 1, x0, x1, x2, x3, x41 => if x41 = true then ((laws_awakeRoles.f k).bind fun t143 => (some t143)) else (laws_FnRolesLevels.l0 k x0 x1 x2 x3 ([] : List (S28)) 0)
def laws_FnRolesLevels.l0 : Nat → Int → Int → Int → Int → List (S28) → Int → Option (Bool)
 | 0, _, _, _, _, _, _ => none
 | k + 1, x0, x1, x2, x3, x10, x11 => if x11 < x1 then ((laws_FnRolesLevels_1.f k x11).bind fun t144 => ((laws_FnRolesLevels_1.f k (wrap64 (x11 + 1))).bind fun t145 => (if x10.length < 2932031007402 then (laws_FnRolesLevels.l0 k x0 x1 x2 x3 (x10 ++ [(⟨t144, t145, (⟨#[]⟩ : ByteArray)⟩ : S28)]) (wrap64 (x11 + 1))) else (none)))) else ((laws_added.f k x10).bind fun t149 => ((laws_FnRolesLevels_1.f k x2).bind fun t152 => ((laws_FnRolesLevels_1.f k x3).bind fun t153 => ((laws_question.f k x0 false t149 0 t152 t153 (⟨#[]⟩ : ByteArray)).bind fun bt154 => (if bt154.2.2.2 = true then (if bt154.1 = 0 then (if (bt154.2.1 == (decide ((wrap64 (x3 - x2)) ≤ x0))) = true then ((laws_awakeRoles.f k).bind fun t161 => (some t161)) else (some false)) else (some false)) else (some false))))))
end
def laws_FnRolesLevels.f (k : Nat) (a0 : Int) (a1 : Int) (a2 : Int) (a3 : Int) : Option (Bool) := if a0 < 1 then (laws_FnRolesLevels.j0 k a0 a1 a2 a3 true) else (if a0 > 20 then (laws_FnRolesLevels.j0 k a0 a1 a2 a3 true) else (if a1 < 1 then (laws_FnRolesLevels.j0 k a0 a1 a2 a3 true) else (if a1 > 30 then (laws_FnRolesLevels.j0 k a0 a1 a2 a3 true) else (if a2 < 0 then (laws_FnRolesLevels.j0 k a0 a1 a2 a3 true) else (if a3 < a2 then (laws_FnRolesLevels.j0 k a0 a1 a2 a3 true) else (laws_FnRolesLevels.j0 k a0 a1 a2 a3 (decide (a3 > a1))))))))
theorem laws_FnRolesLevels.mono_l : ∀ k, (∀ y0 y1 y2 y3 y4, LeO (laws_FnRolesLevels.j0 k y0 y1 y2 y3 y4) (laws_FnRolesLevels.j0 (k + 1) y0 y1 y2 y3 y4)) ∧ (∀ y0 y1 y2 y3 y4 y5, LeO (laws_FnRolesLevels.l0 k y0 y1 y2 y3 y4 y5) (laws_FnRolesLevels.l0 (k + 1) y0 y1 y2 y3 y4 y5))
 | 0 => ⟨fun _ _ _ _ _ r h => by simp [laws_FnRolesLevels.j0] at h, fun _ _ _ _ _ _ r h => by simp [laws_FnRolesLevels.l0] at h⟩
 | k + 1 => by
  obtain ⟨ih0, ih1⟩ := laws_FnRolesLevels.mono_l k
  refine ⟨?_, ?_⟩
  ·intro y0 y1 y2 y3 y4
   unfold laws_FnRolesLevels.j0
   repeat' first
   | (with_reducible exact ih0 _ _ _ _ _)
   | (with_reducible exact ih1 _ _ _ _ _ _)
   | (with_reducible exact laws_FnRolesLevels_1.mono _ _)
   | (with_reducible exact laws_added.mono _ _)
   | (with_reducible exact laws_awakeRoles.mono _)
   | (with_reducible exact laws_question.mono _ _ _ _ _ _ _ _)
   | (with_reducible exact LeO.refl _)
   | (with_reducible exact LeO.none _)
   | (with_reducible refine LeO.ite ?_ ?_)
   | (with_reducible refine LeO.bind ?_ (fun _ => ?_))
   | exact ih0 _ _ _ _ _
   | exact ih1 _ _ _ _ _ _
   | exact laws_FnRolesLevels_1.mono _ _
   | exact laws_added.mono _ _
   | exact laws_awakeRoles.mono _
   | exact laws_question.mono _ _ _ _ _ _ _ _
   | exact LeO.none _
   | refine LeO.ite ?_ ?_
   | refine LeO.bind ?_ (fun _ => ?_)
  ·intro y0 y1 y2 y3 y4 y5
   unfold laws_FnRolesLevels.l0
   repeat' first
   | (with_reducible exact ih0 _ _ _ _ _)
   | (with_reducible exact ih1 _ _ _ _ _ _)
   | (with_reducible exact laws_FnRolesLevels_1.mono _ _)
   | (with_reducible exact laws_added.mono _ _)
   | (with_reducible exact laws_awakeRoles.mono _)
   | (with_reducible exact laws_question.mono _ _ _ _ _ _ _ _)
   | (with_reducible exact LeO.refl _)
   | (with_reducible exact LeO.none _)
   | (with_reducible refine LeO.ite ?_ ?_)
   | (with_reducible refine LeO.bind ?_ (fun _ => ?_))
   | exact ih0 _ _ _ _ _
   | exact ih1 _ _ _ _ _ _
   | exact laws_FnRolesLevels_1.mono _ _
   | exact laws_added.mono _ _
   | exact laws_awakeRoles.mono _
   | exact laws_question.mono _ _ _ _ _ _ _ _
   | exact LeO.none _
   | refine LeO.ite ?_ ?_
   | refine LeO.bind ?_ (fun _ => ?_)
theorem laws_FnRolesLevels.mono : ∀ a0 a1 a2 a3 k, LeO (laws_FnRolesLevels.f k a0 a1 a2 a3) (laws_FnRolesLevels.f (k + 1) a0 a1 a2 a3) := by
 intro a0 a1 a2 a3 k
 obtain ⟨ih0, ih1⟩ := laws_FnRolesLevels.mono_l k
 unfold laws_FnRolesLevels.f
 repeat' first
   | (with_reducible exact ih0 _ _ _ _ _)
   | (with_reducible exact ih1 _ _ _ _ _ _)
   | (with_reducible exact laws_FnRolesLevels_1.mono _ _)
   | (with_reducible exact laws_added.mono _ _)
   | (with_reducible exact laws_awakeRoles.mono _)
   | (with_reducible exact laws_question.mono _ _ _ _ _ _ _ _)
   | (with_reducible exact LeO.refl _)
   | (with_reducible exact LeO.none _)
   | (with_reducible refine LeO.ite ?_ ?_)
   | (with_reducible refine LeO.bind ?_ (fun _ => ?_))
   | exact ih0 _ _ _ _ _
   | exact ih1 _ _ _ _ _ _
   | exact laws_FnRolesLevels_1.mono _ _
   | exact laws_added.mono _ _
   | exact laws_awakeRoles.mono _
   | exact laws_question.mono _ _ _ _ _ _ _ _
   | exact LeO.none _
   | refine LeO.ite ?_ ?_
   | refine LeO.bind ?_ (fun _ => ?_)
set_option maxHeartbeats 8000000 in
set_option maxRecDepth 100000 in
theorem laws_FnRolesLevels.calls (k : Nat) (a0 : Int) (a1 : Int) (a2 : Int) (a3 : Int) (r : Bool) (w : World) (h : laws_FnRolesLevels.f k a0 a1 a2 a3 = some r) :
  Calls Tryz.prog 5 #[.int .i64 a0, .int .i64 a1, .int .i64 a2, .int .i64 a3] w fun e w' => e = .returned (.bool r) ∧ Below w.heap.size w w' := by
 have hu28 := Tryz.underlying28
 have hu44 := Tryz.underlying44
 have hu40 := Tryz.underlying40
 have HB := Aside0.mk (Below.refl w.heap.size w)
 have H : (if a0 < 1 then (laws_FnRolesLevels.j0 k a0 a1 a2 a3 true) else (if a0 > 20 then (laws_FnRolesLevels.j0 k a0 a1 a2 a3 true) else (if a1 < 1 then (laws_FnRolesLevels.j0 k a0 a1 a2 a3 true) else (if a1 > 30 then (laws_FnRolesLevels.j0 k a0 a1 a2 a3 true) else (if a2 < 0 then (laws_FnRolesLevels.j0 k a0 a1 a2 a3 true) else (if a3 < a2 then (laws_FnRolesLevels.j0 k a0 a1 a2 a3 true) else (laws_FnRolesLevels.j0 k a0 a1 a2 a3 (decide (a3 > a1))))))))) = some r := h
 clear h
 have HC5 := Aside0.mk H
 clear H
 go_enter Tryz.func5, Tryz.ntmps5
 go_upto_region 1 with (fail)
 go_cut [41] (fun v41 wc => ∃ (kq : Nat) (x41_4 : Bool), v41 = .bool x41_4 ∧ Aside0 (laws_FnRolesLevels.j0 kq a0 a1 a2 a3 x41_4 = some r) ∧ Aside0 (kq ≤ k) ∧ Aside0 (Below w.heap.size w wc))
 case first =>
  have H := HC5.out
  clear HC5
  by_cases c6 : a0 < 1
  ·rw [if_pos c6] at H
   have c6b0 : decide (a0 < 1) = true := decide_eq_true c6
   clear c6
   (first | rw [c6b0] | (simp only [i64_w, i32_w]; rw [c6b0]) | skip)
   have H' := Aside0.mk H
   clear H
   go_wp2
   go_meet
   case rel => exact ⟨_, (true), (by first | rfl | (simp; done) | (simp [*]; done)), H', ⟨by first | omega | exact Nat.le_refl _⟩, ⟨by repeat (first | (with_reducible first | exact HB.out | apply below_alloc | apply pw_below_drewN | apply below_drew1) | exact HB.out)⟩⟩
  ·rw [if_neg c6] at H
   have c6b0 : decide (a0 < 1) = false := decide_eq_false c6
   clear c6
   (first | rw [c6b0] | (simp only [i64_w, i32_w]; rw [c6b0]) | skip)
   by_cases c7 : a0 > 20
   ·rw [if_pos c7] at H
    have c7b0 : decide (20 < a0) = true := decide_eq_true c7
    clear c7
    have H' := Aside0.mk H
    clear H
    go_wp2
    go_meet
    case rel => exact ⟨_, (true), (by first | rfl | (simp; done) | (simp [*]; done)), H', ⟨by first | omega | exact Nat.le_refl _⟩, ⟨by repeat (first | (with_reducible first | exact HB.out | apply below_alloc | apply pw_below_drewN | apply below_drew1) | exact HB.out)⟩⟩
   ·rw [if_neg c7] at H
    have c7b0 : decide (20 < a0) = false := decide_eq_false c7
    clear c7
    by_cases c8 : a1 < 1
    ·rw [if_pos c8] at H
     have c8b0 : decide (a1 < 1) = true := decide_eq_true c8
     clear c8
     have H' := Aside0.mk H
     clear H
     go_wp2
     go_meet
     case rel => exact ⟨_, (true), (by first | rfl | (simp; done) | (simp [*]; done)), H', ⟨by first | omega | exact Nat.le_refl _⟩, ⟨by repeat (first | (with_reducible first | exact HB.out | apply below_alloc | apply pw_below_drewN | apply below_drew1) | exact HB.out)⟩⟩
    ·rw [if_neg c8] at H
     have c8b0 : decide (a1 < 1) = false := decide_eq_false c8
     clear c8
     by_cases c9 : a1 > 30
     ·rw [if_pos c9] at H
      have c9b0 : decide (30 < a1) = true := decide_eq_true c9
      clear c9
      have H' := Aside0.mk H
      clear H
      go_wp2
      go_meet
      case rel => exact ⟨_, (true), (by first | rfl | (simp; done) | (simp [*]; done)), H', ⟨by first | omega | exact Nat.le_refl _⟩, ⟨by repeat (first | (with_reducible first | exact HB.out | apply below_alloc | apply pw_below_drewN | apply below_drew1) | exact HB.out)⟩⟩
     ·rw [if_neg c9] at H
      have c9b0 : decide (30 < a1) = false := decide_eq_false c9
      clear c9
      by_cases c10 : a2 < 0
      ·rw [if_pos c10] at H
       have c10b0 : decide (a2 < 0) = true := decide_eq_true c10
       clear c10
       have H' := Aside0.mk H
       clear H
       go_wp2
       go_meet
       case rel => exact ⟨_, (true), (by first | rfl | (simp; done) | (simp [*]; done)), H', ⟨by first | omega | exact Nat.le_refl _⟩, ⟨by repeat (first | (with_reducible first | exact HB.out | apply below_alloc | apply pw_below_drewN | apply below_drew1) | exact HB.out)⟩⟩
      ·rw [if_neg c10] at H
       have c10b0 : decide (a2 < 0) = false := decide_eq_false c10
       clear c10
       by_cases c11 : a3 < a2
       ·rw [if_pos c11] at H
        have c11b0 : decide (a3 < a2) = true := decide_eq_true c11
        clear c11
        have H' := Aside0.mk H
        clear H
        go_wp2
        go_meet
        case rel => exact ⟨_, (true), (by first | rfl | (simp; done) | (simp [*]; done)), H', ⟨by first | omega | exact Nat.le_refl _⟩, ⟨by repeat (first | (with_reducible first | exact HB.out | apply below_alloc | apply pw_below_drewN | apply below_drew1) | exact HB.out)⟩⟩
       ·rw [if_neg c11] at H
        have c11b0 : decide (a3 < a2) = false := decide_eq_false c11
        clear c11
        have H' := Aside0.mk H
        clear H
        go_wp2
        go_meet
        case rel => exact ⟨_, (decide (a3 > a1)), (by first | rfl | (simp; done) | (simp [*]; done)), H', ⟨by first | omega | exact Nat.le_refl _⟩, ⟨by repeat (first | (with_reducible first | exact HB.out | apply below_alloc | apply pw_below_drewN | apply below_drew1) | exact HB.out)⟩⟩
 case rest =>
  clear HC5
  try clear c1
  try clear p2
  try clear c5
  try clear c6
  try clear c6b0
  try clear c7
  try clear c7b0
  try clear c8
  try clear c8b0
  try clear c9
  try clear c9b0
  try clear c10
  try clear c10b0
  try clear c11
  try clear c11b0
  obtain ⟨kq, x41_4, rfl, HA, HJ4, HB⟩ := hcut
  cases kq with
  | zero => exact absurd HA.out (by simp [laws_FnRolesLevels.j0])
  | succ kj4 =>
   have H := HA.out
   clear HA
   simp only [laws_FnRolesLevels.j0] at H
   by_cases c12 : x41_4 = true
   ·subst c12
    have H1 : ((laws_awakeRoles.f kj4).bind fun t143 => (some t143)) = some r := by rw [if_pos rfl] at H; exact H
    clear H
    have H := H1
    clear H1
    replace H := Option.bind_eq_some_iff.mp H
    obtain ⟨t143, A130, H⟩ := H
    replace H : (some t143) = some r := H
    have A13 := Aside0.mk A130
    clear A130
    obtain rfl := Option.some.inj H
    go_wp2_with (first | ((with_reducible refine gate_callee (f := 12) rfl ?_); refine goesL_ (some 42) rfl rfl Tryz.func12 (by kernel_rfl) rfl #[] rfl (by (try simp only [List.map_toArray, List.map_cons, List.map_nil]); first | done | rfl | (simp only [List.length_drop, List.length_take]; rfl)) ?_; (with_reducible refine (laws_awakeRoles.calls kj4  t143 _ A13.out).mono ?_); rintro e w14 ⟨rfl, hb⟩; refine ⟨_, rfl, ?_⟩; have n0_ := Aside0.mk (below_step (by repeat (first | (with_reducible first | exact HB.out | apply below_alloc | apply pw_below_drewN | apply below_drew1) | exact HB.out)) hb); clear HB; have HB := n0_; clear n0_; (try clear hb); (try clear hb2); (try clear hk); (try clear hi)))
    go_ret
    exact ⟨by first | rfl | (simp [errW_none, errW_some] <;> rfl) | (simp [*, errW_none, errW_some] <;> rfl), by repeat (first | (with_reducible first | exact HB.out | apply below_alloc | apply pw_below_drewN | apply below_drew1) | exact HB.out)⟩
   ·replace c12 := Bool.eq_false_iff.mpr c12
    subst c12
    have H1 : (laws_FnRolesLevels.l0 kj4 a0 a1 a2 a3 ([] : List (S28)) 0) = some r := by rw [if_neg (show ¬ (false = true) by decide)] at H; exact H
    clear H
    have H := H1
    clear H1
    have H' := Aside0.mk H
    clear H
    go_wp2
    go_loopg [10, 11] kj4 (fun kq v10 v11 w' => ∃ (x10_2 : List (S28)) (x11_2 : Int), v11 = .int .i64 x11_2 ∧ Aside0 (laws_FnRolesLevels.l0 kq a0 a1 a2 a3 x10_2 x11_2 = some r) ∧ Aside0 (kq ≤ kj4) ∧ Aside0 (Kd.R k28 28 w' w.heap.size (fun _ => True) v10 x10_2) ∧ Aside0 (Below w.heap.size w w'))
    case atStart => exact ⟨(([] : List (S28))), (0), (by first | rfl | (simp; done) | (simp [*]; done)), H', ⟨Nat.le_refl _⟩, ⟨by first | exact Kd.R_nil _ _ _ _ _ | exact Kd.N_nil _ _ _ _ _ | exact Kd.V_nil _ _ _ _ _ | exact Kd.Q_nil _ _ _ _ _ | exact Kd.S_nil _ _ _ _ _⟩, ⟨by repeat (first | (with_reducible first | exact HB.out | apply below_alloc | apply pw_below_drewN | apply below_drew1) | exact HB.out)⟩⟩
    case round =>
     clear H'
     try clear c1
     try clear p2
     try clear c5
     try clear c6
     try clear c6b0
     try clear c7
     try clear c7b0
     try clear c8
     try clear c8b0
     try clear c9
     try clear c9b0
     try clear c10
     try clear c10b0
     try clear c11
     try clear c11b0
     try clear c12
     try clear p2
     obtain ⟨x10_2, x11_2, rfl, HA, HK2, HO_10, HB⟩ := hrel
     cases gk with
     | zero => exact absurd HA.out (by simp [laws_FnRolesLevels.l0])
     | succ k2 =>
      have H := HA.out
      clear HA
      simp only [laws_FnRolesLevels.l0] at H
      by_cases c15 : x11_2 < a1
      ·rw [if_pos c15] at H
       have c15b0 : decide (x11_2 < a1) = true := decide_eq_true c15
       clear c15
       replace H := Option.bind_eq_some_iff.mp H
       obtain ⟨t144, A160, H⟩ := H
       replace H : ((laws_FnRolesLevels_1.f k2 (wrap64 (x11_2 + 1))).bind fun t145 => (if x10_2.length < 2932031007402 then (laws_FnRolesLevels.l0 k2 a0 a1 a2 a3 (x10_2 ++ [(⟨t144, t145, (⟨#[]⟩ : ByteArray)⟩ : S28)]) (wrap64 (x11_2 + 1))) else (none))) = some r := H
       have A16 := Aside0.mk A160
       clear A160
       replace H := Option.bind_eq_some_iff.mp H
       obtain ⟨t145, A170, H⟩ := H
       replace H : (if x10_2.length < 2932031007402 then (laws_FnRolesLevels.l0 k2 a0 a1 a2 a3 (x10_2 ++ [(⟨t144, t145, (⟨#[]⟩ : ByteArray)⟩ : S28)]) (wrap64 (x11_2 + 1))) else (none)) = some r := H
       have A17 := Aside0.mk A170
       clear A170
       by_cases c18 : x10_2.length < 2932031007402
       ·rw [if_pos c18] at H
        have LMc18 := Aside0.mk c18
        clear c18
        obtain ⟨y146, hy146⟩ : ∃ y_ : List (S28), y_ = (x10_2 ++ [(⟨t144, t145, (⟨#[]⟩ : ByteArray)⟩ : S28)]) := ⟨_, rfl⟩
        replace H : (laws_FnRolesLevels.l0 k2 a0 a1 a2 a3 y146 (wrap64 (x11_2 + 1))) = some r := by first | (rw [hy146]; with_reducible exact H) | (have H2_ := (Option.bind_some _ _).symm.trans H; rw [hy146]; with_reducible exact H2_) | (have H2_ := (Option.bind_some _ _).symm.trans H; with_reducible exact H2_) | with_reducible exact H | (rw [hy146]; exact H) | exact H
        have Ny146 := Aside0.mk hy146
        clear hy146
        have H' := Aside0.mk H
        clear H
        go_wp2_with (first | ((with_reducible refine (laws_FnRolesLevels_1.calls k2 x11_2 t144 _ A16.out).mono ?_); rintro e w19 ⟨rfl, hb⟩; have n0_ := Aside0.mk (Kd.R_below (by (with_reducible repeat (first | apply Kd.R_alloc | apply Kd.R_drewN | apply Kd.R_drew)); exact HO_10.out) hb); have n1_ := Aside0.mk (below_step (by repeat (first | (with_reducible first | exact HB.out | apply below_alloc | apply pw_below_drewN | apply below_drew1) | exact HB.out)) hb); clear HO_10; clear HB; have HO_10 := n0_; have HB := n1_; clear n0_ n1_; (try clear hb); (try clear hb2); (try clear hk); (try clear hi)) | ((with_reducible refine (laws_FnRolesLevels_1.calls k2 (wrap64 (x11_2 + 1)) t145 _ A17.out).mono ?_); rintro e w20 ⟨rfl, hb⟩; have n0_ := Aside0.mk (Kd.R_below (by (with_reducible repeat (first | apply Kd.R_alloc | apply Kd.R_drewN | apply Kd.R_drew)); exact HO_10.out) hb); have n1_ := Aside0.mk (below_step (by repeat (first | (with_reducible first | exact HB.out | apply below_alloc | apply pw_below_drewN | apply below_drew1) | exact HB.out)) hb); clear HO_10; clear HB; have HO_10 := n0_; have HB := n1_; clear n0_ n1_; (try clear hb); (try clear hb2); (try clear hk); (try clear hi)) | ((with_reducible refine gate_builtin (b := .append) (xs := #[.tmp 48, .tmp 57]) rfl ?_); at_builtin; refine Kd.R_append k28 (w0 := w) w.heap.size rfl (.tmp 48) (.tmp 57) 22 28 (.agg #[(.string ⟨#[]⟩), (.string ⟨#[]⟩), (.string ⟨#[]⟩)]) 48 rfl Tryz.underlying22 info28 rfl (by decide) (by omega) u10 x10_2 (⟨t144, t145, (⟨#[]⟩ : ByteArray)⟩ : S28) [.string t144, .string t145, .string (⟨#[]⟩ : ByteArray)] (fun _ => True) (fun _ => False) rfl rfl ?aP (fun _ hk => hk.elim) ?aF ?aO ?aB ?aS ?aL ?_; (case aP => exact k28_mkM _ _ _ (⟨t144, t145, (⟨#[]⟩ : ByteArray)⟩ : S28)); (case aB => exact (by repeat (first | (with_reducible first | exact HB.out | apply below_alloc | apply pw_below_drewN | apply below_drew1) | exact HB.out))); (case aF => exact (fun _ _ => trivial)); (case aO => exact (by (with_reducible repeat (first | apply Kd.R_alloc | apply Kd.R_drewN | apply Kd.R_drew)); exact HO_10.out)); (case aS => exact (below_size (by repeat (first | (with_reducible first | exact HB.out | apply below_alloc | apply pw_below_drewN | apply below_drew1) | exact HB.out)))); (case aL => have := LMc18.out; omega); intro v147 w21 ho hb hg hat; rw [← Ny146.out] at ho; have n0_ := Aside0.mk (hb); have n1_ := Aside0.mk (ho); clear HB; clear HO_10; have HB := n0_; have HO148 := n1_; clear n0_ n1_; clear ho hb hg hat))
        go_roundg k2
        case measure => have := HJ4.out; have := HK2.out; omega
        case rel => exact ⟨(y146), (wrap64 (x11_2 + 1)), (by first | rfl | (simp; done) | (simp [*]; done)), H', ⟨by have := HJ4.out; have := HK2.out; omega⟩, ⟨by (with_reducible repeat (first | apply Kd.R_alloc | apply Kd.R_drewN | apply Kd.R_drew)); exact HO148.out⟩, ⟨by repeat (first | (with_reducible first | exact HB.out | apply below_alloc | apply pw_below_drewN | apply below_drew1) | exact HB.out)⟩⟩
       ·rw [if_neg c18] at H
        exact absurd H (by simp)
      ·rw [if_neg c15] at H
       have c15b0 : decide (x11_2 < a1) = false := decide_eq_false c15
       clear c15
       replace H := Option.bind_eq_some_iff.mp H
       obtain ⟨t149, A220, H⟩ := H
       replace H : ((laws_FnRolesLevels_1.f k2 a2).bind fun t152 => ((laws_FnRolesLevels_1.f k2 a3).bind fun t153 => ((laws_question.f k2 a0 false t149 0 t152 t153 (⟨#[]⟩ : ByteArray)).bind fun bt154 => (if bt154.2.2.2 = true then (if bt154.1 = 0 then (if (bt154.2.1 == (decide ((wrap64 (a3 - a2)) ≤ a0))) = true then ((laws_awakeRoles.f k2).bind fun t161 => (some t161)) else (some false)) else (some false)) else (some false))))) = some r := H
       have A22 := Aside0.mk A220
       clear A220
       replace H := Option.bind_eq_some_iff.mp H
       obtain ⟨t152, A230, H⟩ := H
       replace H : ((laws_FnRolesLevels_1.f k2 a3).bind fun t153 => ((laws_question.f k2 a0 false t149 0 t152 t153 (⟨#[]⟩ : ByteArray)).bind fun bt154 => (if bt154.2.2.2 = true then (if bt154.1 = 0 then (if (bt154.2.1 == (decide ((wrap64 (a3 - a2)) ≤ a0))) = true then ((laws_awakeRoles.f k2).bind fun t161 => (some t161)) else (some false)) else (some false)) else (some false)))) = some r := H
       have A23 := Aside0.mk A230
       clear A230
       replace H := Option.bind_eq_some_iff.mp H
       obtain ⟨t153, A240, H⟩ := H
       replace H : ((laws_question.f k2 a0 false t149 0 t152 t153 (⟨#[]⟩ : ByteArray)).bind fun bt154 => (if bt154.2.2.2 = true then (if bt154.1 = 0 then (if (bt154.2.1 == (decide ((wrap64 (a3 - a2)) ≤ a0))) = true then ((laws_awakeRoles.f k2).bind fun t161 => (some t161)) else (some false)) else (some false)) else (some false))) = some r := H
       have A24 := Aside0.mk A240
       clear A240
       replace H := Option.bind_eq_some_iff.mp H
       obtain ⟨⟨t154, t155, t156, t159⟩, A250, H⟩ := H
       replace H : (if t159 = true then (if t154 = 0 then (if (t155 == (decide ((wrap64 (a3 - a2)) ≤ a0))) = true then ((laws_awakeRoles.f k2).bind fun t161 => (some t161)) else (some false)) else (some false)) else (some false)) = some r := H
       have A25 := Aside0.mk A250
       clear A250
       by_cases c26 : t159 = true
       ·subst c26
        have H1 : (if t154 = 0 then (if (t155 == (decide ((wrap64 (a3 - a2)) ≤ a0))) = true then ((laws_awakeRoles.f k2).bind fun t161 => (some t161)) else (some false)) else (some false)) = some r := by rw [if_pos rfl] at H; exact H
        clear H
        have H := H1
        clear H1
        by_cases c27 : t154 = 0
        ·rw [if_pos c27] at H
         have c27b0 : (t154 == 0) = true := beq_iff_eq.mpr c27
         have c27b1 : (t154 != 0) = false := bne_eq_false_iff_eq.mpr c27
         clear c27
         by_cases c28 : (t155 == (decide ((wrap64 (a3 - a2)) ≤ a0))) = true
         ·rw [if_pos c28] at H
          have c28b0 : (t155 == (decide ((wrap64 (a3 - a2)) ≤ a0))) = true := c28
          (try (have c28b1 : decide (t155 = (decide ((wrap64 (a3 - a2)) ≤ a0))) = true := by simpa using c28))
          (try (have c28b2 : (t155 == (decide ((wrap64 (a3 - a2)) ≤ a0))) = true := by simpa using c28))
          clear c28
          replace H := Option.bind_eq_some_iff.mp H
          obtain ⟨t161, A290, H⟩ := H
          replace H : (some t161) = some r := H
          have A29 := Aside0.mk A290
          clear A290
          obtain rfl := Option.some.inj H
          obtain ⟨Ao30, co30, eo30⟩ := Kd.R_slice HO_10.out
          subst eo30
          go_wp2_with (first | ((with_reducible refine gate_callee (f := 14) rfl ?_); refine goesL_ (some 62) rfl rfl Tryz.func14 (by kernel_rfl) rfl #[.slice Ao30 x10_2.length co30] rfl (by (try simp only [List.map_toArray, List.map_cons, List.map_nil]); first | done | rfl | (simp only [List.length_drop, List.length_take]; rfl)) ?_; (with_reducible refine (laws_added.calls k2 _ _ x10_2 t149 _ ?side1 ?side2 A22.out).mono ?_); (case side1 => repeat (first | exact (Kd.R_reads' HO_10.out).2.2 | (with_reducible refine Kd.C_alloc ?_ _) | (with_reducible refine Kd.C_drewN ?_ _) | (with_reducible refine Kd.C_drew ?_))); (case side2 => exact (Kd.R_reads' HO_10.out).2.1); rintro e w31 ⟨v150, rfl, ho0, hb⟩; refine ⟨_, rfl, ?_⟩; have n0_ := Aside0.mk (Kd.R_below (by (with_reducible repeat (first | apply Kd.R_alloc | apply Kd.R_drewN | apply Kd.R_drew)); exact HO_10.out) hb); have n1_ := Aside0.mk (Kd.R_lower ho0 (below_size (by repeat (first | (with_reducible first | exact HB.out | apply below_alloc | apply pw_below_drewN | apply below_drew1) | exact HB.out)))); have n2_ := Aside0.mk (below_step (by repeat (first | (with_reducible first | exact HB.out | apply below_alloc | apply pw_below_drewN | apply below_drew1) | exact HB.out)) hb); clear HO_10; clear HB; have HO_10 := n0_; have HO151 := n1_; have HB := n2_; clear n0_ n1_ n2_; (try clear hb); (try clear hb2); (try clear hk); (try clear hi); (try clear ho0)) | ((with_reducible refine (laws_FnRolesLevels_1.calls k2 a2 t152 _ A23.out).mono ?_); rintro e w32 ⟨rfl, hb⟩; have n0_ := Aside0.mk (Kd.R_below (by (with_reducible repeat (first | apply Kd.R_alloc | apply Kd.R_drewN | apply Kd.R_drew)); exact HO_10.out) hb); have n1_ := Aside0.mk (Kd.R_below (by (with_reducible repeat (first | apply Kd.R_alloc | apply Kd.R_drewN | apply Kd.R_drew)); exact HO151.out) hb); have n2_ := Aside0.mk (below_step (by repeat (first | (with_reducible first | exact HB.out | apply below_alloc | apply pw_below_drewN | apply below_drew1) | exact HB.out)) hb); clear HO_10; clear HO151; clear HB; have HO_10 := n0_; have HO151 := n1_; have HB := n2_; clear n0_ n1_ n2_; (try clear hb); (try clear hb2); (try clear hk); (try clear hi)) | ((with_reducible refine (laws_FnRolesLevels_1.calls k2 a3 t153 _ A24.out).mono ?_); rintro e w33 ⟨rfl, hb⟩; have n0_ := Aside0.mk (Kd.R_below (by (with_reducible repeat (first | apply Kd.R_alloc | apply Kd.R_drewN | apply Kd.R_drew)); exact HO_10.out) hb); have n1_ := Aside0.mk (Kd.R_below (by (with_reducible repeat (first | apply Kd.R_alloc | apply Kd.R_drewN | apply Kd.R_drew)); exact HO151.out) hb); have n2_ := Aside0.mk (below_step (by repeat (first | (with_reducible first | exact HB.out | apply below_alloc | apply pw_below_drewN | apply below_drew1) | exact HB.out)) hb); clear HO_10; clear HO151; clear HB; have HO_10 := n0_; have HO151 := n1_; have HB := n2_; clear n0_ n1_ n2_; (try clear hb); (try clear hb2); (try clear hk); (try clear hi); obtain ⟨Ao34, co34, eo34⟩ := Kd.R_slice HO151.out; subst eo34) | ((with_reducible refine gate_callee (f := 17) rfl ?_); refine goesL_ (some 70) rfl rfl Tryz.func17 (by kernel_rfl) rfl #[.int .i64 a0, .bool false, .slice Ao34 t149.length co34, .agg #[.int .i64 0, .string t152, .string t153, .string (⟨#[]⟩ : ByteArray)]] rfl (by (try simp only [List.map_toArray, List.map_cons, List.map_nil]); first | done | rfl | (simp only [List.length_drop, List.length_take]; rfl)) ?_; (with_reducible refine (laws_question.calls k2 a0 false _ _ t149 0 t152 t153 (⟨#[]⟩ : ByteArray) t154 t155 t156 true _ ?side1 ?side2 A25.out).mono ?_); (case side1 => repeat (first | exact (Kd.R_reads' HO151.out).2.2 | (with_reducible refine Kd.C_alloc ?_ _) | (with_reducible refine Kd.C_drewN ?_ _) | (with_reducible refine Kd.C_drew ?_))); (case side2 => exact (Kd.R_reads' HO151.out).2.1); rintro e w35 ⟨v157, rfl, ⟨lq_t156, hq_, ho0⟩, hb⟩; have HQt156 := Aside0.mk hq_; clear hq_; refine ⟨_, rfl, ?_⟩; have n0_ := Aside0.mk (Kd.R_below (by (with_reducible repeat (first | apply Kd.R_alloc | apply Kd.R_drewN | apply Kd.R_drew)); exact HO_10.out) hb); have n1_ := Aside0.mk (Kd.R_below (by (with_reducible repeat (first | apply Kd.R_alloc | apply Kd.R_drewN | apply Kd.R_drew)); exact HO151.out) hb); have n2_ := Aside0.mk (Kd.V_lower (Kd.V_mono (ok' := fun k_ => some k_ ≠ (.slice Ao30 x10_2.length co30 : Value).ownBlock ∧ some k_ ≠ (.slice Ao34 t149.length co34 : Value).ownBlock) ho0 (fun k_ hk_ => ⟨(Kd.fresh' (Kd.R_lt (by (with_reducible repeat (first | apply Kd.R_alloc | apply Kd.R_drewN | apply Kd.R_drew)); exact HO_10.out)) k_ hk_), (Kd.fresh' (Kd.R_lt (by (with_reducible repeat (first | apply Kd.R_alloc | apply Kd.R_drewN | apply Kd.R_drew)); exact HO151.out)) k_ hk_)⟩)) (below_size (by repeat (first | (with_reducible first | exact HB.out | apply below_alloc | apply pw_below_drewN | apply below_drew1) | exact HB.out)))); have n3_ := Aside0.mk (below_step (by repeat (first | (with_reducible first | exact HB.out | apply below_alloc | apply pw_below_drewN | apply below_drew1) | exact HB.out)) hb); clear HO_10; clear HO151; clear HB; have HO_10 := n0_; have HO151 := n1_; have HO158 := n2_; have HB := n3_; clear n0_ n1_ n2_ n3_; (try clear hb); (try clear hb2); (try clear hk); (try clear hi); (try clear ho0)) | ((with_reducible refine gate_dst (N := 12) rfl ?_); refine box_event ?hg (N := 12) ?hd (cs := #[.int .i64 0, .bool false, .slice none 0 0]) (t := 40) ?hr ?_; (case hd => rfl); (case hg => rfl); (case hr => first | (go_simp; done) | (go_simp; rfl)); intro gb160 hg w36 hbox hb; have n0_ := Aside0.mk (Kd.R_below (by (with_reducible repeat (first | apply Kd.R_alloc | apply Kd.R_drewN | apply Kd.R_drew)); exact HO_10.out) hb); have n1_ := Aside0.mk (Kd.R_below (by (with_reducible repeat (first | apply Kd.R_alloc | apply Kd.R_drewN | apply Kd.R_drew)); exact HO151.out) hb); have n2_ := Aside0.mk (Kd.V_below (Kd.V_elderB (by (with_reducible repeat (first | apply Kd.V_alloc | apply Kd.V_drewN | apply Kd.V_drew)); exact HO158.out) gb160 (Nat.le_of_eq hg.symm)) hb); have n3_ := Aside0.mk (below_step (by repeat (first | (with_reducible first | exact HB.out | apply below_alloc | apply pw_below_drewN | apply below_drew1) | exact HB.out)) hb); have n4_ := Aside0.mk (hbox); have n5_ := Aside0.mk ((by rw [hg]; exact (below_size (by repeat (first | (with_reducible first | exact HB.out | apply below_alloc | apply pw_below_drewN | apply below_drew1) | exact HB.out))) : w.heap.size ≤ gb160)); have n6_ := Aside0.mk ((by rw [hg]; exact (below_size (by repeat (first | (with_reducible first | exact HB.out | apply below_alloc | apply pw_below_drewN | apply below_drew1) | exact HB.out))) : w.heap.size ≤ gb160)); clear HO_10; clear HO151; clear HO158; clear HB; have HO_10 := n0_; have HO151 := n1_; have HO158 := n2_; have HB := n3_; have BK160 := n4_; have GW160 := n5_; have GE160 := n6_; clear n0_ n1_ n2_ n3_ n4_ n5_ n6_; clear hb hbox hg; have hcz37_0 : w36.cell? ⟨gb160, 0, none⟩ = some (.int .i64 0) := (blk_cell BK160.out 0).trans rfl; have hcz37_1 : w36.cell? ⟨gb160, 1, none⟩ = some (.bool false) := (blk_cell BK160.out 1).trans rfl; have hcz37_2 : w36.cell? ⟨gb160, 2, none⟩ = some (.slice none 0 0) := (blk_cell BK160.out 2).trans rfl; have hfz37_0 := blk_frozen BK160.out 0; have hfz37_1 := blk_frozen BK160.out 1; have hfz37_2 := blk_frozen BK160.out 2; obtain ⟨Ao38, co38, eo38⟩ := Kd.V_slice HO158.out; subst eo38) | (go_at_call 12; (with_reducible refine (laws_awakeRoles.calls k2  t161 _ A29.out).mono ?_); rintro e w39 ⟨rfl, hb⟩; have n0_ := Aside0.mk (Kd.R_below (by (with_reducible repeat (first | apply Kd.R_alloc | apply Kd.R_drewN | apply Kd.R_drew)); exact (Kd.R_mono (Kd.R_far (p := ⟨gb160, 2, none⟩) (Kd.R_far (p := ⟨gb160, 1, none⟩) (Kd.R_far (p := ⟨gb160, 0, none⟩) (Kd.R_types HO_10.out BK160.out (by decide)) (fun _ hk => hk.2) (.int .i64 t154)) (fun _ hk => hk.2) (.bool t155)) (fun _ hk => hk.2) (.slice Ao38 lq_t156.length co38)) (fun _ h_ => h_.1))) hb); have n1_ := Aside0.mk (Kd.R_below (by (with_reducible repeat (first | apply Kd.R_alloc | apply Kd.R_drewN | apply Kd.R_drew)); exact (Kd.R_mono (Kd.R_far (p := ⟨gb160, 2, none⟩) (Kd.R_far (p := ⟨gb160, 1, none⟩) (Kd.R_far (p := ⟨gb160, 0, none⟩) (Kd.R_types HO151.out BK160.out (by decide)) (fun _ hk => hk.2) (.int .i64 t154)) (fun _ hk => hk.2) (.bool t155)) (fun _ hk => hk.2) (.slice Ao38 lq_t156.length co38)) (fun _ h_ => h_.1))) hb); have n2_ := Aside0.mk (Kd.V_below (by (with_reducible repeat (first | apply Kd.V_alloc | apply Kd.V_drewN | apply Kd.V_drew)); exact (Kd.V_mono (Kd.V_far (p := ⟨gb160, 2, none⟩) (Kd.V_far (p := ⟨gb160, 1, none⟩) (Kd.V_far (p := ⟨gb160, 0, none⟩) (Kd.V_mono HO158.out (fun k_ hk => (⟨hk, hk.2⟩ : _ ∧ k_ ≠ gb160))) (fun _ hk => hk.2) (.int .i64 t154)) (fun _ hk => hk.2) (.bool t155)) (fun _ hk => hk.2) (.slice Ao38 lq_t156.length co38)) (fun _ h_ => h_.1))) hb); have n3_ := Aside0.mk (blk_below (g := gb160) (o := .cells #[.int .i64 t154, .bool t155, .slice Ao38 lq_t156.length co38] 40 (0, 0)) (by (with_reducible repeat (first | refine blk_drewN ?_ _ | refine blk_drew ?_ | refine blk_alloc ?_ _)); refine blk_put (cs := #[.int .i64 t154, .bool t155, .slice none 0 0]) ?_ 2 _ rfl; (with_reducible repeat (first | refine blk_drewN ?_ _ | refine blk_drew ?_ | refine blk_alloc ?_ _)); refine blk_put (cs := #[.int .i64 t154, .bool false, .slice none 0 0]) ?_ 1 _ rfl; (with_reducible repeat (first | refine blk_drewN ?_ _ | refine blk_drew ?_ | refine blk_alloc ?_ _)); refine blk_put (cs := #[.int .i64 0, .bool false, .slice none 0 0]) ?_ 0 _ rfl; (with_reducible repeat (first | refine blk_drewN ?_ _ | refine blk_drew ?_ | refine blk_alloc ?_ _)); exact BK160.out) hb); have n4_ := Aside0.mk (below_step (by repeat (first | (with_reducible first | exact HB.out | apply below_alloc | apply pw_below_drewN | apply below_drew1 | refine below_set ?_ GE160.out) | exact HB.out)) hb); clear HO_10; clear HO151; clear HO158; clear BK160; clear HB; have HO_10 := n0_; have HO151 := n1_; have HO158 := n2_; have BK160 := n3_; have HB := n4_; clear n0_ n1_ n2_ n3_ n4_; (try clear hb); (try clear hb2); (try clear hk); (try clear hi)))
          go_ret
          exact ⟨by first | rfl | (simp [errW_none, errW_some] <;> rfl) | (simp [*, errW_none, errW_some] <;> rfl), by repeat (first | (with_reducible first | exact HB.out | apply below_alloc | apply pw_below_drewN | apply below_drew1 | refine below_set ?_ GE160.out) | exact HB.out)⟩
         ·rw [if_neg c28] at H
          have c28b0 : (t155 == (decide ((wrap64 (a3 - a2)) ≤ a0))) = false := by simpa using c28
          (try (have c28b1 : decide (t155 = (decide ((wrap64 (a3 - a2)) ≤ a0))) = false := by simpa using c28))
          (try (have c28b2 : (t155 == (decide ((wrap64 (a3 - a2)) ≤ a0))) = false := by simpa using c28))
          (try (have c28b3 : ¬ (t155 = (decide ((wrap64 (a3 - a2)) ≤ a0))) := by simpa using c28))
          clear c28
          obtain rfl := Option.some.inj H
          obtain ⟨Ao40, co40, eo40⟩ := Kd.R_slice HO_10.out
          subst eo40
          go_wp2_with (first | ((with_reducible refine gate_callee (f := 14) rfl ?_); refine goesL_ (some 62) rfl rfl Tryz.func14 (by kernel_rfl) rfl #[.slice Ao40 x10_2.length co40] rfl (by (try simp only [List.map_toArray, List.map_cons, List.map_nil]); first | done | rfl | (simp only [List.length_drop, List.length_take]; rfl)) ?_; (with_reducible refine (laws_added.calls k2 _ _ x10_2 t149 _ ?side1 ?side2 A22.out).mono ?_); (case side1 => repeat (first | exact (Kd.R_reads' HO_10.out).2.2 | (with_reducible refine Kd.C_alloc ?_ _) | (with_reducible refine Kd.C_drewN ?_ _) | (with_reducible refine Kd.C_drew ?_))); (case side2 => exact (Kd.R_reads' HO_10.out).2.1); rintro e w41 ⟨v150, rfl, ho0, hb⟩; refine ⟨_, rfl, ?_⟩; have n0_ := Aside0.mk (Kd.R_below (by (with_reducible repeat (first | apply Kd.R_alloc | apply Kd.R_drewN | apply Kd.R_drew)); exact HO_10.out) hb); have n1_ := Aside0.mk (Kd.R_lower ho0 (below_size (by repeat (first | (with_reducible first | exact HB.out | apply below_alloc | apply pw_below_drewN | apply below_drew1) | exact HB.out)))); have n2_ := Aside0.mk (below_step (by repeat (first | (with_reducible first | exact HB.out | apply below_alloc | apply pw_below_drewN | apply below_drew1) | exact HB.out)) hb); clear HO_10; clear HB; have HO_10 := n0_; have HO151 := n1_; have HB := n2_; clear n0_ n1_ n2_; (try clear hb); (try clear hb2); (try clear hk); (try clear hi); (try clear ho0)) | ((with_reducible refine (laws_FnRolesLevels_1.calls k2 a2 t152 _ A23.out).mono ?_); rintro e w42 ⟨rfl, hb⟩; have n0_ := Aside0.mk (Kd.R_below (by (with_reducible repeat (first | apply Kd.R_alloc | apply Kd.R_drewN | apply Kd.R_drew)); exact HO_10.out) hb); have n1_ := Aside0.mk (Kd.R_below (by (with_reducible repeat (first | apply Kd.R_alloc | apply Kd.R_drewN | apply Kd.R_drew)); exact HO151.out) hb); have n2_ := Aside0.mk (below_step (by repeat (first | (with_reducible first | exact HB.out | apply below_alloc | apply pw_below_drewN | apply below_drew1) | exact HB.out)) hb); clear HO_10; clear HO151; clear HB; have HO_10 := n0_; have HO151 := n1_; have HB := n2_; clear n0_ n1_ n2_; (try clear hb); (try clear hb2); (try clear hk); (try clear hi)) | ((with_reducible refine (laws_FnRolesLevels_1.calls k2 a3 t153 _ A24.out).mono ?_); rintro e w43 ⟨rfl, hb⟩; have n0_ := Aside0.mk (Kd.R_below (by (with_reducible repeat (first | apply Kd.R_alloc | apply Kd.R_drewN | apply Kd.R_drew)); exact HO_10.out) hb); have n1_ := Aside0.mk (Kd.R_below (by (with_reducible repeat (first | apply Kd.R_alloc | apply Kd.R_drewN | apply Kd.R_drew)); exact HO151.out) hb); have n2_ := Aside0.mk (below_step (by repeat (first | (with_reducible first | exact HB.out | apply below_alloc | apply pw_below_drewN | apply below_drew1) | exact HB.out)) hb); clear HO_10; clear HO151; clear HB; have HO_10 := n0_; have HO151 := n1_; have HB := n2_; clear n0_ n1_ n2_; (try clear hb); (try clear hb2); (try clear hk); (try clear hi); obtain ⟨Ao44, co44, eo44⟩ := Kd.R_slice HO151.out; subst eo44) | ((with_reducible refine gate_callee (f := 17) rfl ?_); refine goesL_ (some 70) rfl rfl Tryz.func17 (by kernel_rfl) rfl #[.int .i64 a0, .bool false, .slice Ao44 t149.length co44, .agg #[.int .i64 0, .string t152, .string t153, .string (⟨#[]⟩ : ByteArray)]] rfl (by (try simp only [List.map_toArray, List.map_cons, List.map_nil]); first | done | rfl | (simp only [List.length_drop, List.length_take]; rfl)) ?_; (with_reducible refine (laws_question.calls k2 a0 false _ _ t149 0 t152 t153 (⟨#[]⟩ : ByteArray) t154 t155 t156 true _ ?side1 ?side2 A25.out).mono ?_); (case side1 => repeat (first | exact (Kd.R_reads' HO151.out).2.2 | (with_reducible refine Kd.C_alloc ?_ _) | (with_reducible refine Kd.C_drewN ?_ _) | (with_reducible refine Kd.C_drew ?_))); (case side2 => exact (Kd.R_reads' HO151.out).2.1); rintro e w45 ⟨v157, rfl, ⟨lq_t156, hq_, ho0⟩, hb⟩; have HQt156 := Aside0.mk hq_; clear hq_; refine ⟨_, rfl, ?_⟩; have n0_ := Aside0.mk (Kd.R_below (by (with_reducible repeat (first | apply Kd.R_alloc | apply Kd.R_drewN | apply Kd.R_drew)); exact HO_10.out) hb); have n1_ := Aside0.mk (Kd.R_below (by (with_reducible repeat (first | apply Kd.R_alloc | apply Kd.R_drewN | apply Kd.R_drew)); exact HO151.out) hb); have n2_ := Aside0.mk (Kd.V_lower (Kd.V_mono (ok' := fun k_ => some k_ ≠ (.slice Ao40 x10_2.length co40 : Value).ownBlock ∧ some k_ ≠ (.slice Ao44 t149.length co44 : Value).ownBlock) ho0 (fun k_ hk_ => ⟨(Kd.fresh' (Kd.R_lt (by (with_reducible repeat (first | apply Kd.R_alloc | apply Kd.R_drewN | apply Kd.R_drew)); exact HO_10.out)) k_ hk_), (Kd.fresh' (Kd.R_lt (by (with_reducible repeat (first | apply Kd.R_alloc | apply Kd.R_drewN | apply Kd.R_drew)); exact HO151.out)) k_ hk_)⟩)) (below_size (by repeat (first | (with_reducible first | exact HB.out | apply below_alloc | apply pw_below_drewN | apply below_drew1) | exact HB.out)))); have n3_ := Aside0.mk (below_step (by repeat (first | (with_reducible first | exact HB.out | apply below_alloc | apply pw_below_drewN | apply below_drew1) | exact HB.out)) hb); clear HO_10; clear HO151; clear HB; have HO_10 := n0_; have HO151 := n1_; have HO158 := n2_; have HB := n3_; clear n0_ n1_ n2_ n3_; (try clear hb); (try clear hb2); (try clear hk); (try clear hi); (try clear ho0)) | ((with_reducible refine gate_dst (N := 12) rfl ?_); refine box_event ?hg (N := 12) ?hd (cs := #[.int .i64 0, .bool false, .slice none 0 0]) (t := 40) ?hr ?_; (case hd => rfl); (case hg => rfl); (case hr => first | (go_simp; done) | (go_simp; rfl)); intro gb160 hg w46 hbox hb; have n0_ := Aside0.mk (Kd.R_below (by (with_reducible repeat (first | apply Kd.R_alloc | apply Kd.R_drewN | apply Kd.R_drew)); exact HO_10.out) hb); have n1_ := Aside0.mk (Kd.R_below (by (with_reducible repeat (first | apply Kd.R_alloc | apply Kd.R_drewN | apply Kd.R_drew)); exact HO151.out) hb); have n2_ := Aside0.mk (Kd.V_below (Kd.V_elderB (by (with_reducible repeat (first | apply Kd.V_alloc | apply Kd.V_drewN | apply Kd.V_drew)); exact HO158.out) gb160 (Nat.le_of_eq hg.symm)) hb); have n3_ := Aside0.mk (below_step (by repeat (first | (with_reducible first | exact HB.out | apply below_alloc | apply pw_below_drewN | apply below_drew1) | exact HB.out)) hb); have n4_ := Aside0.mk (hbox); have n5_ := Aside0.mk ((by rw [hg]; exact (below_size (by repeat (first | (with_reducible first | exact HB.out | apply below_alloc | apply pw_below_drewN | apply below_drew1) | exact HB.out))) : w.heap.size ≤ gb160)); have n6_ := Aside0.mk ((by rw [hg]; exact (below_size (by repeat (first | (with_reducible first | exact HB.out | apply below_alloc | apply pw_below_drewN | apply below_drew1) | exact HB.out))) : w.heap.size ≤ gb160)); clear HO_10; clear HO151; clear HO158; clear HB; have HO_10 := n0_; have HO151 := n1_; have HO158 := n2_; have HB := n3_; have BK160 := n4_; have GW160 := n5_; have GE160 := n6_; clear n0_ n1_ n2_ n3_ n4_ n5_ n6_; clear hb hbox hg; have hcz47_0 : w46.cell? ⟨gb160, 0, none⟩ = some (.int .i64 0) := (blk_cell BK160.out 0).trans rfl; have hcz47_1 : w46.cell? ⟨gb160, 1, none⟩ = some (.bool false) := (blk_cell BK160.out 1).trans rfl; have hcz47_2 : w46.cell? ⟨gb160, 2, none⟩ = some (.slice none 0 0) := (blk_cell BK160.out 2).trans rfl; have hfz47_0 := blk_frozen BK160.out 0; have hfz47_1 := blk_frozen BK160.out 1; have hfz47_2 := blk_frozen BK160.out 2; obtain ⟨Ao48, co48, eo48⟩ := Kd.V_slice HO158.out; subst eo48))
          go_ret
          exact ⟨by first | rfl | (simp [errW_none, errW_some] <;> rfl) | (simp [*, errW_none, errW_some] <;> rfl), by repeat (first | (with_reducible first | exact HB.out | apply below_alloc | apply pw_below_drewN | apply below_drew1 | refine below_set ?_ GE160.out) | exact HB.out)⟩
        ·rw [if_neg c27] at H
         have c27b0 : (t154 == 0) = false := beq_eq_false_iff_ne.mpr c27
         have c27b1 : (t154 != 0) = true := bne_iff_ne.mpr c27
         obtain rfl := Option.some.inj H
         obtain ⟨Ao49, co49, eo49⟩ := Kd.R_slice HO_10.out
         subst eo49
         go_wp2_with (first | ((with_reducible refine gate_callee (f := 14) rfl ?_); refine goesL_ (some 62) rfl rfl Tryz.func14 (by kernel_rfl) rfl #[.slice Ao49 x10_2.length co49] rfl (by (try simp only [List.map_toArray, List.map_cons, List.map_nil]); first | done | rfl | (simp only [List.length_drop, List.length_take]; rfl)) ?_; (with_reducible refine (laws_added.calls k2 _ _ x10_2 t149 _ ?side1 ?side2 A22.out).mono ?_); (case side1 => repeat (first | exact (Kd.R_reads' HO_10.out).2.2 | (with_reducible refine Kd.C_alloc ?_ _) | (with_reducible refine Kd.C_drewN ?_ _) | (with_reducible refine Kd.C_drew ?_))); (case side2 => exact (Kd.R_reads' HO_10.out).2.1); rintro e w50 ⟨v150, rfl, ho0, hb⟩; refine ⟨_, rfl, ?_⟩; have n0_ := Aside0.mk (Kd.R_below (by (with_reducible repeat (first | apply Kd.R_alloc | apply Kd.R_drewN | apply Kd.R_drew)); exact HO_10.out) hb); have n1_ := Aside0.mk (Kd.R_lower ho0 (below_size (by repeat (first | (with_reducible first | exact HB.out | apply below_alloc | apply pw_below_drewN | apply below_drew1) | exact HB.out)))); have n2_ := Aside0.mk (below_step (by repeat (first | (with_reducible first | exact HB.out | apply below_alloc | apply pw_below_drewN | apply below_drew1) | exact HB.out)) hb); clear HO_10; clear HB; have HO_10 := n0_; have HO151 := n1_; have HB := n2_; clear n0_ n1_ n2_; (try clear hb); (try clear hb2); (try clear hk); (try clear hi); (try clear ho0)) | ((with_reducible refine (laws_FnRolesLevels_1.calls k2 a2 t152 _ A23.out).mono ?_); rintro e w51 ⟨rfl, hb⟩; have n0_ := Aside0.mk (Kd.R_below (by (with_reducible repeat (first | apply Kd.R_alloc | apply Kd.R_drewN | apply Kd.R_drew)); exact HO_10.out) hb); have n1_ := Aside0.mk (Kd.R_below (by (with_reducible repeat (first | apply Kd.R_alloc | apply Kd.R_drewN | apply Kd.R_drew)); exact HO151.out) hb); have n2_ := Aside0.mk (below_step (by repeat (first | (with_reducible first | exact HB.out | apply below_alloc | apply pw_below_drewN | apply below_drew1) | exact HB.out)) hb); clear HO_10; clear HO151; clear HB; have HO_10 := n0_; have HO151 := n1_; have HB := n2_; clear n0_ n1_ n2_; (try clear hb); (try clear hb2); (try clear hk); (try clear hi)) | ((with_reducible refine (laws_FnRolesLevels_1.calls k2 a3 t153 _ A24.out).mono ?_); rintro e w52 ⟨rfl, hb⟩; have n0_ := Aside0.mk (Kd.R_below (by (with_reducible repeat (first | apply Kd.R_alloc | apply Kd.R_drewN | apply Kd.R_drew)); exact HO_10.out) hb); have n1_ := Aside0.mk (Kd.R_below (by (with_reducible repeat (first | apply Kd.R_alloc | apply Kd.R_drewN | apply Kd.R_drew)); exact HO151.out) hb); have n2_ := Aside0.mk (below_step (by repeat (first | (with_reducible first | exact HB.out | apply below_alloc | apply pw_below_drewN | apply below_drew1) | exact HB.out)) hb); clear HO_10; clear HO151; clear HB; have HO_10 := n0_; have HO151 := n1_; have HB := n2_; clear n0_ n1_ n2_; (try clear hb); (try clear hb2); (try clear hk); (try clear hi); obtain ⟨Ao53, co53, eo53⟩ := Kd.R_slice HO151.out; subst eo53) | ((with_reducible refine gate_callee (f := 17) rfl ?_); refine goesL_ (some 70) rfl rfl Tryz.func17 (by kernel_rfl) rfl #[.int .i64 a0, .bool false, .slice Ao53 t149.length co53, .agg #[.int .i64 0, .string t152, .string t153, .string (⟨#[]⟩ : ByteArray)]] rfl (by (try simp only [List.map_toArray, List.map_cons, List.map_nil]); first | done | rfl | (simp only [List.length_drop, List.length_take]; rfl)) ?_; (with_reducible refine (laws_question.calls k2 a0 false _ _ t149 0 t152 t153 (⟨#[]⟩ : ByteArray) t154 t155 t156 true _ ?side1 ?side2 A25.out).mono ?_); (case side1 => repeat (first | exact (Kd.R_reads' HO151.out).2.2 | (with_reducible refine Kd.C_alloc ?_ _) | (with_reducible refine Kd.C_drewN ?_ _) | (with_reducible refine Kd.C_drew ?_))); (case side2 => exact (Kd.R_reads' HO151.out).2.1); rintro e w54 ⟨v157, rfl, ⟨lq_t156, hq_, ho0⟩, hb⟩; have HQt156 := Aside0.mk hq_; clear hq_; refine ⟨_, rfl, ?_⟩; have n0_ := Aside0.mk (Kd.R_below (by (with_reducible repeat (first | apply Kd.R_alloc | apply Kd.R_drewN | apply Kd.R_drew)); exact HO_10.out) hb); have n1_ := Aside0.mk (Kd.R_below (by (with_reducible repeat (first | apply Kd.R_alloc | apply Kd.R_drewN | apply Kd.R_drew)); exact HO151.out) hb); have n2_ := Aside0.mk (Kd.V_lower (Kd.V_mono (ok' := fun k_ => some k_ ≠ (.slice Ao49 x10_2.length co49 : Value).ownBlock ∧ some k_ ≠ (.slice Ao53 t149.length co53 : Value).ownBlock) ho0 (fun k_ hk_ => ⟨(Kd.fresh' (Kd.R_lt (by (with_reducible repeat (first | apply Kd.R_alloc | apply Kd.R_drewN | apply Kd.R_drew)); exact HO_10.out)) k_ hk_), (Kd.fresh' (Kd.R_lt (by (with_reducible repeat (first | apply Kd.R_alloc | apply Kd.R_drewN | apply Kd.R_drew)); exact HO151.out)) k_ hk_)⟩)) (below_size (by repeat (first | (with_reducible first | exact HB.out | apply below_alloc | apply pw_below_drewN | apply below_drew1) | exact HB.out)))); have n3_ := Aside0.mk (below_step (by repeat (first | (with_reducible first | exact HB.out | apply below_alloc | apply pw_below_drewN | apply below_drew1) | exact HB.out)) hb); clear HO_10; clear HO151; clear HB; have HO_10 := n0_; have HO151 := n1_; have HO158 := n2_; have HB := n3_; clear n0_ n1_ n2_ n3_; (try clear hb); (try clear hb2); (try clear hk); (try clear hi); (try clear ho0)) | ((with_reducible refine gate_dst (N := 12) rfl ?_); refine box_event ?hg (N := 12) ?hd (cs := #[.int .i64 0, .bool false, .slice none 0 0]) (t := 40) ?hr ?_; (case hd => rfl); (case hg => rfl); (case hr => first | (go_simp; done) | (go_simp; rfl)); intro gb160 hg w55 hbox hb; have n0_ := Aside0.mk (Kd.R_below (by (with_reducible repeat (first | apply Kd.R_alloc | apply Kd.R_drewN | apply Kd.R_drew)); exact HO_10.out) hb); have n1_ := Aside0.mk (Kd.R_below (by (with_reducible repeat (first | apply Kd.R_alloc | apply Kd.R_drewN | apply Kd.R_drew)); exact HO151.out) hb); have n2_ := Aside0.mk (Kd.V_below (Kd.V_elderB (by (with_reducible repeat (first | apply Kd.V_alloc | apply Kd.V_drewN | apply Kd.V_drew)); exact HO158.out) gb160 (Nat.le_of_eq hg.symm)) hb); have n3_ := Aside0.mk (below_step (by repeat (first | (with_reducible first | exact HB.out | apply below_alloc | apply pw_below_drewN | apply below_drew1) | exact HB.out)) hb); have n4_ := Aside0.mk (hbox); have n5_ := Aside0.mk ((by rw [hg]; exact (below_size (by repeat (first | (with_reducible first | exact HB.out | apply below_alloc | apply pw_below_drewN | apply below_drew1) | exact HB.out))) : w.heap.size ≤ gb160)); have n6_ := Aside0.mk ((by rw [hg]; exact (below_size (by repeat (first | (with_reducible first | exact HB.out | apply below_alloc | apply pw_below_drewN | apply below_drew1) | exact HB.out))) : w.heap.size ≤ gb160)); clear HO_10; clear HO151; clear HO158; clear HB; have HO_10 := n0_; have HO151 := n1_; have HO158 := n2_; have HB := n3_; have BK160 := n4_; have GW160 := n5_; have GE160 := n6_; clear n0_ n1_ n2_ n3_ n4_ n5_ n6_; clear hb hbox hg; have hcz56_0 : w55.cell? ⟨gb160, 0, none⟩ = some (.int .i64 0) := (blk_cell BK160.out 0).trans rfl; have hcz56_1 : w55.cell? ⟨gb160, 1, none⟩ = some (.bool false) := (blk_cell BK160.out 1).trans rfl; have hcz56_2 : w55.cell? ⟨gb160, 2, none⟩ = some (.slice none 0 0) := (blk_cell BK160.out 2).trans rfl; have hfz56_0 := blk_frozen BK160.out 0; have hfz56_1 := blk_frozen BK160.out 1; have hfz56_2 := blk_frozen BK160.out 2; obtain ⟨Ao57, co57, eo57⟩ := Kd.V_slice HO158.out; subst eo57))
         go_ret
         exact ⟨by first | rfl | (simp [errW_none, errW_some] <;> rfl) | (simp [*, errW_none, errW_some] <;> rfl), by repeat (first | (with_reducible first | exact HB.out | apply below_alloc | apply pw_below_drewN | apply below_drew1 | refine below_set ?_ GE160.out) | exact HB.out)⟩
       ·replace c26 := Bool.eq_false_iff.mpr c26
        subst c26
        have H1 : (some false) = some r := by rw [if_neg (show ¬ (false = true) by decide)] at H; exact H
        clear H
        have H := H1
        clear H1
        obtain rfl := Option.some.inj H
        obtain ⟨Ao58, co58, eo58⟩ := Kd.R_slice HO_10.out
        subst eo58
        go_wp2_with (first | ((with_reducible refine gate_callee (f := 14) rfl ?_); refine goesL_ (some 62) rfl rfl Tryz.func14 (by kernel_rfl) rfl #[.slice Ao58 x10_2.length co58] rfl (by (try simp only [List.map_toArray, List.map_cons, List.map_nil]); first | done | rfl | (simp only [List.length_drop, List.length_take]; rfl)) ?_; (with_reducible refine (laws_added.calls k2 _ _ x10_2 t149 _ ?side1 ?side2 A22.out).mono ?_); (case side1 => repeat (first | exact (Kd.R_reads' HO_10.out).2.2 | (with_reducible refine Kd.C_alloc ?_ _) | (with_reducible refine Kd.C_drewN ?_ _) | (with_reducible refine Kd.C_drew ?_))); (case side2 => exact (Kd.R_reads' HO_10.out).2.1); rintro e w59 ⟨v150, rfl, ho0, hb⟩; refine ⟨_, rfl, ?_⟩; have n0_ := Aside0.mk (Kd.R_below (by (with_reducible repeat (first | apply Kd.R_alloc | apply Kd.R_drewN | apply Kd.R_drew)); exact HO_10.out) hb); have n1_ := Aside0.mk (Kd.R_lower ho0 (below_size (by repeat (first | (with_reducible first | exact HB.out | apply below_alloc | apply pw_below_drewN | apply below_drew1) | exact HB.out)))); have n2_ := Aside0.mk (below_step (by repeat (first | (with_reducible first | exact HB.out | apply below_alloc | apply pw_below_drewN | apply below_drew1) | exact HB.out)) hb); clear HO_10; clear HB; have HO_10 := n0_; have HO151 := n1_; have HB := n2_; clear n0_ n1_ n2_; (try clear hb); (try clear hb2); (try clear hk); (try clear hi); (try clear ho0)) | ((with_reducible refine (laws_FnRolesLevels_1.calls k2 a2 t152 _ A23.out).mono ?_); rintro e w60 ⟨rfl, hb⟩; have n0_ := Aside0.mk (Kd.R_below (by (with_reducible repeat (first | apply Kd.R_alloc | apply Kd.R_drewN | apply Kd.R_drew)); exact HO_10.out) hb); have n1_ := Aside0.mk (Kd.R_below (by (with_reducible repeat (first | apply Kd.R_alloc | apply Kd.R_drewN | apply Kd.R_drew)); exact HO151.out) hb); have n2_ := Aside0.mk (below_step (by repeat (first | (with_reducible first | exact HB.out | apply below_alloc | apply pw_below_drewN | apply below_drew1) | exact HB.out)) hb); clear HO_10; clear HO151; clear HB; have HO_10 := n0_; have HO151 := n1_; have HB := n2_; clear n0_ n1_ n2_; (try clear hb); (try clear hb2); (try clear hk); (try clear hi)) | ((with_reducible refine (laws_FnRolesLevels_1.calls k2 a3 t153 _ A24.out).mono ?_); rintro e w61 ⟨rfl, hb⟩; have n0_ := Aside0.mk (Kd.R_below (by (with_reducible repeat (first | apply Kd.R_alloc | apply Kd.R_drewN | apply Kd.R_drew)); exact HO_10.out) hb); have n1_ := Aside0.mk (Kd.R_below (by (with_reducible repeat (first | apply Kd.R_alloc | apply Kd.R_drewN | apply Kd.R_drew)); exact HO151.out) hb); have n2_ := Aside0.mk (below_step (by repeat (first | (with_reducible first | exact HB.out | apply below_alloc | apply pw_below_drewN | apply below_drew1) | exact HB.out)) hb); clear HO_10; clear HO151; clear HB; have HO_10 := n0_; have HO151 := n1_; have HB := n2_; clear n0_ n1_ n2_; (try clear hb); (try clear hb2); (try clear hk); (try clear hi); obtain ⟨Ao62, co62, eo62⟩ := Kd.R_slice HO151.out; subst eo62) | ((with_reducible refine gate_callee (f := 17) rfl ?_); refine goesL_ (some 70) rfl rfl Tryz.func17 (by kernel_rfl) rfl #[.int .i64 a0, .bool false, .slice Ao62 t149.length co62, .agg #[.int .i64 0, .string t152, .string t153, .string (⟨#[]⟩ : ByteArray)]] rfl (by (try simp only [List.map_toArray, List.map_cons, List.map_nil]); first | done | rfl | (simp only [List.length_drop, List.length_take]; rfl)) ?_; (with_reducible refine (laws_question.calls k2 a0 false _ _ t149 0 t152 t153 (⟨#[]⟩ : ByteArray) t154 t155 t156 false _ ?side1 ?side2 A25.out).mono ?_); (case side1 => repeat (first | exact (Kd.R_reads' HO151.out).2.2 | (with_reducible refine Kd.C_alloc ?_ _) | (with_reducible refine Kd.C_drewN ?_ _) | (with_reducible refine Kd.C_drew ?_))); (case side2 => exact (Kd.R_reads' HO151.out).2.1); rintro e w63 ⟨v157, rfl, ⟨lq_t156, hq_, ho0⟩, hb⟩; have HQt156 := Aside0.mk hq_; clear hq_; refine ⟨_, rfl, ?_⟩; have n0_ := Aside0.mk (Kd.R_below (by (with_reducible repeat (first | apply Kd.R_alloc | apply Kd.R_drewN | apply Kd.R_drew)); exact HO_10.out) hb); have n1_ := Aside0.mk (Kd.R_below (by (with_reducible repeat (first | apply Kd.R_alloc | apply Kd.R_drewN | apply Kd.R_drew)); exact HO151.out) hb); have n2_ := Aside0.mk (Kd.V_lower (Kd.V_mono (ok' := fun k_ => some k_ ≠ (.slice Ao58 x10_2.length co58 : Value).ownBlock ∧ some k_ ≠ (.slice Ao62 t149.length co62 : Value).ownBlock) ho0 (fun k_ hk_ => ⟨(Kd.fresh' (Kd.R_lt (by (with_reducible repeat (first | apply Kd.R_alloc | apply Kd.R_drewN | apply Kd.R_drew)); exact HO_10.out)) k_ hk_), (Kd.fresh' (Kd.R_lt (by (with_reducible repeat (first | apply Kd.R_alloc | apply Kd.R_drewN | apply Kd.R_drew)); exact HO151.out)) k_ hk_)⟩)) (below_size (by repeat (first | (with_reducible first | exact HB.out | apply below_alloc | apply pw_below_drewN | apply below_drew1) | exact HB.out)))); have n3_ := Aside0.mk (below_step (by repeat (first | (with_reducible first | exact HB.out | apply below_alloc | apply pw_below_drewN | apply below_drew1) | exact HB.out)) hb); clear HO_10; clear HO151; clear HB; have HO_10 := n0_; have HO151 := n1_; have HO158 := n2_; have HB := n3_; clear n0_ n1_ n2_ n3_; (try clear hb); (try clear hb2); (try clear hk); (try clear hi); (try clear ho0)) | ((with_reducible refine gate_dst (N := 12) rfl ?_); refine box_event ?hg (N := 12) ?hd (cs := #[.int .i64 0, .bool false, .slice none 0 0]) (t := 40) ?hr ?_; (case hd => rfl); (case hg => rfl); (case hr => first | (go_simp; done) | (go_simp; rfl)); intro gb160 hg w64 hbox hb; have n0_ := Aside0.mk (Kd.R_below (by (with_reducible repeat (first | apply Kd.R_alloc | apply Kd.R_drewN | apply Kd.R_drew)); exact HO_10.out) hb); have n1_ := Aside0.mk (Kd.R_below (by (with_reducible repeat (first | apply Kd.R_alloc | apply Kd.R_drewN | apply Kd.R_drew)); exact HO151.out) hb); have n2_ := Aside0.mk (Kd.V_below (Kd.V_elderB (by (with_reducible repeat (first | apply Kd.V_alloc | apply Kd.V_drewN | apply Kd.V_drew)); exact HO158.out) gb160 (Nat.le_of_eq hg.symm)) hb); have n3_ := Aside0.mk (below_step (by repeat (first | (with_reducible first | exact HB.out | apply below_alloc | apply pw_below_drewN | apply below_drew1) | exact HB.out)) hb); have n4_ := Aside0.mk (hbox); have n5_ := Aside0.mk ((by rw [hg]; exact (below_size (by repeat (first | (with_reducible first | exact HB.out | apply below_alloc | apply pw_below_drewN | apply below_drew1) | exact HB.out))) : w.heap.size ≤ gb160)); have n6_ := Aside0.mk ((by rw [hg]; exact (below_size (by repeat (first | (with_reducible first | exact HB.out | apply below_alloc | apply pw_below_drewN | apply below_drew1) | exact HB.out))) : w.heap.size ≤ gb160)); clear HO_10; clear HO151; clear HO158; clear HB; have HO_10 := n0_; have HO151 := n1_; have HO158 := n2_; have HB := n3_; have BK160 := n4_; have GW160 := n5_; have GE160 := n6_; clear n0_ n1_ n2_ n3_ n4_ n5_ n6_; clear hb hbox hg; have hcz65_0 : w64.cell? ⟨gb160, 0, none⟩ = some (.int .i64 0) := (blk_cell BK160.out 0).trans rfl; have hcz65_1 : w64.cell? ⟨gb160, 1, none⟩ = some (.bool false) := (blk_cell BK160.out 1).trans rfl; have hcz65_2 : w64.cell? ⟨gb160, 2, none⟩ = some (.slice none 0 0) := (blk_cell BK160.out 2).trans rfl; have hfz65_0 := blk_frozen BK160.out 0; have hfz65_1 := blk_frozen BK160.out 1; have hfz65_2 := blk_frozen BK160.out 2; obtain ⟨Ao66, co66, eo66⟩ := Kd.V_slice HO158.out; subst eo66))
        go_ret
        exact ⟨by first | rfl | (simp [errW_none, errW_some] <;> rfl) | (simp [*, errW_none, errW_some] <;> rfl), by repeat (first | (with_reducible first | exact HB.out | apply below_alloc | apply pw_below_drewN | apply below_drew1 | refine below_set ?_ GE160.out) | exact HB.out)⟩

/-- THE ONE PURE STATEMENT of laws_FnRolesLevels: yours. -/
def laws_FnRolesLevels.Pure : Prop := ∀ (a0 : Int) (a1 : Int) (a2 : Int) (a3 : Int), (Lit.int .i64 a0).wf = true → (Lit.int .i64 a1).wf = true → (Lit.int .i64 a2).wf = true → (Lit.int .i64 a3).wf = true → ∃ k, laws_FnRolesLevels.f k a0 a1 a2 a3 = some true
theorem laws_FnRolesLevels.walk (P : laws_FnRolesLevels.Pure) (a0 : Int) (a1 : Int) (a2 : Int) (a3 : Int) (w : World) (w0 : (Lit.int .i64 a0).wf = true) (w1 : (Lit.int .i64 a1).wf = true) (w2 : (Lit.int .i64 a2).wf = true) (w3 : (Lit.int .i64 a3).wf = true) :
  Calls Tryz.prog 5 #[.int .i64 a0, .int .i64 a1, .int .i64 a2, .int .i64 a3] w fun e w' => e = .returned (.bool true) ∧ Below w.heap.size w w' := by
 obtain ⟨k, h⟩ := P a0 a1 a2 a3 w0 w1 w2 w3
 refine (laws_FnRolesLevels.calls k a0 a1 a2 a3 true w h).mono ?_
 rintro e w' ⟨rfl, hd⟩
 exact ⟨rfl, hd⟩

end Go.Proofs.YtjijaciaioieaaaGreat.PFnRolesOrder
