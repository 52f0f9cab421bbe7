/- The machine side of laws.FnModelAdd: each function of this text answers what its Lean function answers (written for this claim by a program of this session over the kit's print; no condition beyond what each theorem says). -/
import Derived.Test.YtjglpjlbnmpdfaaGreatDoorOFnModelAddx0
import Derived.Test.YtjglpjlbnmpdfaaGreatDoorOFnModelAddx2
import Derived.Test.YtjglpjlbnmpdfaaGreatDoorOFnModelAddx5
import Derived.Test.YtjglpjlbnmpdfaaGreatDoorOFnModelAddx9
import Derived.Test.YtjglpjlbnmpdfaaGreatDoorOFnModelAddx10
import Derived.Test.YtjglpjlbnmpdfaaGreatDoorOFnModelAddx11
import Derived.Test.YtjglpjlbnmpdfaaGreatDoorOFnModelAddx90
namespace Go.Proofs.YtjglpjlbnmpdfaaGreatDoor.PFnModelAdd
open Go.RowKit Go.Proofs.YtjglpjlbnmpdfaaGreatDoorW.PrintWords Go.Proofs.YtjglpjlbnmpdfaaGreatDoorW.PrintLast Go.Proofs.YtjglpjlbnmpdfaaGreatDoorW.PrintMore
attribute [local go_sem] max2_int min2_int max_two min_two max_three min_three max_four min_four   -- for this text's walks alone
set_option linter.unusedVariables false
set_option linter.unusedSimpArgs false

/-! ### laws_FnModelAdd: function 5 -/
def laws_FnModelAdd.l0 : Nat → List (S28) → Int → List Bool → List (S28) → Int → Option (Bool)
 | 0, _, _, _, _, _ => none
 | k + 1, x0, x5, x7, x8, x9 => if x9 < (x7.length : Int) then (if 0 ≤ x9 then (if ((rdOf false x7 x9) != (x9 != x5)) = true then (some false) else (laws_FnModelAdd.l0 k x0 x5 x7 x8 (wrap64 (x9 + 1)))) else (none)) else ((spec_ModelMeans.f k x0).bind fun t211 => ((spec_SameDefs.f k x8 t211).bind fun t214 => (if t214 = true then ((laws_awakeModel.f k).bind fun t215 => (some t215)) else (some false))))
def laws_FnModelAdd.f (k : Nat) (l0 : List (S28)) (a1 : Int) : Option (Bool) := (laws_zzFits19.f k l0).bind fun t178 => (if t178 = true then ((laws_modelled.f k l0).bind fun t179 => (if t179 = true then (if (IntKind.u64.wrap (wrap64 ((l0.length : Int) + 1))) = 0 then (none) else ((some (([] : List (S28)) : List (S28))).bind fun y181 => (if 0 ≤ (wrap64 (Int.tmod (IntKind.u64.wrap (a1)) (IntKind.u64.wrap (wrap64 ((l0.length : Int) + 1))))) then (if (wrap64 (Int.tmod (IntKind.u64.wrap (a1)) (IntKind.u64.wrap (wrap64 ((l0.length : Int) + 1))))) ≤ (l0.length : Int) then ((some (l0.take ((wrap64 (Int.tmod (IntKind.u64.wrap (a1)) (IntKind.u64.wrap (wrap64 ((l0.length : Int) + 1))))) : Int).toNat : List (S28))).bind fun y184 => (if y181.length + y184.length < 2932031007402 then ((some (y181 ++ y184 : List (S28))).bind fun y188 => ((some (([(⟨(⟨#[112]⟩ : ByteArray), (⟨#[112, 57]⟩ : ByteArray), (⟨#[]⟩ : ByteArray)⟩ : S28)] : List (S28)) : List (S28))).bind fun y191 => (if y188.length + y191.length < 2932031007402 then ((some (y188 ++ y191 : List (S28))).bind fun y194 => ((some (l0.drop ((wrap64 (Int.tmod (IntKind.u64.wrap (a1)) (IntKind.u64.wrap (wrap64 ((l0.length : Int) + 1))))) : Int).toNat : List (S28))).bind fun y197 => (if y194.length + y197.length < 2932031007402 then ((some (y194 ++ y197 : List (S28))).bind fun y201 => ((impl_ModelAdd.f k y201).bind fun bt204 => (if (bt204.1.length : Int) = (y201.length : Int) then (laws_FnModelAdd.l0 k l0 (wrap64 (Int.tmod (IntKind.u64.wrap (a1)) (IntKind.u64.wrap (wrap64 ((l0.length : Int) + 1))))) bt204.1 bt204.2 0) else (some false)))) else (none)))) else (none)))) else (none))) else (none)) else (none)))) else ((laws_awakeModel.f k).bind fun t180 => (some t180)))) else (some true))
theorem laws_FnModelAdd.mono_l : ∀ k, (∀ y0 y1 y2 y3 y4, LeO (laws_FnModelAdd.l0 k y0 y1 y2 y3 y4) (laws_FnModelAdd.l0 (k + 1) y0 y1 y2 y3 y4))
 | 0 => fun _ _ _ _ _ r h => by simp [laws_FnModelAdd.l0] at h
 | k + 1 => by
  have ih0 := laws_FnModelAdd.mono_l k
  ·intro y0 y1 y2 y3 y4
   unfold laws_FnModelAdd.l0
   repeat' first
   | (with_reducible exact ih0 _ _ _ _ _)
   | (with_reducible exact impl_ModelAdd.mono _ _)
   | (with_reducible exact laws_awakeModel.mono _)
   | (with_reducible exact laws_modelled.mono _ _)
   | (with_reducible exact laws_zzFits19.mono _ _)
   | (with_reducible exact spec_ModelMeans.mono _ _)
   | (with_reducible exact spec_SameDefs.mono _ _ _)
   | (with_reducible exact LeO.refl _)
   | (with_reducible exact LeO.none _)
   | (with_reducible refine LeO.ite ?_ ?_)
   | (with_reducible refine LeO.bind ?_ (fun _ => ?_))
   | exact ih0 _ _ _ _ _
   | exact impl_ModelAdd.mono _ _
   | exact laws_awakeModel.mono _
   | exact laws_modelled.mono _ _
   | exact laws_zzFits19.mono _ _
   | exact spec_ModelMeans.mono _ _
   | exact spec_SameDefs.mono _ _ _
   | exact LeO.none _
   | refine LeO.ite ?_ ?_
   | refine LeO.bind ?_ (fun _ => ?_)
theorem laws_FnModelAdd.mono : ∀ a0 a1 k, LeO (laws_FnModelAdd.f k a0 a1) (laws_FnModelAdd.f (k + 1) a0 a1) := by
 intro a0 a1 k
 have ih0 := laws_FnModelAdd.mono_l k
 unfold laws_FnModelAdd.f
 repeat' first
   | (with_reducible exact ih0 _ _ _ _ _)
   | (with_reducible exact impl_ModelAdd.mono _ _)
   | (with_reducible exact laws_awakeModel.mono _)
   | (with_reducible exact laws_modelled.mono _ _)
   | (with_reducible exact laws_zzFits19.mono _ _)
   | (with_reducible exact spec_ModelMeans.mono _ _)
   | (with_reducible exact spec_SameDefs.mono _ _ _)
   | (with_reducible exact LeO.refl _)
   | (with_reducible exact LeO.none _)
   | (with_reducible refine LeO.ite ?_ ?_)
   | (with_reducible refine LeO.bind ?_ (fun _ => ?_))
   | exact ih0 _ _ _ _ _
   | exact impl_ModelAdd.mono _ _
   | exact laws_awakeModel.mono _
   | exact laws_modelled.mono _ _
   | exact laws_zzFits19.mono _ _
   | exact spec_ModelMeans.mono _ _
   | exact spec_SameDefs.mono _ _ _
   | exact LeO.none _
   | refine LeO.ite ?_ ?_
   | refine LeO.bind ?_ (fun _ => ?_)
def laws_FnModelAdd.T6 : Bool × List (List Nat × List Nat) := (true, [([], []), ([], []), ([], []), ([1, 2], [1, 2]), ([0, 3], [0, 3]), ([], []), ([5], [5]), ([4, 6, 4], [4, 6]), ([], []), ([], []), ([8, 9], [8, 9]), ([7, 10, 7], [7, 10]), ([11, 11, 0, 1, 2, 3, 4, 5, 6, 7, 8, 9, 10, 11], [11])])
def laws_FnModelAdd.B6 : List Nat := [0, 0, 0, 6, 15, 0, 32, 127, 0, 0, 768, 2047, 4095]
theorem laws_FnModelAdd.tab6 : rtab .any (opsOf Tryz.f5 6) = laws_FnModelAdd.T6 := by kernel_rfl
theorem laws_FnModelAdd.bits6 : waitsOk laws_FnModelAdd.T6.2 laws_FnModelAdd.B6 = true := by kernel_rfl
set_option maxHeartbeats 8000000 in
set_option maxRecDepth 100000 in
theorem laws_FnModelAdd.calls (k : Nat) (A0 : Option Addr) (c0 : Nat) (l0 : List (S28)) (a1 : Int) (r : Bool) (w : World) (hprem : Prem w) (hr0 : Kd.C k28 w A0 l0.length l0) (hc0 : l0.length ≤ c0) (h : laws_FnModelAdd.f k l0 a1 = some r) :
  Calls Tryz.prog 5 #[.slice A0 l0.length c0, .int .i64 a1] w fun e w' => e = .returned (.bool r) ∧ Below w.heap.size w w' := by
 have HPM := Aside0.mk hprem
 clear hprem
 have hu28 := Tryz.underlying28
 have HR0 := Aside0.mk hr0
 have HC0 := Aside0.mk hc0
 clear hr0 hc0
 have HB := Aside0.mk (Below.refl w.heap.size w)
 have H : ((laws_zzFits19.f k l0).bind fun t178 => (if t178 = true then ((laws_modelled.f k l0).bind fun t179 => (if t179 = true then (if (IntKind.u64.wrap (wrap64 ((l0.length : Int) + 1))) = 0 then (none) else ((some (([] : List (S28)) : List (S28))).bind fun y181 => (if 0 ≤ (wrap64 (Int.tmod (IntKind.u64.wrap (a1)) (IntKind.u64.wrap (wrap64 ((l0.length : Int) + 1))))) then (if (wrap64 (Int.tmod (IntKind.u64.wrap (a1)) (IntKind.u64.wrap (wrap64 ((l0.length : Int) + 1))))) ≤ (l0.length : Int) then ((some (l0.take ((wrap64 (Int.tmod (IntKind.u64.wrap (a1)) (IntKind.u64.wrap (wrap64 ((l0.length : Int) + 1))))) : Int).toNat : List (S28))).bind fun y184 => (if y181.length + y184.length < 2932031007402 then ((some (y181 ++ y184 : List (S28))).bind fun y188 => ((some (([(⟨(⟨#[112]⟩ : ByteArray), (⟨#[112, 57]⟩ : ByteArray), (⟨#[]⟩ : ByteArray)⟩ : S28)] : List (S28)) : List (S28))).bind fun y191 => (if y188.length + y191.length < 2932031007402 then ((some (y188 ++ y191 : List (S28))).bind fun y194 => ((some (l0.drop ((wrap64 (Int.tmod (IntKind.u64.wrap (a1)) (IntKind.u64.wrap (wrap64 ((l0.length : Int) + 1))))) : Int).toNat : List (S28))).bind fun y197 => (if y194.length + y197.length < 2932031007402 then ((some (y194 ++ y197 : List (S28))).bind fun y201 => ((impl_ModelAdd.f k y201).bind fun bt204 => (if (bt204.1.length : Int) = (y201.length : Int) then (laws_FnModelAdd.l0 k l0 (wrap64 (Int.tmod (IntKind.u64.wrap (a1)) (IntKind.u64.wrap (wrap64 ((l0.length : Int) + 1))))) bt204.1 bt204.2 0) else (some false)))) else (none)))) else (none)))) else (none))) else (none)) else (none)))) else ((laws_awakeModel.f k).bind fun t180 => (some t180)))) else (some true))) = some r := h
 clear h
 replace H := Option.bind_eq_some_iff.mp H
 obtain ⟨t178, A30, H⟩ := H
 replace H : (if t178 = true then ((laws_modelled.f k l0).bind fun t179 => (if t179 = true then (if (IntKind.u64.wrap (wrap64 ((l0.length : Int) + 1))) = 0 then (none) else ((some (([] : List (S28)) : List (S28))).bind fun y181 => (if 0 ≤ (wrap64 (Int.tmod (IntKind.u64.wrap (a1)) (IntKind.u64.wrap (wrap64 ((l0.length : Int) + 1))))) then (if (wrap64 (Int.tmod (IntKind.u64.wrap (a1)) (IntKind.u64.wrap (wrap64 ((l0.length : Int) + 1))))) ≤ (l0.length : Int) then ((some (l0.take ((wrap64 (Int.tmod (IntKind.u64.wrap (a1)) (IntKind.u64.wrap (wrap64 ((l0.length : Int) + 1))))) : Int).toNat : List (S28))).bind fun y184 => (if y181.length + y184.length < 2932031007402 then ((some (y181 ++ y184 : List (S28))).bind fun y188 => ((some (([(⟨(⟨#[112]⟩ : ByteArray), (⟨#[112, 57]⟩ : ByteArray), (⟨#[]⟩ : ByteArray)⟩ : S28)] : List (S28)) : List (S28))).bind fun y191 => (if y188.length + y191.length < 2932031007402 then ((some (y188 ++ y191 : List (S28))).bind fun y194 => ((some (l0.drop ((wrap64 (Int.tmod (IntKind.u64.wrap (a1)) (IntKind.u64.wrap (wrap64 ((l0.length : Int) + 1))))) : Int).toNat : List (S28))).bind fun y197 => (if y194.length + y197.length < 2932031007402 then ((some (y194 ++ y197 : List (S28))).bind fun y201 => ((impl_ModelAdd.f k y201).bind fun bt204 => (if (bt204.1.length : Int) = (y201.length : Int) then (laws_FnModelAdd.l0 k l0 (wrap64 (Int.tmod (IntKind.u64.wrap (a1)) (IntKind.u64.wrap (wrap64 ((l0.length : Int) + 1))))) bt204.1 bt204.2 0) else (some false)))) else (none)))) else (none)))) else (none))) else (none)) else (none)))) else ((laws_awakeModel.f k).bind fun t180 => (some t180)))) else (some true)) = some r := H
 have A3 := Aside0.mk A30
 clear A30
 by_cases c4 : t178 = true
 ·subst c4
  have H1 : ((laws_modelled.f k l0).bind fun t179 => (if t179 = true then (if (IntKind.u64.wrap (wrap64 ((l0.length : Int) + 1))) = 0 then (none) else ((some (([] : List (S28)) : List (S28))).bind fun y181 => (if 0 ≤ (wrap64 (Int.tmod (IntKind.u64.wrap (a1)) (IntKind.u64.wrap (wrap64 ((l0.length : Int) + 1))))) then (if (wrap64 (Int.tmod (IntKind.u64.wrap (a1)) (IntKind.u64.wrap (wrap64 ((l0.length : Int) + 1))))) ≤ (l0.length : Int) then ((some (l0.take ((wrap64 (Int.tmod (IntKind.u64.wrap (a1)) (IntKind.u64.wrap (wrap64 ((l0.length : Int) + 1))))) : Int).toNat : List (S28))).bind fun y184 => (if y181.length + y184.length < 2932031007402 then ((some (y181 ++ y184 : List (S28))).bind fun y188 => ((some (([(⟨(⟨#[112]⟩ : ByteArray), (⟨#[112, 57]⟩ : ByteArray), (⟨#[]⟩ : ByteArray)⟩ : S28)] : List (S28)) : List (S28))).bind fun y191 => (if y188.length + y191.length < 2932031007402 then ((some (y188 ++ y191 : List (S28))).bind fun y194 => ((some (l0.drop ((wrap64 (Int.tmod (IntKind.u64.wrap (a1)) (IntKind.u64.wrap (wrap64 ((l0.length : Int) + 1))))) : Int).toNat : List (S28))).bind fun y197 => (if y194.length + y197.length < 2932031007402 then ((some (y194 ++ y197 : List (S28))).bind fun y201 => ((impl_ModelAdd.f k y201).bind fun bt204 => (if (bt204.1.length : Int) = (y201.length : Int) then (laws_FnModelAdd.l0 k l0 (wrap64 (Int.tmod (IntKind.u64.wrap (a1)) (IntKind.u64.wrap (wrap64 ((l0.length : Int) + 1))))) bt204.1 bt204.2 0) else (some false)))) else (none)))) else (none)))) else (none))) else (none)) else (none)))) else ((laws_awakeModel.f k).bind fun t180 => (some t180)))) = some r := by rw [if_pos rfl] at H; exact H
  clear H
  have H := H1
  clear H1
  replace H := Option.bind_eq_some_iff.mp H
  obtain ⟨t179, A50, H⟩ := H
  replace H : (if t179 = true then (if (IntKind.u64.wrap (wrap64 ((l0.length : Int) + 1))) = 0 then (none) else ((some (([] : List (S28)) : List (S28))).bind fun y181 => (if 0 ≤ (wrap64 (Int.tmod (IntKind.u64.wrap (a1)) (IntKind.u64.wrap (wrap64 ((l0.length : Int) + 1))))) then (if (wrap64 (Int.tmod (IntKind.u64.wrap (a1)) (IntKind.u64.wrap (wrap64 ((l0.length : Int) + 1))))) ≤ (l0.length : Int) then ((some (l0.take ((wrap64 (Int.tmod (IntKind.u64.wrap (a1)) (IntKind.u64.wrap (wrap64 ((l0.length : Int) + 1))))) : Int).toNat : List (S28))).bind fun y184 => (if y181.length + y184.length < 2932031007402 then ((some (y181 ++ y184 : List (S28))).bind fun y188 => ((some (([(⟨(⟨#[112]⟩ : ByteArray), (⟨#[112, 57]⟩ : ByteArray), (⟨#[]⟩ : ByteArray)⟩ : S28)] : List (S28)) : List (S28))).bind fun y191 => (if y188.length + y191.length < 2932031007402 then ((some (y188 ++ y191 : List (S28))).bind fun y194 => ((some (l0.drop ((wrap64 (Int.tmod (IntKind.u64.wrap (a1)) (IntKind.u64.wrap (wrap64 ((l0.length : Int) + 1))))) : Int).toNat : List (S28))).bind fun y197 => (if y194.length + y197.length < 2932031007402 then ((some (y194 ++ y197 : List (S28))).bind fun y201 => ((impl_ModelAdd.f k y201).bind fun bt204 => (if (bt204.1.length : Int) = (y201.length : Int) then (laws_FnModelAdd.l0 k l0 (wrap64 (Int.tmod (IntKind.u64.wrap (a1)) (IntKind.u64.wrap (wrap64 ((l0.length : Int) + 1))))) bt204.1 bt204.2 0) else (some false)))) else (none)))) else (none)))) else (none))) else (none)) else (none)))) else ((laws_awakeModel.f k).bind fun t180 => (some t180))) = some r := H
  have A5 := Aside0.mk A50
  clear A50
  by_cases c6 : t179 = true
  ·subst c6
   have H1 : (if (IntKind.u64.wrap (wrap64 ((l0.length : Int) + 1))) = 0 then (none) else ((some (([] : List (S28)) : List (S28))).bind fun y181 => (if 0 ≤ (wrap64 (Int.tmod (IntKind.u64.wrap (a1)) (IntKind.u64.wrap (wrap64 ((l0.length : Int) + 1))))) then (if (wrap64 (Int.tmod (IntKind.u64.wrap (a1)) (IntKind.u64.wrap (wrap64 ((l0.length : Int) + 1))))) ≤ (l0.length : Int) then ((some (l0.take ((wrap64 (Int.tmod (IntKind.u64.wrap (a1)) (IntKind.u64.wrap (wrap64 ((l0.length : Int) + 1))))) : Int).toNat : List (S28))).bind fun y184 => (if y181.length + y184.length < 2932031007402 then ((some (y181 ++ y184 : List (S28))).bind fun y188 => ((some (([(⟨(⟨#[112]⟩ : ByteArray), (⟨#[112, 57]⟩ : ByteArray), (⟨#[]⟩ : ByteArray)⟩ : S28)] : List (S28)) : List (S28))).bind fun y191 => (if y188.length + y191.length < 2932031007402 then ((some (y188 ++ y191 : List (S28))).bind fun y194 => ((some (l0.drop ((wrap64 (Int.tmod (IntKind.u64.wrap (a1)) (IntKind.u64.wrap (wrap64 ((l0.length : Int) + 1))))) : Int).toNat : List (S28))).bind fun y197 => (if y194.length + y197.length < 2932031007402 then ((some (y194 ++ y197 : List (S28))).bind fun y201 => ((impl_ModelAdd.f k y201).bind fun bt204 => (if (bt204.1.length : Int) = (y201.length : Int) then (laws_FnModelAdd.l0 k l0 (wrap64 (Int.tmod (IntKind.u64.wrap (a1)) (IntKind.u64.wrap (wrap64 ((l0.length : Int) + 1))))) bt204.1 bt204.2 0) else (some false)))) else (none)))) else (none)))) else (none))) else (none)) else (none)))) = some r := by rw [if_pos rfl] at H; exact H
   clear H
   have H := H1
   clear H1
   by_cases c7 : (IntKind.u64.wrap (wrap64 ((l0.length : Int) + 1))) = 0
   ·rw [if_pos c7] at H
    exact absurd H (by simp)
   ·rw [if_neg c7] at H
    have c7b0 : ((IntKind.u64.wrap (wrap64 ((l0.length : Int) + 1))) == 0) = false := beq_eq_false_iff_ne.mpr c7
    have c7b1 : ((IntKind.u64.wrap (wrap64 ((l0.length : Int) + 1))) != 0) = true := bne_iff_ne.mpr c7
    obtain ⟨y181, hy181⟩ : ∃ y_ : List (S28), y_ = (([] : List (S28))) := ⟨_, rfl⟩
    replace H : (if 0 ≤ (wrap64 (Int.tmod (IntKind.u64.wrap (a1)) (IntKind.u64.wrap (wrap64 ((l0.length : Int) + 1))))) then (if (wrap64 (Int.tmod (IntKind.u64.wrap (a1)) (IntKind.u64.wrap (wrap64 ((l0.length : Int) + 1))))) ≤ (l0.length : Int) then ((some (l0.take ((wrap64 (Int.tmod (IntKind.u64.wrap (a1)) (IntKind.u64.wrap (wrap64 ((l0.length : Int) + 1))))) : Int).toNat : List (S28))).bind fun y184 => (if y181.length + y184.length < 2932031007402 then ((some (y181 ++ y184 : List (S28))).bind fun y188 => ((some (([(⟨(⟨#[112]⟩ : ByteArray), (⟨#[112, 57]⟩ : ByteArray), (⟨#[]⟩ : ByteArray)⟩ : S28)] : List (S28)) : List (S28))).bind fun y191 => (if y188.length + y191.length < 2932031007402 then ((some (y188 ++ y191 : List (S28))).bind fun y194 => ((some (l0.drop ((wrap64 (Int.tmod (IntKind.u64.wrap (a1)) (IntKind.u64.wrap (wrap64 ((l0.length : Int) + 1))))) : Int).toNat : List (S28))).bind fun y197 => (if y194.length + y197.length < 2932031007402 then ((some (y194 ++ y197 : List (S28))).bind fun y201 => ((impl_ModelAdd.f k y201).bind fun bt204 => (if (bt204.1.length : Int) = (y201.length : Int) then (laws_FnModelAdd.l0 k l0 (wrap64 (Int.tmod (IntKind.u64.wrap (a1)) (IntKind.u64.wrap (wrap64 ((l0.length : Int) + 1))))) bt204.1 bt204.2 0) else (some false)))) else (none)))) else (none)))) else (none))) else (none)) else (none)) = some r := by first | (rw [hy181]; with_reducible exact H) | (have H2_ := (Option.bind_some _ _).symm.trans H; rw [hy181]; with_reducible exact H2_) | (have H2_ := (Option.bind_some _ _).symm.trans H; with_reducible exact H2_) | with_reducible exact H | (rw [hy181]; exact H) | exact H
    have Ny181 := Aside0.mk hy181
    clear hy181
    obtain ⟨ji8, hji8⟩ : ∃ j_ : Int, (wrap64 (Int.tmod (IntKind.u64.wrap (a1)) (IntKind.u64.wrap (wrap64 ((l0.length : Int) + 1))))) = j_ := ⟨_, rfl⟩
    replace H : (if 0 ≤ (ji8) then (if (ji8) ≤ (l0.length : Int) then ((some (l0.take ((ji8) : Int).toNat : List (S28))).bind fun y184 => (if y181.length + y184.length < 2932031007402 then ((some (y181 ++ y184 : List (S28))).bind fun y188 => ((some (([(⟨(⟨#[112]⟩ : ByteArray), (⟨#[112, 57]⟩ : ByteArray), (⟨#[]⟩ : ByteArray)⟩ : S28)] : List (S28)) : List (S28))).bind fun y191 => (if y188.length + y191.length < 2932031007402 then ((some (y188 ++ y191 : List (S28))).bind fun y194 => ((some (l0.drop ((ji8) : Int).toNat : List (S28))).bind fun y197 => (if y194.length + y197.length < 2932031007402 then ((some (y194 ++ y197 : List (S28))).bind fun y201 => ((impl_ModelAdd.f k y201).bind fun bt204 => (if (bt204.1.length : Int) = (y201.length : Int) then (laws_FnModelAdd.l0 k l0 ji8 bt204.1 bt204.2 0) else (some false)))) else (none)))) else (none)))) else (none))) else (none)) else (none)) = some r := by first | (rw [hji8] at H; exact H) | (simp only [hji8] at H ⊢; exact H)
    (try rw [hji8] at A3)
    (try rw [hji8] at A5)
    have hji8w : (IntKind.i64.wrap (Int.tmod (IntKind.u64.wrap (a1)) (IntKind.u64.wrap (wrap64 ((l0.length : Int) + 1))))) = ji8 := (i64_w _).trans hji8
    by_cases c9 : 0 ≤ (ji8)
    ·rw [if_pos c9] at H
     have c9b0 := eq_true c9
     have c9b1 : decide (0 ≤ (ji8)) = true := decide_eq_true c9
     clear c9
     by_cases c10 : (ji8) ≤ (l0.length : Int)
     ·rw [if_pos c10] at H
      have c10b0 := eq_true c10
      have c10b1 : decide ((ji8) ≤ (l0.length : Int)) = true := decide_eq_true c10
      clear c10
      obtain ⟨y184, hy184⟩ : ∃ y_ : List (S28), y_ = (l0.take ((ji8) : Int).toNat) := ⟨_, rfl⟩
      replace H : (if y181.length + y184.length < 2932031007402 then ((some (y181 ++ y184 : List (S28))).bind fun y188 => ((some (([(⟨(⟨#[112]⟩ : ByteArray), (⟨#[112, 57]⟩ : ByteArray), (⟨#[]⟩ : ByteArray)⟩ : S28)] : List (S28)) : List (S28))).bind fun y191 => (if y188.length + y191.length < 2932031007402 then ((some (y188 ++ y191 : List (S28))).bind fun y194 => ((some (l0.drop ((ji8) : Int).toNat : List (S28))).bind fun y197 => (if y194.length + y197.length < 2932031007402 then ((some (y194 ++ y197 : List (S28))).bind fun y201 => ((impl_ModelAdd.f k y201).bind fun bt204 => (if (bt204.1.length : Int) = (y201.length : Int) then (laws_FnModelAdd.l0 k l0 ji8 bt204.1 bt204.2 0) else (some false)))) else (none)))) else (none)))) else (none)) = some r := by first | (rw [hy184]; with_reducible exact H) | (have H2_ := (Option.bind_some _ _).symm.trans H; rw [hy184]; with_reducible exact H2_) | (have H2_ := (Option.bind_some _ _).symm.trans H; with_reducible exact H2_) | with_reducible exact H | (rw [hy184]; exact H) | exact H
      have Ny184 := Aside0.mk hy184
      clear hy184
      by_cases c11 : y181.length + y184.length < 2932031007402
      ·rw [if_pos c11] at H
       have LMc11 := Aside0.mk c11
       clear c11
       obtain ⟨y188, hy188⟩ : ∃ y_ : List (S28), y_ = (y181 ++ y184) := ⟨_, rfl⟩
       replace H : ((some (([(⟨(⟨#[112]⟩ : ByteArray), (⟨#[112, 57]⟩ : ByteArray), (⟨#[]⟩ : ByteArray)⟩ : S28)] : List (S28)) : List (S28))).bind fun y191 => (if y188.length + y191.length < 2932031007402 then ((some (y188 ++ y191 : List (S28))).bind fun y194 => ((some (l0.drop ((ji8) : Int).toNat : List (S28))).bind fun y197 => (if y194.length + y197.length < 2932031007402 then ((some (y194 ++ y197 : List (S28))).bind fun y201 => ((impl_ModelAdd.f k y201).bind fun bt204 => (if (bt204.1.length : Int) = (y201.length : Int) then (laws_FnModelAdd.l0 k l0 ji8 bt204.1 bt204.2 0) else (some false)))) else (none)))) else (none))) = some r := by first | (rw [hy188]; with_reducible exact H) | (have H2_ := (Option.bind_some _ _).symm.trans H; rw [hy188]; with_reducible exact H2_) | (have H2_ := (Option.bind_some _ _).symm.trans H; with_reducible exact H2_) | with_reducible exact H | (rw [hy188]; exact H) | exact H
       have Ny188 := Aside0.mk hy188
       clear hy188
       obtain ⟨y191, hy191⟩ : ∃ y_ : List (S28), y_ = (([(⟨(⟨#[112]⟩ : ByteArray), (⟨#[112, 57]⟩ : ByteArray), (⟨#[]⟩ : ByteArray)⟩ : S28)] : List (S28))) := ⟨_, rfl⟩
       replace H : (if y188.length + y191.length < 2932031007402 then ((some (y188 ++ y191 : List (S28))).bind fun y194 => ((some (l0.drop ((ji8) : Int).toNat : List (S28))).bind fun y197 => (if y194.length + y197.length < 2932031007402 then ((some (y194 ++ y197 : List (S28))).bind fun y201 => ((impl_ModelAdd.f k y201).bind fun bt204 => (if (bt204.1.length : Int) = (y201.length : Int) then (laws_FnModelAdd.l0 k l0 ji8 bt204.1 bt204.2 0) else (some false)))) else (none)))) else (none)) = some r := by first | (rw [hy191]; with_reducible exact H) | (have H2_ := (Option.bind_some _ _).symm.trans H; rw [hy191]; with_reducible exact H2_) | (have H2_ := (Option.bind_some _ _).symm.trans H; with_reducible exact H2_) | with_reducible exact H | (rw [hy191]; exact H) | exact H
       have Ny191 := Aside0.mk hy191
       clear hy191
       by_cases c12 : y188.length + y191.length < 2932031007402
       ·rw [if_pos c12] at H
        have LMc12 := Aside0.mk c12
        clear c12
        obtain ⟨y194, hy194⟩ : ∃ y_ : List (S28), y_ = (y188 ++ y191) := ⟨_, rfl⟩
        replace H : ((some (l0.drop ((ji8) : Int).toNat : List (S28))).bind fun y197 => (if y194.length + y197.length < 2932031007402 then ((some (y194 ++ y197 : List (S28))).bind fun y201 => ((impl_ModelAdd.f k y201).bind fun bt204 => (if (bt204.1.length : Int) = (y201.length : Int) then (laws_FnModelAdd.l0 k l0 ji8 bt204.1 bt204.2 0) else (some false)))) else (none))) = some r := by first | (rw [hy194]; with_reducible exact H) | (have H2_ := (Option.bind_some _ _).symm.trans H; rw [hy194]; with_reducible exact H2_) | (have H2_ := (Option.bind_some _ _).symm.trans H; with_reducible exact H2_) | with_reducible exact H | (rw [hy194]; exact H) | exact H
        have Ny194 := Aside0.mk hy194
        clear hy194
        have c13b0 := eq_true (odt : 0 ≤ (ji8))
        have c14b0 := eq_true (odt : (ji8) ≤ (l0.length : Int))
        obtain ⟨y197, hy197⟩ : ∃ y_ : List (S28), y_ = (l0.drop ((ji8) : Int).toNat) := ⟨_, rfl⟩
        replace H : (if y194.length + y197.length < 2932031007402 then ((some (y194 ++ y197 : List (S28))).bind fun y201 => ((impl_ModelAdd.f k y201).bind fun bt204 => (if (bt204.1.length : Int) = (y201.length : Int) then (laws_FnModelAdd.l0 k l0 ji8 bt204.1 bt204.2 0) else (some false)))) else (none)) = some r := by first | (rw [hy197]; with_reducible exact H) | (have H2_ := (Option.bind_some _ _).symm.trans H; rw [hy197]; with_reducible exact H2_) | (have H2_ := (Option.bind_some _ _).symm.trans H; with_reducible exact H2_) | with_reducible exact H | (rw [hy197]; exact H) | exact H
        have Ny197 := Aside0.mk hy197
        clear hy197
        by_cases c15 : y194.length + y197.length < 2932031007402
        ·rw [if_pos c15] at H
         have LMc15 := Aside0.mk c15
         clear c15
         obtain ⟨y201, hy201⟩ : ∃ y_ : List (S28), y_ = (y194 ++ y197) := ⟨_, rfl⟩
         replace H : ((impl_ModelAdd.f k y201).bind fun bt204 => (if (bt204.1.length : Int) = (y201.length : Int) then (laws_FnModelAdd.l0 k l0 ji8 bt204.1 bt204.2 0) else (some false))) = some r := by first | (rw [hy201]; with_reducible exact H) | (have H2_ := (Option.bind_some _ _).symm.trans H; rw [hy201]; with_reducible exact H2_) | (have H2_ := (Option.bind_some _ _).symm.trans H; with_reducible exact H2_) | with_reducible exact H | (rw [hy201]; exact H) | exact H
         have Ny201 := Aside0.mk hy201
         clear hy201
         replace H := Option.bind_eq_some_iff.mp H
         obtain ⟨⟨t204, t205⟩, A160, H⟩ := H
         replace H : (if (t204.length : Int) = (y201.length : Int) then (laws_FnModelAdd.l0 k l0 ji8 t204 t205 0) else (some false)) = some r := H
         have A16 := Aside0.mk A160
         clear A160
         by_cases c17 : (t204.length : Int) = (y201.length : Int)
         ·rw [if_pos c17] at H
          have c17b0 : ((t204.length : Int) == (y201.length : Int)) = true := beq_iff_eq.mpr c17
          have c17b1 : ((t204.length : Int) != (y201.length : Int)) = false := bne_eq_false_iff_eq.mpr c17
          have c17b2 : (t204.length == y201.length) = true := by first | simpa using c17 | (simp at c17 ⊢; omega)
          clear c17
          have H' := Aside0.mk H
          clear H
          go_enter Tryz.func5, Tryz.ntmps5
          try go_wp2_with (first | ((with_reducible refine gate_callee (f := 8) rfl ?_); refine goesL_ (some 11) rfl rfl Tryz.func8 (by kernel_rfl) rfl #[.slice A0 l0.length c0] rfl (by (try simp only [List.map_toArray, List.map_cons, List.map_nil]); first | done | rfl | (simp only [List.length_drop, List.length_take]; rfl)) ?_; (with_reducible refine (laws_zzFits19.calls k _ _ l0 true _ ?side1 ?side2 A3.out).mono ?_); (case side1 => repeat (first | exact HR0.out | (with_reducible refine Kd.C_alloc ?_ _) | (with_reducible refine Kd.C_drewN ?_ _) | (with_reducible refine Kd.C_drew ?_))); (case side2 => exact HC0.out); rintro e w18 ⟨rfl, hb⟩; refine ⟨_, rfl, ?_⟩; have n0_ := Aside0.mk (below_step (by repeat (first | (with_reducible first | exact HB.out | apply below_alloc | apply pw_below_drewN | apply below_drew1) | exact HB.out)) hb); clear HB; have HB := n0_; clear n0_; (try clear hb); (try clear hb2); (try clear hk); (try clear hi)) | ((with_reducible refine gate_callee (f := 9) rfl ?_); refine goesL_ (some 14) rfl rfl Tryz.func9 (by kernel_rfl) rfl #[.slice A0 l0.length c0] rfl (by (try simp only [List.map_toArray, List.map_cons, List.map_nil]); first | done | rfl | (simp only [List.length_drop, List.length_take]; rfl)) ?_; (with_reducible refine (laws_modelled.calls k _ _ l0 true _ ?side1 ?side2 A5.out).mono ?_); (case side1 => repeat (first | exact (Kd.C_below HR0.out HB.out) | (with_reducible refine Kd.C_alloc ?_ _) | (with_reducible refine Kd.C_drewN ?_ _) | (with_reducible refine Kd.C_drew ?_))); (case side2 => exact HC0.out); rintro e w19 ⟨rfl, hb⟩; refine ⟨_, rfl, ?_⟩; have n0_ := Aside0.mk (below_step (by repeat (first | (with_reducible first | exact HB.out | apply below_alloc | apply pw_below_drewN | apply below_drew1) | exact HB.out)) hb); clear HB; have HB := n0_; clear n0_; (try clear hb); (try clear hb2); (try clear hk); (try clear hi)))
          have n0_ := Aside0.mk (below_drew1 HB.out)
          clear HB
          have HB := n0_
          clear n0_
          have q21 : ((ji8) : Int) ≤ ((l0.length : Int) : Int) := odt
          obtain ⟨i021, hi021, _, hsz21, _⟩ := info_parts info28
          have hroom21 : l0.length ≤ c0 := HC0.out
          have hC21 : Kd.C k28 _ A0 l0.length l0 := HR0.out
          have hcut21 := cut_to (P := Tryz.prog) 22 28 .i64 Tryz.underlying22 hi021 A0 l0.length c0 (ji8) (odt) q21 hroom21
          have hr21 := Kd.C_take (m := ((ji8) : Int).toNat) hC21 (by omega)
          have hy21 : y184.length = ((ji8) : Int).toNat := (by rw [Ny184.out, List.length_take]; omega)
          rw [← Ny184.out] at hr21
          rw [← hy21] at hcut21
          have HR187 := Aside0.mk hr21
          have HC187 := Aside0.mk (show y184.length ≤ c0 from by omega)
          clear hr21 hC21 hroom21 hi021 hsz21
          have KY21 := Aside0.mk hy21
          clear hy21
          replace q21 := eq_true q21
          have q22 : ((ji8) : Int) ≤ ((l0.length : Int) : Int) := odt
          obtain ⟨i022, hi022, _, hsz22, _⟩ := info_parts info28
          have hroom22 : l0.length ≤ c0 := HC0.out
          have hC22 : Kd.C k28 _ A0 l0.length l0 := HR0.out
          have q022 : (0 : Int) ≤ ((ji8) : Int) := odt
          have hcut22 := cut_from (P := Tryz.prog) 22 28 .i64 Tryz.underlying22 hi022 3 hsz22 A0 l0.length c0 (ji8) q022 q22
          have hr22 := Kd.C_drop (m := ((ji8) : Int).toNat) (c := c0) hC22 (by omega) hroom22
          obtain ⟨A22, hA22⟩ : ∃ A1, A1 = (if c0 = ((ji8) : Int).toNat then A0 else (A0 : Option Addr).map (·.add (((ji8) : Int).toNat * 3))) := ⟨_, rfl⟩
          obtain ⟨c22, hc22⟩ : ∃ c1, c1 = c0 - ((ji8) : Int).toNat := ⟨_, rfl⟩
          have hy22 : y197.length = l0.length - ((ji8) : Int).toNat := (by rw [Ny197.out, List.length_drop] <;> omega)
          rw [show (l0).drop ((ji8) : Int).toNat = y197 from Ny197.out.symm] at hr22
          replace hr22 : Kd.C k28 _ A22 y197.length y197 := (by rw [hA22]; exact hr22)
          rw [← hy22, ← hA22, ← hc22] at hcut22
          have HR200 := Aside0.mk hr22
          have HC200 := Aside0.mk (show y197.length ≤ c22 from by rw [hy22, hc22]; exact Nat.sub_le_sub_right hroom22 _)
          clear hr22 hC22 hroom22 hi022 hsz22 hc22
          have KY22 := Aside0.mk hy22
          have KA22 := Aside0.mk hA22
          clear hy22 hA22
          replace q22 := eq_true q22
          refine start_ (n := 13) (S := fun w' => True) (ds := []) #[false, false, false, false, false, false, false, false, false, false, false, false, false] (by kernel_rfl) rfl rfl trivial (fun hHeld => ?_); refine with_tabW laws_FnModelAdd.tab6 laws_FnModelAdd.bits6 (fun HT_ HW_ => ?_)
          generalize w19.drew = w20 at HB HR187 HR200 hHeld ⊢
          refine pure_ (i := 1) (N := some 26) (v := ?_) (a' := ?_) #[false, true, false, false, false, false, false, false, false, false, false, false, false] rfl rfl (any_of HT_.out (by kernel_rfl)) (fun _ _ _ h => h) (Or.inl ⟨by rfl, ?_⟩) ?_ ?_
          rotate_left
          ·intro w'
           go_simp
           with_reducible rfl
          rotate_left
          ·simp only [Act.put, List.setIfInBounds_toArray, List.set_cons_zero, List.set_cons_succ, i64_w, i32_w]
           rfl
          refine pure_ (i := 2) (N := some 27) (v := ?_) (a' := ?_) #[false, true, true, false, false, false, false, false, false, false, false, false, false] rfl rfl (any_of HT_.out (by kernel_rfl)) (fun _ _ _ h => h) (Or.inl ⟨by rfl, ?_⟩) ?_ ?_
          rotate_left
          ·intro w'
           go_simp
           with_reducible rfl
          rotate_left
          ·simp only [Act.put, List.setIfInBounds_toArray, List.set_cons_zero, List.set_cons_succ, i64_w, i32_w]
           rfl
          refine pure_ (i := 3) (N := some 28) (v := ?_) (a' := ?_) #[false, true, true, true, false, false, false, false, false, false, false, false, false] rfl rfl (any_of HT_.out (by kernel_rfl)) (fun _ _ _ h => h) (Or.inl ⟨by rfl, ?_⟩) ?_ ?_
          rotate_left
          ·intro w'
           go_simp
           with_reducible rfl
          rotate_left
          ·simp only [Act.put, List.setIfInBounds_toArray, List.set_cons_zero, List.set_cons_succ, i64_w, i32_w]
           rfl
          refine pure_ (i := 5) (N := some 30) (v := ?_) (a' := ?_) #[false, true, true, true, false, true, false, false, false, false, false, false, false] rfl rfl (any_of HT_.out (by kernel_rfl)) (fun _ _ _ h => h) (Or.inl ⟨by rfl, ?_⟩) ?_ ?_
          rotate_left
          ·intro w'
           go_simp
           with_reducible rfl
          rotate_left
          ·simp only [Act.put, List.setIfInBounds_toArray, List.set_cons_zero, List.set_cons_succ, i64_w, i32_w]
           rfl
          refine pure_ (i := 8) (N := some 33) (v := ?_) (a' := ?_) #[false, true, true, true, false, true, false, false, true, false, false, false, false] rfl rfl (any_of HT_.out (by kernel_rfl)) (fun _ _ _ h => h) (Or.inl ⟨by rfl, ?_⟩) ?_ ?_
          rotate_left
          ·intro w'
           go_simp
           with_reducible rfl
          rotate_left
          ·simp only [Act.put, List.setIfInBounds_toArray, List.set_cons_zero, List.set_cons_succ, i64_w, i32_w]
           rfl
          refine pure_ (i := 9) (N := some 34) (v := ?_) (a' := ?_) #[false, true, true, true, false, true, false, false, true, true, false, false, false] rfl rfl (any_of HT_.out (by kernel_rfl)) (fun _ _ _ h => h) (Or.inl ⟨by rfl, ?_⟩) ?_ ?_
          rotate_left
          ·intro w'
           go_simp
           with_reducible rfl
          rotate_left
          ·simp only [Act.put, List.setIfInBounds_toArray, List.set_cons_zero, List.set_cons_succ, i64_w, i32_w]
           rfl
          refine pure_ (i := 10) (N := some 35) (v := ?_) (a' := ?_) #[false, true, true, true, false, true, false, false, true, true, true, false, false] rfl rfl (any_of HT_.out (by kernel_rfl)) (fun _ _ _ h => h) (Or.inl ⟨by rfl, ?_⟩) ?_ ?_
          rotate_left
          ·intro w'
           go_simp
           with_reducible rfl
          rotate_left
          ·simp only [Act.put, List.setIfInBounds_toArray, List.set_cons_zero, List.set_cons_succ, i64_w, i32_w]
           rfl
          refine join_ (σ := Value × Value × Value) 3 #[true, true, true, true, true, true, true, false, true, true, true, false, false] (fun s_ => [(25, s_.1), (29, s_.2.1), (31, s_.2.2)]) (fun s_ w' => (Kd.R k28 28 w' w.heap.size (fun k_ => some k_ ≠ (s_.2.2 : Value).ownBlock) s_.2.1 y188) ∧ (Kd.R k28 28 w' w.heap.size (fun k_ => some k_ ≠ (s_.2.1 : Value).ownBlock) s_.2.2 y191) ∧ (Below w.heap.size w w')) ?_ ?_
          rotate_left
          ·intro hCont
           refine two_ (i := 0) (j := 6) (Ni := some 25) (Nj := some 31) #[true, true, true, true, false, true, false, false, true, true, true, false, false] #[false, true, true, true, false, true, true, false, true, true, true, false, false] rfl rfl rfl rfl (two_of HT_.out (by kernel_rfl)) (by decide) (by decide) (fun K hK => ?_) (fun K hK => ?_)
           ·skip
            refine Kd.R_lit_step k28 _ 28 ?hg (N := 25) ?hd (xs := ([] : List (S28))) (inner := []) (ok := fun _ => True) (okp := fun _ => True) ?hr ?hp (fun _ hk => hk) trivial (Below.refl _ _) (Nat.le_refl _) (by simp) ?_; (case hd => rfl); (case hg => rfl); (case hr => first | (go_simp; done) | (go_simp; rfl)); (case hp => exact (Reps.none _ _))
            intro v182 w23 ho24 hb hg_ hnew_
            clear hg_ hnew_
            (first | rw [← Ny181.out] at ho24 | (simp only [Int.reduceToNat] at ho24; rw [← Ny181.out] at ho24))
            have n0_ := Aside0.mk (Kd.R_lower ho24 (below_size (by repeat (first | (with_reducible first | exact HB.out | apply below_alloc | apply pw_below_drewN | apply below_drew1) | exact HB.out))))
            have n1_ := Aside0.mk (below_step (by repeat (first | (with_reducible first | exact HB.out | apply below_alloc | apply pw_below_drewN | apply below_drew1) | exact HB.out)) hb)
            clear HB
            have HO183 := n0_
            have HB := n1_
            clear n0_ n1_
            clear hb ho24
            refine hK.out _ _ trivial (fun hHeld => ?_)
            clear hK K
            refine norm_ (a' := ?_) ?_ ?_
            rotate_left
            ·show Act.put _ (some 25) _ = _
             simp only [Act.put, List.setIfInBounds_toArray, List.set_cons_zero, List.set_cons_succ, i64_w, i32_w]
             rfl
            refine two_ (i := 4) (j := 6) (Ni := some 29) (Nj := some 31) #[true, true, true, true, true, true, false, false, true, true, true, false, false] #[true, true, true, true, false, true, true, false, true, true, true, false, false] rfl rfl rfl rfl (two_of HT_.out (by kernel_rfl)) (by decide) (by decide) (fun K hK => ?_) (fun K hK => ?_)
            ·skip
             refine Kd.R_append_rows_step k28 (w0 := w) w.heap.size (by rfl) (.tmp 25) (.tmp 28) 22 28 (.agg #[(.string ⟨#[]⟩), (.string ⟨#[]⟩), (.string ⟨#[]⟩)]) 48 rfl Tryz.underlying22 info28 rfl (by decide) (by omega) v182 y181 y184 _ _ _ (fun _ => True) (fun _ => False) rfl rfl ?aO ?aR (fun _ _ h => h) (fun _ h => h.elim) ?aF ?aB ?aS ?aL ?_
             (case aR => repeat (first | exact (Kd.C_below HR187.out HB.out) | (with_reducible refine Kd.C_alloc ?_ _) | (with_reducible refine Kd.C_drewN ?_ _) | (with_reducible refine Kd.C_drew ?_)))
             (case aB => exact (by repeat (first | (with_reducible first | exact HB.out | apply below_alloc | apply pw_below_drewN | apply below_drew1) | exact HB.out)))
             (case aF => exact (fun _ _ => trivial))
             (case aO => exact (by (with_reducible repeat (first | apply Kd.R_alloc | apply Kd.R_drewN | apply Kd.R_drew)); exact HO183.out))
             (case aS => exact (below_size (by repeat (first | (with_reducible first | exact HB.out | apply below_alloc | apply pw_below_drewN | apply below_drew1) | exact HB.out))))
             (case aL => have := LMc11.out; omega)
             intro v189 w25 ho hb hg hat
             rw [← Ny188.out] at ho
             have n0_ := Aside0.mk (hb)
             have n1_ := Aside0.mk (ho)
             clear HB
             clear HO183
             have HB := n0_
             have HO190 := n1_
             clear n0_ n1_
             clear ho hb hg hat
             refine hK.out _ _ trivial (fun hHeld => ?_)
             clear hK K
             refine norm_ (a' := ?_) ?_ ?_
             rotate_left
             ·show Act.put _ (some 29) _ = _
              simp only [Act.put, List.setIfInBounds_toArray, List.set_cons_zero, List.set_cons_succ, i64_w, i32_w]
              rfl
             refine one_ (i := 6) (N := some 31) #[true, true, true, true, true, true, true, false, true, true, true, false, false] rfl rfl (one_of HT_.out (by kernel_rfl)) (by decide) (fun K hK => ?_)
             refine Kd.R_lit_step k28 _ 28 ?hg (N := 31) ?hd (xs := ([(⟨(⟨#[112]⟩ : ByteArray), (⟨#[112, 57]⟩ : ByteArray), (⟨#[]⟩ : ByteArray)⟩ : S28)] : List (S28))) (inner := [.string (⟨#[112]⟩ : ByteArray), .string (⟨#[112, 57]⟩ : ByteArray), .string (⟨#[]⟩ : ByteArray)]) (ok := fun _ => True) (okp := fun _ => True) ?hr ?hp (fun _ hk => hk) trivial (Below.refl _ _) (Nat.le_refl _) (by simp) ?_; (case hd => rfl); (case hg => rfl); (case hr => first | (go_simp; done) | (go_simp; rfl)); (case hp => exact (Reps.c3 (show Kd.M k28 _ _ _ (⟨(⟨#[112]⟩ : ByteArray), (⟨#[112, 57]⟩ : ByteArray), (⟨#[]⟩ : ByteArray)⟩ : S28) [.string (⟨#[112]⟩ : ByteArray), .string (⟨#[112, 57]⟩ : ByteArray), .string (⟨#[]⟩ : ByteArray)] from (k28_mkM _ _ _ (⟨(⟨#[112]⟩ : ByteArray), (⟨#[112, 57]⟩ : ByteArray), (⟨#[]⟩ : ByteArray)⟩ : S28) )) (Reps.none _ _)))
             intro v192 w26 ho27 hb hg_ hnew_
             clear hg_ hnew_
             (first | rw [← Ny191.out] at ho27 | (simp only [Int.reduceToNat] at ho27; rw [← Ny191.out] at ho27))
             have n0_ := Aside0.mk (Kd.R_elder' (by (with_reducible repeat (first | apply Kd.R_alloc | apply Kd.R_drewN | apply Kd.R_drew)); exact HO190.out) (Kd.R_base ho27) hb)
             have n1_ := Aside0.mk (Kd.R_lower (Kd.R_new' ho27 (Kd.R_lt (by (with_reducible repeat (first | apply Kd.R_alloc | apply Kd.R_drewN | apply Kd.R_drew)); exact HO190.out))) (below_size (by repeat (first | (with_reducible first | exact HB.out | apply below_alloc | apply pw_below_drewN | apply below_drew1) | exact HB.out))))
             have n2_ := Aside0.mk (below_step (by repeat (first | (with_reducible first | exact HB.out | apply below_alloc | apply pw_below_drewN | apply below_drew1) | exact HB.out)) hb)
             clear HO190
             clear HB
             have HO190 := n0_
             have HO193 := n1_
             have HB := n2_
             clear n0_ n1_ n2_
             clear hb ho27
             refine hK.out _ _ trivial (fun hHeld => ?_)
             clear hK K
             refine norm_ (a' := ?_) ?_ ?_
             rotate_left
             ·show Act.put _ (some 31) _ = _
              simp only [Act.put, List.setIfInBounds_toArray, List.set_cons_zero, List.set_cons_succ, i64_w, i32_w]
              rfl
             exact norm_ (by simp only [Go.Proofs.YtjglpjlbnmpdfaaGreatDoorW.PrintLast.putAll, Act.put, List.setIfInBounds_toArray, List.set_cons_zero, List.set_cons_succ]) (hCont (v182, v189, v192) _ ⟨(by (with_reducible repeat (first | apply Kd.R_alloc | apply Kd.R_drewN | apply Kd.R_drew)); exact Kd.R_mono HO190.out (fun _ hk => hk.2)), (by (with_reducible repeat (first | apply Kd.R_alloc | apply Kd.R_drewN | apply Kd.R_drew)); exact Kd.R_mono HO193.out (fun _ hk => hk.2)), (by repeat (first | (with_reducible first | exact HB.out | apply below_alloc | apply pw_below_drewN | apply below_drew1) | exact HB.out))⟩)
            ·skip
             refine Kd.R_lit_step k28 _ 28 ?hg (N := 31) ?hd (xs := ([(⟨(⟨#[112]⟩ : ByteArray), (⟨#[112, 57]⟩ : ByteArray), (⟨#[]⟩ : ByteArray)⟩ : S28)] : List (S28))) (inner := [.string (⟨#[112]⟩ : ByteArray), .string (⟨#[112, 57]⟩ : ByteArray), .string (⟨#[]⟩ : ByteArray)]) (ok := fun _ => True) (okp := fun _ => True) ?hr ?hp (fun _ hk => hk) trivial (Below.refl _ _) (Nat.le_refl _) (by simp) ?_; (case hd => rfl); (case hg => rfl); (case hr => first | (go_simp; done) | (go_simp; rfl)); (case hp => exact (Reps.c3 (show Kd.M k28 _ _ _ (⟨(⟨#[112]⟩ : ByteArray), (⟨#[112, 57]⟩ : ByteArray), (⟨#[]⟩ : ByteArray)⟩ : S28) [.string (⟨#[112]⟩ : ByteArray), .string (⟨#[112, 57]⟩ : ByteArray), .string (⟨#[]⟩ : ByteArray)] from (k28_mkM _ _ _ (⟨(⟨#[112]⟩ : ByteArray), (⟨#[112, 57]⟩ : ByteArray), (⟨#[]⟩ : ByteArray)⟩ : S28) )) (Reps.none _ _)))
             intro v192 w25 ho26 hb hg_ hnew_
             clear hg_ hnew_
             (first | rw [← Ny191.out] at ho26 | (simp only [Int.reduceToNat] at ho26; rw [← Ny191.out] at ho26))
             have n0_ := Aside0.mk (Kd.R_elder' (by (with_reducible repeat (first | apply Kd.R_alloc | apply Kd.R_drewN | apply Kd.R_drew)); exact HO183.out) (Kd.R_base ho26) hb)
             have n1_ := Aside0.mk (Kd.R_lower (Kd.R_new' ho26 (Kd.R_lt (by (with_reducible repeat (first | apply Kd.R_alloc | apply Kd.R_drewN | apply Kd.R_drew)); exact HO183.out))) (below_size (by repeat (first | (with_reducible first | exact HB.out | apply below_alloc | apply pw_below_drewN | apply below_drew1) | exact HB.out))))
             have n2_ := Aside0.mk (below_step (by repeat (first | (with_reducible first | exact HB.out | apply below_alloc | apply pw_below_drewN | apply below_drew1) | exact HB.out)) hb)
             clear HO183
             clear HB
             have HO183 := n0_
             have HO193 := n1_
             have HB := n2_
             clear n0_ n1_ n2_
             clear hb ho26
             refine hK.out _ _ trivial (fun hHeld => ?_)
             clear hK K
             refine norm_ (a' := ?_) ?_ ?_
             rotate_left
             ·show Act.put _ (some 31) _ = _
              simp only [Act.put, List.setIfInBounds_toArray, List.set_cons_zero, List.set_cons_succ, i64_w, i32_w]
              rfl
             refine one_ (i := 4) (N := some 29) #[true, true, true, true, true, true, true, false, true, true, true, false, false] rfl rfl (one_of HT_.out (by kernel_rfl)) (by decide) (fun K hK => ?_)
             refine Kd.R_append_rows_step k28 (w0 := w) w.heap.size (by rfl) (.tmp 25) (.tmp 28) 22 28 (.agg #[(.string ⟨#[]⟩), (.string ⟨#[]⟩), (.string ⟨#[]⟩)]) 48 rfl Tryz.underlying22 info28 rfl (by decide) (by omega) v182 y181 y184 _ _ _ (fun k_ => some k_ ≠ (v192 : Value).ownBlock) (fun _ => False) rfl rfl ?aO ?aR (fun _ _ h => h) (fun _ h => h.elim) ?aF ?aB ?aS ?aL ?_
             (case aR => repeat (first | exact (Kd.C_below HR187.out HB.out) | (with_reducible refine Kd.C_alloc ?_ _) | (with_reducible refine Kd.C_drewN ?_ _) | (with_reducible refine Kd.C_drew ?_)))
             (case aB => exact (by repeat (first | (with_reducible first | exact HB.out | apply below_alloc | apply pw_below_drewN | apply below_drew1) | exact HB.out)))
             (case aF => exact (fun k_ hk => Kd.fresh' (Kd.R_lt (by (with_reducible repeat (first | apply Kd.R_alloc | apply Kd.R_drewN | apply Kd.R_drew)); exact HO193.out)) k_ hk))
             (case aO => exact (by (with_reducible repeat (first | apply Kd.R_alloc | apply Kd.R_drewN | apply Kd.R_drew)); exact Kd.R_mono HO183.out (fun _ hk => hk.2)))
             (case aS => exact (below_size (by repeat (first | (with_reducible first | exact HB.out | apply below_alloc | apply pw_below_drewN | apply below_drew1) | exact HB.out))))
             (case aL => have := LMc11.out; omega)
             intro v189 w27 ho hb hg hat
             rw [← Ny188.out] at ho
             have n0_ := Aside0.mk (Kd.R_after (ok := (fun _ => True)) (by (with_reducible repeat (first | apply Kd.R_alloc | apply Kd.R_drewN | apply Kd.R_drew)); exact HO193.out) hg hat)
             have n1_ := Aside0.mk (hb)
             have n2_ := Aside0.mk (ho)
             clear HO193
             clear HB
             clear HO183
             have HO193 := n0_
             have HB := n1_
             have HO190 := n2_
             clear n0_ n1_ n2_
             clear ho hb hg hat
             refine hK.out _ _ trivial (fun hHeld => ?_)
             clear hK K
             refine norm_ (a' := ?_) ?_ ?_
             rotate_left
             ·show Act.put _ (some 29) _ = _
              simp only [Act.put, List.setIfInBounds_toArray, List.set_cons_zero, List.set_cons_succ, i64_w, i32_w]
              rfl
             exact norm_ (by simp only [Go.Proofs.YtjglpjlbnmpdfaaGreatDoorW.PrintLast.putAll, Act.put, List.setIfInBounds_toArray, List.set_cons_zero, List.set_cons_succ]) (hCont (v182, v189, v192) _ ⟨(by (with_reducible repeat (first | apply Kd.R_alloc | apply Kd.R_drewN | apply Kd.R_drew)); exact HO190.out), (by (with_reducible repeat (first | apply Kd.R_alloc | apply Kd.R_drewN | apply Kd.R_drew)); exact Kd.R_mono HO193.out (fun _ hk => hk.2)), (by repeat (first | (with_reducible first | exact HB.out | apply below_alloc | apply pw_below_drewN | apply below_drew1) | exact HB.out))⟩)
           ·skip
            refine Kd.R_lit_step k28 _ 28 ?hg (N := 31) ?hd (xs := ([(⟨(⟨#[112]⟩ : ByteArray), (⟨#[112, 57]⟩ : ByteArray), (⟨#[]⟩ : ByteArray)⟩ : S28)] : List (S28))) (inner := [.string (⟨#[112]⟩ : ByteArray), .string (⟨#[112, 57]⟩ : ByteArray), .string (⟨#[]⟩ : ByteArray)]) (ok := fun _ => True) (okp := fun _ => True) ?hr ?hp (fun _ hk => hk) trivial (Below.refl _ _) (Nat.le_refl _) (by simp) ?_; (case hd => rfl); (case hg => rfl); (case hr => first | (go_simp; done) | (go_simp; rfl)); (case hp => exact (Reps.c3 (show Kd.M k28 _ _ _ (⟨(⟨#[112]⟩ : ByteArray), (⟨#[112, 57]⟩ : ByteArray), (⟨#[]⟩ : ByteArray)⟩ : S28) [.string (⟨#[112]⟩ : ByteArray), .string (⟨#[112, 57]⟩ : ByteArray), .string (⟨#[]⟩ : ByteArray)] from (k28_mkM _ _ _ (⟨(⟨#[112]⟩ : ByteArray), (⟨#[112, 57]⟩ : ByteArray), (⟨#[]⟩ : ByteArray)⟩ : S28) )) (Reps.none _ _)))
            intro v192 w23 ho24 hb hg_ hnew_
            clear hg_ hnew_
            (first | rw [← Ny191.out] at ho24 | (simp only [Int.reduceToNat] at ho24; rw [← Ny191.out] at ho24))
            have n0_ := Aside0.mk (Kd.R_lower ho24 (below_size (by repeat (first | (with_reducible first | exact HB.out | apply below_alloc | apply pw_below_drewN | apply below_drew1) | exact HB.out))))
            have n1_ := Aside0.mk (below_step (by repeat (first | (with_reducible first | exact HB.out | apply below_alloc | apply pw_below_drewN | apply below_drew1) | exact HB.out)) hb)
            clear HB
            have HO193 := n0_
            have HB := n1_
            clear n0_ n1_
            clear hb ho24
            refine hK.out _ _ trivial (fun hHeld => ?_)
            clear hK K
            refine norm_ (a' := ?_) ?_ ?_
            rotate_left
            ·show Act.put _ (some 31) _ = _
             simp only [Act.put, List.setIfInBounds_toArray, List.set_cons_zero, List.set_cons_succ, i64_w, i32_w]
             rfl
            refine one_ (i := 0) (N := some 25) #[true, true, true, true, false, true, true, false, true, true, true, false, false] rfl rfl (one_of HT_.out (by kernel_rfl)) (by decide) (fun K hK => ?_)
            refine Kd.R_lit_step k28 _ 28 ?hg (N := 25) ?hd (xs := ([] : List (S28))) (inner := []) (ok := fun _ => True) (okp := fun _ => True) ?hr ?hp (fun _ hk => hk) trivial (Below.refl _ _) (Nat.le_refl _) (by simp) ?_; (case hd => rfl); (case hg => rfl); (case hr => first | (go_simp; done) | (go_simp; rfl)); (case hp => exact (Reps.none _ _))
            intro v182 w25 ho26 hb hg_ hnew_
            clear hg_ hnew_
            (first | rw [← Ny181.out] at ho26 | (simp only [Int.reduceToNat] at ho26; rw [← Ny181.out] at ho26))
            have n0_ := Aside0.mk (Kd.R_elder' (by (with_reducible repeat (first | apply Kd.R_alloc | apply Kd.R_drewN | apply Kd.R_drew)); exact HO193.out) (Kd.R_base ho26) hb)
            have n1_ := Aside0.mk (Kd.R_lower (Kd.R_new' ho26 (Kd.R_lt (by (with_reducible repeat (first | apply Kd.R_alloc | apply Kd.R_drewN | apply Kd.R_drew)); exact HO193.out))) (below_size (by repeat (first | (with_reducible first | exact HB.out | apply below_alloc | apply pw_below_drewN | apply below_drew1) | exact HB.out))))
            have n2_ := Aside0.mk (below_step (by repeat (first | (with_reducible first | exact HB.out | apply below_alloc | apply pw_below_drewN | apply below_drew1) | exact HB.out)) hb)
            clear HO193
            clear HB
            have HO193 := n0_
            have HO183 := n1_
            have HB := n2_
            clear n0_ n1_ n2_
            clear hb ho26
            refine hK.out _ _ trivial (fun hHeld => ?_)
            clear hK K
            refine norm_ (a' := ?_) ?_ ?_
            rotate_left
            ·show Act.put _ (some 25) _ = _
             simp only [Act.put, List.setIfInBounds_toArray, List.set_cons_zero, List.set_cons_succ, i64_w, i32_w]
             rfl
            refine one_ (i := 4) (N := some 29) #[true, true, true, true, true, true, true, false, true, true, true, false, false] rfl rfl (one_of HT_.out (by kernel_rfl)) (by decide) (fun K hK => ?_)
            refine Kd.R_append_rows_step k28 (w0 := w) w.heap.size (by rfl) (.tmp 25) (.tmp 28) 22 28 (.agg #[(.string ⟨#[]⟩), (.string ⟨#[]⟩), (.string ⟨#[]⟩)]) 48 rfl Tryz.underlying22 info28 rfl (by decide) (by omega) v182 y181 y184 _ _ _ (fun k_ => some k_ ≠ (v192 : Value).ownBlock) (fun _ => False) rfl rfl ?aO ?aR (fun _ _ h => h) (fun _ h => h.elim) ?aF ?aB ?aS ?aL ?_
            (case aR => repeat (first | exact (Kd.C_below HR187.out HB.out) | (with_reducible refine Kd.C_alloc ?_ _) | (with_reducible refine Kd.C_drewN ?_ _) | (with_reducible refine Kd.C_drew ?_)))
            (case aB => exact (by repeat (first | (with_reducible first | exact HB.out | apply below_alloc | apply pw_below_drewN | apply below_drew1) | exact HB.out)))
            (case aF => exact (fun k_ hk => Kd.fresh' (Kd.R_lt (by (with_reducible repeat (first | apply Kd.R_alloc | apply Kd.R_drewN | apply Kd.R_drew)); exact HO193.out)) k_ hk))
            (case aO => exact (by (with_reducible repeat (first | apply Kd.R_alloc | apply Kd.R_drewN | apply Kd.R_drew)); exact Kd.R_mono HO183.out (fun _ hk => hk.2)))
            (case aS => exact (below_size (by repeat (first | (with_reducible first | exact HB.out | apply below_alloc | apply pw_below_drewN | apply below_drew1) | exact HB.out))))
            (case aL => have := LMc11.out; omega)
            intro v189 w27 ho hb hg hat
            rw [← Ny188.out] at ho
            have n0_ := Aside0.mk (Kd.R_after (ok := (fun _ => True)) (by (with_reducible repeat (first | apply Kd.R_alloc | apply Kd.R_drewN | apply Kd.R_drew)); exact HO193.out) hg hat)
            have n1_ := Aside0.mk (hb)
            have n2_ := Aside0.mk (ho)
            clear HO193
            clear HB
            clear HO183
            have HO193 := n0_
            have HB := n1_
            have HO190 := n2_
            clear n0_ n1_ n2_
            clear ho hb hg hat
            refine hK.out _ _ trivial (fun hHeld => ?_)
            clear hK K
            refine norm_ (a' := ?_) ?_ ?_
            rotate_left
            ·show Act.put _ (some 29) _ = _
             simp only [Act.put, List.setIfInBounds_toArray, List.set_cons_zero, List.set_cons_succ, i64_w, i32_w]
             rfl
            exact norm_ (by simp only [Go.Proofs.YtjglpjlbnmpdfaaGreatDoorW.PrintLast.putAll, Act.put, List.setIfInBounds_toArray, List.set_cons_zero, List.set_cons_succ]) (hCont (v182, v189, v192) _ ⟨(by (with_reducible repeat (first | apply Kd.R_alloc | apply Kd.R_drewN | apply Kd.R_drew)); exact HO190.out), (by (with_reducible repeat (first | apply Kd.R_alloc | apply Kd.R_drewN | apply Kd.R_drew)); exact Kd.R_mono HO193.out (fun _ hk => hk.2)), (by repeat (first | (with_reducible first | exact HB.out | apply below_alloc | apply pw_below_drewN | apply below_drew1) | exact HB.out))⟩)
          rintro ⟨v182, v189, v192⟩ w28 ⟨h0_, h1_, h2_⟩
          have n0_ : Aside0 (Kd.R k28 28 w28 w.heap.size (fun k_ => some k_ ≠ (v192 : Value).ownBlock) v189 y188) := ⟨h0_⟩
          have n1_ : Aside0 (Kd.R k28 28 w28 w.heap.size (fun k_ => some k_ ≠ (v189 : Value).ownBlock) v192 y191) := ⟨h1_⟩
          have n2_ : Aside0 (Below w.heap.size w w28) := ⟨h2_⟩
          clear HB
          clear h0_ h1_ h2_
          have HO190 := n0_
          have HO193 := n1_
          have HB := n2_
          clear n0_ n1_ n2_
          have hHeld := trivial
          obtain ⟨Ao30, co30, eo30⟩ := Kd.R_slice HO193.out
          (first | subst eo30 | (injection eo30 with f1_ f2_ f3_; have f4_ := f1_.symm; have f5_ := f3_.symm; clear f1_ f2_ f3_; subst f4_; subst f5_))
          refine norm_ (a' := ?_) ?_ ?_
          rotate_left
          ·simp only [Go.Proofs.YtjglpjlbnmpdfaaGreatDoorW.PrintLast.putAll, Act.put, List.setIfInBounds_toArray, List.set_cons_zero, List.set_cons_succ]
           rfl
          refine one_ (i := 7) (N := some 32) #[true, true, true, true, true, true, true, true, true, true, true, false, false] rfl rfl (one_of HT_.out (by kernel_rfl)) (by decide) (fun K hK => ?_)
          refine Kd.R_append_rows_step k28 (w0 := w) w.heap.size (by rfl) (.tmp 29) (.tmp 31) 22 28 (.agg #[(.string ⟨#[]⟩), (.string ⟨#[]⟩), (.string ⟨#[]⟩)]) 48 rfl Tryz.underlying22 info28 rfl (by decide) (by omega) v189 y188 y191 _ _ _ (fun k_ => some k_ ≠ (.slice Ao30 y191.length co30 : Value).ownBlock) (fun _ => False) rfl rfl ?aO ?aR (fun _ _ h => h) (fun _ h => h.elim) ?aF ?aB ?aS ?aL ?_
          (case aR => repeat (first | exact (Kd.R_reads' HO193.out).2.2 | (with_reducible refine Kd.C_alloc ?_ _) | (with_reducible refine Kd.C_drewN ?_ _) | (with_reducible refine Kd.C_drew ?_)))
          (case aB => exact (by repeat (first | (with_reducible first | exact HB.out | apply below_alloc | apply pw_below_drewN | apply below_drew1) | exact HB.out)))
          (case aF => exact (fun k_ hk => Kd.fresh' (Kd.R_lt (by (with_reducible repeat (first | apply Kd.R_alloc | apply Kd.R_drewN | apply Kd.R_drew)); exact HO193.out)) k_ hk))
          (case aO => exact (by (with_reducible repeat (first | apply Kd.R_alloc | apply Kd.R_drewN | apply Kd.R_drew)); exact HO190.out))
          (case aS => exact (below_size (by repeat (first | (with_reducible first | exact HB.out | apply below_alloc | apply pw_below_drewN | apply below_drew1) | exact HB.out))))
          (case aL => have := LMc12.out; omega)
          intro v195 w29 ho hb hg hat
          rw [← Ny194.out] at ho
          have n0_ := Aside0.mk (Kd.R_after (ok := (fun _ => True)) (by (with_reducible repeat (first | apply Kd.R_alloc | apply Kd.R_drewN | apply Kd.R_drew)); exact Kd.R_mono HO193.out (fun _ hk => ⟨trivial, hk⟩)) hg hat)
          have n1_ := Aside0.mk (hb)
          have n2_ := Aside0.mk (ho)
          clear HO193
          clear HB
          clear HO190
          have HO193 := n0_
          have HB := n1_
          have HO196 := n2_
          clear n0_ n1_ n2_
          clear ho hb hg hat
          refine hK.out _ _ trivial (fun hHeld => ?_)
          clear hK K
          refine norm_ (a' := ?_) ?_ ?_
          rotate_left
          ·show Act.put _ (some 32) _ = _
           simp only [Act.put, List.setIfInBounds_toArray, List.set_cons_zero, List.set_cons_succ, i64_w, i32_w]
           rfl
          refine one_ (i := 11) (N := some 36) #[true, true, true, true, true, true, true, true, true, true, true, true, false] rfl rfl (one_of HT_.out (by kernel_rfl)) (by decide) (fun K hK => ?_)
          refine Kd.R_append_rows_step k28 (w0 := w) w.heap.size (by rfl) (.tmp 32) (.tmp 35) 22 28 (.agg #[(.string ⟨#[]⟩), (.string ⟨#[]⟩), (.string ⟨#[]⟩)]) 48 rfl Tryz.underlying22 info28 rfl (by decide) (by omega) v195 y194 y197 _ _ _ (fun k_ => some k_ ≠ (.slice Ao30 y191.length co30 : Value).ownBlock) (fun _ => False) rfl rfl ?aO ?aR (fun _ _ h => h) (fun _ h => h.elim) ?aF ?aB ?aS ?aL ?_
          (case aR => repeat (first | exact (Kd.C_below HR200.out HB.out) | (with_reducible refine Kd.C_alloc ?_ _) | (with_reducible refine Kd.C_drewN ?_ _) | (with_reducible refine Kd.C_drew ?_)))
          (case aB => exact (by repeat (first | (with_reducible first | exact HB.out | apply below_alloc | apply pw_below_drewN | apply below_drew1) | exact HB.out)))
          (case aF => exact (fun k_ hk => Kd.fresh' (Kd.R_lt (by (with_reducible repeat (first | apply Kd.R_alloc | apply Kd.R_drewN | apply Kd.R_drew)); exact HO193.out)) k_ hk))
          (case aO => exact (by (with_reducible repeat (first | apply Kd.R_alloc | apply Kd.R_drewN | apply Kd.R_drew)); exact HO196.out))
          (case aS => exact (below_size (by repeat (first | (with_reducible first | exact HB.out | apply below_alloc | apply pw_below_drewN | apply below_drew1) | exact HB.out))))
          (case aL => have := LMc15.out; omega)
          intro v202 w31 ho hb hg hat
          rw [← Ny201.out] at ho
          have n0_ := Aside0.mk (Kd.R_after (ok := (fun _ => True)) (by (with_reducible repeat (first | apply Kd.R_alloc | apply Kd.R_drewN | apply Kd.R_drew)); exact HO193.out) hg hat)
          have n1_ := Aside0.mk (hb)
          have n2_ := Aside0.mk (ho)
          clear HO193
          clear HB
          clear HO196
          have HO193 := n0_
          have HB := n1_
          have HO203 := n2_
          clear n0_ n1_ n2_
          clear ho hb hg hat
          refine hK.out _ _ trivial (fun hHeld => ?_)
          clear hK K
          refine norm_ (a' := ?_) ?_ ?_
          rotate_left
          ·show Act.put _ (some 36) _ = _
           simp only [Act.put, List.setIfInBounds_toArray, List.set_cons_zero, List.set_cons_succ, i64_w, i32_w]
           rfl
          refine pure_ (i := 12) (N := some 6) (v := ?_) (a' := ?_) #[true, true, true, true, true, true, true, true, true, true, true, true, true] rfl rfl (any_of HT_.out (by kernel_rfl)) (fun _ _ _ h => h) (Or.inl ⟨by rfl, ?_⟩) ?_ ?_
          rotate_left
          ·intro w'
           go_simp
           with_reducible rfl
          rotate_left
          ·simp only [Act.put, List.setIfInBounds_toArray, List.set_cons_zero, List.set_cons_succ, i64_w, i32_w]
           rfl
          refine done_ (done_of HT_.out (by kernel_rfl)) ?_
          obtain ⟨Ao32, co32, eo32⟩ := Kd.R_slice HO203.out
          subst eo32
          try go_wp2_with (first | ((with_reducible refine gate_callee (f := 16) rfl ?_); refine goesL_ (some 39) rfl rfl Tryz.func16 (by kernel_rfl) rfl #[.slice Ao32 y201.length co32] rfl (by (try simp only [List.map_toArray, List.map_cons, List.map_nil]); first | done | rfl | (simp only [List.length_drop, List.length_take]; rfl)) ?_; (with_reducible refine (impl_ModelAdd.calls k _ _ y201 t204 t205 _ (by repeat (first | exact HPM.out | exact prem_below HPM.out HB.out | (with_reducible refine prem_below ?_ (Drawn0.below ⟨_, rfl⟩)))) ?side1 ?side2 A16.out).mono ?_); (case side1 => repeat (first | exact (Kd.R_reads' HO203.out).2.2 | (with_reducible refine Kd.C_alloc ?_ _) | (with_reducible refine Kd.C_drewN ?_ _) | (with_reducible refine Kd.C_drew ?_))); (case side2 => exact (Kd.R_reads' HO203.out).2.1); rintro e w33 ⟨v206, v208, rfl, ho0, ⟨lp_, hp_, ho1⟩, hb⟩; have HPERM := Aside0.mk hp_; have HFEW := Aside0.mk (add_few A16.out); clear hp_; refine ⟨_, rfl, ?_⟩; have n0_ := Aside0.mk (Kd.R_elder' (by (with_reducible repeat (first | apply Kd.R_alloc | apply Kd.R_drewN | apply Kd.R_drew)); exact HO193.out) (Kd.R_base ho1) hb); have n1_ := Aside0.mk (Kd.R_elder' (by (with_reducible repeat (first | apply Kd.R_alloc | apply Kd.R_drewN | apply Kd.R_drew)); exact HO203.out) (Kd.R_base ho1) hb); have n2_ := Aside0.mk (Kd.R_lower ho0 (below_size (by repeat (first | (with_reducible first | exact HB.out | apply below_alloc | apply pw_below_drewN | apply below_drew1) | exact HB.out)))); have n3_ := Aside0.mk (Kd.R_lower (Kd.R_new' (Kd.R_new' ho1 (Kd.R_lt (by (with_reducible repeat (first | apply Kd.R_alloc | apply Kd.R_drewN | apply Kd.R_drew)); exact HO193.out))) (Kd.R_lt (by (with_reducible repeat (first | apply Kd.R_alloc | apply Kd.R_drewN | apply Kd.R_drew)); exact HO203.out))) (below_size (by repeat (first | (with_reducible first | exact HB.out | apply below_alloc | apply pw_below_drewN | apply below_drew1) | exact HB.out)))); have n4_ := Aside0.mk (below_step (by repeat (first | (with_reducible first | exact HB.out | apply below_alloc | apply pw_below_drewN | apply below_drew1) | exact HB.out)) hb); clear HO193; clear HO203; clear HB; have HO193 := n0_; have HO203 := n1_; have HO207 := n2_; have HO209 := n3_; have HB := n4_; clear n0_ n1_ n2_ n3_ n4_; (try clear hb); (try clear hb2); (try clear hk); (try clear hi); (try clear ho0); (try clear ho1); obtain ⟨Ao34, co34, eo34⟩ := Kd.R_slice HO207.out; subst eo34))
          go_loopg [9] k (fun kq v9 w' => ∃ (x9_1 : Int), v9 = .int .i64 x9_1 ∧ Aside0 (laws_FnModelAdd.l0 kq l0 ji8 t204 t205 x9_1 = some r) ∧ Aside0 (kq ≤ k) ∧ Aside0 (Kd.R Kd.bool 4 w' w.heap.size (fun _ => True) (.slice Ao34 t204.length co34) t204) ∧ Aside0 (Kd.R k28 28 w' w.heap.size (fun _ => True) v208 lp_) ∧ Aside0 (Below w.heap.size w w'))
          case atStart => exact ⟨(0), orf, H', ⟨Nat.le_refl _⟩, ⟨by (with_reducible repeat (first | apply Kd.R_alloc | apply Kd.R_drewN | apply Kd.R_drew)); exact HO207.out⟩, ⟨by (with_reducible repeat (first | apply Kd.R_alloc | apply Kd.R_drewN | apply Kd.R_drew)); exact Kd.R_mono HO209.out (fun _ hk => trivial)⟩, ⟨by repeat (first | (with_reducible first | exact HB.out | apply below_alloc | apply pw_below_drewN | apply below_drew1) | exact HB.out)⟩⟩
          case round =>
           clear H'
           try clear c1
           try clear c2
           try clear p2
           try clear q2
           try clear c3
           try clear c4
           try clear c5
           try clear c6
           try clear p6
           try clear c7
           try clear c7b0
           try clear c7b1
           try clear c8
           try clear c9
           try clear c9b0
           try clear c9b1
           try clear c10
           try clear c10b0
           try clear c10b1
           try clear c11
           try clear c12
           try clear c13
           try clear c13b0
           try clear c14
           try clear c14b0
           try clear c15
           try clear c16
           try clear c17
           try clear c17b0
           try clear c17b1
           try clear c17b2
           try clear q21
           try clear c22
           try clear q22
           try clear q022
           try clear q21
           try clear q22
           obtain ⟨x9_1, rfl, HA, HK1, HO_7, HO_8, HB⟩ := hrel
           cases gk with
           | zero => exact absurd HA.out (by simp [laws_FnModelAdd.l0])
           | succ k1 =>
            have H := HA.out
            clear HA
            simp only [laws_FnModelAdd.l0] at H
            by_cases c35 : x9_1 < (t204.length : Int)
            ·rw [if_pos c35] at H
             have c35b0 : decide (x9_1 < (t204.length : Int)) = true := decide_eq_true c35
             clear c35
             by_cases c36 : 0 ≤ x9_1
             ·rw [if_pos c36] at H
              have c36b0 : decide (0 ≤ x9_1) = true := decide_eq_true c36
              clear c36
              by_cases c37 : ((rdOf false t204 x9_1) != (x9_1 != ji8)) = true
              ·rw [if_pos c37] at H
               have c37b0 : ((rdOf false t204 x9_1) != (x9_1 != ji8)) = true := c37
               (try (have c37b1 : decide ((rdOf false t204 x9_1) = (x9_1 != ji8)) = false := by simpa using c37))
               (try (have c37b2 : ((rdOf false t204 x9_1) == (x9_1 != ji8)) = false := by simpa using c37))
               (try (have c37b3 : ¬ ((rdOf false t204 x9_1) = (x9_1 != ji8)) := by simpa using c37))
               clear c37
               obtain rfl := Option.some.inj H
               have p210 : 0 ≤ (x9_1 : Int) := odt
               have q210 : x9_1 < (t204.length : Int) := odt
               obtain ⟨ad210, e210, hx210_0⟩ := Kd.at_bool (Kd.R_reads' HO_7.out).2.2 x9_1 p210 q210
               cases e210
               replace p210 := eq_true p210
               replace q210 := eq_true q210
               go_wp2
               go_ret
               exact ⟨by first | rfl | (rw [← HPERM.out.length_eq]; rfl) | (simp [← HPERM.out.length_eq]; done) | (simp [errW_none, errW_some] <;> rfl) | (simp only [← hji8]; first | rfl | (simp [errW_none, errW_some] <;> rfl)) | (simp [*, errW_none, errW_some] <;> rfl), by repeat (first | (with_reducible first | exact HB.out | apply below_alloc | apply pw_below_drewN | apply below_drew1) | exact HB.out)⟩
              ·rw [if_neg c37] at H
               have c37b0 : ((rdOf false t204 x9_1) != (x9_1 != ji8)) = false := by simpa using c37
               (try (have c37b1 : decide ((rdOf false t204 x9_1) = (x9_1 != ji8)) = true := by simpa using c37))
               (try (have c37b2 : ((rdOf false t204 x9_1) == (x9_1 != ji8)) = true := by simpa using c37))
               clear c37
               have H' := Aside0.mk H
               clear H
               have p210 : 0 ≤ (x9_1 : Int) := odt
               have q210 : x9_1 < (t204.length : Int) := odt
               obtain ⟨ad210, e210, hx210_0⟩ := Kd.at_bool (Kd.R_reads' HO_7.out).2.2 x9_1 p210 q210
               cases e210
               replace p210 := eq_true p210
               replace q210 := eq_true q210
               go_wp2
               go_roundg k1
               case measure => have := HK1.out; omega
               case rel => exact ⟨(wrap64 (x9_1 + 1)), orf, H', ⟨by have := HK1.out; omega⟩, ⟨by (with_reducible repeat (first | apply Kd.R_alloc | apply Kd.R_drewN | apply Kd.R_drew)); exact HO_7.out⟩, ⟨by (with_reducible repeat (first | apply Kd.R_alloc | apply Kd.R_drewN | apply Kd.R_drew)); exact HO_8.out⟩, ⟨by repeat (first | (with_reducible first | exact HB.out | apply below_alloc | apply pw_below_drewN | apply below_drew1) | exact HB.out)⟩⟩
             ·rw [if_neg c36] at H
              exact absurd H (by simp)
            ·rw [if_neg c35] at H
             have c35b0 : decide (x9_1 < (t204.length : Int)) = false := decide_eq_false c35
             clear c35
             replace H := Option.bind_eq_some_iff.mp H
             obtain ⟨t211, A380, H⟩ := H
             replace H : ((spec_SameDefs.f k1 t205 t211).bind fun t214 => (if t214 = true then ((laws_awakeModel.f k1).bind fun t215 => (some t215)) else (some false))) = some r := H
             have A38 := Aside0.mk A380
             clear A380
             replace H := Option.bind_eq_some_iff.mp H
             obtain ⟨t214, A390, H⟩ := H
             replace H : (if t214 = true then ((laws_awakeModel.f k1).bind fun t215 => (some t215)) else (some false)) = some r := H
             have A39 := Aside0.mk A390
             clear A390
             by_cases c40 : t214 = true
             ·subst c40
              have H1 : ((laws_awakeModel.f k1).bind fun t215 => (some t215)) = some r := by rw [if_pos rfl] at H; exact H
              clear H
              have H := H1
              clear H1
              replace H := Option.bind_eq_some_iff.mp H
              obtain ⟨t215, A410, H⟩ := H
              replace H : (some t215) = some r := H
              have A41 := Aside0.mk A410
              clear A410
              obtain rfl := Option.some.inj H
              go_wp2_with (first | ((with_reducible refine gate_callee (f := 15) rfl ?_); refine goesL_ (some 63) rfl rfl Tryz.func15 (by kernel_rfl) rfl #[.slice A0 l0.length c0] rfl (by (try simp only [List.map_toArray, List.map_cons, List.map_nil]); first | done | rfl | (simp only [List.length_drop, List.length_take]; rfl)) ?_; (with_reducible refine (spec_ModelMeans.calls k1 _ _ l0 t211 _ ?side1 ?side2 A38.out).mono ?_); (case side1 => repeat (first | exact (Kd.C_below HR0.out HB.out) | (with_reducible refine Kd.C_alloc ?_ _) | (with_reducible refine Kd.C_drewN ?_ _) | (with_reducible refine Kd.C_drew ?_))); (case side2 => exact HC0.out); rintro e w42 ⟨v212, rfl, ho0, hb⟩; refine ⟨_, rfl, ?_⟩; have n0_ := Aside0.mk (Kd.R_below (by (with_reducible repeat (first | apply Kd.R_alloc | apply Kd.R_drewN | apply Kd.R_drew)); exact HO_7.out) hb); have n1_ := Aside0.mk (Kd.R_elder' (by (with_reducible repeat (first | apply Kd.R_alloc | apply Kd.R_drewN | apply Kd.R_drew)); exact HO_8.out) (Kd.R_base ho0) hb); have n2_ := Aside0.mk (Kd.R_lower (Kd.R_new' ho0 (Kd.R_lt (by (with_reducible repeat (first | apply Kd.R_alloc | apply Kd.R_drewN | apply Kd.R_drew)); exact HO_8.out))) (below_size (by repeat (first | (with_reducible first | exact HB.out | apply below_alloc | apply pw_below_drewN | apply below_drew1) | exact HB.out)))); have n3_ := Aside0.mk (below_step (by repeat (first | (with_reducible first | exact HB.out | apply below_alloc | apply pw_below_drewN | apply below_drew1) | exact HB.out)) hb); clear HO_7; clear HO_8; clear HB; have HO_7 := n0_; have HO_8 := n1_; have HO213 := n2_; have HB := n3_; clear n0_ n1_ n2_ n3_; (try clear hb); (try clear hb2); (try clear hk); (try clear hi); (try clear ho0); obtain ⟨Ao43, co43, eo43⟩ := Kd.R_slice HO_8.out; subst eo43; obtain ⟨Ao44, co44, eo44⟩ := Kd.R_slice HO213.out; subst eo44) | ((with_reducible refine gate_callee (f := 14) rfl ?_); refine goesL_ (some 64) rfl rfl Tryz.func14 (by kernel_rfl) rfl #[.slice Ao43 lp_.length co43, .slice Ao44 t211.length co44] rfl (by (try simp only [List.map_toArray, List.map_cons, List.map_nil]); first | done | rfl | (simp only [List.length_drop, List.length_take]; rfl)) ?_; (with_reducible refine (spec_SameDefs.calls _ _ _ lp_ _ _ t211 true _ ?side1 ?side2 ?side3 ?side4 (same_perm HFEW.out HPERM.out A39.out).choose_spec).mono ?_); (case side1 => repeat (first | exact (Kd.R_reads' HO_8.out).2.2 | (with_reducible refine Kd.C_alloc ?_ _) | (with_reducible refine Kd.C_drewN ?_ _) | (with_reducible refine Kd.C_drew ?_))); (case side2 => exact (Kd.R_reads' HO_8.out).2.1); (case side3 => repeat (first | exact (Kd.R_reads' HO213.out).2.2 | (with_reducible refine Kd.C_alloc ?_ _) | (with_reducible refine Kd.C_drewN ?_ _) | (with_reducible refine Kd.C_drew ?_))); (case side4 => exact (Kd.R_reads' HO213.out).2.1); rintro e w' ⟨rfl, ⟨nd, rfl⟩⟩; refine ⟨_, rfl, ?_⟩) | (go_at_call 10; (with_reducible refine (laws_awakeModel.calls k1  t215 _ (by repeat (first | exact HPM.out | exact prem_below HPM.out HB.out | (with_reducible refine prem_below ?_ (Drawn0.below ⟨_, rfl⟩)))) A41.out).mono ?_); rintro e w45 ⟨rfl, hb⟩; have n0_ := Aside0.mk (Kd.R_below (by (with_reducible repeat (first | apply Kd.R_alloc | apply Kd.R_drewN | apply Kd.R_drew)); exact HO_7.out) hb); have n1_ := Aside0.mk (Kd.R_below (by (with_reducible repeat (first | apply Kd.R_alloc | apply Kd.R_drewN | apply Kd.R_drew)); exact HO_8.out) hb); have n2_ := Aside0.mk (Kd.R_below (by (with_reducible repeat (first | apply Kd.R_alloc | apply Kd.R_drewN | apply Kd.R_drew)); exact HO213.out) hb); have n3_ := Aside0.mk (below_step (by repeat (first | (with_reducible first | exact HB.out | apply below_alloc | apply pw_below_drewN | apply below_drew1) | exact HB.out)) hb); clear HO_7; clear HO_8; clear HO213; clear HB; have HO_7 := n0_; have HO_8 := n1_; have HO213 := n2_; have HB := n3_; clear n0_ n1_ n2_ n3_; (try clear hb); (try clear hb2); (try clear hk); (try clear hi)))
              go_ret
              exact ⟨by first | rfl | (rw [← HPERM.out.length_eq]; rfl) | (simp [← HPERM.out.length_eq]; done) | (simp [errW_none, errW_some] <;> rfl) | (simp only [← hji8]; first | rfl | (simp [errW_none, errW_some] <;> rfl)) | (simp [*, errW_none, errW_some] <;> rfl), by repeat (first | (with_reducible first | exact HB.out | apply below_alloc | apply pw_below_drewN | apply below_drew1) | exact HB.out)⟩
             ·replace c40 := Bool.eq_false_iff.mpr c40
              subst c40
              have H1 : (some false) = some r := by rw [if_neg (show ¬ (false = true) by decide)] at H; exact H
              clear H
              have H := H1
              clear H1
              obtain rfl := Option.some.inj H
              go_wp2_with (first | ((with_reducible refine gate_callee (f := 15) rfl ?_); refine goesL_ (some 63) rfl rfl Tryz.func15 (by kernel_rfl) rfl #[.slice A0 l0.length c0] rfl (by (try simp only [List.map_toArray, List.map_cons, List.map_nil]); first | done | rfl | (simp only [List.length_drop, List.length_take]; rfl)) ?_; (with_reducible refine (spec_ModelMeans.calls k1 _ _ l0 t211 _ ?side1 ?side2 A38.out).mono ?_); (case side1 => repeat (first | exact (Kd.C_below HR0.out HB.out) | (with_reducible refine Kd.C_alloc ?_ _) | (with_reducible refine Kd.C_drewN ?_ _) | (with_reducible refine Kd.C_drew ?_))); (case side2 => exact HC0.out); rintro e w46 ⟨v212, rfl, ho0, hb⟩; refine ⟨_, rfl, ?_⟩; have n0_ := Aside0.mk (Kd.R_below (by (with_reducible repeat (first | apply Kd.R_alloc | apply Kd.R_drewN | apply Kd.R_drew)); exact HO_7.out) hb); have n1_ := Aside0.mk (Kd.R_elder' (by (with_reducible repeat (first | apply Kd.R_alloc | apply Kd.R_drewN | apply Kd.R_drew)); exact HO_8.out) (Kd.R_base ho0) hb); have n2_ := Aside0.mk (Kd.R_lower (Kd.R_new' ho0 (Kd.R_lt (by (with_reducible repeat (first | apply Kd.R_alloc | apply Kd.R_drewN | apply Kd.R_drew)); exact HO_8.out))) (below_size (by repeat (first | (with_reducible first | exact HB.out | apply below_alloc | apply pw_below_drewN | apply below_drew1) | exact HB.out)))); have n3_ := Aside0.mk (below_step (by repeat (first | (with_reducible first | exact HB.out | apply below_alloc | apply pw_below_drewN | apply below_drew1) | exact HB.out)) hb); clear HO_7; clear HO_8; clear HB; have HO_7 := n0_; have HO_8 := n1_; have HO213 := n2_; have HB := n3_; clear n0_ n1_ n2_ n3_; (try clear hb); (try clear hb2); (try clear hk); (try clear hi); (try clear ho0); obtain ⟨Ao47, co47, eo47⟩ := Kd.R_slice HO_8.out; subst eo47; obtain ⟨Ao48, co48, eo48⟩ := Kd.R_slice HO213.out; subst eo48) | ((with_reducible refine gate_callee (f := 14) rfl ?_); refine goesL_ (some 64) rfl rfl Tryz.func14 (by kernel_rfl) rfl #[.slice Ao47 lp_.length co47, .slice Ao48 t211.length co48] rfl (by (try simp only [List.map_toArray, List.map_cons, List.map_nil]); first | done | rfl | (simp only [List.length_drop, List.length_take]; rfl)) ?_; (with_reducible refine (spec_SameDefs.calls _ _ _ lp_ _ _ t211 false _ ?side1 ?side2 ?side3 ?side4 (same_perm HFEW.out HPERM.out A39.out).choose_spec).mono ?_); (case side1 => repeat (first | exact (Kd.R_reads' HO_8.out).2.2 | (with_reducible refine Kd.C_alloc ?_ _) | (with_reducible refine Kd.C_drewN ?_ _) | (with_reducible refine Kd.C_drew ?_))); (case side2 => exact (Kd.R_reads' HO_8.out).2.1); (case side3 => repeat (first | exact (Kd.R_reads' HO213.out).2.2 | (with_reducible refine Kd.C_alloc ?_ _) | (with_reducible refine Kd.C_drewN ?_ _) | (with_reducible refine Kd.C_drew ?_))); (case side4 => exact (Kd.R_reads' HO213.out).2.1); rintro e w' ⟨rfl, ⟨nd, rfl⟩⟩; refine ⟨_, rfl, ?_⟩))
              go_ret
              exact ⟨by first | rfl | (rw [← HPERM.out.length_eq]; rfl) | (simp [← HPERM.out.length_eq]; done) | (simp [errW_none, errW_some] <;> rfl) | (simp only [← hji8]; first | rfl | (simp [errW_none, errW_some] <;> rfl)) | (simp [*, errW_none, errW_some] <;> rfl), by repeat (first | (with_reducible first | exact HB.out | apply below_alloc | apply pw_below_drewN | apply below_drew1) | exact HB.out)⟩
         ·rw [if_neg c17] at H
          have c17b0 : ((t204.length : Int) == (y201.length : Int)) = false := beq_eq_false_iff_ne.mpr c17
          have c17b1 : ((t204.length : Int) != (y201.length : Int)) = true := bne_iff_ne.mpr c17
          have c17b2 : (t204.length == y201.length) = false := by first | simpa using c17 | (simp at c17 ⊢; omega)
          obtain rfl := Option.some.inj H
          go_enter Tryz.func5, Tryz.ntmps5
          try go_wp2_with (first | ((with_reducible refine gate_callee (f := 8) rfl ?_); refine goesL_ (some 11) rfl rfl Tryz.func8 (by kernel_rfl) rfl #[.slice A0 l0.length c0] rfl (by (try simp only [List.map_toArray, List.map_cons, List.map_nil]); first | done | rfl | (simp only [List.length_drop, List.length_take]; rfl)) ?_; (with_reducible refine (laws_zzFits19.calls k _ _ l0 true _ ?side1 ?side2 A3.out).mono ?_); (case side1 => repeat (first | exact HR0.out | (with_reducible refine Kd.C_alloc ?_ _) | (with_reducible refine Kd.C_drewN ?_ _) | (with_reducible refine Kd.C_drew ?_))); (case side2 => exact HC0.out); rintro e w49 ⟨rfl, hb⟩; refine ⟨_, rfl, ?_⟩; have n0_ := Aside0.mk (below_step (by repeat (first | (with_reducible first | exact HB.out | apply below_alloc | apply pw_below_drewN | apply below_drew1) | exact HB.out)) hb); clear HB; have HB := n0_; clear n0_; (try clear hb); (try clear hb2); (try clear hk); (try clear hi)) | ((with_reducible refine gate_callee (f := 9) rfl ?_); refine goesL_ (some 14) rfl rfl Tryz.func9 (by kernel_rfl) rfl #[.slice A0 l0.length c0] rfl (by (try simp only [List.map_toArray, List.map_cons, List.map_nil]); first | done | rfl | (simp only [List.length_drop, List.length_take]; rfl)) ?_; (with_reducible refine (laws_modelled.calls k _ _ l0 true _ ?side1 ?side2 A5.out).mono ?_); (case side1 => repeat (first | exact (Kd.C_below HR0.out HB.out) | (with_reducible refine Kd.C_alloc ?_ _) | (with_reducible refine Kd.C_drewN ?_ _) | (with_reducible refine Kd.C_drew ?_))); (case side2 => exact HC0.out); rintro e w50 ⟨rfl, hb⟩; refine ⟨_, rfl, ?_⟩; have n0_ := Aside0.mk (below_step (by repeat (first | (with_reducible first | exact HB.out | apply below_alloc | apply pw_below_drewN | apply below_drew1) | exact HB.out)) hb); clear HB; have HB := n0_; clear n0_; (try clear hb); (try clear hb2); (try clear hk); (try clear hi)))
          have n0_ := Aside0.mk (below_drew1 HB.out)
          clear HB
          have HB := n0_
          clear n0_
          have q52 : ((ji8) : Int) ≤ ((l0.length : Int) : Int) := odt
          obtain ⟨i052, hi052, _, hsz52, _⟩ := info_parts info28
          have hroom52 : l0.length ≤ c0 := HC0.out
          have hC52 : Kd.C k28 _ A0 l0.length l0 := HR0.out
          have hcut52 := cut_to (P := Tryz.prog) 22 28 .i64 Tryz.underlying22 hi052 A0 l0.length c0 (ji8) (odt) q52 hroom52
          have hr52 := Kd.C_take (m := ((ji8) : Int).toNat) hC52 (by omega)
          have hy52 : y184.length = ((ji8) : Int).toNat := (by rw [Ny184.out, List.length_take]; omega)
          rw [← Ny184.out] at hr52
          rw [← hy52] at hcut52
          have HR187 := Aside0.mk hr52
          have HC187 := Aside0.mk (show y184.length ≤ c0 from by omega)
          clear hr52 hC52 hroom52 hi052 hsz52
          have KY52 := Aside0.mk hy52
          clear hy52
          replace q52 := eq_true q52
          have q53 : ((ji8) : Int) ≤ ((l0.length : Int) : Int) := odt
          obtain ⟨i053, hi053, _, hsz53, _⟩ := info_parts info28
          have hroom53 : l0.length ≤ c0 := HC0.out
          have hC53 : Kd.C k28 _ A0 l0.length l0 := HR0.out
          have q053 : (0 : Int) ≤ ((ji8) : Int) := odt
          have hcut53 := cut_from (P := Tryz.prog) 22 28 .i64 Tryz.underlying22 hi053 3 hsz53 A0 l0.length c0 (ji8) q053 q53
          have hr53 := Kd.C_drop (m := ((ji8) : Int).toNat) (c := c0) hC53 (by omega) hroom53
          obtain ⟨A53, hA53⟩ : ∃ A1, A1 = (if c0 = ((ji8) : Int).toNat then A0 else (A0 : Option Addr).map (·.add (((ji8) : Int).toNat * 3))) := ⟨_, rfl⟩
          obtain ⟨c53, hc53⟩ : ∃ c1, c1 = c0 - ((ji8) : Int).toNat := ⟨_, rfl⟩
          have hy53 : y197.length = l0.length - ((ji8) : Int).toNat := (by rw [Ny197.out, List.length_drop] <;> omega)
          rw [show (l0).drop ((ji8) : Int).toNat = y197 from Ny197.out.symm] at hr53
          replace hr53 : Kd.C k28 _ A53 y197.length y197 := (by rw [hA53]; exact hr53)
          rw [← hy53, ← hA53, ← hc53] at hcut53
          have HR200 := Aside0.mk hr53
          have HC200 := Aside0.mk (show y197.length ≤ c53 from by rw [hy53, hc53]; exact Nat.sub_le_sub_right hroom53 _)
          clear hr53 hC53 hroom53 hi053 hsz53 hc53
          have KY53 := Aside0.mk hy53
          have KA53 := Aside0.mk hA53
          clear hy53 hA53
          replace q53 := eq_true q53
          refine start_ (n := 13) (S := fun w' => True) (ds := []) #[false, false, false, false, false, false, false, false, false, false, false, false, false] (by kernel_rfl) rfl rfl trivial (fun hHeld => ?_); refine with_tabW laws_FnModelAdd.tab6 laws_FnModelAdd.bits6 (fun HT_ HW_ => ?_)
          generalize w50.drew = w51 at HB HR187 HR200 hHeld ⊢
          refine pure_ (i := 1) (N := some 26) (v := ?_) (a' := ?_) #[false, true, false, false, false, false, false, false, false, false, false, false, false] rfl rfl (any_of HT_.out (by kernel_rfl)) (fun _ _ _ h => h) (Or.inl ⟨by rfl, ?_⟩) ?_ ?_
          rotate_left
          ·intro w'
           go_simp
           with_reducible rfl
          rotate_left
          ·simp only [Act.put, List.setIfInBounds_toArray, List.set_cons_zero, List.set_cons_succ, i64_w, i32_w]
           rfl
          refine pure_ (i := 2) (N := some 27) (v := ?_) (a' := ?_) #[false, true, true, false, false, false, false, false, false, false, false, false, false] rfl rfl (any_of HT_.out (by kernel_rfl)) (fun _ _ _ h => h) (Or.inl ⟨by rfl, ?_⟩) ?_ ?_
          rotate_left
          ·intro w'
           go_simp
           with_reducible rfl
          rotate_left
          ·simp only [Act.put, List.setIfInBounds_toArray, List.set_cons_zero, List.set_cons_succ, i64_w, i32_w]
           rfl
          refine pure_ (i := 3) (N := some 28) (v := ?_) (a' := ?_) #[false, true, true, true, false, false, false, false, false, false, false, false, false] rfl rfl (any_of HT_.out (by kernel_rfl)) (fun _ _ _ h => h) (Or.inl ⟨by rfl, ?_⟩) ?_ ?_
          rotate_left
          ·intro w'
           go_simp
           with_reducible rfl
          rotate_left
          ·simp only [Act.put, List.setIfInBounds_toArray, List.set_cons_zero, List.set_cons_succ, i64_w, i32_w]
           rfl
          refine pure_ (i := 5) (N := some 30) (v := ?_) (a' := ?_) #[false, true, true, true, false, true, false, false, false, false, false, false, false] rfl rfl (any_of HT_.out (by kernel_rfl)) (fun _ _ _ h => h) (Or.inl ⟨by rfl, ?_⟩) ?_ ?_
          rotate_left
          ·intro w'
           go_simp
           with_reducible rfl
          rotate_left
          ·simp only [Act.put, List.setIfInBounds_toArray, List.set_cons_zero, List.set_cons_succ, i64_w, i32_w]
           rfl
          refine pure_ (i := 8) (N := some 33) (v := ?_) (a' := ?_) #[false, true, true, true, false, true, false, false, true, false, false, false, false] rfl rfl (any_of HT_.out (by kernel_rfl)) (fun _ _ _ h => h) (Or.inl ⟨by rfl, ?_⟩) ?_ ?_
          rotate_left
          ·intro w'
           go_simp
           with_reducible rfl
          rotate_left
          ·simp only [Act.put, List.setIfInBounds_toArray, List.set_cons_zero, List.set_cons_succ, i64_w, i32_w]
           rfl
          refine pure_ (i := 9) (N := some 34) (v := ?_) (a' := ?_) #[false, true, true, true, false, true, false, false, true, true, false, false, false] rfl rfl (any_of HT_.out (by kernel_rfl)) (fun _ _ _ h => h) (Or.inl ⟨by rfl, ?_⟩) ?_ ?_
          rotate_left
          ·intro w'
           go_simp
           with_reducible rfl
          rotate_left
          ·simp only [Act.put, List.setIfInBounds_toArray, List.set_cons_zero, List.set_cons_succ, i64_w, i32_w]
           rfl
          refine pure_ (i := 10) (N := some 35) (v := ?_) (a' := ?_) #[false, true, true, true, false, true, false, false, true, true, true, false, false] rfl rfl (any_of HT_.out (by kernel_rfl)) (fun _ _ _ h => h) (Or.inl ⟨by rfl, ?_⟩) ?_ ?_
          rotate_left
          ·intro w'
           go_simp
           with_reducible rfl
          rotate_left
          ·simp only [Act.put, List.setIfInBounds_toArray, List.set_cons_zero, List.set_cons_succ, i64_w, i32_w]
           rfl
          refine join_ (σ := Value × Value × Value) 3 #[true, true, true, true, true, true, true, false, true, true, true, false, false] (fun s_ => [(25, s_.1), (29, s_.2.1), (31, s_.2.2)]) (fun s_ w' => (Kd.R k28 28 w' w.heap.size (fun k_ => some k_ ≠ (s_.2.2 : Value).ownBlock) s_.2.1 y188) ∧ (Kd.R k28 28 w' w.heap.size (fun k_ => some k_ ≠ (s_.2.1 : Value).ownBlock) s_.2.2 y191) ∧ (Below w.heap.size w w')) ?_ ?_
          rotate_left
          ·intro hCont
           refine two_ (i := 0) (j := 6) (Ni := some 25) (Nj := some 31) #[true, true, true, true, false, true, false, false, true, true, true, false, false] #[false, true, true, true, false, true, true, false, true, true, true, false, false] rfl rfl rfl rfl (two_of HT_.out (by kernel_rfl)) (by decide) (by decide) (fun K hK => ?_) (fun K hK => ?_)
           ·skip
            refine Kd.R_lit_step k28 _ 28 ?hg (N := 25) ?hd (xs := ([] : List (S28))) (inner := []) (ok := fun _ => True) (okp := fun _ => True) ?hr ?hp (fun _ hk => hk) trivial (Below.refl _ _) (Nat.le_refl _) (by simp) ?_; (case hd => rfl); (case hg => rfl); (case hr => first | (go_simp; done) | (go_simp; rfl)); (case hp => exact (Reps.none _ _))
            intro v182 w54 ho55 hb hg_ hnew_
            clear hg_ hnew_
            (first | rw [← Ny181.out] at ho55 | (simp only [Int.reduceToNat] at ho55; rw [← Ny181.out] at ho55))
            have n0_ := Aside0.mk (Kd.R_lower ho55 (below_size (by repeat (first | (with_reducible first | exact HB.out | apply below_alloc | apply pw_below_drewN | apply below_drew1) | exact HB.out))))
            have n1_ := Aside0.mk (below_step (by repeat (first | (with_reducible first | exact HB.out | apply below_alloc | apply pw_below_drewN | apply below_drew1) | exact HB.out)) hb)
            clear HB
            have HO183 := n0_
            have HB := n1_
            clear n0_ n1_
            clear hb ho55
            refine hK.out _ _ trivial (fun hHeld => ?_)
            clear hK K
            refine norm_ (a' := ?_) ?_ ?_
            rotate_left
            ·show Act.put _ (some 25) _ = _
             simp only [Act.put, List.setIfInBounds_toArray, List.set_cons_zero, List.set_cons_succ, i64_w, i32_w]
             rfl
            refine two_ (i := 4) (j := 6) (Ni := some 29) (Nj := some 31) #[true, true, true, true, true, true, false, false, true, true, true, false, false] #[true, true, true, true, false, true, true, false, true, true, true, false, false] rfl rfl rfl rfl (two_of HT_.out (by kernel_rfl)) (by decide) (by decide) (fun K hK => ?_) (fun K hK => ?_)
            ·skip
             refine Kd.R_append_rows_step k28 (w0 := w) w.heap.size (by rfl) (.tmp 25) (.tmp 28) 22 28 (.agg #[(.string ⟨#[]⟩), (.string ⟨#[]⟩), (.string ⟨#[]⟩)]) 48 rfl Tryz.underlying22 info28 rfl (by decide) (by omega) v182 y181 y184 _ _ _ (fun _ => True) (fun _ => False) rfl rfl ?aO ?aR (fun _ _ h => h) (fun _ h => h.elim) ?aF ?aB ?aS ?aL ?_
             (case aR => repeat (first | exact (Kd.C_below HR187.out HB.out) | (with_reducible refine Kd.C_alloc ?_ _) | (with_reducible refine Kd.C_drewN ?_ _) | (with_reducible refine Kd.C_drew ?_)))
             (case aB => exact (by repeat (first | (with_reducible first | exact HB.out | apply below_alloc | apply pw_below_drewN | apply below_drew1) | exact HB.out)))
             (case aF => exact (fun _ _ => trivial))
             (case aO => exact (by (with_reducible repeat (first | apply Kd.R_alloc | apply Kd.R_drewN | apply Kd.R_drew)); exact HO183.out))
             (case aS => exact (below_size (by repeat (first | (with_reducible first | exact HB.out | apply below_alloc | apply pw_below_drewN | apply below_drew1) | exact HB.out))))
             (case aL => have := LMc11.out; omega)
             intro v189 w56 ho hb hg hat
             rw [← Ny188.out] at ho
             have n0_ := Aside0.mk (hb)
             have n1_ := Aside0.mk (ho)
             clear HB
             clear HO183
             have HB := n0_
             have HO190 := n1_
             clear n0_ n1_
             clear ho hb hg hat
             refine hK.out _ _ trivial (fun hHeld => ?_)
             clear hK K
             refine norm_ (a' := ?_) ?_ ?_
             rotate_left
             ·show Act.put _ (some 29) _ = _
              simp only [Act.put, List.setIfInBounds_toArray, List.set_cons_zero, List.set_cons_succ, i64_w, i32_w]
              rfl
             refine one_ (i := 6) (N := some 31) #[true, true, true, true, true, true, true, false, true, true, true, false, false] rfl rfl (one_of HT_.out (by kernel_rfl)) (by decide) (fun K hK => ?_)
             refine Kd.R_lit_step k28 _ 28 ?hg (N := 31) ?hd (xs := ([(⟨(⟨#[112]⟩ : ByteArray), (⟨#[112, 57]⟩ : ByteArray), (⟨#[]⟩ : ByteArray)⟩ : S28)] : List (S28))) (inner := [.string (⟨#[112]⟩ : ByteArray), .string (⟨#[112, 57]⟩ : ByteArray), .string (⟨#[]⟩ : ByteArray)]) (ok := fun _ => True) (okp := fun _ => True) ?hr ?hp (fun _ hk => hk) trivial (Below.refl _ _) (Nat.le_refl _) (by simp) ?_; (case hd => rfl); (case hg => rfl); (case hr => first | (go_simp; done) | (go_simp; rfl)); (case hp => exact (Reps.c3 (show Kd.M k28 _ _ _ (⟨(⟨#[112]⟩ : ByteArray), (⟨#[112, 57]⟩ : ByteArray), (⟨#[]⟩ : ByteArray)⟩ : S28) [.string (⟨#[112]⟩ : ByteArray), .string (⟨#[112, 57]⟩ : ByteArray), .string (⟨#[]⟩ : ByteArray)] from (k28_mkM _ _ _ (⟨(⟨#[112]⟩ : ByteArray), (⟨#[112, 57]⟩ : ByteArray), (⟨#[]⟩ : ByteArray)⟩ : S28) )) (Reps.none _ _)))
             intro v192 w57 ho58 hb hg_ hnew_
             clear hg_ hnew_
             (first | rw [← Ny191.out] at ho58 | (simp only [Int.reduceToNat] at ho58; rw [← Ny191.out] at ho58))
             have n0_ := Aside0.mk (Kd.R_elder' (by (with_reducible repeat (first | apply Kd.R_alloc | apply Kd.R_drewN | apply Kd.R_drew)); exact HO190.out) (Kd.R_base ho58) hb)
             have n1_ := Aside0.mk (Kd.R_lower (Kd.R_new' ho58 (Kd.R_lt (by (with_reducible repeat (first | apply Kd.R_alloc | apply Kd.R_drewN | apply Kd.R_drew)); exact HO190.out))) (below_size (by repeat (first | (with_reducible first | exact HB.out | apply below_alloc | apply pw_below_drewN | apply below_drew1) | exact HB.out))))
             have n2_ := Aside0.mk (below_step (by repeat (first | (with_reducible first | exact HB.out | apply below_alloc | apply pw_below_drewN | apply below_drew1) | exact HB.out)) hb)
             clear HO190
             clear HB
             have HO190 := n0_
             have HO193 := n1_
             have HB := n2_
             clear n0_ n1_ n2_
             clear hb ho58
             refine hK.out _ _ trivial (fun hHeld => ?_)
             clear hK K
             refine norm_ (a' := ?_) ?_ ?_
             rotate_left
             ·show Act.put _ (some 31) _ = _
              simp only [Act.put, List.setIfInBounds_toArray, List.set_cons_zero, List.set_cons_succ, i64_w, i32_w]
              rfl
             exact norm_ (by simp only [Go.Proofs.YtjglpjlbnmpdfaaGreatDoorW.PrintLast.putAll, Act.put, List.setIfInBounds_toArray, List.set_cons_zero, List.set_cons_succ]) (hCont (v182, v189, v192) _ ⟨(by (with_reducible repeat (first | apply Kd.R_alloc | apply Kd.R_drewN | apply Kd.R_drew)); exact Kd.R_mono HO190.out (fun _ hk => hk.2)), (by (with_reducible repeat (first | apply Kd.R_alloc | apply Kd.R_drewN | apply Kd.R_drew)); exact Kd.R_mono HO193.out (fun _ hk => hk.2)), (by repeat (first | (with_reducible first | exact HB.out | apply below_alloc | apply pw_below_drewN | apply below_drew1) | exact HB.out))⟩)
            ·skip
             refine Kd.R_lit_step k28 _ 28 ?hg (N := 31) ?hd (xs := ([(⟨(⟨#[112]⟩ : ByteArray), (⟨#[112, 57]⟩ : ByteArray), (⟨#[]⟩ : ByteArray)⟩ : S28)] : List (S28))) (inner := [.string (⟨#[112]⟩ : ByteArray), .string (⟨#[112, 57]⟩ : ByteArray), .string (⟨#[]⟩ : ByteArray)]) (ok := fun _ => True) (okp := fun _ => True) ?hr ?hp (fun _ hk => hk) trivial (Below.refl _ _) (Nat.le_refl _) (by simp) ?_; (case hd => rfl); (case hg => rfl); (case hr => first | (go_simp; done) | (go_simp; rfl)); (case hp => exact (Reps.c3 (show Kd.M k28 _ _ _ (⟨(⟨#[112]⟩ : ByteArray), (⟨#[112, 57]⟩ : ByteArray), (⟨#[]⟩ : ByteArray)⟩ : S28) [.string (⟨#[112]⟩ : ByteArray), .string (⟨#[112, 57]⟩ : ByteArray), .string (⟨#[]⟩ : ByteArray)] from (k28_mkM _ _ _ (⟨(⟨#[112]⟩ : ByteArray), (⟨#[112, 57]⟩ : ByteArray), (⟨#[]⟩ : ByteArray)⟩ : S28) )) (Reps.none _ _)))
             intro v192 w56 ho57 hb hg_ hnew_
             clear hg_ hnew_
             (first | rw [← Ny191.out] at ho57 | (simp only [Int.reduceToNat] at ho57; rw [← Ny191.out] at ho57))
             have n0_ := Aside0.mk (Kd.R_elder' (by (with_reducible repeat (first | apply Kd.R_alloc | apply Kd.R_drewN | apply Kd.R_drew)); exact HO183.out) (Kd.R_base ho57) hb)
             have n1_ := Aside0.mk (Kd.R_lower (Kd.R_new' ho57 (Kd.R_lt (by (with_reducible repeat (first | apply Kd.R_alloc | apply Kd.R_drewN | apply Kd.R_drew)); exact HO183.out))) (below_size (by repeat (first | (with_reducible first | exact HB.out | apply below_alloc | apply pw_below_drewN | apply below_drew1) | exact HB.out))))
             have n2_ := Aside0.mk (below_step (by repeat (first | (with_reducible first | exact HB.out | apply below_alloc | apply pw_below_drewN | apply below_drew1) | exact HB.out)) hb)
             clear HO183
             clear HB
             have HO183 := n0_
             have HO193 := n1_
             have HB := n2_
             clear n0_ n1_ n2_
             clear hb ho57
             refine hK.out _ _ trivial (fun hHeld => ?_)
             clear hK K
             refine norm_ (a' := ?_) ?_ ?_
             rotate_left
             ·show Act.put _ (some 31) _ = _
              simp only [Act.put, List.setIfInBounds_toArray, List.set_cons_zero, List.set_cons_succ, i64_w, i32_w]
              rfl
             refine one_ (i := 4) (N := some 29) #[true, true, true, true, true, true, true, false, true, true, true, false, false] rfl rfl (one_of HT_.out (by kernel_rfl)) (by decide) (fun K hK => ?_)
             refine Kd.R_append_rows_step k28 (w0 := w) w.heap.size (by rfl) (.tmp 25) (.tmp 28) 22 28 (.agg #[(.string ⟨#[]⟩), (.string ⟨#[]⟩), (.string ⟨#[]⟩)]) 48 rfl Tryz.underlying22 info28 rfl (by decide) (by omega) v182 y181 y184 _ _ _ (fun k_ => some k_ ≠ (v192 : Value).ownBlock) (fun _ => False) rfl rfl ?aO ?aR (fun _ _ h => h) (fun _ h => h.elim) ?aF ?aB ?aS ?aL ?_
             (case aR => repeat (first | exact (Kd.C_below HR187.out HB.out) | (with_reducible refine Kd.C_alloc ?_ _) | (with_reducible refine Kd.C_drewN ?_ _) | (with_reducible refine Kd.C_drew ?_)))
             (case aB => exact (by repeat (first | (with_reducible first | exact HB.out | apply below_alloc | apply pw_below_drewN | apply below_drew1) | exact HB.out)))
             (case aF => exact (fun k_ hk => Kd.fresh' (Kd.R_lt (by (with_reducible repeat (first | apply Kd.R_alloc | apply Kd.R_drewN | apply Kd.R_drew)); exact HO193.out)) k_ hk))
             (case aO => exact (by (with_reducible repeat (first | apply Kd.R_alloc | apply Kd.R_drewN | apply Kd.R_drew)); exact Kd.R_mono HO183.out (fun _ hk => hk.2)))
             (case aS => exact (below_size (by repeat (first | (with_reducible first | exact HB.out | apply below_alloc | apply pw_below_drewN | apply below_drew1) | exact HB.out))))
             (case aL => have := LMc11.out; omega)
             intro v189 w58 ho hb hg hat
             rw [← Ny188.out] at ho
             have n0_ := Aside0.mk (Kd.R_after (ok := (fun _ => True)) (by (with_reducible repeat (first | apply Kd.R_alloc | apply Kd.R_drewN | apply Kd.R_drew)); exact HO193.out) hg hat)
             have n1_ := Aside0.mk (hb)
             have n2_ := Aside0.mk (ho)
             clear HO193
             clear HB
             clear HO183
             have HO193 := n0_
             have HB := n1_
             have HO190 := n2_
             clear n0_ n1_ n2_
             clear ho hb hg hat
             refine hK.out _ _ trivial (fun hHeld => ?_)
             clear hK K
             refine norm_ (a' := ?_) ?_ ?_
             rotate_left
             ·show Act.put _ (some 29) _ = _
              simp only [Act.put, List.setIfInBounds_toArray, List.set_cons_zero, List.set_cons_succ, i64_w, i32_w]
              rfl
             exact norm_ (by simp only [Go.Proofs.YtjglpjlbnmpdfaaGreatDoorW.PrintLast.putAll, Act.put, List.setIfInBounds_toArray, List.set_cons_zero, List.set_cons_succ]) (hCont (v182, v189, v192) _ ⟨(by (with_reducible repeat (first | apply Kd.R_alloc | apply Kd.R_drewN | apply Kd.R_drew)); exact HO190.out), (by (with_reducible repeat (first | apply Kd.R_alloc | apply Kd.R_drewN | apply Kd.R_drew)); exact Kd.R_mono HO193.out (fun _ hk => hk.2)), (by repeat (first | (with_reducible first | exact HB.out | apply below_alloc | apply pw_below_drewN | apply below_drew1) | exact HB.out))⟩)
           ·skip
            refine Kd.R_lit_step k28 _ 28 ?hg (N := 31) ?hd (xs := ([(⟨(⟨#[112]⟩ : ByteArray), (⟨#[112, 57]⟩ : ByteArray), (⟨#[]⟩ : ByteArray)⟩ : S28)] : List (S28))) (inner := [.string (⟨#[112]⟩ : ByteArray), .string (⟨#[112, 57]⟩ : ByteArray), .string (⟨#[]⟩ : ByteArray)]) (ok := fun _ => True) (okp := fun _ => True) ?hr ?hp (fun _ hk => hk) trivial (Below.refl _ _) (Nat.le_refl _) (by simp) ?_; (case hd => rfl); (case hg => rfl); (case hr => first | (go_simp; done) | (go_simp; rfl)); (case hp => exact (Reps.c3 (show Kd.M k28 _ _ _ (⟨(⟨#[112]⟩ : ByteArray), (⟨#[112, 57]⟩ : ByteArray), (⟨#[]⟩ : ByteArray)⟩ : S28) [.string (⟨#[112]⟩ : ByteArray), .string (⟨#[112, 57]⟩ : ByteArray), .string (⟨#[]⟩ : ByteArray)] from (k28_mkM _ _ _ (⟨(⟨#[112]⟩ : ByteArray), (⟨#[112, 57]⟩ : ByteArray), (⟨#[]⟩ : ByteArray)⟩ : S28) )) (Reps.none _ _)))
            intro v192 w54 ho55 hb hg_ hnew_
            clear hg_ hnew_
            (first | rw [← Ny191.out] at ho55 | (simp only [Int.reduceToNat] at ho55; rw [← Ny191.out] at ho55))
            have n0_ := Aside0.mk (Kd.R_lower ho55 (below_size (by repeat (first | (with_reducible first | exact HB.out | apply below_alloc | apply pw_below_drewN | apply below_drew1) | exact HB.out))))
            have n1_ := Aside0.mk (below_step (by repeat (first | (with_reducible first | exact HB.out | apply below_alloc | apply pw_below_drewN | apply below_drew1) | exact HB.out)) hb)
            clear HB
            have HO193 := n0_
            have HB := n1_
            clear n0_ n1_
            clear hb ho55
            refine hK.out _ _ trivial (fun hHeld => ?_)
            clear hK K
            refine norm_ (a' := ?_) ?_ ?_
            rotate_left
            ·show Act.put _ (some 31) _ = _
             simp only [Act.put, List.setIfInBounds_toArray, List.set_cons_zero, List.set_cons_succ, i64_w, i32_w]
             rfl
            refine one_ (i := 0) (N := some 25) #[true, true, true, true, false, true, true, false, true, true, true, false, false] rfl rfl (one_of HT_.out (by kernel_rfl)) (by decide) (fun K hK => ?_)
            refine Kd.R_lit_step k28 _ 28 ?hg (N := 25) ?hd (xs := ([] : List (S28))) (inner := []) (ok := fun _ => True) (okp := fun _ => True) ?hr ?hp (fun _ hk => hk) trivial (Below.refl _ _) (Nat.le_refl _) (by simp) ?_; (case hd => rfl); (case hg => rfl); (case hr => first | (go_simp; done) | (go_simp; rfl)); (case hp => exact (Reps.none _ _))
            intro v182 w56 ho57 hb hg_ hnew_
            clear hg_ hnew_
            (first | rw [← Ny181.out] at ho57 | (simp only [Int.reduceToNat] at ho57; rw [← Ny181.out] at ho57))
            have n0_ := Aside0.mk (Kd.R_elder' (by (with_reducible repeat (first | apply Kd.R_alloc | apply Kd.R_drewN | apply Kd.R_drew)); exact HO193.out) (Kd.R_base ho57) hb)
            have n1_ := Aside0.mk (Kd.R_lower (Kd.R_new' ho57 (Kd.R_lt (by (with_reducible repeat (first | apply Kd.R_alloc | apply Kd.R_drewN | apply Kd.R_drew)); exact HO193.out))) (below_size (by repeat (first | (with_reducible first | exact HB.out | apply below_alloc | apply pw_below_drewN | apply below_drew1) | exact HB.out))))
            have n2_ := Aside0.mk (below_step (by repeat (first | (with_reducible first | exact HB.out | apply below_alloc | apply pw_below_drewN | apply below_drew1) | exact HB.out)) hb)
            clear HO193
            clear HB
            have HO193 := n0_
            have HO183 := n1_
            have HB := n2_
            clear n0_ n1_ n2_
            clear hb ho57
            refine hK.out _ _ trivial (fun hHeld => ?_)
            clear hK K
            refine norm_ (a' := ?_) ?_ ?_
            rotate_left
            ·show Act.put _ (some 25) _ = _
             simp only [Act.put, List.setIfInBounds_toArray, List.set_cons_zero, List.set_cons_succ, i64_w, i32_w]
             rfl
            refine one_ (i := 4) (N := some 29) #[true, true, true, true, true, true, true, false, true, true, true, false, false] rfl rfl (one_of HT_.out (by kernel_rfl)) (by decide) (fun K hK => ?_)
            refine Kd.R_append_rows_step k28 (w0 := w) w.heap.size (by rfl) (.tmp 25) (.tmp 28) 22 28 (.agg #[(.string ⟨#[]⟩), (.string ⟨#[]⟩), (.string ⟨#[]⟩)]) 48 rfl Tryz.underlying22 info28 rfl (by decide) (by omega) v182 y181 y184 _ _ _ (fun k_ => some k_ ≠ (v192 : Value).ownBlock) (fun _ => False) rfl rfl ?aO ?aR (fun _ _ h => h) (fun _ h => h.elim) ?aF ?aB ?aS ?aL ?_
            (case aR => repeat (first | exact (Kd.C_below HR187.out HB.out) | (with_reducible refine Kd.C_alloc ?_ _) | (with_reducible refine Kd.C_drewN ?_ _) | (with_reducible refine Kd.C_drew ?_)))
            (case aB => exact (by repeat (first | (with_reducible first | exact HB.out | apply below_alloc | apply pw_below_drewN | apply below_drew1) | exact HB.out)))
            (case aF => exact (fun k_ hk => Kd.fresh' (Kd.R_lt (by (with_reducible repeat (first | apply Kd.R_alloc | apply Kd.R_drewN | apply Kd.R_drew)); exact HO193.out)) k_ hk))
            (case aO => exact (by (with_reducible repeat (first | apply Kd.R_alloc | apply Kd.R_drewN | apply Kd.R_drew)); exact Kd.R_mono HO183.out (fun _ hk => hk.2)))
            (case aS => exact (below_size (by repeat (first | (with_reducible first | exact HB.out | apply below_alloc | apply pw_below_drewN | apply below_drew1) | exact HB.out))))
            (case aL => have := LMc11.out; omega)
            intro v189 w58 ho hb hg hat
            rw [← Ny188.out] at ho
            have n0_ := Aside0.mk (Kd.R_after (ok := (fun _ => True)) (by (with_reducible repeat (first | apply Kd.R_alloc | apply Kd.R_drewN | apply Kd.R_drew)); exact HO193.out) hg hat)
            have n1_ := Aside0.mk (hb)
            have n2_ := Aside0.mk (ho)
            clear HO193
            clear HB
            clear HO183
            have HO193 := n0_
            have HB := n1_
            have HO190 := n2_
            clear n0_ n1_ n2_
            clear ho hb hg hat
            refine hK.out _ _ trivial (fun hHeld => ?_)
            clear hK K
            refine norm_ (a' := ?_) ?_ ?_
            rotate_left
            ·show Act.put _ (some 29) _ = _
             simp only [Act.put, List.setIfInBounds_toArray, List.set_cons_zero, List.set_cons_succ, i64_w, i32_w]
             rfl
            exact norm_ (by simp only [Go.Proofs.YtjglpjlbnmpdfaaGreatDoorW.PrintLast.putAll, Act.put, List.setIfInBounds_toArray, List.set_cons_zero, List.set_cons_succ]) (hCont (v182, v189, v192) _ ⟨(by (with_reducible repeat (first | apply Kd.R_alloc | apply Kd.R_drewN | apply Kd.R_drew)); exact HO190.out), (by (with_reducible repeat (first | apply Kd.R_alloc | apply Kd.R_drewN | apply Kd.R_drew)); exact Kd.R_mono HO193.out (fun _ hk => hk.2)), (by repeat (first | (with_reducible first | exact HB.out | apply below_alloc | apply pw_below_drewN | apply below_drew1) | exact HB.out))⟩)
          rintro ⟨v182, v189, v192⟩ w59 ⟨h0_, h1_, h2_⟩
          have n0_ : Aside0 (Kd.R k28 28 w59 w.heap.size (fun k_ => some k_ ≠ (v192 : Value).ownBlock) v189 y188) := ⟨h0_⟩
          have n1_ : Aside0 (Kd.R k28 28 w59 w.heap.size (fun k_ => some k_ ≠ (v189 : Value).ownBlock) v192 y191) := ⟨h1_⟩
          have n2_ : Aside0 (Below w.heap.size w w59) := ⟨h2_⟩
          clear HB
          clear h0_ h1_ h2_
          have HO190 := n0_
          have HO193 := n1_
          have HB := n2_
          clear n0_ n1_ n2_
          have hHeld := trivial
          obtain ⟨Ao61, co61, eo61⟩ := Kd.R_slice HO193.out
          (first | subst eo61 | (injection eo61 with f1_ f2_ f3_; have f4_ := f1_.symm; have f5_ := f3_.symm; clear f1_ f2_ f3_; subst f4_; subst f5_))
          refine norm_ (a' := ?_) ?_ ?_
          rotate_left
          ·simp only [Go.Proofs.YtjglpjlbnmpdfaaGreatDoorW.PrintLast.putAll, Act.put, List.setIfInBounds_toArray, List.set_cons_zero, List.set_cons_succ]
           rfl
          refine one_ (i := 7) (N := some 32) #[true, true, true, true, true, true, true, true, true, true, true, false, false] rfl rfl (one_of HT_.out (by kernel_rfl)) (by decide) (fun K hK => ?_)
          refine Kd.R_append_rows_step k28 (w0 := w) w.heap.size (by rfl) (.tmp 29) (.tmp 31) 22 28 (.agg #[(.string ⟨#[]⟩), (.string ⟨#[]⟩), (.string ⟨#[]⟩)]) 48 rfl Tryz.underlying22 info28 rfl (by decide) (by omega) v189 y188 y191 _ _ _ (fun k_ => some k_ ≠ (.slice Ao61 y191.length co61 : Value).ownBlock) (fun _ => False) rfl rfl ?aO ?aR (fun _ _ h => h) (fun _ h => h.elim) ?aF ?aB ?aS ?aL ?_
          (case aR => repeat (first | exact (Kd.R_reads' HO193.out).2.2 | (with_reducible refine Kd.C_alloc ?_ _) | (with_reducible refine Kd.C_drewN ?_ _) | (with_reducible refine Kd.C_drew ?_)))
          (case aB => exact (by repeat (first | (with_reducible first | exact HB.out | apply below_alloc | apply pw_below_drewN | apply below_drew1) | exact HB.out)))
          (case aF => exact (fun k_ hk => Kd.fresh' (Kd.R_lt (by (with_reducible repeat (first | apply Kd.R_alloc | apply Kd.R_drewN | apply Kd.R_drew)); exact HO193.out)) k_ hk))
          (case aO => exact (by (with_reducible repeat (first | apply Kd.R_alloc | apply Kd.R_drewN | apply Kd.R_drew)); exact HO190.out))
          (case aS => exact (below_size (by repeat (first | (with_reducible first | exact HB.out | apply below_alloc | apply pw_below_drewN | apply below_drew1) | exact HB.out))))
          (case aL => have := LMc12.out; omega)
          intro v195 w60 ho hb hg hat
          rw [← Ny194.out] at ho
          have n0_ := Aside0.mk (Kd.R_after (ok := (fun _ => True)) (by (with_reducible repeat (first | apply Kd.R_alloc | apply Kd.R_drewN | apply Kd.R_drew)); exact Kd.R_mono HO193.out (fun _ hk => ⟨trivial, hk⟩)) hg hat)
          have n1_ := Aside0.mk (hb)
          have n2_ := Aside0.mk (ho)
          clear HO193
          clear HB
          clear HO190
          have HO193 := n0_
          have HB := n1_
          have HO196 := n2_
          clear n0_ n1_ n2_
          clear ho hb hg hat
          refine hK.out _ _ trivial (fun hHeld => ?_)
          clear hK K
          refine norm_ (a' := ?_) ?_ ?_
          rotate_left
          ·show Act.put _ (some 32) _ = _
           simp only [Act.put, List.setIfInBounds_toArray, List.set_cons_zero, List.set_cons_succ, i64_w, i32_w]
           rfl
          refine one_ (i := 11) (N := some 36) #[true, true, true, true, true, true, true, true, true, true, true, true, false] rfl rfl (one_of HT_.out (by kernel_rfl)) (by decide) (fun K hK => ?_)
          refine Kd.R_append_rows_step k28 (w0 := w) w.heap.size (by rfl) (.tmp 32) (.tmp 35) 22 28 (.agg #[(.string ⟨#[]⟩), (.string ⟨#[]⟩), (.string ⟨#[]⟩)]) 48 rfl Tryz.underlying22 info28 rfl (by decide) (by omega) v195 y194 y197 _ _ _ (fun k_ => some k_ ≠ (.slice Ao61 y191.length co61 : Value).ownBlock) (fun _ => False) rfl rfl ?aO ?aR (fun _ _ h => h) (fun _ h => h.elim) ?aF ?aB ?aS ?aL ?_
          (case aR => repeat (first | exact (Kd.C_below HR200.out HB.out) | (with_reducible refine Kd.C_alloc ?_ _) | (with_reducible refine Kd.C_drewN ?_ _) | (with_reducible refine Kd.C_drew ?_)))
          (case aB => exact (by repeat (first | (with_reducible first | exact HB.out | apply below_alloc | apply pw_below_drewN | apply below_drew1) | exact HB.out)))
          (case aF => exact (fun k_ hk => Kd.fresh' (Kd.R_lt (by (with_reducible repeat (first | apply Kd.R_alloc | apply Kd.R_drewN | apply Kd.R_drew)); exact HO193.out)) k_ hk))
          (case aO => exact (by (with_reducible repeat (first | apply Kd.R_alloc | apply Kd.R_drewN | apply Kd.R_drew)); exact HO196.out))
          (case aS => exact (below_size (by repeat (first | (with_reducible first | exact HB.out | apply below_alloc | apply pw_below_drewN | apply below_drew1) | exact HB.out))))
          (case aL => have := LMc15.out; omega)
          intro v202 w62 ho hb hg hat
          rw [← Ny201.out] at ho
          have n0_ := Aside0.mk (Kd.R_after (ok := (fun _ => True)) (by (with_reducible repeat (first | apply Kd.R_alloc | apply Kd.R_drewN | apply Kd.R_drew)); exact HO193.out) hg hat)
          have n1_ := Aside0.mk (hb)
          have n2_ := Aside0.mk (ho)
          clear HO193
          clear HB
          clear HO196
          have HO193 := n0_
          have HB := n1_
          have HO203 := n2_
          clear n0_ n1_ n2_
          clear ho hb hg hat
          refine hK.out _ _ trivial (fun hHeld => ?_)
          clear hK K
          refine norm_ (a' := ?_) ?_ ?_
          rotate_left
          ·show Act.put _ (some 36) _ = _
           simp only [Act.put, List.setIfInBounds_toArray, List.set_cons_zero, List.set_cons_succ, i64_w, i32_w]
           rfl
          refine pure_ (i := 12) (N := some 6) (v := ?_) (a' := ?_) #[true, true, true, true, true, true, true, true, true, true, true, true, true] rfl rfl (any_of HT_.out (by kernel_rfl)) (fun _ _ _ h => h) (Or.inl ⟨by rfl, ?_⟩) ?_ ?_
          rotate_left
          ·intro w'
           go_simp
           with_reducible rfl
          rotate_left
          ·simp only [Act.put, List.setIfInBounds_toArray, List.set_cons_zero, List.set_cons_succ, i64_w, i32_w]
           rfl
          refine done_ (done_of HT_.out (by kernel_rfl)) ?_
          obtain ⟨Ao63, co63, eo63⟩ := Kd.R_slice HO203.out
          subst eo63
          try go_wp2_with (first | ((with_reducible refine gate_callee (f := 16) rfl ?_); refine goesL_ (some 39) rfl rfl Tryz.func16 (by kernel_rfl) rfl #[.slice Ao63 y201.length co63] rfl (by (try simp only [List.map_toArray, List.map_cons, List.map_nil]); first | done | rfl | (simp only [List.length_drop, List.length_take]; rfl)) ?_; (with_reducible refine (impl_ModelAdd.calls k _ _ y201 t204 t205 _ (by repeat (first | exact HPM.out | exact prem_below HPM.out HB.out | (with_reducible refine prem_below ?_ (Drawn0.below ⟨_, rfl⟩)))) ?side1 ?side2 A16.out).mono ?_); (case side1 => repeat (first | exact (Kd.R_reads' HO203.out).2.2 | (with_reducible refine Kd.C_alloc ?_ _) | (with_reducible refine Kd.C_drewN ?_ _) | (with_reducible refine Kd.C_drew ?_))); (case side2 => exact (Kd.R_reads' HO203.out).2.1); rintro e w64 ⟨v206, v208, rfl, ho0, ⟨lp_, hp_, ho1⟩, hb⟩; have HPERM := Aside0.mk hp_; have HFEW := Aside0.mk (add_few A16.out); clear hp_; refine ⟨_, rfl, ?_⟩; have n0_ := Aside0.mk (Kd.R_elder' (by (with_reducible repeat (first | apply Kd.R_alloc | apply Kd.R_drewN | apply Kd.R_drew)); exact HO193.out) (Kd.R_base ho1) hb); have n1_ := Aside0.mk (Kd.R_elder' (by (with_reducible repeat (first | apply Kd.R_alloc | apply Kd.R_drewN | apply Kd.R_drew)); exact HO203.out) (Kd.R_base ho1) hb); have n2_ := Aside0.mk (Kd.R_lower ho0 (below_size (by repeat (first | (with_reducible first | exact HB.out | apply below_alloc | apply pw_below_drewN | apply below_drew1) | exact HB.out)))); have n3_ := Aside0.mk (Kd.R_lower (Kd.R_new' (Kd.R_new' ho1 (Kd.R_lt (by (with_reducible repeat (first | apply Kd.R_alloc | apply Kd.R_drewN | apply Kd.R_drew)); exact HO193.out))) (Kd.R_lt (by (with_reducible repeat (first | apply Kd.R_alloc | apply Kd.R_drewN | apply Kd.R_drew)); exact HO203.out))) (below_size (by repeat (first | (with_reducible first | exact HB.out | apply below_alloc | apply pw_below_drewN | apply below_drew1) | exact HB.out)))); have n4_ := Aside0.mk (below_step (by repeat (first | (with_reducible first | exact HB.out | apply below_alloc | apply pw_below_drewN | apply below_drew1) | exact HB.out)) hb); clear HO193; clear HO203; clear HB; have HO193 := n0_; have HO203 := n1_; have HO207 := n2_; have HO209 := n3_; have HB := n4_; clear n0_ n1_ n2_ n3_ n4_; (try clear hb); (try clear hb2); (try clear hk); (try clear hi); (try clear ho0); (try clear ho1); obtain ⟨Ao65, co65, eo65⟩ := Kd.R_slice HO207.out; subst eo65))
          go_ret
          exact ⟨by first | rfl | (rw [← HPERM.out.length_eq]; rfl) | (simp [← HPERM.out.length_eq]; done) | (simp [errW_none, errW_some] <;> rfl) | (simp only [← hji8]; first | rfl | (simp [errW_none, errW_some] <;> rfl)) | (simp [*, errW_none, errW_some] <;> rfl), by repeat (first | (with_reducible first | exact HB.out | apply below_alloc | apply pw_below_drewN | apply below_drew1) | exact HB.out)⟩
        ·rw [if_neg c15] at H
         exact absurd H (by simp)
       ·rw [if_neg c12] at H
        exact absurd H (by simp)
      ·rw [if_neg c11] at H
       exact absurd H (by simp)
     ·rw [if_neg c10] at H
      exact absurd H (by simp)
    ·rw [if_neg c9] at H
     exact absurd H (by simp)
  ·replace c6 := Bool.eq_false_iff.mpr c6
   subst c6
   have H1 : ((laws_awakeModel.f k).bind fun t180 => (some t180)) = some r := by rw [if_neg (show ¬ (false = true) by decide)] at H; exact H
   clear H
   have H := H1
   clear H1
   replace H := Option.bind_eq_some_iff.mp H
   obtain ⟨t180, A660, H⟩ := H
   replace H : (some t180) = some r := H
   have A66 := Aside0.mk A660
   clear A660
   obtain rfl := Option.some.inj H
   go_enter Tryz.func5, Tryz.ntmps5
   go_wp2_with (first | ((with_reducible refine gate_callee (f := 8) rfl ?_); refine goesL_ (some 11) rfl rfl Tryz.func8 (by kernel_rfl) rfl #[.slice A0 l0.length c0] rfl (by (try simp only [List.map_toArray, List.map_cons, List.map_nil]); first | done | rfl | (simp only [List.length_drop, List.length_take]; rfl)) ?_; (with_reducible refine (laws_zzFits19.calls k _ _ l0 true _ ?side1 ?side2 A3.out).mono ?_); (case side1 => repeat (first | exact HR0.out | (with_reducible refine Kd.C_alloc ?_ _) | (with_reducible refine Kd.C_drewN ?_ _) | (with_reducible refine Kd.C_drew ?_))); (case side2 => exact HC0.out); rintro e w67 ⟨rfl, hb⟩; refine ⟨_, rfl, ?_⟩; have n0_ := Aside0.mk (below_step (by repeat (first | (with_reducible first | exact HB.out | apply below_alloc | apply pw_below_drewN | apply below_drew1) | exact HB.out)) hb); clear HB; have HB := n0_; clear n0_; (try clear hb); (try clear hb2); (try clear hk); (try clear hi)) | ((with_reducible refine gate_callee (f := 9) rfl ?_); refine goesL_ (some 14) rfl rfl Tryz.func9 (by kernel_rfl) rfl #[.slice A0 l0.length c0] rfl (by (try simp only [List.map_toArray, List.map_cons, List.map_nil]); first | done | rfl | (simp only [List.length_drop, List.length_take]; rfl)) ?_; (with_reducible refine (laws_modelled.calls k _ _ l0 false _ ?side1 ?side2 A5.out).mono ?_); (case side1 => repeat (first | exact (Kd.C_below HR0.out HB.out) | (with_reducible refine Kd.C_alloc ?_ _) | (with_reducible refine Kd.C_drewN ?_ _) | (with_reducible refine Kd.C_drew ?_))); (case side2 => exact HC0.out); rintro e w68 ⟨rfl, hb⟩; refine ⟨_, rfl, ?_⟩; have n0_ := Aside0.mk (below_step (by repeat (first | (with_reducible first | exact HB.out | apply below_alloc | apply pw_below_drewN | apply below_drew1) | exact HB.out)) hb); clear HB; have HB := n0_; clear n0_; (try clear hb); (try clear hb2); (try clear hk); (try clear hi)) | ((with_reducible refine gate_callee (f := 10) rfl ?_); refine goesL_ (some 16) rfl rfl Tryz.func10 (by kernel_rfl) rfl #[] rfl (by (try simp only [List.map_toArray, List.map_cons, List.map_nil]); first | done | rfl | (simp only [List.length_drop, List.length_take]; rfl)) ?_; (with_reducible refine (laws_awakeModel.calls k  t180 _ (by repeat (first | exact HPM.out | exact prem_below HPM.out HB.out | (with_reducible refine prem_below ?_ (Drawn0.below ⟨_, rfl⟩)))) A66.out).mono ?_); rintro e w69 ⟨rfl, hb⟩; refine ⟨_, rfl, ?_⟩; have n0_ := Aside0.mk (below_step (by repeat (first | (with_reducible first | exact HB.out | apply below_alloc | apply pw_below_drewN | apply below_drew1) | exact HB.out)) hb); clear HB; have HB := n0_; clear n0_; (try clear hb); (try clear hb2); (try clear hk); (try clear hi)))
   go_ret
   exact ⟨by first | rfl | (rw [← HPERM.out.length_eq]; rfl) | (simp [← HPERM.out.length_eq]; done) | (simp [errW_none, errW_some] <;> rfl) | (simp [*, errW_none, errW_some] <;> rfl), by repeat (first | (with_reducible first | exact HB.out | apply below_alloc | apply pw_below_drewN | apply below_drew1) | exact HB.out)⟩
 ·replace c4 := Bool.eq_false_iff.mpr c4
  subst c4
  have H1 : (some true) = some r := by rw [if_neg (show ¬ (false = true) by decide)] at H; exact H
  clear H
  have H := H1
  clear H1
  obtain rfl := Option.some.inj H
  go_enter Tryz.func5, Tryz.ntmps5
  go_wp2_with (first | ((with_reducible refine gate_callee (f := 8) rfl ?_); refine goesL_ (some 11) rfl rfl Tryz.func8 (by kernel_rfl) rfl #[.slice A0 l0.length c0] rfl (by (try simp only [List.map_toArray, List.map_cons, List.map_nil]); first | done | rfl | (simp only [List.length_drop, List.length_take]; rfl)) ?_; (with_reducible refine (laws_zzFits19.calls k _ _ l0 false _ ?side1 ?side2 A3.out).mono ?_); (case side1 => repeat (first | exact HR0.out | (with_reducible refine Kd.C_alloc ?_ _) | (with_reducible refine Kd.C_drewN ?_ _) | (with_reducible refine Kd.C_drew ?_))); (case side2 => exact HC0.out); rintro e w70 ⟨rfl, hb⟩; refine ⟨_, rfl, ?_⟩; have n0_ := Aside0.mk (below_step (by repeat (first | (with_reducible first | exact HB.out | apply below_alloc | apply pw_below_drewN | apply below_drew1) | exact HB.out)) hb); clear HB; have HB := n0_; clear n0_; (try clear hb); (try clear hb2); (try clear hk); (try clear hi)))
  go_ret
  exact ⟨by first | rfl | (rw [← HPERM.out.length_eq]; rfl) | (simp [← HPERM.out.length_eq]; done) | (simp [errW_none, errW_some] <;> rfl) | (simp [*, errW_none, errW_some] <;> rfl), by repeat (first | (with_reducible first | exact HB.out | apply below_alloc | apply pw_below_drewN | apply below_drew1) | exact HB.out)⟩

end Go.Proofs.YtjglpjlbnmpdfaaGreatDoor.PFnModelAdd
