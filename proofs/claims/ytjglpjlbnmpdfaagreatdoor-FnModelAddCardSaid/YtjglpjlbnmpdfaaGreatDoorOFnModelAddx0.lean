/- The machine side of laws.FnModelAdd: each function of this text answers what its Lean function answers (written for this claim by a program of this session over the kit's print; no condition beyond what each theorem says). -/
import Derived.Test.YtjglpjlbnmpdfaaGreatDoorProg
import Derived.Below
import Derived.Deep.Draws
import Derived.Deep.AppendLies
import Derived.Maps.AppendAt
import Derived.OwnWalk
import Derived.Laws.BytesArg
import Derived.Laws.MakeOwn
import Derived.Laws.OwnMore
import Derived.Deep.OwnRows
import Derived.Tactics
import Derived.Lib.ConvBytes
import Derived.Laws.Slices
import Derived.WalkKit
import Derived.KernelRfl
import Derived.RowKit3
import Derived.Deep.LoopGhost
import Derived.Deep.QuietTactic
import Derived.BigQuiet
import Derived.WideLaws
import Derived.Deep.DeepCutAuto
import Derived.Deep.CutBlock
import Derived.Deep.RegionHeld3
import Derived.Laws.Rows
import Derived.Lib.AppendStr
import Derived.ArgAppend
import Derived.Laws.IdiomCopy
import Derived.OrdersHeld
import Derived.Laws.BitsLemmas
import Derived.RowKit
import Derived.Deep.RegionWith
import Derived.Handy
import Derived.LaidEql
import Derived.Lib.FrozenHead
import Derived.Lib.LaidTab
import Derived.MapKept
import Derived.Maps.RangeRun
import Derived.Shelf.Strings.BuilderRune
import Derived.StillTailTactics
import Derived.Test.YtjglpjlbnmpdfaaGreatDoorOShelf
import Derived.Test.YtjglpjlbnmpdfaaGreatDoorOWords
namespace Go.Proofs.YtjglpjlbnmpdfaaGreatDoor.PFnModelAdd
open Go.RowKit Go.Proofs.YtjglpjlbnmpdfaaGreatDoorW.PrintWords Go.Proofs.YtjglpjlbnmpdfaaGreatDoorW.PrintLast Go.Proofs.YtjglpjlbnmpdfaaGreatDoorW.PrintMore
attribute [local go_sem] max2_int min2_int max_two min_two max_three min_three max_four min_four   -- for this text's walks alone
set_option linter.unusedVariables false
set_option linter.unusedSimpArgs false



theorem isEmpty_no_ {l : List UInt8} (h : ¬ l = []) : l.isEmpty = false := by cases l with
 | nil => exact absurd rfl h
 | cons _ _ => rfl
def errW : Option Int → Value
 | none => .nilIface
 | some c => .iface 0 (.int .i64 c)
theorem errW_none : errW none = .nilIface := rfl
theorem errW_some (c : Int) : errW (some c) = .iface 0 (.int .i64 c) := rfl

theorem info5 : (Tryz.prog.info? 5).map (fun i => (i.zero, i.size, i.bytes)) = some (some (.int .u8 0), 1, 1) := by kernel_rfl
theorem info28 : (Tryz.prog.info? 28).map (fun i => (i.zero, i.size, i.bytes)) = some (some (.agg #[(.string ⟨#[]⟩), (.string ⟨#[]⟩), (.string ⟨#[]⟩)]), 3, 48) := by kernel_rfl
theorem info71 : (Tryz.prog.info? 71).map (fun i => (i.zero, i.size, i.bytes)) = some (some (.agg #[(.string ⟨#[]⟩), (.string ⟨#[]⟩)]), 2, 32) := by kernel_rfl
-- the values' own types
/-! #### struct type 28 -/
structure S28 where
 f0 : ByteArray
 f1 : ByteArray
 f2 : ByteArray
def z28 : S28 := ⟨(⟨#[]⟩ : ByteArray), (⟨#[]⟩ : ByteArray), (⟨#[]⟩ : ByteArray)⟩
def k28 : Kd S28 := Kd.iso (Kd.pair Kd.string (Kd.pair Kd.string Kd.string)) (fun x : S28 => (x.f0, x.f1, x.f2))
theorem k28_open {w : World} {x : S28} {cs : List Value} (h : k28.K w x cs) : cs = [.string x.f0, .string x.f1, .string x.f2] := by
 obtain ⟨_, _, rfl, rfl, ⟨_, _, rfl, rfl, rfl⟩⟩ := h
 exact rfl
theorem k28_openM {w : World} {base : Nat} {ok : Nat → Prop} {x : S28} {cs : List Value} (h : k28.M w base ok x cs) : cs = [.string x.f0, .string x.f1, .string x.f2] := by
 obtain ⟨_, _, rfl, rfl, ⟨_, _, rfl, rfl, rfl⟩⟩ := h
 exact rfl
theorem k28_mk (w : World) (x : S28)  : k28.K w x [.string x.f0, .string x.f1, .string x.f2] := ⟨[.string x.f0], [.string x.f1, .string x.f2], rfl, rfl, ⟨[.string x.f1], [.string x.f2], rfl, rfl, rfl⟩⟩
theorem k28_mkM (w : World) (base : Nat) (ok : Nat → Prop) (x : S28)  : k28.M w base ok x [.string x.f0, .string x.f1, .string x.f2] := ⟨[.string x.f0], [.string x.f1, .string x.f2], rfl, rfl, ⟨[.string x.f1], [.string x.f2], rfl, rfl, rfl⟩⟩
def rd_T28 (xs : List S28) (i : Int) : S28 := xs.getD i.toNat z28
theorem at_T28 {w : World} {A : Option Addr} {n : Nat} {xs : List S28} (h : Kd.C k28 w A n xs) (i : Int) (h0 : 0 ≤ i) (h1 : i < n) : ∃ ad , A = some ad ∧ w.cell? (ad.add (i.toNat * 3)) = some (.string (rd_T28 xs i).f0) ∧ w.cell? ⟨(ad.add (i.toNat * 3)).block, (ad.add (i.toNat * 3)).off + 1, none⟩ = some (.string (rd_T28 xs i).f1) ∧ w.cell? ⟨(ad.add (i.toNat * 3)).block, (ad.add (i.toNat * 3)).off + 2, none⟩ = some (.string (rd_T28 xs i).f2) := by
 obtain ⟨ad, c, e, _, hK, hc0⟩ := Kd.C_get h z28 i h0 h1
 have hc : ∀ j u, c[j]? = some u → w.cell? (ad.add (i.toNat * 3 + j)) = some u := hc0
 obtain rfl := k28_open hK
 exact ⟨ad, e, hc 0 _ rfl, by rw [← add_field _ _ 1 (by omega)]; exact hc 1 _ rfl, by rw [← add_field _ _ 2 (by omega)]; exact hc 2 _ rfl⟩

/-! #### struct type 71 -/
structure S71 where
 f0 : ByteArray
 f1 : ByteArray
def z71 : S71 := ⟨(⟨#[]⟩ : ByteArray), (⟨#[]⟩ : ByteArray)⟩
def k71 : Kd S71 := Kd.iso (Kd.pair Kd.string Kd.string) (fun x : S71 => (x.f0, x.f1))
theorem k71_open {w : World} {x : S71} {cs : List Value} (h : k71.K w x cs) : cs = [.string x.f0, .string x.f1] := by
 obtain ⟨_, _, rfl, rfl, rfl⟩ := h
 exact rfl
theorem k71_openM {w : World} {base : Nat} {ok : Nat → Prop} {x : S71} {cs : List Value} (h : k71.M w base ok x cs) : cs = [.string x.f0, .string x.f1] := by
 obtain ⟨_, _, rfl, rfl, rfl⟩ := h
 exact rfl
theorem k71_mk (w : World) (x : S71)  : k71.K w x [.string x.f0, .string x.f1] := ⟨[.string x.f0], [.string x.f1], rfl, rfl, rfl⟩
theorem k71_mkM (w : World) (base : Nat) (ok : Nat → Prop) (x : S71)  : k71.M w base ok x [.string x.f0, .string x.f1] := ⟨[.string x.f0], [.string x.f1], rfl, rfl, rfl⟩
def rd_T71 (xs : List S71) (i : Int) : S71 := xs.getD i.toNat z71
theorem at_T71 {w : World} {A : Option Addr} {n : Nat} {xs : List S71} (h : Kd.C k71 w A n xs) (i : Int) (h0 : 0 ≤ i) (h1 : i < n) : ∃ ad , A = some ad ∧ w.cell? (ad.add (i.toNat * 2)) = some (.string (rd_T71 xs i).f0) ∧ w.cell? ⟨(ad.add (i.toNat * 2)).block, (ad.add (i.toNat * 2)).off + 1, none⟩ = some (.string (rd_T71 xs i).f1) := by
 obtain ⟨ad, c, e, _, hK, hc0⟩ := Kd.C_get h z71 i h0 h1
 have hc : ∀ j u, c[j]? = some u → w.cell? (ad.add (i.toNat * 2 + j)) = some u := hc0
 obtain rfl := k71_open hK
 exact ⟨ad, e, hc 0 _ rfl, by rw [← add_field _ _ 1 (by omega)]; exact hc 1 _ rfl⟩

theorem odt {p : Prop} [Decidable p] (h : decide p = true := by first | (with_reducible assumption) | assumption) : p := of_decide_eq_true h
theorem orf {p : Prop} (h : p := by first | rfl | (simp; done) | (simp [*]; done)) : p := h
end Go.Proofs.YtjglpjlbnmpdfaaGreatDoor.PFnModelAdd
