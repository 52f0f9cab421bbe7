/- The machine side of laws.FnModelDefs: each function of this text answers what its Lean function answers (written for this claim by a program of this session over the kit's print; no condition beyond what each theorem says). -/
import Derived.Test.YtjglpjlbnmpdfaaGreatDoorProg
import Derived.Below
import Derived.Deep.Draws
import Derived.Deep.AppendLies
import Derived.Maps.AppendAt
import Derived.OwnWalk
import Derived.Laws.BytesArg
import Derived.Laws.MakeOwn
import Derived.Laws.OwnMore
import Derived.Deep.OwnRows
import Derived.Tactics
import Derived.Lib.ConvBytes
import Derived.Laws.Slices
import Derived.WalkKit
import Derived.KernelRfl
import Derived.RowKit3
import Derived.Deep.LoopGhost
import Derived.Deep.QuietTactic
import Derived.BigQuiet
import Derived.WideLaws
import Derived.Deep.DeepCutAuto
import Derived.Deep.CutBlock
import Derived.Deep.RegionHeld3
import Derived.Laws.Rows
import Derived.Lib.AppendStr
import Derived.ArgAppend
import Derived.Laws.IdiomCopy
import Derived.OrdersHeld
import Derived.Laws.BitsLemmas
import Derived.RowKit
import Derived.Deep.RegionWith
import Derived.Handy
import Derived.LaidEql
import Derived.Lib.FrozenHead
import Derived.Lib.LaidTab
import Derived.MapKept
import Derived.Maps.RangeRun
import Derived.Shelf.Strings.BuilderRune
import Derived.StillTailTactics
import Derived.Test.YtjglpjlbnmpdfaaGreatDoorOShelf
import Derived.Test.YtjglpjlbnmpdfaaGreatDoorOWords
namespace Go.Proofs.YtjglpjlbnmpdfaaGreatDoor.PFnModelDefs
open Go.RowKit Go.Proofs.YtjglpjlbnmpdfaaGreatDoorW.PrintWords Go.Proofs.YtjglpjlbnmpdfaaGreatDoorW.PrintLast Go.Proofs.YtjglpjlbnmpdfaaGreatDoorW.PrintMore
attribute [local go_sem] max2_int min2_int max_two min_two max_three min_three max_four min_four   -- for this text's walks alone
set_option linter.unusedVariables false
set_option linter.unusedSimpArgs false



theorem isEmpty_no_ {l : List UInt8} (h : ¬ l = []) : l.isEmpty = false := by cases l with
 | nil => exact absurd rfl h
 | cons _ _ => rfl
def errW : Option Int → Value
 | none => .nilIface
 | some c => .iface 0 (.int .i64 c)
theorem errW_none : errW none = .nilIface := rfl
theorem errW_some (c : Int) : errW (some c) = .iface 0 (.int .i64 c) := rfl

theorem info5 : (Tryz.prog.info? 5).map (fun i => (i.zero, i.size, i.bytes)) = some (some (.int .u8 0), 1, 1) := by kernel_rfl
theorem info9 : (Tryz.prog.info? 9).map (fun i => (i.zero, i.size, i.bytes)) = some (some (.string ⟨#[]⟩), 1, 16) := by kernel_rfl
theorem info28 : (Tryz.prog.info? 28).map (fun i => (i.zero, i.size, i.bytes)) = some (some (.agg #[(.string ⟨#[]⟩), (.string ⟨#[]⟩), (.string ⟨#[]⟩)]), 3, 48) := by kernel_rfl
theorem info67 : (Tryz.prog.info? 67).map (fun i => (i.zero, i.size, i.bytes)) = some (some (.agg #[(.string ⟨#[]⟩), (.slice none 0 0), (.slice none 0 0)]), 3, 64) := by kernel_rfl
theorem info69 : (Tryz.prog.info? 69).map (fun i => (i.zero, i.size, i.bytes)) = some (some (.agg #[(.string ⟨#[]⟩), (.slice none 0 0)]), 2, 40) := by kernel_rfl
theorem info71 : (Tryz.prog.info? 71).map (fun i => (i.zero, i.size, i.bytes)) = some (some (.agg #[(.string ⟨#[]⟩), (.string ⟨#[]⟩)]), 2, 32) := by kernel_rfl
-- the values' own types
/-! #### struct type 28 -/
structure S28 where
 f0 : ByteArray
 f1 : ByteArray
 f2 : ByteArray
def z28 : S28 := ⟨(⟨#[]⟩ : ByteArray), (⟨#[]⟩ : ByteArray), (⟨#[]⟩ : ByteArray)⟩
def k28 : Kd S28 := Kd.iso (Kd.pair Kd.string (Kd.pair Kd.string Kd.string)) (fun x : S28 => (x.f0, x.f1, x.f2))
theorem k28_open {w : World} {x : S28} {cs : List Value} (h : k28.K w x cs) : cs = [.string x.f0, .string x.f1, .string x.f2] := by
 obtain ⟨_, _, rfl, rfl, ⟨_, _, rfl, rfl, rfl⟩⟩ := h
 exact rfl
theorem k28_openM {w : World} {base : Nat} {ok : Nat → Prop} {x : S28} {cs : List Value} (h : k28.M w base ok x cs) : cs = [.string x.f0, .string x.f1, .string x.f2] := by
 obtain ⟨_, _, rfl, rfl, ⟨_, _, rfl, rfl, rfl⟩⟩ := h
 exact rfl
theorem k28_mk (w : World) (x : S28)  : k28.K w x [.string x.f0, .string x.f1, .string x.f2] := ⟨[.string x.f0], [.string x.f1, .string x.f2], rfl, rfl, ⟨[.string x.f1], [.string x.f2], rfl, rfl, rfl⟩⟩
theorem k28_mkM (w : World) (base : Nat) (ok : Nat → Prop) (x : S28)  : k28.M w base ok x [.string x.f0, .string x.f1, .string x.f2] := ⟨[.string x.f0], [.string x.f1, .string x.f2], rfl, rfl, ⟨[.string x.f1], [.string x.f2], rfl, rfl, rfl⟩⟩
def rd_T28 (xs : List S28) (i : Int) : S28 := xs.getD i.toNat z28
theorem at_T28 {w : World} {A : Option Addr} {n : Nat} {xs : List S28} (h : Kd.C k28 w A n xs) (i : Int) (h0 : 0 ≤ i) (h1 : i < n) : ∃ ad , A = some ad ∧ w.cell? (ad.add (i.toNat * 3)) = some (.string (rd_T28 xs i).f0) ∧ w.cell? ⟨(ad.add (i.toNat * 3)).block, (ad.add (i.toNat * 3)).off + 1, none⟩ = some (.string (rd_T28 xs i).f1) ∧ w.cell? ⟨(ad.add (i.toNat * 3)).block, (ad.add (i.toNat * 3)).off + 2, none⟩ = some (.string (rd_T28 xs i).f2) := by
 obtain ⟨ad, c, e, _, hK, hc0⟩ := Kd.C_get h z28 i h0 h1
 have hc : ∀ j u, c[j]? = some u → w.cell? (ad.add (i.toNat * 3 + j)) = some u := hc0
 obtain rfl := k28_open hK
 exact ⟨ad, e, hc 0 _ rfl, by rw [← add_field _ _ 1 (by omega)]; exact hc 1 _ rfl, by rw [← add_field _ _ 2 (by omega)]; exact hc 2 _ rfl⟩

/-! #### struct type 71 -/
structure S71 where
 f0 : ByteArray
 f1 : ByteArray
def z71 : S71 := ⟨(⟨#[]⟩ : ByteArray), (⟨#[]⟩ : ByteArray)⟩
def k71 : Kd S71 := Kd.iso (Kd.pair Kd.string Kd.string) (fun x : S71 => (x.f0, x.f1))
theorem k71_open {w : World} {x : S71} {cs : List Value} (h : k71.K w x cs) : cs = [.string x.f0, .string x.f1] := by
 obtain ⟨_, _, rfl, rfl, rfl⟩ := h
 exact rfl
theorem k71_openM {w : World} {base : Nat} {ok : Nat → Prop} {x : S71} {cs : List Value} (h : k71.M w base ok x cs) : cs = [.string x.f0, .string x.f1] := by
 obtain ⟨_, _, rfl, rfl, rfl⟩ := h
 exact rfl
theorem k71_mk (w : World) (x : S71)  : k71.K w x [.string x.f0, .string x.f1] := ⟨[.string x.f0], [.string x.f1], rfl, rfl, rfl⟩
theorem k71_mkM (w : World) (base : Nat) (ok : Nat → Prop) (x : S71)  : k71.M w base ok x [.string x.f0, .string x.f1] := ⟨[.string x.f0], [.string x.f1], rfl, rfl, rfl⟩
def rd_T71 (xs : List S71) (i : Int) : S71 := xs.getD i.toNat z71
theorem at_T71 {w : World} {A : Option Addr} {n : Nat} {xs : List S71} (h : Kd.C k71 w A n xs) (i : Int) (h0 : 0 ≤ i) (h1 : i < n) : ∃ ad , A = some ad ∧ w.cell? (ad.add (i.toNat * 2)) = some (.string (rd_T71 xs i).f0) ∧ w.cell? ⟨(ad.add (i.toNat * 2)).block, (ad.add (i.toNat * 2)).off + 1, none⟩ = some (.string (rd_T71 xs i).f1) := by
 obtain ⟨ad, c, e, _, hK, hc0⟩ := Kd.C_get h z71 i h0 h1
 have hc : ∀ j u, c[j]? = some u → w.cell? (ad.add (i.toNat * 2 + j)) = some u := hc0
 obtain rfl := k71_open hK
 exact ⟨ad, e, hc 0 _ rfl, by rw [← add_field _ _ 1 (by omega)]; exact hc 1 _ rfl⟩

def rd_L4 (xs : List (List ByteArray)) (i : Int) : (List ByteArray) := xs.getD i.toNat ([] : List ByteArray)
theorem at_L4 {w : World} {A : Option Addr} {n : Nat} {xs : List (List ByteArray)} (h : Kd.C (Kd.slice 9 Kd.string) w A n xs) (i : Int) (h0 : 0 ≤ i) (h1 : i < n) : ∃ ad A0 c0, A = some ad ∧ w.cell? (ad.add i.toNat) = some (.slice A0 (rd_L4 xs i).length c0) ∧ (rd_L4 xs i).length ≤ c0 ∧ Kd.string.C w A0 (rd_L4 xs i).length (rd_L4 xs i) := by
 obtain ⟨ad, c, e, _, hK, hc0⟩ := Kd.C_get h ([] : List ByteArray) i h0 h1
 have hc : ∀ j u, c[j]? = some u → w.cell? (ad.add (i.toNat * 1 + j)) = some u := hc0
 obtain ⟨A0, c0, rfl, l0, g0⟩ := hK
 exact ⟨ad, A0, c0, e, by have hq := hc 0 _ rfl; rwa [Nat.mul_one, Nat.add_zero] at hq, l0, g0⟩

/-! #### struct type 69 -/
structure S69 where
 f0 : ByteArray
 f1 : (List ByteArray)
def z69 : S69 := ⟨(⟨#[]⟩ : ByteArray), ([] : List ByteArray)⟩
def k69 : Kd S69 := Kd.iso (Kd.pair Kd.string (Kd.slice 9 Kd.string)) (fun x : S69 => (x.f0, x.f1))
theorem k69_open {w : World} {x : S69} {cs : List Value} (h : k69.K w x cs) : ∃ A1 c1, cs = [.string x.f0, .slice A1 x.f1.length c1] ∧ x.f1.length ≤ c1 ∧ Kd.string.C w A1 x.f1.length x.f1 := by
 obtain ⟨_, _, rfl, rfl, ⟨A1, c1, rfl, l1, g1⟩⟩ := h
 exact ⟨A1, c1, rfl, l1, g1⟩
theorem k69_openM {w : World} {base : Nat} {ok : Nat → Prop} {x : S69} {cs : List Value} (h : k69.M w base ok x cs) : ∃ v1, cs = [.string x.f0, v1] ∧ Kd.string.R 9 w base ok v1 x.f1 := by
 obtain ⟨_, _, rfl, rfl, ⟨v1, rfl, g1⟩⟩ := h
 exact ⟨v1, rfl, g1⟩
theorem k69_mk (w : World) (x : S69) {A1 : Option Addr} {c1 : Nat} (l1 : x.f1.length ≤ c1) (g1 : Kd.string.C w A1 x.f1.length x.f1) : k69.K w x [.string x.f0, .slice A1 x.f1.length c1] := ⟨[.string x.f0], [.slice A1 x.f1.length c1], rfl, rfl, ⟨A1, c1, rfl, l1, g1⟩⟩
theorem k69_mkM (w : World) (base : Nat) (ok : Nat → Prop) (x : S69) {v1 : Value} (g1 : Kd.string.R 9 w base ok v1 x.f1) : k69.M w base ok x [.string x.f0, v1] := ⟨[.string x.f0], [v1], rfl, rfl, ⟨v1, rfl, g1⟩⟩
def rd_T69 (xs : List S69) (i : Int) : S69 := xs.getD i.toNat z69
theorem at_T69 {w : World} {A : Option Addr} {n : Nat} {xs : List S69} (h : Kd.C k69 w A n xs) (i : Int) (h0 : 0 ≤ i) (h1 : i < n) : ∃ ad A1 c1, A = some ad ∧ w.cell? (ad.add (i.toNat * 2)) = some (.string (rd_T69 xs i).f0) ∧ w.cell? ⟨(ad.add (i.toNat * 2)).block, (ad.add (i.toNat * 2)).off + 1, none⟩ = some (.slice A1 (rd_T69 xs i).f1.length c1) ∧ (rd_T69 xs i).f1.length ≤ c1 ∧ Kd.string.C w A1 (rd_T69 xs i).f1.length (rd_T69 xs i).f1 := by
 obtain ⟨ad, c, e, _, hK, hc0⟩ := Kd.C_get h z69 i h0 h1
 have hc : ∀ j u, c[j]? = some u → w.cell? (ad.add (i.toNat * 2 + j)) = some u := hc0
 obtain ⟨A1, c1, rfl, l1, g1⟩ := k69_open hK
 exact ⟨ad, A1, c1, e, hc 0 _ rfl, by rw [← add_field _ _ 1 (by omega)]; exact hc 1 _ rfl, l1, g1⟩

def rd_L6 (xs : List (List S69)) (i : Int) : (List S69) := xs.getD i.toNat ([] : List S69)
theorem at_L6 {w : World} {A : Option Addr} {n : Nat} {xs : List (List S69)} (h : Kd.C (Kd.slice 69 k69) w A n xs) (i : Int) (h0 : 0 ≤ i) (h1 : i < n) : ∃ ad A0 c0, A = some ad ∧ w.cell? (ad.add i.toNat) = some (.slice A0 (rd_L6 xs i).length c0) ∧ (rd_L6 xs i).length ≤ c0 ∧ k69.C w A0 (rd_L6 xs i).length (rd_L6 xs i) := by
 obtain ⟨ad, c, e, _, hK, hc0⟩ := Kd.C_get h ([] : List S69) i h0 h1
 have hc : ∀ j u, c[j]? = some u → w.cell? (ad.add (i.toNat * 1 + j)) = some u := hc0
 obtain ⟨A0, c0, rfl, l0, g0⟩ := hK
 exact ⟨ad, A0, c0, e, by have hq := hc 0 _ rfl; rwa [Nat.mul_one, Nat.add_zero] at hq, l0, g0⟩

/-! #### struct type 67 -/
structure S67 where
 f0 : ByteArray
 f1 : (List ByteArray)
 f2 : (List S69)
def z67 : S67 := ⟨(⟨#[]⟩ : ByteArray), ([] : List ByteArray), ([] : List S69)⟩
def k67 : Kd S67 := Kd.iso (Kd.pair Kd.string (Kd.pair (Kd.slice 9 Kd.string) (Kd.slice 69 k69))) (fun x : S67 => (x.f0, x.f1, x.f2))
theorem k67_open {w : World} {x : S67} {cs : List Value} (h : k67.K w x cs) : ∃ A1 c1 A2 c2, cs = [.string x.f0, .slice A1 x.f1.length c1, .slice A2 x.f2.length c2] ∧ x.f1.length ≤ c1 ∧ Kd.string.C w A1 x.f1.length x.f1 ∧ x.f2.length ≤ c2 ∧ k69.C w A2 x.f2.length x.f2 := by
 obtain ⟨_, _, rfl, rfl, ⟨_, _, rfl, ⟨A1, c1, rfl, l1, g1⟩, ⟨A2, c2, rfl, l2, g2⟩⟩⟩ := h
 exact ⟨A1, c1, A2, c2, rfl, l1, g1, l2, g2⟩
theorem k67_openM {w : World} {base : Nat} {ok : Nat → Prop} {x : S67} {cs : List Value} (h : k67.M w base ok x cs) : ∃ v1 v2, cs = [.string x.f0, v1, v2] ∧ Kd.string.R 9 w base ok v1 x.f1 ∧ k69.R 69 w base ok v2 x.f2 := by
 obtain ⟨_, _, rfl, rfl, ⟨_, _, rfl, ⟨v1, rfl, g1⟩, ⟨v2, rfl, g2⟩⟩⟩ := h
 exact ⟨v1, v2, rfl, g1, g2⟩
theorem k67_mk (w : World) (x : S67) {A1 : Option Addr} {c1 : Nat} (l1 : x.f1.length ≤ c1) (g1 : Kd.string.C w A1 x.f1.length x.f1) {A2 : Option Addr} {c2 : Nat} (l2 : x.f2.length ≤ c2) (g2 : k69.C w A2 x.f2.length x.f2) : k67.K w x [.string x.f0, .slice A1 x.f1.length c1, .slice A2 x.f2.length c2] := ⟨[.string x.f0], [.slice A1 x.f1.length c1, .slice A2 x.f2.length c2], rfl, rfl, ⟨[.slice A1 x.f1.length c1], [.slice A2 x.f2.length c2], rfl, ⟨A1, c1, rfl, l1, g1⟩, ⟨A2, c2, rfl, l2, g2⟩⟩⟩
theorem k67_mkM (w : World) (base : Nat) (ok : Nat → Prop) (x : S67) {v1 : Value} (g1 : Kd.string.R 9 w base ok v1 x.f1) {v2 : Value} (g2 : k69.R 69 w base ok v2 x.f2) : k67.M w base ok x [.string x.f0, v1, v2] := ⟨[.string x.f0], [v1, v2], rfl, rfl, ⟨[v1], [v2], rfl, ⟨v1, rfl, g1⟩, ⟨v2, rfl, g2⟩⟩⟩
def rd_T67 (xs : List S67) (i : Int) : S67 := xs.getD i.toNat z67
theorem at_T67 {w : World} {A : Option Addr} {n : Nat} {xs : List S67} (h : Kd.C k67 w A n xs) (i : Int) (h0 : 0 ≤ i) (h1 : i < n) : ∃ ad A1 c1 A2 c2, A = some ad ∧ w.cell? (ad.add (i.toNat * 3)) = some (.string (rd_T67 xs i).f0) ∧ w.cell? ⟨(ad.add (i.toNat * 3)).block, (ad.add (i.toNat * 3)).off + 1, none⟩ = some (.slice A1 (rd_T67 xs i).f1.length c1) ∧ w.cell? ⟨(ad.add (i.toNat * 3)).block, (ad.add (i.toNat * 3)).off + 2, none⟩ = some (.slice A2 (rd_T67 xs i).f2.length c2) ∧ (rd_T67 xs i).f1.length ≤ c1 ∧ Kd.string.C w A1 (rd_T67 xs i).f1.length (rd_T67 xs i).f1 ∧ (rd_T67 xs i).f2.length ≤ c2 ∧ k69.C w A2 (rd_T67 xs i).f2.length (rd_T67 xs i).f2 := by
 obtain ⟨ad, c, e, _, hK, hc0⟩ := Kd.C_get h z67 i h0 h1
 have hc : ∀ j u, c[j]? = some u → w.cell? (ad.add (i.toNat * 3 + j)) = some u := hc0
 obtain ⟨A1, c1, A2, c2, rfl, l1, g1, l2, g2⟩ := k67_open hK
 exact ⟨ad, A1, c1, A2, c2, e, hc 0 _ rfl, by rw [← add_field _ _ 1 (by omega)]; exact hc 1 _ rfl, by rw [← add_field _ _ 2 (by omega)]; exact hc 2 _ rfl, l1, g1, l2, g2⟩

theorem odt {p : Prop} [Decidable p] (h : decide p = true := by first | (with_reducible assumption) | assumption) : p := of_decide_eq_true h
theorem orf {p : Prop} (h : p := by first | rfl | (simp; done) | (simp [*]; done)) : p := h
end Go.Proofs.YtjglpjlbnmpdfaaGreatDoor.PFnModelDefs
