/- The machine side of laws.FnConfigValues: each function of this text answers what its Lean function answers (written for this claim by a program of this session over the kit's print; no condition beyond what each theorem says). -/
import Derived.Test.YtbomcdnijklgjaaGreatDoorProg
import Derived.Below
import Derived.Deep.Draws
import Derived.Deep.AppendLies
import Derived.Maps.AppendAt
import Derived.OwnWalk
import Derived.Laws.BytesArg
import Derived.Laws.MakeOwn
import Derived.Laws.OwnMore
import Derived.Deep.OwnRows
import Derived.Tactics
import Derived.Lib.ConvBytes
import Derived.Laws.Slices
import Derived.WalkKit
import Derived.KernelRfl
import Derived.RowKit3
import Derived.Deep.LoopGhost
import Derived.Deep.QuietTactic
import Derived.BigQuiet
import Derived.WideLaws
import Derived.Deep.DeepCutAuto
import Derived.Deep.CutBlock
import Derived.Deep.RegionHeld3
import Derived.Laws.Rows
import Derived.Lib.AppendStr
import Derived.ArgAppend
import Derived.Laws.IdiomCopy
import Derived.OrdersHeld
import Derived.Laws.BitsLemmas
import Derived.RowKit
import Derived.Deep.RegionWith
import Derived.Handy
import Derived.LaidEql
import Derived.Lib.LaidTab
import Derived.MapKept
import Derived.StillTailTactics
import Derived.Test.YtbomcdnijklgjaaGreatDoorOShelf
import Derived.Test.YtbomcdnijklgjaaGreatDoorOWords
namespace Go.Proofs.YtbomcdnijklgjaaGreatDoor.PFnConfigValues
open Go.RowKit Go.Proofs.YtbomcdnijklgjaaGreatDoorW.PrintWords Go.Proofs.YtbomcdnijklgjaaGreatDoorW.PrintLast Go.Proofs.YtbomcdnijklgjaaGreatDoorW.PrintMore
attribute [local go_sem] max2_int min2_int max_two min_two max_three min_three max_four min_four   -- for this text's walks alone
set_option linter.unusedVariables false
set_option linter.unusedSimpArgs false



theorem isEmpty_no_ {l : List UInt8} (h : ¬ l = []) : l.isEmpty = false := by cases l with
  | nil => exact absurd rfl h
  | cons _ _ => rfl
def errW : Option Int → Value
  | none => .nilIface
  | some c => .iface 0 (.int .i64 c)
theorem errW_none : errW none = .nilIface := rfl
theorem errW_some (c : Int) : errW (some c) = .iface 0 (.int .i64 c) := rfl

theorem info9 : (Tryz.prog.info? 9).map (fun i => (i.zero, i.size, i.bytes)) = some (some (.string ⟨#[]⟩), 1, 16) := by kernel_rfl
theorem info50 : (Tryz.prog.info? 50).map (fun i => (i.zero, i.size, i.bytes)) = some (some (.agg #[(.string ⟨#[]⟩), (.slice none 0 0), (.slice none 0 0)]), 3, 64) := by kernel_rfl
theorem info53 : (Tryz.prog.info? 53).map (fun i => (i.zero, i.size, i.bytes)) = some (some (.agg #[(.string ⟨#[]⟩), (.slice none 0 0)]), 2, 40) := by kernel_rfl
-- the values' own types
def rd_L1 (xs : List (List ByteArray)) (i : Int) : (List ByteArray) := xs.getD i.toNat ([] : List ByteArray)
theorem at_L1 {w : World} {A : Option Addr} {n : Nat} {xs : List (List ByteArray)} (h : Kd.C (Kd.slice 9 Kd.string) w A n xs) (i : Int) (h0 : 0 ≤ i) (h1 : i < n) : ∃ ad A0 c0, A = some ad ∧ w.cell? (ad.add i.toNat) = some (.slice A0 (rd_L1 xs i).length c0) ∧ (rd_L1 xs i).length ≤ c0 ∧ Kd.string.C w A0 (rd_L1 xs i).length (rd_L1 xs i) := by
  obtain ⟨ad, c, e, _, hK, hc0⟩ := Kd.C_get h ([] : List ByteArray) i h0 h1
  have hc : ∀ j u, c[j]? = some u → w.cell? (ad.add (i.toNat * 1 + j)) = some u := hc0
  obtain ⟨A0, c0, rfl, l0, g0⟩ := hK
  exact ⟨ad, A0, c0, e, by have hq := hc 0 _ rfl; rwa [Nat.mul_one, Nat.add_zero] at hq, l0, g0⟩

/-! #### struct type 53 -/
structure S53 where
  f0 : ByteArray
  f1 : (List ByteArray)
def z53 : S53 := ⟨(⟨#[]⟩ : ByteArray), ([] : List ByteArray)⟩
def k53 : Kd S53 := Kd.iso (Kd.pair Kd.string (Kd.slice 9 Kd.string)) (fun x : S53 => (x.f0, x.f1))
theorem k53_open {w : World} {x : S53} {cs : List Value} (h : k53.K w x cs) : ∃ A1 c1, cs = [.string x.f0, .slice A1 x.f1.length c1] ∧ x.f1.length ≤ c1 ∧ Kd.string.C w A1 x.f1.length x.f1 := by
  obtain ⟨_, _, rfl, rfl, ⟨A1, c1, rfl, l1, g1⟩⟩ := h
  exact ⟨A1, c1, rfl, l1, g1⟩
theorem k53_openM {w : World} {base : Nat} {ok : Nat → Prop} {x : S53} {cs : List Value} (h : k53.M w base ok x cs) : ∃ v1, cs = [.string x.f0, v1] ∧ Kd.string.R 9 w base ok v1 x.f1 := by
  obtain ⟨_, _, rfl, rfl, ⟨v1, rfl, g1⟩⟩ := h
  exact ⟨v1, rfl, g1⟩
theorem k53_mk (w : World) (x : S53) {A1 : Option Addr} {c1 : Nat} (l1 : x.f1.length ≤ c1) (g1 : Kd.string.C w A1 x.f1.length x.f1) : k53.K w x [.string x.f0, .slice A1 x.f1.length c1] := ⟨[.string x.f0], [.slice A1 x.f1.length c1], rfl, rfl, ⟨A1, c1, rfl, l1, g1⟩⟩
theorem k53_mkM (w : World) (base : Nat) (ok : Nat → Prop) (x : S53) {v1 : Value} (g1 : Kd.string.R 9 w base ok v1 x.f1) : k53.M w base ok x [.string x.f0, v1] := ⟨[.string x.f0], [v1], rfl, rfl, ⟨v1, rfl, g1⟩⟩
theorem k53_openF {W : World} {ok : Nat → Prop} {x : S53} {cs : List Value} (h : Kd.FK k53 W ok x cs) : ∃ A1 c1, cs = [.string x.f0, .slice A1 x.f1.length c1] ∧ x.f1.length ≤ c1 ∧ Kd.F Kd.string W ok A1 x.f1.length x.f1 := by
  obtain ⟨A1, c1, rfl, l1, _⟩ := k53_open (Kd.FK_now h)
  exact ⟨A1, c1, rfl, l1, (fun W' hW => by obtain ⟨A1_, c1_, he, l1_, g1_⟩ := k53_open (h W' hW); injection (Option.some.inj (show some (Value.slice A1 x.f1.length c1) = some (Value.slice A1_ x.f1.length c1_) from congrArg (fun l => l[1]?) he)) with ha_ _ _; rw [ha_]; exact g1_)⟩
theorem k53_mkF (W : World) (ok : Nat → Prop) (x : S53) {A1 : Option Addr} {c1 : Nat} (l1 : x.f1.length ≤ c1) (g1 : Kd.F Kd.string W ok A1 x.f1.length x.f1) : Kd.FK k53 W ok x [.string x.f0, .slice A1 x.f1.length c1] := fun W2 hW => k53_mk W2 x l1 (g1 W2 hW)
def rd_T53 (xs : List S53) (i : Int) : S53 := xs.getD i.toNat z53
theorem at_T53 {w : World} {A : Option Addr} {n : Nat} {xs : List S53} (h : Kd.C k53 w A n xs) (i : Int) (h0 : 0 ≤ i) (h1 : i < n) : ∃ ad A1 c1, A = some ad ∧ w.cell? (ad.add (i.toNat * 2)) = some (.string (rd_T53 xs i).f0) ∧ w.cell? ⟨(ad.add (i.toNat * 2)).block, (ad.add (i.toNat * 2)).off + 1, none⟩ = some (.slice A1 (rd_T53 xs i).f1.length c1) ∧ (rd_T53 xs i).f1.length ≤ c1 ∧ Kd.string.C w A1 (rd_T53 xs i).f1.length (rd_T53 xs i).f1 := by
  obtain ⟨ad, c, e, _, hK, hc0⟩ := Kd.C_get h z53 i h0 h1
  have hc : ∀ j u, c[j]? = some u → w.cell? (ad.add (i.toNat * 2 + j)) = some u := hc0
  obtain ⟨A1, c1, rfl, l1, g1⟩ := k53_open hK
  exact ⟨ad, A1, c1, e, hc 0 _ rfl, by rw [← add_field _ _ 1 (by omega)]; exact hc 1 _ rfl, l1, g1⟩

def rd_L3 (xs : List (List S53)) (i : Int) : (List S53) := xs.getD i.toNat ([] : List S53)
theorem at_L3 {w : World} {A : Option Addr} {n : Nat} {xs : List (List S53)} (h : Kd.C (Kd.slice 53 k53) w A n xs) (i : Int) (h0 : 0 ≤ i) (h1 : i < n) : ∃ ad A0 c0, A = some ad ∧ w.cell? (ad.add i.toNat) = some (.slice A0 (rd_L3 xs i).length c0) ∧ (rd_L3 xs i).length ≤ c0 ∧ k53.C w A0 (rd_L3 xs i).length (rd_L3 xs i) := by
  obtain ⟨ad, c, e, _, hK, hc0⟩ := Kd.C_get h ([] : List S53) i h0 h1
  have hc : ∀ j u, c[j]? = some u → w.cell? (ad.add (i.toNat * 1 + j)) = some u := hc0
  obtain ⟨A0, c0, rfl, l0, g0⟩ := hK
  exact ⟨ad, A0, c0, e, by have hq := hc 0 _ rfl; rwa [Nat.mul_one, Nat.add_zero] at hq, l0, g0⟩

/-! #### struct type 50 -/
structure S50 where
  f0 : ByteArray
  f1 : (List ByteArray)
  f2 : (List S53)
def z50 : S50 := ⟨(⟨#[]⟩ : ByteArray), ([] : List ByteArray), ([] : List S53)⟩
def k50 : Kd S50 := Kd.iso (Kd.pair Kd.string (Kd.pair (Kd.slice 9 Kd.string) (Kd.slice 53 k53))) (fun x : S50 => (x.f0, x.f1, x.f2))
theorem k50_open {w : World} {x : S50} {cs : List Value} (h : k50.K w x cs) : ∃ A1 c1 A2 c2, cs = [.string x.f0, .slice A1 x.f1.length c1, .slice A2 x.f2.length c2] ∧ x.f1.length ≤ c1 ∧ Kd.string.C w A1 x.f1.length x.f1 ∧ x.f2.length ≤ c2 ∧ k53.C w A2 x.f2.length x.f2 := by
  obtain ⟨_, _, rfl, rfl, ⟨_, _, rfl, ⟨A1, c1, rfl, l1, g1⟩, ⟨A2, c2, rfl, l2, g2⟩⟩⟩ := h
  exact ⟨A1, c1, A2, c2, rfl, l1, g1, l2, g2⟩
theorem k50_openM {w : World} {base : Nat} {ok : Nat → Prop} {x : S50} {cs : List Value} (h : k50.M w base ok x cs) : ∃ v1 v2, cs = [.string x.f0, v1, v2] ∧ Kd.string.R 9 w base ok v1 x.f1 ∧ k53.R 53 w base ok v2 x.f2 := by
  obtain ⟨_, _, rfl, rfl, ⟨_, _, rfl, ⟨v1, rfl, g1⟩, ⟨v2, rfl, g2⟩⟩⟩ := h
  exact ⟨v1, v2, rfl, g1, g2⟩
theorem k50_mk (w : World) (x : S50) {A1 : Option Addr} {c1 : Nat} (l1 : x.f1.length ≤ c1) (g1 : Kd.string.C w A1 x.f1.length x.f1) {A2 : Option Addr} {c2 : Nat} (l2 : x.f2.length ≤ c2) (g2 : k53.C w A2 x.f2.length x.f2) : k50.K w x [.string x.f0, .slice A1 x.f1.length c1, .slice A2 x.f2.length c2] := ⟨[.string x.f0], [.slice A1 x.f1.length c1, .slice A2 x.f2.length c2], rfl, rfl, ⟨[.slice A1 x.f1.length c1], [.slice A2 x.f2.length c2], rfl, ⟨A1, c1, rfl, l1, g1⟩, ⟨A2, c2, rfl, l2, g2⟩⟩⟩
theorem k50_mkM (w : World) (base : Nat) (ok : Nat → Prop) (x : S50) {v1 : Value} (g1 : Kd.string.R 9 w base ok v1 x.f1) {v2 : Value} (g2 : k53.R 53 w base ok v2 x.f2) : k50.M w base ok x [.string x.f0, v1, v2] := ⟨[.string x.f0], [v1, v2], rfl, rfl, ⟨[v1], [v2], rfl, ⟨v1, rfl, g1⟩, ⟨v2, rfl, g2⟩⟩⟩
theorem k50_openF {W : World} {ok : Nat → Prop} {x : S50} {cs : List Value} (h : Kd.FK k50 W ok x cs) : ∃ A1 c1 A2 c2, cs = [.string x.f0, .slice A1 x.f1.length c1, .slice A2 x.f2.length c2] ∧ x.f1.length ≤ c1 ∧ Kd.F Kd.string W ok A1 x.f1.length x.f1 ∧ x.f2.length ≤ c2 ∧ Kd.F k53 W ok A2 x.f2.length x.f2 := by
  obtain ⟨A1, c1, A2, c2, rfl, l1, _, l2, _⟩ := k50_open (Kd.FK_now h)
  exact ⟨A1, c1, A2, c2, rfl, l1, (fun W' hW => by obtain ⟨A1_, c1_, A2_, c2_, he, l1_, g1_, l2_, g2_⟩ := k50_open (h W' hW); injection (Option.some.inj (show some (Value.slice A1 x.f1.length c1) = some (Value.slice A1_ x.f1.length c1_) from congrArg (fun l => l[1]?) he)) with ha_ _ _; rw [ha_]; exact g1_), l2, (fun W' hW => by obtain ⟨A1_, c1_, A2_, c2_, he, l1_, g1_, l2_, g2_⟩ := k50_open (h W' hW); injection (Option.some.inj (show some (Value.slice A2 x.f2.length c2) = some (Value.slice A2_ x.f2.length c2_) from congrArg (fun l => l[2]?) he)) with ha_ _ _; rw [ha_]; exact g2_)⟩
theorem k50_mkF (W : World) (ok : Nat → Prop) (x : S50) {A1 : Option Addr} {c1 : Nat} (l1 : x.f1.length ≤ c1) (g1 : Kd.F Kd.string W ok A1 x.f1.length x.f1) {A2 : Option Addr} {c2 : Nat} (l2 : x.f2.length ≤ c2) (g2 : Kd.F k53 W ok A2 x.f2.length x.f2) : Kd.FK k50 W ok x [.string x.f0, .slice A1 x.f1.length c1, .slice A2 x.f2.length c2] := fun W2 hW => k50_mk W2 x l1 (g1 W2 hW) l2 (g2 W2 hW)
def rd_T50 (xs : List S50) (i : Int) : S50 := xs.getD i.toNat z50
theorem at_T50 {w : World} {A : Option Addr} {n : Nat} {xs : List S50} (h : Kd.C k50 w A n xs) (i : Int) (h0 : 0 ≤ i) (h1 : i < n) : ∃ ad A1 c1 A2 c2, A = some ad ∧ w.cell? (ad.add (i.toNat * 3)) = some (.string (rd_T50 xs i).f0) ∧ w.cell? ⟨(ad.add (i.toNat * 3)).block, (ad.add (i.toNat * 3)).off + 1, none⟩ = some (.slice A1 (rd_T50 xs i).f1.length c1) ∧ w.cell? ⟨(ad.add (i.toNat * 3)).block, (ad.add (i.toNat * 3)).off + 2, none⟩ = some (.slice A2 (rd_T50 xs i).f2.length c2) ∧ (rd_T50 xs i).f1.length ≤ c1 ∧ Kd.string.C w A1 (rd_T50 xs i).f1.length (rd_T50 xs i).f1 ∧ (rd_T50 xs i).f2.length ≤ c2 ∧ k53.C w A2 (rd_T50 xs i).f2.length (rd_T50 xs i).f2 := by
  obtain ⟨ad, c, e, _, hK, hc0⟩ := Kd.C_get h z50 i h0 h1
  have hc : ∀ j u, c[j]? = some u → w.cell? (ad.add (i.toNat * 3 + j)) = some u := hc0
  obtain ⟨A1, c1, A2, c2, rfl, l1, g1, l2, g2⟩ := k50_open hK
  exact ⟨ad, A1, c1, A2, c2, e, hc 0 _ rfl, by rw [← add_field _ _ 1 (by omega)]; exact hc 1 _ rfl, by rw [← add_field _ _ 2 (by omega)]; exact hc 2 _ rfl, l1, g1, l2, g2⟩

end Go.Proofs.YtbomcdnijklgjaaGreatDoor.PFnConfigValues
