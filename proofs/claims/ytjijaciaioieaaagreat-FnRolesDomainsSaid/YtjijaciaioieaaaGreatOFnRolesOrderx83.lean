/- The machine side of laws.FnRolesOrder: managers of domains; impl.roleDeed. Each theorem says its own conditions. -/
import Derived.Test.YtjijaciaioieaaaGreatOFnRolesOrderx82
import Derived.StillTailTactics
import Derived.Handy
import Derived.MapKept
import Derived.Maps.RangeRun
import Derived.OneCell
import Derived.LoopN
import Derived.Maps.OwnSet
import Derived.Maps.AppendAt
import Derived.Defers
import Derived.Conc.MuLone
import Derived.Conc.MuLib
namespace Go.Proofs.YtjijaciaioieaaaGreat.PFnRolesOrder
open Go.RowKit Go.Proofs.YtjijaciaioieaaaGreatW.PrintWords Go.Proofs.YtjijaciaioieaaaGreatW.PrintLast Go.Proofs.YtjijaciaioieaaaGreatW.PrintMore
set_option linter.unusedVariables false
set_option linter.unusedSimpArgs false
/-! A manager of domains: each domain a manager of its own. -/
section
open Go.Proofs
abbrev PM (n : Nat) : Value := .iface 69 (PT n)
structure DomB where
 name : ByteArray
 p : Nat
 s : Nat
 c : Nat
 m : Option Nat
 L : List RoleB
 E : Edges
 F : Fp
def entsM (D : List DomB) : Ents := D.map fun x => (x.name, PM x.p)
abbrev mc0 : List Value := [.int .i32 0, .int .u32 0]
/-- the manager of domains itself: its cells, its map -/
structure DMF (F : Fp) (d s c : Nat) (max : Int) (m : Option Nat) (D : List DomB) : Prop where
 d : F d = some (.rm, .cells #[PT s, .int .i64 max, .nilFunc, .nilFunc, PT c] 100)
 s : F s = some (.all, SyP m)
 m : MapF F .am m (entsM D)
/-- one domain's manager, in a world -/
structure DomIn (w : World) (max : Int) (x : DomB) : Prop where
 mem : Mem w x.F
 rm : RMF x.F x.p x.s x.c max mc0 x.m x.L
 gr : Graph x.L x.E
/-- all of it -/
structure DMS (w : World) (F : Fp) (d s c : Nat) (max : Int) (m : Option Nat) (D : List DomB) : Prop where
 mem : Mem w F
 dm : DMF F d s c max m D
 each : ∀ x ∈ D, DomIn w max x
 names : (D.map (·.name)).Nodup
 dis : D.Pairwise (fun x y => ∀ k, x.F k ≠ none → y.F k = none)
 own : ∀ x ∈ D, ∀ k, F k ≠ none → x.F k = none
/-- its blocks -/
def DMS.S (F : Fp) (D : List DomB) : Nat → Prop := fun k => F k ≠ none ∨ ∃ x ∈ D, x.F k ≠ none
theorem DMF.sy {F : Fp} {d s c : Nat} {max : Int} {m : Option Nat} {D : List DomB} (h : DMF F d s c max m D) : SyF F s .all m .am (entsM D) := ⟨h.s, h.m⟩
theorem DomIn.below {w w' : World} {max : Int} {x : DomB} (h : DomIn w max x) (hb : Below w.heap.size w w') : DomIn w' max x := ⟨h.mem.below hb, h.rm, h.gr⟩
theorem DMS.below {w w' : World} {F : Fp} {d s c : Nat} {max : Int} {m : Option Nat} {D : List DomB} (h : DMS w F d s c max m D) (hb : Below w.heap.size w w') : DMS w' F d s c max m D := ⟨h.mem.below hb, h.dm, fun x hx => (h.each x hx).below hb, h.names, h.dis, h.own⟩
set_option maxHeartbeats 4000000 in
set_option maxRecDepth 100000 in
theorem get_domain {w : World} (rm : Value) {b : Nat} {dom : ByteArray} (hb : w.cell? ⟨b, 0, none⟩ = some (.string dom)) :
  Calls Tryz.prog 60 #[rm, .slice (some ⟨b, 0, none⟩) 1 1] w fun e w' => e = .returned (.tuple #[.string dom, .nilIface]) ∧ w' = w := by
 go_enter Tryz.func60, Tryz.ntmps60
 go_wp2
 go_ret2
 exact ⟨rfl, rfl⟩
theorem as_mgr (v : Value) (w : World) : (Instr.typeAssert (.iface 69 v) 20 69 false).run Tryz.prog w = .ok v w := by kernel_rfl
theorem lookM_in {n : ByteArray} : ∀ {D : List DomB} (i : Nat) {x : DomB}, (D.map (·.name)).Nodup → x ∈ D → x.name = n → ∃ j, lookS n (entsM D) i = some (j, PM x.p)
 | [], _, _, _, h, _ => by cases h
 | y :: D, i, x, hn, h, e => by
  rw [List.map_cons, List.nodup_cons] at hn
  unfold entsM lookS
  show ∃ j, (if n = y.name then _ else _) = _
  rcases List.mem_cons.1 h with rfl | h
  ·rw [if_pos e.symm]; exact ⟨_, rfl⟩
  ·have : ¬ n = y.name := fun g => hn.1 (by rw [← g, ← e]; exact List.mem_map_of_mem h)
   rw [if_neg this]
   exact lookM_in (i + 1) hn.2 h e
theorem lookM_out {n : ByteArray} {D : List DomB} (h : n ∉ D.map (·.name)) : lookS n (entsM D) 0 = none := by
 rw [lookS_none]
 intro p hp
 obtain ⟨x, hx, rfl⟩ := List.mem_map.1 hp
 exact fun e => h (by rw [← e]; exact List.mem_map_of_mem hx)
theorem putM_last {n : ByteArray} {D : List DomB} (h : n ∉ D.map (·.name)) {x : DomB} (hx : x.name = n) : putS n (PM x.p) (entsM D) = entsM (D ++ [x]) := by
 rw [putS_new _ _ _ ((lookS_none n (entsM D) 0).1 (lookM_out h))]
 unfold entsM
 rw [List.map_append, ← hx]
 rfl
set_option maxHeartbeats 4000000 in
set_option maxRecDepth 100000 in
theorem dm_load_in {F : Fp} {w : World} {d s c : Nat} {max : Int} {m : Option Nat} {D : List DomB} (hM : Mem w F) (h : DMF F d s c max m D) (hn : (D.map (·.name)).Nodup) {x : DomB} (hx : x ∈ D) :
  Calls Tryz.prog 72 #[PT d, KY x.name] w fun e w' => e = .returned (.tuple #[PT x.p, .bool true]) ∧ w' = w := by
 have hc : w.cell? ⟨d, 0, none⟩ = some (PT s) := load_cell hM h.d rfl
 have hl := sy_load hM h.sy x.name
 obtain ⟨i, hi⟩ := lookM_in 0 hn hx rfl
 rw [hi] at hl
 have hl : Calls Tryz.prog 78 #[PT s, KY x.name] w fun x_1 w' => x_1 = .returned (.tuple #[PM x.p, .bool true]) ∧ w' = w := hl
 have hta := as_mgr (PT x.p)
 have HL := Aside0.mk hl
 clear hl hM h hn hx hi
 go_enter Tryz.func72, Tryz.ntmps72
 go_wp2_with (go_at_call 78; refine HL.out.mono ?_; rintro x w2 ⟨rfl, rfl⟩)
 go_ret2
 exact ⟨rfl, rfl⟩
set_option maxHeartbeats 4000000 in
set_option maxRecDepth 100000 in
theorem dm_load_out {F : Fp} {w : World} {d s c : Nat} {max : Int} {m : Option Nat} {D : List DomB} (hM : Mem w F) (h : DMF F d s c max m D) {n : ByteArray} (hn : n ∉ D.map (·.name)) :
  Calls Tryz.prog 72 #[PT d, KY n] w fun e w' => e = .returned (.tuple #[.pointer none, .bool false]) ∧ w' = w := by
 have hc : w.cell? ⟨d, 0, none⟩ = some (PT s) := load_cell hM h.d rfl
 have hl := sy_load hM h.sy n
 rw [lookM_out hn] at hl
 have HL := Aside0.mk hl
 clear hl hM h hn
 go_enter Tryz.func72, Tryz.ntmps72
 go_wp2_with (go_at_call 78; refine HL.out.mono ?_; rintro x w2 ⟨rfl, rfl⟩)
 go_ret2
 exact ⟨rfl, rfl⟩
set_option maxHeartbeats 4000000 in
set_option maxRecDepth 100000 in
theorem rm_new_mf (max : Int) (w : World) :
  Calls Tryz.prog 73 #[.int .i64 max, .nilFunc] w fun e w' => ∃ p F s c, e = .returned (PT p) ∧ Mem w' F ∧ RMF F p s c max mc0 none [] ∧ Graph [] [] ∧ (∀ k, F k ≠ none → w.heap.size ≤ k) ∧ Below w.heap.size w w' := by
 have hsn : ∀ (W : World) (a : Addr) (m : Mode), (store a .nilFunc m).run Tryz.prog W = stored Tryz.prog W a .nilFunc m := fun W a m => run_store Tryz.prog W a _ m rfl
 go_enter Tryz.func73, Tryz.ntmps73
 go_upto_region 2 with (go_at_call 29; refine (rm_new max _).mono ?_; rintro e w2 ⟨p, F, s, c, rfl, hM, hR, hG, hk, hb⟩; have hp := hM _ _ _ hR.p; have c2 := cell_cells hp (i := 2) rfl; have f2 := free_cells hp (i := 2); have HM := Aside0.mk hM; have HR := Aside0.mk hR; have HG := Aside0.mk hG; have HK := Aside0.mk hk; have HB := Aside0.mk hb; have HP := Aside0.mk hp; have hpl := (Array.getElem?_eq_some_iff.1 hp).1; clear hM hR hG hk hb hp)
 go_wp2
 go_ret
 have hsame : ∀ k : Nat, (w2.setCell ⟨p, 2, none⟩ .nilFunc).heap[k]? = w2.heap[k]? := fun k => by
  by_cases e : k = p
  ·rw [e, setCell_cells HP.out .nilFunc]
   exact (HP.out).symm
  ·exact Below.heap_setCell _ _ _ _ e
 exact ⟨p, F, s, c, rfl, fun k t pc h => (HM.out k t pc h).keep (hsame k), HR.out, HG.out, HK.out, HB.out.os, HB.out.tape, HB.out.output, by simpa using HB.out.size, fun k hk => (hsame k).trans (HB.out.block k hk)⟩
end
/-! A domain's manager: there, or made. -/
section
open Go.Proofs
set_option maxHeartbeats 8000000 in
set_option maxRecDepth 100000 in
theorem dm_get_in {F : Fp} {w : World} {d s c : Nat} {max : Int} {m : Option Nat} {D : List DomB} (h : DMS w F d s c max m D) {x : DomB} (hx : x ∈ D) (st : Bool) :
  Calls Tryz.prog 61 #[PT d, .string x.name, .bool st] w fun e w' => e = .returned (PT x.p) ∧ Below w.heap.size w w' := by
 have HL := Aside0.mk (fun (W : World) (hb : Below w.heap.size w W) => dm_load_in (h.mem.below hb) h.dm h.names hx)
 clear h hx
 go_enter Tryz.func61, Tryz.ntmps61
 go_wp2_with (go_at_call 72; refine (HL.out _ ((((Below.refl _ _).alloc (Nat.le_refl _) _).alloc (by simp <;> omega) _).alloc (by simp <;> omega) _)).mono ?_; rintro e w2 ⟨rfl, rfl⟩)
 go_ret
 refine ⟨rfl, ?_⟩
 repeat (first | exact Below.refl _ _ | refine Below.setCell ?_ (by first | (simp; done) | (simp; omega)) _ | refine Below.alloc ?_ (by first | (simp; done) | (simp; omega)) _ | refine Below.drew ?_)
/-- a manager that was made for a domain -/
structure DomNew (w w' : World) (max : Int) (x : DomB) : Prop where
 dom : DomIn w' max x
 e : x.E = []
 new : ∀ k, x.F k ≠ none → w.heap.size ≤ k
set_option maxHeartbeats 8000000 in
set_option maxRecDepth 100000 in
theorem dm_get_out {F : Fp} {w : World} {d s c : Nat} {max : Int} {m : Option Nat} {D : List DomB} (h : DMS w F d s c max m D) {n : ByteArray} (hn : n ∉ D.map (·.name)) :
  Calls Tryz.prog 61 #[PT d, .string n, .bool false] w fun e w' => ∃ x, e = .returned (PT x.p) ∧ x.name = n ∧ DomNew w w' max x ∧ Below w.heap.size w w' := by
 have HL := Aside0.mk (fun (W : World) (hb : Below w.heap.size w W) => dm_load_out (h.mem.below hb) h.dm hn)
 have HC := Aside0.mk (fun (W : World) (hb : Below w.heap.size w W) => show W.cell? ⟨d, 1, none⟩ = some (.int .i64 max) ∧ W.cell? ⟨d, 2, none⟩ = some .nilFunc ∧ W.cell? ⟨d, 3, none⟩ = some .nilFunc from ⟨load_cell (h.mem.below hb) h.dm.d rfl, load_cell (h.mem.below hb) h.dm.d rfl, load_cell (h.mem.below hb) h.dm.d rfl⟩)
 have hdl := (h.mem _ _ _ h.dm.d).lt
 have hnf : ∀ W : World, (binOp .neq 87 .nilFunc .nilFunc).run Tryz.prog W = .ok (.bool false) W := fun W => by kernel_rfl
 clear h hn
 go_enter Tryz.func61, Tryz.ntmps61
 go_upto_region 5 with (go_at_call 72; refine (HL.out _ ((((Below.refl _ _).alloc (Nat.le_refl _) _).alloc (by simp <;> omega) _).alloc (by simp <;> omega) _)).mono ?_; rintro e w2 ⟨rfl, rfl⟩)
 obtain ⟨W3, hW3⟩ : ∃ W3, W3 = (((w.alloc (Obj.cells #[PT d] 73)).alloc (Obj.cells #[Value.string n] 9)).alloc (Obj.cells #[Value.pointer none] 69)) := ⟨_, rfl⟩
 rw [← hW3]
 have hb3 : Below w.heap.size w W3 := by rw [hW3]; exact (((Below.refl _ _).alloc (Nat.le_refl _) _).alloc (by simp <;> omega) _).alloc (by simp <;> omega) _
 have hs3 : W3.heap.size = w.heap.size + 3 := by rw [hW3]; simp
 have h0 : W3.heap[w.heap.size]? = some (.cells #[PT d] 73 (0, 0)) := by
  rw [hW3, heap_alloc_old _ _ (by simp <;> omega), heap_alloc_old _ _ (by simp <;> omega)]
  exact heap_alloc_new _ _
 have h1 : W3.heap[w.heap.size + 1]? = some (.cells #[.string n] 9 (0, 0)) := by
  rw [hW3, heap_alloc_old _ _ (by simp <;> omega)]
  have := heap_alloc_new (w.alloc (Obj.cells #[PT d] 73)) (Obj.cells #[Value.string n] 9)
  simpa using this
 have h2 : W3.heap[w.heap.size + 1 + 1]? = some (.cells #[.pointer none] 69 (0, 0)) := by
  rw [hW3]
  have := heap_alloc_new ((w.alloc (Obj.cells #[PT d] 73)).alloc (Obj.cells #[Value.string n] 9)) (Obj.cells #[Value.pointer none] 69)
  simpa using this
 clear hW3 HL
 have c3 := cell_of_one h0
 obtain ⟨k1, k2, k3⟩ := HC.out W3 hb3
 have hdl3 : d < W3.heap.size := by omega
 have HB3 := Aside0.mk hb3
 have H0 := Aside0.mk h0
 have H1 := Aside0.mk h1
 have H2 := Aside0.mk h2
 clear hb3 h0 h1 h2
 go_still_tail 8, (by kernel_rfl)
 change wpList _ _ _ _ _ W3.drew
 go_upto_region 6 with (go_at_call 73; refine (rm_new_mf max _).mono ?_; rintro e w4 ⟨pp, FF, ss, cc, rfl, hM, hR, hG, hk, hb⟩; have hb4 : Below W3.heap.size W3 w4 := ⟨hb.os, hb.tape, hb.output, hb.size, hb.block⟩; have h7 := (hb4.block (w.heap.size + 1 + 1) (by omega)).trans H2.out; have c7 := cell_of_one h7; have f7 := free_of_one h7; have HM := Aside0.mk hM; have HR := Aside0.mk hR; have HG := Aside0.mk hG; have HK := Aside0.mk (show ∀ k, FF k ≠ none → W3.heap.size ≤ k from hk); have HB4 := Aside0.mk hb4; have H7 := Aside0.mk h7; clear hM hR hG hk hb hb4 h7)
 have hk5 : ∀ k, k ≠ w.heap.size + 1 + 1 → k < W3.heap.size → (w4.setCell ⟨w.heap.size + 1 + 1, 0, none⟩ (PT pp)).heap[k]? = W3.heap[k]? := fun k hk1 hk2 => (Below.heap_setCell _ _ _ _ hk1).trans (HB4.out.block k hk2)
 have hb5 : Below w.heap.size w (w4.setCell ⟨w.heap.size + 1 + 1, 0, none⟩ (PT pp)) := (HB3.out.trans (HB4.out.mono (by omega))).setCell (by show w.heap.size ≤ w.heap.size + 1 + 1; omega) _
 have hs5 : (w4.setCell ⟨w.heap.size + 1 + 1, 0, none⟩ (PT pp)).heap.size = w4.heap.size := by simp
 have hs4 := HB4.out.size
 have hv7 := one_setCell (u := PT pp) H7.out
 have hM5 : Mem (w4.setCell ⟨w.heap.size + 1 + 1, 0, none⟩ (PT pp)) FF := fun k t pc hq => (HM.out k t pc hq).keep (Below.heap_setCell _ _ _ _ (fun e => by
  have e : k = w.heap.size + 1 + 1 := e
  have := HK.out k (by rw [hq]; exact Option.some_ne_none _)
  omega))
 generalize w4.setCell ⟨w.heap.size + 1 + 1, 0, none⟩ (PT pp) = w5 at *
 have c3' := cell_of_one ((hk5 w.heap.size (by omega) (by omega)).trans H0.out)
 have c4' := cell_of_one ((hk5 (w.heap.size + 1) (by omega) (by omega)).trans H1.out)
 have c7' := cell_of_one hv7
 obtain ⟨j1, j2, j3⟩ := HC.out w5 hb5
 have HB5 := Aside0.mk hb5
 have HM5 := Aside0.mk hM5
 have hdl5 : d < w5.heap.size := by omega
 clear hk5 hb5 hM5 hv7 c3 c7 f7 k1 k2 k3 c4'
 go_wp2
 go_ret
 exact ⟨⟨n, pp, ss, cc, none, [], [], FF⟩, rfl, rfl, ⟨⟨HM5.out, HR.out, HG.out⟩, rfl, fun k hk => by have := HK.out k hk; omega⟩, HB5.out⟩
set_option maxHeartbeats 8000000 in
set_option maxRecDepth 100000 in
theorem dm_get_made {F : Fp} {w : World} {d s c : Nat} {max : Int} {m : Option Nat} {D : List DomB} (h : DMS w F d s c max m D) {n : ByteArray} (hn : n ∉ D.map (·.name)) :
  Calls Tryz.prog 61 #[PT d, .string n, .bool true] w fun e w' => ∃ x F' m', e = .returned (PT x.p) ∧ x.name = n ∧ DomNew w w' max x ∧ DMS w' F' d s c max m' (D ++ [x]) ∧ NextS w.heap.size (DMS.S F D) (DMS.S F' (D ++ [x])) ∧ Turn (DMS.S F D) w w' := by
 have HL := Aside0.mk (fun (W : World) (hb : Below w.heap.size w W) => dm_load_out (h.mem.below hb) h.dm hn)
 have HC := Aside0.mk (fun (W : World) (hb : Below w.heap.size w W) => show W.cell? ⟨d, 1, none⟩ = some (.int .i64 max) ∧ W.cell? ⟨d, 2, none⟩ = some .nilFunc ∧ W.cell? ⟨d, 3, none⟩ = some .nilFunc ∧ W.cell? ⟨d, 0, none⟩ = some (PT s) from ⟨load_cell (h.mem.below hb) h.dm.d rfl, load_cell (h.mem.below hb) h.dm.d rfl, load_cell (h.mem.below hb) h.dm.d rfl, load_cell (h.mem.below hb) h.dm.d rfl⟩)
 have hdl := (h.mem _ _ _ h.dm.d).lt
 have hnf : ∀ W : World, (binOp .neq 87 .nilFunc .nilFunc).run Tryz.prog W = .ok (.bool false) W := fun W => by kernel_rfl
 have HDM := Aside0.mk h
 have HNN := Aside0.mk hn
 clear h hn
 go_enter Tryz.func61, Tryz.ntmps61
 go_upto_region 5 with (go_at_call 72; refine (HL.out _ ((((Below.refl _ _).alloc (Nat.le_refl _) _).alloc (by simp <;> omega) _).alloc (by simp <;> omega) _)).mono ?_; rintro e w2 ⟨rfl, rfl⟩)
 obtain ⟨W3, hW3⟩ : ∃ W3, W3 = (((w.alloc (Obj.cells #[PT d] 73)).alloc (Obj.cells #[Value.string n] 9)).alloc (Obj.cells #[Value.pointer none] 69)) := ⟨_, rfl⟩
 rw [← hW3]
 have hb3 : Below w.heap.size w W3 := by rw [hW3]; exact (((Below.refl _ _).alloc (Nat.le_refl _) _).alloc (by simp <;> omega) _).alloc (by simp <;> omega) _
 have hs3 : W3.heap.size = w.heap.size + 3 := by rw [hW3]; simp
 have h0 : W3.heap[w.heap.size]? = some (.cells #[PT d] 73 (0, 0)) := by
  rw [hW3, heap_alloc_old _ _ (by simp <;> omega), heap_alloc_old _ _ (by simp <;> omega)]
  exact heap_alloc_new _ _
 have h1 : W3.heap[w.heap.size + 1]? = some (.cells #[.string n] 9 (0, 0)) := by
  rw [hW3, heap_alloc_old _ _ (by simp <;> omega)]
  have := heap_alloc_new (w.alloc (Obj.cells #[PT d] 73)) (Obj.cells #[Value.string n] 9)
  simpa using this
 have h2 : W3.heap[w.heap.size + 1 + 1]? = some (.cells #[.pointer none] 69 (0, 0)) := by
  rw [hW3]
  have := heap_alloc_new ((w.alloc (Obj.cells #[PT d] 73)).alloc (Obj.cells #[Value.string n] 9)) (Obj.cells #[Value.pointer none] 69)
  simpa using this
 clear hW3 HL
 have c3 := cell_of_one h0
 obtain ⟨k1, k2, k3, k4⟩ := HC.out W3 hb3
 have hdl3 : d < W3.heap.size := by omega
 have HB3 := Aside0.mk hb3
 have H0 := Aside0.mk h0
 have H1 := Aside0.mk h1
 have H2 := Aside0.mk h2
 clear hb3 h0 h1 h2
 go_still_tail 8, (by kernel_rfl)
 change wpList _ _ _ _ _ W3.drew
 go_upto_region 6 with (go_at_call 73; refine (rm_new_mf max _).mono ?_; rintro e w4 ⟨pp, FF, ss, cc, rfl, hM, hR, hG, hk, hb⟩; have hb4 : Below W3.heap.size W3 w4 := ⟨hb.os, hb.tape, hb.output, hb.size, hb.block⟩; have h7 := (hb4.block (w.heap.size + 1 + 1) (by omega)).trans H2.out; have c7 := cell_of_one h7; have f7 := free_of_one h7; have HM := Aside0.mk hM; have HR := Aside0.mk hR; have HG := Aside0.mk hG; have HK := Aside0.mk (show ∀ k, FF k ≠ none → W3.heap.size ≤ k from hk); have HB4 := Aside0.mk hb4; have H7 := Aside0.mk h7; clear hM hR hG hk hb hb4 h7)
 have hk5 : ∀ k, k ≠ w.heap.size + 1 + 1 → k < W3.heap.size → (w4.setCell ⟨w.heap.size + 1 + 1, 0, none⟩ (PT pp)).heap[k]? = W3.heap[k]? := fun k hk1 hk2 => (Below.heap_setCell _ _ _ _ hk1).trans (HB4.out.block k hk2)
 have hb5 : Below w.heap.size w (w4.setCell ⟨w.heap.size + 1 + 1, 0, none⟩ (PT pp)) := (HB3.out.trans (HB4.out.mono (by omega))).setCell (by show w.heap.size ≤ w.heap.size + 1 + 1; omega) _
 have hs5 : (w4.setCell ⟨w.heap.size + 1 + 1, 0, none⟩ (PT pp)).heap.size = w4.heap.size := by simp
 have hs4 := HB4.out.size
 have hv7 := one_setCell (u := PT pp) H7.out
 have hM5 : Mem (w4.setCell ⟨w.heap.size + 1 + 1, 0, none⟩ (PT pp)) FF := fun k t pc hq => (HM.out k t pc hq).keep (Below.heap_setCell _ _ _ _ (fun e => by
  have e : k = w.heap.size + 1 + 1 := e
  have := HK.out k (by rw [hq]; exact Option.some_ne_none _)
  omega))
 generalize w4.setCell ⟨w.heap.size + 1 + 1, 0, none⟩ (PT pp) = w5 at *
 have c3' := cell_of_one ((hk5 w.heap.size (by omega) (by omega)).trans H0.out)
 have c4' := cell_of_one ((hk5 (w.heap.size + 1) (by omega) (by omega)).trans H1.out)
 have c7' := cell_of_one hv7
 obtain ⟨j1, j2, j3, j4⟩ := HC.out w5 hb5
 have h5 := HDM.out.below hb5
 have HST := Aside0.mk (sy_store (w := w5.drew) h5.mem.drew h5.dm.sy (by simp) n (PM pp))
 have HB5 := Aside0.mk hb5
 have HM5 := Aside0.mk hM5
 have H5 := Aside0.mk h5
 have HV7 := Aside0.mk hv7
 have HK5 := Aside0.mk hk5
 have hdl5 : d < w5.heap.size := by omega
 clear hk5 hb5 hM5 hv7 c3 c7 f7 k1 k2 k3 k4 h5
 go_upto_region 7 with (fail)
 go_still_tail 8, (by kernel_rfl)
 change wpList _ _ _ _ _ w5.drew
 have HNS := Aside0.mk (show ∀ k, k < w5.heap.size → w.heap.size ≤ k → F k = none from fun k hk1 hk2 => by
  cases hf : F k with
  | none => rfl
  | some z => exact absurd (HDM.out.mem k z.1 z.2 hf).lt (by omega))
 go_upto_region 8 with (go_at_call 66; refine HST.out.mono ?_; rintro e w6 ⟨rfl, m', F', g1, g2, g3, g4, g5⟩; have g5 : TurnF F w5 w6 := ⟨g5.os, g5.tape, g5.output, g5.size, g5.block⟩; have c3 := cell_of_one ((g5.block w.heap.size (by omega) (fun hx => hx (HNS.out _ (by omega) (Nat.le_refl _)))).trans ((HK5.out w.heap.size (by omega) (by omega)).trans H0.out)); have c7 := cell_of_one ((g5.block (w.heap.size + 1 + 1) (by omega) (fun hx => hx (HNS.out _ (by omega) (by omega)))).trans HV7.out); have k3 : w6.cell? ⟨d, 3, none⟩ = some .nilFunc := load_cell g1 (g3 _ _ _ HDM.out.dm.d (by simp)) rfl; have G1 := Aside0.mk g1; have G2 := Aside0.mk g2; have G3 := Aside0.mk g3; have G4 := Aside0.mk (show Next w5.heap.size F F' from g4); have G5 := Aside0.mk g5; have hs6 := g5.size; clear g1 g2 g3 g4 g5)
 have hdl6 : d < w6.heap.size := by omega
 clear c3' c4' c7' j1 j2 j3 j4
 go_wp2
 go_ret
 obtain ⟨x, hx⟩ : ∃ x : DomB, x = ⟨n, pp, ss, cc, none, [], [], FF⟩ := ⟨_, rfl⟩
 have hxF : x.F = FF := by rw [hx]
 have hxn : x.name = n := by rw [hx]
 have hxp : x.p = pp := by rw [hx]
 have hFl : ∀ k, F k ≠ none → k < w.heap.size := fun k hk => by
  cases hf : F k with
  | none => exact absurd hf hk
  | some z => exact (HDM.out.mem k z.1 z.2 hf).lt
 have hal : ∀ a ∈ D, ∀ k, a.F k ≠ none → k < w.heap.size := fun a ha k hk => by
  cases hf : a.F k with
  | none => exact absurd hf hk
  | some z => exact ((HDM.out.each a ha).mem k z.1 z.2 hf).lt
 have hFFn : ∀ k, k < w.heap.size → FF k = none := fun k hk => by
  cases hf : FF k with
  | none => rfl
  | some z => exact absurd (HK.out k (by rw [hf]; exact Option.some_ne_none _)) (by omega)
 have hin : DomIn w6 max x := by
  rw [hx]
  refine ⟨HM5.out.apart G5.out (fun k hk hF => hk (hFFn k (hFl k hF))), HR.out, HG.out⟩
 refine ⟨x, F', m', by rw [hxp]; rfl, hxn, ⟨hin, by rw [hx], fun k hk => ?_⟩, ⟨G1.out, ⟨G3.out _ _ _ HDM.out.dm.d (by simp), G2.out.s, ?_⟩, fun a ha => ?_, ?_, ?_, fun a ha k hk => ?_⟩, fun k hk => ?_, ?_⟩
 ·rw [hxF] at hk
  have := HK.out k hk
  omega
 ·have := G2.out.m
  rw [← hxp, putM_last HNN.out hxn] at this
  exact this
 ·rcases List.mem_append.1 ha with ha | ha
  ·have hd := H5.out.each a ha
   exact ⟨hd.mem.apart G5.out (fun k hk hF => hk (HDM.out.own a ha k hF)), hd.rm, hd.gr⟩
  ·rw [List.mem_singleton] at ha
   rw [ha]; exact hin
 ·rw [List.map_append, List.nodup_append]
  refine ⟨HDM.out.names, by simp, fun a ha b hb e => HNN.out ?_⟩
  rw [List.map_cons, List.map_nil, List.mem_singleton] at hb
  rw [← hxn, ← hb, ← e]; exact ha
 ·refine List.pairwise_append.2 ⟨HDM.out.dis, List.pairwise_singleton _ _, fun a ha b hb k hk => ?_⟩
  rw [List.mem_singleton] at hb
  rw [hb, hxF]; exact hFFn k (hal a ha k hk)
 ·rcases G4.out k hk with h1 | h1
  ·rcases List.mem_append.1 ha with ha | ha
   ·exact HDM.out.own a ha k h1
   ·rw [List.mem_singleton] at ha
    rw [ha, hxF]; exact hFFn k (hFl k h1)
  ·rcases List.mem_append.1 ha with ha | ha
   ·cases hf : a.F k with
    | none => rfl
    | some z => exact absurd (hal a ha k (by rw [hf]; exact Option.some_ne_none _)) (by omega)
   ·rw [List.mem_singleton] at ha
    rw [ha, hxF]
    cases hf : FF k with
    | none => rfl
    | some z => exact absurd (HM5.out k z.1 z.2 hf).lt (by omega)
 ·rcases hk with hk | ⟨a, ha, hk⟩
  ·rcases G4.out k hk with h1 | h1
   ·exact .inl (.inl h1)
   ·exact .inr (by omega)
  ·rcases List.mem_append.1 ha with ha | ha
   ·exact .inl (.inr ⟨a, ha, hk⟩)
   ·rw [List.mem_singleton] at ha
    rw [ha, hxF] at hk
    have := HK.out k hk
    exact .inr (by omega)
 ·exact (Turn.ofBelow _ HB5.out).trans (NextS.refl _ _) (G5.out.mono (fun k _ hk => .inl hk))
end
/-! A domain's manager that turns; the links of each domain. -/
section
open Go.Proofs
def repD (D : List DomB) (x' : DomB) : List DomB := D.map fun y => if y.name = x'.name then x' else y
def domE : List DomB → ByteArray → Edges
 | [], _ => []
 | x :: D, n => if x.name = n then x.E else domE D n
theorem domE_in {n : ByteArray} : ∀ {D : List DomB} {x : DomB}, (D.map (·.name)).Nodup → x ∈ D → x.name = n → domE D n = x.E
 | [], _, _, h, _ => by cases h
 | y :: D, x, hn, h, e => by
  rw [List.map_cons, List.nodup_cons] at hn
  unfold domE
  rcases List.mem_cons.1 h with rfl | h
  ·rw [if_pos e]
  ·rw [if_neg (fun g => hn.1 (by rw [g, ← e]; exact List.mem_map_of_mem h))]
   exact domE_in hn.2 h e
theorem domE_out {n : ByteArray} : ∀ {D : List DomB}, n ∉ D.map (·.name) → domE D n = []
 | [], _ => rfl
 | y :: D, h => by
  rw [List.map_cons, List.mem_cons, not_or] at h
  unfold domE
  rw [if_neg (fun e => h.1 e.symm)]
  exact domE_out h.2
theorem domE_add {n k : ByteArray} {x : DomB} (hx : x.name = n) (he : x.E = []) : ∀ {D : List DomB}, domE (D ++ [x]) k = domE D k
 | [] => by
  show (if x.name = k then x.E else []) = []
  rw [he]; split <;> rfl
 | y :: D => by
  show (if y.name = k then y.E else domE (D ++ [x]) k) = (if y.name = k then y.E else domE D k)
  rw [domE_add hx he]
theorem domE_rep {k : ByteArray} {x' : DomB} : ∀ {D : List DomB}, x'.name ∈ D.map (·.name) → domE (repD D x') k = if k = x'.name then x'.E else domE D k
 | [], h => by cases h
 | y :: D, h => by
  unfold repD
  rw [List.map_cons]
  show domE ((if y.name = x'.name then x' else y) :: repD D x') k = _
  by_cases e : y.name = x'.name
  ·rw [if_pos e]
   unfold domE
   by_cases g : x'.name = k
   ·rw [if_pos g, if_pos g.symm]
   ·rw [if_neg g, if_neg (fun z => g z.symm), if_neg (by rw [e]; exact g)]
    by_cases hm : x'.name ∈ D.map (·.name)
    ·rw [domE_rep hm, if_neg (fun z => g z.symm)]
    ·have : repD D x' = D := by
      unfold repD
      conv => rhs; rw [← List.map_id D]
      refine List.map_congr_left (fun z hz => ?_)
      rw [if_neg (fun q => hm (by rw [← q]; exact List.mem_map_of_mem hz))]; rfl
     rw [this]
  ·rw [if_neg e]
   unfold domE
   rw [List.map_cons, List.mem_cons] at h
   rw [domE_rep (h.resolve_left (fun z => e z.symm))]
   by_cases g : y.name = k
   ·rw [if_pos g, if_pos g, if_neg (fun z => e (by rw [g, z]))]
   ·rw [if_neg g, if_neg g]
theorem repD_names (D : List DomB) (x' : DomB) : (repD D x').map (·.name) = D.map (·.name) := by
 unfold repD
 rw [List.map_map]
 refine List.map_congr_left (fun y _ => ?_)
 show (if y.name = x'.name then x' else y).name = y.name
 split
 ·rename_i e; exact e.symm
 ·rfl
theorem same_dom {D : List DomB} (hn : (D.map (·.name)).Nodup) {x y : DomB} (hx : x ∈ D) (hy : y ∈ D) (e : x.name = y.name) : x = y := by
 induction D with
 | nil => cases hx
 | cons q l ih =>
  rw [List.map_cons, List.nodup_cons] at hn
  rcases List.mem_cons.1 hx with g1 | g1
  ·rcases List.mem_cons.1 hy with g2 | g2
   ·exact g1.trans g2.symm
   ·exact absurd (by rw [← g1, e]; exact List.mem_map_of_mem g2) hn.1
  ·rcases List.mem_cons.1 hy with g2 | g2
   ·exact absurd (by rw [← g2, ← e]; exact List.mem_map_of_mem g1) hn.1
   ·exact ih hn.2 g1 g2
theorem DMS.upd {w w' : World} {F : Fp} {d s c : Nat} {max : Int} {m : Option Nat} {D : List DomB} (h : DMS w F d s c max m D) {x x' : DomB} (hx : x ∈ D) (hn : x'.name = x.name) (hp : x'.p = x.p) (hin : DomIn w' max x') (hN : Next w.heap.size x.F x'.F) (hT : TurnF x.F w w') :
  DMS w' F d s c max m (repD D x') ∧ NextS w.heap.size (DMS.S F D) (DMS.S F (repD D x')) ∧ Turn (DMS.S F D) w w' := by
 have hFl : ∀ k, F k ≠ none → k < w.heap.size := fun k hk => by
  cases hf : F k with
  | none => exact absurd hf hk
  | some z => exact (h.mem k z.1 z.2 hf).lt
 have hal : ∀ a ∈ D, ∀ k, a.F k ≠ none → k < w.heap.size := fun a ha k hk => by
  cases hf : a.F k with
  | none => exact absurd hf hk
  | some z => exact ((h.each a ha).mem k z.1 z.2 hf).lt
 have hsep : ∀ a ∈ D, a.name ≠ x.name → ∀ k, a.F k ≠ none → x.F k = none := fun a ha hne k hk => by
  have hpw : ∀ a ∈ D, ∀ b ∈ D, a.name ≠ b.name → ∀ k, a.F k ≠ none → b.F k = none := by
   have hd := h.dis
   clear hFl hal hk hne ha hin hN hT hn hp h hx
   induction D with
   | nil => intro a ha; cases ha
   | cons q l ih =>
    rw [List.pairwise_cons] at hd
    intro a ha b hb hne k hk
    rcases List.mem_cons.1 ha with e1 | ha2
    ·rcases List.mem_cons.1 hb with e2 | hb2
     ·exact absurd (by rw [e1, e2]) hne
     ·rw [e1] at hk
      exact hd.1 b hb2 k hk
    ·rcases List.mem_cons.1 hb with e2 | hb2
     ·rw [e2]
      cases hf : q.F k with
      | none => rfl
      | some z => exact absurd (hd.1 a ha2 k (by rw [hf]; exact Option.some_ne_none _)) hk
     ·exact ih hd.2 a ha2 b hb2 hne k hk
  exact hpw a ha x hx hne k hk
 have hsep' : ∀ a ∈ D, a.name ≠ x.name → ∀ k, a.F k ≠ none → x'.F k = none := fun a ha hne k hk => by
  cases hf : x'.F k with
  | none => rfl
  | some z =>
   rcases hN k (by show x'.F k ≠ none; rw [hf]; exact Option.some_ne_none _) with h1 | h1
   ·exact absurd (hsep a ha hne k hk) h1
   ·have := hal a ha k hk
    omega
 have hnn : ∀ y : DomB, y.name = x'.name ↔ y.name = x.name := fun y => by rw [hn]
 refine ⟨⟨h.mem.apart hT (fun k hk hx2 => hx2 (h.own x hx k hk)), ⟨h.dm.d, h.dm.s, ?_⟩, fun y hy => ?_, by rw [repD_names]; exact h.names, ?_, fun y hy k hk => ?_⟩, fun k hk => ?_, hT.mono (fun k _ hk => .inr ⟨x, hx, hk⟩)⟩
 ·have e : entsM (repD D x') = entsM D := by
   unfold entsM repD
   rw [List.map_map]
   refine List.map_congr_left (fun y hy => ?_)
   show ((if y.name = x'.name then x' else y).name, PM (if y.name = x'.name then x' else y).p) = _
   by_cases g : y.name = x'.name
   ·rw [if_pos g, g, hp, same_dom h.names hy hx ((hnn y).1 g)]
   ·rw [if_neg g]
  rw [e]; exact h.dm.m
 ·obtain ⟨z, hz, rfl⟩ := List.mem_map.1 hy
  show DomIn w' max (if z.name = x'.name then x' else z)
  by_cases g : z.name = x'.name
  ·rw [if_pos g]; exact hin
  ·rw [if_neg g]
   have hd := h.each z hz
   exact ⟨hd.mem.apart hT (fun k hk hx2 => hx2 (hsep z hz (fun e => g ((hnn z).2 e)) k hk)), hd.rm, hd.gr⟩
 ·refine List.pairwise_map.2 (List.Pairwise.imp_of_mem (fun {a b} ha hb hab => ?_) (List.Pairwise.and h.dis (List.pairwise_map.1 h.names)))
  intro k hk
  show (if b.name = x'.name then x' else b).F k = none
  have hk : (if a.name = x'.name then x' else a).F k ≠ none := hk
  have hne := hab.2
  by_cases ga : a.name = x'.name
  ·have gb : ¬ b.name = x'.name := fun e => hne (ga.trans e.symm)
   rw [if_pos ga] at hk
   rw [if_neg gb]
   cases hf : b.F k with
   | none => rfl
   | some z => exact absurd (hsep' b hb (fun e => gb ((hnn b).2 e)) k (by rw [hf]; exact Option.some_ne_none _)) hk
  ·rw [if_neg ga] at hk
   by_cases gb : b.name = x'.name
   ·rw [if_pos gb]
    exact hsep' a ha (fun e => ga ((hnn a).2 e)) k hk
   ·rw [if_neg gb]; exact hab.1 k hk
 ·obtain ⟨z, hz, rfl⟩ := List.mem_map.1 hy
  show (if z.name = x'.name then x' else z).F k = none
  by_cases g : z.name = x'.name
  ·rw [if_pos g]
   cases hf : x'.F k with
   | none => rfl
   | some q =>
    rcases hN k (by show x'.F k ≠ none; rw [hf]; exact Option.some_ne_none _) with h1 | h1
    ·exact absurd (h.own x hx k hk) h1
    ·have := hFl k hk
     omega
  ·rw [if_neg g]; exact h.own z hz k hk
 ·rcases hk with hk | ⟨y, hy, hk⟩
  ·exact .inl (.inl hk)
  ·obtain ⟨z, hz, rfl⟩ := List.mem_map.1 hy
   have hk : (if z.name = x'.name then x' else z).F k ≠ none := hk
   by_cases g : z.name = x'.name
   ·rw [if_pos g] at hk
    exact (hN k hk).imp_left (fun h1 => .inr ⟨x, hx, h1⟩)
   ·rw [if_neg g] at hk
    exact .inl (.inr ⟨z, hz, hk⟩)
end
/-! What a deed, or a question, leaves of a manager of domains. -/
section
open Go.Proofs
def addK (K : List ByteArray) (k : ByteArray) : List ByteArray := if k ∈ K then K else K ++ [k]
def DMPost (K : List ByteArray) (w : World) (F : Fp) (d s c : Nat) (max : Int) (D : List DomB) (Ef : ByteArray → Edges) (w' : World) : Prop :=
 ∃ F' m' D', DMS w' F' d s c max m' D' ∧ (∀ k, domE D' k = Ef k) ∧ NextS w.heap.size (DMS.S F D) (DMS.S F' D') ∧ Turn (DMS.S F D) w w' ∧ D'.map (·.name) = K
theorem DMS.did {w w' : World} {F : Fp} {d s c : Nat} {max : Int} {m : Option Nat} {D : List DomB} (h : DMS w F d s c max m D) {x : DomB} (hx : x ∈ D) {E' : Edges} (hp : RMPost x.F w x.p x.s x.c max mc0 E' w') : DMPost (D.map (·.name)) w F d s c max D (fun k => if k = x.name then E' else domE D k) w' := by
 obtain ⟨F', m', L', g1, g2, g3, g4, g5⟩ := hp
 obtain ⟨k1, k2, k3⟩ := h.upd (x' := { x with F := F', m := m', L := L', E := E' }) hx rfl rfl ⟨g1, g2, g3⟩ g4 g5
 exact ⟨F, m, _, k1, fun k => domE_rep (x' := { x with F := F', m := m', L := L', E := E' }) (show x.name ∈ D.map (·.name) from List.mem_map_of_mem hx), k2, k3, repD_names _ _⟩
theorem DMS.asked {w w1 w2 : World} {F : Fp} {d s c : Nat} {max : Int} {m : Option Nat} {D : List DomB} (h : DMS w F d s c max m D) (hb : Below w.heap.size w w1) {x : DomB} (hx : x ∈ D ∨ ∀ k, x.F k ≠ none → w.heap.size ≤ k) (hp : RMPost x.F w1 x.p x.s x.c max mc0 x.E w2) : DMPost (D.map (·.name)) w F d s c max D (domE D) w2 := by
 rcases hx with hx | hx
 ·obtain ⟨F', m', D', g1, g2, g3, g4, g5⟩ := (h.below hb).did hx hp
  refine ⟨F', m', D', g1, fun k => ?_, fun k hk => (g3 k hk).imp_right (fun h1 => Nat.le_trans hb.size h1), (Turn.ofBelow _ hb).trans (NextS.refl _ _) g4, g5⟩
  rw [g2]
  show (if k = x.name then x.E else domE D k) = _
  by_cases e : k = x.name
  ·rw [if_pos e, domE_in h.names hx e.symm]
  ·rw [if_neg e]
 ·obtain ⟨F', m', L', g1, g2, g3, g4, g5⟩ := hp
  have hb2 : Below w.heap.size w w2 := Turn.toBelow hb g5 hb.size (fun k hk => hx k hk)
  exact ⟨F, m, D, h.below hb2, fun _ => rfl, NextS.refl _ _, Turn.ofBelow _ hb2, rfl⟩
/-- the domain's manager, made where there is none -/
theorem dm_get_true {F : Fp} {w : World} {d s c : Nat} {max : Int} {m : Option Nat} {D : List DomB} (h : DMS w F d s c max m D) (n : ByteArray) :
  Calls Tryz.prog 61 #[PT d, .string n, .bool true] w fun e w' => ∃ x F' m' D', e = .returned (PT x.p) ∧ x.name = n ∧ x ∈ D' ∧ x.E = domE D n ∧ DMS w' F' d s c max m' D' ∧ (∀ k, domE D' k = domE D k) ∧ NextS w.heap.size (DMS.S F D) (DMS.S F' D') ∧ Turn (DMS.S F D) w w' ∧ D'.map (·.name) = addK (D.map (·.name)) n := by
 by_cases hn : n ∈ D.map (·.name)
 ·obtain ⟨x, hx, rfl⟩ := List.mem_map.1 hn
  refine (dm_get_in h hx true).mono ?_
  rintro e w' ⟨rfl, hb⟩
  exact ⟨x, F, m, D, rfl, rfl, hx, (domE_in h.names hx rfl).symm, h.below hb, fun _ => rfl, NextS.refl _ _, Turn.ofBelow _ hb, (if_pos (List.mem_map_of_mem hx)).symm⟩
 ·refine (dm_get_made h hn).mono ?_
  rintro e w' ⟨x, F', m', rfl, hxn, hx, h', h1, h2⟩
  exact ⟨x, F', m', _, rfl, hxn, by simp, by rw [hx.e, domE_out hn], h', fun k => domE_add hxn hx.e, h1, h2, by unfold addK; rw [if_neg hn, List.map_append, ← hxn]; rfl⟩
theorem dm_get_false {F : Fp} {w : World} {d s c : Nat} {max : Int} {m : Option Nat} {D : List DomB} (h : DMS w F d s c max m D) (n : ByteArray) :
  Calls Tryz.prog 61 #[PT d, .string n, .bool false] w fun e w' => ∃ x, e = .returned (PT x.p) ∧ DomIn w' max x ∧ x.E = domE D n ∧ (x ∈ D ∨ ∀ k, x.F k ≠ none → w.heap.size ≤ k) ∧ Below w.heap.size w w' := by
 by_cases hn : n ∈ D.map (·.name)
 ·obtain ⟨x, hx, rfl⟩ := List.mem_map.1 hn
  refine (dm_get_in h hx false).mono ?_
  rintro e w' ⟨rfl, hb⟩
  exact ⟨x, rfl, (h.each x hx).below hb, (domE_in h.names hx rfl).symm, .inl hx, hb⟩
 ·refine (dm_get_out h hn).mono ?_
  rintro e w' ⟨x, rfl, hxn, hx, hb⟩
  exact ⟨x, rfl, hx.dom, by rw [hx.e, domE_out hn], .inr hx.new, hb⟩
end
/-! The deeds of a manager of domains. -/
section
open Go.Proofs
theorem DMS.slt {w : World} {F : Fp} {d s c : Nat} {max : Int} {m : Option Nat} {D : List DomB} (h : DMS w F d s c max m D) : ∀ k, DMS.S F D k → k < w.heap.size := by
 rintro k (hk | ⟨x, hx, hk⟩)
 ·cases hf : F k with
  | none => exact absurd hf hk
  | some z => exact (h.mem k z.1 z.2 hf).lt
 ·cases hf : x.F k with
  | none => exact absurd hf hk
  | some z => exact ((h.each x hx).mem k z.1 z.2 hf).lt
set_option maxHeartbeats 4000000 in
set_option maxRecDepth 100000 in
theorem dm_range {w : World} {d : Nat} {dom : ByteArray} (fn : Fn) (first cap : Array Value) (h3 : w.cell? ⟨d, 3, none⟩ = some .nilFunc) (hdl : d < w.heap.size) :
  Calls Tryz.prog 62 #[PT d, .string dom, .func fn first cap] w fun e w' => e = .returned (.tuple #[]) ∧ Below w.heap.size w w' := by
 have hnf : ∀ W : World, (binOp .neq 87 .nilFunc .nilFunc).run Tryz.prog W = .ok (.bool false) W := fun W => by kernel_rfl
 have hb3 : ∀ o1 o2 o3, Below w.heap.size w (((w.alloc o1).alloc o2).alloc o3) := fun _ _ _ => (((Below.refl _ _).alloc (Nat.le_refl _) _).alloc (by simp <;> omega) _).alloc (by simp <;> omega) _
 have k3 : ∀ o1 o2 o3, (((w.alloc o1).alloc o2).alloc o3).cell? ⟨d, 3, none⟩ = some .nilFunc := fun o1 o2 o3 => by rw [(hb3 o1 o2 o3).cell (by exact hdl)]; exact h3
 have HB := Aside0.mk hb3
 clear hb3
 go_enter Tryz.func62, Tryz.ntmps62
 go_wp2
 go_end0
 exact ⟨rfl, HB.out _ _ _⟩
set_option maxHeartbeats 8000000 in
set_option maxRecDepth 100000 in
theorem dm_add {F : Fp} {w : World} {d s c : Nat} {max : Int} {m : Option Nat} {D : List DomB} (h : DMS w F d s c max m D) (u r dom : ByteArray) {b : Nat} (hb : w.cell? ⟨b, 0, none⟩ = some (.string dom)) :
  Calls Tryz.prog 54 #[PT d, .string u, .string r, .slice (some ⟨b, 0, none⟩) 1 1] w fun e w' => e = .returned .nilIface ∧ DMPost (addK (D.map (·.name)) dom) w F d s c max D (fun k => if k = dom then addE (domE D dom) u r else domE D k) w' := by
 have hbl := World.block_lt_of_cell? w _ hb
 have HD := Aside0.mk h
 have HBC := Aside0.mk hb
 clear h hb
 go_enter Tryz.func54, Tryz.ntmps54
 go_upto_region 1 with (fail)
 obtain ⟨W3, hW3⟩ : ∃ W3, W3 = (((w.alloc (Obj.cells #[Value.string u] 9)).alloc (Obj.cells #[Value.string r] 9)).alloc (Obj.cells #[Value.slice (some ⟨b, 0, none⟩) 1 1] 38)) := ⟨_, rfl⟩
 rw [← hW3]
 have hb3 : Below w.heap.size w W3 := by rw [hW3]; exact (((Below.refl _ _).alloc (Nat.le_refl _) _).alloc (by simp <;> omega) _).alloc (by simp <;> omega) _
 have hs3 : W3.heap.size = w.heap.size + 3 := by rw [hW3]; simp
 have h0 : W3.heap[w.heap.size]? = some (.cells #[.string u] 9 (0, 0)) := by
  rw [hW3, heap_alloc_old _ _ (by simp <;> omega), heap_alloc_old _ _ (by simp <;> omega)]
  exact heap_alloc_new _ _
 have h1 : W3.heap[w.heap.size + 1]? = some (.cells #[.string r] 9 (0, 0)) := by
  rw [hW3, heap_alloc_old _ _ (by simp <;> omega)]
  have := heap_alloc_new (w.alloc (Obj.cells #[Value.string u] 9)) (Obj.cells #[Value.string r] 9)
  simpa using this
 have h2 : W3.heap[w.heap.size + 1 + 1]? = some (.cells #[.slice (some ⟨b, 0, none⟩) 1 1] 38 (0, 0)) := by
  rw [hW3]
  have := heap_alloc_new ((w.alloc (Obj.cells #[Value.string u] 9)).alloc (Obj.cells #[Value.string r] 9)) (Obj.cells #[Value.slice (some ⟨b, 0, none⟩) 1 1] 38)
  simpa using this
 clear hW3
 have hbc : W3.cell? ⟨b, 0, none⟩ = some (.string dom) := by rw [hb3.cell (by exact hbl)]; exact HBC.out
 have c2 := cell_of_one h2
 have HG := Aside0.mk (dm_get_true (HD.out.below hb3) dom)
 have HB3 := Aside0.mk hb3
 have H0 := Aside0.mk h0
 have H1 := Aside0.mk h1
 have H2 := Aside0.mk h2
 have hnf : ∀ W : World, (binOp .neq 87 .nilFunc .nilFunc).run Tryz.prog W = .ok (.bool false) W := fun W => by kernel_rfl
 have hmf : ∀ (fn : Fn) (first cap : Array Value) (w : World), (Instr.makeFunc fn first cap).run Tryz.prog w = .ok (.func fn first cap) w := fun _ _ _ _ => rfl
 have HSL := Aside0.mk (show ∀ k, DMS.S F D k → k < w.heap.size from fun k hk => HD.out.slt k hk)
 clear hb3 h0 h1 h2
 go_upto_region 4 with (go_at_call 60; refine (get_domain (PT d) hbc).mono ?_; rintro e w2 ⟨rfl, rfl⟩)
 go_upto_region 5 with (go_at_call 61; refine HG.out.mono ?_; rintro e w4 ⟨x, F', m', D', rfl, hxn, hx, hxE, hdm, hE, hN, hT, hK⟩; have HK := Aside0.mk hK; clear hK; have k0 := (hT.block w.heap.size (by omega) (fun hk => Nat.lt_irrefl _ (HSL.out _ hk))).trans H0.out; have k1 := (hT.block (w.heap.size + 1) (by omega) (fun hk => by have := HSL.out _ hk; omega)).trans H1.out; have k2 := (hT.block (w.heap.size + 1 + 1) (by omega) (fun hk => by have := HSL.out _ hk; omega)).trans H2.out; have e0 := cell_of_one k0; have e1 := cell_of_one k1; have e2 := cell_of_one k2; have HX := Aside0.mk hx; have HXN := Aside0.mk hxn; have HXE := Aside0.mk hxE; have HDM := Aside0.mk hdm; have HEE := Aside0.mk hE; have HN := Aside0.mk hN; have HT := Aside0.mk hT; clear k0 k1 k2 hx hxn hxE hdm hE hN hT)
 have hin := HDM.out.each x HX.out
 have HAL := Aside0.mk (add_link hin.mem hin.rm hin.gr u r (.slice (some ⟨b, 0, none⟩) 1 1))
 clear hin c2
 go_upto_region 6 with (go_at_call 50; refine HAL.out.mono ?_; rintro e w5 ⟨rfl, hp⟩; have HP := Aside0.mk (HDM.out.did HX.out hp); clear hp)
 obtain ⟨F9, m9, D9, q1, q2, q3, q4, q5⟩ := HP.out
 have j3 : w5.cell? ⟨d, 3, none⟩ = some .nilFunc := load_cell q1.mem q1.dm.d rfl
 have HQ1 := Aside0.mk q1
 have HQ2 := Aside0.mk q2
 have HQ3 := Aside0.mk q3
 have HQ4 := Aside0.mk q4
 have HQ5 := Aside0.mk q5
 have HRA := Aside0.mk (fun fn first cap => dm_range (dom := dom) fn first cap j3 (q1.mem _ _ _ q1.dm.d).lt)
 clear q1 q2 q3 q4 q5
 go_wp2_with (go_at_call 62; refine (HRA.out _ _ _).mono ?_; rintro e w6 ⟨rfl, hb⟩; have HB6 := Aside0.mk hb; clear hb)
 go_ret
 refine ⟨rfl, F9, m9, D9, HQ1.out.below HB6.out, fun k => ?_, fun k hk => ?_, ?_, HQ5.out.trans HK.out⟩
 ·rw [HQ2.out]
  show (if k = x.name then addE x.E u r else domE D' k) = _
  rw [HXN.out, HXE.out, HEE.out]
 ·rcases HQ3.out k hk with h1 | h1
  ·exact (HN.out k h1).imp_right (fun h2 => Nat.le_trans HB3.out.size h2)
  ·have := HT.out.size
   exact .inr (by omega)
 ·exact (((Turn.ofBelow _ HB3.out).trans (NextS.refl _ _) HT.out).trans (fun k hk => (HN.out k hk).imp_right (fun h2 => Nat.le_trans HB3.out.size h2)) HQ4.out).trans (fun k hk => by
   rcases HQ3.out k hk with h1 | h1
   ·exact (HN.out k h1).imp_right (fun h2 => Nat.le_trans HB3.out.size h2)
   ·have := HT.out.size
    exact .inr (by omega)) (Turn.ofBelow _ HB6.out)
set_option maxHeartbeats 8000000 in
set_option maxRecDepth 100000 in
theorem dm_del {F : Fp} {w : World} {d s c : Nat} {max : Int} {m : Option Nat} {D : List DomB} (h : DMS w F d s c max m D) (u r dom : ByteArray) {b : Nat} (hb : w.cell? ⟨b, 0, none⟩ = some (.string dom)) :
  Calls Tryz.prog 153 #[PT d, .string u, .string r, .slice (some ⟨b, 0, none⟩) 1 1] w fun e w' => e = .returned .nilIface ∧ DMPost (addK (D.map (·.name)) dom) w F d s c max D (fun k => if k = dom then delE (domE D dom) u r else domE D k) w' := by
 have hbl := World.block_lt_of_cell? w _ hb
 have HD := Aside0.mk h
 have HBC := Aside0.mk hb
 clear h hb
 go_enter Tryz.func153, Tryz.ntmps153
 go_upto_region 1 with (fail)
 obtain ⟨W3, hW3⟩ : ∃ W3, W3 = (((w.alloc (Obj.cells #[Value.string u] 9)).alloc (Obj.cells #[Value.string r] 9)).alloc (Obj.cells #[Value.slice (some ⟨b, 0, none⟩) 1 1] 38)) := ⟨_, rfl⟩
 rw [← hW3]
 have hb3 : Below w.heap.size w W3 := by rw [hW3]; exact (((Below.refl _ _).alloc (Nat.le_refl _) _).alloc (by simp <;> omega) _).alloc (by simp <;> omega) _
 have hs3 : W3.heap.size = w.heap.size + 3 := by rw [hW3]; simp
 have h0 : W3.heap[w.heap.size]? = some (.cells #[.string u] 9 (0, 0)) := by
  rw [hW3, heap_alloc_old _ _ (by simp <;> omega), heap_alloc_old _ _ (by simp <;> omega)]
  exact heap_alloc_new _ _
 have h1 : W3.heap[w.heap.size + 1]? = some (.cells #[.string r] 9 (0, 0)) := by
  rw [hW3, heap_alloc_old _ _ (by simp <;> omega)]
  have := heap_alloc_new (w.alloc (Obj.cells #[Value.string u] 9)) (Obj.cells #[Value.string r] 9)
  simpa using this
 have h2 : W3.heap[w.heap.size + 1 + 1]? = some (.cells #[.slice (some ⟨b, 0, none⟩) 1 1] 38 (0, 0)) := by
  rw [hW3]
  have := heap_alloc_new ((w.alloc (Obj.cells #[Value.string u] 9)).alloc (Obj.cells #[Value.string r] 9)) (Obj.cells #[Value.slice (some ⟨b, 0, none⟩) 1 1] 38)
  simpa using this
 clear hW3
 have hbc : W3.cell? ⟨b, 0, none⟩ = some (.string dom) := by rw [hb3.cell (by exact hbl)]; exact HBC.out
 have c2 := cell_of_one h2
 have HG := Aside0.mk (dm_get_true (HD.out.below hb3) dom)
 have HB3 := Aside0.mk hb3
 have H0 := Aside0.mk h0
 have H1 := Aside0.mk h1
 have H2 := Aside0.mk h2
 have hnf : ∀ W : World, (binOp .neq 87 .nilFunc .nilFunc).run Tryz.prog W = .ok (.bool false) W := fun W => by kernel_rfl
 have hmf : ∀ (fn : Fn) (first cap : Array Value) (w : World), (Instr.makeFunc fn first cap).run Tryz.prog w = .ok (.func fn first cap) w := fun _ _ _ _ => rfl
 have HSL := Aside0.mk (show ∀ k, DMS.S F D k → k < w.heap.size from fun k hk => HD.out.slt k hk)
 clear hb3 h0 h1 h2
 go_upto_region 4 with (go_at_call 60; refine (get_domain (PT d) hbc).mono ?_; rintro e w2 ⟨rfl, rfl⟩)
 go_upto_region 5 with (go_at_call 61; refine HG.out.mono ?_; rintro e w4 ⟨x, F', m', D', rfl, hxn, hx, hxE, hdm, hE, hN, hT, hK⟩; have HK := Aside0.mk hK; clear hK; have k0 := (hT.block w.heap.size (by omega) (fun hk => Nat.lt_irrefl _ (HSL.out _ hk))).trans H0.out; have k1 := (hT.block (w.heap.size + 1) (by omega) (fun hk => by have := HSL.out _ hk; omega)).trans H1.out; have k2 := (hT.block (w.heap.size + 1 + 1) (by omega) (fun hk => by have := HSL.out _ hk; omega)).trans H2.out; have e0 := cell_of_one k0; have e1 := cell_of_one k1; have e2 := cell_of_one k2; have HX := Aside0.mk hx; have HXN := Aside0.mk hxn; have HXE := Aside0.mk hxE; have HDM := Aside0.mk hdm; have HEE := Aside0.mk hE; have HN := Aside0.mk hN; have HT := Aside0.mk hT; clear k0 k1 k2 hx hxn hxE hdm hE hN hT)
 have hin := HDM.out.each x HX.out
 have HAL := Aside0.mk (delete_link hin.mem hin.rm hin.gr u r (.slice (some ⟨b, 0, none⟩) 1 1))
 clear hin c2
 go_upto_region 6 with (go_at_call 98; refine HAL.out.mono ?_; rintro e w5 ⟨rfl, hp⟩; have HP := Aside0.mk (HDM.out.did HX.out hp); clear hp)
 obtain ⟨F9, m9, D9, q1, q2, q3, q4, q5⟩ := HP.out
 have j3 : w5.cell? ⟨d, 3, none⟩ = some .nilFunc := load_cell q1.mem q1.dm.d rfl
 have HQ1 := Aside0.mk q1
 have HQ2 := Aside0.mk q2
 have HQ3 := Aside0.mk q3
 have HQ4 := Aside0.mk q4
 have HQ5 := Aside0.mk q5
 have HRA := Aside0.mk (fun fn first cap => dm_range (dom := dom) fn first cap j3 (q1.mem _ _ _ q1.dm.d).lt)
 clear q1 q2 q3 q4 q5
 go_wp2_with (go_at_call 62; refine (HRA.out _ _ _).mono ?_; rintro e w6 ⟨rfl, hb⟩; have HB6 := Aside0.mk hb; clear hb)
 go_ret
 refine ⟨rfl, F9, m9, D9, HQ1.out.below HB6.out, fun k => ?_, fun k hk => ?_, ?_, HQ5.out.trans HK.out⟩
 ·rw [HQ2.out]
  show (if k = x.name then delE x.E u r else domE D' k) = _
  rw [HXN.out, HXE.out, HEE.out]
 ·rcases HQ3.out k hk with h1 | h1
  ·exact (HN.out k h1).imp_right (fun h2 => Nat.le_trans HB3.out.size h2)
  ·have := HT.out.size
   exact .inr (by omega)
 ·exact (((Turn.ofBelow _ HB3.out).trans (NextS.refl _ _) HT.out).trans (fun k hk => (HN.out k hk).imp_right (fun h2 => Nat.le_trans HB3.out.size h2)) HQ4.out).trans (fun k hk => by
   rcases HQ3.out k hk with h1 | h1
   ·exact (HN.out k h1).imp_right (fun h2 => Nat.le_trans HB3.out.size h2)
   ·have := HT.out.size
    exact .inr (by omega)) (Turn.ofBelow _ HB6.out)
end
/-! The questions of a manager of domains. -/
section
open Go.Proofs
set_option maxHeartbeats 8000000 in
set_option maxRecDepth 100000 in
theorem dm_roles {F : Fp} {w : World} {d s c : Nat} {max : Int} {m : Option Nat} {D : List DomB} (h : DMS w F d s c max m D) (n dom : ByteArray) (hE : EOk (domE D dom)) {b : Nat} (hb : w.cell? ⟨b, 0, none⟩ = some (.string dom)) :
  Calls Tryz.prog 158 #[PT d, .string n, .slice (some ⟨b, 0, none⟩) 1 1] w fun e w' => ∃ v l, e = .returned (.tuple #[v, .nilIface]) ∧ l.Perm (rolesE (domE D dom) n) ∧ Kd.R Kd.string 9 w' w.heap.size (fun _ => True) v l ∧ DMPost (D.map (·.name)) w F d s c max D (domE D) w' := by
 have HG := Aside0.mk (dm_get_false h dom)
 have HD := Aside0.mk h
 have HE := Aside0.mk hE
 clear h hE
 go_enter Tryz.func158, Tryz.ntmps158
 go_upto_region 4 with (go_at_call 60; refine (get_domain (PT d) hb).mono ?_; rintro e w2 ⟨rfl, rfl⟩)
 go_upto_region 5 with (go_at_call 61; refine HG.out.mono ?_; rintro e w4 ⟨x, rfl, hin, hxE, hx, hb4⟩)
 have HAL := Aside0.mk (rm_roles hin.mem hin.rm hin.gr (by rw [hxE]; exact HE.out) n (.slice (some ⟨b, 0, none⟩) 1 1))
 have HF := Aside0.mk (fun w5 (hp : RMPost x.F w4 x.p x.s x.c max mc0 x.E w5) => HD.out.asked hb4 hx hp)
 have HXE := Aside0.mk hxE
 have HSZ := Aside0.mk hb4.size
 clear hin hx hb4 hxE HG
 go_wp2_with (go_at_call 103; refine HAL.out.mono ?_; rintro e w5 ⟨v, l, rfl, hl, hr, hp⟩; have HL := Aside0.mk hl; have HR := Aside0.mk hr; have HP := Aside0.mk (HF.out _ hp); clear hl hr hp)
 go_ret2
 have hl := HL.out
 rw [HXE.out] at hl
 exact ⟨v, l, rfl, hl, Kd.R_lower HR.out HSZ.out, HP.out⟩
set_option maxHeartbeats 8000000 in
set_option maxRecDepth 100000 in
theorem dm_users {F : Fp} {w : World} {d s c : Nat} {max : Int} {m : Option Nat} {D : List DomB} (h : DMS w F d s c max m D) (n dom : ByteArray) (hE : EOk (domE D dom)) {b : Nat} (hb : w.cell? ⟨b, 0, none⟩ = some (.string dom)) :
  Calls Tryz.prog 159 #[PT d, .string n, .slice (some ⟨b, 0, none⟩) 1 1] w fun e w' => ∃ v l, e = .returned (.tuple #[v, .nilIface]) ∧ l.Perm (usersE (domE D dom) n) ∧ Kd.R Kd.string 9 w' w.heap.size (fun _ => True) v l ∧ DMPost (D.map (·.name)) w F d s c max D (domE D) w' := by
 have HG := Aside0.mk (dm_get_false h dom)
 have HD := Aside0.mk h
 have HE := Aside0.mk hE
 clear h hE
 go_enter Tryz.func159, Tryz.ntmps159
 go_upto_region 4 with (go_at_call 60; refine (get_domain (PT d) hb).mono ?_; rintro e w2 ⟨rfl, rfl⟩)
 go_upto_region 5 with (go_at_call 61; refine HG.out.mono ?_; rintro e w4 ⟨x, rfl, hin, hxE, hx, hb4⟩)
 have HAL := Aside0.mk (rm_users hin.mem hin.rm hin.gr (by rw [hxE]; exact HE.out) n (.slice (some ⟨b, 0, none⟩) 1 1))
 have HF := Aside0.mk (fun w5 (hp : RMPost x.F w4 x.p x.s x.c max mc0 x.E w5) => HD.out.asked hb4 hx hp)
 have HXE := Aside0.mk hxE
 have HSZ := Aside0.mk hb4.size
 clear hin hx hb4 hxE HG
 go_wp2_with (go_at_call 104; refine HAL.out.mono ?_; rintro e w5 ⟨v, l, rfl, hl, hr, hp⟩; have HL := Aside0.mk hl; have HR := Aside0.mk hr; have HP := Aside0.mk (HF.out _ hp); clear hl hr hp)
 go_ret2
 have hl := HL.out
 rw [HXE.out] at hl
 exact ⟨v, l, rfl, hl, Kd.R_lower HR.out HSZ.out, HP.out⟩
set_option maxHeartbeats 8000000 in
set_option maxRecDepth 100000 in
theorem dm_imp_roles {F : Fp} {w : World} {d s c : Nat} {max : Int} {m : Option Nat} {D : List DomB} (hmax : 0 ≤ max ∧ max ≤ 1000000) (h : DMS w F d s c max m D) (n dom : ByteArray) (hE : EOk (domE D dom)) {b : Nat} (hb : w.cell? ⟨b, 0, none⟩ = some (.string dom)) :
  Calls Tryz.prog 156 #[PT d, .string n, .slice (some ⟨b, 0, none⟩) 1 1] w fun e w' => ∃ v l, e = .returned (.tuple #[v, .nilIface]) ∧ l.Perm (impl (rolesE (domE D dom)) max.toNat n) ∧ Kd.R Kd.string 9 w' w.heap.size (fun _ => True) v l ∧ DMPost (D.map (·.name)) w F d s c max D (domE D) w' := by
 have HG := Aside0.mk (dm_get_false h dom)
 have HD := Aside0.mk h
 have HE := Aside0.mk hE
 clear h hE
 go_enter Tryz.func156, Tryz.ntmps156
 go_upto_region 4 with (go_at_call 60; refine (get_domain (PT d) hb).mono ?_; rintro e w2 ⟨rfl, rfl⟩)
 go_upto_region 5 with (go_at_call 61; refine HG.out.mono ?_; rintro e w4 ⟨x, rfl, hin, hxE, hx, hb4⟩)
 have HAL := Aside0.mk (rm_imp_roles hmax hin.mem hin.rm hin.gr (by rw [hxE]; exact HE.out) n (.slice (some ⟨b, 0, none⟩) 1 1))
 have HF := Aside0.mk (fun w5 (hp : RMPost x.F w4 x.p x.s x.c max mc0 x.E w5) => HD.out.asked hb4 hx hp)
 have HXE := Aside0.mk hxE
 have HSZ := Aside0.mk hb4.size
 clear hin hx hb4 hxE HG
 go_wp2_with (go_at_call 101; refine HAL.out.mono ?_; rintro e w5 ⟨v, l, rfl, hl, hr, hp⟩; have HL := Aside0.mk hl; have HR := Aside0.mk hr; have HP := Aside0.mk (HF.out _ hp); clear hl hr hp)
 go_ret2
 have hl := HL.out
 rw [HXE.out] at hl
 exact ⟨v, l, rfl, hl, Kd.R_lower HR.out HSZ.out, HP.out⟩
set_option maxHeartbeats 8000000 in
set_option maxRecDepth 100000 in
theorem dm_imp_users {F : Fp} {w : World} {d s c : Nat} {max : Int} {m : Option Nat} {D : List DomB} (hmax : 0 ≤ max ∧ max ≤ 1000000) (h : DMS w F d s c max m D) (n dom : ByteArray) (hE : EOk (domE D dom)) {b : Nat} (hb : w.cell? ⟨b, 0, none⟩ = some (.string dom)) :
  Calls Tryz.prog 157 #[PT d, .string n, .slice (some ⟨b, 0, none⟩) 1 1] w fun e w' => ∃ v l, e = .returned (.tuple #[v, .nilIface]) ∧ l.Perm (impl (usersE (domE D dom)) max.toNat n) ∧ Kd.R Kd.string 9 w' w.heap.size (fun _ => True) v l ∧ DMPost (D.map (·.name)) w F d s c max D (domE D) w' := by
 have HG := Aside0.mk (dm_get_false h dom)
 have HD := Aside0.mk h
 have HE := Aside0.mk hE
 clear h hE
 go_enter Tryz.func157, Tryz.ntmps157
 go_upto_region 4 with (go_at_call 60; refine (get_domain (PT d) hb).mono ?_; rintro e w2 ⟨rfl, rfl⟩)
 go_upto_region 5 with (go_at_call 61; refine HG.out.mono ?_; rintro e w4 ⟨x, rfl, hin, hxE, hx, hb4⟩)
 have HAL := Aside0.mk (rm_imp_users hmax hin.mem hin.rm hin.gr (by rw [hxE]; exact HE.out) n (.slice (some ⟨b, 0, none⟩) 1 1))
 have HF := Aside0.mk (fun w5 (hp : RMPost x.F w4 x.p x.s x.c max mc0 x.E w5) => HD.out.asked hb4 hx hp)
 have HXE := Aside0.mk hxE
 have HSZ := Aside0.mk hb4.size
 clear hin hx hb4 hxE HG
 go_wp2_with (go_at_call 102; refine HAL.out.mono ?_; rintro e w5 ⟨v, l, rfl, hl, hr, hp⟩; have HL := Aside0.mk hl; have HR := Aside0.mk hr; have HP := Aside0.mk (HF.out _ hp); clear hl hr hp)
 go_ret2
 have hl := HL.out
 rw [HXE.out] at hl
 exact ⟨v, l, rfl, hl, Kd.R_lower HR.out HSZ.out, HP.out⟩
set_option maxHeartbeats 8000000 in
set_option maxRecDepth 100000 in
theorem dm_has {F : Fp} {w : World} {d s c : Nat} {max : Int} {m : Option Nat} {D : List DomB} (hmax : 0 ≤ max ∧ max ≤ 1000000) (h : DMS w F d s c max m D) (n1 n2 dom : ByteArray) (hE : EOk (domE D dom)) {b : Nat} (hb : w.cell? ⟨b, 0, none⟩ = some (.string dom)) :
  Calls Tryz.prog 160 #[PT d, .string n1, .string n2, .slice (some ⟨b, 0, none⟩) 1 1] w fun e w' => e = .returned (.tuple #[.bool (hasF (rolesE (domE D dom)) n2 max.toNat [n1]), .nilIface]) ∧ DMPost (D.map (·.name)) w F d s c max D (domE D) w' := by
 have HG := Aside0.mk (dm_get_false h dom)
 have HD := Aside0.mk h
 have HE := Aside0.mk hE
 clear h hE
 go_enter Tryz.func160, Tryz.ntmps160
 go_upto_region 4 with (go_at_call 60; refine (get_domain (PT d) hb).mono ?_; rintro e w2 ⟨rfl, rfl⟩)
 go_upto_region 5 with (go_at_call 61; refine HG.out.mono ?_; rintro e w4 ⟨x, rfl, hin, hxE, hx, hb4⟩)
 have HAL := Aside0.mk (rm_has hmax hin.mem hin.rm hin.gr (by rw [hxE]; exact HE.out) n1 n2 (.slice (some ⟨b, 0, none⟩) 1 1))
 have HF := Aside0.mk (fun w5 (hp : RMPost x.F w4 x.p x.s x.c max mc0 x.E w5) => HD.out.asked hb4 hx hp)
 have HXE := Aside0.mk hxE
 clear hin hx hb4 hxE HG
 go_wp2_with (go_at_call 105; refine HAL.out.mono ?_; rintro e w5 ⟨rfl, hp⟩; have HP := Aside0.mk (HF.out _ hp); clear hp)
 go_ret2
 exact ⟨by rw [HXE.out]; rfl, HP.out⟩
end
/-! A manager of domains that is made. -/
section
open Go.Proofs
set_option maxHeartbeats 4000000 in
set_option maxRecDepth 100000 in
theorem dm_clear_raw {w : World} {d : Nat} {v0 v4 : Value} {max : Int} (hd : w.heap[d]? = some (.cells #[v0, .int .i64 max, .nilFunc, .nilFunc, v4] 100 (0, 0))) :
  Calls Tryz.prog 41 #[PT d] w fun e w' => e = .returned .nilIface ∧ ∃ s c, w'.heap[d]? = some (.cells #[PT s, .int .i64 max, .nilFunc, .nilFunc, PT c] 100 (0, 0)) ∧ w'.heap[s]? = some (.cells #[.map none] 106 (0, 0)) ∧ w.heap.size ≤ s ∧ Turn (fun k => k = d) w w' := by
 have hdl := (Array.getElem?_eq_some_iff.1 hd).1
 have HP := Aside0.mk hd
 have hb3 : ∀ o, (w.alloc o).heap[d]? = w.heap[d]? := fun o => heap_alloc_old _ _ hdl
 have c0 := fun o => cell_cells ((hb3 o).trans hd) (i := 0) rfl
 have f0 := fun o => free_cells ((hb3 o).trans hd) (i := 0)
 clear hd hb3
 go_enter Tryz.func41, Tryz.ntmps41
 go_upto_region 2 with (fail)
 obtain ⟨W3, hW3⟩ : ∃ W3, W3 = (w.setCell ⟨d, 0, none⟩ (PT w.heap.size)).alloc (.cells #[.map none] 106) := ⟨_, rfl⟩
 rw [← hW3]
 have hs4 : (w.setCell ⟨d, 0, none⟩ (PT w.heap.size)).heap.size = w.heap.size := by simp
 have hd3 : W3.heap[d]? = some (.cells #[PT w.heap.size, .int .i64 max, .nilFunc, .nilFunc, v4] 100 (0, 0)) := by
  rw [hW3, heap_alloc_old _ _ (by rw [hs4]; exact hdl)]
  exact setCell_cells HP.out _
 have hm3 : W3.heap[w.heap.size]? = some (.cells #[.map none] 106 (0, 0)) := by
  have := heap_alloc_new (w.setCell ⟨d, 0, none⟩ (PT w.heap.size)) (.cells #[.map none] 106)
  rw [hs4] at this
  rw [hW3]; exact this
 have ht3 : Turn (fun k => k = d) w W3 := by
  rw [hW3]
  exact ⟨rfl, rfl, rfl, by simp, fun k hk hn => (heap_alloc_old _ _ (by rw [hs4]; exact hk)).trans (Below.heap_setCell _ _ _ _ hn)⟩
 have hs3 : W3.heap.size = w.heap.size + 1 := by rw [hW3]; simp
 have HD3 := Aside0.mk hd3
 have HM3 := Aside0.mk hm3
 have HT3 := Aside0.mk ht3
 clear hW3 hd3 hm3 ht3 c0 f0 hs4
 go_upto_region 3 with (go_at_call 47; refine (new_sync_lru 100 _).mono ?_; rintro e w2 ⟨c, rfl, hb⟩; have hq := (hb.block d (by omega)).trans HD3.out; have c4 := cell_cells hq (i := 4) rfl; have f4 := free_cells hq (i := 4); have HB := Aside0.mk hb; have HQ := Aside0.mk hq; clear hb hq)
 go_wp2
 go_ret
 refine ⟨rfl, w.heap.size, c, setCell_cells HQ.out _, (Below.heap_setCell _ _ _ _ (fun e => by
  have e : w.heap.size = d := e
  omega)).trans ((HB.out.block _ (by omega)).trans HM3.out), Nat.le_refl _, HT3.out.trans (NextS.refl _ _) ⟨HB.out.os, HB.out.tape, HB.out.output, by simpa using HB.out.size, fun k hk hn => (Below.heap_setCell _ _ _ _ hn).trans (HB.out.block k hk)⟩⟩
/-- a footprint of a manager of domains without any -/
def FD0 (d s c : Nat) (max : Int) : Fp := fun k => if k = d then some (.rm, .cells #[PT s, .int .i64 max, .nilFunc, .nilFunc, PT c] 100) else if k = s then some (.all, SyP none) else none
theorem FD0_mem {w : World} {d s c : Nat} {max : Int} (hds : d ≠ s) (hd : w.heap[d]? = some (.cells #[PT s, .int .i64 max, .nilFunc, .nilFunc, PT c] 100 (0, 0))) (hs : w.heap[s]? = some (.cells #[.map none] 106 (0, 0))) : DMS w (FD0 d s c max) d s c max none [] := by
 refine ⟨fun k t pc h => ?_, ⟨if_pos rfl, ?_, rfl⟩, (fun x hx => nomatch hx), List.nodup_nil, List.Pairwise.nil, (fun x hx => nomatch hx)⟩
 ·unfold FD0 at h
  by_cases e : k = d
  ·rw [if_pos e] at h
   injection h with h
   injection h with _ h
   rw [← h, e]; exact hd
  ·rw [if_neg e] at h
   by_cases e2 : k = s
   ·rw [if_pos e2] at h
    injection h with h
    injection h with _ h
    rw [← h, e2]; exact hs
   ·rw [if_neg e2] at h; cases h
 ·unfold FD0
  rw [if_neg (Ne.symm hds), if_pos rfl]
theorem FD0_dom {d s c : Nat} {max : Int} {k : Nat} (h : FD0 d s c max k ≠ none) : k = d ∨ k = s := by
 unfold FD0 at h
 by_cases e : k = d
 ·exact .inl e
 ·rw [if_neg e] at h
  by_cases e2 : k = s
  ·exact .inr e2
  ·rw [if_neg e2] at h; exact absurd rfl h
set_option maxHeartbeats 4000000 in
set_option maxRecDepth 100000 in
theorem dm_new (max : Int) (w : World) :
  Calls Tryz.prog 32 #[.int .i64 max] w fun e w' => ∃ d F s c, e = .returned (PT d) ∧ DMS w' F d s c max none [] ∧ (∀ k, DMS.S F [] k → w.heap.size ≤ k) ∧ Below w.heap.size w w' := by
 go_enter Tryz.func32, Tryz.ntmps32
 go_upto_region 3 with (go_at_call 41; refine (dm_clear_raw (max := 0) (v0 := .pointer none) (v4 := .pointer none) (heap_alloc_new _ _)).mono ?_; rintro e w2 ⟨rfl, s, c, h1, h2, h3, h4⟩; have c1 := cell_cells h1 (i := 1) rfl; have f1 := free_cells h1 (i := 1); have H1 := Aside0.mk h1; have H2 := Aside0.mk h2; have H3 := Aside0.mk h3; have H4 := Aside0.mk h4; clear h1 h2 h3 h4)
 go_wp2
 go_ret
 have h3 := H3.out
 rw [show (w.alloc (Obj.cells #[Value.pointer none, Value.int IntKind.i64 0, Value.nilFunc, Value.nilFunc, Value.pointer none] 100)).heap.size = w.heap.size + 1 from by simp] at h3
 have hq := setCell_cells H1.out (i := 1) (.int .i64 max)
 refine ⟨w.heap.size, _, s, c, rfl, FD0_mem (c := c) (max := max) (by omega) hq ((Below.heap_setCell _ _ _ _ (fun e => by
  have e : s = w.heap.size := e
  omega)).trans H2.out), fun k hk => ?_, ?_⟩
 ·rcases hk with hk | ⟨x, hx, _⟩
  ·rcases FD0_dom hk with rfl | rfl
   ·exact Nat.le_refl _
   ·omega
  ·cases hx
 ·exact (Turn.toBelow ((Below.refl w.heap.size w).alloc (Nat.le_refl _) _) H4.out (by simp) (fun k hk => by rw [show k = w.heap.size from hk]; exact Nat.le_refl _)).setCell (Nat.le_refl _) _
end
/-! The domains in which a name has links. -/
section
open Go.Proofs
def occ (E : Edges) (n : ByteArray) : Bool := !(usersE E n).isEmpty || !(rolesE E n).isEmpty
def domS (D : List DomB) : Nat → Prop := fun k => ∃ x ∈ D, x.F k ≠ none
theorem DMS.apart {T : Nat → Prop} {w w' : World} {F : Fp} {d s c : Nat} {max : Int} {m : Option Nat} {D : List DomB} (h : DMS w F d s c max m D) (ht : Turn T w w') (hd : ∀ k, DMS.S F D k → ¬ T k) : DMS w' F d s c max m D :=
 ⟨h.mem.apart ht (fun k hk => hd k (.inl hk)), h.dm, fun x hx => ⟨(h.each x hx).mem.apart ht (fun k hk => hd k (.inr ⟨x, hx, hk⟩)), (h.each x hx).rm, (h.each x hx).gr⟩, h.names, h.dis, h.own⟩
theorem entsM_rep {D : List DomB} {x x' : DomB} (hnd : (D.map (·.name)).Nodup) (hx : x ∈ D) (hn : x'.name = x.name) (hp : x'.p = x.p) : entsM (repD D x') = entsM D := by
 unfold entsM repD
 rw [List.map_map]
 refine List.map_congr_left (fun y hy => ?_)
 show ((if y.name = x'.name then x' else y).name, PM (if y.name = x'.name then x' else y).p) = _
 by_cases g : y.name = x'.name
 ·rw [if_pos g, g, hp, same_dom hnd hy hx (g.trans hn)]
 ·rw [if_neg g]
/-- one domain's manager was asked -/
structure GdTo (F : Fp) (d s c : Nat) (max : Int) (m : Option Nat) (D : List DomB) (w : World) (D' : List DomB) (w' : World) : Prop where
 dm : DMS w' F d s c max m D'
 en : entsM D' = entsM D
 ed : ∀ k, domE D' k = domE D k
 nx : NextS w.heap.size (domS D) (domS D')
 tn : Turn (domS D) w w'
theorem GdTo.refl {F : Fp} {d s c : Nat} {max : Int} {m : Option Nat} {D : List DomB} {w w' : World} (h : DMS w F d s c max m D) (hb : Below w.heap.size w w') : GdTo F d s c max m D w D w' := ⟨h.below hb, rfl, fun _ => rfl, NextS.refl _ _, Turn.ofBelow _ hb⟩
theorem GdTo.trans {F : Fp} {d s c : Nat} {max : Int} {m : Option Nat} {D D1 D2 : List DomB} {w w1 w2 : World} (h : GdTo F d s c max m D w D1 w1) (g : GdTo F d s c max m D1 w1 D2 w2) : GdTo F d s c max m D w D2 w2 :=
 ⟨g.dm, g.en.trans h.en, fun k => (g.ed k).trans (h.ed k), h.nx.trans g.nx h.tn.size, h.tn.trans h.nx g.tn⟩
theorem GdTo.of {F : Fp} {d s c : Nat} {max : Int} {m : Option Nat} {D : List DomB} {w w' : World} (h : DMS w F d s c max m D) {x x' : DomB} (hx : x ∈ D) (hn : x'.name = x.name) (hp : x'.p = x.p) (he : x'.E = x.E) (hin : DomIn w' max x') (hN : Next w.heap.size x.F x'.F) (hT : TurnF x.F w w') : GdTo F d s c max m D w (repD D x') w' := by
 obtain ⟨k1, k2, k3⟩ := h.upd hx hn hp hin hN hT
 refine ⟨k1, entsM_rep h.names hx hn hp, fun k => ?_, fun k hk => ?_, hT.mono (fun k _ hk => ⟨x, hx, hk⟩)⟩
 ·rw [domE_rep (by rw [hn]; exact List.mem_map_of_mem hx)]
  by_cases e : k = x'.name
  ·rw [if_pos e, he]
   exact (domE_in h.names hx (hn.symm.trans e.symm)).symm
  ·rw [if_neg e]
 ·rcases k2 k (.inr hk) with h1 | h1
  ·rcases h1 with h1 | h1
   ·obtain ⟨y, hy, hk⟩ := hk
    exact absurd (k1.own y hy k h1) hk
   ·exact .inl h1
  ·exact .inr h1
theorem rep_mem {D : List DomB} {x x' : DomB} (hx : x ∈ D) (hn : x'.name = x.name) : x' ∈ repD D x' := by
 unfold repD
 exact List.mem_map.2 ⟨x, hx, if_pos hn.symm⟩
theorem NamesAt.apart {bs b : Nat} {l : List ByteArray} {S T : Nat → Prop} {W W' : World} (h : NamesAt bs b l S W) (ht : Turn T W W') (hd : ∀ k, S k → ¬ T k) : NamesAt bs b l S W' := by
 obtain ⟨⟨v, hc, hR, hS⟩, hbs, hlt⟩ := h
 have hb : b < W.heap.size := Nat.lt_of_lt_of_le hlt hbs
 refine ⟨⟨v, (ht.block b hb (hd b ((hS b).2 (.inl rfl)))).trans hc, Kd.R_mono (Kd.R_move (ok := fun k => v.ownBlock = some k ∧ k < W.heap.size) ⟨fun k hk2 => ⟨hk2, ((Kd.R_bound hR).1 k hk2).2.2.1⟩, hR.2⟩ (fun k hk2 => ht.block k hk2.2 (hd k ((hS k).2 (.inr hk2.1))))) (fun _ _ => trivial), hS⟩, Nat.le_trans hbs ht.size, hlt⟩
/-- behind one round: the managers, and the names -/
structure GdEnd (F : Fp) (d s c : Nat) (max : Int) (m : Option Nat) (bs b : Nat) (D : List DomB) (W : World) (Sn : Nat → Prop) (l' : List ByteArray) (D' : List DomB) (Sn' : Nat → Prop) (W' : World) : Prop where
 dm : DMS W' F d s c max m D'
 en : entsM D' = entsM D
 ed : ∀ k, domE D' k = domE D k
 nm : NamesAt bs b l' Sn' W'
 dis : ∀ k, Sn' k → ¬ DMS.S F D' k
 nx : NextS W.heap.size (domS D) (domS D')
 nn : NextS W.heap.size Sn Sn'
 tn : Turn (fun k => domS D k ∨ Sn k) W W'
theorem gd_end {F : Fp} {d s c : Nat} {max : Int} {m : Option Nat} {D D1 : List DomB} {W W4 W5 : World} {bs b : Nat} {Sn Sn5 : Nat → Prop} {l' : List ByteArray} (hA : GdTo F d s c max m D W D1 W4) (hdis : ∀ k, Sn k → ¬ DMS.S F D k) (hSn : ∀ k, Sn k → k < W.heap.size) (hC : NamesAt bs b l' Sn5 W5) (hn5 : NextS W4.heap.size Sn Sn5) (ht5 : Turn Sn W4 W5) : GdEnd F d s c max m bs b D W Sn l' D1 Sn5 W5 := by
 have dis1 : ∀ k, DMS.S F D1 k → ¬ Sn k := fun k hk hs => by
  rcases hk with hk | hk
  ·exact hdis k hs (.inl hk)
  ·rcases hA.nx k hk with h1 | h1
   ·exact hdis k hs (.inr h1)
   ·have := hSn k hs; omega
 refine ⟨hA.dm.apart ht5 dis1, hA.en, hA.ed, hC, fun k hk hq => ?_, hA.nx, fun k hk => (hn5 k hk).imp_right (Nat.le_trans hA.tn.size), (hA.tn.mono (fun k _ h => .inl h)).trans (fun k hk => .inl (.inr hk)) ht5⟩
 rcases hn5 k hk with h1 | h1
 ·exact dis1 k hq h1
 ·have := hA.dm.slt k hq; omega
theorem gd_last {F : Fp} {d s c : Nat} {max : Int} {m : Option Nat} {D D1 D2 : List DomB} {W W5 W6 : World} {bs b : Nat} {Sn Sn5 : Nat → Prop} {l' : List ByteArray} (hE : GdEnd F d s c max m bs b D W Sn l' D1 Sn5 W5) (hD : GdTo F d s c max m D1 W5 D2 W6) : GdEnd F d s c max m bs b D W Sn l' D2 Sn5 W6 := by
 refine ⟨hD.dm, hD.en.trans hE.en, fun k => (hD.ed k).trans (hE.ed k), hE.nm.apart hD.tn (fun k hk hq => hE.dis k hk (.inr hq)), fun k hk hq => ?_, hE.nx.trans hD.nx hE.tn.size, hE.nn, hE.tn.trans (fun k hk => (hE.nx k hk).imp_left .inl) hD.tn⟩
 rcases hq with hq | hq
 ·exact hE.dis k hk (.inl hq)
 ·rcases hD.nx k hq with h1 | h1
  ·exact hE.dis k hk (.inr h1)
  ·have := hE.nm.slt k hk; omega
theorem len_pos {l : List ByteArray} (h : l ≠ []) : decide ((0 : Int) < (l.length : Int)) = true ∧ decide (0 < l.length) = true := by
 have : 0 < l.length := List.length_pos_iff.2 h
 exact ⟨decide_eq_true (by omega), decide_eq_true this⟩
end
/-! One round of DomainManager.GetDomains. -/
section
open Go.Proofs
theorem mk41_lit (d : List Deferred) (s : Nat → Value) : mkN 41 d s = { tmps := #[s 0, s 1, s 2, s 3, s 4, s 5, s 6, s 7, s 8, s 9, s 10, s 11, s 12, s 13, s 14, s 15, s 16, s 17, s 18, s 19, s 20, s 21, s 22, s 23, s 24, s 25, s 26, s 27, s 28, s 29, s 30, s 31, s 32, s 33, s 34, s 35, s 36, s 37, s 38, s 39, s 40], defers := d } := rfl
theorem names_told {bs b : Nat} {l : List ByteArray} {S : Nat → Prop} {W W_ W5 : World} {k : ByteArray} {v : Value} {A1 : Option Addr} {n1 : Nat} (h : NamesAt bs b l S W) (hp : Kd.R Kd.string 9 W_ bs (fun _ => True) (.slice A1 (l.length + 1) n1) (l ++ [k]) ∧ W.grownBy W_ v.ownBlock ∧ ((Value.slice A1 (l.length + 1) n1).ownBlock = v.ownBlock ∨ ∃ g, (Value.slice A1 (l.length + 1) n1).ownBlock = some g ∧ W.heap.size ≤ g) ∧ W_.heap[b]? = some (.cells #[v] 38 (0, 0)) ∧ Below bs W W_) (hc : W.heap[b]? = some (.cells #[v] 38 (0, 0))) (h5 : W5 = W_.setCell ⟨b, 0, none⟩ (.slice A1 (l.length + 1) n1)) :
  ∃ S', NamesAt bs b (l ++ [k]) S' W5 ∧ NextS W.heap.size S S' ∧ Turn S W W5 := by
 obtain ⟨⟨v0, hc0, hR, hS⟩, hbase, hlt⟩ := h
 rw [hc] at hc0
 obtain rfl : v = v0 := by
  injection hc0 with e
  injection e with e _ _
  simpa using e
 obtain ⟨p1, p2, p3, p4, p5⟩ := hp
 subst h5
 generalize (Value.slice A1 (l.length + 1) n1) = v1 at *
 refine ⟨fun g => g = b ∨ v1.ownBlock = some g, ⟨⟨v1, one_setCell p4, Kd.R_mono (Kd.R_move (Kd.R_bound p1) (fun g hg => Below.heap_setCell _ _ _ _ (fun e => by have e : g = b := e; have := hg.2.1; omega))) (fun _ _ => trivial), fun g => Iff.rfl⟩, ?_, hlt⟩, fun g hg => ?_, ?_⟩
 ·have := p5.size
  simp
  exact Nat.le_trans hbase this
 ·rcases hg with rfl | hg
  ·exact .inl ((hS _).2 (.inl rfl))
  ·rcases p3 with h3 | ⟨q, h3, h4⟩
   ·exact .inl ((hS _).2 (.inr (by rw [← h3]; exact hg)))
   ·rw [h3] at hg
    exact .inr (by rw [← Option.some.inj hg]; exact h4)
 ·refine ⟨p5.os, p5.tape, p5.output, ?_, fun g hg hn => ?_⟩
  ·have := p5.size
   simpa using this
  ·have h1 : g ≠ b := fun e => hn ((hS _).2 (.inl e))
   have h2 : some g ≠ v.ownBlock := fun e => hn ((hS _).2 (.inr e.symm))
   exact (Below.heap_setCell _ _ _ _ h1).trans (p2.block g hg h2)
theorem gd_remove {F : Fp} {d s c : Nat} {max : Int} {m : Option Nat} {D : List DomB} {W : World} {x : DomB} {L : List RoleB} {y : RoleB} (u : FrameMode) (h : DMS W F d s c max m D) (hx : x ∈ D) (hL : x.L = L ++ [y]) (hG : Graph L x.E) {n : ByteArray} (hyn : y.name = n) :
  CallsD Tryz.prog 108 #[PT x.p, .string n] u W fun e u' w' => u' = u ∧ (e = .returned (.tuple #[]) ∧ ∃ D2, GdTo F d s c max m D W D2 w') := by
 subst hyn
 have hxi := h.each x hx
 have hR := hxi.rm
 rw [hL] at hR
 refine (remove_role_d u hxi.mem hR).mono ?_
 rintro e u' w' ⟨rfl, rfl, F', m', g1, g2, g3, g4⟩
 exact ⟨rfl, rfl, _, GdTo.of h hx (x' := { x with F := F', m := m', L := L }) rfl rfl rfl ⟨g1, g2, hG⟩ g3 g4⟩
set_option maxHeartbeats 16000000 in
set_option maxRecDepth 100000 in
theorem gd_old {W : World} {F : Fp} {d s c : Nat} {max : Int} {m : Option Nat} {D : List DomB} (h : DMS W F d s c max m D) {x : DomB} (hx : x ∈ D) (hE : EOk x.E) {bs b : Nat} {Sn : Nat → Prop} {l : List ByteArray} (hN : NamesAt bs b l Sn W) (hdis : ∀ k, Sn k → ¬ DMS.S F D k) (hl : l.length ≤ 1000000) {bn : Nat} {n : ByteArray} {tn : TypeId} (hn : W.heap[bn]? = some (.cells #[.string n] tn (0, 0))) (hin : n ∈ x.L.map (·.name)) {l2 : List ByteArray} (hl2 : l2 = l ++ if occ x.E n = true then [x.name] else []) :
  Calls Tryz.prog 163 #[KY x.name, PM x.p, PT bn, PT b] W fun e W' => e = .returned (.bool true) ∧ ∃ D' Sn', GdEnd F d s c max m bs b D W Sn l2 D' Sn' W' := by
 have cn := cell_of_one hn
 have hta := as_string (.string x.name)
 have htm := as_mgr (PT x.p)
 have hxi := h.each x hx
 have HG1 := Aside0.mk (get_role_old hxi.mem hxi.rm hxi.gr hin)
 have HH := Aside0.mk h
 have HX := Aside0.mk hx
 have HE := Aside0.mk hE
 have HGR := Aside0.mk hxi.gr
 have HN := Aside0.mk hN
 have HDIS := Aside0.mk hdis
 have HL2 := Aside0.mk hl2
 have HLT := Aside0.mk (show (l.length + 1) * 16 ≤ 140737488355328 from by omega)
 clear h hx hE hxi hin hN hdis hn hl2
 go_enter_defers Tryz.func163, Tryz.ntmps163
 go_upto_region 6 with (go_at_call 58; refine HG1.out.mono ?_; rintro e w2 ⟨y, F1, m1, rfl, hM1, hR1, hy, hyn, hn1, ht1⟩)
 have hG1 := HGR.out
 have HA := Aside0.mk (GdTo.of HH.out HX.out (x' := { x with F := F1, m := m1 }) rfl rfl rfl ⟨hM1, hR1, hG1⟩ hn1 ht1)
 obtain ⟨hpU, hlU, hsU⟩ := hG1.pu HE.out hy
 obtain ⟨hpR, hlR, hsR⟩ := hG1.pr HE.out hy
 rw [hyn] at hpU hpR
 have HU := Aside0.mk (role_users hM1 hR1 hG1 hy hlU hsU)
 have HR := Aside0.mk (fun (W3 : World) (hb : Below w2.heap.size w2 W3) => role_roles (hM1.below hb) hR1 hG1 hy hlR hsR)
 have HPU := Aside0.mk hpU
 have HPR := Aside0.mk hpR
 clear hpU hlU hsU hpR hlR hsR hM1 hR1 hy hyn hn1 ht1 HG1 hG1
 have HAB := Aside0.mk (fun (W4 : World) (hb : Below w2.heap.size w2 W4) => HA.out.trans (GdTo.refl HA.out.dm hb))
 clear HA
 by_cases hU : usersE x.E n = []
 ·by_cases hR : rolesE x.E n = []
  ·have HO := Aside0.mk (show occ x.E n = false from by unfold occ; rw [hU, hR]; rfl)
   go_upto_region 8 with (first
    | (go_at_call 112; refine HU.out.mono ?_; rintro e w3 ⟨v, lu, rfl, hlu, hru, hb3⟩; obtain rfl : lu = [] := (show lu.Perm [] from by rw [← hU]; exact hlu.trans HPU.out).eq_nil; obtain ⟨Au, cu, hv⟩ := Kd.R_slice hru; subst hv; have HB3 := Aside0.mk hb3; clear hlu hru hb3)
    | (go_at_call 111; refine (HR.out _ HB3.out).mono ?_; rintro e W4 ⟨v, lr, rfl, hlr, hrr, hb4⟩; obtain rfl : lr = [] := (show lr.Perm [] from by rw [← hR]; exact hlr.trans HPR.out).eq_nil; obtain ⟨Ar, cr, hv⟩ := Kd.R_slice hrr; subst hv; have HB4 := Aside0.mk (HB3.out.trans (hb4.mono HB3.out.size)); clear hlr hrr hb4))
   have HA4 := Aside0.mk (HAB.out _ HB4.out)
   have h5 := gd_end HA4.out HDIS.out HN.out.slt (HN.out.apart (Turn.trans HA4.out.tn (NextS.refl _ _) (Turn.refl _ _)) (fun k hk hq => HDIS.out k hk (.inr hq))) (NextS.refl _ _) (Turn.refl _ _)
   rw [show l = l2 from by rw [HL2.out, HO.out]; simp] at h5
   have HE5 := Aside0.mk h5
   clear h5
   go_wp2
   refine ⟨_, results_tmp rfl _ _ _, ?_⟩
   exact ⟨rfl, _, _, HE5.out⟩
  ·have HO := Aside0.mk (show occ x.E n = true from by unfold occ; rw [hU]; cases hq : rolesE x.E n with | nil => exact absurd hq hR | cons a b => rfl)
   go_upto_region 7 with (first
    | (go_at_call 112; refine HU.out.mono ?_; rintro e w3 ⟨v, lu, rfl, hlu, hru, hb3⟩; obtain rfl : lu = [] := (show lu.Perm [] from by rw [← hU]; exact hlu.trans HPU.out).eq_nil; obtain ⟨Au, cu, hv⟩ := Kd.R_slice hru; subst hv; have HB3 := Aside0.mk hb3; clear hlu hru hb3)
    | (go_at_call 111; refine (HR.out _ HB3.out).mono ?_; rintro e W4 ⟨v, lr, rfl, hlr, hrr, hb4⟩; obtain ⟨hz0, hz1⟩ := len_pos (l := lr) (fun e => hR (by rw [e] at hlr; exact (hlr.trans HPR.out).symm.eq_nil)); obtain ⟨Ar, cr, hv⟩ := Kd.R_slice hrr; subst hv; have HB4 := Aside0.mk (HB3.out.trans (hb4.mono HB3.out.size)); clear hlr hrr hb4))
   have HA4 := Aside0.mk (HAB.out _ HB4.out)
   have HNAT := Aside0.mk (show NamesAt bs b l Sn W4 from HN.out.apart HA4.out.tn (fun k hk hq => HDIS.out k hk (.inr hq)))
   obtain ⟨⟨vn, hnc, hnr, hns⟩, hnb, hlb⟩ := HNAT.out
   have HNC := Aside0.mk hnc
   have HNR := Aside0.mk hnr
   have HNB := Aside0.mk hnb
   have HLB := Aside0.mk hlb
   have cb : W4.cell? ⟨b, 0, none⟩ = some vn := cell_of_one hnc
   have ca : (W4.alloc (.cells #[.string x.name] 9)).cell? ⟨b, 0, none⟩ = some vn := cell_of_one (((MapKept.heap_alloc W4 _).2 b (Nat.lt_of_lt_of_le hlb hnb)).trans hnc)
   clear hnc hnr hns hnb hlb
   go_upto_region 7 with (fail)
   go_upto_region 8 with ((with_reducible refine gate_builtin (b := .append) (xs := #[.tmp 37, .tmp 39]) rfl ?_); at_builtin; refine Kd.R_append Kd.string (w0 := W4) bs rfl (.tmp 37) (.tmp 39) 38 9 (.string ⟨#[]⟩) 16 rfl Tryz.underlying38 infoS_ rfl (by decide) (by omega) vn l x.name [.string x.name] (fun _ => True) (fun _ => False) rfl (by first | (go_simp; done) | (go_simp; rfl)) ?aP (fun _ hk => hk.elim) ?aF ?aO ?aB ?aS ?aL ?_; (case aP => exact rfl); (case aF => exact fun _ _ => trivial); (case aO => exact HNR.out); (case aB => exact Below.refl _ _); (case aS => exact HNB.out); (case aL => exact HLT.out); rintro v1 w5 hR5 hB5 hG5 hat5; obtain ⟨A1, n1, hv1⟩ := Kd.R_slice hR5; rw [List.length_append, List.length_singleton] at hv1; subst hv1; have p4 := (hB5.block b HLB.out).trans HNC.out; have c5 := cell_of_one p4; have f5 := free_of_one p4; have hst := run_store1s c5 f5 A1 (l.length + 1) n1; have HP := Aside0.mk (And.intro hR5 (And.intro hG5 (And.intro hat5 (And.intro p4 hB5)))); clear hR5 hB5 hG5 hat5 p4)
   obtain ⟨W5, hW5⟩ : ∃ z, z = w5.setCell ⟨b, 0, none⟩ (.slice A1 (l.length + 1) n1) := ⟨_, rfl⟩
   have HX5 := Aside0.mk (names_told HNAT.out HP.out HNC.out hW5)
   rw [← hW5]
   clear hW5 hst c5 f5
   obtain ⟨Sn5, h5⟩ := HX5.out
   clear HX5 HP
   have HE5 := Aside0.mk (gd_end HA4.out HDIS.out HN.out.slt (show NamesAt bs b l2 Sn5 W5 from by rw [HL2.out, HO.out]; exact h5.1) h5.2.1 h5.2.2)
   clear h5
   go_wp2
   refine ⟨_, results_tmp rfl _ _ _, ?_⟩
   exact ⟨rfl, _, _, HE5.out⟩
 ·have HO := Aside0.mk (show occ x.E n = true from by unfold occ; cases hq : usersE x.E n with | nil => exact absurd hq hU | cons a b => rfl)
  go_upto_region 7 with (first
   | (go_at_call 112; refine HU.out.mono ?_; rintro e W4 ⟨v, lu, rfl, hlu, hru, hb3⟩; obtain ⟨hz0, hz1⟩ := len_pos (l := lu) (fun e => hU (by rw [e] at hlu; exact (hlu.trans HPU.out).symm.eq_nil)); obtain ⟨Au, cu, hv⟩ := Kd.R_slice hru; subst hv; have HB4 := Aside0.mk hb3; clear hlu hru hb3))
  have HA4 := Aside0.mk (HAB.out _ HB4.out)
  have HNAT := Aside0.mk (show NamesAt bs b l Sn W4 from HN.out.apart HA4.out.tn (fun k hk hq => HDIS.out k hk (.inr hq)))
  obtain ⟨⟨vn, hnc, hnr, hns⟩, hnb, hlb⟩ := HNAT.out
  have HNC := Aside0.mk hnc
  have HNR := Aside0.mk hnr
  have HNB := Aside0.mk hnb
  have HLB := Aside0.mk hlb
  have cb : W4.cell? ⟨b, 0, none⟩ = some vn := cell_of_one hnc
  have ca : (W4.alloc (.cells #[.string x.name] 9)).cell? ⟨b, 0, none⟩ = some vn := cell_of_one (((MapKept.heap_alloc W4 _).2 b (Nat.lt_of_lt_of_le hlb hnb)).trans hnc)
  clear hnc hnr hns hnb hlb
  go_upto_region 7 with (fail)
  go_upto_region 8 with ((with_reducible refine gate_builtin (b := .append) (xs := #[.tmp 37, .tmp 39]) rfl ?_); at_builtin; refine Kd.R_append Kd.string (w0 := W4) bs rfl (.tmp 37) (.tmp 39) 38 9 (.string ⟨#[]⟩) 16 rfl Tryz.underlying38 infoS_ rfl (by decide) (by omega) vn l x.name [.string x.name] (fun _ => True) (fun _ => False) rfl (by first | (go_simp; done) | (go_simp; rfl)) ?aP (fun _ hk => hk.elim) ?aF ?aO ?aB ?aS ?aL ?_; (case aP => exact rfl); (case aF => exact fun _ _ => trivial); (case aO => exact HNR.out); (case aB => exact Below.refl _ _); (case aS => exact HNB.out); (case aL => exact HLT.out); rintro v1 w5 hR5 hB5 hG5 hat5; obtain ⟨A1, n1, hv1⟩ := Kd.R_slice hR5; rw [List.length_append, List.length_singleton] at hv1; subst hv1; have p4 := (hB5.block b HLB.out).trans HNC.out; have c5 := cell_of_one p4; have f5 := free_of_one p4; have hst := run_store1s c5 f5 A1 (l.length + 1) n1; have HP := Aside0.mk (And.intro hR5 (And.intro hG5 (And.intro hat5 (And.intro p4 hB5)))); clear hR5 hB5 hG5 hat5 p4)
  obtain ⟨W5, hW5⟩ : ∃ z, z = w5.setCell ⟨b, 0, none⟩ (.slice A1 (l.length + 1) n1) := ⟨_, rfl⟩
  have HX5 := Aside0.mk (names_told HNAT.out HP.out HNC.out hW5)
  rw [← hW5]
  clear hW5 hst c5 f5
  obtain ⟨Sn5, h5⟩ := HX5.out
  clear HX5 HP
  have HE5 := Aside0.mk (gd_end HA4.out HDIS.out HN.out.slt (show NamesAt bs b l2 Sn5 W5 from by rw [HL2.out, HO.out]; exact h5.1) h5.2.1 h5.2.2)
  clear h5
  go_wp2
  refine ⟨_, results_tmp rfl _ _ _, ?_⟩
  exact ⟨rfl, _, _, HE5.out⟩
set_option maxHeartbeats 16000000 in
set_option maxRecDepth 100000 in
theorem gd_new {W : World} {F : Fp} {d s c : Nat} {max : Int} {m : Option Nat} {D : List DomB} (h : DMS W F d s c max m D) {x : DomB} (hx : x ∈ D) (hE : EOk x.E) {bs b : Nat} {Sn : Nat → Prop} {l : List ByteArray} (hN : NamesAt bs b l Sn W) (hdis : ∀ k, Sn k → ¬ DMS.S F D k) (hl : l.length ≤ 1000000) {bn : Nat} {n : ByteArray} {tn : TypeId} (hn : W.heap[bn]? = some (.cells #[.string n] tn (0, 0))) (hin : n ∉ x.L.map (·.name)) {l2 : List ByteArray} (hl2 : l2 = l ++ if occ x.E n = true then [x.name] else []) :
  Calls Tryz.prog 163 #[KY x.name, PM x.p, PT bn, PT b] W fun e W' => e = .returned (.bool true) ∧ ∃ D' Sn', GdEnd F d s c max m bs b D W Sn l2 D' Sn' W' := by
 have cn := cell_of_one hn
 have hta := as_string (.string x.name)
 have htm := as_mgr (PT x.p)
 have hxi := h.each x hx
 have HG1 := Aside0.mk (get_role_new hxi.mem hxi.rm hxi.gr hin)
 have HH := Aside0.mk h
 have HX := Aside0.mk hx
 have HE := Aside0.mk hE
 have HGR := Aside0.mk hxi.gr
 have HN := Aside0.mk hN
 have HDIS := Aside0.mk hdis
 have HL2 := Aside0.mk hl2
 have HLT := Aside0.mk (show (l.length + 1) * 16 ≤ 140737488355328 from by omega)
 clear h hx hE hxi hin hN hdis hn hl2
 go_enter_defers Tryz.func163, Tryz.ntmps163
 go_upto_region 4 with (go_at_call 58; refine HG1.out.mono ?_; rintro e w2 ⟨y, F1, m1, rfl, hM1, hR1, hG1, hyn, hn1, ht1⟩)
 have hy : y ∈ x.L ++ [y] := by simp
 have c0 : w2.cell? ⟨y.a, 0, none⟩ = some (.string y.name) := load_cell hM1 (hR1.roles y hy).a rfl
 have HA := Aside0.mk (GdTo.of HH.out HX.out (x' := { x with F := F1, m := m1, L := x.L ++ [y] }) rfl rfl rfl ⟨hM1, hR1, hG1⟩ hn1 ht1)
 have HRM := Aside0.mk (fun (W5 : World) (l' : List ByteArray) (Sn' : Nat → Prop) (hE5 : GdEnd F d s c max m bs b D W Sn l' (repD D { x with F := F1, m := m1, L := x.L ++ [y] }) Sn' W5) (u : FrameMode) => gd_remove (x := { x with F := F1, m := m1, L := x.L ++ [y] }) u hE5.dm (rep_mem HX.out rfl) rfl HGR.out hyn)
 go_upto_region 6 with (fail)
 obtain ⟨hpU, hlU, hsU⟩ := hG1.pu HE.out hy
 obtain ⟨hpR, hlR, hsR⟩ := hG1.pr HE.out hy
 rw [hyn] at hpU hpR
 have HU := Aside0.mk (role_users hM1 hR1 hG1 hy hlU hsU)
 have HR := Aside0.mk (fun (W3 : World) (hb : Below w2.heap.size w2 W3) => role_roles (hM1.below hb) hR1 hG1 hy hlR hsR)
 have HPU := Aside0.mk hpU
 have HPR := Aside0.mk hpR
 clear hpU hlU hsU hpR hlR hsR hM1 hR1 hy hyn hn1 ht1 HG1 hG1
 have HAB := Aside0.mk (fun (W4 : World) (hb : Below w2.heap.size w2 W4) => HA.out.trans (GdTo.refl HA.out.dm hb))
 clear HA
 by_cases hU : usersE x.E n = []
 ·by_cases hR : rolesE x.E n = []
  ·have HO := Aside0.mk (show occ x.E n = false from by unfold occ; rw [hU, hR]; rfl)
   go_upto_region 8 with (first
    | (go_at_call 112; refine HU.out.mono ?_; rintro e w3 ⟨v, lu, rfl, hlu, hru, hb3⟩; obtain rfl : lu = [] := (show lu.Perm [] from by rw [← hU]; exact hlu.trans HPU.out).eq_nil; obtain ⟨Au, cu, hv⟩ := Kd.R_slice hru; subst hv; have HB3 := Aside0.mk hb3; clear hlu hru hb3)
    | (go_at_call 111; refine (HR.out _ HB3.out).mono ?_; rintro e W4 ⟨v, lr, rfl, hlr, hrr, hb4⟩; obtain rfl : lr = [] := (show lr.Perm [] from by rw [← hR]; exact hlr.trans HPR.out).eq_nil; obtain ⟨Ar, cr, hv⟩ := Kd.R_slice hrr; subst hv; have HB4 := Aside0.mk (HB3.out.trans (hb4.mono HB3.out.size)); clear hlr hrr hb4))
   have HA4 := Aside0.mk (HAB.out _ HB4.out)
   have h5 := gd_end HA4.out HDIS.out HN.out.slt (HN.out.apart (Turn.trans HA4.out.tn (NextS.refl _ _) (Turn.refl _ _)) (fun k hk hq => HDIS.out k hk (.inr hq))) (NextS.refl _ _) (Turn.refl _ _)
   rw [show l = l2 from by rw [HL2.out, HO.out]; simp] at h5
   have HE5 := Aside0.mk h5
   clear h5
   go_wp2
   refine leaves_cons (f := 108) (args := #[PT x.p, .string n]) (by simp) (by simp [go_sem]) ?_
   refine (HRM.out _ _ _ HE5.out .returning).mono ?_
   rintro e u' w6 ⟨rfl, rfl, D2, hs⟩
   refine ⟨_, results_tmp rfl _ _ _, ?_⟩
   exact ⟨rfl, D2, _, gd_last HE5.out hs⟩
  ·have HO := Aside0.mk (show occ x.E n = true from by unfold occ; rw [hU]; cases hq : rolesE x.E n with | nil => exact absurd hq hR | cons a b => rfl)
   go_upto_region 7 with (first
    | (go_at_call 112; refine HU.out.mono ?_; rintro e w3 ⟨v, lu, rfl, hlu, hru, hb3⟩; obtain rfl : lu = [] := (show lu.Perm [] from by rw [← hU]; exact hlu.trans HPU.out).eq_nil; obtain ⟨Au, cu, hv⟩ := Kd.R_slice hru; subst hv; have HB3 := Aside0.mk hb3; clear hlu hru hb3)
    | (go_at_call 111; refine (HR.out _ HB3.out).mono ?_; rintro e W4 ⟨v, lr, rfl, hlr, hrr, hb4⟩; obtain ⟨hz0, hz1⟩ := len_pos (l := lr) (fun e => hR (by rw [e] at hlr; exact (hlr.trans HPR.out).symm.eq_nil)); obtain ⟨Ar, cr, hv⟩ := Kd.R_slice hrr; subst hv; have HB4 := Aside0.mk (HB3.out.trans (hb4.mono HB3.out.size)); clear hlr hrr hb4))
   have HA4 := Aside0.mk (HAB.out _ HB4.out)
   have HNAT := Aside0.mk (show NamesAt bs b l Sn W4 from HN.out.apart HA4.out.tn (fun k hk hq => HDIS.out k hk (.inr hq)))
   obtain ⟨⟨vn, hnc, hnr, hns⟩, hnb, hlb⟩ := HNAT.out
   have HNC := Aside0.mk hnc
   have HNR := Aside0.mk hnr
   have HNB := Aside0.mk hnb
   have HLB := Aside0.mk hlb
   have cb : W4.cell? ⟨b, 0, none⟩ = some vn := cell_of_one hnc
   have ca : (W4.alloc (.cells #[.string x.name] 9)).cell? ⟨b, 0, none⟩ = some vn := cell_of_one (((MapKept.heap_alloc W4 _).2 b (Nat.lt_of_lt_of_le hlb hnb)).trans hnc)
   clear hnc hnr hns hnb hlb
   go_upto_region 7 with (fail)
   go_upto_region 8 with ((with_reducible refine gate_builtin (b := .append) (xs := #[.tmp 37, .tmp 39]) rfl ?_); at_builtin; refine Kd.R_append Kd.string (w0 := W4) bs rfl (.tmp 37) (.tmp 39) 38 9 (.string ⟨#[]⟩) 16 rfl Tryz.underlying38 infoS_ rfl (by decide) (by omega) vn l x.name [.string x.name] (fun _ => True) (fun _ => False) rfl (by first | (go_simp; done) | (go_simp; rfl)) ?aP (fun _ hk => hk.elim) ?aF ?aO ?aB ?aS ?aL ?_; (case aP => exact rfl); (case aF => exact fun _ _ => trivial); (case aO => exact HNR.out); (case aB => exact Below.refl _ _); (case aS => exact HNB.out); (case aL => exact HLT.out); rintro v1 w5 hR5 hB5 hG5 hat5; obtain ⟨A1, n1, hv1⟩ := Kd.R_slice hR5; rw [List.length_append, List.length_singleton] at hv1; subst hv1; have p4 := (hB5.block b HLB.out).trans HNC.out; have c5 := cell_of_one p4; have f5 := free_of_one p4; have hst := run_store1s c5 f5 A1 (l.length + 1) n1; have HP := Aside0.mk (And.intro hR5 (And.intro hG5 (And.intro hat5 (And.intro p4 hB5)))); clear hR5 hB5 hG5 hat5 p4)
   obtain ⟨W5, hW5⟩ : ∃ z, z = w5.setCell ⟨b, 0, none⟩ (.slice A1 (l.length + 1) n1) := ⟨_, rfl⟩
   have HX5 := Aside0.mk (names_told HNAT.out HP.out HNC.out hW5)
   rw [← hW5]
   clear hW5 hst c5 f5
   obtain ⟨Sn5, h5⟩ := HX5.out
   clear HX5 HP
   have HE5 := Aside0.mk (gd_end HA4.out HDIS.out HN.out.slt (show NamesAt bs b l2 Sn5 W5 from by rw [HL2.out, HO.out]; exact h5.1) h5.2.1 h5.2.2)
   clear h5
   go_wp2
   refine leaves_cons (f := 108) (args := #[PT x.p, .string n]) (by simp) (by simp [go_sem]) ?_
   refine (HRM.out _ _ _ HE5.out .returning).mono ?_
   rintro e u' w6 ⟨rfl, rfl, D2, hs⟩
   refine ⟨_, results_tmp rfl _ _ _, ?_⟩
   exact ⟨rfl, D2, _, gd_last HE5.out hs⟩
 ·have HO := Aside0.mk (show occ x.E n = true from by unfold occ; cases hq : usersE x.E n with | nil => exact absurd hq hU | cons a b => rfl)
  go_upto_region 7 with (first
   | (go_at_call 112; refine HU.out.mono ?_; rintro e W4 ⟨v, lu, rfl, hlu, hru, hb3⟩; obtain ⟨hz0, hz1⟩ := len_pos (l := lu) (fun e => hU (by rw [e] at hlu; exact (hlu.trans HPU.out).symm.eq_nil)); obtain ⟨Au, cu, hv⟩ := Kd.R_slice hru; subst hv; have HB4 := Aside0.mk hb3; clear hlu hru hb3))
  have HA4 := Aside0.mk (HAB.out _ HB4.out)
  have HNAT := Aside0.mk (show NamesAt bs b l Sn W4 from HN.out.apart HA4.out.tn (fun k hk hq => HDIS.out k hk (.inr hq)))
  obtain ⟨⟨vn, hnc, hnr, hns⟩, hnb, hlb⟩ := HNAT.out
  have HNC := Aside0.mk hnc
  have HNR := Aside0.mk hnr
  have HNB := Aside0.mk hnb
  have HLB := Aside0.mk hlb
  have cb : W4.cell? ⟨b, 0, none⟩ = some vn := cell_of_one hnc
  have ca : (W4.alloc (.cells #[.string x.name] 9)).cell? ⟨b, 0, none⟩ = some vn := cell_of_one (((MapKept.heap_alloc W4 _).2 b (Nat.lt_of_lt_of_le hlb hnb)).trans hnc)
  clear hnc hnr hns hnb hlb
  go_upto_region 7 with (fail)
  go_upto_region 8 with ((with_reducible refine gate_builtin (b := .append) (xs := #[.tmp 37, .tmp 39]) rfl ?_); at_builtin; refine Kd.R_append Kd.string (w0 := W4) bs rfl (.tmp 37) (.tmp 39) 38 9 (.string ⟨#[]⟩) 16 rfl Tryz.underlying38 infoS_ rfl (by decide) (by omega) vn l x.name [.string x.name] (fun _ => True) (fun _ => False) rfl (by first | (go_simp; done) | (go_simp; rfl)) ?aP (fun _ hk => hk.elim) ?aF ?aO ?aB ?aS ?aL ?_; (case aP => exact rfl); (case aF => exact fun _ _ => trivial); (case aO => exact HNR.out); (case aB => exact Below.refl _ _); (case aS => exact HNB.out); (case aL => exact HLT.out); rintro v1 w5 hR5 hB5 hG5 hat5; obtain ⟨A1, n1, hv1⟩ := Kd.R_slice hR5; rw [List.length_append, List.length_singleton] at hv1; subst hv1; have p4 := (hB5.block b HLB.out).trans HNC.out; have c5 := cell_of_one p4; have f5 := free_of_one p4; have hst := run_store1s c5 f5 A1 (l.length + 1) n1; have HP := Aside0.mk (And.intro hR5 (And.intro hG5 (And.intro hat5 (And.intro p4 hB5)))); clear hR5 hB5 hG5 hat5 p4)
  obtain ⟨W5, hW5⟩ : ∃ z, z = w5.setCell ⟨b, 0, none⟩ (.slice A1 (l.length + 1) n1) := ⟨_, rfl⟩
  have HX5 := Aside0.mk (names_told HNAT.out HP.out HNC.out hW5)
  rw [← hW5]
  clear hW5 hst c5 f5
  obtain ⟨Sn5, h5⟩ := HX5.out
  clear HX5 HP
  have HE5 := Aside0.mk (gd_end HA4.out HDIS.out HN.out.slt (show NamesAt bs b l2 Sn5 W5 from by rw [HL2.out, HO.out]; exact h5.1) h5.2.1 h5.2.2)
  clear h5
  go_wp2
  refine leaves_cons (f := 108) (args := #[PT x.p, .string n]) (by simp) (by simp [go_sem]) ?_
  refine (HRM.out _ _ _ HE5.out .returning).mono ?_
  rintro e u' w6 ⟨rfl, rfl, D2, hs⟩
  refine ⟨_, results_tmp rfl _ _ _, ?_⟩
  exact ⟨rfl, D2, _, gd_last HE5.out hs⟩
end
/-! DomainManager.GetDomains. -/
section
open Go.Proofs
/-- behind some domains -/
def GdI (F : Fp) (d s c : Nat) (max : Int) (m : Option Nat) (D : List DomB) (n : ByteArray) (bs b bn : Nat) (tn : TypeId) (done : Ents) (S : Nat → Prop) (W : World) : Prop :=
 ∃ D' Sn, DMS W F d s c max m D' ∧ entsM D' = entsM D ∧ (∀ k, domE D' k = domE D k) ∧ NamesAt bs b ((done.map (·.1)).filter fun k => occ (domE D k) n) Sn W ∧ (∀ k, Sn k → ¬ DMS.S F D' k) ∧ (∀ k, S k ↔ domS D' k ∨ Sn k) ∧ W.heap[bn]? = some (.cells #[.string n] tn (0, 0)) ∧ ¬ S bn ∧ done.length ≤ 1000000
theorem DMS.frame {w W W' : World} {F : Fp} {d s c : Nat} {max : Int} {m : Option Nat} {D : List DomB} (h : DMS W F d s c max m D) (hF : ∀ k, F k ≠ none → k < w.heap.size) (hk : ∀ k, k < W.heap.size → (k < w.heap.size ∨ domS D k) → W'.heap[k]? = W.heap[k]?) : DMS W' F d s c max m D := by
 refine ⟨fun k t pc hq => ?_, h.dm, fun x hx => ⟨fun k t pc hq => ?_, (h.each x hx).rm, (h.each x hx).gr⟩, h.names, h.dis, h.own⟩
 ·exact (h.mem k t pc hq).keep (hk k (h.mem k t pc hq).lt (.inl (hF k (by rw [hq]; exact Option.some_ne_none _))))
 ·exact ((h.each x hx).mem k t pc hq).keep (hk k ((h.each x hx).mem k t pc hq).lt (.inr ⟨x, hx, by rw [hq]; exact Option.some_ne_none _⟩))
theorem gd_rstep {w : World} {F : Fp} {d s c : Nat} {max : Int} {m : Option Nat} {D : List DomB} {n : ByteArray} {bs b bn : Nat} {tn : TypeId} (hF : ∀ k, F k ≠ none → k < w.heap.size) (hE : ∀ k, EOk (domE D k)) (hD : D.length ≤ 1000000) (hb : b < w.heap.size) (hbn : bn < w.heap.size) :
  RStep w (entsM D) 163 #[PT bn, PT b] (GdI F d s c max m D n bs b bn tn) := by
 have hel : (entsM D).length = D.length := by unfold entsM; rw [List.length_map]
 refine ⟨fun done rest S W k v hp hq => ?_, fun done S W W' hq hk hsz ho => ?_, fun done S W hq k hk => ?_⟩
 ·obtain ⟨D1, Sn, h1, h2, h3, h4, h5, h6, h7, h8, h9⟩ := hq
  have hin : (k, v) ∈ entsM D1 := by rw [h2]; exact hp.mem_iff.1 (by simp)
  obtain ⟨x, hx, hxe⟩ := List.mem_map.1 hin
  injection hxe with e1 e2
  subst e1 e2
  have hxE : domE D x.name = x.E := by rw [← h3, domE_in h1.names hx rfl]
  have hl2 : ((done ++ [(x.name, PM x.p)]).map (·.1)).filter (fun k => occ (domE D k) n) = ((done.map (·.1)).filter fun k => occ (domE D k) n) ++ if occ x.E n = true then [x.name] else [] := by
   rw [List.map_append, List.filter_append, List.map_singleton, List.filter_cons, List.filter_nil, hxE]
  have hlen : ((done.map (·.1)).filter fun k => occ (domE D k) n).length ≤ 1000000 := Nat.le_trans (List.length_filter_le ..) (by rw [List.length_map]; exact h9)
  have hlen2 : (done ++ [(x.name, PM x.p)]).length ≤ 1000000 := by
   have := hp.length_eq
   rw [hel] at this
   simp at this ⊢
   omega
  have key : Calls Tryz.prog 163 #[KY x.name, PM x.p, PT bn, PT b] W fun e W' => e = .returned (.bool true) ∧ ∃ D' Sn', GdEnd F d s c max m bs b D1 W Sn (((done ++ [(x.name, PM x.p)]).map (·.1)).filter (fun k => occ (domE D k) n)) D' Sn' W' := by
   by_cases hn : n ∈ x.L.map (·.name)
   ·exact gd_old h1 hx (by rw [← hxE]; exact hE _) h4 h5 hlen h7 hn hl2
   ·exact gd_new h1 hx (by rw [← hxE]; exact hE _) h4 h5 hlen h7 hn hl2
  refine key.mono ?_
  rintro e W' ⟨rfl, D2, Sn2, hg⟩
  have hS : ∀ k, S k ↔ domS D1 k ∨ Sn k := h6
  have hbl : bn < W.heap.size := (Array.getElem?_eq_some_iff.1 h7).1
  have hnx : NextS W.heap.size S (fun k => domS D2 k ∨ Sn2 k) := fun k hk => by
   rcases hk with hk | hk
   ·exact (hg.nx k hk).imp_left (fun h => (hS k).2 (.inl h))
   ·exact (hg.nn k hk).imp_left (fun h => (hS k).2 (.inr h))
  have htn : Turn S W W' := hg.tn.mono (fun k _ hk => (hS k).2 hk)
  refine ⟨rfl, fun k => domS D2 k ∨ Sn2 k, ⟨D2, Sn2, hg.dm, hg.en.trans h2, fun k => (hg.ed k).trans (h3 k), hg.nm, hg.dis, fun k => Iff.rfl, (htn.block bn hbl h8).trans h7, fun hk => ?_, hlen2⟩, hnx, htn⟩
  rcases hnx bn hk with h | h
  ·exact h8 h
  ·omega
 ·obtain ⟨D', Sn, h1, h2, h3, h4, h5, h6, h7, h8, h9⟩ := hq
  exact ⟨D', Sn, h1.frame hF (fun k hk1 hk2 => hk k hk1 (hk2.imp_right (fun h => (h6 k).2 (.inl h)))), h2, h3, h4.frame hb (fun k hk1 hk2 => hk k hk1 (hk2.imp_right (fun h => (h6 k).2 (.inr h)))) hsz, h5, h6, (hk bn (Array.getElem?_eq_some_iff.1 h7).1 (.inl hbn)).trans h7, h8, h9⟩
 ·obtain ⟨D', Sn, h1, h2, h3, h4, h5, h6, h7, h8, h9⟩ := hq
  rcases (h6 k).1 hk with h | h
  ·exact h1.slt k (.inr h)
  ·exact h4.slt k h
set_option maxHeartbeats 8000000 in
set_option maxRecDepth 100000 in
theorem dm_domains {F : Fp} {w : World} {d s c : Nat} {max : Int} {m : Option Nat} {D : List DomB} (h : DMS w F d s c max m D) (n : ByteArray) (hE : ∀ k, EOk (domE D k)) (hD : D.length ≤ 1000000) :
  Calls Tryz.prog 155 #[PT d, .string n] w fun e w' => ∃ v l, e = .returned (.tuple #[v, .nilIface]) ∧ l.Perm ((D.map (·.name)).filter fun k => occ (domE D k) n) ∧ Kd.R Kd.string 9 w' w.heap.size (fun _ => True) v l ∧ DMPost (D.map (·.name)) w F d s c max D (domE D) w' := by
 have hF : ∀ k, F k ≠ none → k < w.heap.size := fun k hk => h.slt k (.inl hk)
 obtain ⟨W1, hW1⟩ : ∃ W1, W1 = (w.alloc (.cells #[.string n] 9)).alloc (.cells #[.slice none 0 0] 38) := ⟨_, rfl⟩
 have hb1 : Below w.heap.size w W1 := by rw [hW1]; exact ((Below.refl _ _).alloc (Nat.le_refl _) _).alloc (by simp) _
 have hs1 : W1.heap.size = w.heap.size + 1 + 1 := by rw [hW1]; simp
 have hn1 : W1.heap[w.heap.size]? = some (.cells #[.string n] 9 (0, 0)) := by rw [hW1, heap_alloc_old _ _ (by simp)]; exact heap_alloc_new _ _
 have hv1 : W1.heap[w.heap.size + 1]? = some (.cells #[.slice none 0 0] 38 (0, 0)) := by
  rw [hW1]
  have := heap_alloc_new (w.alloc (.cells #[.string n] 9)) (.cells #[.slice none 0 0] 38)
  simpa using this
 have hst := gd_rstep (w := W1) (d := d) (s := s) (c := c) (max := max) (m := m) (n := n) (bs := W1.heap.size) (b := w.heap.size + 1) (bn := w.heap.size) (tn := 9) (fun k hk => Nat.lt_of_lt_of_le (hF k hk) hb1.size) hE hD (by omega) (by omega)
 have h1 := h.below hb1
 have hlt : ∀ k, DMS.S F D k → k < w.heap.size := h.slt
 have h0 : GdI F d s c max m D n W1.heap.size (w.heap.size + 1) w.heap.size 9 [] (fun k => domS D k ∨ k = w.heap.size + 1) W1 :=
  ⟨D, fun k => k = w.heap.size + 1, h1, rfl, fun _ => rfl, ⟨⟨_, hv1, Kd.R_nil _ _ _ _ _, fun k => by simp [Value.ownBlock]⟩, Nat.le_refl _, by omega⟩, fun k hk hq => by have := hlt k hq; omega, fun k => Iff.rfl, hn1, fun hk => by
   rcases hk with hk | hk
   ·have := hlt _ (.inr hk); omega
   ·omega, Nat.zero_le _⟩
 have hnod : ((entsM D).map (·.1)).Nodup := by
  have := h.names
  unfold entsM
  rw [List.map_map]
  exact this
 have hmk : (entsM D).map (·.1) = D.map (·.name) := by unfold entsM; rw [List.map_map]; rfl
 have hdl : ∀ k, domS D k → ¬ F k ≠ none := fun k hk hf => by
  obtain ⟨x, hx, hk⟩ := hk
  exact hk (h.own x hx k hf)
 have hrg := sy_range h1.mem h1.dm.sy hnod (by unfold entsM; rw [List.length_map]; exact hD) (fun args w => by kernel_rfl) hst h0 (fun k hk => by
  rcases hk with hk | hk
  ·have := hlt k (.inr hk); have := hb1.size; omega
  ·omega) (fun hk => by
  rcases hk with hk | hk
  ·exact hdl _ hk (by rw [h.dm.s]; exact Option.some_ne_none _)
  ·have := hF s (by rw [h.dm.s]; exact Option.some_ne_none _); omega) (fun b hb hk => by
  have h2 := h.dm.m
  rw [hb] at h2
  have h3 : F b = some _ := h2
  rcases hk with hk | hk
  ·exact hdl _ hk (by rw [h3]; exact Option.some_ne_none _)
  ·have := hF b (by rw [h3]; exact Option.some_ne_none _); omega)
 have c0 : W1.cell? ⟨d, 0, none⟩ = some (PT s) := load_cell h1.mem h1.dm.d rfl
 have hmf : ∀ (fn : Fn) (first cap : Array Value) (w : World), (Instr.makeFunc fn first cap).run Tryz.prog w = .ok (.func fn first cap) w := fun _ _ _ _ => rfl
 have HRG := Aside0.mk hrg
 have HB1 := Aside0.mk hb1
 have HS1 := Aside0.mk hs1
 have HLT := Aside0.mk hlt
 have HMK := Aside0.mk hmk
 have HNM := Aside0.mk h.names
 clear h h1 hE hD hF hst h0 hnod hdl hrg hb1 hs1 hn1 hv1 hlt hmk
 rw [hW1] at HRG HB1 HS1 c0
 clear hW1 W1
 go_enter Tryz.func155, Tryz.ntmps155
 go_upto_region 2 with (fail)
 generalize (w.alloc (.cells #[.string n] 9)).alloc (.cells #[.slice none 0 0] 38) = W1 at *
 go_upto_region 3 with (go_at_call 42; refine HRG.out.mono ?_; rintro e w2 ⟨rfl, Dn, S', hp, ⟨D', Sn, g1, g2, g3, ⟨⟨v, hc, hR, hS⟩, hbs, hlt⟩, g5, g6, g7, g8, g9⟩, hn, ht⟩; have c2 := cell_of_one hc; obtain ⟨A1, n1, hv⟩ := Kd.R_slice hR; subst hv; have HP := Aside0.mk hp; have HR := Aside0.mk hR; have HT := Aside0.mk ht; have HN := Aside0.mk hn; have G1 := Aside0.mk g1; have G2 := Aside0.mk g2; have G3 := Aside0.mk g3; have G6 := Aside0.mk g6; clear hp hc hR hS hbs hlt hn ht g1 g2 g3 g5 g6 g7 g8 g9)
 obtain ⟨ln, hln⟩ : ∃ ln, ln = (Dn.map (·.1)).filter fun k => occ (domE D k) n := ⟨_, rfl⟩
 rw [← hln] at HR c2
 have HPE := Aside0.mk (show ln.Perm ((D.map (·.name)).filter fun k => occ (domE D k) n) from by
  rw [hln, ← HMK.out]
  exact (HP.out.map (·.1)).filter _)
 have HR3 := Aside0.mk (Kd.R_lower HR.out HB1.out.size)
 have HDP := Aside0.mk (show DMPost (D.map (·.name)) w F d s c max D (domE D) w2 from by
  refine ⟨F, m, D', G1.out, G3.out, fun k hk => ?_, ?_, ?_⟩
  ·rcases hk with hk | hk
   ·exact .inl (.inl hk)
   ·rcases HN.out k ((G6.out k).2 (.inl hk)) with h | h
    ·rcases h with h | h
     ·exact .inl (.inr h)
     ·exact .inr (by omega)
    ·exact .inr (Nat.le_trans HB1.out.size h)
  ·exact (Turn.ofBelow _ HB1.out).trans (fun k hk => by
    rcases hk with hk | hk
    ·exact .inl (.inr hk)
    ·exact .inr (by omega)) HT.out
  ·have e := congrArg (List.map (·.1)) G2.out
   unfold entsM at e
   rw [List.map_map, List.map_map] at e
   exact e)
 clear HRG HP HR hln HT HN G1 G2 G3 G6
 go_wp2
 go_ret2
 exact ⟨_, _, rfl, HPE.out, HR3.out, HDP.out⟩
end
/-! Managers with domains or without. -/
section
open Go.Proofs
/-- a manager, without domains or with them: its links (without domains: those of the empty domain), its blocks; K: its domains -/
def Mgr (K : List ByteArray) (w : World) (v : Value) (max : Int) (Ef : ByteArray → Edges) (S : Nat → Prop) : Bool → Prop
 | false => ∃ F p s c m L, v = .iface 69 (PT p) ∧ Mem w F ∧ RMF F p s c max mc0 m L ∧ Graph L (Ef ByteArray.empty) ∧ ∀ k, S k ↔ F k ≠ none
 | true => ∃ F d s c m D, v = .iface 73 (PT d) ∧ DMS w F d s c max m D ∧ (∀ k, domE D k = Ef k) ∧ (∀ k, S k ↔ DMS.S F D k) ∧ D.map (·.name) = K
set_option maxHeartbeats 4000000 in
set_option maxRecDepth 100000 in
theorem impl_made (max : Int) (b : Bool) (w : World) :
  Calls Tryz.prog 23 #[.int .i64 max, .bool b, .int .i64 0, .int .i64 0] w fun e w' => ∃ v S, e = .returned v ∧ Mgr [] w' v max (fun _ => []) S b ∧ (∀ k, S k → w.heap.size ≤ k) ∧ Below w.heap.size w w' := by
 cases b with
 | false =>
  go_enter Tryz.func23, Tryz.ntmps23
  go_wp2_with (go_at_call 29; refine (rm_new max _).mono ?_; rintro e w2 ⟨p, F, s, c, rfl, h1, h2, h3, h4, h5⟩; have H1 := Aside0.mk h1; have H2 := Aside0.mk h2; have H3 := Aside0.mk h3; have H4 := Aside0.mk h4; have H5 := Aside0.mk h5; clear h1 h2 h3 h4 h5)
  go_ret
  exact ⟨_, fun k => F k ≠ none, rfl, ⟨F, p, s, c, none, [], rfl, H1.out, H2.out, H3.out, fun k => Iff.rfl⟩, H4.out, H5.out⟩
 | true =>
  go_enter Tryz.func23, Tryz.ntmps23
  go_wp2_with (go_at_call 32; refine (dm_new max _).mono ?_; rintro e w2 ⟨d, F, s, c, rfl, h1, h2, h3⟩; have H1 := Aside0.mk h1; have H2 := Aside0.mk h2; have H3 := Aside0.mk h3; clear h1 h2 h3)
  go_ret
  exact ⟨_, DMS.S F [], rfl, ⟨F, d, s, c, none, [], rfl, H1.out, fun k => rfl, fun k => Iff.rfl, rfl⟩, H2.out, H3.out⟩
set_option maxHeartbeats 4000000 in
set_option maxRecDepth 100000 in
/-- the row that says a domain: of one text, or none -/
theorem impl_within0 (dom : ByteArray) (w : World) :
  Calls Tryz.prog 35 #[.bool false, .string dom] w fun e w' => e = .returned (.slice none 0 0) ∧ w' = w := by
 go_enter Tryz.func35, Tryz.ntmps35
 go_wp2
 go_ret
 exact ⟨rfl, rfl⟩
set_option maxHeartbeats 4000000 in
set_option maxRecDepth 100000 in
theorem impl_within1 (dom : ByteArray) (w : World) :
  Calls Tryz.prog 35 #[.bool true, .string dom] w fun e w' => e = .returned (.slice (some ⟨w.heap.size, 0, none⟩) 1 1) ∧ w'.cell? ⟨w.heap.size, 0, none⟩ = some (.string dom) ∧ Below w.heap.size w w' := by
 go_enter Tryz.func35, Tryz.ntmps35
 go_wp2
 go_ret
 exact ⟨rfl, cell_of_one (heap_alloc_new _ _), (Below.refl _ _).alloc (Nat.le_refl _) _⟩
end
/-! A manager's deeds and questions, with domains or without. -/
section
open Go.Proofs
variable {K : List ByteArray}
theorem mgr_add0 {w : World} {v : Value} {max : Int} {Ef : ByteArray → Edges} {S : Nat → Prop} (h : Mgr K w v max Ef S false) (u r : ByteArray) (dv : Value) : ∃ p, v = .iface 69 (PT p) ∧
  Calls Tryz.prog 50 #[PT p, .string u, .string r, dv] w fun e w' => e = .returned .nilIface ∧ ∃ S', Mgr (addK K ByteArray.empty) w' v max (fun k => if k = ByteArray.empty then addE (Ef ByteArray.empty) u r else Ef k) S' false ∧ NextS w.heap.size S S' ∧ Turn S w w' := by
 obtain ⟨F, p, s, c, m, L, rfl, hM, hR, hG, hS⟩ := h
 refine ⟨p, rfl, (add_link hM hR hG u r dv).mono ?_⟩
 rintro e w' ⟨rfl, F', m', L', g1, g2, g3, g4, g5⟩
 exact ⟨rfl, fun k => F' k ≠ none, ⟨F', p, s, c, m', L', rfl, g1, g2, by show Graph L' (if ByteArray.empty = ByteArray.empty then _ else _); rw [if_pos rfl]; exact g3, fun k => Iff.rfl⟩, fun k hk => (g4 k hk).imp_left (hS k).2, g5.mono (fun k _ hk => (hS k).2 hk)⟩
theorem mgr_add1 {w : World} {v : Value} {max : Int} {Ef : ByteArray → Edges} {S : Nat → Prop} (h : Mgr K w v max Ef S true) (u r dom : ByteArray) {b : Nat} (hb : w.cell? ⟨b, 0, none⟩ = some (.string dom)) : ∃ d, v = .iface 73 (PT d) ∧
  Calls Tryz.prog 54 #[PT d, .string u, .string r, .slice (some ⟨b, 0, none⟩) 1 1] w fun e w' => e = .returned .nilIface ∧ ∃ S', Mgr (addK K dom) w' v max (fun k => if k = dom then addE (Ef dom) u r else Ef k) S' true ∧ NextS w.heap.size S S' ∧ Turn S w w' := by
 obtain ⟨F, d, s, c, m, D, rfl, hD, hE, hS, hK⟩ := h
 refine ⟨d, rfl, (dm_add hD u r dom hb).mono ?_⟩
 rintro e w' ⟨rfl, F', m', D', g1, g2, g3, g4, g5⟩
 exact ⟨rfl, DMS.S F' D', ⟨F', d, s, c, m', D', rfl, g1, fun k => by rw [g2]; show (if k = dom then addE (domE D dom) u r else domE D k) = _; rw [hE, hE], fun k => Iff.rfl, by rw [g5, hK]⟩, fun k hk => (g3 k hk).imp_left (hS k).2, g4.mono (fun k _ hk => (hS k).2 hk)⟩
theorem mgr_del0 {w : World} {v : Value} {max : Int} {Ef : ByteArray → Edges} {S : Nat → Prop} (h : Mgr K w v max Ef S false) (u r : ByteArray) (dv : Value) : ∃ p, v = .iface 69 (PT p) ∧
  Calls Tryz.prog 98 #[PT p, .string u, .string r, dv] w fun e w' => e = .returned .nilIface ∧ ∃ S', Mgr (addK K ByteArray.empty) w' v max (fun k => if k = ByteArray.empty then delE (Ef ByteArray.empty) u r else Ef k) S' false ∧ NextS w.heap.size S S' ∧ Turn S w w' := by
 obtain ⟨F, p, s, c, m, L, rfl, hM, hR, hG, hS⟩ := h
 refine ⟨p, rfl, (delete_link hM hR hG u r dv).mono ?_⟩
 rintro e w' ⟨rfl, F', m', L', g1, g2, g3, g4, g5⟩
 exact ⟨rfl, fun k => F' k ≠ none, ⟨F', p, s, c, m', L', rfl, g1, g2, by show Graph L' (if ByteArray.empty = ByteArray.empty then _ else _); rw [if_pos rfl]; exact g3, fun k => Iff.rfl⟩, fun k hk => (g4 k hk).imp_left (hS k).2, g5.mono (fun k _ hk => (hS k).2 hk)⟩
theorem mgr_del1 {w : World} {v : Value} {max : Int} {Ef : ByteArray → Edges} {S : Nat → Prop} (h : Mgr K w v max Ef S true) (u r dom : ByteArray) {b : Nat} (hb : w.cell? ⟨b, 0, none⟩ = some (.string dom)) : ∃ d, v = .iface 73 (PT d) ∧
  Calls Tryz.prog 153 #[PT d, .string u, .string r, .slice (some ⟨b, 0, none⟩) 1 1] w fun e w' => e = .returned .nilIface ∧ ∃ S', Mgr (addK K dom) w' v max (fun k => if k = dom then delE (Ef dom) u r else Ef k) S' true ∧ NextS w.heap.size S S' ∧ Turn S w w' := by
 obtain ⟨F, d, s, c, m, D, rfl, hD, hE, hS, hK⟩ := h
 refine ⟨d, rfl, (dm_del hD u r dom hb).mono ?_⟩
 rintro e w' ⟨rfl, F', m', D', g1, g2, g3, g4, g5⟩
 exact ⟨rfl, DMS.S F' D', ⟨F', d, s, c, m', D', rfl, g1, fun k => by rw [g2]; show (if k = dom then delE (domE D dom) u r else domE D k) = _; rw [hE, hE], fun k => Iff.rfl, by rw [g5, hK]⟩, fun k hk => (g3 k hk).imp_left (hS k).2, g4.mono (fun k _ hk => (hS k).2 hk)⟩
theorem mgr_roles0 {w : World} {v : Value} {max : Int} {Ef : ByteArray → Edges} {S : Nat → Prop} (h : Mgr K w v max Ef S false) (n : ByteArray) (hE : EOk (Ef ByteArray.empty)) (dv : Value) : ∃ p, v = .iface 69 (PT p) ∧
  Calls Tryz.prog 103 #[PT p, .string n, dv] w fun e w' => ∃ v2 l, e = .returned (.tuple #[v2, .nilIface]) ∧ l.Perm (rolesE (Ef ByteArray.empty) n) ∧ Kd.R Kd.string 9 w' w.heap.size (fun _ => True) v2 l ∧ ∃ S', Mgr K w' v max Ef S' false ∧ NextS w.heap.size S S' ∧ Turn S w w' := by
 obtain ⟨F, p, s, c, m, L, rfl, hM, hR, hG, hS⟩ := h
 refine ⟨p, rfl, (rm_roles hM hR hG hE n dv).mono ?_⟩
 rintro e w' ⟨v2, l, rfl, hl, hr, F', m', L', g1, g2, g3, g4, g5⟩
 exact ⟨v2, l, rfl, hl, hr, fun k => F' k ≠ none, ⟨F', p, s, c, m', L', rfl, g1, g2, g3, fun k => Iff.rfl⟩, fun k hk => (g4 k hk).imp_left (hS k).2, g5.mono (fun k _ hk => (hS k).2 hk)⟩
theorem mgr_roles1 {w : World} {v : Value} {max : Int} {Ef : ByteArray → Edges} {S : Nat → Prop} (h : Mgr K w v max Ef S true) (n dom : ByteArray) (hE : EOk (Ef dom)) {b : Nat} (hb : w.cell? ⟨b, 0, none⟩ = some (.string dom)) : ∃ d, v = .iface 73 (PT d) ∧
  Calls Tryz.prog 158 #[PT d, .string n, .slice (some ⟨b, 0, none⟩) 1 1] w fun e w' => ∃ v2 l, e = .returned (.tuple #[v2, .nilIface]) ∧ l.Perm (rolesE (Ef dom) n) ∧ Kd.R Kd.string 9 w' w.heap.size (fun _ => True) v2 l ∧ ∃ S', Mgr K w' v max Ef S' true ∧ NextS w.heap.size S S' ∧ Turn S w w' := by
 obtain ⟨F, d, s, c, m, D, rfl, hD, hEE, hS, hK⟩ := h
 rw [← hEE] at hE ⊢
 refine ⟨d, rfl, (dm_roles hD n dom hE hb).mono ?_⟩
 rintro e w' ⟨v2, l, rfl, hl, hr, F', m', D', g1, g2, g3, g4, g5⟩
 exact ⟨v2, l, rfl, hl, hr, DMS.S F' D', ⟨F', d, s, c, m', D', rfl, g1, fun k => by rw [g2, hEE], fun k => Iff.rfl, by rw [g5, hK]⟩, fun k hk => (g3 k hk).imp_left (hS k).2, g4.mono (fun k _ hk => (hS k).2 hk)⟩
theorem mgr_users0 {w : World} {v : Value} {max : Int} {Ef : ByteArray → Edges} {S : Nat → Prop} (h : Mgr K w v max Ef S false) (n : ByteArray) (hE : EOk (Ef ByteArray.empty)) (dv : Value) : ∃ p, v = .iface 69 (PT p) ∧
  Calls Tryz.prog 104 #[PT p, .string n, dv] w fun e w' => ∃ v2 l, e = .returned (.tuple #[v2, .nilIface]) ∧ l.Perm (usersE (Ef ByteArray.empty) n) ∧ Kd.R Kd.string 9 w' w.heap.size (fun _ => True) v2 l ∧ ∃ S', Mgr K w' v max Ef S' false ∧ NextS w.heap.size S S' ∧ Turn S w w' := by
 obtain ⟨F, p, s, c, m, L, rfl, hM, hR, hG, hS⟩ := h
 refine ⟨p, rfl, (rm_users hM hR hG hE n dv).mono ?_⟩
 rintro e w' ⟨v2, l, rfl, hl, hr, F', m', L', g1, g2, g3, g4, g5⟩
 exact ⟨v2, l, rfl, hl, hr, fun k => F' k ≠ none, ⟨F', p, s, c, m', L', rfl, g1, g2, g3, fun k => Iff.rfl⟩, fun k hk => (g4 k hk).imp_left (hS k).2, g5.mono (fun k _ hk => (hS k).2 hk)⟩
theorem mgr_users1 {w : World} {v : Value} {max : Int} {Ef : ByteArray → Edges} {S : Nat → Prop} (h : Mgr K w v max Ef S true) (n dom : ByteArray) (hE : EOk (Ef dom)) {b : Nat} (hb : w.cell? ⟨b, 0, none⟩ = some (.string dom)) : ∃ d, v = .iface 73 (PT d) ∧
  Calls Tryz.prog 159 #[PT d, .string n, .slice (some ⟨b, 0, none⟩) 1 1] w fun e w' => ∃ v2 l, e = .returned (.tuple #[v2, .nilIface]) ∧ l.Perm (usersE (Ef dom) n) ∧ Kd.R Kd.string 9 w' w.heap.size (fun _ => True) v2 l ∧ ∃ S', Mgr K w' v max Ef S' true ∧ NextS w.heap.size S S' ∧ Turn S w w' := by
 obtain ⟨F, d, s, c, m, D, rfl, hD, hEE, hS, hK⟩ := h
 rw [← hEE] at hE ⊢
 refine ⟨d, rfl, (dm_users hD n dom hE hb).mono ?_⟩
 rintro e w' ⟨v2, l, rfl, hl, hr, F', m', D', g1, g2, g3, g4, g5⟩
 exact ⟨v2, l, rfl, hl, hr, DMS.S F' D', ⟨F', d, s, c, m', D', rfl, g1, fun k => by rw [g2, hEE], fun k => Iff.rfl, by rw [g5, hK]⟩, fun k hk => (g3 k hk).imp_left (hS k).2, g4.mono (fun k _ hk => (hS k).2 hk)⟩
theorem mgr_imp_roles0 {w : World} {v : Value} {max : Int} {Ef : ByteArray → Edges} {S : Nat → Prop} (hmax : 0 ≤ max ∧ max ≤ 1000000) (h : Mgr K w v max Ef S false) (n : ByteArray) (hE : EOk (Ef ByteArray.empty)) (dv : Value) : ∃ p, v = .iface 69 (PT p) ∧
  Calls Tryz.prog 101 #[PT p, .string n, dv] w fun e w' => ∃ v2 l, e = .returned (.tuple #[v2, .nilIface]) ∧ l.Perm (impl (rolesE (Ef ByteArray.empty)) max.toNat n) ∧ Kd.R Kd.string 9 w' w.heap.size (fun _ => True) v2 l ∧ ∃ S', Mgr K w' v max Ef S' false ∧ NextS w.heap.size S S' ∧ Turn S w w' := by
 obtain ⟨F, p, s, c, m, L, rfl, hM, hR, hG, hS⟩ := h
 refine ⟨p, rfl, (rm_imp_roles hmax hM hR hG hE n dv).mono ?_⟩
 rintro e w' ⟨v2, l, rfl, hl, hr, F', m', L', g1, g2, g3, g4, g5⟩
 exact ⟨v2, l, rfl, hl, hr, fun k => F' k ≠ none, ⟨F', p, s, c, m', L', rfl, g1, g2, g3, fun k => Iff.rfl⟩, fun k hk => (g4 k hk).imp_left (hS k).2, g5.mono (fun k _ hk => (hS k).2 hk)⟩
theorem mgr_imp_roles1 {w : World} {v : Value} {max : Int} {Ef : ByteArray → Edges} {S : Nat → Prop} (hmax : 0 ≤ max ∧ max ≤ 1000000) (h : Mgr K w v max Ef S true) (n dom : ByteArray) (hE : EOk (Ef dom)) {b : Nat} (hb : w.cell? ⟨b, 0, none⟩ = some (.string dom)) : ∃ d, v = .iface 73 (PT d) ∧
  Calls Tryz.prog 156 #[PT d, .string n, .slice (some ⟨b, 0, none⟩) 1 1] w fun e w' => ∃ v2 l, e = .returned (.tuple #[v2, .nilIface]) ∧ l.Perm (impl (rolesE (Ef dom)) max.toNat n) ∧ Kd.R Kd.string 9 w' w.heap.size (fun _ => True) v2 l ∧ ∃ S', Mgr K w' v max Ef S' true ∧ NextS w.heap.size S S' ∧ Turn S w w' := by
 obtain ⟨F, d, s, c, m, D, rfl, hD, hEE, hS, hK⟩ := h
 rw [← hEE] at hE ⊢
 refine ⟨d, rfl, (dm_imp_roles hmax hD n dom hE hb).mono ?_⟩
 rintro e w' ⟨v2, l, rfl, hl, hr, F', m', D', g1, g2, g3, g4, g5⟩
 exact ⟨v2, l, rfl, hl, hr, DMS.S F' D', ⟨F', d, s, c, m', D', rfl, g1, fun k => by rw [g2, hEE], fun k => Iff.rfl, by rw [g5, hK]⟩, fun k hk => (g3 k hk).imp_left (hS k).2, g4.mono (fun k _ hk => (hS k).2 hk)⟩
theorem mgr_imp_users0 {w : World} {v : Value} {max : Int} {Ef : ByteArray → Edges} {S : Nat → Prop} (hmax : 0 ≤ max ∧ max ≤ 1000000) (h : Mgr K w v max Ef S false) (n : ByteArray) (hE : EOk (Ef ByteArray.empty)) (dv : Value) : ∃ p, v = .iface 69 (PT p) ∧
  Calls Tryz.prog 102 #[PT p, .string n, dv] w fun e w' => ∃ v2 l, e = .returned (.tuple #[v2, .nilIface]) ∧ l.Perm (impl (usersE (Ef ByteArray.empty)) max.toNat n) ∧ Kd.R Kd.string 9 w' w.heap.size (fun _ => True) v2 l ∧ ∃ S', Mgr K w' v max Ef S' false ∧ NextS w.heap.size S S' ∧ Turn S w w' := by
 obtain ⟨F, p, s, c, m, L, rfl, hM, hR, hG, hS⟩ := h
 refine ⟨p, rfl, (rm_imp_users hmax hM hR hG hE n dv).mono ?_⟩
 rintro e w' ⟨v2, l, rfl, hl, hr, F', m', L', g1, g2, g3, g4, g5⟩
 exact ⟨v2, l, rfl, hl, hr, fun k => F' k ≠ none, ⟨F', p, s, c, m', L', rfl, g1, g2, g3, fun k => Iff.rfl⟩, fun k hk => (g4 k hk).imp_left (hS k).2, g5.mono (fun k _ hk => (hS k).2 hk)⟩
theorem mgr_imp_users1 {w : World} {v : Value} {max : Int} {Ef : ByteArray → Edges} {S : Nat → Prop} (hmax : 0 ≤ max ∧ max ≤ 1000000) (h : Mgr K w v max Ef S true) (n dom : ByteArray) (hE : EOk (Ef dom)) {b : Nat} (hb : w.cell? ⟨b, 0, none⟩ = some (.string dom)) : ∃ d, v = .iface 73 (PT d) ∧
  Calls Tryz.prog 157 #[PT d, .string n, .slice (some ⟨b, 0, none⟩) 1 1] w fun e w' => ∃ v2 l, e = .returned (.tuple #[v2, .nilIface]) ∧ l.Perm (impl (usersE (Ef dom)) max.toNat n) ∧ Kd.R Kd.string 9 w' w.heap.size (fun _ => True) v2 l ∧ ∃ S', Mgr K w' v max Ef S' true ∧ NextS w.heap.size S S' ∧ Turn S w w' := by
 obtain ⟨F, d, s, c, m, D, rfl, hD, hEE, hS, hK⟩ := h
 rw [← hEE] at hE ⊢
 refine ⟨d, rfl, (dm_imp_users hmax hD n dom hE hb).mono ?_⟩
 rintro e w' ⟨v2, l, rfl, hl, hr, F', m', D', g1, g2, g3, g4, g5⟩
 exact ⟨v2, l, rfl, hl, hr, DMS.S F' D', ⟨F', d, s, c, m', D', rfl, g1, fun k => by rw [g2, hEE], fun k => Iff.rfl, by rw [g5, hK]⟩, fun k hk => (g3 k hk).imp_left (hS k).2, g4.mono (fun k _ hk => (hS k).2 hk)⟩
theorem mgr_has0 {w : World} {v : Value} {max : Int} {Ef : ByteArray → Edges} {S : Nat → Prop} (hmax : 0 ≤ max ∧ max ≤ 1000000) (h : Mgr K w v max Ef S false) (n1 n2 : ByteArray) (hE : EOk (Ef ByteArray.empty)) (dv : Value) : ∃ p, v = .iface 69 (PT p) ∧
  Calls Tryz.prog 105 #[PT p, .string n1, .string n2, dv] w fun e w' => e = .returned (.tuple #[.bool (hasF (rolesE (Ef ByteArray.empty)) n2 max.toNat [n1]), .nilIface]) ∧ ∃ S', Mgr K w' v max Ef S' false ∧ NextS w.heap.size S S' ∧ Turn S w w' := by
 obtain ⟨F, p, s, c, m, L, rfl, hM, hR, hG, hS⟩ := h
 refine ⟨p, rfl, (rm_has hmax hM hR hG hE n1 n2 dv).mono ?_⟩
 rintro e w' ⟨rfl, F', m', L', g1, g2, g3, g4, g5⟩
 exact ⟨rfl, fun k => F' k ≠ none, ⟨F', p, s, c, m', L', rfl, g1, g2, g3, fun k => Iff.rfl⟩, fun k hk => (g4 k hk).imp_left (hS k).2, g5.mono (fun k _ hk => (hS k).2 hk)⟩
theorem mgr_has1 {w : World} {v : Value} {max : Int} {Ef : ByteArray → Edges} {S : Nat → Prop} (hmax : 0 ≤ max ∧ max ≤ 1000000) (h : Mgr K w v max Ef S true) (n1 n2 dom : ByteArray) (hE : EOk (Ef dom)) {b : Nat} (hb : w.cell? ⟨b, 0, none⟩ = some (.string dom)) : ∃ d, v = .iface 73 (PT d) ∧
  Calls Tryz.prog 160 #[PT d, .string n1, .string n2, .slice (some ⟨b, 0, none⟩) 1 1] w fun e w' => e = .returned (.tuple #[.bool (hasF (rolesE (Ef dom)) n2 max.toNat [n1]), .nilIface]) ∧ ∃ S', Mgr K w' v max Ef S' true ∧ NextS w.heap.size S S' ∧ Turn S w w' := by
 obtain ⟨F, d, s, c, m, D, rfl, hD, hEE, hS, hK⟩ := h
 rw [← hEE] at hE ⊢
 refine ⟨d, rfl, (dm_has hmax hD n1 n2 dom hE hb).mono ?_⟩
 rintro e w' ⟨rfl, F', m', D', g1, g2, g3, g4, g5⟩
 exact ⟨rfl, DMS.S F' D', ⟨F', d, s, c, m', D', rfl, g1, fun k => by rw [g2, hEE], fun k => Iff.rfl, by rw [g5, hK]⟩, fun k hk => (g3 k hk).imp_left (hS k).2, g4.mono (fun k _ hk => (hS k).2 hk)⟩
theorem Mgr.below {w w' : World} {v : Value} {max : Int} {Ef : ByteArray → Edges} {S : Nat → Prop} {b : Bool} (h : Mgr K w v max Ef S b) (hb : Below w.heap.size w w') : Mgr K w' v max Ef S b := by
 cases b with
 | false =>
  obtain ⟨F, p, s, c, m, L, hv, hM, hR, hG, hS⟩ := h
  exact ⟨F, p, s, c, m, L, hv, hM.below hb, hR, hG, hS⟩
 | true =>
  obtain ⟨F, d, s, c, m, D, hv, hD, hE, hS, hK⟩ := h
  exact ⟨F, d, s, c, m, D, hv, hD.below hb, hE, hS, hK⟩
end
/-! Links that are added and deleted; what is come to by the same links is the same. -/
section


theorem addE_nodup {E : Edges} (hE : E.Nodup) (a b : ByteArray) : (addE E a b).Nodup := by
 unfold addE
 by_cases h : hasE E a b = true
 ·rw [if_pos h]; exact hE
 ·rw [if_neg h, List.nodup_append]
  refine ⟨hE, by simp, fun x hx y hy e => h ?_⟩
  rw [List.mem_singleton] at hy
  rw [hasE_iff, ← hy, ← e]; exact hx
theorem addE_length (E : Edges) (a b : ByteArray) : (addE E a b).length ≤ E.length + 1 := by
 unfold addE
 split
 ·omega
 ·rw [List.length_append, List.length_singleton]; omega

theorem delE_nodup {E : Edges} (hE : E.Nodup) (a b : ByteArray) : (delE E a b).Nodup := hE.filter _
theorem delE_length (E : Edges) (a b : ByteArray) : (delE E a b).length ≤ E.length := List.length_filter_le ..
/-- a deed: op 0 adds, another deletes, within the domain k -/
def deedE (Ef : ByteArray → Edges) (op : Int) (u r k : ByteArray) : ByteArray → Edges := fun j => if j = k then (if op = 0 then addE (Ef k) u r else delE (Ef k) u r) else Ef j
theorem deedE_mem (Ef : ByteArray → Edges) (op : Int) (u r k j : ByteArray) (x : ByteArray × ByteArray) : x ∈ deedE Ef op u r k j ↔ if op = 0 then x ∈ Ef j ∨ (j = k ∧ x = (u, r)) else x ∈ Ef j ∧ ¬ (j = k ∧ x = (u, r)) := by
 unfold deedE
 by_cases hj : j = k
 ·subst hj
  rw [if_pos rfl]
  by_cases h : op = 0
  ·rw [if_pos h, if_pos h, addE_mem]; simp
  ·rw [if_neg h, if_neg h, delE_mem]; simp
 ·rw [if_neg hj]
  by_cases h : op = 0
  ·rw [if_pos h]; simp [hj]
  ·rw [if_neg h]; simp [hj]
theorem deedE_nodup {Ef : ByteArray → Edges} (h : ∀ j, (Ef j).Nodup) (op : Int) (u r k j : ByteArray) : (deedE Ef op u r k j).Nodup := by
 unfold deedE
 split
 ·split
  ·exact addE_nodup (h k) u r
  ·exact delE_nodup (h k) u r
 ·exact h j
/-- the same steps lead to the same -/
theorem hasF_same {nx nx' : Nx} (h : ∀ a x, x ∈ nx a ↔ x ∈ nx' a) (b : ByteArray) : ∀ (n : Nat) {F G : List ByteArray}, (∀ x, x ∈ F ↔ x ∈ G) → hasF nx b n F = hasF nx' b n G
 | 0, F, G, hF => by unfold hasF; rw [decide_congr (hF b)]
 | n + 1, F, G, hF => by
  unfold hasF
  rw [decide_congr (hF b), hasF_same h b n (F := F.flatMap nx) (G := G.flatMap nx') (fun x => by simp only [List.mem_flatMap, hF, h])]
theorem impN_same {nx nx' : Nx} (h : ∀ a x, x ∈ nx a ↔ x ∈ nx' a) : ∀ (n : Nat) {s t F G : List ByteArray}, (∀ x, x ∈ s ↔ x ∈ t) → (∀ x, x ∈ F ↔ x ∈ G) → (impN nx n s F).Perm (impN nx' n t G)
 | 0, _, _, _, _, _, _ => List.Perm.refl _
 | n + 1, s, t, F, G, hs, hF => by
  have h1 : ∀ x, x ∈ fresh s (F.flatMap nx) ↔ x ∈ fresh t (G.flatMap nx') := fun x => by
   rw [fresh_mem, fresh_mem, List.mem_flatMap, List.mem_flatMap, hs]
   simp only [hF, h]
  unfold impN
  refine (perm_of_mem (fresh_nodup _ _) (fresh_nodup _ _) h1).append (impN_same h n (fun x => ?_) h1)
  rw [List.mem_append, List.mem_append, hs, h1]
theorem impl_same {nx nx' : Nx} (h : ∀ a x, x ∈ nx a ↔ x ∈ nx' a) (n : Nat) (a : ByteArray) : (impl nx n a).Perm (impl nx' n a) := impN_same h n (fun _ => Iff.rfl) (fun _ => Iff.rfl)
/-- steps of links back and forth -/
theorem Rch_snoc {nx : Nx} {a x y : ByteArray} : ∀ {n : Nat}, x ∈ nx a → Rch nx x n y → Rch nx a (n + 1) y
 | 0, hx, h => by
  obtain rfl : y = x := h
  exact ⟨a, rfl, hx⟩
 | n + 1, hx, h => by
  obtain ⟨z, hz, hy⟩ := h
  exact ⟨z, Rch_snoc hx hz, hy⟩
theorem Rch_first {nx : Nx} {a y : ByteArray} : ∀ {n : Nat}, Rch nx a (n + 1) y → ∃ x, x ∈ nx a ∧ Rch nx x n y
 | 0, h => by
  obtain ⟨z, hz, hy⟩ := h
  obtain rfl : z = a := hz
  exact ⟨y, hy, rfl⟩
 | n + 1, h => by
  obtain ⟨z, hz, hy⟩ := h
  obtain ⟨x, hx, hr⟩ := Rch_first hz
  exact ⟨x, hx, z, hr, hy⟩
theorem Rch_back {nx bk : Nx} (h : ∀ x y, y ∈ nx x → x ∈ bk y) {a : ByteArray} : ∀ {n : Nat} {y : ByteArray}, Rch nx a n y → Rch bk y n a
 | 0, y, e => by
  obtain rfl : y = a := e
  exact rfl
 | n + 1, y, e => by
  obtain ⟨z, hz, hy⟩ := e
  exact Rch_snoc (h z y hy) (Rch_back h hz)
theorem few_of_nodup : ∀ (l T : List ByteArray), l.Nodup → (∀ x ∈ l, x ∈ T) → l.length ≤ T.length
 | [], _, _, _ => Nat.zero_le _
 | x :: l, T, hn, hs => by
  rw [List.nodup_cons] at hn
  have hx := hs x (List.mem_cons_self ..)
  obtain ⟨s, t, rfl⟩ := List.append_of_mem hx
  have ih := few_of_nodup l (s ++ t) hn.2 (fun y hy => by
   have := hs y (List.mem_cons_of_mem _ hy)
   rw [List.mem_append, List.mem_cons] at this
   rw [List.mem_append]
   rcases this with g | g | g
   ·exact .inl g
   ·exact absurd (by rw [← g]; exact hy) hn.1
   ·exact .inr g)
  rw [List.length_append] at ih
  rw [List.length_cons, List.length_append, List.length_cons]; omega
/-- where all steps lead to some of few, what is come to is come to in few steps -/
theorem Rch_short {nx : Nx} (T : List ByteArray) (hT : ∀ x y, y ∈ nx x → y ∈ T) (a : ByteArray) : ∀ (n : Nat) (y : ByteArray), Rch nx a n y → ∃ k, k ≤ T.length ∧ k ≤ n ∧ Rch nx a k y := by
 -- a way without a place that is met twice
 have walk : ∀ (n : Nat) (y : ByteArray), Rch nx a n y → ∃ l : List ByteArray, l.Nodup ∧ (∀ x ∈ l, x ∈ T) ∧ l.length ≤ n ∧ ∀ (i : Nat) (z : ByteArray), (a :: l)[i]? = some z → (Rch nx a i z) ∧ (i = l.length → z = y) := by
  intro n
  induction n with
  | zero => exact fun y h => ⟨[], List.nodup_nil, by simp, Nat.le_refl _, fun i z hz => by
    cases i with
    | zero =>
     simp at hz; subst hz
     exact ⟨rfl, fun _ => by have h : y = a := h; exact h.symm⟩
    | succ i => simp at hz⟩
  | succ n ih =>
   rintro y ⟨x, hx, hy⟩
   obtain ⟨l, h1, h2, h3, h4⟩ := ih x hx
   by_cases hm : y ∈ a :: l
   ·obtain ⟨i, hi, he⟩ := List.getElem_of_mem hm
    refine ⟨l.take i, h1.sublist (List.take_sublist ..), fun z hz => h2 z (List.mem_of_mem_take hz), by rw [List.length_take]; omega, fun j z hz => ?_⟩
    have hi2 : i ≤ l.length := by simp at hi; omega
    have hj : j < i + 1 := by
     have := (List.getElem?_eq_some_iff.1 hz).1
     rw [List.length_cons, List.length_take] at this; omega
    have e1 : (a :: l.take i)[j]? = (a :: l)[j]? := by
     rw [show a :: l.take i = (a :: l).take (i + 1) from rfl, List.getElem?_take_of_lt hj]
    rw [e1] at hz
    refine ⟨(h4 j z hz).1, fun e => ?_⟩
    rw [List.length_take, Nat.min_eq_left hi2] at e
    subst e
    rw [List.getElem?_eq_getElem hi] at hz
    exact (Option.some.inj hz).symm.trans he
   ·refine ⟨l ++ [y], List.nodup_append.2 ⟨h1, by simp, fun u hu v hv e => hm ?_⟩, fun z hz => ?_, by rw [List.length_append, List.length_singleton]; omega, fun j z hz => ?_⟩
    ·rw [List.mem_singleton] at hv
     rw [← hv, ← e]; exact List.mem_cons_of_mem _ hu
    ·rcases List.mem_append.1 hz with g | g
     ·exact h2 z g
     ·rw [List.mem_singleton] at g
      rw [g]; exact hT x y hy
    ·rw [← List.cons_append] at hz
     by_cases hj : j < (a :: l).length
     ·rw [List.getElem?_append_left hj] at hz
      refine ⟨(h4 j z hz).1, fun e => ?_⟩
      rw [List.length_append, List.length_singleton] at e
      rw [List.length_cons] at hj; omega
     ·rw [List.getElem?_append_right (by omega)] at hz
      have hj2 : j - (a :: l).length = 0 := by
       have := (List.getElem?_eq_some_iff.1 hz).1
       rw [List.length_singleton] at this; omega
      rw [hj2] at hz
      have hz2 : y = z := by simpa using hz
      subst hz2
      have hjl : j = l.length + 1 := by rw [List.length_cons] at hj hj2; omega
      refine ⟨?_, fun _ => rfl⟩
      rw [hjl]
      have hlast := h4 l.length ((a :: l)[l.length]'(by rw [List.length_cons]; omega)) (List.getElem?_eq_getElem _)
      exact ⟨x, by rw [← hlast.2 rfl]; exact hlast.1, hy⟩
 intro n y h
 obtain ⟨l, h1, h2, h3, h4⟩ := walk n y h
 have hz := h4 l.length ((a :: l)[l.length]'(by rw [List.length_cons]; omega)) (List.getElem?_eq_getElem _)
 refine ⟨l.length, ?_, h3, by rw [← hz.2 rfl]; exact hz.1⟩
 exact few_of_nodup l T h1 h2
end
/-! Managers in one word: with domains (true) or without. -/
section
open Go.Proofs
def MT : Bool → TypeId
 | false => 69
 | true => 73
abbrev F2 (b : Bool) (x y : Nat) : Nat := match b with
 | false => x
 | true => y
theorem pt_inj {T T' : TypeId} {p q : Nat} (h : Value.iface T (PT p) = .iface T' (PT q)) : p = q := by
 injection h with _ h; injection h with h; injection h with h; injection h with h
def kd (b : Bool) (dom : ByteArray) : ByteArray := if b then dom else ByteArray.empty
def DV (b : Bool) (dom : ByteArray) (W : World) (dv : Value) : Prop := (b = false ∧ dv = .slice none 0 0) ∨ (b = true ∧ ∃ k, dv = .slice (some ⟨k, 0, none⟩) 1 1 ∧ W.cell? ⟨k, 0, none⟩ = some (.string dom))
theorem DV.below {b : Bool} {dom : ByteArray} {w w' : World} {dv : Value} (h : DV b dom w dv) (hb : Below w.heap.size w w') : DV b dom w' dv := by
 rcases h with h | ⟨h1, k, h2, h3⟩
 ·exact .inl h
 ·exact .inr ⟨h1, k, h2, by rw [hb.cell (by exact World.block_lt_of_cell? w _ h3)]; exact h3⟩
/-- what a call leaves of a manager -/
def MPost (K : List ByteArray) (w : World) (v : Value) (max : Int) (Ef : ByteArray → Edges) (S : Nat → Prop) (b : Bool) (w' : World) : Prop := ∃ S', Mgr K w' v max Ef S' b ∧ NextS w.heap.size S S' ∧ Turn S w w'
variable {K : List ByteArray}
theorem impl_within (b : Bool) (dom : ByteArray) (w : World) :
  Calls Tryz.prog 35 #[.bool b, .string dom] w fun e w' => ∃ dv, e = .returned dv ∧ DV b dom w' dv ∧ Below w.heap.size w w' := by
 cases b with
 | false =>
  refine (impl_within0 dom w).mono ?_
  rintro e w' ⟨rfl, rfl⟩
  exact ⟨_, rfl, .inl ⟨rfl, rfl⟩, Below.refl _ _⟩
 | true =>
  refine (impl_within1 dom w).mono ?_
  rintro e w' ⟨rfl, hc, hb⟩
  exact ⟨_, rfl, .inr ⟨rfl, _, rfl, hc⟩, hb⟩
theorem Mgr.val {w : World} {v : Value} {max : Int} {Ef : ByteArray → Edges} {S : Nat → Prop} {b : Bool} (h : Mgr K w v max Ef S b) : ∃ p, v = .iface (MT b) (PT p) := by
 cases b with
 | false =>
  obtain ⟨F, p, s, c, m, L, rfl, _⟩ := h
  exact ⟨p, rfl⟩
 | true =>
  obtain ⟨F, p, s, c, m, L, rfl, _⟩ := h
  exact ⟨p, rfl⟩
theorem Mgr.slt {w : World} {v : Value} {max : Int} {Ef : ByteArray → Edges} {S : Nat → Prop} {b : Bool} (h : Mgr K w v max Ef S b) : ∀ k, S k → k < w.heap.size := by
 cases b with
 | false =>
  obtain ⟨F, p, s, c, m, L, rfl, hM, hR, hG, hS⟩ := h
  intro k hk
  cases hf : F k with
  | none => exact absurd hf ((hS k).1 hk)
  | some z => exact (hM k z.1 z.2 hf).lt
 | true =>
  obtain ⟨F, d, s, c, m, D, rfl, hD, hE, hS, hK⟩ := h
  exact fun k hk => hD.slt k ((hS k).1 hk)
theorem Mgr.apart {w w' : World} {v : Value} {max : Int} {Ef : ByteArray → Edges} {S T : Nat → Prop} {b : Bool} (h : Mgr K w v max Ef S b) (ht : Turn T w w') (hd : ∀ k, S k → ¬ T k) : Mgr K w' v max Ef S b := by
 cases b with
 | false =>
  obtain ⟨F, p, s, c, m, L, rfl, hM, hR, hG, hS⟩ := h
  exact ⟨F, p, s, c, m, L, rfl, hM.apart ht (fun k hk => hd k ((hS k).2 hk)), hR, hG, hS⟩
 | true =>
  obtain ⟨F, d, s, c, m, D, rfl, hD, hE, hS, hK⟩ := h
  exact ⟨F, d, s, c, m, D, rfl, ⟨hD.mem.apart ht (fun k hk => hd k ((hS k).2 (.inl hk))), hD.dm, fun x hx => ⟨(hD.each x hx).mem.apart ht (fun k hk => hd k ((hS k).2 (.inr ⟨x, hx, hk⟩))), (hD.each x hx).rm, (hD.each x hx).gr⟩, hD.names, hD.dis, hD.own⟩, hE, hS, hK⟩
theorem deedE_add (Ef : ByteArray → Edges) (u r k : ByteArray) : deedE Ef 0 u r k = fun j => if j = k then addE (Ef k) u r else Ef j := by
 funext j; unfold deedE; rw [if_pos rfl]
theorem deedE_del (Ef : ByteArray → Edges) (u r k : ByteArray) : deedE Ef 1 u r k = fun j => if j = k then delE (Ef k) u r else Ef j := by
 funext j; unfold deedE; rw [if_neg (show ¬ (1 : Int) = 0 by decide)]
theorem nil_ahead2 (b : Bool) (p n : Nat) (W : World) (s : String) (hs : s = "AddLink" ∨ s = "DeleteLink" ∨ s = "HasLink" ∨ s = "GetRoles" ∨ s = "GetUsers" ∨ s = "GetImplicitRoles" ∨ s = "GetImplicitUsers" ∨ s = "GetDomains") : (nilAhead (n + 1) (MT b) (PT p) s).run Tryz.prog W = .ok (some false) W := by
 rcases hs with rfl | rfl | rfl | rfl | rfl | rfl | rfl | rfl <;> cases b <;> kernel_rfl
set_option maxRecDepth 100000 in
theorem mgru_add (b : Bool) {w : World} {p : Nat} {max : Int} {Ef : ByteArray → Edges} {S : Nat → Prop} (h : Mgr K w (.iface (MT b) (PT p)) max Ef S b) (u r dom : ByteArray) {dv : Value} (hd : DV b dom w dv) :
  Calls Tryz.prog (F2 b 50 54) #[PT p, .string u, .string r, dv] w fun e w' => e = .returned .nilIface ∧ MPost (addK K (kd b dom)) w (.iface (MT b) (PT p)) max (deedE Ef 0 u r (kd b dom)) S b w' := by
 rw [deedE_add]
 cases b with
 | false =>
  obtain ⟨q, hq, hc⟩ := mgr_add0 h u r dv
  rw [← pt_inj hq] at hc
  exact hc
 | true =>
  rcases hd with ⟨e, _⟩ | ⟨_, k, rfl, hk⟩
  ·cases e
  ·obtain ⟨q, hq, hc⟩ := mgr_add1 h u r dom hk
   rw [← pt_inj hq] at hc
   exact hc
set_option maxRecDepth 100000 in
theorem mgru_del (b : Bool) {w : World} {p : Nat} {max : Int} {Ef : ByteArray → Edges} {S : Nat → Prop} (h : Mgr K w (.iface (MT b) (PT p)) max Ef S b) (u r dom : ByteArray) {dv : Value} (hd : DV b dom w dv) :
  Calls Tryz.prog (F2 b 98 153) #[PT p, .string u, .string r, dv] w fun e w' => e = .returned .nilIface ∧ MPost (addK K (kd b dom)) w (.iface (MT b) (PT p)) max (deedE Ef 1 u r (kd b dom)) S b w' := by
 rw [deedE_del]
 cases b with
 | false =>
  obtain ⟨q, hq, hc⟩ := mgr_del0 h u r dv
  rw [← pt_inj hq] at hc
  exact hc
 | true =>
  rcases hd with ⟨e, _⟩ | ⟨_, k, rfl, hk⟩
  ·cases e
  ·obtain ⟨q, hq, hc⟩ := mgr_del1 h u r dom hk
   rw [← pt_inj hq] at hc
   exact hc
set_option maxRecDepth 100000 in
theorem mgru_roles (b : Bool) {w : World} {p : Nat} {max : Int} {Ef : ByteArray → Edges} {S : Nat → Prop} (h : Mgr K w (.iface (MT b) (PT p)) max Ef S b) (n dom : ByteArray) (hE : EOk (Ef (kd b dom))) {dv : Value} (hd : DV b dom w dv) :
  Calls Tryz.prog (F2 b 103 158) #[PT p, .string n, dv] w fun e w' => ∃ v2 l, e = .returned (.tuple #[v2, .nilIface]) ∧ l.Perm (rolesE (Ef (kd b dom)) n) ∧ Kd.R Kd.string 9 w' w.heap.size (fun _ => True) v2 l ∧ MPost K w (.iface (MT b) (PT p)) max Ef S b w' := by
 cases b with
 | false =>
  obtain ⟨q, hq, hc⟩ := mgr_roles0 h n hE dv
  rw [← pt_inj hq] at hc
  exact hc
 | true =>
  rcases hd with ⟨e, _⟩ | ⟨_, k, rfl, hk⟩
  ·cases e
  ·obtain ⟨q, hq, hc⟩ := mgr_roles1 h n dom hE hk
   rw [← pt_inj hq] at hc
   exact hc
set_option maxRecDepth 100000 in
theorem mgru_users (b : Bool) {w : World} {p : Nat} {max : Int} {Ef : ByteArray → Edges} {S : Nat → Prop} (h : Mgr K w (.iface (MT b) (PT p)) max Ef S b) (n dom : ByteArray) (hE : EOk (Ef (kd b dom))) {dv : Value} (hd : DV b dom w dv) :
  Calls Tryz.prog (F2 b 104 159) #[PT p, .string n, dv] w fun e w' => ∃ v2 l, e = .returned (.tuple #[v2, .nilIface]) ∧ l.Perm (usersE (Ef (kd b dom)) n) ∧ Kd.R Kd.string 9 w' w.heap.size (fun _ => True) v2 l ∧ MPost K w (.iface (MT b) (PT p)) max Ef S b w' := by
 cases b with
 | false =>
  obtain ⟨q, hq, hc⟩ := mgr_users0 h n hE dv
  rw [← pt_inj hq] at hc
  exact hc
 | true =>
  rcases hd with ⟨e, _⟩ | ⟨_, k, rfl, hk⟩
  ·cases e
  ·obtain ⟨q, hq, hc⟩ := mgr_users1 h n dom hE hk
   rw [← pt_inj hq] at hc
   exact hc
set_option maxRecDepth 100000 in
theorem mgru_imp_roles (b : Bool) {w : World} {p : Nat} {max : Int} {Ef : ByteArray → Edges} {S : Nat → Prop} (hmax : 0 ≤ max ∧ max ≤ 1000000) (h : Mgr K w (.iface (MT b) (PT p)) max Ef S b) (n dom : ByteArray) (hE : EOk (Ef (kd b dom))) {dv : Value} (hd : DV b dom w dv) :
  Calls Tryz.prog (F2 b 101 156) #[PT p, .string n, dv] w fun e w' => ∃ v2 l, e = .returned (.tuple #[v2, .nilIface]) ∧ l.Perm (impl (rolesE (Ef (kd b dom))) max.toNat n) ∧ Kd.R Kd.string 9 w' w.heap.size (fun _ => True) v2 l ∧ MPost K w (.iface (MT b) (PT p)) max Ef S b w' := by
 cases b with
 | false =>
  obtain ⟨q, hq, hc⟩ := mgr_imp_roles0 hmax h n hE dv
  rw [← pt_inj hq] at hc
  exact hc
 | true =>
  rcases hd with ⟨e, _⟩ | ⟨_, k, rfl, hk⟩
  ·cases e
  ·obtain ⟨q, hq, hc⟩ := mgr_imp_roles1 hmax h n dom hE hk
   rw [← pt_inj hq] at hc
   exact hc
set_option maxRecDepth 100000 in
theorem mgru_imp_users (b : Bool) {w : World} {p : Nat} {max : Int} {Ef : ByteArray → Edges} {S : Nat → Prop} (hmax : 0 ≤ max ∧ max ≤ 1000000) (h : Mgr K w (.iface (MT b) (PT p)) max Ef S b) (n dom : ByteArray) (hE : EOk (Ef (kd b dom))) {dv : Value} (hd : DV b dom w dv) :
  Calls Tryz.prog (F2 b 102 157) #[PT p, .string n, dv] w fun e w' => ∃ v2 l, e = .returned (.tuple #[v2, .nilIface]) ∧ l.Perm (impl (usersE (Ef (kd b dom))) max.toNat n) ∧ Kd.R Kd.string 9 w' w.heap.size (fun _ => True) v2 l ∧ MPost K w (.iface (MT b) (PT p)) max Ef S b w' := by
 cases b with
 | false =>
  obtain ⟨q, hq, hc⟩ := mgr_imp_users0 hmax h n hE dv
  rw [← pt_inj hq] at hc
  exact hc
 | true =>
  rcases hd with ⟨e, _⟩ | ⟨_, k, rfl, hk⟩
  ·cases e
  ·obtain ⟨q, hq, hc⟩ := mgr_imp_users1 hmax h n dom hE hk
   rw [← pt_inj hq] at hc
   exact hc
set_option maxRecDepth 100000 in
theorem mgru_has (b : Bool) {w : World} {p : Nat} {max : Int} {Ef : ByteArray → Edges} {S : Nat → Prop} (hmax : 0 ≤ max ∧ max ≤ 1000000) (h : Mgr K w (.iface (MT b) (PT p)) max Ef S b) (n1 n2 dom : ByteArray) (hE : EOk (Ef (kd b dom))) {dv : Value} (hd : DV b dom w dv) :
  Calls Tryz.prog (F2 b 105 160) #[PT p, .string n1, .string n2, dv] w fun e w' => e = .returned (.tuple #[.bool (hasF (rolesE (Ef (kd b dom))) n2 max.toNat [n1]), .nilIface]) ∧ MPost K w (.iface (MT b) (PT p)) max Ef S b w' := by
 cases b with
 | false =>
  obtain ⟨q, hq, hc⟩ := mgr_has0 hmax h n1 n2 hE dv
  rw [← pt_inj hq] at hc
  exact hc
 | true =>
  rcases hd with ⟨e, _⟩ | ⟨_, k, rfl, hk⟩
  ·cases e
  ·obtain ⟨q, hq, hc⟩ := mgr_has1 hmax h n1 n2 dom hE hk
   rw [← pt_inj hq] at hc
   exact hc
end
/-! The domains of a name, of a manager with domains. -/
section
open Go.Proofs
theorem mgru_doms {K : List ByteArray} {w : World} {p : Nat} {max : Int} {Ef : ByteArray → Edges} {S : Nat → Prop} (h : Mgr K w (.iface (MT true) (PT p)) max Ef S true) (n : ByteArray) (hE : ∀ k, EOk (Ef k)) (hK : K.length ≤ 1000000) :
  Calls Tryz.prog 155 #[PT p, .string n] w fun e w' => ∃ v2 l, e = .returned (.tuple #[v2, .nilIface]) ∧ l.Perm (K.filter fun k => occ (Ef k) n) ∧ Kd.R Kd.string 9 w' w.heap.size (fun _ => True) v2 l ∧ MPost K w (.iface (MT true) (PT p)) max Ef S true w' := by
 obtain ⟨F, d, s, c, m, D, hv, hD, hEE, hS, hKK⟩ := h
 have hp := pt_inj hv
 subst hp
 subst hKK
 refine (dm_domains hD n (fun k => by rw [hEE]; exact hE k) (by rw [List.length_map] at hK; exact hK)).mono ?_
 rintro e w' ⟨v2, l, rfl, hl, hr, F', m', D', g1, g2, g3, g4, g5⟩
 refine ⟨v2, l, rfl, ?_, hr, DMS.S F' D', ⟨F', p, s, c, m', D', rfl, g1, fun k => by rw [g2, hEE], fun k => Iff.rfl, g5⟩, fun k hk => (g3 k hk).imp_left (hS k).2, g4.mono (fun k _ hk => (hS k).2 hk)⟩
 have e : (fun k => occ (domE D k) n) = fun k => occ (Ef k) n := by funext k; rw [hEE]
 rw [e] at hl
 exact hl
end
/-! As region_mix; a read is told which links of the chain it comes behind. operations that only read (rd: where they stand, their slots), and a chain wherever it stands (ch), the last one last. -/
section
variable {P : Program} {ops : Array Oper} {Q : Exit → Act → World → Prop}
theorem region_mix2 {n id : Nat} {d : List Deferred} {t : Nat → Value} {w : World} (hm : P.follows .mixedOrders = true) (rd : List (Nat × Nat)) (ch : List Nat) (Cs : Nat → Option Nat) (V : Nat → Value) (Z : Nat → (Nat → Value) → World → Prop) (T : List (List Nat))
  (hT : (List.range ops.size).map (fun i => match ops[i]? with | some o => o.after.toList.filterMap (fun e => if Region.binds .any e = true then some e.on else none) | none => []) = T)
  (hlow : (T.zipIdx.all fun p => p.1.all fun n => decide (n < p.2)) = true)
  (hsz : ops.size = rd.length + ch.length + 1) (hcov : ∀ i, i < rd.length + ch.length → (∃ k, k < rd.length ∧ (rd.getD k (0, 0)).1 = i) ∨ ∃ k, k < ch.length ∧ ch.getD k 0 = i)
  (hnr : (rd.map (·.1)).Nodup) (hns : (rd.map (·.2)).Nodup) (hnc : ch.Nodup) (hrc : ∀ k, k < rd.length → ∀ j, j < ch.length → (rd.getD k (0, 0)).1 ≠ ch.getD j 0) (hcs : ∀ k, k < rd.length → ∀ j, j < ch.length → Cs j ≠ some (rd.getD k (0, 0)).2)
  (hrl : ∀ k, k < rd.length → (rd.getD k (0, 0)).1 < rd.length + ch.length) (hcl : ∀ k, k < ch.length → ch.getD k 0 < rd.length + ch.length) (hDn : ∀ k, k < rd.length → (rd.getD k (0, 0)).2 < n)
  (hchain : ∀ i, i < ch.length - 1 → ch.getD i 0 ∈ T.getD (ch.getD (i + 1) 0) []) (hfull : ∀ k, k < rd.length + ch.length → k ∈ T.getD (rd.length + ch.length) [])
  (hpure : ∀ i, i < rd.length → ∀ s W q, q ≤ ch.length → Z q s W → (∀ r, r < q → (rd.getD i (0, 0)).1 ∉ T.getD (ch.getD r 0) []) → (∀ r, r < ch.length → ch.getD r 0 ∈ T.getD (rd.getD i (0, 0)).1 [] → r < q) → (∀ k, k < rd.length → (rd.getD k (0, 0)).1 ∈ T.getD (rd.getD i (0, 0)).1 [] → s (rd.getD k (0, 0)).2 = V (rd.getD k (0, 0)).1) → (∀ j, j ∉ rd.map (·.2) → (∀ k, k < ch.length → Cs k ≠ some j) → s j = t j) →
   ∃ o, ops[(rd.getD i (0, 0)).1]? = some o ∧ o.dst = some (rd.getD i (0, 0)).2 ∧ (∀ a : Act, Region.wanted o (yielded ops a.tmps) = true) ∧ (execOp (mkN n d s).eval o).run P W = .ok (.value (V (rd.getD i (0, 0)).1)) W)
  (hz0 : Z 0 t w.drew) (hstab : ∀ q s x v W, x ∈ rd.map (·.2) → Z q s W → Z q (updN s x v) W)
  (hstep : ∀ i, i < ch.length → ∀ s W, (∀ k, k < rd.length → (rd.getD k (0, 0)).1 ∈ T.getD (ch.getD i 0) [] → s (rd.getD k (0, 0)).2 = V (rd.getD k (0, 0)).1) → (∀ j, j ∉ rd.map (·.2) → (∀ k, k < ch.length → Cs k ≠ some j) → s j = t j) → Z i s W → ∀ K : Act → World → Prop, (∀ s' W', Z (i + 1) s' W' → (∀ j, Cs i ≠ some j → s' j = s j) → K (mkN n d s') W') → wpOp P ops Q (ch.getD i 0) K (mkN n d s) W)
  (hlast : ∀ s W, Z ch.length s W → (∀ k, k < rd.length → s (rd.getD k (0, 0)).2 = V (rd.getD k (0, 0)).1) → (∀ j, j ∉ rd.map (·.2) → (∀ k, k < ch.length → Cs k ≠ some j) → s j = t j) → wpOp P ops Q (rd.length + ch.length) (fun a W => Q .normal a W) (mkN n d s) W) :
  (Code.region id ops true).wp P Q (mkN n d t) w := by
 have hmem2 : ∀ k, k < rd.length → (rd.getD k (0, 0)).2 ∈ rd.map (·.2) := fun k hk => by
  rw [List.getD_eq_getElem?_getD, List.getElem?_eq_getElem hk]
  exact List.mem_map_of_mem (List.getElem_mem hk)
 have hinjR : ∀ i k, i < rd.length → k < rd.length → (rd.getD i (0, 0)).2 = (rd.getD k (0, 0)).2 → i = k := fun i k hi hk e => by
  have h1 : (rd.map (·.2))[i]'(by simpa using hi) = (rd.map (·.2))[k]'(by simpa using hk) := by
   rw [List.getD_eq_getElem?_getD, List.getD_eq_getElem?_getD, List.getElem?_eq_getElem hi, List.getElem?_eq_getElem hk] at e
   simpa using e
  exact (List.getElem_inj hns).1 h1
 have hinjC : ∀ i k, i < ch.length → k < ch.length → ch.getD i 0 = ch.getD k 0 → i = k := fun i k hi hk e => by
  rw [List.getD_eq_getElem?_getD, List.getD_eq_getElem?_getD, List.getElem?_eq_getElem hi, List.getElem?_eq_getElem hk] at e
  exact (List.getElem_inj hnc).1 e
 have hinjP : ∀ i k, i < rd.length → k < rd.length → (rd.getD i (0, 0)).1 = (rd.getD k (0, 0)).1 → i = k := fun i k hi hk e => by
  have h1 : (rd.map (·.1))[i]'(by simpa using hi) = (rd.map (·.1))[k]'(by simpa using hk) := by
   rw [List.getD_eq_getElem?_getD, List.getD_eq_getElem?_getD, List.getElem?_eq_getElem hi, List.getElem?_eq_getElem hk] at e
   simpa using e
  exact (List.getElem_inj hnr).1 h1
 let J : Array Bool → Act → World → Prop := fun L a W =>
  (hasL_ L (rd.length + ch.length) = true ∧ (∀ k, k < rd.length + ch.length → hasL_ L k = true) ∧ Q .normal a W) ∨
  (hasL_ L (rd.length + ch.length) = false ∧ ∃ s q, a = mkN n d s ∧ q ≤ ch.length ∧ (∀ k, k < ch.length → hasL_ L (ch.getD k 0) = decide (k < q)) ∧ Z q s W ∧ (∀ k, k < rd.length → hasL_ L (rd.getD k (0, 0)).1 = true → s (rd.getD k (0, 0)).2 = V (rd.getD k (0, 0)).1) ∧ (∀ j, j ∉ rd.map (·.2) → (∀ k, k < ch.length → Cs k ≠ some j) → s j = t j) ∧ (∀ j k, k ∈ T.getD j [] → hasL_ L j = true → hasL_ L k = true))
 have hz : ∀ j, hasL_ (Array.replicate ops.size false) j = false := by
  intro j
  unfold hasL_
  rw [Array.getD_eq_getD_getElem?, Array.getElem?_replicate]
  split <;> rfl
 refine region_inv hm J T hT hlow ?_ ?_ ?_
 ·refine .inr ⟨hz _, t, 0, rfl, Nat.zero_le _, fun k _ => by rw [hz, decide_eq_false (by omega)], hz0, fun k _ h => ?_, fun _ _ _ => rfl, fun j k _ h => ?_⟩ <;> (rw [hz] at h; cases h)
 ·intro L a W i hL hi hn hneed hJ
  have hself : hasL_ (L.setIfInBounds i true) i = true := by rw [hasL_set (by omega), if_pos rfl]
  have hoth : ∀ j, j ≠ i → hasL_ (L.setIfInBounds i true) j = hasL_ L j := fun j hj => by rw [hasL_set (by omega), if_neg hj]
  rcases hJ with ⟨h1, h2, _⟩ | ⟨h1, s, q, rfl, hq, hst, hZ, hv, hold, hcl2⟩
  ·exfalso
   rcases Nat.lt_or_ge i (rd.length + ch.length) with g | g
   ·rw [h2 i g] at hn; cases hn
   ·obtain rfl : i = rd.length + ch.length := by omega
    rw [h1] at hn; cases hn
  ·have hcl' : ∀ j k, k ∈ T.getD j [] → hasL_ (L.setIfInBounds i true) j = true → hasL_ (L.setIfInBounds i true) k = true := fun j k hk hl => by
    by_cases e : k = i
    ·rw [e]; exact hself
    ·rw [hoth k e]
     by_cases e2 : j = i
     ·rw [e2] at hk; exact hneed k hk
     ·rw [hoth j e2] at hl; exact hcl2 j k hk hl
   by_cases g : i = rd.length + ch.length
   ·subst g
    have hall : ∀ k, k < rd.length + ch.length → hasL_ L k = true := fun k hk => hneed k (hfull k hk)
    have hqm : q = ch.length := by
     rcases Nat.eq_or_lt_of_le hq with e | e
     ·exact e
     ·have h3 := hst q e
      rw [hall _ (hcl q e)] at h3
      have := of_decide_eq_true h3.symm
      omega
    subst hqm
    refine wpOp_mono (fun a' W' hq2 => .inl ⟨hself, fun k hk => ?_, hq2⟩) (hlast s W hZ (fun k hk => hv k hk (hall _ (hrl k hk))) hold)
    rw [hoth k (by omega)]
    exact hall k hk
   ·have hlast0 : hasL_ (L.setIfInBounds i true) (rd.length + ch.length) = false := by rw [hoth _ (fun e => g e.symm)]; exact h1
    rcases hcov i (by omega) with ⟨r, hr, rfl⟩ | ⟨r, hr, rfl⟩
    ·obtain ⟨o, ho, hod, how, hrun⟩ := hpure r hr s W q hq hZ (fun z hz2 hmem => by
      have h5 := hcl2 _ _ hmem (by rw [hst z (by omega)]; exact decide_eq_true hz2)
      rw [hn] at h5; cases h5) (fun z hz2 hzT => of_decide_eq_true ((hst z hz2).symm.trans (hneed _ hzT))) (fun k hk hkT => hv k hk (hneed _ hkT)) hold
     refine YieldsIf.wpOp (S := fun x => x = W) ho (v := V (rd.getD r (0, 0)).1) (.inl ⟨how _, fun x hx => by rw [hx]; exact hrun⟩) rfl ?_
     rw [hod, mkN_put _ _ _ (hDn r hr)]
     refine .inr ⟨hlast0, _, q, rfl, hq, fun k hk => ?_, hstab _ _ _ _ _ (hmem2 r hr) hZ, fun k hk hl => ?_, fun j hj hj2 => ?_, hcl'⟩
     ·rw [hoth _ (fun e => hrc r hr k hk e.symm)]; exact hst k hk
     ·by_cases e : k = r
      ·subst e; exact updN_self _ _ _
      ·rw [updN_ne (fun z => e (hinjR k r hk hr z))]
       rw [hoth _ (fun z => e (hinjP k r hk hr z))] at hl
       exact hv k hk hl
     ·rw [updN_ne (fun e => hj (by rw [e]; exact hmem2 r hr))]
      exact hold j hj hj2
    ·have hqr : q = r := by
      have h2 := hst r hr
      rw [hn] at h2
      have h3 := of_decide_eq_false h2.symm
      rcases Nat.eq_zero_or_pos r with e | e
      ·omega
      ·have h4 := hneed (ch.getD (r - 1) 0) (by have := hchain (r - 1) (by omega); rwa [show r - 1 + 1 = r from by omega] at this)
       rw [hst _ (by omega)] at h4
       have := of_decide_eq_true h4
       omega
     subst hqr
     refine hstep q hr s W (fun k hk hkT => hv k hk (hneed _ hkT)) hold hZ _ (fun s' W' hZ' hs' => ?_)
     refine .inr ⟨hlast0, s', q + 1, rfl, by omega, fun k hk => ?_, hZ', fun k hk hl => ?_, fun j hj hj2 => ?_, hcl'⟩
     ·by_cases e : k = q
      ·subst e; rw [hself, decide_eq_true (by omega)]
      ·rw [hoth _ (fun z => e (hinjC k q hk hr z)), hst k hk]
       by_cases e2 : k < q
       ·rw [decide_eq_true e2, decide_eq_true (by omega)]
       ·rw [decide_eq_false e2, decide_eq_false (by omega)]
     ·rw [hs' _ (fun e => hcs k hk q hr e)]
      rw [hoth _ (fun z => hrc k hk q hr z)] at hl
      exact hv k hk hl
     ·rw [hs' _ (hj2 q hr)]
      exact hold j hj hj2
 ·intro L a W hL hall hJ
  rcases hJ with ⟨_, _, hq⟩ | ⟨h1, _⟩
  ·exact hq
  ·rw [hall _ (by omega)] at h1; cases h1
end
/-! impl.roleDeed. -/
section
open Go.Proofs
variable {K : List ByteArray}
theorem mk56_lit (d : List Deferred) (s : Nat → Value) : mkN 56 d s = { tmps := #[s 0, s 1, s 2, s 3, s 4, s 5, s 6, s 7, s 8, s 9, s 10, s 11, s 12, s 13, s 14, s 15, s 16, s 17, s 18, s 19, s 20, s 21, s 22, s 23, s 24, s 25, s 26, s 27, s 28, s 29, s 30, s 31, s 32, s 33, s 34, s 35, s 36, s 37, s 38, s 39, s 40, s 41, s 42, s 43, s 44, s 45, s 46, s 47, s 48, s 49, s 50, s 51, s 52, s 53, s 54, s 55], defers := d } := rfl
theorem below_drew0 (w : World) : Below w.heap.size w w.drew := Drawn0.below ⟨1, rfl⟩
theorem MPost.since {w W w' : World} {v : Value} {max : Int} {Ef : ByteArray → Edges} {S : Nat → Prop} {b : Bool} (h : MPost K W v max Ef S b w') (hb : Below w.heap.size w W) : MPost K w v max Ef S b w' := by
 obtain ⟨S', h1, h2, h3⟩ := h
 exact ⟨S', h1, fun k hk => (h2 k hk).imp_right (Nat.le_trans hb.size), (Turn.ofBelow _ hb).trans (NextS.refl _ _) h3⟩
set_option maxHeartbeats 8000000 in
set_option maxRecDepth 100000 in
theorem deed_add {w : World} {v : Value} {max : Int} {Ef : ByteArray → Edges} {S : Nat → Prop} {b : Bool} (h : Mgr K w v max Ef S b) (u r dom : ByteArray) :
  Calls Tryz.prog 25 #[v, .bool b, .agg #[.int .i64 0, .string u, .string r, .string dom]] w fun e w' => e = .returned .nilIface ∧ MPost (addK K (kd b dom)) w v max (deedE Ef 0 u r (kd b dom)) S b w' := by
 obtain ⟨p, rfl⟩ := h.val
 have hna := fun n W => nil_ahead2 b p n W "AddLink" (by simp)
 have HM := Aside0.mk h
 clear h
 go_enter Tryz.func25, Tryz.ntmps25
 go_upto_region 3 with (fail)
 obtain ⟨W0, hW0⟩ : ∃ W0, W0 = w.alloc (Obj.cells #[.int .i64 0, .string u, .string r, .string dom] 54) := ⟨_, rfl⟩
 rw [← hW0]
 have HB0 := Aside0.mk (show Below w.heap.size w W0 from by rw [hW0]; exact (Below.refl _ _).alloc (Nat.le_refl _) _)
 have hs0 : w.heap.size < W0.heap.size := by rw [hW0]; simp
 have hbox : W0.heap[w.heap.size]? = some (.cells #[.int .i64 0, .string u, .string r, .string dom] 54 (0, 0)) := by rw [hW0]; exact heap_alloc_new _ _
 have HC := Aside0.mk (show ∀ W, Below W0.heap.size W0 W → W.cell? ⟨w.heap.size, 1, none⟩ = some (.string u) ∧ W.cell? ⟨w.heap.size, 2, none⟩ = some (.string r) ∧ W.cell? ⟨w.heap.size, 3, none⟩ = some (.string dom) from fun W hb => by
  have hz : W.heap[w.heap.size]? = some (.cells #[.int .i64 0, .string u, .string r, .string dom] 54 (0, 0)) := (hb.block _ hs0).trans hbox
  exact ⟨by simp [World.cell?, hz], by simp [World.cell?, hz], by simp [World.cell?, hz]⟩)
 clear hW0 hbox
 refine at_mkN (n := 56) (d := _) rfl rfl ?_
 refine region_mix (by kernel_rfl) [(0, 11), (1, 12), (2, 13), (3, 14), (4, 15), (5, 16), (6, 17), (7, 18), (8, 19), (9, 20), (10, 21), (12, 23), (13, 24), (14, 25)] [11, 15] (fun k_ => match k_ with | 0 => some 22 | 1 => some 26 | _ => none) (fun k_ => match k_ with | 0 => (.iface (MT b) (PT p)) | 1 => (.pointer (some ⟨w.heap.size, 1, none⟩)) | 2 => (.pointer (some ⟨w.heap.size, 1, none⟩)) | 3 => (.string u) | 4 => (.pointer (some ⟨w.heap.size, 1, none⟩)) | 5 => (.pointer (some ⟨w.heap.size, 2, none⟩)) | 6 => (.string r) | 7 => (.bool b) | 8 => (.pointer (some ⟨w.heap.size, 1, none⟩)) | 9 => (.pointer (some ⟨w.heap.size, 3, none⟩)) | 10 => (.string dom) | 12 => (.func (.method "AddLink") #[(.iface (MT b) (PT p))] #[]) | 13 => (.func (.method "AddLink") #[(.iface (MT b) (PT p))] #[]) | 14 => (.iface (MT b) (PT p)) | _ => undef) (fun i_ s_ W_ => match i_ with | 0 => W_ = W0.drew | 1 => DV b dom W_ (s_ 22) ∧ Below W0.heap.size W0 W_ | _ => s_ 26 = .nilIface ∧ MPost (addK K (kd b dom)) w (.iface (MT b) (PT p)) max (deedE Ef 0 u r (kd b dom)) S b W_) [[], [], [1], [2], [], [4], [5], [], [], [8], [9], [7, 10], [0], [12], [0, 12, 13], [14, 3, 6, 11, 11], [15, 15, 0, 1, 2, 3, 4, 5, 6, 7, 8, 9, 10, 11, 12, 13, 14, 15]] (by kernel_rfl) (by decide) rfl (by decide) (by decide) (by decide) (by decide) (by decide) (by decide) (by decide) (by decide) (by decide) (by decide) (by decide) ?_ ?_ ?_ ?_ ?_
 ·intro i_ hi_ s_ W_ q_ hq_ hz_ hno_ hg_ ho_
  rcases (show i_ = 0 ∨ i_ = 1 ∨ i_ = 2 ∨ i_ = 3 ∨ i_ = 4 ∨ i_ = 5 ∨ i_ = 6 ∨ i_ = 7 ∨ i_ = 8 ∨ i_ = 9 ∨ i_ = 10 ∨ i_ = 11 ∨ i_ = 12 ∨ i_ = 13 from by have : i_ < 14 := hi_; omega) with rfl | rfl | rfl | rfl | rfl | rfl | rfl | rfl | rfl | rfl | rfl | rfl | rfl | rfl
  ·refine ⟨_, rfl, rfl, fun _ => rfl, ?_⟩
   have g0_ : s_ 0 = _ := ho_ 0 (by decide) (by decide)
   clear hg_ ho_ hno_ hz_ hq_
   first | (simp [execOp, mkN_eval, Result.andThen, *]; done) | (go_simp; simp [mkN_get, Result.andThen, *]; done)
  ·refine ⟨_, rfl, rfl, fun _ => rfl, ?_⟩
   have g5_ : s_ 5 = _ := ho_ 5 (by decide) (by decide)
   clear hg_ ho_ hno_ hz_ hq_
   first | (simp [execOp, mkN_eval, Result.andThen, *]; done) | (go_simp; simp [mkN_get, Result.andThen, *]; done)
  ·refine ⟨_, rfl, rfl, fun _ => rfl, ?_⟩
   have g12_ : s_ 12 = (.pointer (some ⟨w.heap.size, 1, none⟩)) := hg_ 1 (by decide) (by decide)
   clear hg_ ho_ hno_ hz_ hq_
   first | (simp [execOp, mkN_eval, Result.andThen, *]; done) | (go_simp; simp [mkN_get, Result.andThen, *]; done)
  ·refine ⟨_, rfl, rfl, fun _ => rfl, ?_⟩
   have g13_ : s_ 13 = (.pointer (some ⟨w.heap.size, 1, none⟩)) := hg_ 2 (by decide) (by decide)
   obtain hq3_ : q_ ≤ 1 := by rcases Nat.lt_or_ge 1 q_ with h | h; exact absurd (by decide) (hno_ 1 h); exact h
   have hbw_ : Below W0.heap.size W0 W_ := by
    rcases (show q_ = 0 ∨ q_ = 1 from by omega) with rfl | rfl
    ·exact (show W_ = _ from hz_) ▸ below_drew0 W0
    ·exact (show DV _ _ _ _ ∧ _ from hz_).2
   have hc_ := (HC.out W_ hbw_).1
   clear hbw_
   clear hg_ ho_ hno_ hz_ hq_
   first | (simp [execOp, mkN_eval, Result.andThen, *]; done) | (go_simp; simp [mkN_get, Result.andThen, *]; done)
  ·refine ⟨_, rfl, rfl, fun _ => rfl, ?_⟩
   have g5_ : s_ 5 = _ := ho_ 5 (by decide) (by decide)
   clear hg_ ho_ hno_ hz_ hq_
   first | (simp [execOp, mkN_eval, Result.andThen, *]; done) | (go_simp; simp [mkN_get, Result.andThen, *]; done)
  ·refine ⟨_, rfl, rfl, fun _ => rfl, ?_⟩
   have g15_ : s_ 15 = (.pointer (some ⟨w.heap.size, 1, none⟩)) := hg_ 4 (by decide) (by decide)
   clear hg_ ho_ hno_ hz_ hq_
   first | (simp [execOp, mkN_eval, Result.andThen, *]; done) | (go_simp; simp [mkN_get, Result.andThen, *]; done)
  ·refine ⟨_, rfl, rfl, fun _ => rfl, ?_⟩
   have g16_ : s_ 16 = (.pointer (some ⟨w.heap.size, 2, none⟩)) := hg_ 5 (by decide) (by decide)
   obtain hq3_ : q_ ≤ 1 := by rcases Nat.lt_or_ge 1 q_ with h | h; exact absurd (by decide) (hno_ 1 h); exact h
   have hbw_ : Below W0.heap.size W0 W_ := by
    rcases (show q_ = 0 ∨ q_ = 1 from by omega) with rfl | rfl
    ·exact (show W_ = _ from hz_) ▸ below_drew0 W0
    ·exact (show DV _ _ _ _ ∧ _ from hz_).2
   have hc_ := (HC.out W_ hbw_).2.1
   clear hbw_
   clear hg_ ho_ hno_ hz_ hq_
   first | (simp [execOp, mkN_eval, Result.andThen, *]; done) | (go_simp; simp [mkN_get, Result.andThen, *]; done)
  ·refine ⟨_, rfl, rfl, fun _ => rfl, ?_⟩
   have g1_ : s_ 1 = _ := ho_ 1 (by decide) (by decide)
   clear hg_ ho_ hno_ hz_ hq_
   first | (simp [execOp, mkN_eval, Result.andThen, *]; done) | (go_simp; simp [mkN_get, Result.andThen, *]; done)
  ·refine ⟨_, rfl, rfl, fun _ => rfl, ?_⟩
   have g5_ : s_ 5 = _ := ho_ 5 (by decide) (by decide)
   clear hg_ ho_ hno_ hz_ hq_
   first | (simp [execOp, mkN_eval, Result.andThen, *]; done) | (go_simp; simp [mkN_get, Result.andThen, *]; done)
  ·refine ⟨_, rfl, rfl, fun _ => rfl, ?_⟩
   have g19_ : s_ 19 = (.pointer (some ⟨w.heap.size, 1, none⟩)) := hg_ 8 (by decide) (by decide)
   clear hg_ ho_ hno_ hz_ hq_
   first | (simp [execOp, mkN_eval, Result.andThen, *]; done) | (go_simp; simp [mkN_get, Result.andThen, *]; done)
  ·refine ⟨_, rfl, rfl, fun _ => rfl, ?_⟩
   have g20_ : s_ 20 = (.pointer (some ⟨w.heap.size, 3, none⟩)) := hg_ 9 (by decide) (by decide)
   obtain hq3_ : q_ ≤ 0 := by rcases Nat.lt_or_ge 0 q_ with h | h; exact absurd (by decide) (hno_ 0 h); exact h
   have hbw_ : Below W0.heap.size W0 W_ := by
    rcases (show q_ = 0 from by omega) with rfl
    ·exact (show W_ = _ from hz_) ▸ below_drew0 W0
   have hc_ := (HC.out W_ hbw_).2.2
   clear hbw_
   clear hg_ ho_ hno_ hz_ hq_
   first | (simp [execOp, mkN_eval, Result.andThen, *]; done) | (go_simp; simp [mkN_get, Result.andThen, *]; done)
  ·refine ⟨_, rfl, rfl, fun _ => rfl, ?_⟩
   have g11_ : s_ 11 = (.iface (MT b) (PT p)) := hg_ 0 (by decide) (by decide)
   clear hg_ ho_ hno_ hz_ hq_
   first | (simp [execOp, mkN_eval, Result.andThen, *]; done) | (go_simp; simp [mkN_get, Result.andThen, *]; done)
  ·refine ⟨_, rfl, rfl, fun _ => rfl, ?_⟩
   have g23_ : s_ 23 = (.func (.method "AddLink") #[(.iface (MT b) (PT p))] #[]) := hg_ 11 (by decide) (by decide)
   clear hg_ ho_ hno_ hz_ hq_
   first | (simp [execOp, mkN_eval, Result.andThen, *]; done) | (go_simp; simp [mkN_get, Result.andThen, *]; done)
  ·refine ⟨_, rfl, rfl, fun _ => rfl, ?_⟩
   have g11_ : s_ 11 = (.iface (MT b) (PT p)) := hg_ 0 (by decide) (by decide)
   clear hg_ ho_ hno_ hz_ hq_
   first | (simp [execOp, mkN_eval, Result.andThen, *]; done) | (go_simp; simp [mkN_get, Result.andThen, *]; done)
 ·exact rfl
 ·intro q_ s_ x_ v_ W_ hx_ hZ_
  have e22_ : updN s_ x_ v_ 22 = s_ 22 := updN_ne (fun e => by subst e; exact absurd hx_ (by decide))
  have e26_ : updN s_ x_ v_ 26 = s_ 26 := updN_ne (fun e => by subst e; exact absurd hx_ (by decide))
  clear hx_
  rcases (show q_ = 0 ∨ q_ = 1 ∨ ∃ z_, q_ = z_ + 2 from by by_cases h : 2 ≤ q_; exact .inr (.inr (⟨q_ - 2, by omega⟩)); omega) with rfl | rfl | ⟨z_, rfl⟩
  ·exact hZ_
  ·simpa only [e22_, e26_] using hZ_
  ·simpa only [e22_, e26_] using hZ_
 ·intro i_ hi_ s_ W_ hg_ ho_ hZ_ K_ hK_
  rcases (show i_ = 0 ∨ i_ = 1 from by have : i_ < 2 := hi_; omega) with rfl | rfl
  ·have g18_ : s_ 18 = (.bool b) := hg_ 7 (by decide) (by decide)
   have g21_ : s_ 21 = (.string dom) := hg_ 10 (by decide) (by decide)
   obtain rfl : W_ = W0.drew := hZ_
   clear hg_ ho_
   refine wpOp_step rfl (fun K' hK => ?_)
   go_simp
   try simp [mkN_get, g18_, g21_]
   go_wp2_with (go_at_call 35; refine (impl_within b dom _).mono ?_; rintro e w3 ⟨dv, rfl, hdv, hb3⟩)
   show K_ ((mkN 56 _ s_).put (some 22) dv) w3
   rw [mkN_put _ _ _ (by decide)]
   exact hK_ _ _ ⟨by rw [updN_self]; exact hdv, (below_drew0 W0).trans hb3⟩ (fun j hj => updN_ne (fun e => hj (by subst e; rfl)))
  ·have g25_ : s_ 25 = (.iface (MT b) (PT p)) := hg_ 13 (by decide) (by decide)
   have g14_ : s_ 14 = (.string u) := hg_ 3 (by decide) (by decide)
   have g17_ : s_ 17 = (.string r) := hg_ 6 (by decide) (by decide)
   obtain ⟨hdv_, hb_⟩ := (show DV _ _ _ _ ∧ _ from hZ_)
   clear hg_ ho_
   have hm_ := (HM.out.below HB0.out).below hb_
   refine wpOp_step rfl (fun K' hK => ?_)
   go_simp
   simp [mkN_get, g25_, g14_, g17_]
   cases b
   ·go_invoke
    go_wp2_with (go_at_call 50; refine (mgru_add false hm_ u r dom hdv_).mono ?_; rintro e w3 ⟨rfl, hp_⟩)
    show K_ ((mkN 56 _ s_).put (some 26) .nilIface) w3
    rw [mkN_put _ _ _ (by decide)]
    exact hK_ _ _ ⟨updN_self _ _ _, hp_.since (HB0.out.trans (hb_.mono HB0.out.size))⟩ (fun j hj => updN_ne (fun e => hj (by subst e; rfl)))
   ·go_invoke
    go_wp2_with (go_at_call 54; refine (mgru_add true hm_ u r dom hdv_).mono ?_; rintro e w3 ⟨rfl, hp_⟩)
    show K_ ((mkN 56 _ s_).put (some 26) .nilIface) w3
    rw [mkN_put _ _ _ (by decide)]
    exact hK_ _ _ ⟨updN_self _ _ _, hp_.since (HB0.out.trans (hb_.mono HB0.out.size))⟩ (fun j hj => updN_ne (fun e => hj (by subst e; rfl)))
 ·intro s_ W_ hZ_ hv_ ho_
  obtain ⟨gi_, hp_⟩ := (show s_ 26 = _ ∧ _ from hZ_)
  have HP := Aside0.mk hp_
  refine YieldsIf.wpOp (S := fun x => x = W_) (v := .nilIface) rfl (Or.inl ⟨rfl, fun x hx => by simp [execOp, mkN_eval, gi_]⟩) rfl ?_
  show Exit.then _ _ .normal ((mkN 56 _ s_).put (some 6) _) W_
  rw [mkN_put _ _ _ (by decide), mk56_lit, updN_self]
  clear hv_ ho_ gi_ hZ_ hp_ HC HM hna
  generalize updN s_ 6 _ = t_
  go_wp2
  go_ret
  exact ⟨rfl, HP.out⟩
set_option maxHeartbeats 8000000 in
set_option maxRecDepth 100000 in
theorem deed_del {w : World} {v : Value} {max : Int} {Ef : ByteArray → Edges} {S : Nat → Prop} {b : Bool} (h : Mgr K w v max Ef S b) (u r dom : ByteArray) :
  Calls Tryz.prog 25 #[v, .bool b, .agg #[.int .i64 1, .string u, .string r, .string dom]] w fun e w' => e = .returned .nilIface ∧ MPost (addK K (kd b dom)) w v max (deedE Ef 1 u r (kd b dom)) S b w' := by
 obtain ⟨p, rfl⟩ := h.val
 have hna := fun n W => nil_ahead2 b p n W "DeleteLink" (by simp)
 have HM := Aside0.mk h
 clear h
 go_enter Tryz.func25, Tryz.ntmps25
 go_upto_region 5 with (fail)
 obtain ⟨W0, hW0⟩ : ∃ W0, W0 = w.alloc (Obj.cells #[.int .i64 1, .string u, .string r, .string dom] 54) := ⟨_, rfl⟩
 rw [← hW0]
 have HB0 := Aside0.mk (show Below w.heap.size w W0 from by rw [hW0]; exact (Below.refl _ _).alloc (Nat.le_refl _) _)
 have hs0 : w.heap.size < W0.heap.size := by rw [hW0]; simp
 have hbox : W0.heap[w.heap.size]? = some (.cells #[.int .i64 1, .string u, .string r, .string dom] 54 (0, 0)) := by rw [hW0]; exact heap_alloc_new _ _
 have HC := Aside0.mk (show ∀ W, Below W0.heap.size W0 W → W.cell? ⟨w.heap.size, 1, none⟩ = some (.string u) ∧ W.cell? ⟨w.heap.size, 2, none⟩ = some (.string r) ∧ W.cell? ⟨w.heap.size, 3, none⟩ = some (.string dom) from fun W hb => by
  have hz : W.heap[w.heap.size]? = some (.cells #[.int .i64 1, .string u, .string r, .string dom] 54 (0, 0)) := (hb.block _ hs0).trans hbox
  exact ⟨by simp [World.cell?, hz], by simp [World.cell?, hz], by simp [World.cell?, hz]⟩)
 clear hW0 hbox
 refine at_mkN (n := 56) (d := _) rfl rfl ?_
 refine region_mix (by kernel_rfl) [(0, 29), (1, 30), (2, 31), (3, 32), (4, 33), (5, 34), (6, 35), (7, 36), (8, 37), (9, 38), (10, 39), (12, 41), (13, 42), (14, 43)] [11, 15] (fun k_ => match k_ with | 0 => some 40 | 1 => some 44 | _ => none) (fun k_ => match k_ with | 0 => (.iface (MT b) (PT p)) | 1 => (.pointer (some ⟨w.heap.size, 1, none⟩)) | 2 => (.pointer (some ⟨w.heap.size, 1, none⟩)) | 3 => (.string u) | 4 => (.pointer (some ⟨w.heap.size, 1, none⟩)) | 5 => (.pointer (some ⟨w.heap.size, 2, none⟩)) | 6 => (.string r) | 7 => (.bool b) | 8 => (.pointer (some ⟨w.heap.size, 1, none⟩)) | 9 => (.pointer (some ⟨w.heap.size, 3, none⟩)) | 10 => (.string dom) | 12 => (.func (.method "DeleteLink") #[(.iface (MT b) (PT p))] #[]) | 13 => (.func (.method "DeleteLink") #[(.iface (MT b) (PT p))] #[]) | 14 => (.iface (MT b) (PT p)) | _ => undef) (fun i_ s_ W_ => match i_ with | 0 => W_ = W0.drew | 1 => DV b dom W_ (s_ 40) ∧ Below W0.heap.size W0 W_ | _ => s_ 44 = .nilIface ∧ MPost (addK K (kd b dom)) w (.iface (MT b) (PT p)) max (deedE Ef 1 u r (kd b dom)) S b W_) [[], [], [1], [2], [], [4], [5], [], [], [8], [9], [7, 10], [0], [12], [0, 12, 13], [14, 3, 6, 11, 11], [15, 15, 0, 1, 2, 3, 4, 5, 6, 7, 8, 9, 10, 11, 12, 13, 14, 15]] (by kernel_rfl) (by decide) rfl (by decide) (by decide) (by decide) (by decide) (by decide) (by decide) (by decide) (by decide) (by decide) (by decide) (by decide) ?_ ?_ ?_ ?_ ?_
 ·intro i_ hi_ s_ W_ q_ hq_ hz_ hno_ hg_ ho_
  rcases (show i_ = 0 ∨ i_ = 1 ∨ i_ = 2 ∨ i_ = 3 ∨ i_ = 4 ∨ i_ = 5 ∨ i_ = 6 ∨ i_ = 7 ∨ i_ = 8 ∨ i_ = 9 ∨ i_ = 10 ∨ i_ = 11 ∨ i_ = 12 ∨ i_ = 13 from by have : i_ < 14 := hi_; omega) with rfl | rfl | rfl | rfl | rfl | rfl | rfl | rfl | rfl | rfl | rfl | rfl | rfl | rfl
  ·refine ⟨_, rfl, rfl, fun _ => rfl, ?_⟩
   have g0_ : s_ 0 = _ := ho_ 0 (by decide) (by decide)
   clear hg_ ho_ hno_ hz_ hq_
   first | (simp [execOp, mkN_eval, Result.andThen, *]; done) | (go_simp; simp [mkN_get, Result.andThen, *]; done)
  ·refine ⟨_, rfl, rfl, fun _ => rfl, ?_⟩
   have g5_ : s_ 5 = _ := ho_ 5 (by decide) (by decide)
   clear hg_ ho_ hno_ hz_ hq_
   first | (simp [execOp, mkN_eval, Result.andThen, *]; done) | (go_simp; simp [mkN_get, Result.andThen, *]; done)
  ·refine ⟨_, rfl, rfl, fun _ => rfl, ?_⟩
   have g30_ : s_ 30 = (.pointer (some ⟨w.heap.size, 1, none⟩)) := hg_ 1 (by decide) (by decide)
   clear hg_ ho_ hno_ hz_ hq_
   first | (simp [execOp, mkN_eval, Result.andThen, *]; done) | (go_simp; simp [mkN_get, Result.andThen, *]; done)
  ·refine ⟨_, rfl, rfl, fun _ => rfl, ?_⟩
   have g31_ : s_ 31 = (.pointer (some ⟨w.heap.size, 1, none⟩)) := hg_ 2 (by decide) (by decide)
   obtain hq3_ : q_ ≤ 1 := by rcases Nat.lt_or_ge 1 q_ with h | h; exact absurd (by decide) (hno_ 1 h); exact h
   have hbw_ : Below W0.heap.size W0 W_ := by
    rcases (show q_ = 0 ∨ q_ = 1 from by omega) with rfl | rfl
    ·exact (show W_ = _ from hz_) ▸ below_drew0 W0
    ·exact (show DV _ _ _ _ ∧ _ from hz_).2
   have hc_ := (HC.out W_ hbw_).1
   clear hbw_
   clear hg_ ho_ hno_ hz_ hq_
   first | (simp [execOp, mkN_eval, Result.andThen, *]; done) | (go_simp; simp [mkN_get, Result.andThen, *]; done)
  ·refine ⟨_, rfl, rfl, fun _ => rfl, ?_⟩
   have g5_ : s_ 5 = _ := ho_ 5 (by decide) (by decide)
   clear hg_ ho_ hno_ hz_ hq_
   first | (simp [execOp, mkN_eval, Result.andThen, *]; done) | (go_simp; simp [mkN_get, Result.andThen, *]; done)
  ·refine ⟨_, rfl, rfl, fun _ => rfl, ?_⟩
   have g33_ : s_ 33 = (.pointer (some ⟨w.heap.size, 1, none⟩)) := hg_ 4 (by decide) (by decide)
   clear hg_ ho_ hno_ hz_ hq_
   first | (simp [execOp, mkN_eval, Result.andThen, *]; done) | (go_simp; simp [mkN_get, Result.andThen, *]; done)
  ·refine ⟨_, rfl, rfl, fun _ => rfl, ?_⟩
   have g34_ : s_ 34 = (.pointer (some ⟨w.heap.size, 2, none⟩)) := hg_ 5 (by decide) (by decide)
   obtain hq3_ : q_ ≤ 1 := by rcases Nat.lt_or_ge 1 q_ with h | h; exact absurd (by decide) (hno_ 1 h); exact h
   have hbw_ : Below W0.heap.size W0 W_ := by
    rcases (show q_ = 0 ∨ q_ = 1 from by omega) with rfl | rfl
    ·exact (show W_ = _ from hz_) ▸ below_drew0 W0
    ·exact (show DV _ _ _ _ ∧ _ from hz_).2
   have hc_ := (HC.out W_ hbw_).2.1
   clear hbw_
   clear hg_ ho_ hno_ hz_ hq_
   first | (simp [execOp, mkN_eval, Result.andThen, *]; done) | (go_simp; simp [mkN_get, Result.andThen, *]; done)
  ·refine ⟨_, rfl, rfl, fun _ => rfl, ?_⟩
   have g1_ : s_ 1 = _ := ho_ 1 (by decide) (by decide)
   clear hg_ ho_ hno_ hz_ hq_
   first | (simp [execOp, mkN_eval, Result.andThen, *]; done) | (go_simp; simp [mkN_get, Result.andThen, *]; done)
  ·refine ⟨_, rfl, rfl, fun _ => rfl, ?_⟩
   have g5_ : s_ 5 = _ := ho_ 5 (by decide) (by decide)
   clear hg_ ho_ hno_ hz_ hq_
   first | (simp [execOp, mkN_eval, Result.andThen, *]; done) | (go_simp; simp [mkN_get, Result.andThen, *]; done)
  ·refine ⟨_, rfl, rfl, fun _ => rfl, ?_⟩
   have g37_ : s_ 37 = (.pointer (some ⟨w.heap.size, 1, none⟩)) := hg_ 8 (by decide) (by decide)
   clear hg_ ho_ hno_ hz_ hq_
   first | (simp [execOp, mkN_eval, Result.andThen, *]; done) | (go_simp; simp [mkN_get, Result.andThen, *]; done)
  ·refine ⟨_, rfl, rfl, fun _ => rfl, ?_⟩
   have g38_ : s_ 38 = (.pointer (some ⟨w.heap.size, 3, none⟩)) := hg_ 9 (by decide) (by decide)
   obtain hq3_ : q_ ≤ 0 := by rcases Nat.lt_or_ge 0 q_ with h | h; exact absurd (by decide) (hno_ 0 h); exact h
   have hbw_ : Below W0.heap.size W0 W_ := by
    rcases (show q_ = 0 from by omega) with rfl
    ·exact (show W_ = _ from hz_) ▸ below_drew0 W0
   have hc_ := (HC.out W_ hbw_).2.2
   clear hbw_
   clear hg_ ho_ hno_ hz_ hq_
   first | (simp [execOp, mkN_eval, Result.andThen, *]; done) | (go_simp; simp [mkN_get, Result.andThen, *]; done)
  ·refine ⟨_, rfl, rfl, fun _ => rfl, ?_⟩
   have g29_ : s_ 29 = (.iface (MT b) (PT p)) := hg_ 0 (by decide) (by decide)
   clear hg_ ho_ hno_ hz_ hq_
   first | (simp [execOp, mkN_eval, Result.andThen, *]; done) | (go_simp; simp [mkN_get, Result.andThen, *]; done)
  ·refine ⟨_, rfl, rfl, fun _ => rfl, ?_⟩
   have g41_ : s_ 41 = (.func (.method "DeleteLink") #[(.iface (MT b) (PT p))] #[]) := hg_ 11 (by decide) (by decide)
   clear hg_ ho_ hno_ hz_ hq_
   first | (simp [execOp, mkN_eval, Result.andThen, *]; done) | (go_simp; simp [mkN_get, Result.andThen, *]; done)
  ·refine ⟨_, rfl, rfl, fun _ => rfl, ?_⟩
   have g29_ : s_ 29 = (.iface (MT b) (PT p)) := hg_ 0 (by decide) (by decide)
   clear hg_ ho_ hno_ hz_ hq_
   first | (simp [execOp, mkN_eval, Result.andThen, *]; done) | (go_simp; simp [mkN_get, Result.andThen, *]; done)
 ·exact rfl
 ·intro q_ s_ x_ v_ W_ hx_ hZ_
  have e40_ : updN s_ x_ v_ 40 = s_ 40 := updN_ne (fun e => by subst e; exact absurd hx_ (by decide))
  have e44_ : updN s_ x_ v_ 44 = s_ 44 := updN_ne (fun e => by subst e; exact absurd hx_ (by decide))
  clear hx_
  rcases (show q_ = 0 ∨ q_ = 1 ∨ ∃ z_, q_ = z_ + 2 from by by_cases h : 2 ≤ q_; exact .inr (.inr (⟨q_ - 2, by omega⟩)); omega) with rfl | rfl | ⟨z_, rfl⟩
  ·exact hZ_
  ·simpa only [e40_, e44_] using hZ_
  ·simpa only [e40_, e44_] using hZ_
 ·intro i_ hi_ s_ W_ hg_ ho_ hZ_ K_ hK_
  rcases (show i_ = 0 ∨ i_ = 1 from by have : i_ < 2 := hi_; omega) with rfl | rfl
  ·have g36_ : s_ 36 = (.bool b) := hg_ 7 (by decide) (by decide)
   have g39_ : s_ 39 = (.string dom) := hg_ 10 (by decide) (by decide)
   obtain rfl : W_ = W0.drew := hZ_
   clear hg_ ho_
   refine wpOp_step rfl (fun K' hK => ?_)
   go_simp
   try simp [mkN_get, g36_, g39_]
   go_wp2_with (go_at_call 35; refine (impl_within b dom _).mono ?_; rintro e w3 ⟨dv, rfl, hdv, hb3⟩)
   show K_ ((mkN 56 _ s_).put (some 40) dv) w3
   rw [mkN_put _ _ _ (by decide)]
   exact hK_ _ _ ⟨by rw [updN_self]; exact hdv, (below_drew0 W0).trans hb3⟩ (fun j hj => updN_ne (fun e => hj (by subst e; rfl)))
  ·have g43_ : s_ 43 = (.iface (MT b) (PT p)) := hg_ 13 (by decide) (by decide)
   have g32_ : s_ 32 = (.string u) := hg_ 3 (by decide) (by decide)
   have g35_ : s_ 35 = (.string r) := hg_ 6 (by decide) (by decide)
   obtain ⟨hdv_, hb_⟩ := (show DV _ _ _ _ ∧ _ from hZ_)
   clear hg_ ho_
   have hm_ := (HM.out.below HB0.out).below hb_
   refine wpOp_step rfl (fun K' hK => ?_)
   go_simp
   simp [mkN_get, g43_, g32_, g35_]
   cases b
   ·go_invoke
    go_wp2_with (go_at_call 98; refine (mgru_del false hm_ u r dom hdv_).mono ?_; rintro e w3 ⟨rfl, hp_⟩)
    show K_ ((mkN 56 _ s_).put (some 44) .nilIface) w3
    rw [mkN_put _ _ _ (by decide)]
    exact hK_ _ _ ⟨updN_self _ _ _, hp_.since (HB0.out.trans (hb_.mono HB0.out.size))⟩ (fun j hj => updN_ne (fun e => hj (by subst e; rfl)))
   ·go_invoke
    go_wp2_with (go_at_call 153; refine (mgru_del true hm_ u r dom hdv_).mono ?_; rintro e w3 ⟨rfl, hp_⟩)
    show K_ ((mkN 56 _ s_).put (some 44) .nilIface) w3
    rw [mkN_put _ _ _ (by decide)]
    exact hK_ _ _ ⟨updN_self _ _ _, hp_.since (HB0.out.trans (hb_.mono HB0.out.size))⟩ (fun j hj => updN_ne (fun e => hj (by subst e; rfl)))
 ·intro s_ W_ hZ_ hv_ ho_
  obtain ⟨gi_, hp_⟩ := (show s_ 44 = _ ∧ _ from hZ_)
  have HP := Aside0.mk hp_
  refine YieldsIf.wpOp (S := fun x => x = W_) (v := .nilIface) rfl (Or.inl ⟨rfl, fun x hx => by simp [execOp, mkN_eval, gi_]⟩) rfl ?_
  show Exit.then _ _ .normal ((mkN 56 _ s_).put (some 6) _) W_
  rw [mkN_put _ _ _ (by decide), mk56_lit, updN_self]
  clear hv_ ho_ gi_ hZ_ hp_ HC HM hna
  generalize updN s_ 6 _ = t_
  go_wp2
  go_ret
  exact ⟨rfl, HP.out⟩
end

end Go.Proofs.YtjijaciaioieaaaGreat.PFnRolesOrder
