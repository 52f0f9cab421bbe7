/- The machine side of laws.FnModelAdd: each function of this text answers what its Lean function answers (written for this claim by a program of this session over the kit's print; no condition beyond what each theorem says). -/
import Derived.Test.YtjglpjlbnmpdfaaGreatDoorOFnModelAddx0
import Derived.Test.YtjglpjlbnmpdfaaGreatDoorOFnModelAddx6
import Derived.Test.YtjglpjlbnmpdfaaGreatDoorOFnModelAddx7
import Derived.Test.YtjglpjlbnmpdfaaGreatDoorOFnModelAddx8
namespace Go.Proofs.YtjglpjlbnmpdfaaGreatDoor.PFnModelAdd
open Go.RowKit Go.Proofs.YtjglpjlbnmpdfaaGreatDoorW.PrintWords Go.Proofs.YtjglpjlbnmpdfaaGreatDoorW.PrintLast Go.Proofs.YtjglpjlbnmpdfaaGreatDoorW.PrintMore
attribute [local go_sem] max2_int min2_int max_two min_two max_three min_three max_four min_four   -- for this text's walks alone
set_option linter.unusedVariables false
set_option linter.unusedSimpArgs false

/-! ### impl_ModelDefs: function 11 -/
/-! A map with string keys that is ranged over: its entries' stamps, and what is still to come. -/
section
open Go.Proofs
def Born (es : Array MapEntry) (c : Nat) : Prop := (es.toList.map (·.born)).Nodup ∧ ∀ e ∈ es.toList, e.born < c
/-- block M is a map that reads as st -/
def SM (w : World) (M : Nat) (st : List (ByteArray × Value)) : Prop := ∃ es c, w.heap[M]? = some (.map es c) ∧ SMap es st ∧ Born es c
theorem SM.lt {w : World} {M : Nat} {st : List (ByteArray × Value)} (h : SM w M st) : M < w.heap.size := by
 obtain ⟨es, c, h1, _⟩ := h
 exact (Array.getElem?_eq_some_iff.1 h1).1
theorem SM.keep {w w' : World} {M : Nat} {st : List (ByteArray × Value)} (h : SM w M st) (hk : w'.heap[M]? = w.heap[M]?) : SM w' M st := by
 obtain ⟨es, c, h1, h2⟩ := h
 exact ⟨es, c, hk.trans h1, h2⟩
theorem SM.below {w w' : World} {M : Nat} {st : List (ByteArray × Value)} (h : SM w M st) (hb : Below w.heap.size w w') : SM w' M st := h.keep (hb.block M h.lt)
theorem SM.made (w : World) : SM (w.alloc (.map #[] 0)) w.heap.size [] := ⟨#[], 0, heap_alloc_new w _, rfl, by simp [Born]⟩
theorem SM.cell {w : World} {M : Nat} {st : List (ByteArray × Value)} (h : SM w M st) (cs : Array Value) (t : TypeId) (z : Nat × Nat) : w.heap[M]? ≠ some (.cells cs t z) := by
 obtain ⟨es, c, h1, _⟩ := h
 rw [h1]; intro e; cases e
variable {P : Program} {T K E : TypeId}
theorem SM.put (hT : P.underlying T = some (.map K E)) (hK : P.underlying K = some .string) {w : World} {M : Nat} {st : List (ByteArray × Value)} (h : SM w M st) (k : ByteArray) (v : Value) :
  ∃ es' c', (Instr.mapUpdate T (.map (some M)) (.string k) v).run P w = .ok () (setO w M (.map es' c')) ∧ SM (setO w M (.map es' c')) M (putS k v st) := by
 obtain ⟨es, c, hb, h, hn⟩ := h
 have hM := (Array.getElem?_eq_some_iff.1 hb).1
 cases hl : lookS k st 0 with
 | none =>
  refine ⟨es.push ⟨.string k, v, c⟩, c + 1, ?_, ⟨_, _, setO_same hM, ?_, ?_⟩⟩
  ·simp [Instr.mapUpdate, run_underlying hT, MapKept.run_getObj_map hb, run_check_s hK, run_find_s hK k w h, hl, MapKept.run_setObj_map _ hb, Result.andThen, setO]
  ·unfold SMap at h ⊢
   rw [putS_new k v st ((lookS_none k st 0).1 hl)]
   simp [h]
  ·refine ⟨?_, fun e he => ?_⟩
   ·rw [Array.toList_push, List.map_append, List.nodup_append]
    refine ⟨hn.1, by simp, fun a ha b hb => ?_⟩
    obtain ⟨e, he, rfl⟩ := List.mem_map.1 ha
    have := hn.2 e he
    simp at hb
    omega
   ·rw [Array.toList_push] at he
    rcases List.mem_append.1 he with he | he
    ·have := hn.2 e he; omega
    ·simp at he; subst he; simp
 | some ju =>
  obtain ⟨j, u⟩ := ju
  obtain ⟨_, hg⟩ := lookS_ge k st 0 j u hl
  simp only [Nat.sub_zero] at hg
  have hes : (es.toList.map (fun e => (e.key, e.val)))[j]? = some (.string k, u) := by rw [h, List.getElem?_map, hg]; rfl
  rw [List.getElem?_map] at hes
  obtain ⟨e, he, hkv⟩ := Option.map_eq_some_iff.1 hes
  have hek : e.key = .string k := congrArg Prod.fst hkv
  have he2 : es[j]? = some e := by simpa using he
  have hst : (Instr.keyThatStays (.string k) (.string k)).run P w = .ok (.string k) w := MapKept.run_keyThatStays (d := .string) (by unfold MapKept.IsKey; trivial)
  refine ⟨es.modify j fun e => { e with key := .string k, val := v }, c, ?_, ⟨_, _, setO_same hM, ?_, ?_⟩⟩
  ·simp [Instr.mapUpdate, run_underlying hT, MapKept.run_getObj_map hb, run_check_s hK, run_find_s hK k w h, hl, he2, hek, hst, MapKept.run_setObj_map _ hb, Result.andThen, setO]
  ·unfold SMap at h ⊢
   rw [putS_at k v st 0 j u hl, Array.toList_modify, Nat.sub_zero]
   apply List.ext_getElem?
   intro i
   have hi := congrArg (fun l => l[i]?) h
   simp only [List.getElem?_map, List.getElem?_modify] at hi ⊢
   by_cases hij : j = i
   ·subst hij
    simp [he, hg]
   ·simp only [hij, if_false]
    simpa using hi
  ·have hb : (es.modify j fun e => { e with key := .string k, val := v }).toList.map (·.born) = es.toList.map (·.born) := by
    rw [Array.toList_modify]
    apply List.ext_getElem?
    intro i
    simp only [List.getElem?_map, List.getElem?_modify]
    by_cases hij : j = i
    ·subst hij; cases es.toList[j]? <;> simp
    ·simp [hij]
   refine ⟨by rw [hb]; exact hn.1, fun e he => ?_⟩
   have : e.born ∈ es.toList.map (·.born) := by rw [← hb]; exact List.mem_map_of_mem he
   obtain ⟨e2, he2, h3⟩ := List.mem_map.1 this
   rw [← h3]; exact hn.2 e2 he2
theorem SM.look (hT : P.underlying T = some (.map K E)) (hK : P.underlying K = some .string) {w : World} {M : Nat} {st : List (ByteArray × Value)} (h : SM w M st) {k : ByteArray} {j : Nat} {v : Value} (hl : lookS k st 0 = some (j, v)) (ok : Bool) :
  (Instr.lookup T (.map (some M)) (.string k) ok).run P w = .ok (if ok then .tuple #[v, .bool true] else v) w := by
 obtain ⟨es, c, hb, h, _⟩ := h
 exact run_look_s hT hK hb h hl ok
theorem SM.look_none (hT : P.underlying T = some (.map K E)) (hK : P.underlying K = some .string) {w : World} {M : Nat} {st : List (ByteArray × Value)} (h : SM w M st) {k : ByteArray} (hl : lookS k st 0 = none) {z : Value} (hz : (zeroValue E).run P w = .ok z w) (ok : Bool) :
  (Instr.lookup T (.map (some M)) (.string k) ok).run P w = .ok (if ok then .tuple #[z, .bool false] else z) w := by
 obtain ⟨es, c, hb, h, _⟩ := h
 exact run_look_none_s hT hK hb h hl hz ok
/-- block r ranges over block M, that reads as st; left: what is still to come -/
def RgS (w : World) (r M : Nat) (st left : List (ByteArray × Value)) : Prop :=
 ∃ es c since c0 seen, w.heap[r]? = some (.mapIter (some M) since seen c0) ∧ w.heap[M]? = some (.map es c) ∧ SMap es st ∧ Born es since ∧ since ≤ c0 ∧ since ≤ c ∧
  (Go.leftOf es seen).toList.map (fun e => (e.key, e.val)) = left.map (fun p => (Value.string p.1, p.2))
theorem SM.range (hT : P.underlying T = some (.map K E)) {w : World} {M : Nat} {st : List (ByteArray × Value)} (h : SM w M st) :
  ∃ o, (Instr.range T (.map (some M))).run P w = .ok (.pointer (some ⟨w.heap.size, 0, none⟩)) (w.alloc o) ∧ RgS (w.alloc o) w.heap.size M st st := by
 obtain ⟨es, c, hb, h, hn⟩ := h
 refine ⟨_, run_range_map w T K E M es c hT hb, es, c, c, c, #[], heap_alloc_new _ _, ?_, h, hn, Nat.le_refl _, Nat.le_refl _, ?_⟩
 ·rw [heap_alloc_old w _ (Array.getElem?_eq_some_iff.1 hb).1]; exact hb
 ·have : Go.leftOf es #[] = es := by unfold Go.leftOf; simp
  rw [this]; exact h
theorem RgS.keep {w w' : World} {r M : Nat} {st left : List (ByteArray × Value)} (h : RgS w r M st left) (hr : w'.heap[r]? = w.heap[r]?) (hM : w'.heap[M]? = w.heap[M]?) : RgS w' r M st left := by
 obtain ⟨es, c, since, c0, seen, h1, h2, h3⟩ := h
 exact ⟨es, c, since, c0, seen, hr.trans h1, hM.trans h2, h3⟩
theorem RgS.lt {w : World} {r M : Nat} {st left : List (ByteArray × Value)} (h : RgS w r M st left) : r < w.heap.size ∧ M < w.heap.size := by
 obtain ⟨es, c, since, c0, seen, h1, h2, h3⟩ := h
 exact ⟨(Array.getElem?_eq_some_iff.1 h1).1, (Array.getElem?_eq_some_iff.1 h2).1⟩
theorem leftOfM_push (es : Array MapEntry) (seen : Array Nat) (b : Nat) : Go.leftOf es (seen.push b) = (Go.leftOf es seen).filter (fun e => !(e.born == b)) := by
 unfold Go.leftOf
 rw [Array.filter_filter]
 congr 1
 funext e
 rw [Array.contains_push, Bool.not_or]
 rw [Bool.and_comm]
theorem filter_one {b : Nat} : ∀ {A B : List MapEntry} {e : MapEntry}, ((A ++ e :: B).map (·.born)).Nodup → b = e.born → (A ++ e :: B).filter (fun x => !(x.born == b)) = A ++ B
 | A, B, e, hn, hb => by
  subst hb
  simp only [List.map_append, List.map_cons] at hn
  have h1 : ∀ x ∈ A, x.born ≠ e.born := fun x hx => (List.nodup_append.1 hn).2.2 x.born (List.mem_map_of_mem hx) e.born (List.mem_cons_self ..)
  have h2 : ∀ x ∈ B, x.born ≠ e.born := fun x hx he => by
   have := (List.nodup_cons.1 (List.nodup_append.1 hn).2.1).1
   exact this (by rw [← he]; exact List.mem_map_of_mem hx)
  rw [List.filter_append, List.filter_cons]
  have e1 : A.filter (fun x => !(x.born == e.born)) = A := List.filter_eq_self.2 (fun x hx => by simpa using h1 x hx)
  have e2 : B.filter (fun x => !(x.born == e.born)) = B := List.filter_eq_self.2 (fun x hx => by simpa using h2 x hx)
  simp [e1, e2]
/-- a world in which one block r has turned (and the tape may have been asked) -/
structure Stepped (w w' : World) (r : Nat) : Prop where
 os : w'.os = w.os
 tape : w'.tape = w.tape
 output : w'.output = w.output
 size : w'.heap.size = w.heap.size
 block : ∀ k, k ≠ r → w'.heap[k]? = w.heap[k]?
theorem RgS.next {w : World} {r M : Nat} {st left : List (ByteArray × Value)} (h : RgS w r M st left) :
  (left = [] ∧ ∀ ty, (Instr.next (.pointer (some ⟨r, 0, none⟩)) false ty).run P w = .ok (.tuple #[.bool false]) w) ∨
  ∃ A k v B w', left = A ++ (k, v) :: B ∧ (∀ ty, (Instr.next (.pointer (some ⟨r, 0, none⟩)) false ty).run P w = .ok (.tuple #[.bool true, .string k, v]) w') ∧ RgS w' r M st (A ++ B) ∧ Stepped w w' r ∧ (Instr.entry (.pointer (some ⟨r, 0, none⟩))).run P w' = .ok (.tuple #[.string k, v]) w' := by
 obtain ⟨es, c, since, c0, seen, h1, h2, h3, h4, h5, h7, h6⟩ := h
 have hne : r ≠ M := fun e => by rw [e, h2] at h1; cases h1
 have hrl := (Array.getElem?_eq_some_iff.1 h1).1
 have hsub : List.Sublist (Go.leftOf es seen).toList es.toList := by
  unfold Go.leftOf
  rw [Array.toList_filter]
  exact List.filter_sublist
 rcases run_next_at (P := P) w 0 r M since c0 seen es c h1 h2 h4.2 h5 with ⟨h0, hrun⟩ | ⟨e, he, w1, hw1, hrun⟩
 ·refine .inl ⟨?_, fun ty => hrun⟩
  have e0 : (Go.leftOf es seen).toList = [] := List.eq_nil_of_length_eq_zero (by rw [Array.length_toList]; exact h0)
  rw [e0] at h6
  exact List.map_eq_nil_iff.1 h6.symm
 ·obtain ⟨A, B, hAB⟩ := List.append_of_mem he
  rw [hAB, List.map_append, List.map_cons] at h6
  obtain ⟨L1, L2, hL, hA, hB⟩ := List.map_eq_append_iff.1 h6.symm
  obtain ⟨x, L3, rfl, hx, hB2⟩ := List.map_eq_cons_iff.1 hB
  injection hx with hk hv
  have hw1b : ∀ k : Nat, w1.heap[k]? = w.heap[k]? := by rcases hw1 with h | h <;> (subst h; intro k; rfl)
  have hsz : w1.heap.size = w.heap.size := by rcases hw1 with rfl | rfl <;> rfl
  have hset : ∀ (k : Nat) (o : Obj), k ≠ r → (ChangeMaps.setBlock w1 r o).heap[k]? = w.heap[k]? := fun k o hk => by
   rw [← hw1b k]
   simp only [ChangeMaps.setBlock, Array.getElem?_setIfInBounds]
   rw [if_neg (fun e => hk e.symm)]
  refine .inr ⟨L1, x.1, x.2, L3, _, hL, fun ty => by rw [hk, hv]; exact hrun, ⟨es, c, since, c, seen.push e.born, ?_, ?_, h3, h4, h7, h7, ?_⟩, ⟨?_, ?_, ?_, ?_, fun k hk => hset k _ hk⟩, ?_⟩
  ·simp [ChangeMaps.setBlock, hsz, hrl]
  ·rw [hset M _ (Ne.symm hne)]; exact h2
  ·rw [leftOfM_push, Array.toList_filter, hAB, filter_one (by rw [← hAB]; exact h4.1.sublist (hsub.map _)) rfl, List.map_append, List.map_append, hA, hB2]
  ·rcases hw1 with rfl | rfl <;> rfl
  ·rcases hw1 with rfl | rfl <;> rfl
  ·rcases hw1 with rfl | rfl <;> rfl
  ·simp [ChangeMaps.setBlock, hsz]
  ·have := run_entry_at (P := P) (ChangeMaps.setBlock w1 r (.mapIter (some M) since (seen.push e.born) c)) r M since seen es c e (by simp [ChangeMaps.setBlock, hsz, hrl]) (by rw [hset M _ (Ne.symm hne)]; exact h2) (hsub.subset he) h4.1
   rw [hk, hv]; exact this
end
/-! A model that is read: plain words. -/
section
/-- sections by their letters, and their names in a text -/
def secTab : List (ByteArray × ByteArray) := [(⟨#[114]⟩, ⟨#[114, 101, 113, 117, 101, 115, 116, 95, 100, 101, 102, 105, 110, 105, 116, 105, 111, 110]⟩), (⟨#[112]⟩, ⟨#[112, 111, 108, 105, 99, 121, 95, 100, 101, 102, 105, 110, 105, 116, 105, 111, 110]⟩), (⟨#[103]⟩, ⟨#[114, 111, 108, 101, 95, 100, 101, 102, 105, 110, 105, 116, 105, 111, 110]⟩), (⟨#[101]⟩, ⟨#[112, 111, 108, 105, 99, 121, 95, 101, 102, 102, 101, 99, 116]⟩), (⟨#[109]⟩, ⟨#[109, 97, 116, 99, 104, 101, 114, 115]⟩)]
def logB : ByteArray := ⟨#[108, 111, 103, 103, 101, 114]⟩
def digB (n : Nat) : UInt8 := UInt8.ofNat (48 + n)
/-- what stands behind a section's letter in its i-th key -/
def numB (i : Nat) : ByteArray := if i ≤ 1 then ⟨#[]⟩ else if i < 10 then ⟨#[digB i]⟩ else ⟨#[49, digB (i - 10)]⟩
/-- what a section is read as: its keys and values, in order (n: how many keys are asked at the most) -/
def readSec (D : Conf) (sec name : ByteArray) : Nat → Nat → Option (List (ByteArray × ByteArray))
 | 0, _ => none
 | n + 1, i => if (getConf D (name ++ colons ++ (sec ++ numB i))).size = 0 then some [] else (readSec D sec name n (i + 1)).map fun l => (sec ++ numB i, getConf D (name ++ colons ++ (sec ++ numB i))) :: l
abbrev Defs (α : Type) := List (ByteArray × List (ByteArray × α))
/-- an assertion more -/
def putD {α : Type} (D : Defs α) (sec key : ByteArray) (x : α) : Defs α := putC sec (putC key x ((getC sec D).getD [])) D
end
/-! The map of the sections' names; a new model. -/
section
open Go.Proofs
theorem uM1 : Tryz.prog.underlying 119 = some (.map 9 9) := by kernel_rfl
theorem uM2 : Tryz.prog.underlying 59 = some (.map 9 91) := by kernel_rfl
theorem uM3 : Tryz.prog.underlying 91 = some (.map 9 92) := by kernel_rfl
theorem uM4 : Tryz.prog.underlying 93 = some (.map 9 3) := by kernel_rfl
theorem uMs : Tryz.prog.underlying 9 = some .string := by kernel_rfl
theorem setO_below {n : Nat} {a w : World} {b : Nat} {o : Obj} (h : Below n a w) (hb : n ≤ b) : Below n a (setO w b o) :=
 ⟨h.os, h.tape, h.output, by rw [setO_size]; exact h.size, fun k hk => (setO_ne (by omega)).trans (h.block k hk)⟩
def secTabV : List (ByteArray × Value) := secTab.map fun p => (p.1, .string p.2)
set_option maxHeartbeats 4000000 in
set_option maxRecDepth 100000 in
theorem sec_names (w : World) :
  Calls Tryz.prog 90 #[] w fun e w' => e = .returned (.map (some w.heap.size)) ∧ SM w' w.heap.size secTabV ∧ Below w.heap.size w w' ∧ w'.heap.size = w.heap.size + 1 := by
 have hmm := @run_makeMap Tryz.prog
 have h0 := SM.made w
 obtain ⟨e1, c1, r1, h1⟩ := h0.put uM1 uMs (secTab.getD 0 default).1 (.string (secTab.getD 0 default).2)
 obtain ⟨e2, c2, r2, h2⟩ := h1.put uM1 uMs (secTab.getD 1 default).1 (.string (secTab.getD 1 default).2)
 obtain ⟨e3, c3, r3, h3⟩ := h2.put uM1 uMs (secTab.getD 2 default).1 (.string (secTab.getD 2 default).2)
 obtain ⟨e4, c4, r4, h4⟩ := h3.put uM1 uMs (secTab.getD 3 default).1 (.string (secTab.getD 3 default).2)
 obtain ⟨e5, c5, r5, h5⟩ := h4.put uM1 uMs (secTab.getD 4 default).1 (.string (secTab.getD 4 default).2)
 have H5 := Aside0.mk h5
 clear h0 h1 h2 h3 h4 h5
 simp only [secTab, List.getD_cons_zero, List.getD_cons_succ] at r1 r2 r3 r4 r5
 go_enter Tryz.func90, Tryz.ntmps90
 go_wp2
 go_ret
 refine ⟨rfl, ?_, ?_, ?_⟩
 ·exact H5.out
 ·repeat (first | refine setO_below ?_ (Nat.le_refl _) | exact (Below.refl _ _).alloc (Nat.le_refl _) _)
 ·simp [setO_size]
end
/-! zzIndex. -/
section
open Go.Proofs
set_option maxHeartbeats 4000000 in
set_option maxRecDepth 100000 in
theorem mz_index (s sub : ByteArray) (w : World) (hs : s.size ≤ 1000000) (hb : sub.size ≤ 1000000) (hpos : 0 < sub.size) :
  Calls Tryz.prog 74 #[.string s, .string sub] w fun e w' => e = .returned (.int .i64 (idxV (findSub sub.data.toList s.data.toList))) ∧ w' = w := by
 go_enter Tryz.func74, Tryz.ntmps74
 go_wp2
 go_loop [5] (fun v3 => ∃ k : Nat, v3 = .int .i64 (k : Int) ∧ k ≤ s.size ∧ Aside0 (NoSub sub.data.toList s.data.toList k)) (fun v3 => s.size - (intOf v3).toNat)
 case atStart => exact ⟨0, rfl, Nat.zero_le _, ⟨noSub_zero _ _⟩⟩
 case round =>
  obtain ⟨k, rfl, hk, HN⟩ := hrel
  by_cases hlt : k + sub.size ≤ s.size
  ·obtain ⟨x, hx⟩ : ∃ x, x = s.extract k (k + sub.size) := ⟨_, rfl⟩
   have hsl : ∀ w : World, (Instr.slice 9 (.string s) (some (.int .i64 (k : Int))) (some (.int .i64 ((k : Int) + (sub.size : Int)))) none).run Tryz.prog w = .ok (.string x) w := by
    intro w
    rw [hx, show (k : Int) + (sub.size : Int) = ((k + sub.size : Nat) : Int) from by omega, run_slice_string w 9 s .i64 .i64 (k : Int) ((k + sub.size : Nat) : Int) Tryz.underlying9 (by omega) (by omega) (by omega), Int.toNat_natCast, Int.toNat_natCast]
   have HX := Aside0.mk hx
   clear hx
   have hpre : sub.data.toList.isPrefixOf (s.data.toList.drop k) = decide (x = sub) := by
    rw [prefix_take (by rw [List.length_drop, ba_list, ba_list]; omega), HX.out, ba_list]
    refine decide_eq_decide.2 ⟨fun e => ba_ext (by rw [ba_extract, Nat.add_sub_cancel_left]; exact e), fun e => ?_⟩
    have := congrArg (fun z : ByteArray => z.data.toList) e
    rw [ba_extract, Nat.add_sub_cancel_left] at this
    exact this
   have HP := Aside0.mk hpre
   clear hpre
   by_cases hxs : x = sub
   ·have HXS := Aside0.mk hxs
    have hb1 : (x.toList == sub.toList) = true := by rw [hxs]; simp
    clear hxs
    go_wp2
    go_ret
    refine ⟨?_, rfl⟩
    have h1 := HP.out
    rw [HXS.out, decide_eq_true rfl] at h1
    rw [findSub_at _ _ k HN.out h1 (by rw [ba_list]; omega)]
    rfl
   ·have HXS := Aside0.mk hxs
    have hb1 : (x.toList == sub.toList) = false := by
     rw [beq_eq_false_iff_ne]
     intro e
     rw [ByteArray.toList_eq, ByteArray.toList_eq] at e
     exact hxs (ba_ext e)
    clear hxs
    go_wp2
    go_round
    case rel =>
     refine ⟨k + 1, by go_num, by omega, ⟨fun j hj => ?_⟩⟩
     rcases Nat.lt_or_ge j k with h | h
     ·exact HN.out j h
     ·obtain rfl : j = k := by omega
      rw [HP.out, decide_eq_false HXS.out]
    case measure => simp [intOf]; omega
  ·have hlt2 : ¬ ((k : Int) + (sub.size : Int) ≤ (s.size : Int)) := by omega
   go_wp2
   go_ret
   refine ⟨?_, rfl⟩
   rw [findSub_none]
   ·rfl
   ·intro e; have := congrArg List.length e; rw [ba_list, List.length_nil] at this; omega
   ·intro j hj
    rcases Nat.lt_or_ge j k with h | h
    ·exact HN.out j h
    ·refine prefix_long ?_
     rw [ba_list] at hj
     rw [List.length_drop, ba_list, ba_list]
     omega
end
/-! zzSplit. -/
section
open Go.Proofs
set_option maxHeartbeats 4000000 in
set_option maxRecDepth 100000 in
theorem mz_split (s sep : ByteArray) (w : World) (hs : s.size ≤ 1000000) (hb : sep.size ≤ 1000000) (hpos : 0 < sep.size) :
  Calls Tryz.prog 51 #[.string s, .string sep] w fun e w' => ∃ v0_ : Value, e = .returned (v0_) ∧ Kd.R Kd.string 9 w' w.heap.size (fun _ => True) v0_ (splitB sep s.size s) ∧ Below w.heap.size w w' := by
 have hpi : ¬ ((sep.size : Int) = 0) := by omega
 have hpb : ((sep.size : Int) == 0) = false := by simpa using hpi
 go_enter Tryz.func51, Tryz.ntmps51
 go_wp2
 go_loopw [0, 5] (fun v0 v5 wr => ∃ (x : ByteArray) (n : Nat) (out : List ByteArray), v0 = .string x ∧ x.size ≤ n ∧ n ≤ s.size ∧ out.length + n ≤ s.size ∧ Aside0 (out ++ splitB sep n x = splitB sep s.size s) ∧ Aside0 (Kd.R Kd.string 9 wr w.heap.size (fun _ => True) v5 out) ∧ Aside0 (Below w.heap.size w wr))
  (fun v0 _ _ => match v0 with | .string x => x.size | _ => 0)
 case atStart => exact ⟨s, s.size, [], rfl, Nat.le_refl _, Nat.le_refl _, by simp, ⟨rfl⟩, ⟨Kd.R_nil _ _ _ _ _⟩, ⟨Below.refl _ _⟩⟩
 case round =>
  obtain ⟨x, n, out, rfl, hx, hn, hol, HE, HO, HB⟩ := hrel
  have hidx := Aside0.mk (mz_index x sep wr (by omega) hb hpos)
  cases hf : findSub sep.data.toList x.data.toList with
  | none =>
   have HF := Aside0.mk hf
   rw [hf] at hidx
   unfold idxV at hidx
   clear hf
   go_wp2_with (first
    | (go_at_call 74; refine hidx.out.mono ?_; rintro e w3 ⟨rfl, rfl⟩)
    | ((with_reducible refine gate_builtin (b := .append) (xs := #[.tmp 42, .tmp 44]) rfl ?_); at_builtin; refine Kd.R_append Kd.string (w0 := w) w.heap.size rfl (.tmp 42) (.tmp 44) 25 9 (.string ⟨#[]⟩) 16 rfl Tryz.underlying25 info9 rfl (by decide) (by omega) u5 out x [.string x] (fun _ => True) (fun _ => False) rfl ?aX ?aP (fun _ hk => hk.elim) ?aF ?aO ?aB ?aS ?aL ?_; (case aX => rfl); (case aP => exact rfl); (case aB => exact HB.out); (case aF => exact (fun _ _ => trivial)); (case aO => exact HO.out); (case aS => exact below_size HB.out); (case aL => omega); intro v2 w2 ho hb2 hg hat; have HO2 := Aside0.mk ho; have HB2 := Aside0.mk hb2; clear ho hb2 hg hat))
   go_ret
   refine ⟨_, rfl, ?_, HB2.out⟩
   rw [← HE.out]
   have e : splitB sep n x = [x] := by
    cases n with
    | zero => rfl
    | succ n => unfold splitB; rw [HF.out]
   rw [e]
   exact HO2.out
  | some i =>
   have HF := Aside0.mk hf
   rw [hf] at hidx
   unfold idxV at hidx
   have hle := findSub_le _ _ _ hf
   rw [ba_list, ba_list] at hle
   clear hf
   obtain ⟨y, hy⟩ : ∃ y, y = x.extract 0 i := ⟨_, rfl⟩
   obtain ⟨z, hz⟩ : ∃ z, z = x.extract (i + sep.size) x.size := ⟨_, rfl⟩
   have hs1 : ∀ w : World, (Instr.slice 9 (.string x) none (some (.int .i64 (i : Int))) none).run Tryz.prog w = .ok (.string y) w := by
    intro w
    rw [run_slice_string_to_if w 9 x .i64 (i : Int) Tryz.underlying9, hy]
    simp
    omega
   have hs2 : ∀ w : World, (Instr.slice 9 (.string x) (some (.int .i64 ((i : Int) + (sep.size : Int)))) none none).run Tryz.prog w = .ok (.string z) w := by
    intro w
    rw [show (i : Int) + (sep.size : Int) = ((i + sep.size : Nat) : Int) from by omega, run_slice_string_from_if w 9 x .i64 ((i + sep.size : Nat) : Int) Tryz.underlying9, hz]
    generalize i + sep.size = E at hle
    simp
    omega
   have hzs : z.size = x.size - (i + sep.size) := by rw [hz]; simp
   have HY := Aside0.mk (And.intro hy (And.intro hz hzs))
   clear hy hz hzs
   go_wp2_with (first
    | (go_at_call 74; refine hidx.out.mono ?_; rintro e w3 ⟨rfl, rfl⟩)
    | ((with_reducible refine gate_builtin (b := .append) (xs := #[.tmp 46, .tmp 50]) rfl ?_); at_builtin; refine Kd.R_append Kd.string (w0 := w) w.heap.size rfl (.tmp 46) (.tmp 50) 25 9 (.string ⟨#[]⟩) 16 rfl Tryz.underlying25 info9 rfl (by decide) (by omega) u5 out y [.string y] (fun _ => True) (fun _ => False) rfl ?aX ?aP (fun _ hk => hk.elim) ?aF ?aO ?aB ?aS ?aL ?_; (case aX => rfl); (case aP => exact rfl); (case aB => exact HB.out); (case aF => exact (fun _ _ => trivial)); (case aO => exact HO.out); (case aS => exact below_size HB.out); (case aL => omega); intro v2 w2 ho hb2 hg hat; have HO2 := Aside0.mk ho; have HB2 := Aside0.mk hb2; clear ho hb2 hg hat))
   go_roundw
   case rel =>
    have h3 := HY.out.2.2
    obtain ⟨n, rfl⟩ : ∃ k, n = k + 1 := ⟨n - 1, by omega⟩
    refine ⟨z, n, out ++ [y], rfl, by omega, by omega, by simp; omega, ⟨?_⟩, HO2, HB2⟩
    rw [← HE.out]
    conv => rhs; unfold splitB
    rw [HF.out]
    simp only []
    rw [List.append_assoc, HY.out.1, HY.out.2.1]
    rfl
   case measure =>
    have h3 := HY.out.2.2
    simp only []
    omega
end
/-! A model in memory: a map of maps of assertions. -/
section
open Go.Proofs
theorem setA {w : World} {g : Nat} {t : TypeId} {cs : Array Value} (h : w.heap[g]? = some (.cells cs t (0, 0))) (i : Nat) (v : Value) : (w.setCell ⟨g, i, none⟩ v).heap[g]? = some (.cells (cs.setIfInBounds i v) t (0, 0)) := by
 simp [World.setCell, Array.getElem?_modify, h]
theorem run_add_str (a b : ByteArray) (h : a.size + b.size ≤ 9223372036854775807) (W : World) : (binOp .add 9 (.string a) (.string b)).run Tryz.prog W = .ok (.string (a ++ b)) W := by
 simp [binOp, Op.stringOp]
 omega
theorem run_at_str (g len cap i : Nat) (hi : i < len) (W : World) : (Instr.indexAt 25 (.slice (some ⟨g, 0, none⟩) len cap) (.int .i64 (i : Int))).run Tryz.prog W = .ok (.pointer (some ⟨g, i, none⟩)) W := by
 have hu : Tryz.prog.underlying 25 = some (.slice (Tryz.prog.elem 25)) := by kernel_rfl
 rw [run_indexAt_slice W 25 ⟨g, 0, none⟩ len cap .i64 (i : Int) hu, if_pos ⟨by omega, by omega⟩]
 have hsz : Tryz.prog.info? (Tryz.prog.elem 25) = Tryz.prog.info? 9 := by kernel_rfl
 obtain ⟨i0, hi0, _, hs0, _⟩ := info_parts (show (Tryz.prog.info? 9).map (fun i => (i.zero, i.size, i.bytes)) = some (some (.string ⟨#[]⟩), 1, 16) from by kernel_rfl)
 simp [sizeOf, typeInfo, hsz, hi0, hs0, Result.andThen, Addr.add]
 intro h; omega
theorem slice_str (g len cap n : Nat) (h0 : 0 ≤ n) (h : n ≤ cap) (W : World) : (Instr.slice 25 (.slice (some ⟨g, 0, none⟩) len cap) none (some (.int .i64 (n : Int))) none).run Tryz.prog W = .ok (.slice (some ⟨g, 0, none⟩) n cap) W := by
 have hu : Tryz.prog.underlying 25 = some (.slice (Tryz.prog.elem 25)) := by kernel_rfl
 rw [run_slice_h W 25 (some ⟨g, 0, none⟩) len cap hu .i64 (n : Int) (by omega) (by omega)]
 have hsz : Tryz.prog.info? (Tryz.prog.elem 25) = Tryz.prog.info? 9 := by kernel_rfl
 obtain ⟨i0, hi0, _, hs0, _⟩ := info_parts (show (Tryz.prog.info? 9).map (fun i => (i.zero, i.size, i.bytes)) = some (some (.string ⟨#[]⟩), 1, 16) from by kernel_rfl)
 simp [sizeOf, typeInfo, hsz, hi0, hs0, sliced, Result.andThen, Addr.add]
theorem run_store1 {w : World} {g i : Nat} {u : Value} (hc : w.cell? ⟨g, i, none⟩ = some u) (hf : w.frozen? ⟨g, i, none⟩ = false) (s : ByteArray) : (storeCells ⟨g, i, none⟩ [.string s]).run Tryz.prog w = .ok () (w.setCell ⟨g, i, none⟩ (.string s)) := by
 have h0 : (⟨g, i, none⟩ : Addr).add 0 = ⟨g, i, none⟩ := rfl
 simp [storeCells, h0, run_store_string, stored, hc, hf, Result.andThen]
theorem wp_world {P : Program} {c : Code} {Q : Exit → Act → World → Prop} {a : Act} {W : World} (R : World → Prop) (h : R W) (k : ∀ W', R W' → Code.wp P c Q a W') : Code.wp P c Q a W := k W h
/-- the cells of an assertion -/
def asrCells (key val : ByteArray) (tok par pol pm rm fm : Value) : Array Value := #[.string key, .string val, tok, par, pol, pm, rm, fm, .int .i32 0, .int .u32 0, .int .u32 0, .int .u32 0, .int .i32 0, .int .i32 0]
/-- an assertion that is being laid, without rules -/
structure AW (w0 w : World) (a pm fm : Nat) (key val : ByteArray) (tok par : Value) : Prop where
 blk : w.heap[a]? = some (.cells (asrCells key val tok par (.slice none 0 0) (.map (some pm)) .nilIface (.map (some fm))) 109 (0, 0))
 mp : SM w pm []
 mf : SM w fm []
 ne : pm ≠ fm
 new : w0.heap.size ≤ a ∧ w0.heap.size ≤ pm ∧ w0.heap.size ≤ fm
 below : Below w0.heap.size w0 w
theorem AW.drew {w0 w : World} {a pm fm : Nat} {key val : ByteArray} {tok par : Value} (h : AW w0 w a pm fm key val tok par) (n : Nat) : AW w0 (w.drewN n) a pm fm key val tok par :=
 ⟨h.blk, h.mp, h.mf, h.ne, h.new, ⟨h.below.os, h.below.tape, h.below.output, h.below.size, h.below.block⟩⟩
theorem AW.next {w0 w w' : World} {a pm fm : Nat} {key val : ByteArray} {tok par : Value} (h : AW w0 w a pm fm key val tok par) (hb : Below w.heap.size w w') : AW w0 w' a pm fm key val tok par :=
 ⟨(hb.block a (Array.getElem?_eq_some_iff.1 h.blk).1).trans h.blk, h.mp.below hb, h.mf.below hb, h.ne, h.new, h.below.trans (hb.mono h.below.size)⟩
theorem sm_ne_cells {w : World} {m g : Nat} {st : List (ByteArray × Value)} {cs : Array Value} {t : TypeId} (h : SM w m st) (hg : w.heap[g]? = some (.cells cs t (0, 0))) : m ≠ g := fun e => by
 subst e
 exact h.cell _ _ _ hg
theorem AW.cell_ne {w0 w : World} {a pm fm : Nat} {key val : ByteArray} {tok par : Value} (h : AW w0 w a pm fm key val tok par) : pm ≠ a ∧ fm ≠ a := ⟨sm_ne_cells h.mp h.blk, sm_ne_cells h.mf h.blk⟩
theorem AW.stored {w0 w : World} {a pm fm : Nat} {key val : ByteArray} {tok par : Value} (h : AW w0 w a pm fm key val tok par) (i : Nat) (v : Value) {key2 val2 : ByteArray} {tok2 par2 : Value}
  (hc : (asrCells key val tok par (.slice none 0 0) (.map (some pm)) .nilIface (.map (some fm))).setIfInBounds i v = asrCells key2 val2 tok2 par2 (.slice none 0 0) (.map (some pm)) .nilIface (.map (some fm))) : AW w0 (w.setCell ⟨a, i, none⟩ v) a pm fm key2 val2 tok2 par2 :=
 ⟨by rw [setA h.blk, hc], h.mp.keep (Below.heap_setCell w _ v _ h.cell_ne.1), h.mf.keep (Below.heap_setCell w _ v _ h.cell_ne.2), h.ne, h.new, h.below.trans ⟨rfl, rfl, rfl, by simp [World.setCell], fun k hk => Below.heap_setCell w _ v k (by have := h.new.1; simp; omega)⟩⟩
theorem AW.cells {w0 w : World} {a pm fm : Nat} {key val : ByteArray} {tok par : Value} (h : AW w0 w a pm fm key val tok par) :
  w.cell? ⟨a, 1, none⟩ = some (.string val) ∧ w.cell? ⟨a, 2, none⟩ = some tok ∧ w.cell? ⟨a, 3, none⟩ = some par ∧ w.frozen? ⟨a, 1, none⟩ = false ∧ w.frozen? ⟨a, 2, none⟩ = false ∧ w.frozen? ⟨a, 3, none⟩ = false :=
 ⟨cell_of h.blk rfl, cell_of h.blk rfl, cell_of h.blk rfl, frozen_of h.blk 1, frozen_of h.blk 2, frozen_of h.blk 3⟩
theorem AW.start (w : World) (key val : ByteArray) : AW w (((w.alloc (.cells (asrCells key val (.slice none 0 0) (.slice none 0 0) (.slice none 0 0) (.map (some (w.heap.size + 1))) .nilIface (.map (some (w.heap.size + 1 + 1)))) 109)).alloc (.map #[] 0)).alloc (.map #[] 0)) w.heap.size (w.heap.size + 1) (w.heap.size + 1 + 1) key val (.slice none 0 0) (.slice none 0 0) := by
 have e1 : ∀ (W : World) (o : Obj), (W.alloc o).heap.size = W.heap.size + 1 := fun W o => by simp
 refine ⟨?_, ?_, ?_, by omega, ⟨by omega, by omega, by omega⟩, (((Below.refl _ _).alloc (Nat.le_refl _) _).alloc (by simp) _).alloc (by simp <;> omega) _⟩
 ·rw [heap_alloc_old _ _ (by simp; omega), heap_alloc_old _ _ (by simp)]
  exact heap_alloc_new w _
 ·have := (SM.made (w.alloc (.cells (asrCells key val (.slice none 0 0) (.slice none 0 0) (.slice none 0 0) (.map (some (w.heap.size + 1))) .nilIface (.map (some (w.heap.size + 1 + 1)))) 109))).keep (heap_alloc_old _ (.map #[] 0) (by simp))
  simpa [e1] using this
 ·have := SM.made ((w.alloc (.cells (asrCells key val (.slice none 0 0) (.slice none 0 0) (.slice none 0 0) (.map (some (w.heap.size + 1))) .nilIface (.map (some (w.heap.size + 1 + 1)))) 109)).alloc (.map #[] 0))
  simpa [e1] using this
/-! the maps -/
abbrev MSt := List (ByteArray × Nat × List (ByteArray × Nat))
def msecVals (st : MSt) : List (ByteArray × Value) := st.map fun x => (x.1, .map (some x.2.1))
def ptrVals (l : List (ByteArray × Nat)) : List (ByteArray × Value) := l.map fun y => (y.1, .pointer (some ⟨y.2, 0, none⟩))
structure MM (w : World) (M : Nat) (st : MSt) : Prop where
 top : SM w M (msecVals st)
 sub : ∀ x ∈ st, SM w x.2.1 (ptrVals x.2.2)
 nodup : (M :: st.map (·.2.1)).Nodup
/-- an assertion more: into its section, or into a new one (its block: nb) -/
def putM (sec key : ByteArray) (nb a : Nat) : MSt → MSt
 | [] => [(sec, nb, [(key, a)])]
 | x :: st => if sec = x.1 then (x.1, x.2.1, putC key a x.2.2) :: st else x :: putM sec key nb a st
theorem mst_cases (sec : ByteArray) : ∀ st : MSt, (∃ A b l B, st = A ++ (sec, b, l) :: B ∧ ∀ x ∈ A, x.1 ≠ sec) ∨ ∀ x ∈ st, x.1 ≠ sec
 | [] => .inr (by simp)
 | x :: st => by
  obtain ⟨s, b, l⟩ := x
  by_cases g : s = sec
  ·subst g
   exact .inl ⟨[], b, l, st, rfl, by simp⟩
  ·rcases mst_cases sec st with ⟨A, b2, l2, B, rfl, hA⟩ | h
   ·refine .inl ⟨(s, b, l) :: A, b2, l2, B, rfl, fun x hx => ?_⟩
    rcases List.mem_cons.1 hx with rfl | hx
    ·exact g
    ·exact hA x hx
   ·refine .inr (fun x hx => ?_)
    rcases List.mem_cons.1 hx with rfl | hx
    ·exact g
    ·exact h x hx
theorem putM_old {sec key : ByteArray} {nb a b : Nat} {l : List (ByteArray × Nat)} {B : MSt} : ∀ {A : MSt}, (∀ x ∈ A, x.1 ≠ sec) → putM sec key nb a (A ++ (sec, b, l) :: B) = A ++ (sec, b, putC key a l) :: B
 | [], _ => by simp [putM]
 | x :: A, h => by
  have hx : ¬ sec = x.1 := fun e => h x (List.mem_cons_self ..) e.symm
  simp only [List.cons_append, putM, if_neg hx, putM_old (A := A) (fun y hy => h y (List.mem_cons_of_mem _ hy))]
theorem putM_new {sec key : ByteArray} {nb a : Nat} : ∀ {st : MSt}, (∀ x ∈ st, x.1 ≠ sec) → putM sec key nb a st = st ++ [(sec, nb, [(key, a)])]
 | [], _ => rfl
 | x :: A, h => by
  have hx : ¬ sec = x.1 := fun e => h x (List.mem_cons_self ..) e.symm
  simp only [putM, if_neg hx, putM_new (st := A) (fun y hy => h y (List.mem_cons_of_mem _ hy)), List.cons_append]
theorem look_msec {k : ByteArray} {n : Nat} {D : List (ByteArray × Nat)} {B : MSt} : ∀ {A : MSt}, (∀ x ∈ A, x.1 ≠ k) → ∀ i, lookS k (msecVals (A ++ (k, n, D) :: B)) i = some (i + A.length, .map (some n))
 | [], _, i => by simp [msecVals, lookS]
 | x :: A, h, i => by
  have hx : ¬ k = x.1 := fun e => h x (List.mem_cons_self ..) e.symm
  have ih := look_msec (k := k) (n := n) (D := D) (B := B) (A := A) (fun y hy => h y (List.mem_cons_of_mem _ hy)) (i + 1)
  unfold msecVals at ih ⊢
  simp only [List.cons_append, List.map_cons, lookS, if_neg hx, ih, List.length_cons]
  congr 2
  omega
theorem look_msec_none {k : ByteArray} {st : MSt} (h : ∀ x ∈ st, x.1 ≠ k) : lookS k (msecVals st) 0 = none := by
 rw [lookS_none]
 intro p hp
 obtain ⟨x, hx, rfl⟩ := List.mem_map.1 hp
 exact h x hx
theorem putS_ptr (o : ByteArray) (a : Nat) : ∀ l : List (ByteArray × Nat), putS o (.pointer (some ⟨a, 0, none⟩)) (ptrVals l) = ptrVals (putC o a l)
 | [] => rfl
 | p :: l => by
  have ih := putS_ptr o a l
  unfold ptrVals at ih ⊢
  simp only [List.map_cons, putS, putC]
  split
  ·rfl
  ·simp only [List.map_cons, ih]
theorem putS_msec_new {k : ByteArray} {st : MSt} (h : ∀ x ∈ st, x.1 ≠ k) (n : Nat) : putS k (.map (some n)) (msecVals st) = msecVals (st ++ [(k, n, [])]) := by
 rw [putS_new]
 ·simp [msecVals]
 ·intro p hp
  obtain ⟨x, hx, rfl⟩ := List.mem_map.1 hp
  exact h x hx
theorem MM.move {w w' : World} {M : Nat} {st : MSt} (h : MM w M st) (hm : ∀ k, k ∈ M :: st.map (·.2.1) → w'.heap[k]? = w.heap[k]?) : MM w' M st where
 top := h.top.keep (hm _ (List.mem_cons_self ..))
 sub := fun x hx => (h.sub x hx).keep (hm _ (List.mem_cons_of_mem _ (List.mem_map_of_mem hx)))
 nodup := h.nodup
theorem MM.lt {w : World} {M : Nat} {st : MSt} (h : MM w M st) : ∀ k, k ∈ M :: st.map (·.2.1) → k < w.heap.size := by
 intro k hk
 rcases List.mem_cons.1 hk with rfl | hk
 ·exact h.top.lt
 ·obtain ⟨x, hx, rfl⟩ := List.mem_map.1 hk
  exact (h.sub x hx).lt
theorem MM.below {w w' : World} {M : Nat} {st : MSt} (h : MM w M st) (hb : Below w.heap.size w w') : MM w' M st := h.move (fun k hk => hb.block k (h.lt k hk))
theorem MM.put {w w' : World} {M n : Nat} {A B : MSt} {k : ByteArray} {D E : List (ByteArray × Nat)} (h : MM w M (A ++ (k, n, D) :: B)) (h2 : SM w' n (ptrVals E)) (h3 : ∀ j, j ≠ n → w'.heap[j]? = w.heap[j]?) : MM w' M (A ++ (k, n, E) :: B) where
 top := by
  have hmn : M ≠ n := fun e => by
   have := h.nodup
   simp [e] at this
  have := h.top.keep (h3 M hmn)
  simpa [msecVals] using this
 sub := fun x hx => by
  rcases List.mem_append.1 hx with hx | hx
  ·have hne : x.2.1 ≠ n := fun e => by
    have := h.nodup
    simp only [List.map_append, List.map_cons, List.nodup_cons] at this
    exact (List.nodup_append.1 this.2).2.2 x.2.1 (List.mem_map_of_mem hx) n (List.mem_cons_self ..) e
   exact (h.sub x (List.mem_append_left _ hx)).keep (h3 _ hne)
  ·rcases List.mem_cons.1 hx with rfl | hx
   ·exact h2
   ·have hne : x.2.1 ≠ n := fun e => by
     have := h.nodup
     simp only [List.map_append, List.map_cons, List.nodup_cons] at this
     have h5 := (List.nodup_append.1 this.2).2.1
     rw [List.nodup_cons] at h5
     exact h5.1 (by rw [← e]; exact List.mem_map_of_mem hx)
    exact (h.sub x (List.mem_append_right _ (List.mem_cons_of_mem _ hx))).keep (h3 _ hne)
 nodup := by simpa using h.nodup
/-- what the last lines of AddDef do: the section is there -/
theorem MM.add_old {w : World} {M b a : Nat} (nb : Nat) {sec key : ByteArray} {l : List (ByteArray × Nat)} {A B : MSt} (h : MM w M (A ++ (sec, b, l) :: B)) (hA : ∀ x ∈ A, x.1 ≠ sec) :
  (∀ ok, (Instr.lookup 59 (.map (some M)) (.string sec) ok).run Tryz.prog w = .ok (if ok then .tuple #[.map (some b), .bool true] else .map (some b)) w) ∧
  ∃ es c, (Instr.mapUpdate 91 (.map (some b)) (.string key) (.pointer (some ⟨a, 0, none⟩))).run Tryz.prog w = .ok () (setO w b (.map es c)) ∧ MM (setO w b (.map es c)) M (putM sec key nb a (A ++ (sec, b, l) :: B)) := by
 refine ⟨fun ok => h.top.look uM2 uMs (look_msec hA 0) ok, ?_⟩
 obtain ⟨es, c, hr, hs⟩ := (h.sub (sec, b, l) (by simp)).put uM3 uMs key (.pointer (some ⟨a, 0, none⟩))
 refine ⟨es, c, hr, ?_⟩
 rw [putM_old hA]
 rw [putS_ptr] at hs
 exact h.put hs (fun j hj => setO_ne hj)
theorem zM2 (w : World) : (zeroValue 91).run Tryz.prog w = .ok (.map none) w := by kernel_rfl
/-- the section is new -/
theorem MM.add_new {w : World} {M a : Nat} {sec key : ByteArray} {st : MSt} (h : MM w M st) (hA : ∀ x ∈ st, x.1 ≠ sec) :
  (Instr.lookup 59 (.map (some M)) (.string sec) true).run Tryz.prog w = .ok (.tuple #[.map none, .bool false]) w ∧
  ∃ o1 es2 c2, (Instr.mapUpdate 59 (.map (some M)) (.string sec) (.map (some w.heap.size))).run Tryz.prog (w.alloc (.map #[] 0)) = .ok () (setO (w.alloc (.map #[] 0)) M o1) ∧
   (Instr.lookup 59 (.map (some M)) (.string sec) false).run Tryz.prog (setO (w.alloc (.map #[] 0)) M o1) = .ok (.map (some w.heap.size)) (setO (w.alloc (.map #[] 0)) M o1) ∧
   (Instr.mapUpdate 91 (.map (some w.heap.size)) (.string key) (.pointer (some ⟨a, 0, none⟩))).run Tryz.prog (setO (w.alloc (.map #[] 0)) M o1) = .ok () (setO (setO (w.alloc (.map #[] 0)) M o1) w.heap.size (.map es2 c2)) ∧
   MM (setO (setO (w.alloc (.map #[] 0)) M o1) w.heap.size (.map es2 c2)) M (putM sec key w.heap.size a st) ∧ (∃ es c, o1 = .map es c) := by
 refine ⟨h.top.look_none uM2 uMs (look_msec_none hA) (zM2 w) true, ?_⟩
 have hlt := h.lt
 have hMw := h.top.lt
 have hb : Below w.heap.size w (w.alloc (.map #[] 0)) := (Below.refl _ _).alloc (Nat.le_refl _) _
 have h1 := h.below hb
 obtain ⟨es, c, hr, hs⟩ := h1.top.put uM2 uMs sec (.map (some w.heap.size))
 rw [putS_msec_new hA] at hs
 have hn : SM (setO (w.alloc (.map #[] 0)) M (.map es c)) w.heap.size [] := (SM.made w).keep (setO_ne (by omega))
 obtain ⟨es2, c2, hr2, hs2⟩ := hn.put uM3 uMs key (.pointer (some ⟨a, 0, none⟩))
 refine ⟨.map es c, es2, c2, hr, hs.look uM2 uMs (look_msec (A := st) (B := []) hA 0) false, hr2, ?_, ⟨es, c, rfl⟩⟩
 rw [putM_new hA]
 have h0 : MM (setO (w.alloc (.map #[] 0)) M (.map es c)) M (st ++ [(sec, w.heap.size, [])]) := by
  refine ⟨hs, fun x hx => ?_, ?_⟩
  ·rcases List.mem_append.1 hx with hx | hx
   ·refine (h1.sub x hx).keep (setO_ne (fun e => ?_))
    have := (List.nodup_cons.1 h.nodup).1
    exact this (by rw [← e]; exact List.mem_map_of_mem hx)
   ·obtain rfl := List.mem_singleton.1 hx
    exact hn
  ·rw [List.map_append, ← List.cons_append, List.nodup_append]
   refine ⟨h.nodup, by simp, fun x hx y hy => ?_⟩
   have := hlt x hx
   simp at hy
   omega
 exact h0.put (E := [(key, a)]) (B := []) hs2 (fun j hj => setO_ne hj)
end
/-! AddDef. -/
section
open Go.Proofs
theorem notEmpty {value : ByteArray} (hv : value.size ≠ 0) : value.toList.isEmpty = false ∧ (value.toList == ([] : List UInt8)) = false := by
 have hb : value.toList.isEmpty = false := by
  rw [ByteArray.toList_eq]
  cases h : value.data.toList with
  | nil => exfalso; apply hv; exact congrArg List.length h
  | cons a l => rfl
 refine ⟨hb, ?_⟩
 rw [beq_eq_false_iff_ne]
 intro e
 rw [e] at hb
 cases hb
/-- texts in a block of their own -/
abbrev TokOf (n : Nat) (w : World) (v : Value) (l : List ByteArray) : Prop := Kd.R Kd.string 9 w n (fun _ => True) v l
theorem TokOf.keep {n : Nat} {w w' : World} {v : Value} {l : List ByteArray} (h : TokOf n w v l) (hk : ∀ (g : Nat) (cur : Array Value), w.heap[g]? = some (.cells cur 9 (0, 0)) → w'.heap[g]? = w.heap[g]?) : TokOf n w' v l :=
 Kd.R_mono (Kd.R_move (Kd.R_bound h) (fun k hk2 => by
  obtain ⟨_, _, _, q, hq, cs, hc⟩ := hk2
  obtain rfl : q = 9 := List.mem_singleton.1 (show q ∈ [9] from hq)
  exact hk k cs hc)) (fun _ _ => trivial)
theorem TokOf.next {n : Nat} {w w' : World} {v : Value} {l : List ByteArray} (h : TokOf n w v l) (hb : Below w.heap.size w w') : TokOf n w' v l := h.keep (fun g cur hg => hb.block g (Array.getElem?_eq_some_iff.1 hg).1)
theorem TokOf.nil (n : Nat) (w : World) : TokOf n w (.slice none 0 0) [] := Kd.R_nil _ _ _ _ _
theorem own_blk {n : Nat} {w : World} {v : Value} {l : List ByteArray} (h : TokOf n w v l) (hl : l ≠ []) : ∃ g cap, v = .slice (some ⟨g, 0, none⟩) l.length cap ∧ n ≤ g := by
 rcases (Kd.own_of_R h).2 with ⟨_, h0⟩ | ⟨g, cap, cur, rfl, hg, _⟩
 ·exact absurd (List.eq_nil_of_length_eq_zero h0) hl
 ·exact ⟨g, cap, rfl, hg⟩
theorem splitB_ne (sep : ByteArray) (n : Nat) (s : ByteArray) : splitB sep n s ≠ [] := by
 cases n with
 | zero => simp [splitB]
 | succ n => unfold splitB; split <;> simp
/-- an assertion that was laid, and its texts -/
def AD (w0 w : World) (a pm fm : Nat) (key val : ByteArray) (toks : List ByteArray) : Prop := ∃ tok par, AW w0 w a pm fm key val tok par ∧ TokOf w0.heap.size w tok toks
theorem AD.drew {w0 w : World} {a pm fm : Nat} {key val : ByteArray} {toks : List ByteArray} (h : AD w0 w a pm fm key val toks) (n : Nat) : AD w0 (w.drewN n) a pm fm key val toks := by
 obtain ⟨tok, par, h1, h2⟩ := h
 exact ⟨tok, par, h1.drew n, h2.keep (fun _ _ _ => rfl)⟩
theorem AD.next {w0 w w' : World} {a pm fm : Nat} {key val : ByteArray} {toks : List ByteArray} (h : AD w0 w a pm fm key val toks) (hb : Below w.heap.size w w') : AD w0 w' a pm fm key val toks := by
 obtain ⟨tok, par, h1, h2⟩ := h
 exact ⟨tok, par, h1.next hb, h2.next hb⟩
theorem AD.value {w0 w : World} {a pm fm : Nat} {key val : ByteArray} {toks : List ByteArray} (h : AD w0 w a pm fm key val toks) (v : ByteArray) : AD w0 (w.setCell ⟨a, 1, none⟩ (.string v)) a pm fm key v toks := by
 obtain ⟨tok, par, h1, h2⟩ := h
 refine ⟨tok, par, h1.stored 1 _ rfl, h2.keep (fun g cur hg => Below.heap_setCell w _ _ g (fun e => ?_))⟩
 have := h1.blk
 rw [show a = g from e.symm, hg] at this
 injection this with h3
 injection h3 with _ h4 _
 exact absurd h4 (by decide)
theorem AW.toks {w0 w : World} {a pm fm : Nat} {key val : ByteArray} {tok par : Value} (h : AW w0 w a pm fm key val tok par) {v : Value} {l : List ByteArray} (hT : TokOf w0.heap.size w v l) : TokOf w0.heap.size (w.setCell ⟨a, 2, none⟩ v) v l := by
 refine hT.keep (fun g cur hg => Below.heap_setCell w _ _ g (fun e => ?_))
 have := h.blk
 rw [show a = g from e.symm, hg] at this
 injection this with h3
 injection h3 with _ h4 _
 exact absurd h4 (by decide)
theorem AW.other {w0 w : World} {a pm fm : Nat} {key val : ByteArray} {tok par : Value} (h : AW w0 w a pm fm key val tok par) {g n cap : Nat} {l : List ByteArray} (hT : TokOf w0.heap.size w (.slice (some ⟨g, 0, none⟩) n cap) l) (i : Nat) (v : Value) : AW w0 (w.setCell ⟨g, i, none⟩ v) a pm fm key val tok par := by
 obtain ⟨_, hg0, hg, q, hq, cs, hc⟩ := (Kd.R_bound hT).1 g rfl
 obtain rfl : q = 9 := List.mem_singleton.1 (show q ∈ [9] from hq)
 have n1 : a ≠ g := fun e => by
  have := h.blk
  rw [e, hc] at this
  injection this with h3
  injection h3 with _ h4 _
  exact absurd h4 (by decide)
 exact ⟨(Below.heap_setCell w _ v _ n1).trans h.blk, h.mp.keep (Below.heap_setCell w _ v _ (sm_ne_cells h.mp hc)), h.mf.keep (Below.heap_setCell w _ v _ (sm_ne_cells h.mf hc)), h.ne, h.new, h.below.trans ⟨rfl, rfl, rfl, by simp [World.setCell], fun k hk => Below.heap_setCell w _ v k (by simp; omega)⟩⟩
theorem toks_put {n : Nat} {w : World} {g cap m : Nat} {D R : List ByteArray} {x y : ByteArray} (h : TokOf n w (.slice (some ⟨g, 0, none⟩) m cap) (D ++ x :: R)) (hm : m = (D ++ x :: R).length) : TokOf n (w.setCell ⟨g, D.length, none⟩ (.string y)) (.slice (some ⟨g, 0, none⟩) m cap) (D ++ [y] ++ R) := by
 subst hm
 have := (Kd.R_put h (D.length : Int) y).1
 rw [Int.toNat_natCast] at this
 have e : (D ++ x :: R).set D.length y = D ++ [y] ++ R := by simp
 rw [e] at this
 exact this
theorem AD.cells {w0 w : World} {a pm fm : Nat} {key val : ByteArray} {toks : List ByteArray} (h : AD w0 w a pm fm key val toks) : w.cell? ⟨a, 1, none⟩ = some (.string val) ∧ w.frozen? ⟨a, 1, none⟩ = false := by
 obtain ⟨tok, par, h1, h2⟩ := h
 exact ⟨h1.cells.1, h1.cells.2.2.2.1⟩
theorem AD.below {w0 w : World} {a pm fm : Nat} {key val : ByteArray} {toks : List ByteArray} (h : AD w0 w a pm fm key val toks) : Below w0.heap.size w0 w := by
 obtain ⟨tok, par, h1, h2⟩ := h
 exact h1.below
theorem MTurn.ofBelow {bs : List Nat} {a w : World} (h : Below a.heap.size a w) : MTurn bs a w :=
 ⟨h.os, h.tape, h.output, h.size, fun k hk _ => h.block k hk, fun k o hk _ => (h.block k (Array.getElem?_eq_some_iff.1 hk).1).trans hk⟩
/-- an assertion as it lies, without rules -/
def AsrAt (n : Nat) (w : World) (a pm fm : Nat) (key val : ByteArray) (toks : List ByteArray) : Prop :=
 ∃ tok par, w.heap[a]? = some (.cells (asrCells key val tok par (.slice none 0 0) (.map (some pm)) .nilIface (.map (some fm))) 109 (0, 0)) ∧ SM w pm [] ∧ SM w fm [] ∧ pm ≠ fm ∧ TokOf n w tok toks
def DefPost (w : World) (M : Nat) (st : MSt) (sec key val : ByteArray) (toks : List ByteArray) (e : Ending) (w' : World) : Prop :=
 e = .returned (.bool true) ∧ ∃ a pm fm nb, MM w' M (putM sec key nb a st) ∧ AsrAt w.heap.size w' a pm fm key val toks ∧ (w.heap.size ≤ a ∧ w.heap.size ≤ pm ∧ w.heap.size ≤ fm ∧ w.heap.size ≤ nb) ∧ MTurn (M :: st.map (·.2.1)) w w'
/-- maps of the model alone turn: the assertion lies as it did -/
theorem AD.at {w0 w w' : World} {a pm fm : Nat} {key val : ByteArray} {toks : List ByteArray} (h : AD w0 w a pm fm key val toks) (hk : ∀ (g : Nat) (cs : Array Value) (t : TypeId), w.heap[g]? = some (.cells cs t (0, 0)) → w'.heap[g]? = w.heap[g]?) (h1 : w'.heap[pm]? = w.heap[pm]?) (h2 : w'.heap[fm]? = w.heap[fm]?) : AsrAt w0.heap.size w' a pm fm key val toks := by
 obtain ⟨tok, par, hA, hT⟩ := h
 exact ⟨tok, par, (hk _ _ _ hA.blk).trans hA.blk, hA.mp.keep h1, hA.mf.keep h2, hA.ne, hT.keep (fun g cur hg => hk g cur _ hg)⟩
theorem AD.done_old {w0 w : World} {M a pm fm b : Nat} {sec key val : ByteArray} {toks : List ByteArray} {l : List (ByteArray × Nat)} {A B : MSt} {es : Array MapEntry} {c : Nat} (h : AD w0 w a pm fm key val toks) (h0 : MM w0 M (A ++ (sec, b, l) :: B)) (hM : MM (setO w b (.map es c)) M (putM sec key w0.heap.size a (A ++ (sec, b, l) :: B))) :
  DefPost w0 M (A ++ (sec, b, l) :: B) sec key val toks (.returned (.bool true)) (setO w b (.map es c)) := by
 have hb := h0.lt b (by simp)
 have hS := (h0.below h.below).sub (sec, b, l) (by simp)
 have hne : ∀ k, w0.heap.size ≤ k → k ≠ b := fun k hk e => by omega
 have hA := h
 obtain ⟨tok, par, hA, hT⟩ := hA
 refine ⟨rfl, a, pm, fm, w0.heap.size, hM, h.at (fun g cs t hg => setO_ne (fun e => ?_)) (setO_ne (hne _ hA.new.2.1)) (setO_ne (hne _ hA.new.2.2)), ⟨hA.new.1, hA.new.2.1, hA.new.2.2, Nat.le_refl _⟩, ?_⟩
 ·exact sm_ne_cells hS (e ▸ hg) rfl
 ·obtain ⟨es0, c0, hb0, _⟩ := hS
  exact (MTurn.ofBelow h.below).setO hb0 (.inl (by simp))
theorem AD.done_new {w0 w : World} {M a pm fm : Nat} {sec key val : ByteArray} {toks : List ByteArray} {st : MSt} {eo es : Array MapEntry} {co c : Nat} (h : AD w0 w a pm fm key val toks) (h0 : MM w0 M st) (hM : MM (setO (setO (w.alloc (.map #[] 0)) M (.map eo co)) w.heap.size (.map es c)) M (putM sec key w.heap.size a st)) :
  DefPost w0 M st sec key val toks (.returned (.bool true)) (setO (setO (w.alloc (.map #[] 0)) M (.map eo co)) w.heap.size (.map es c)) := by
 have hb := h0.lt M (by simp)
 have hS := (h0.below h.below).top
 have hsz := h.below.size
 have hA := h
 obtain ⟨tok, par, hA, hT⟩ := hA
 have key : ∀ k, k < w.heap.size → k ≠ M → (setO (setO (w.alloc (.map #[] 0)) M (.map eo co)) w.heap.size (.map es c)).heap[k]? = w.heap[k]? := fun k hk hne =>
  (setO_ne (by omega)).trans ((setO_ne hne).trans (heap_alloc_old w _ hk))
 refine ⟨rfl, a, pm, fm, w.heap.size, hM, h.at (fun g cs t hg => key g (Array.getElem?_eq_some_iff.1 hg).1 (fun e => ?_)) (key _ hA.mp.lt (by have := hA.new; omega)) (key _ hA.mf.lt (by have := hA.new; omega)), ⟨hA.new.1, hA.new.2.1, hA.new.2.2, hsz⟩, ?_⟩
 ·exact sm_ne_cells hS (e ▸ hg) rfl
 ·have h1 : MTurn (M :: st.map (·.2.1)) w0 (w.alloc (.map #[] 0)) := (MTurn.ofBelow h.below).alloc _
  obtain ⟨es0, c0, hb0, _⟩ := hS
  have hb1 : (w.alloc (.map #[] 0)).heap[M]? = some (.map es0 c0) := (heap_alloc_old w _ (by omega)).trans hb0
  refine (h1.setO hb1 (.inl (by simp))).setO (c := 0) (es := #[]) ?_ (.inr hsz)
  rw [setO_ne (by omega)]
  exact heap_alloc_new w _
end
/-! AddDef. -/
section
open Go.Proofs
def comB : ByteArray := ⟨#[44]⟩
def trimB (t : ByteArray) : ByteArray := ⟨(Lib.trimSpace t.data.toList).toArray⟩
def tokB (key t : ByteArray) : ByteArray := key ++ ⟨#[95]⟩ ++ trimB t
def toksB (key value : ByteArray) : List ByteArray := (splitB comB value.size value).map (tokB key)
set_option maxHeartbeats 4000000 in
set_option maxRecDepth 100000 in
theorem def_none (M : Nat) (sec key : ByteArray) (w : World) :
  Calls Tryz.prog 32 #[.map (some M), .string sec, .string key, .string ⟨#[]⟩] w fun e w' => e = .returned (.bool false) ∧ w' = w := by
 go_enter Tryz.func32, Tryz.ntmps32
 go_wp2
 go_ret
 exact ⟨rfl, rfl⟩
set_option maxHeartbeats 4000000 in
set_option maxRecDepth 100000 in
theorem def_em (M : Nat) (sec key value v1 v1b v2 v3 val : ByteArray) (bm bi : Bool) (w : World) (hv : value.size ≠ 0) (hr : (sec.toList == ([114] : List UInt8)) = false) (hp : (sec.toList == ([112] : List UInt8)) = false) (hg : (sec.toList == ([103] : List UInt8)) = false) (hm : (sec.toList == ([109] : List UInt8)) = bm)
  (hea : ∀ W, Calls Tryz.prog 55 #[.string value] W fun e w' => e = .returned (.string v1) ∧ Drawn0 W w') (hrc : ∀ W, Calls Tryz.prog 54 #[.string v1] W fun e w' => e = .returned (.string v1) ∧ Drawn0 W w')
  (hel : bm = true → ∀ W, Calls Tryz.prog 56 #[.string v1] W fun e w' => e = .returned (.string v1b) ∧ Below W.heap.size W w')
  (hco : bm = true → ∀ W, Calls Tryz.prog 57 #[.string v1b, .string ⟨#[105, 110]⟩] W fun e w' => e = .returned (.bool bi) ∧ Drawn0 W w')
  (hr1 : bm = true → bi = true → ∀ W, Calls Tryz.prog 58 #[.string v1b, .string ⟨#[91]⟩, .string ⟨#[40]⟩] W fun e w' => e = .returned (.string v2) ∧ Drawn0 W w')
  (hr2 : bm = true → bi = true → ∀ W, Calls Tryz.prog 58 #[.string v2, .string ⟨#[93]⟩, .string ⟨#[41]⟩] W fun e w' => e = .returned (.string v3) ∧ Drawn0 W w')
  (hval : val = if bm then (if bi then v3 else v1b) else v1) (st : MSt) (hMM : MM w M st) :
  Calls Tryz.prog 32 #[.map (some M), .string sec, .string key, .string value] w fun e w' => DefPost w M st sec key val [] e w' := by
 have HVAL := Aside0.mk hval
 have HEL := Aside0.mk hel
 have HCO := Aside0.mk hco
 have HR1 := Aside0.mk hr1
 have HR2 := Aside0.mk hr2
 clear hval hel hco hr1 hr2
 have hmm := @run_makeMap Tryz.prog
 obtain ⟨hb, hb0⟩ := notEmpty hv
 go_enter Tryz.func32, Tryz.ntmps32
 go_upto_region 8 with (fail)
 refine wp_world (fun W' => AW w W' w.heap.size (w.heap.size + 1) (w.heap.size + 1 + 1) key value (.slice none 0 0) (.slice none 0 0)) (AW.start w key value) ?_
 intro W hW
 have HW := Aside0.mk hW
 clear hW
 go_upto_if 29 with (fail)
 go_cut [10] from 30 to 79 (fun v10 wc => Aside0 (AD w wc w.heap.size (w.heap.size + 1) (w.heap.size + 1 + 1) key v1 []))
 case first =>
  obtain ⟨c1, c2, c3, f1, f2, f3⟩ := HW.out.cells
  go_wp2_with (first
   | (go_at_call 55; refine (hea _).mono ?_; rintro e w2 ⟨rfl, q, rfl⟩)
   | (go_at_call 54; refine (hrc _).mono ?_; rintro e w3 ⟨rfl, q2, rfl⟩))
  go_meet
  case rel => exact ⟨_, _, (HW.out.drew _).stored 1 _ rfl, TokOf.nil _ _⟩
 case rest =>
  have HC := hcut
  clear HW hcut
  go_upto_if 81 with (fail)
  go_cut [] from 82 to 93 (fun wc => Aside0 (AD w wc w.heap.size (w.heap.size + 1) (w.heap.size + 1 + 1) key val []))
  case first =>
   cases bm with
   | false =>
    go_wp2
    go_meet
    case rel => exact ⟨by rw [HVAL.out]; exact HC.out⟩
   | true =>
    have hel := HEL.out (by simp)
    obtain ⟨c1, f1⟩ := HC.out.cells
    go_upto_region 22 with (go_at_call 56; refine (hel _).mono ?_; rintro e w2 ⟨rfl, hb2⟩; have HA2 := Aside0.mk (HC.out.next hb2); clear hb2; obtain ⟨c21, f21⟩ := HA2.out.cells)
    have HA3 := Aside0.mk (HA2.out.value v1b)
    clear c1 f1 c21 f21 HC HA2
    generalize w2.setCell ⟨w.heap.size, 1, none⟩ (.string v1b) = W3 at HA3 ⊢
    obtain ⟨c1, f1⟩ := HA3.out.cells
    clear hel
    have hco := HCO.out (by simp)
    cases bi with
    | false =>
     go_wp2_with (go_at_call 57; refine (hco _).mono ?_; rintro e w4 ⟨rfl, q, rfl⟩)
     go_meet
     case rel => exact ⟨by rw [HVAL.out]; exact HA3.out.drew _⟩
    | true =>
     have hr1 := HR1.out (by simp) (by simp)
     have hr2 := HR2.out (by simp) (by simp)
     go_wp2_with (first
      | (go_at_call 57; refine (hco _).mono ?_; rintro e w4 ⟨rfl, q, rfl⟩)
      | (go_at_call 58; (first | (with_reducible refine (hr1 _).mono ?_) | (with_reducible refine (hr2 _).mono ?_)); rintro e w5 ⟨rfl, q5, rfl⟩))
     go_meet
     case rel => exact ⟨by rw [HVAL.out]; exact (HA3.out.drew _).value v3⟩
  case rest =>
   have HC := hcut
   clear hcut
   rcases mst_cases sec st with ⟨A, b, l, B, rfl, hA⟩ | hA
   ·have hM2 := hMM.below HC.out.below
    obtain ⟨hl, es, c, hu, hM3⟩ := hM2.add_old w.heap.size hA (key := key) (a := w.heap.size)
    have hl1 := hl true
    have hl2 := hl false
    simp only [if_true, Bool.false_eq_true, if_false] at hl1 hl2
    go_wp2
    go_ret
    exact HC.out.done_old hMM hM3
   ·have hM2 := hMM.below HC.out.below
    obtain ⟨hl1, o1, es, c, hu1, hl2, hu2, hM3, eo, co, rfl⟩ := hM2.add_new hA (key := key) (a := w.heap.size)
    go_wp2
    go_ret
    exact HC.out.done_new hMM hM3
set_option maxHeartbeats 4000000 in
set_option maxRecDepth 100000 in
theorem def_g (M : Nat) (sec key value : ByteArray) (w : World) (hv : value.size ≠ 0) (hr : (sec.toList == ([114] : List UInt8)) = false) (hp : (sec.toList == ([112] : List UInt8)) = false) (hg : (sec.toList == ([103] : List UInt8)) = true) (hm : (sec.toList == ([109] : List UInt8)) = false)
  (hpt : ∀ W, Calls Tryz.prog 53 #[.string value] W fun e w' => e = .returned (.slice none 0 0) ∧ Drawn0 W w') (hsz : value.size ≤ 100000)
  (st : MSt) (hMM : MM w M st) :
  Calls Tryz.prog 32 #[.map (some M), .string sec, .string key, .string value] w fun e w' => DefPost w M st sec key value (splitB comB value.size value) e w' := by
 have hmm := @run_makeMap Tryz.prog
 obtain ⟨hb, hb0⟩ := notEmpty hv
 go_enter Tryz.func32, Tryz.ntmps32
 go_upto_region 8 with (fail)
 refine wp_world (fun W' => AW w W' w.heap.size (w.heap.size + 1) (w.heap.size + 1 + 1) key value (.slice none 0 0) (.slice none 0 0)) (AW.start w key value) ?_
 intro W hW
 have HW := Aside0.mk hW
 clear hW
 go_upto_if 29 with (fail)
 go_cut [10] from 30 to 79 (fun v10 wc => Aside0 (AD w wc w.heap.size (w.heap.size + 1) (w.heap.size + 1 + 1) key value (splitB comB value.size value)))
 case first =>
  obtain ⟨c1, c2, c3, f1, f2, f3⟩ := HW.out.cells
  have hsp := fun W' => mz_split value comB W' (by omega) (by decide) (by decide)
  unfold comB at hsp
  go_upto_region 17 with (go_at_call 53; refine (hpt _).mono ?_; rintro e w2 ⟨rfl, q, rfl⟩)
  have HA2 := Aside0.mk ((HW.out.drew q).stored 3 (.slice none 0 0) rfl)
  clear c1 c2 c3 f1 f2 f3
  generalize (W.drewN q).setCell ⟨w.heap.size, 3, none⟩ (.slice none 0 0) = W2 at HA2 ⊢
  obtain ⟨c1, c2, c3, f1, f2, f3⟩ := HA2.out.cells
  have HSP := Aside0.mk (hsp W2)
  clear hsp
  go_upto_region 18 with (go_at_call 51; refine HSP.out.mono ?_; rintro e w2 ⟨v0, rfl, hR, hb2⟩; obtain ⟨g, cap, rfl, hg⟩ := own_blk hR (splitB_ne _ _ _); have HG := Aside0.mk hg; clear hg; have HR := Aside0.mk hR; have HA3 := Aside0.mk (HA2.out.next hb2); clear hb2 hR; obtain ⟨c21, c22, c23, f21, f22, f23⟩ := HA3.out.cells)
  have HA4 := Aside0.mk (HA3.out.stored 2 (.slice (some ⟨g, 0, none⟩) (splitB ⟨#[44]⟩ value.size value).length cap) rfl)
  have HT4 := Aside0.mk (HA3.out.toks (Kd.R_lower HR.out HA2.out.below.size))
  clear c1 c2 c3 f1 f2 f3 c21 c22 c23 f21 f22 f23 HR HA3 HA2
  generalize w2.setCell ⟨w.heap.size, 2, none⟩ (.slice (some ⟨g, 0, none⟩) (splitB ⟨#[44]⟩ value.size value).length cap) = W3 at HA4 HT4 ⊢
  obtain ⟨c1, c2, c3, f1, f2, f3⟩ := HA4.out.cells
  obtain ⟨L, hL⟩ : ∃ L, L = splitB ⟨#[44]⟩ value.size value := ⟨_, rfl⟩
  have hLl : L.length ≤ value.size + 1 := by rw [hL]; exact splitB_le _ _ _
  have HL := Aside0.mk hL
  rw [← hL] at HA4 HT4 c2
  have HLC := Aside0.mk (Kd.R_reads' HT4.out).2.1
  have hsl : ∀ W : World, (Instr.slice 25 (.slice (some ⟨g, 0, none⟩) L.length cap) none (some (.int .i64 (L.length : Int))) none).run Tryz.prog W = .ok (.slice (some ⟨g, 0, none⟩) L.length cap) W := fun W => slice_str g L.length cap L.length (by omega) HLC.out W
  clear hL
  go_wp2
  go_meet
  case rel => exact ⟨by rw [show splitB comB value.size value = L from HL.out.symm]; exact ⟨_, _, HA4.out.stored 2 _ rfl, HA4.out.toks HT4.out⟩⟩
 case rest =>
  have HC := hcut
  clear HW hcut
  rcases mst_cases sec st with ⟨A, b, l, B, rfl, hA⟩ | hA
  ·have hM2 := hMM.below HC.out.below
   obtain ⟨hl, es, c, hu, hM3⟩ := hM2.add_old w.heap.size hA (key := key) (a := w.heap.size)
   have hl1 := hl true
   have hl2 := hl false
   simp only [if_true, Bool.false_eq_true, if_false] at hl1 hl2
   go_wp2
   go_ret
   exact HC.out.done_old hMM hM3
  ·have hM2 := hMM.below HC.out.below
   obtain ⟨hl1, o1, es, c, hu1, hl2, hu2, hM3, eo, co, rfl⟩ := hM2.add_new hA (key := key) (a := w.heap.size)
   go_wp2
   go_ret
   exact HC.out.done_new hMM hM3
theorem mk109_lit (s : Nat → Value) : mkN 109 [] s = { tmps := #[s 0, s 1, s 2, s 3, s 4, s 5, s 6, s 7, s 8, s 9, s 10, s 11, s 12, s 13, s 14, s 15, s 16, s 17, s 18, s 19, s 20, s 21, s 22, s 23, s 24, s 25, s 26, s 27, s 28, s 29, s 30, s 31, s 32, s 33, s 34, s 35, s 36, s 37, s 38, s 39, s 40, s 41, s 42, s 43, s 44, s 45, s 46, s 47, s 48, s 49, s 50, s 51, s 52, s 53, s 54, s 55, s 56, s 57, s 58, s 59, s 60, s 61, s 62, s 63, s 64, s 65, s 66, s 67, s 68, s 69, s 70, s 71, s 72, s 73, s 74, s 75, s 76, s 77, s 78, s 79, s 80, s 81, s 82, s 83, s 84, s 85, s 86, s 87, s 88, s 89, s 90, s 91, s 92, s 93, s 94, s 95, s 96, s 97, s 98, s 99, s 100, s 101, s 102, s 103, s 104, s 105, s 106, s 107, s 108], defers := [] } := rfl
set_option maxHeartbeats 4000000 in
set_option maxRecDepth 100000 in
theorem def_rp (M : Nat) (sec key value : ByteArray) (br bp : Bool) (w : World) (hv : value.size ≠ 0) (hr : (sec.toList == ([114] : List UInt8)) = br) (hp : (sec.toList == ([112] : List UInt8)) = bp) (hm : (sec.toList == ([109] : List UInt8)) = false) (hbr : br = true ∨ br = false ∧ bp = true)
  (st : MSt) (hMM : MM w M st) (hsz : value.size ≤ 100000) (hks : key.size ≤ 100000) (hts : ∀ (x : ByteArray) (W : World), x ∈ splitB comB value.size value → Below w.heap.size w W → Calls Tryz.prog 52 #[.string x] W fun e w' => e = .returned (.string (trimB x)) ∧ Below W.heap.size W w') (htl : ∀ x ∈ splitB comB value.size value, (trimB x).size ≤ 100000) :
  Calls Tryz.prog 32 #[.map (some M), .string sec, .string key, .string value] w fun e w' => DefPost w M st sec key value (toksB key value) e w' := by
 have hmm := @run_makeMap Tryz.prog
 obtain ⟨hb, hb0⟩ := notEmpty hv
 rcases hbr with rfl | ⟨rfl, rfl⟩
 rotate_left
 all_goals
  go_enter Tryz.func32, Tryz.ntmps32
  go_upto_region 8 with (fail)
  refine wp_world (fun W' => AW w W' w.heap.size (w.heap.size + 1) (w.heap.size + 1 + 1) key value (.slice none 0 0) (.slice none 0 0)) (AW.start w key value) ?_
  intro W hW
  have HW := Aside0.mk hW
  clear hW
  go_upto_if 29 with (fail)
  go_cut [10] from 30 to 79 (fun v10 wc => Aside0 (AD w wc w.heap.size (w.heap.size + 1) (w.heap.size + 1 + 1) key value (toksB key value)))
  case first =>
   obtain ⟨c1, c2, c3, f1, f2, f3⟩ := HW.out.cells
   have hsp := mz_split value comB W (by omega) (by decide) (by decide)
   unfold comB at hsp
   go_upto_region 10 with (go_at_call 51; refine hsp.mono ?_; rintro e w2 ⟨v0, rfl, hR, hb2⟩; obtain ⟨g, cap, rfl, hg⟩ := own_blk hR (splitB_ne _ _ _); have HG := Aside0.mk hg; clear hg; have HR := Aside0.mk hR; have HA2 := Aside0.mk (HW.out.next hb2); clear hb2 hR; obtain ⟨c21, c22, c23, f21, f22, f23⟩ := HA2.out.cells)
   have HA3 := Aside0.mk (HA2.out.stored 2 (.slice (some ⟨g, 0, none⟩) (splitB comB value.size value).length cap) rfl)
   have HT3 := Aside0.mk (HA2.out.toks (Kd.R_lower HR.out HW.out.below.size))
   clear c1 c2 c3 f1 f2 f3 c21 c22 c23 f21 f22 f23 HR HA2
   obtain ⟨W3, hW3⟩ : ∃ x, x = w2.setCell ⟨w.heap.size, 2, none⟩ (.slice (some ⟨g, 0, none⟩) (splitB comB value.size value).length cap) := ⟨_, rfl⟩
   unfold comB at hW3 HT3 HA3
   rw [← hW3] at HA3 HT3 ⊢
   clear hW3
   obtain ⟨c1, c2, c3, f1, f2, f3⟩ := HA3.out.cells
   obtain ⟨L, hL⟩ : ∃ L, L = splitB comB value.size value := ⟨_, rfl⟩
   have hLl : L.length ≤ value.size + 1 := by rw [hL]; exact splitB_le _ _ _
   have HL := Aside0.mk hL
   have hL2 : splitB ⟨#[44]⟩ value.size value = L := hL.symm
   rw [hL2] at HA3 HT3 c2 ⊢
   clear hL hL2 hsp
   go_wp2
   go_loopw [10, 37] (fun v10 v37 wr => ∃ (i : Nat) (D R : List ByteArray), v37 = .int .i64 (i : Int) ∧ i = D.length ∧ i + R.length = L.length ∧ Aside0 (L = D ++ R) ∧ Aside0 (AW w wr w.heap.size (w.heap.size + 1) (w.heap.size + 1 + 1) key value (.slice (some ⟨g, 0, none⟩) L.length cap) (.slice none 0 0)) ∧ Aside0 (TokOf w.heap.size wr (.slice (some ⟨g, 0, none⟩) L.length cap) (D.map (tokB key) ++ R)))
    (fun v10 v37 _ => L.length - (intOf v37).toNat)
   case atStart => exact ⟨0, [], L, rfl, rfl, by simp, ⟨rfl⟩, HA3, HT3⟩
   case round =>
    clear HA3 HT3 c1 c2 c3 f1 f2 f3
    obtain ⟨i, D, R, rfl, hiD, hiR, HLR, HA, HT⟩ := hrel
    cases R with
    | nil =>
     have hlt : ¬ ((i : Int) < (L.length : Int)) := by simp at hiR; omega
     go_wp2
     go_meet
     case rel =>
      have hT := HT.out
      rw [List.append_nil] at hT
      have e : L.length = (D.map (tokB key)).length := by rw [List.length_map]; simp at hiR; omega
      rw [e] at hT
      refine ⟨_, _, HA.out, ?_⟩
      unfold toksB
      rw [← HL.out, show L.map (tokB key) = D.map (tokB key) from by rw [HLR.out, List.append_nil], e, List.length_map] 
      rw [List.length_map] at hT
      exact hT
    | cons x R =>
     have hlt : (i : Int) < (L.length : Int) := by simp at hiR; omega
     have hge : (0 : Int) ≤ (i : Int) := by omega
     have hxm : x ∈ splitB comB value.size value := by rw [← HL.out, HLR.out]; simp
     obtain ⟨c1, c2, c3, f1, f2, f3⟩ := HA.out.cells
     have cg : wr.cell? ⟨g, i, none⟩ = some (.string x) ∧ wr.frozen? ⟨g, i, none⟩ = false := by
      have hl : (D.map (tokB key) ++ x :: R).length = L.length := by rw [HLR.out]; simp
      have := Kd.R_cell ByteArray.empty (g := g) (cap := cap) (by rw [hl]; exact HT.out) (i : Int) hge (by rw [hl]; exact hlt)
      rw [Int.toNat_natCast] at this
      rw [this.1]
      refine ⟨?_, this.2⟩
      simp [rdOf, List.getD_eq_getElem?_getD, hiD]
     obtain ⟨cg, fg⟩ := cg
     have htx := htl x hxm
     go_upto_region 13 with (fail)
     have a1 := run_add_str key ⟨#[95]⟩ (by show key.size + 1 ≤ _; omega)
     have a2 : ∀ W : World, (binOp .add 9 (.string (key ++ ⟨#[95]⟩)) (.string (trimB x))).run Tryz.prog W = .ok (.string (tokB key x)) W := run_add_str (key ++ ⟨#[95]⟩) (trimB x) (by rw [ByteArray.size_append]; show key.size + 1 + _ ≤ _; omega)
     have ix := run_at_str g L.length cap i (by omega)
     have HID := Aside0.mk hiD
     clear hiD
     let PW : World → Prop := fun w' => Below wr.heap.size wr.drew w'
     have hP0 : ∀ w', PW w' → ∀ k, k < wr.heap.size → w'.heap[k]? = wr.heap[k]? := fun w' h k hk => h.block k hk
     have hP1 : ∀ w', PW w' → w'.cell? ⟨w.heap.size, 2, none⟩ = some (.slice (some ⟨g, 0, none⟩) L.length cap) ∧ w'.cell? ⟨g, i, none⟩ = some (.string x) := fun w' h => by
      have q1 := World.block_lt_of_cell? wr _ c2
      have q2 := World.block_lt_of_cell? wr _ cg
      refine ⟨?_, ?_⟩
      ·unfold World.cell? at c2 ⊢; rw [hP0 w' h _ q1]; exact c2
      ·unfold World.cell? at cg ⊢; rw [hP0 w' h _ q2]; exact cg
     have hts2 := hts x wr.drew hxm (show Below w.heap.size w wr.drew from ⟨HA.out.below.os, HA.out.below.tape, HA.out.below.output, HA.out.below.size, HA.out.below.block⟩)
     refine at_mkN (n := 109) (d := []) rfl rfl ?_
     refine region_once (by kernel_rfl) [40, 41, 42, 43, 44, 45, 46, 47, 48, 49, 50, 51, 52] (fun k_ => ([(.pointer (some ⟨w.heap.size, 2, none⟩)), (.slice (some ⟨g, 0, none⟩) L.length cap), (.int .i64 (i : Int)), (.string key), (.string (key ++ ⟨#[95]⟩)), (.pointer (some ⟨w.heap.size, 2, none⟩)), (.slice (some ⟨g, 0, none⟩) L.length cap), (.int .i64 (i : Int)), (.pointer (some ⟨g, i, none⟩)), (.string x), (.string (trimB x)), (.string (tokB key x)), (.pointer (some ⟨g, i, none⟩))] : List Value).getD k_ undef) 10 (PW) [[], [0], [], [], [3], [], [5], [], [6, 7], [8], [9], [4, 10], [1, 2, 0, 1, 2, 3, 4, 5, 6, 7, 8, 9, 10, 11], [12, 11, 10, 0, 1, 2, 3, 4, 5, 6, 7, 8, 9, 10, 11]] (by kernel_rfl) (by decide) rfl (by decide) (by decide) (by decide) (by decide) ?_ ?_ ?_
     ·intro i_ hi_ hic_ s_ W_ hW_ hs_
      have z2_ : W_.cell? ⟨w.heap.size, 2, none⟩ = some (.slice (some ⟨g, 0, none⟩) L.length cap) := by rcases hW_ with rfl | h_ <;> first | exact c2 | exact (hP1 _ h_).1
      have zg_ : W_.cell? ⟨g, i, none⟩ = some (.string x) := by rcases hW_ with rfl | h_ <;> first | exact cg | exact (hP1 _ h_).2
      clear hW_
      rcases (show i_ = 0 ∨ i_ = 1 ∨ i_ = 2 ∨ i_ = 3 ∨ i_ = 4 ∨ i_ = 5 ∨ i_ = 6 ∨ i_ = 7 ∨ i_ = 8 ∨ i_ = 9 ∨ i_ = 10 ∨ i_ = 11 ∨ i_ = 12 from by have : i_ < 13 := hi_; omega) with rfl | rfl | rfl | rfl | rfl | rfl | rfl | rfl | rfl | rfl | rfl | rfl | rfl
      ·refine ⟨_, rfl, rfl, fun _ => rfl, ?_⟩
       have g9_ : s_ 9 = _ := hs_.old 9 (by intro k hk e; first | exact absurd e (by revert k; decide) | (revert k; decide))
       clear hs_
       first | (simp [execOp, mkN_eval, Result.andThen, *]; done) | (go_simp; simp [mkN_get, Result.andThen, *]; done)
      ·refine ⟨_, rfl, rfl, fun _ => rfl, ?_⟩
       have g40_ : s_ 40 = (.pointer (some ⟨w.heap.size, 2, none⟩)) := hs_.got 0 (by decide) (by decide)
       clear hs_
       first | (simp [execOp, mkN_eval, Result.andThen, *]; done) | (go_simp; simp [mkN_get, Result.andThen, *]; done)
      ·refine ⟨_, rfl, rfl, fun _ => rfl, ?_⟩
       have g10_ : s_ 10 = _ := hs_.old 10 (by intro k hk e; first | exact absurd e (by revert k; decide) | (revert k; decide))
       clear hs_
       first | (simp [execOp, mkN_eval, Result.andThen, *]; done) | (go_simp; simp [mkN_get, Result.andThen, *]; done)
      ·refine ⟨_, rfl, rfl, fun _ => rfl, ?_⟩
       have g2_ : s_ 2 = _ := hs_.old 2 (by intro k hk e; first | exact absurd e (by revert k; decide) | (revert k; decide))
       clear hs_
       first | (simp [execOp, mkN_eval, Result.andThen, *]; done) | (go_simp; simp [mkN_get, Result.andThen, *]; done)
      ·refine ⟨_, rfl, rfl, fun _ => rfl, ?_⟩
       have g43_ : s_ 43 = (.string key) := hs_.got 3 (by decide) (by decide)
       clear hs_
       first | (simp [execOp, mkN_eval, Result.andThen, *]; done) | (go_simp; simp [mkN_get, Result.andThen, *]; done)
      ·refine ⟨_, rfl, rfl, fun _ => rfl, ?_⟩
       have g9_ : s_ 9 = _ := hs_.old 9 (by intro k hk e; first | exact absurd e (by revert k; decide) | (revert k; decide))
       clear hs_
       first | (simp [execOp, mkN_eval, Result.andThen, *]; done) | (go_simp; simp [mkN_get, Result.andThen, *]; done)
      ·refine ⟨_, rfl, rfl, fun _ => rfl, ?_⟩
       have g45_ : s_ 45 = (.pointer (some ⟨w.heap.size, 2, none⟩)) := hs_.got 5 (by decide) (by decide)
       clear hs_
       first | (simp [execOp, mkN_eval, Result.andThen, *]; done) | (go_simp; simp [mkN_get, Result.andThen, *]; done)
      ·refine ⟨_, rfl, rfl, fun _ => rfl, ?_⟩
       have g10_ : s_ 10 = _ := hs_.old 10 (by intro k hk e; first | exact absurd e (by revert k; decide) | (revert k; decide))
       clear hs_
       first | (simp [execOp, mkN_eval, Result.andThen, *]; done) | (go_simp; simp [mkN_get, Result.andThen, *]; done)
      ·refine ⟨_, rfl, rfl, fun _ => rfl, ?_⟩
       have g46_ : s_ 46 = (.slice (some ⟨g, 0, none⟩) L.length cap) := hs_.got 6 (by decide) (by decide)
       have g47_ : s_ 47 = (.int .i64 (i : Int)) := hs_.got 7 (by decide) (by decide)
       clear hs_
       first | (simp [execOp, mkN_eval, Result.andThen, *]; done) | (go_simp; simp [mkN_get, Result.andThen, *]; done)
      ·refine ⟨_, rfl, rfl, fun _ => rfl, ?_⟩
       have g48_ : s_ 48 = (.pointer (some ⟨g, i, none⟩)) := hs_.got 8 (by decide) (by decide)
       clear hs_
       first | (simp [execOp, mkN_eval, Result.andThen, *]; done) | (go_simp; simp [mkN_get, Result.andThen, *]; done)
      ·exact absurd rfl hic_
      ·refine ⟨_, rfl, rfl, fun _ => rfl, ?_⟩
       have g44_ : s_ 44 = (.string (key ++ ⟨#[95]⟩)) := hs_.got 4 (by decide) (by decide)
       have g50_ : s_ 50 = (.string (trimB x)) := hs_.got 10 (by decide) (by decide)
       clear hs_
       first | (simp [execOp, mkN_eval, Result.andThen, *]; done) | (go_simp; simp [mkN_get, Result.andThen, *]; done)
      ·refine ⟨_, rfl, rfl, fun _ => rfl, ?_⟩
       have g41_ : s_ 41 = (.slice (some ⟨g, 0, none⟩) L.length cap) := hs_.got 1 (by decide) (by decide)
       have g42_ : s_ 42 = (.int .i64 (i : Int)) := hs_.got 2 (by decide) (by decide)
       clear hs_
       first | (simp [execOp, mkN_eval, Result.andThen, *]; done) | (go_simp; simp [mkN_get, Result.andThen, *]; done)
     ·intro s_ hs_ K_ hK_
      have g49_ : s_ 49 = (.string x) := hs_.got 9 (by decide) (by decide)
      clear hs_
      refine wpOp_step rfl (fun K' hK => ?_)
      go_simp
      simp [mkN_get, g49_]
      go_wp2_with (go_at_call 52; refine hts2.mono ?_; rintro e w3 ⟨rfl, hPr⟩)
      exact hPr
     ·intro s_ W_ hP_ hv_ ho_
      have g51_ : s_ 51 = (.string (tokB key x)) := hv_ 11 (by decide)
      have g52_ : s_ 52 = (.pointer (some ⟨g, i, none⟩)) := hv_ 12 (by decide)
      have zg_ : W_.cell? ⟨g, i, none⟩ = some (.string x) := (hP1 _ hP_).2
      have zf_ : W_.frozen? ⟨g, i, none⟩ = false := by unfold World.frozen? at fg ⊢; rw [hP0 W_ hP_ g (World.block_lt_of_cell? wr _ cg)]; exact fg
      refine wpOp_step rfl (fun K' hK => ?_)
      go_simp
      simp [mkN_get, g51_, g52_, run_store1 zg_ zf_ (tokB key x)]
      show K' (mkN 109 [] s_) _
      refine hK _ _ ?_
      have HP := Aside0.mk (And.intro (hP0 W_ hP_) hP_)
      clear hv_ g51_ g52_ zg_ zf_ hP_ hP0 hP1 hK c1 c2 c3 f1 f2 f3 hts2 ix a1 a2
      rw [mk109_lit, ho_ 0 (by decide), ho_ 1 (by decide), ho_ 2 (by decide), ho_ 3 (by decide), ho_ 4 (by decide), ho_ 5 (by decide), ho_ 6 (by decide), ho_ 7 (by decide), ho_ 8 (by decide), ho_ 9 (by decide), ho_ 10 (by decide), ho_ 11 (by decide), ho_ 12 (by decide), ho_ 13 (by decide), ho_ 14 (by decide), ho_ 15 (by decide), ho_ 16 (by decide), ho_ 17 (by decide), ho_ 18 (by decide), ho_ 19 (by decide), ho_ 20 (by decide), ho_ 21 (by decide), ho_ 22 (by decide), ho_ 23 (by decide), ho_ 24 (by decide), ho_ 25 (by decide), ho_ 26 (by decide), ho_ 27 (by decide), ho_ 28 (by decide), ho_ 29 (by decide), ho_ 30 (by decide), ho_ 31 (by decide), ho_ 32 (by decide), ho_ 33 (by decide), ho_ 34 (by decide), ho_ 35 (by decide), ho_ 36 (by decide), ho_ 37 (by decide), ho_ 38 (by decide), ho_ 39 (by decide), ho_ 53 (by decide), ho_ 54 (by decide), ho_ 55 (by decide), ho_ 56 (by decide), ho_ 57 (by decide), ho_ 58 (by decide), ho_ 59 (by decide), ho_ 60 (by decide), ho_ 61 (by decide), ho_ 62 (by decide), ho_ 63 (by decide), ho_ 64 (by decide), ho_ 65 (by decide), ho_ 66 (by decide), ho_ 67 (by decide), ho_ 68 (by decide), ho_ 69 (by decide), ho_ 70 (by decide), ho_ 71 (by decide), ho_ 72 (by decide), ho_ 73 (by decide), ho_ 74 (by decide), ho_ 75 (by decide), ho_ 76 (by decide), ho_ 77 (by decide), ho_ 78 (by decide), ho_ 79 (by decide), ho_ 80 (by decide), ho_ 81 (by decide), ho_ 82 (by decide), ho_ 83 (by decide), ho_ 84 (by decide), ho_ 85 (by decide), ho_ 86 (by decide), ho_ 87 (by decide), ho_ 88 (by decide), ho_ 89 (by decide), ho_ 90 (by decide), ho_ 91 (by decide), ho_ 92 (by decide), ho_ 93 (by decide), ho_ 94 (by decide), ho_ 95 (by decide), ho_ 96 (by decide), ho_ 97 (by decide), ho_ 98 (by decide), ho_ 99 (by decide), ho_ 100 (by decide), ho_ 101 (by decide), ho_ 102 (by decide), ho_ 103 (by decide), ho_ 104 (by decide), ho_ 105 (by decide), ho_ 106 (by decide), ho_ 107 (by decide), ho_ 108 (by decide)]
      simp only [Array.getD_eq_getD_getElem?, List.getElem?_toArray, List.getElem?_cons_zero, List.getElem?_cons_succ, Option.getD_some]
      clear ho_
      generalize s_ = t_
      go_wp2
      go_roundw
      case rel =>
       have hb3 : Below wr.heap.size wr W_ := ⟨HP.out.2.os, HP.out.2.tape, HP.out.2.output, HP.out.2.size, HP.out.2.block⟩
       have hA3 := HA.out.next hb3
       have hT3 := HT.out.next hb3
       have hm : L.length = (D.map (tokB key) ++ x :: R).length := by rw [HLR.out]; simp
       have hi2 : (D.map (tokB key)).length = i := by rw [List.length_map]; exact HID.out.symm
       have hP := toks_put (y := tokB key x) hT3 hm
       rw [hi2] at hP
       refine ⟨i + 1, D ++ [x], R, by congr 1, by rw [List.length_append, ← HID.out]; rfl, by simp at hiR; omega, ⟨by rw [HLR.out]; simp⟩, ⟨hA3.other hT3 i _⟩, ⟨?_⟩⟩
       rw [List.map_append]
       exact hP
      case measure =>
       simp [intOf]
       omega
  case rest =>
   have HC := hcut
   clear HW hcut hts htl
   rcases mst_cases sec st with ⟨A, b, l, B, rfl, hA⟩ | hA
   ·have hM2 := hMM.below HC.out.below
    obtain ⟨hl, es, c, hu, hM3⟩ := hM2.add_old w.heap.size hA (key := key) (a := w.heap.size)
    have hl1 := hl true
    have hl2 := hl false
    simp only [if_true, Bool.false_eq_true, if_false] at hl1 hl2
    go_wp2
    go_ret
    exact HC.out.done_old hMM hM3
   ·have hM2 := hMM.below HC.out.below
    obtain ⟨hl1, o1, es, c, hu1, hl2, hu2, hM3, eo, co, rfl⟩ := hM2.add_new hA (key := key) (a := w.heap.size)
    go_wp2
    go_ret
    exact HC.out.done_new hMM hM3
end
/-! zzIndex. -/
section
open Go.Proofs
set_option maxHeartbeats 4000000 in
set_option maxRecDepth 100000 in
theorem uz_index (s sub : ByteArray) (w : World) (hs : s.size ≤ 1000000) (hb : sub.size ≤ 1000000) (hpos : 0 < sub.size) :
  Calls Tryz.prog 81 #[.string s, .string sub] w fun e w' => e = .returned (.int .i64 (idxV (findSub sub.data.toList s.data.toList))) ∧ w' = w := by
 go_enter Tryz.func81, Tryz.ntmps81
 go_wp2
 go_loop [5] (fun v3 => ∃ k : Nat, v3 = .int .i64 (k : Int) ∧ k ≤ s.size ∧ Aside0 (NoSub sub.data.toList s.data.toList k)) (fun v3 => s.size - (intOf v3).toNat)
 case atStart => exact ⟨0, rfl, Nat.zero_le _, ⟨noSub_zero _ _⟩⟩
 case round =>
  obtain ⟨k, rfl, hk, HN⟩ := hrel
  by_cases hlt : k + sub.size ≤ s.size
  ·obtain ⟨x, hx⟩ : ∃ x, x = s.extract k (k + sub.size) := ⟨_, rfl⟩
   have hsl : ∀ w : World, (Instr.slice 9 (.string s) (some (.int .i64 (k : Int))) (some (.int .i64 ((k : Int) + (sub.size : Int)))) none).run Tryz.prog w = .ok (.string x) w := by
    intro w
    rw [hx, show (k : Int) + (sub.size : Int) = ((k + sub.size : Nat) : Int) from by omega, run_slice_string w 9 s .i64 .i64 (k : Int) ((k + sub.size : Nat) : Int) Tryz.underlying9 (by omega) (by omega) (by omega), Int.toNat_natCast, Int.toNat_natCast]
   have HX := Aside0.mk hx
   clear hx
   have hpre : sub.data.toList.isPrefixOf (s.data.toList.drop k) = decide (x = sub) := by
    rw [prefix_take (by rw [List.length_drop, ba_list, ba_list]; omega), HX.out, ba_list]
    refine decide_eq_decide.2 ⟨fun e => ba_ext (by rw [ba_extract, Nat.add_sub_cancel_left]; exact e), fun e => ?_⟩
    have := congrArg (fun z : ByteArray => z.data.toList) e
    rw [ba_extract, Nat.add_sub_cancel_left] at this
    exact this
   have HP := Aside0.mk hpre
   clear hpre
   by_cases hxs : x = sub
   ·have HXS := Aside0.mk hxs
    have hb1 : (x.toList == sub.toList) = true := by rw [hxs]; simp
    clear hxs
    go_wp2
    go_ret
    refine ⟨?_, rfl⟩
    have h1 := HP.out
    rw [HXS.out, decide_eq_true rfl] at h1
    rw [findSub_at _ _ k HN.out h1 (by rw [ba_list]; omega)]
    rfl
   ·have HXS := Aside0.mk hxs
    have hb1 : (x.toList == sub.toList) = false := by
     rw [beq_eq_false_iff_ne]
     intro e
     rw [ByteArray.toList_eq, ByteArray.toList_eq] at e
     exact hxs (ba_ext e)
    clear hxs
    go_wp2
    go_round
    case rel =>
     refine ⟨k + 1, by go_num, by omega, ⟨fun j hj => ?_⟩⟩
     rcases Nat.lt_or_ge j k with h | h
     ·exact HN.out j h
     ·obtain rfl : j = k := by omega
      rw [HP.out, decide_eq_false HXS.out]
    case measure => simp [intOf]; omega
  ·have hlt2 : ¬ ((k : Int) + (sub.size : Int) ≤ (s.size : Int)) := by omega
   go_wp2
   go_ret
   refine ⟨?_, rfl⟩
   rw [findSub_none]
   ·rfl
   ·intro e; have := congrArg List.length e; rw [ba_list, List.length_nil] at this; omega
   ·intro j hj
    rcases Nat.lt_or_ge j k with h | h
    ·exact HN.out j h
    ·refine prefix_long ?_
     rw [ba_list] at hj
     rw [List.length_drop, ba_list, ba_list]
     omega
end
/-! Texts of assertions: RemoveComments, getParamsToken, EscapeStringLiterals, where they leave a text as it is. -/
section
open Go.Proofs
theorem findSub_one (c : UInt8) : ∀ (l : List UInt8), c ∉ l → findSub [c] l = none
 | [], _ => by simp [findSub]
 | b :: l, h => by
  unfold findSub
  have hb : ¬ c = b := fun e => h (by simp [e])
  have : ([c] : List UInt8).isPrefixOf (b :: l) = false := by simp [List.isPrefixOf, hb]
  rw [if_neg (by rw [this]; simp), findSub_one c l (fun e => h (List.mem_cons_of_mem _ e))]
  rfl
set_option maxHeartbeats 4000000 in
set_option maxRecDepth 100000 in
theorem remove_none (s : ByteArray) (w : World) (hs : s.size ≤ 1000000) (h : 35 ∉ s.data.toList) :
  Calls Tryz.prog 54 #[.string s] w fun e w' => e = .returned (.string s) ∧ Drawn0 w w' := by
 have hi := uz_index s ⟨#[35]⟩ w hs (by decide) (by decide)
 rw [show findSub (⟨#[35]⟩ : ByteArray).data.toList s.data.toList = none from findSub_one 35 _ h] at hi
 unfold idxV at hi
 clear h
 go_enter Tryz.func54, Tryz.ntmps54
 go_wp2_with (go_at_call 81; refine hi.mono ?_; rintro e w2 ⟨rfl, rfl⟩)
 go_ret
 exact ⟨rfl, Drawn0.refl _⟩
theorem byte_ne {s : ByteArray} {c : UInt8} (h : c ∉ s.data.toList) (i : Nat) (hi : i < s.size) : ¬ ((s[i]'hi).toNat : Int) = (c.toNat : Int) := by
 intro e
 apply h
 have h1 : (s[i]'hi) = c := by
  apply UInt8.toNat_inj.1
  omega
 rw [← h1]
 exact Array.getElem_mem_toList (xs := s.data) (i := i) hi
set_option maxHeartbeats 4000000 in
set_option maxRecDepth 100000 in
theorem params_none (s : ByteArray) (w : World) (hs : s.size ≤ 1000000) (h : 40 ∉ s.data.toList) :
  Calls Tryz.prog 78 #[.string s] w fun e w' => e = .returned (.string ⟨#[]⟩) ∧ Drawn0 w w' := by
 have H := Aside0.mk h
 clear h
 go_enter Tryz.func78, Tryz.ntmps78
 go_wp2
 go_loopw [3] (fun v3 wr => ∃ k : Nat, v3 = .int .i64 (k : Int) ∧ k ≤ s.size ∧ Drawn0 w wr) (fun v3 _ => s.size - (intOf v3).toNat)
 case atStart => exact ⟨0, rfl, Nat.zero_le _, Drawn0.refl _⟩
 case round =>
  obtain ⟨k, rfl, hk, m, rfl⟩ := hrel
  by_cases hlt : k < s.size
  ·have hlt2 : (k : Int) < (s.size : Int) := by omega
   have hb := byte_ne H.out k hlt
   have hb1 : ¬ ((s[k]'hlt).toNat : Int) = 40 := hb
   have hb2 : (((s[k]'hlt).toNat : Int) != 40) = true := by simpa using hb1
   go_wp2
   exact ⟨⟨k + 1, rfl, by omega, _, rfl⟩, by simp [intOf]; omega⟩
  ·have hlt2 : ¬ ((k : Int) < (s.size : Int)) := by omega
   go_wp2
   go_ret
   exact ⟨rfl, _, rfl⟩
set_option maxHeartbeats 4000000 in
set_option maxRecDepth 100000 in
theorem params_nil (s : ByteArray) (w : World) (hs : s.size ≤ 1000000) (h : 40 ∉ s.data.toList) :
  Calls Tryz.prog 53 #[.string s] w fun e w' => e = .returned (.slice none 0 0) ∧ Drawn0 w w' := by
 have hp := params_none s w hs h
 clear h
 go_enter Tryz.func53, Tryz.ntmps53
 go_wp2_with (go_at_call 78; refine hp.mono ?_; rintro e w2 ⟨rfl, m, rfl⟩)
 go_ret
 exact ⟨rfl, _, rfl⟩
end
/-! Numbers in decimal, small ones. -/
section
open Go.Proofs
theorem digit_of (n : Nat) (h : n < 10) : ∀ h' : n < (⟨#[48, 49, 50, 51, 52, 53, 54, 55, 56, 57, 97, 98, 99, 100, 101, 102, 103, 104, 105, 106, 107, 108, 109, 110, 111, 112, 113, 114, 115, 116, 117, 118, 119, 120, 121, 122]⟩ : ByteArray).size, ((⟨#[48, 49, 50, 51, 52, 53, 54, 55, 56, 57, 97, 98, 99, 100, 101, 102, 103, 104, 105, 106, 107, 108, 109, 110, 111, 112, 113, 114, 115, 116, 117, 118, 119, 120, 121, 122]⟩ : ByteArray)[n]'h') = digB n := by
 intro h'
 rcases (show n = 0 ∨ n = 1 ∨ n = 2 ∨ n = 3 ∨ n = 4 ∨ n = 5 ∨ n = 6 ∨ n = 7 ∨ n = 8 ∨ n = 9 from by omega) with rfl | rfl | rfl | rfl | rfl | rfl | rfl | rfl | rfl | rfl <;> rfl
theorem conv_at {w0 : Nat} {o : Nat} {l : List UInt8} {W : World} (h : ∀ j, j < l.length → W.cell? ⟨w0, o + j, none⟩ = some (.int .u8 ((numsOf l).getD j 0))) (c : Nat) : (convert 121 9 (.slice (some ⟨w0, o, none⟩) l.length c)).run Tryz.prog W = .ok (.string ⟨l.toArray⟩) W := Bytes.conv h c
set_option maxHeartbeats 4000000 in
set_option maxRecDepth 100000 in
theorem fmt_one (n : Nat) (h : n < 10) (w : World) :
  Calls Tryz.prog 152 #[.int .u64 (n : Int), .int .i64 10] w fun e w' => e = .returned (.string ⟨#[digB n]⟩) ∧ Below w.heap.size w w' := by
 have h1 : (n : Int) % 10 = n := by omega
 have h2 : (n : Int) / 10 = 0 := by omega
 have h3 : (n : Int) < 36 := by omega
 have h4 : n < 36 := by omega
 have hd := digit_of n h
 go_enter Tryz.func152, Tryz.ntmps152
 go_wp2
 refine wp_loop_rounds 2 ?_
 rw [rounds_succ]
 go_wp2
 rw [rounds_succ]
 go_upto_region 9 with (fail)
 refine wp_world (fun W => W.cell? ⟨w.heap.size, 63, none⟩ = some (.int .u8 ((digB n).toNat : Int)) ∧ Below w.heap.size w W) ⟨cell_of (heap_alloc_new w _) (i := 63) rfl, (Below.refl _ _).alloc (Nat.le_refl _) _⟩ ?_
 rintro W ⟨hc, hb⟩
 have HB := Aside0.mk hb
 have hcv := conv_at (w0 := w.heap.size) (o := 63) (l := [digB n]) (W := W) (fun j hj => by
  obtain rfl : j = 0 := by simpa using hj
  rw [Nat.add_zero, hc]
  simp [numsOf]) 1
 simp only [List.length_cons, List.length_nil, Nat.zero_add] at hcv
 clear hb hd
 go_wp2
 go_ret
 exact ⟨rfl, HB.out⟩
set_option maxHeartbeats 4000000 in
set_option maxRecDepth 100000 in
theorem fmt_two (n : Nat) (h : n < 10) (w : World) :
  Calls Tryz.prog 152 #[.int .u64 ((10 + n : Nat) : Int), .int .i64 10] w fun e w' => e = .returned (.string ⟨#[49, digB n]⟩) ∧ Below w.heap.size w w' := by
 have h1 : ((10 + n : Nat) : Int) % 10 = n := by omega
 have h2 : ((10 + n : Nat) : Int) / 10 = 1 := by omega
 have h3 : (n : Int) < 36 := by omega
 have h4 : n < 36 := by omega
 have hd := digit_of n h
 generalize hm : ((10 + n : Nat) : Int) = m at *
 have h5 : m < 100 := by omega
 have h6 : 0 ≤ m := by omega
 clear hm
 go_enter Tryz.func152, Tryz.ntmps152
 go_wp2
 refine wp_loop_rounds 3 ?_
 rw [rounds_succ]
 go_wp2
 rw [rounds_succ]
 go_wp2
 rw [rounds_succ]
 go_upto_region 9 with (fail)
 refine wp_world (fun W => W.cell? ⟨w.heap.size, 62, none⟩ = some (.int .u8 49) ∧ W.cell? ⟨w.heap.size, 63, none⟩ = some (.int .u8 ((digB n).toNat : Int)) ∧ Below w.heap.size w W) ⟨cell_of (heap_alloc_new w _) (i := 62) rfl, cell_of (heap_alloc_new w _) (i := 63) rfl, (Below.refl _ _).alloc (Nat.le_refl _) _⟩ ?_
 rintro W ⟨hc1, hc, hb⟩
 have HB := Aside0.mk hb
 have hcv := conv_at (w0 := w.heap.size) (o := 62) (l := [49, digB n]) (W := W) (fun j hj => by
  rcases (show j = 0 ∨ j = 1 from by simp at hj; omega) with rfl | rfl
  ·rw [Nat.add_zero, hc1]; rfl
  ·rw [hc]; simp [numsOf]) 2
 simp only [List.length_cons, List.length_nil, Nat.zero_add, Nat.reduceAdd] at hcv
 clear hb hd
 go_wp2
 go_ret
 exact ⟨rfl, HB.out⟩
set_option maxHeartbeats 4000000 in
set_option maxRecDepth 100000 in
theorem key_suffix (i : Nat) (h1 : 1 ≤ i) (h : i < 20) (w : World) :
  Calls Tryz.prog 116 #[.int .i64 (i : Int)] w fun e w' => e = .returned (.string (numB i)) ∧ Below w.heap.size w w' := by
 have hf : ¬ i = 1 → ∀ W, Calls Tryz.prog 152 #[.int .u64 (i : Int), .int .i64 10] W fun e w' => e = .returned (.string (numB i)) ∧ Below W.heap.size W w' := fun hi W => by
  unfold numB
  rw [if_neg (by omega)]
  by_cases g : i < 10
  ·rw [if_pos g]; exact fmt_one i g W
  ·rw [if_neg g]
   have := fmt_two (i - 10) (by omega) W
   rwa [show 10 + (i - 10) = i from by omega] at this
 by_cases hi : i = 1
 ·subst hi
  clear hf
  go_enter Tryz.func116, Tryz.ntmps116
  go_wp2
  go_ret
  exact ⟨rfl, Below.refl _ _⟩
 ·have hf2 := hf hi
  have hi2 : ¬ ((i : Int) = 1) := by omega
  have hi3 : ¬ ((i : Int) < 0) := by omega
  have hi4 : (i : Int) < 100 := by omega
  have hi5 : IntKind.u64.wrap (i : Int) = (i : Int) := by unfold IntKind.wrap; simp [IntKind.signed, IntKind.bits]; omega
  clear hf
  have hF : ∀ W, Calls Tryz.prog 145 #[.int .i64 (i : Int), .int .i64 10] W fun e w' => e = .returned (.string (numB i)) ∧ Below W.heap.size W w' := fun W => by
   go_enter Tryz.func145, Tryz.ntmps145
   go_wp2_with (go_at_call 152; refine (hf2 _).mono ?_; rintro e w2 ⟨rfl, hb⟩; have HB := Aside0.mk hb; clear hb)
   go_ret
   exact ⟨rfl, HB.out⟩
  have hI : ∀ W, Calls Tryz.prog 135 #[.int .i64 (i : Int)] W fun e w' => e = .returned (.string (numB i)) ∧ Below W.heap.size W w' := fun W => by
   go_enter Tryz.func135, Tryz.ntmps135
   go_wp2_with (go_at_call 145; refine (hF _).mono ?_; rintro e w2 ⟨rfl, hb⟩; have HB := Aside0.mk hb; clear hb)
   go_ret
   exact ⟨rfl, HB.out⟩
  go_enter Tryz.func116, Tryz.ntmps116
  go_wp2_with (go_at_call 135; refine (hI _).mono ?_; rintro e w2 ⟨rfl, hb⟩; have HB := Aside0.mk hb; clear hb)
  go_ret
  exact ⟨rfl, HB.out⟩
end
/-! A region that draws its order, in which two operations call, one behind the other, the last one comes last, and the others only read. -/
section
variable {P : Program} {ops : Array Oper} {Q : Exit → Act → World → Prop}
theorem region_twice {n id : Nat} {d : List Deferred} {t : Nat → Value} {w : World} (hm : P.follows .mixedOrders = true) (D : List Nat) (V : Nat → Value) (c c2 : Nat) (Pw Px : World → Prop) (T : List (List Nat))
  (hT : (List.range ops.size).map (fun i => match ops[i]? with | some o => o.after.toList.filterMap (fun e => if Region.binds .any e = true then some e.on else none) | none => []) = T)
  (hlow : (T.zipIdx.all fun p => p.1.all fun n => decide (n < p.2)) = true)
  (hsz : ops.size = D.length + 1) (hD : ∀ i, i < D.length → ∀ k, k < D.length → D.getD i 0 = D.getD k 0 → i = k) (hfull : ∀ k, k < D.length → k ∈ T.getD D.length []) (hc : c < D.length) (hc2 : c2 < D.length) (h12 : c ∈ T.getD c2 []) (hcc : c ≠ c2) (hDn : ∀ k, k < D.length → D.getD k 0 < n)
  (hpure : ∀ i, i < D.length → i ≠ c → i ≠ c2 → ∀ s W, ((c ∉ T.getD i [] ∧ W = w.drew) ∨ (c2 ∉ T.getD i [] ∧ Pw W) ∨ Px W) → Seen D V T t i s → ∃ o, ops[i]? = some o ∧ o.dst = some (D.getD i 0) ∧ (∀ a : Act, Region.wanted o (yielded ops a.tmps) = true) ∧ (execOp (mkN n d s).eval o).run P W = .ok (.value (V i)) W)
  (hcall : ∀ s, Seen D V T t c s → ∀ K : Act → World → Prop, (∀ W, Pw W → K (mkN n d (updN s (D.getD c 0) (V c))) W) → wpOp P ops Q c K (mkN n d s) w.drew)
  (hcall2 : ∀ s W, Pw W → Seen D V T t c2 s → ∀ K : Act → World → Prop, (∀ W', Px W' → K (mkN n d (updN s (D.getD c2 0) (V c2))) W') → wpOp P ops Q c2 K (mkN n d s) W)
  (hlast : ∀ s W, Px W → (∀ k, k < D.length → s (D.getD k 0) = V k) → (∀ j, j ∉ D → s j = t j) → wpOp P ops Q D.length (fun a W => Q .normal a W) (mkN n d s) W) :
  (Code.region id ops true).wp P Q (mkN n d t) w := by
 have hinj : ∀ i k, i < D.length → k < D.length → D.getD i 0 = D.getD k 0 → i = k := fun i k hi hk e => hD i hi k hk e
 let J : Array Bool → Act → World → Prop := fun L a W =>
  (hasL_ L D.length = true ∧ (∀ k, k < D.length → hasL_ L k = true) ∧ Q .normal a W) ∨
  (hasL_ L D.length = false ∧ ∃ s, a = mkN n d s ∧ (∀ k, k < D.length → hasL_ L k = true → s (D.getD k 0) = V k) ∧ (∀ j, (∀ k, k < D.length → D.getD k 0 = j → hasL_ L k = false) → s j = t j) ∧
   (hasL_ L c = false → W = w.drew) ∧ (hasL_ L c = true → hasL_ L c2 = false → Pw W) ∧ (hasL_ L c2 = true → Px W) ∧ (∀ j k, k ∈ T.getD j [] → hasL_ L j = true → hasL_ L k = true))
 have hz : ∀ j, hasL_ (Array.replicate ops.size false) j = false := by
  intro j
  unfold hasL_
  rw [Array.getD_eq_getD_getElem?, Array.getElem?_replicate]
  split <;> rfl
 refine region_inv hm J T hT hlow ?_ ?_ ?_
 ·refine .inr ⟨hz _, t, rfl, fun k _ h => ?_, fun _ _ => rfl, fun _ => rfl, fun h => ?_, fun h => ?_, fun j k _ h => ?_⟩ <;> (rw [hz] at h; cases h)
 ·intro L a W i hL hi hn hneed hJ
  have hself : hasL_ (L.setIfInBounds i true) i = true := by rw [hasL_set (by omega), if_pos rfl]
  have hoth : ∀ j, j ≠ i → hasL_ (L.setIfInBounds i true) j = hasL_ L j := fun j hj => by rw [hasL_set (by omega), if_neg hj]
  rcases hJ with ⟨h1, h2, _⟩ | ⟨h1, s, rfl, hv, hf, hw0, hw1, hw2, hcl⟩
  ·exfalso
   rcases Nat.lt_or_ge i D.length with g | g
   ·rw [h2 i g] at hn; cases hn
   ·obtain rfl : i = D.length := by omega
    rw [h1] at hn; cases hn
  ·by_cases g : i = D.length
   ·subst g
    have hall : ∀ k, k < D.length → hasL_ L k = true := fun k hk => hneed k (hfull k hk)
    refine wpOp_mono (fun a' W' hq => .inl ⟨hself, fun k hk => ?_, hq⟩) (hlast s W (hw2 (hall c2 hc2)) (fun k hk => hv k hk (hall k hk)) (fun j hj => hf j (fun k hk e => ?_)))
    ·rw [hoth k (by omega)]; exact hall k hk
    ·exfalso
     apply hj
     rw [← e, List.getD_eq_getElem?_getD, List.getElem?_eq_getElem hk]
     exact List.getElem_mem hk
   ·have hi2 : i < D.length := by omega
    have hseen : Seen D V T t i s := by
     refine ⟨fun k hk hkT => hv k hk (hneed k hkT), fun j hj => hf j (fun k hk e => ?_)⟩
     cases hb : hasL_ L k with
     | false => rfl
     | true => rw [hcl k i (hj k hk e) hb] at hn; cases hn
    have hnext : ∀ W', (hasL_ (L.setIfInBounds i true) c = false → W' = w.drew) → (hasL_ (L.setIfInBounds i true) c = true → hasL_ (L.setIfInBounds i true) c2 = false → Pw W') → (hasL_ (L.setIfInBounds i true) c2 = true → Px W') → J (L.setIfInBounds i true) (mkN n d (updN s (D.getD i 0) (V i))) W' := by
     intro W' z0 z1 z2
     refine .inr ⟨by rw [hoth _ (fun e => g e.symm)]; exact h1, _, rfl, fun k hk hl => ?_, fun j hj => ?_, z0, z1, z2, fun j k hk hl => ?_⟩
     ·by_cases e : k = i
      ·subst e; exact updN_self _ _ _
      ·rw [updN_ne (fun z => e (hinj k i hk hi2 z))]
       rw [hoth k e] at hl
       exact hv k hk hl
     ·have hne : j ≠ D.getD i 0 := by
       rintro rfl
       have := hj i hi2 rfl
       rw [hself] at this; cases this
      rw [updN_ne hne]
      refine hf j (fun k hk e => ?_)
      have h3 := hj k hk e
      by_cases e2 : k = i
      ·subst e2; exact absurd e.symm hne
      ·rwa [hoth k e2] at h3
     ·by_cases e : k = i
      ·rw [e]; exact hself
      ·rw [hoth k e]
       by_cases e2 : j = i
       ·rw [e2] at hk; exact hneed k hk
       ·rw [hoth j e2] at hl; exact hcl j k hk hl
    by_cases hic : i = c
    ·subst hic
     have hW := hw0 hn
     subst hW
     have hn2 : hasL_ L c2 = false := by
      cases hb : hasL_ L c2 with
      | false => rfl
      | true => rw [hcl c2 i h12 hb] at hn; cases hn
     refine hcall s hseen _ (fun W' hP => hnext W' (fun z => ?_) (fun _ _ => hP) (fun z => ?_))
     ·rw [hself] at z; cases z
     ·rw [hoth c2 (fun e => hcc e.symm), hn2] at z; cases z
    ·have hci : c ≠ i := fun z => hic z.symm
     by_cases hic2 : i = c2
     ·subst hic2
      have hc1 : hasL_ L c = true := hneed c h12
      refine hcall2 s W (hw1 hc1 hn) hseen _ (fun W' hP => hnext W' (fun z => ?_) (fun _ z => ?_) (fun _ => hP))
      ·rw [hoth c hci, hc1] at z; cases z
      ·rw [hself] at z; cases z
     ·have hci2 : c2 ≠ i := fun z => hic2 z.symm
      have hWc : (c ∉ T.getD i [] ∧ W = w.drew) ∨ (c2 ∉ T.getD i [] ∧ Pw W) ∨ Px W := by
       cases hb : hasL_ L c with
       | false => exact .inl ⟨fun h => (by rw [hneed c h] at hb; cases hb), hw0 hb⟩
       | true =>
        cases hb2 : hasL_ L c2 with
        | false => exact .inr (.inl ⟨fun h => (by rw [hneed c2 h] at hb2; cases hb2), hw1 hb hb2⟩)
        | true => exact .inr (.inr (hw2 hb2))
      obtain ⟨o, ho, hod, how, hrun⟩ := hpure i hi2 hic hic2 s W hWc hseen
      refine YieldsIf.wpOp (S := fun x => x = W) ho (v := V i) (.inl ⟨how _, fun x hx => by rw [hx]; exact hrun⟩) rfl ?_
      rw [hod, mkN_put _ _ _ (hDn i hi2)]
      exact hnext W (fun z => hw0 (by rwa [hoth c hci] at z)) (fun z z2 => hw1 (by rwa [hoth c hci] at z) (by rwa [hoth c2 hci2] at z2)) (fun z => hw2 (by rwa [hoth c2 hci2] at z))
 ·intro L a W hL hall hJ
  rcases hJ with ⟨_, _, hq⟩ | ⟨h1, _⟩
  ·exact hq
  ·rw [hall D.length (by omega)] at h1; cases h1
end
/-! loadAssertion. -/
section
open Go.Proofs
theorem mk26_lit (s : Nat → Value) : mkN 26 [] s = { tmps := #[s 0, s 1, s 2, s 3, s 4, s 5, s 6, s 7, s 8, s 9, s 10, s 11, s 12, s 13, s 14, s 15, s 16, s 17, s 18, s 19, s 20, s 21, s 22, s 23, s 24, s 25], defers := [] } := rfl
theorem nil_ahead (p n : Nat) (W : World) : (nilAhead (n + 1) 141 (.pointer (some ⟨p, 0, none⟩)) "String").run Tryz.prog W = .ok (some false) W := by kernel_rfl
set_option maxHeartbeats 4000000 in
set_option maxRecDepth 100000 in
theorem load_assertion (M p m : Nat) (cst : Secs) (sec name key v : ByteArray) (w : World) (hC : ConfIs w p m cst) (hl : ∃ j, lookS sec secTabV 0 = some (j, .string name)) (hk : lowKey (name ++ colons ++ key) = true) (hsz : name.size + key.size ≤ 100000) (hv : getConf (confOf cst) (name ++ colons ++ key) = v) (b : Bool) (R : World → World → Prop)
  (hAD : ∀ W, Below w.heap.size w W → Calls Tryz.prog 32 #[.map (some M), .string sec, .string key, .string v] W fun e w' => e = .returned (.bool b) ∧ R W w') :
  Calls Tryz.prog 115 #[.map (some M), .iface 141 (.pointer (some ⟨p, 0, none⟩)), .string sec, .string key] w fun e w' => e = .returned (.bool b) ∧ ∃ W, Below w.heap.size w W ∧ R W w' := by
 obtain ⟨j, hj⟩ := hl
 have hlk : ∀ W : World, SM W w.heap.size secTabV → (Instr.lookup 119 (.map (some w.heap.size)) (.string sec) false).run Tryz.prog W = .ok (.string name) W := fun W h => h.look uM1 uMs hj false
 have a1 : ∀ W : World, (binOp .add 9 (.string name) (.string ⟨#[58, 58]⟩)).run Tryz.prog W = .ok (.string (name ++ colons)) W := run_add_str name ⟨#[58, 58]⟩ (by show name.size + 2 ≤ _; omega)
 have hna := nil_ahead p
 have hst : ∀ W, Below w.heap.size w W → Calls Tryz.prog 178 #[.pointer (some ⟨p, 0, none⟩), .string (name ++ colons ++ key)] W fun e w' => e = .returned (.string v) ∧ Below W.heap.size W w' := fun W hb => by
  have := conf_String (conf_below hC hb) (name ++ colons ++ key) hk
  rwa [hv] at this
 clear hC hv
 have a2 := run_add_str (name ++ colons) key (by rw [ByteArray.size_append]; show name.size + 2 + _ ≤ _; omega)
 go_enter Tryz.func115, Tryz.ntmps115
 go_upto_region 1 with (fail)
 let PW : World → Prop := fun W => SM W w.heap.size secTabV ∧ Below w.heap.size w W
 refine at_mkN (n := 26) (d := []) rfl rfl ?_
 refine region_twice (by kernel_rfl) [10, 11, 12, 13, 14, 15, 16, 17, 18, 19, 20] (fun k_ => ([(.iface 141 (.pointer (some ⟨p, 0, none⟩))), (.map (some w.heap.size)), (.string sec), (.string name), (.string (name ++ colons)), (.string key), (.string (name ++ colons ++ key)), (.func (.method "String") #[.iface 141 (.pointer (some ⟨p, 0, none⟩))] #[]), (.func (.method "String") #[.iface 141 (.pointer (some ⟨p, 0, none⟩))] #[]), (.iface 141 (.pointer (some ⟨p, 0, none⟩))), (.string v)] : List Value).getD k_ undef) 1 10 (PW) (PW) [[], [], [], [1, 2], [3], [], [4, 5], [0], [7], [0, 7, 8], [9, 6, 1], [10, 10, 0, 1, 2, 3, 4, 5, 6, 7, 8, 9, 10]] (by kernel_rfl) (by decide) rfl (by decide) (by decide) (by decide) (by decide) (by decide) (by decide) (by decide) ?_ ?_ ?_ ?_
 ·intro i_ hi_ hic_ hic2_ s_ W_ hW_ hs_
  rcases (show i_ = 0 ∨ i_ = 1 ∨ i_ = 2 ∨ i_ = 3 ∨ i_ = 4 ∨ i_ = 5 ∨ i_ = 6 ∨ i_ = 7 ∨ i_ = 8 ∨ i_ = 9 ∨ i_ = 10 from by have : i_ < 11 := hi_; omega) with rfl | rfl | rfl | rfl | rfl | rfl | rfl | rfl | rfl | rfl | rfl
  ·refine ⟨_, rfl, rfl, fun _ => rfl, ?_⟩
   have g1_ : s_ 1 = _ := hs_.old 1 (by intro k hk e; first | exact absurd e (by revert k; decide) | (revert k; decide))
   clear hs_ hW_
   first | (simp [execOp, mkN_eval, Result.andThen, *]; done) | (go_simp; simp [mkN_get, Result.andThen, *]; done)
  ·exact absurd rfl hic_
  ·refine ⟨_, rfl, rfl, fun _ => rfl, ?_⟩
   have g2_ : s_ 2 = _ := hs_.old 2 (by intro k hk e; first | exact absurd e (by revert k; decide) | (revert k; decide))
   clear hs_ hW_
   first | (simp [execOp, mkN_eval, Result.andThen, *]; done) | (go_simp; simp [mkN_get, Result.andThen, *]; done)
  ·refine ⟨_, rfl, rfl, fun _ => rfl, ?_⟩
   have g11_ : s_ 11 = (.map (some w.heap.size)) := hs_.got 1 (by decide) (by decide)
   have g12_ : s_ 12 = (.string sec) := hs_.got 2 (by decide) (by decide)
   have zl_ := hlk W_ (by rcases hW_ with ⟨h_, _⟩ | ⟨_, h_⟩ | h_ <;> first | exact absurd (by decide) h_ | exact h_.1)
   clear hs_ hW_
   first | (simp [execOp, mkN_eval, Result.andThen, *]; done) | (go_simp; simp [mkN_get, Result.andThen, *]; done)
  ·refine ⟨_, rfl, rfl, fun _ => rfl, ?_⟩
   have g13_ : s_ 13 = (.string name) := hs_.got 3 (by decide) (by decide)
   clear hs_ hW_
   first | (simp [execOp, mkN_eval, Result.andThen, *]; done) | (go_simp; simp [mkN_get, Result.andThen, *]; done)
  ·refine ⟨_, rfl, rfl, fun _ => rfl, ?_⟩
   have g3_ : s_ 3 = _ := hs_.old 3 (by intro k hk e; first | exact absurd e (by revert k; decide) | (revert k; decide))
   clear hs_ hW_
   first | (simp [execOp, mkN_eval, Result.andThen, *]; done) | (go_simp; simp [mkN_get, Result.andThen, *]; done)
  ·refine ⟨_, rfl, rfl, fun _ => rfl, ?_⟩
   have g14_ : s_ 14 = (.string (name ++ colons)) := hs_.got 4 (by decide) (by decide)
   have g15_ : s_ 15 = (.string key) := hs_.got 5 (by decide) (by decide)
   clear hs_ hW_
   first | (simp [execOp, mkN_eval, Result.andThen, *]; done) | (go_simp; simp [mkN_get, Result.andThen, *]; done)
  ·refine ⟨_, rfl, rfl, fun _ => rfl, ?_⟩
   have g10_ : s_ 10 = (.iface 141 (.pointer (some ⟨p, 0, none⟩))) := hs_.got 0 (by decide) (by decide)
   clear hs_ hW_
   first | (simp [execOp, mkN_eval, Result.andThen, *]; done) | (go_simp; simp [mkN_get, Result.andThen, *]; done)
  ·refine ⟨_, rfl, rfl, fun _ => rfl, ?_⟩
   have g17_ : s_ 17 = (.func (.method "String") #[.iface 141 (.pointer (some ⟨p, 0, none⟩))] #[]) := hs_.got 7 (by decide) (by decide)
   clear hs_ hW_
   first | (simp [execOp, mkN_eval, Result.andThen, *]; done) | (go_simp; simp [mkN_get, Result.andThen, *]; done)
  ·refine ⟨_, rfl, rfl, fun _ => rfl, ?_⟩
   have g10_ : s_ 10 = (.iface 141 (.pointer (some ⟨p, 0, none⟩))) := hs_.got 0 (by decide) (by decide)
   clear hs_ hW_
   first | (simp [execOp, mkN_eval, Result.andThen, *]; done) | (go_simp; simp [mkN_get, Result.andThen, *]; done)
  ·exact absurd rfl hic2_
 ·intro s_ hs_ K_ hK_
  clear hs_
  refine wpOp_step rfl (fun K' hK => ?_)
  go_simp
  go_wp2_with (go_at_call 90; refine (sec_names w.drew).mono ?_; rintro e w3 ⟨rfl, hS, hb, _⟩)
  exact ⟨hS, ⟨hb.os, hb.tape, hb.output, hb.size, hb.block⟩⟩
 ·intro s_ W_ hP_ hs_ K_ hK_
  have g16_ : s_ 16 = (.string (name ++ colons ++ key)) := hs_.got 6 (by decide) (by decide)
  have g19_ : s_ 19 = (.iface 141 (.pointer (some ⟨p, 0, none⟩))) := hs_.got 9 (by decide) (by decide)
  clear hs_
  refine wpOp_step rfl (fun K' hK => ?_)
  go_simp
  simp [mkN_get, g16_, g19_]
  go_invoke
  go_wp2_with (go_at_call 178; refine (hst W_ hP_.2).mono ?_; rintro e w3 ⟨rfl, hb⟩)
  exact ⟨hP_.1.below hb, hP_.2.trans (hb.mono hP_.2.size)⟩
 ·intro s_ W_ hP_ hv_ ho_
  have g20_ : s_ 20 = (.string v) := hv_ 10 (by decide)
  refine YieldsIf.wpOp (S := fun x => x = W_) (v := (.string v)) rfl (Or.inl ⟨rfl, fun x hx => by simp [execOp, mkN_eval, g20_]⟩) rfl ?_
  show Exit.then _ _ .normal ((mkN 26 [] s_).put (some 9) _) W_
  rw [mkN_put _ _ _ (by decide)]
  have hAD2 := hAD W_ hP_.2
  have HP := Aside0.mk hP_
  clear hP_ hlk a1 a2 hst hAD hna
  rw [mk26_lit, updN_ne (show 0 ≠ 9 by decide), updN_ne (show 1 ≠ 9 by decide), updN_ne (show 2 ≠ 9 by decide), updN_ne (show 3 ≠ 9 by decide), updN_ne (show 4 ≠ 9 by decide), updN_ne (show 5 ≠ 9 by decide), updN_ne (show 6 ≠ 9 by decide), updN_ne (show 7 ≠ 9 by decide), updN_ne (show 8 ≠ 9 by decide), updN_ne (show 10 ≠ 9 by decide), updN_ne (show 11 ≠ 9 by decide), updN_ne (show 12 ≠ 9 by decide), updN_ne (show 13 ≠ 9 by decide), updN_ne (show 14 ≠ 9 by decide), updN_ne (show 15 ≠ 9 by decide), updN_ne (show 16 ≠ 9 by decide), updN_ne (show 17 ≠ 9 by decide), updN_ne (show 18 ≠ 9 by decide), updN_ne (show 19 ≠ 9 by decide), updN_ne (show 20 ≠ 9 by decide), updN_ne (show 21 ≠ 9 by decide), updN_ne (show 22 ≠ 9 by decide), updN_ne (show 23 ≠ 9 by decide), updN_ne (show 24 ≠ 9 by decide), updN_ne (show 25 ≠ 9 by decide), updN_self, ho_ 0 (by decide), ho_ 1 (by decide), ho_ 2 (by decide), ho_ 3 (by decide), ho_ 4 (by decide), ho_ 5 (by decide), ho_ 6 (by decide), ho_ 7 (by decide), ho_ 8 (by decide), ho_ 21 (by decide), ho_ 22 (by decide), ho_ 23 (by decide), ho_ 24 (by decide), ho_ 25 (by decide)]
  simp only [Array.getD_eq_getD_getElem?, List.getElem?_toArray, List.getElem?_cons_zero, List.getElem?_cons_succ, Option.getD_some]
  clear hv_ ho_ g20_
  generalize s_ = t_
  go_wp2_with (go_at_call 32; refine hAD2.mono ?_; rintro e w5 ⟨rfl, hR⟩; have HR := Aside0.mk hR; clear hR)
  go_ret
  exact ⟨rfl, W_, HP.out.2, HR.out⟩
end
/-! What AddDef keeps of an assertion, by its section. -/
section
open Go.Proofs
abbrev Asr := ByteArray × List ByteArray
def smallB (v : ByteArray) : Bool := v.data.toList.all (fun b => decide (b.toNat < 128)) && decide (v.size ≤ 100000)
def cookEM (k : Nat) (m : Bool) (v : ByteArray) : Option ByteArray :=
 (util_EscapeAssertion.f k v).bind fun v1 => if 35 ∈ v1.data.toList ∨ 1000000 < v1.size then none else
  if m then (util_EscapeStringLiterals.f k v1).bind fun v2 => (model_zzContains.f k v2 ⟨#[105, 110]⟩).bind fun b => if b then (model_zzReplace.f k v2 ⟨#[91]⟩ ⟨#[40]⟩).bind fun v3 => model_zzReplace.f k v3 ⟨#[93]⟩ ⟨#[41]⟩ else some v2
  else some v1
/-- the value and the texts that are kept of a section's assertion; none: nothing is said -/
def cook (k : Nat) (sec key v : ByteArray) : Option Asr :=
 if smallB v = false ∨ 100000 < key.size ∨ v.size = 0 then none else
 if sec = ⟨#[114]⟩ ∨ sec = ⟨#[112]⟩ then some (v, toksB key v) else
 if sec = ⟨#[103]⟩ then (if 40 ∈ v.data.toList then none else some (v, splitB comB v.size v)) else
 if sec = ⟨#[101]⟩ then (cookEM k false v).map fun x => (x, []) else
 if sec = ⟨#[109]⟩ then (cookEM k true v).map fun x => (x, []) else none
theorem splitB_mem (sep : ByteArray) : ∀ (n : Nat) (s x : ByteArray), x ∈ splitB sep n s → x.size ≤ s.size ∧ ∀ b ∈ x.data.toList, b ∈ s.data.toList
 | 0, s, x, h => by
  obtain rfl := List.mem_singleton.1 h
  exact ⟨Nat.le_refl _, fun _ h => h⟩
 | n + 1, s, x, h => by
  unfold splitB at h
  cases hf : findSub sep.data.toList s.data.toList with
  | none =>
   rw [hf] at h
   obtain rfl := List.mem_singleton.1 h
   exact ⟨Nat.le_refl _, fun _ h => h⟩
  | some i =>
   rw [hf] at h
   rcases List.mem_cons.1 h with rfl | h
   ·refine ⟨by simp; omega, fun b hb => ?_⟩
    rw [ba_extract] at hb
    exact List.mem_of_mem_drop (List.mem_of_mem_take hb)
   ·obtain ⟨h1, h2⟩ := splitB_mem sep n _ x h
    refine ⟨by simp at h1; omega, fun b hb => ?_⟩
    have := h2 b hb
    rw [ba_extract] at this
    exact List.mem_of_mem_drop (List.mem_of_mem_take this)
theorem trimB_size (x : ByteArray) : (trimB x).size ≤ x.size := by
 have := trim_le x.data.toList
 unfold trimB
 show (Lib.trimSpace x.data.toList).toArray.size ≤ _
 simpa using this
theorem isB (s t : ByteArray) (l : List UInt8) (h : t.data.toList = l) : (s.toList == l) = decide (s = t) := by
 rw [ByteArray.toList_eq, ← h]
 rw [Bool.eq_iff_iff, beq_iff_eq, decide_eq_true_iff]
 exact ⟨fun e => ba_ext e, fun e => by rw [e]⟩
set_option maxHeartbeats 4000000 in
theorem add_any (k : Nat) {w : World} {M : Nat} {st : MSt} (hMM : MM w M st) (htab : StrTab w) (sec key v : ByteArray) (x : Asr) (hc : cook k sec key v = some x) :
  Calls Tryz.prog 32 #[.map (some M), .string sec, .string key, .string v] w fun e w' => DefPost w M st sec key x.1 x.2 e w' := by
 unfold cook at hc
 by_cases g0 : smallB v = false ∨ 100000 < key.size ∨ v.size = 0
 ·rw [if_pos g0] at hc; cases hc
 rw [if_neg g0] at hc
 have hsm : smallB v = true := by
  cases h : smallB v with
  | true => rfl
  | false => exact absurd (.inl h) g0
 have hks : key.size ≤ 100000 := Nat.not_lt.1 (fun h => g0 (.inr (.inl h)))
 have hv0 : v.size ≠ 0 := fun h => g0 (.inr (.inr h))
 unfold smallB at hsm
 simp only [Bool.and_eq_true, List.all_eq_true, decide_eq_true_iff] at hsm
 obtain ⟨hasc, hsz⟩ := hsm
 have er := isB sec ⟨#[114]⟩ [114] rfl
 have ep := isB sec ⟨#[112]⟩ [112] rfl
 have eg := isB sec ⟨#[103]⟩ [103] rfl
 have em := isB sec ⟨#[109]⟩ [109] rfl
 by_cases g1 : sec = ⟨#[114]⟩ ∨ sec = ⟨#[112]⟩
 ·rw [if_pos g1] at hc
  obtain rfl := Option.some.inj hc
  have hm : (sec.toList == ([109] : List UInt8)) = false := by
   rw [em, decide_eq_false_iff_not]
   rcases g1 with h | h <;> (rw [h]; decide)
  refine def_rp M sec key v _ _ w hv0 rfl rfl hm ?_ st hMM hsz hks (fun y W hy hb => ?_) (fun y hy => ?_)
  ·rw [er, ep]
   by_cases h : sec = ⟨#[114]⟩
   ·exact .inl (by simp [h])
   ·refine .inr ⟨by simp [h], ?_⟩
    rcases g1 with h2 | h2
    ·exact absurd h2 h
    ·simp [h2]
  ·obtain ⟨h1, h2⟩ := splitB_mem comB v.size v y hy
   refine (strings_TrimSpace.calls y _ W (strtab_below htab hb) ?_).mono (fun e w' h => h)
   unfold strings_TrimSpace.f
   exact if_pos ⟨List.all_eq_true.2 (fun b hb2 => decide_eq_true (hasc b (h2 b hb2))), by omega⟩
  ·obtain ⟨h1, h2⟩ := splitB_mem comB v.size v y hy
   have := trimB_size y
   omega
 rw [if_neg g1] at hc
 have hr : (sec.toList == ([114] : List UInt8)) = false := by rw [er, decide_eq_false_iff_not]; exact fun h => g1 (.inl h)
 have hp : (sec.toList == ([112] : List UInt8)) = false := by rw [ep, decide_eq_false_iff_not]; exact fun h => g1 (.inr h)
 by_cases g2 : sec = ⟨#[103]⟩
 ·rw [if_pos g2] at hc
  by_cases g3 : 40 ∈ v.data.toList
  ·rw [if_pos g3] at hc; cases hc
  rw [if_neg g3] at hc
  obtain rfl := Option.some.inj hc
  exact def_g M sec key v w hv0 hr hp (by rw [eg, g2]; rfl) (by rw [em, g2]; rfl) (fun W => params_nil v W (by omega) g3) hsz st hMM
 rw [if_neg g2] at hc
 have hg : (sec.toList == ([103] : List UInt8)) = false := by rw [eg, decide_eq_false_iff_not]; exact g2
 have key : ∀ m : Bool, (sec.toList == ([109] : List UInt8)) = m → ∀ y, cookEM k m v = some y → Calls Tryz.prog 32 #[.map (some M), .string sec, .string key, .string v] w fun e w' => DefPost w M st sec key y [] e w' := by
  intro m hm y hy
  unfold cookEM at hy
  obtain ⟨v1, h1, hy⟩ := Option.bind_eq_some_iff.1 hy
  by_cases g3 : 35 ∈ v1.data.toList ∨ 1000000 < v1.size
  ·rw [if_pos g3] at hy; cases hy
  rw [if_neg g3] at hy
  have hea := fun W => util_EscapeAssertion.calls k v v1 W h1
  have hrc := fun W => remove_none v1 W (Nat.not_lt.1 (fun h => g3 (.inr h))) (fun h => g3 (.inl h))
  cases m with
  | false =>
   rw [if_neg (by simp)] at hy
   obtain rfl := Option.some.inj hy
   exact def_em M sec key v v1 v1 v1 v1 v1 false false w hv0 hr hp hg hm hea hrc (fun h => by cases h) (fun h => by cases h) (fun h => by cases h) (fun h => by cases h) rfl st hMM
  | true =>
   rw [if_pos rfl] at hy
   obtain ⟨v2, h2, hy⟩ := Option.bind_eq_some_iff.1 hy
   obtain ⟨b, h3, hy⟩ := Option.bind_eq_some_iff.1 hy
   have hel := fun W => util_EscapeStringLiterals.calls k v1 v2 W h2
   have hco := fun W => model_zzContains.calls k v2 ⟨#[105, 110]⟩ b W h3
   cases b with
   | false =>
    rw [if_neg (by simp)] at hy
    obtain rfl := Option.some.inj hy
    exact def_em M sec key v v1 v2 v2 v2 v2 true false w hv0 hr hp hg hm hea hrc (fun _ => hel) (fun _ => hco) (fun _ h => by cases h) (fun _ h => by cases h) rfl st hMM
   | true =>
    rw [if_pos rfl] at hy
    obtain ⟨v3, h4, h5⟩ := Option.bind_eq_some_iff.1 hy
    exact def_em M sec key v v1 v2 v3 y y true true w hv0 hr hp hg hm hea hrc (fun _ => hel) (fun _ => hco) (fun _ _ W => model_zzReplace.calls k v2 ⟨#[91]⟩ ⟨#[40]⟩ v3 W h4) (fun _ _ W => model_zzReplace.calls k v3 ⟨#[93]⟩ ⟨#[41]⟩ y W h5) rfl st hMM
 by_cases g4 : sec = ⟨#[101]⟩
 ·rw [if_pos g4] at hc
  obtain ⟨y, hy, rfl⟩ := Option.map_eq_some_iff.1 hc
  exact key false (by rw [em, g4]; rfl) y hy
 rw [if_neg g4] at hc
 by_cases g5 : sec = ⟨#[109]⟩
 ·rw [if_pos g5] at hc
  obtain ⟨y, hy, rfl⟩ := Option.map_eq_some_iff.1 hc
  exact key true (by rw [em, g5]; rfl) y hy
 ·rw [if_neg g5] at hc; cases hc
end
/-! A model in memory, and what it says. -/
section
open Go.Proofs
abbrev Ab := Defs Asr
/-- an assertion's value and texts -/
def AsrV (w : World) (a : Nat) (x : Asr) : Prop := ∃ cs v, w.heap[a]? = some (.cells cs 109 (0, 0)) ∧ cs[1]? = some (.string x.1) ∧ cs[2]? = some v ∧ TokOf 0 w v x.2
theorem AsrV.kept {w w' : World} {a : Nat} {x : Asr} (h : AsrV w a x) (hk : ∀ (g : Nat) (cs : Array Value) (t : TypeId), w.heap[g]? = some (.cells cs t (0, 0)) → w'.heap[g]? = w.heap[g]?) : AsrV w' a x := by
 obtain ⟨cs, v, h1, h2, h3, h4⟩ := h
 exact ⟨cs, v, (hk _ _ _ h1).trans h1, h2, h3, h4.keep (fun g cur hg => hk g cur _ hg)⟩
theorem AsrAt.v {n : Nat} {w : World} {a pm fm : Nat} {key val : ByteArray} {toks : List ByteArray} (h : AsrAt n w a pm fm key val toks) : AsrV w a (val, toks) := by
 obtain ⟨tok, par, h1, _, _, _, h5⟩ := h
 exact ⟨_, _, h1, rfl, rfl, Kd.R_lower h5 (Nat.zero_le _)⟩
inductive Two {α β : Type} (R : α → β → Prop) : List α → List β → Prop
 | nil : Two R [] []
 | cons {a b l m} (h : R a b) (t : Two R l m) : Two R (a :: l) (b :: m)
theorem Two.imp {α β : Type} {R S : α → β → Prop} (hi : ∀ a b, R a b → S a b) : ∀ {l : List α} {m : List β}, Two R l m → Two S l m
 | _, _, .nil => .nil
 | _, _, .cons h t => .cons (hi _ _ h) (Two.imp hi t)
abbrev TwoK {α β : Type} (R : α → β → Prop) : List (ByteArray × α) → List (ByteArray × β) → Prop := Two fun p q => p.1 = q.1 ∧ R p.2 q.2
theorem TwoK.put {α β : Type} {R : α → β → Prop} {k : ByteArray} {x : α} {y : β} (hx : R x y) : ∀ {l : List (ByteArray × α)} {m : List (ByteArray × β)}, TwoK R l m → TwoK R (putC k x l) (putC k y m)
 | _, _, .nil => .cons ⟨rfl, hx⟩ .nil
 | _, _, .cons (a := a) (b := b) h t => by
  unfold putC
  rw [← h.1]
  by_cases g : k = a.1
  ·rw [if_pos g, if_pos g]
   exact .cons ⟨rfl, hx⟩ t
  ·rw [if_neg g, if_neg g]
   exact .cons h (TwoK.put hx t)
/-- blocks of maps, and what they say -/
abbrev AbOf (w : World) : MSt → Ab → Prop := TwoK (α := Nat × List (ByteArray × Nat)) fun p q => TwoK (AsrV w) p.2 q
theorem putD_cons (q : ByteArray × List (ByteArray × Asr)) (m : Ab) (sec key : ByteArray) (x : Asr) : putD (q :: m) sec key x = if sec = q.1 then (q.1, putC key x q.2) :: m else q :: putD m sec key x := by
 by_cases g : sec = q.1
 ·simp [putD, getC, putC, g]
 ·simp [putD, getC, putC, g]
theorem AbOf.put {w : World} {sec key : ByteArray} {nb a : Nat} {x : Asr} (hx : AsrV w a x) : ∀ {st : MSt} {ab : Ab}, AbOf w st ab → AbOf w (putM sec key nb a st) (putD ab sec key x)
 | _, _, .nil => .cons ⟨rfl, .cons ⟨rfl, hx⟩ .nil⟩ .nil
 | _, _, .cons (a := p) (b := q) (l := l) (m := m) h t => by
  have ih := AbOf.put (sec := sec) (key := key) (nb := nb) hx t
  rw [putD_cons]
  unfold putM
  rw [← h.1]
  by_cases g : sec = p.1
  ·rw [if_pos g, if_pos g]
   exact .cons ⟨rfl, TwoK.put hx h.2⟩ t
  ·rw [if_neg g, if_neg g]
   exact .cons h ih
theorem AbOf.kept {w w' : World} (hk : ∀ (g : Nat) (cs : Array Value) (t : TypeId), w.heap[g]? = some (.cells cs t (0, 0)) → w'.heap[g]? = w.heap[g]?) {st : MSt} {ab : Ab} (h : AbOf w st ab) : AbOf w' st ab :=
 Two.imp (fun _ _ h1 => ⟨h1.1, Two.imp (fun _ _ h2 => ⟨h2.1, h2.2.kept hk⟩) h1.2⟩) h
abbrev blks (st : MSt) : List Nat := st.map (·.2.1)
theorem putM_blks {sec key : ByteArray} {nb a : Nat} : ∀ (st : MSt) (n : Nat), n ∈ blks (putM sec key nb a st) → n ∈ blks st ∨ n = nb
 | [], n, h => by
  simp [putM] at h
  exact .inr h
 | x :: st, n, h => by
  unfold putM at h
  by_cases g : sec = x.1
  ·rw [if_pos g] at h
   exact .inl h
  ·rw [if_neg g] at h
   rcases List.mem_cons.1 h with h | h
   ·exact .inl (by rw [h]; exact List.mem_cons_self ..)
   ·rcases putM_blks st n h with h | h
    ·exact .inl (List.mem_cons_of_mem _ h)
    ·exact .inr h
structure MAb (w : World) (M : Nat) (st : MSt) (ab : Ab) : Prop where
 mm : MM w M st
 ab : AbOf w st ab
theorem MAb.below {w w' : World} {M : Nat} {st : MSt} {ab : Ab} (h : MAb w M st ab) (hb : Below w.heap.size w w') : MAb w' M st ab :=
 ⟨h.mm.below hb, h.ab.kept (fun g cs t hg => hb.block g (Array.getElem?_eq_some_iff.1 hg).1)⟩
theorem MTurn.next {bs bs' : List Nat} {a b c : World} (h : MTurn bs a b) (k : MTurn bs' b c) (hs : ∀ x ∈ bs', x ∈ bs ∨ a.heap.size ≤ x) : MTurn bs a c :=
 ⟨k.os.trans h.os, k.tape.trans h.tape, k.output.trans h.output, Nat.le_trans h.size k.size, fun i hi hL => (k.block i (Nat.lt_of_lt_of_le hi h.size) (fun hx => by rcases hs i hx with h1 | h1; exact hL h1; omega)).trans (h.block i hi hL), fun i o hi ho => k.kind i o (h.kind i o hi ho) ho⟩
/-- one assertion more -/
theorem MAb.def_ {w w' : World} {M : Nat} {st : MSt} {ab : Ab} (h : MAb w M st ab) {sec key : ByteArray} {x : Asr} {e : Ending} (hd : DefPost w M st sec key x.1 x.2 e w') :
  e = .returned (.bool true) ∧ ∃ st', MAb w' M st' (putD ab sec key x) ∧ (∀ n ∈ blks st', n ∈ blks st ∨ w.heap.size ≤ n) ∧ MTurn (M :: blks st) w w' := by
 obtain ⟨he, a, pm, fm, nb, h1, h2, h3, h4⟩ := hd
 refine ⟨he, _, ⟨h1, AbOf.put h2.v (h.ab.kept (fun g cs t hg => (h4.kind g _ hg (fun _ _ e => by cases e)).trans hg.symm))⟩, fun n hn => ?_, h4⟩
 rcases putM_blks st n hn with h | h
 ·exact .inl h
 ·exact .inr (by omega)
/-- what a section is read as: keys, and what is kept of their values (n: how many keys are asked at the most) -/
def readC (k : Nat) (D : Conf) (sec name : ByteArray) : Nat → Nat → Option (List (ByteArray × Asr))
 | 0, _ => none
 | n + 1, i => if (getConf D (name ++ colons ++ (sec ++ numB i))).size = 0 then some [] else
   (cook k sec (sec ++ numB i) (getConf D (name ++ colons ++ (sec ++ numB i)))).bind fun x => (readC k D sec name n (i + 1)).map fun l => (sec ++ numB i, x) :: l
def putAll (ab : Ab) (sec : ByteArray) (l : List (ByteArray × Asr)) : Ab := l.foldl (fun ab p => putD ab sec p.1 p.2) ab
def SecPost (w : World) (M : Nat) (st : MSt) (ab : Ab) (w' : World) : Prop :=
 ∃ st', MAb w' M st' ab ∧ (∀ n ∈ blks st', n ∈ blks st ∨ w.heap.size ≤ n) ∧ MTurn (M :: blks st) w w'
end
/-! loadSection. -/
section
open Go.Proofs
theorem StrTab.turn {w w' : World} {bs : List Nat} (h : StrTab w) (hm : MTurn bs w w') (hg : 0 ∉ bs) : StrTab w' := by
 have hgn : Tryz.prog.globalNamed "strings.asciiSpace" = some 0 := by kernel_rfl
 unfold StrTab Lib.TabIs World.var? at h ⊢
 rw [hgn] at h ⊢
 simp only [Option.bind_some] at h ⊢
 have hlt : 0 < w.heap.size := by
  rcases Nat.lt_or_ge 0 w.heap.size with h' | h'
  ·exact h'
  ·rw [Array.getElem?_eq_none h'] at h; cases h
 rw [hm.block 0 hlt hg]
 exact h
theorem ConfIs.turn {w w' : World} {p m : Nat} {cst : Secs} {bs : List Nat} (h : ConfIs w p m cst) (hm : MTurn bs w w') (hd : ∀ x ∈ m :: cst.map (·.2.1), x ∉ bs) : ConfIs w' p m cst := by
 refine conf_move h ((hm.kind p _ h.ptr (fun _ _ e => by cases e)).trans h.ptr.symm) (fun k hk => hm.block k ?_ (hd k hk))
 rcases List.mem_cons.1 hk with rfl | hk
 ·obtain ⟨es, c, h1, _⟩ := h.top
  exact (Array.getElem?_eq_some_iff.1 h1).1
 ·obtain ⟨x, hx, rfl⟩ := List.mem_map.1 hk
  obtain ⟨es, c, h1, _⟩ := h.sub x hx
  exact (Array.getElem?_eq_some_iff.1 h1).1
theorem size0 {v : ByteArray} (h : v.size = 0) : v = ⟨#[]⟩ := ba_ext (List.eq_nil_of_length_eq_zero h)
theorem putAll_cons (ab : Ab) (sec : ByteArray) (p : ByteArray × Asr) (l : List (ByteArray × Asr)) : putAll ab sec (p :: l) = putAll (putD ab sec p.1 p.2) sec l := rfl
set_option maxHeartbeats 4000000 in
set_option maxRecDepth 100000 in
theorem load_section (k : Nat) {w : World} {M p m : Nat} {cst : Secs} {st : MSt} {ab : Ab} (hM : MAb w M st ab) (hC : ConfIs w p m cst) (hdis : ∀ x ∈ m :: cst.map (·.2.1), x ∉ M :: blks st) (htab : StrTab w) (hg : 0 ∉ M :: blks st)
  (sec name : ByteArray) (hl : ∃ j, lookS sec secTabV 0 = some (j, .string name)) (hkeys : ∀ i, i < 20 → lowKey (name ++ colons ++ (sec ++ numB i)) = true) (hsz : name.size ≤ 1000 ∧ sec.size ≤ 1000) (L : List (ByteArray × Asr)) (hr : readC k (confOf cst) sec name 12 1 = some L) :
  Calls Tryz.prog 91 #[.map (some M), .iface 141 (.pointer (some ⟨p, 0, none⟩)), .string sec] w fun e w' => e = .returned (.tuple #[]) ∧ SecPost w M st (putAll ab sec L) w' := by
 have HM0 := Aside0.mk hM
 have HR0 := Aside0.mk hr
 have HC := Aside0.mk hC
 have HD := Aside0.mk hdis
 have HTB := Aside0.mk htab
 have HG := Aside0.mk hg
 have HL := Aside0.mk hl
 have HK := Aside0.mk hkeys
 have hs1 := hsz.1
 have hs2 := hsz.2
 clear hM hr hC hdis htab hg hl hkeys hsz
 go_enter Tryz.func91, Tryz.ntmps91
 go_wp2
 go_loopw [6] (fun v6 wr => ∃ (i n : Nat) (st1 : MSt) (ab1 : Ab) (R : List (ByteArray × Asr)), v6 = .int .i64 (i : Int) ∧ 1 ≤ i ∧ i + n = 13 ∧ Aside0 (readC k (confOf cst) sec name n i = some R) ∧ Aside0 (putAll ab1 sec R = putAll ab sec L) ∧ Aside0 (MAb wr M st1 ab1 ∧ (∀ n ∈ blks st1, n ∈ blks st ∨ w.heap.size ≤ n) ∧ MTurn (M :: blks st) w wr))
  (fun v6 _ => 13 - (intOf v6).toNat)
 case atStart => exact ⟨1, 12, st, ab, L, rfl, Nat.le_refl _, rfl, HR0, ⟨rfl⟩, ⟨HM0.out, fun n hn => .inl hn, MTurn.refl _ _⟩⟩
 case round =>
  clear HM0 HR0
  obtain ⟨i, n, st1, ab1, R, rfl, hi1, hin, HR, HE, HI⟩ := hrel
  have hsuf := Aside0.mk (key_suffix i hi1 (by omega) wr)
  have hnb : (numB i).size ≤ 2 := by
   unfold numB
   split
   ·exact Nat.zero_le 2
   ·split
    ·exact Nat.le_succ 1
    ·exact Nat.le_refl 2
  cases n with
  | zero =>
   exfalso
   have := HR.out
   simp [readC] at this
  | succ n =>
   have hr := HR.out
   unfold readC at hr
   have HLA := Aside0.mk (fun (w2 : World) (hb2 : Below wr.heap.size wr w2) (v : ByteArray) (hv : getConf (confOf cst) (name ++ colons ++ (sec ++ numB i)) = v) (b : Bool) (R : World → World → Prop) hAD => load_assertion M p m cst sec name (sec ++ numB i) v w2 (conf_below (HC.out.turn HI.out.2.2 HD.out) hb2) HL.out (HK.out i (by omega)) (by rw [ByteArray.size_append]; omega) hv b R hAD)
   by_cases hz : (getConf (confOf cst) (name ++ colons ++ (sec ++ numB i))).size = 0
   ·rw [if_pos hz] at hr
    obtain rfl := Option.some.inj hr
    have HV := Aside0.mk (size0 hz)
    clear hz hr HR
    go_wp2_with (first
     | (go_at_call 116; refine hsuf.out.mono ?_; rintro e w2 ⟨rfl, hb⟩; have HB2 := Aside0.mk hb; clear hb)
     | (go_at_call 115; refine (HLA.out w2 HB2.out _ HV.out false (fun W w' => w' = W) (fun W _ => def_none M sec (sec ++ numB i) W)).mono ?_; rintro e w3 ⟨rfl, W, hb, rfl⟩; have HB3 := Aside0.mk hb; clear hb))
    go_end0
    have hb := HB2.out.trans (HB3.out.mono HB2.out.size)
    obtain ⟨h1, h2, h3⟩ := HI.out
    refine ⟨rfl, st1, ?_, h2, h3.next (MTurn.ofBelow (bs := []) hb) (by simp)⟩
    rw [← HE.out]
    exact h1.below hb
   ·rw [if_neg hz] at hr
    obtain ⟨x, hx, hr⟩ := Option.bind_eq_some_iff.1 hr
    obtain ⟨R2, hR2, rfl⟩ := Option.map_eq_some_iff.1 hr
    have HX := Aside0.mk hx
    have HR2 := Aside0.mk hR2
    have HAD := Aside0.mk (fun (w2 : World) (hb2 : Below wr.heap.size wr w2) (W : World) (hb : Below w2.heap.size w2 W) => by
     have hb3 : Below wr.heap.size wr W := hb2.trans (hb.mono hb2.size)
     have hT : StrTab W := strtab_below (HTB.out.turn HI.out.2.2 HG.out) hb3
     have hMW := HI.out.1.below hb3
     exact (add_any k hMW.mm hT sec (sec ++ numB i) _ x HX.out).mono (fun e w' hd => hMW.def_ hd))
    clear hz hr hx hR2 HR
    go_wp2_with (first
     | (go_at_call 116; refine hsuf.out.mono ?_; rintro e w2 ⟨rfl, hb⟩; have HB2 := Aside0.mk hb; clear hb)
     | (go_at_call 115; refine (HLA.out w2 HB2.out _ rfl true _ (HAD.out w2 HB2.out)).mono ?_; rintro e w3 ⟨rfl, W, hb, hq⟩; have HB3 := Aside0.mk hb; have HQ := Aside0.mk hq; clear hb hq))
    go_roundw
    case rel =>
     have hb := HB2.out.trans (HB3.out.mono HB2.out.size)
     obtain ⟨h1, h2, h3⟩ := HI.out
     obtain ⟨st', q1, q2, q3⟩ := HQ.out
     refine ⟨i + 1, n, st', _, R2, by go_num, by omega, by omega, HR2, ⟨by rw [← HE.out]; rfl⟩, ⟨q1, fun n hn => ?_, (h3.next (MTurn.ofBelow (bs := []) hb) (by simp)).next q3 (fun x hx => ?_)⟩⟩
     ·have hsz := h3.size
      have hsz2 := hb.size
      rcases q2 n hn with h | h
      ·exact h2 n h
      ·exact .inr (by omega)
     ·rcases List.mem_cons.1 hx with rfl | hx
      ·exact .inl (List.mem_cons_self ..)
      ·rcases h2 x hx with h | h
       ·exact .inl (List.mem_cons_of_mem _ h)
       ·exact .inr h
    case measure => simp [intOf]; omega
end
/-! defs: all assertions of a model, in some order. -/
section
open Go.Proofs
/-- how many entries are still to come -/
def leftW (w : World) (r M : Nat) : Nat := match w.heap[r]?, w.heap[M]? with
 | some (.mapIter _ _ seen _), some (.map es _) => (Go.leftOf es seen).size
 | _, _ => 0
theorem RgS.count {w : World} {r M : Nat} {st left : List (ByteArray × Value)} (h : RgS w r M st left) : leftW w r M = left.length := by
 obtain ⟨es, c, since, c0, seen, h1, h2, h3, h4, h5, h6, h7⟩ := h
 unfold leftW
 rw [h1, h2]
 have := congrArg List.length h7
 simpa using this
abbrev Def := S28
abbrev MSecs := List (ByteArray × Nat × List (ByteArray × Nat × Asr))
def secDefs (x : ByteArray × Nat × List (ByteArray × Nat × Asr)) : List Def := if x.1 = logB then [] else x.2.2.map fun y => ⟨x.1, y.1, y.2.2.1⟩
def defsAb (ab : Ab) : List Def := ab.flatMap fun x => if x.1 = logB then [] else x.2.map fun y => (⟨x.1, y.1, y.2.1⟩ : Def)
theorem AbOf.zip {w : World} : ∀ {st : MSt} {ab : Ab}, AbOf w st ab → ∃ T : MSecs, st = T.map (fun x => (x.1, x.2.1, x.2.2.map fun y => (y.1, y.2.1))) ∧ defsAb ab = T.flatMap secDefs ∧ ∀ x ∈ T, ∀ y ∈ x.2.2, AsrV w y.2.1 y.2.2
 | _, _, .nil => ⟨[], rfl, rfl, by simp⟩
 | _, _, .cons (a := p) (b := q) (l := l) (m := m) h t => by
  obtain ⟨T, h1, h2, h3⟩ := AbOf.zip t
  have inner : ∀ {l : List (ByteArray × Nat)} {m : List (ByteArray × Asr)}, TwoK (AsrV w) l m → ∃ U : List (ByteArray × Nat × Asr), l = U.map (fun y => (y.1, y.2.1)) ∧ m = U.map (fun y => (y.1, y.2.2)) ∧ ∀ y ∈ U, AsrV w y.2.1 y.2.2 := by
   intro l m h
   induction h with
   | nil => exact ⟨[], rfl, rfl, by simp⟩
   | cons h t ih =>
    rename_i a b l m
    obtain ⟨U, u1, u2, u3⟩ := ih
    refine ⟨(a.1, a.2, b.2) :: U, by rw [u1]; rfl, ?_, fun y hy => ?_⟩
    ·rw [u2, List.map_cons]
     congr 1
     exact Prod.ext h.1.symm rfl
    ·rcases List.mem_cons.1 hy with rfl | hy
     ·exact h.2
     ·exact u3 y hy
  obtain ⟨U, u1, u2, u3⟩ := inner h.2
  refine ⟨(p.1, p.2.1, U) :: T, ?_, ?_, fun x hx => ?_⟩
  ·rw [h1, List.map_cons]
   congr 1
   exact Prod.ext rfl (Prod.ext rfl u1)
  ·have e : defsAb (q :: m) = (if q.1 = logB then [] else q.2.map fun y => (⟨q.1, y.1, y.2.1⟩ : Def)) ++ defsAb m := rfl
   rw [e, h2, List.flatMap_cons]
   congr 1
   unfold secDefs
   rw [h.1]
   split
   ·rfl
   ·rw [u2, List.map_map]; rfl
  ·rcases List.mem_cons.1 hx with rfl | hx
   ·exact u3
   ·exact h3 x hx
def leftV (R : MSecs) : List (ByteArray × Value) := R.map fun x => (x.1, .map (some x.2.1))
def leftP (R : List (ByteArray × Nat × Asr)) : List (ByteArray × Value) := R.map fun y => (y.1, .pointer (some ⟨y.2.1, 0, none⟩))
theorem leftV_split {R : MSecs} {A B : List (ByteArray × Value)} {s : ByteArray} {v : Value} (h : leftV R = A ++ (s, v) :: B) : ∃ A' x B', R = A' ++ x :: B' ∧ x.1 = s ∧ v = .map (some x.2.1) ∧ A ++ B = leftV (A' ++ B') := by
 unfold leftV at h ⊢
 obtain ⟨L1, L2, hL, hA, hB⟩ := List.map_eq_append_iff.1 h
 obtain ⟨x, L3, rfl, hx, hB2⟩ := List.map_eq_cons_iff.1 hB
 injection hx with h1 h2
 exact ⟨L1, x, L3, hL, h1, h2.symm, by rw [List.map_append, hA, hB2]⟩
theorem leftP_split {R : List (ByteArray × Nat × Asr)} {A B : List (ByteArray × Value)} {s : ByteArray} {v : Value} (h : leftP R = A ++ (s, v) :: B) : ∃ A' x B', R = A' ++ x :: B' ∧ x.1 = s ∧ v = .pointer (some ⟨x.2.1, 0, none⟩) ∧ A ++ B = leftP (A' ++ B') := by
 unfold leftP at h ⊢
 obtain ⟨L1, L2, hL, hA, hB⟩ := List.map_eq_append_iff.1 h
 obtain ⟨x, L3, rfl, hx, hB2⟩ := List.map_eq_cons_iff.1 hB
 injection hx with h1 h2
 exact ⟨L1, x, L3, hL, h1, h2.symm, by rw [List.map_append, hA, hB2]⟩
theorem Stepped.below {w w' : World} {r n : Nat} (h : Stepped w w' r) (hn : n ≤ r) : Below n w w' := ⟨h.os, h.tape, h.output, by rw [h.size]; exact Nat.le_refl _, fun k hk => h.block k (by omega)⟩
/-- an iterator is no block of a row -/
theorem rows_stepped {w w' : World} {r n : Nat} {Mx : Nat} {s l : List (ByteArray × Value)} {v : Value} {out : List Def} (hr : RgS w r Mx s l) (hs : Stepped w w' r) (h : Kd.R k28 28 w n (fun _ => True) v out) : Kd.R k28 28 w' n (fun _ => True) v out := by
 obtain ⟨es, c, since, c0, seen, h1, h2, h3⟩ := hr
 refine Kd.R_mono (Kd.R_move (Kd.R_bound h) (fun k hk2 => hs.block k (fun e => ?_))) (fun _ _ => trivial)
 obtain ⟨_, _, _, q, hq, cs, hc⟩ := hk2
 rw [e, h1] at hc
 cases hc
theorem RgS.stepped {w w' : World} {r r2 Mx M2 : Nat} {s l s2 l2 : List (ByteArray × Value)} (h : RgS w r Mx s l) (h2 : RgS w r2 M2 s2 l2) (hs : Stepped w w' r2) (hne : r ≠ r2) : RgS w' r Mx s l := by
 refine h.keep (hs.block r hne) (hs.block Mx (fun e => ?_))
 obtain ⟨es, c, since, c0, seen, h1, h3, _⟩ := h
 obtain ⟨_, _, _, _, _, h4, _⟩ := h2
 rw [e, h4] at h3
 cases h3
theorem RgS.grown {w w' : World} {r Mx : Nat} {s l : List (ByteArray × Value)} {o : Option Nat} (h : RgS w r Mx s l) (hg : w.grownBy w' o) (ho : ∀ k, o = some k → ∃ cs t, w.heap[k]? = some (.cells cs t (0, 0))) : RgS w' r Mx s l := by
 obtain ⟨es, c, since, c0, seen, h1, h2, h3⟩ := h
 have key : ∀ (k : Nat) (x : Obj), w.heap[k]? = some x → (∀ cs t, x ≠ .cells cs t (0, 0)) → w'.heap[k]? = some x := fun k x hk hx => (hg.block k (Array.getElem?_eq_some_iff.1 hk).1 (fun e => by
  obtain ⟨cs, t, hc⟩ := ho k e.symm
  rw [hk] at hc
  exact hx cs t (Option.some.inj hc))).trans hk
 exact ⟨es, c, since, c0, seen, key r _ h1 (fun _ _ e => by cases e), key Mx _ h2 (fun _ _ e => by cases e), h3⟩
theorem perm_mid {α : Type} {D A B T : List α} {x : α} (h : (D ++ (A ++ x :: B)).Perm T) : ((D ++ [x]) ++ (A ++ B)).Perm T := by
 refine List.Perm.trans ?_ h
 rw [List.append_assoc]
 exact List.Perm.append_left D (by simpa using List.perm_middle.symm)
set_option maxHeartbeats 8000000 in
set_option maxRecDepth 100000 in
theorem model_defs {w : World} {M : Nat} {st : MSt} {ab : Ab} (h : MAb w M st ab) (hlen : (defsAb ab).length ≤ 1000000) :
  Calls Tryz.prog 26 #[.map (some M)] w fun e w' => ∃ v l, e = .returned v ∧ l.Perm (defsAb ab) ∧ Kd.R k28 28 w' w.heap.size (fun _ => True) v l ∧ Below w.heap.size w w' := by
 obtain ⟨T, rfl, hT, hV⟩ := h.ab.zip
 have HM := Aside0.mk h.mm
 obtain ⟨o, hrun, hrg⟩ := h.mm.top.range uM2
 have hlv : msecVals (T.map fun x => (x.1, x.2.1, x.2.2.map fun y => (y.1, y.2.1))) = leftV T := by unfold msecVals leftV; rw [List.map_map]; rfl
 rw [hlv] at hrg
 have HRG := Aside0.mk hrg
 rw [hT] at hlen ⊢
 have HLEN := Aside0.mk hlen
 have HV := Aside0.mk hV
 clear hrg h hT hlen hV hlv
 go_enter Tryz.func26, Tryz.ntmps26
 go_wp2
 go_loopw [3] (fun v3 wr => ∃ (D R : MSecs) (out : List Def), Aside0 ((D ++ R).Perm T) ∧ Aside0 (RgS wr w.heap.size M (leftV T) (leftV R)) ∧ Aside0 (out.Perm (D.flatMap secDefs)) ∧ Aside0 (Kd.R k28 28 wr w.heap.size (fun _ => True) v3 out) ∧ Aside0 (Below w.heap.size w wr))
  (fun _ wr => leftW wr w.heap.size M)
 case atStart => exact ⟨[], T, [], ⟨List.Perm.refl _⟩, HRG, ⟨List.Perm.refl _⟩, ⟨Kd.R_nil _ _ _ _ _⟩, ⟨(Below.refl _ _).alloc (Nat.le_refl _) _⟩⟩
 case round =>
  clear HRG hrun
  obtain ⟨D, R, out, HP, HRG, HOP, HO, HB⟩ := hrel
  rcases HRG.out.next (P := Tryz.prog) with ⟨h0, hnx⟩ | ⟨A, s, v, B, w1, hsp, hnx, hrg1, hst1, hen⟩
  ·have hR : R = [] := List.map_eq_nil_iff.1 h0
   subst hR
   go_wp2
   go_ret
   refine ⟨_, out, rfl, ?_, HO.out, HB.out⟩
   have hp := HP.out
   rw [List.append_nil] at hp
   exact HOP.out.trans (hp.flatMap_right _)
  ·obtain ⟨A', x, B', rfl, hx1, rfl, hAB⟩ := leftV_split hsp
   rw [hAB] at hrg1
   have HRG1 := Aside0.mk hrg1
   have HO1 := Aside0.mk (rows_stepped HRG.out hst1 HO.out)
   have HB1 := Aside0.mk (HB.out.trans (hst1.below (Nat.le_refl _)))
   have HP1 := Aside0.mk (perm_mid HP.out)
   have hcnt : leftW w1 w.heap.size M < leftW wr w.heap.size M := by
    rw [hrg1.count, HRG.out.count]
    unfold leftV
    simp
   have HCNT := Aside0.mk hcnt
   have hxT : x ∈ T := HP.out.mem_iff.1 (by simp)
   subst hx1
   clear hsp hAB hrg1 hst1 hcnt HP HO HB HRG
   have hlg := isB x.1 logB [108, 111, 103, 103, 101, 114] rfl
   by_cases hx : x.1 = logB
   ·rw [decide_eq_true hx] at hlg
    have hsd : secDefs x = [] := by unfold secDefs; rw [if_pos hx]
    have HSD := Aside0.mk hsd
    clear hx hsd
    go_wp2
    go_roundw
    case rel => exact ⟨D ++ [x], A' ++ B', out, HP1, HRG1, ⟨by rw [List.flatMap_append]; simpa [HSD.out] using HOP.out⟩, HO1, HB1⟩
    case measure => exact HCNT.out
   ·rw [decide_eq_false hx] at hlg
    have hsd : secDefs x = x.2.2.map fun y => ⟨x.1, y.1, y.2.2.1⟩ := by unfold secDefs; rw [if_neg hx]
    have HSD := Aside0.mk hsd
    clear hx hsd
    have hsub := HM.out.sub (x.1, x.2.1, x.2.2.map fun y => (y.1, y.2.1)) (List.mem_map_of_mem (f := fun x : ByteArray × Nat × List (ByteArray × Nat × Asr) => (x.1, x.2.1, x.2.2.map fun y => (y.1, y.2.1))) hxT)
    have hpv : ptrVals (x.2.2.map fun y => (y.1, y.2.1)) = leftP x.2.2 := by unfold ptrVals leftP; rw [List.map_map]; rfl
    simp only [hpv] at hsub
    have hsub1 : SM w1 x.2.1 (leftP x.2.2) := hsub.below HB1.out
    obtain ⟨o2, hrun2, hrg2⟩ := hsub1.range uM3
    have HRG2 := Aside0.mk hrg2
    have HR2 := Aside0.mk (hrg2.keep rfl rfl)
    have hb2 : Below w1.heap.size w1 (w1.alloc o2) := (Below.refl _ _).alloc (Nat.le_refl _) _
    have HRG3 := Aside0.mk (show RgS (w1.alloc o2) w.heap.size M (leftV T) (leftV (A' ++ B')) from HRG1.out.keep (hb2.block _ HRG1.out.lt.1) (hb2.block _ HRG1.out.lt.2))
    have HO2 := Aside0.mk (Kd.R_below HO1.out hb2)
    have HB2 := Aside0.mk (HB1.out.trans (hb2.mono HB1.out.size))
    have HNE := Aside0.mk (show w.heap.size < w1.heap.size from HRG1.out.lt.1)
    clear hsub hsub1 hpv hrg2 hb2 HRG1 HO1 HB1 HR2
    have HXL := Aside0.mk (show out.length + x.2.2.length ≤ 1000000 from by
     have h1 := HOP.out.length_eq
     have h2 := (HP1.out.flatMap_right secDefs).length_eq
     rw [List.flatMap_append, List.flatMap_append, List.length_append, List.length_append] at h2
     have h3 := HLEN.out
     have h4 : ([x].flatMap secDefs).length = x.2.2.length := by simp [HSD.out]
     omega)
    have HCN2 := Aside0.mk (show (leftV (A' ++ B')).length < leftW wr w.heap.size M from by
     have := HCNT.out
     rw [← HRG3.out.count]
     have h3 : leftW (w1.alloc o2) w.heap.size M = leftW w1 w.heap.size M := by
      unfold leftW
      have e1 := HRG3.out.lt.1
      rw [heap_alloc_old w1 o2 HNE.out, heap_alloc_old w1 o2 (Nat.lt_of_lt_of_le HM.out.top.lt (Nat.le_of_lt HNE.out))]
     rw [h3]
     exact this)
    clear HCNT
    go_wp2
    go_loopw [3] (fun v3 wr2 => ∃ (D2 R2 : List (ByteArray × Nat × Asr)) (out2 : List Def), Aside0 ((D2 ++ R2).Perm x.2.2) ∧ Aside0 (RgS wr2 w.heap.size M (leftV T) (leftV (A' ++ B'))) ∧ Aside0 (RgS wr2 w1.heap.size x.2.1 (leftP x.2.2) (leftP R2)) ∧ Aside0 (out2.Perm (out ++ D2.map fun y => (⟨x.1, y.1, y.2.2.1⟩ : Def))) ∧ Aside0 (Kd.R k28 28 wr2 w.heap.size (fun _ => True) v3 out2) ∧ Aside0 (Below w.heap.size w wr2))
     (fun _ wr2 => leftW wr2 w1.heap.size x.2.1)
    case atStart => exact ⟨[], x.2.2, out, ⟨List.Perm.refl _⟩, HRG3, HRG2, ⟨by simp⟩, HO2, HB2⟩
    case round =>
     clear HRG3 HRG2 HO2 HB2 hnx hen hrun2
     obtain ⟨D2, R2, out2, HQ, HG1, HG2, HOQ, HO, HB⟩ := hrel
     rcases HG2.out.next (P := Tryz.prog) with ⟨h0, hnx⟩ | ⟨A2, s2, v2, B2, w3, hsp, hnx, hrg3, hst3, hen⟩
     ·have hR : R2 = [] := List.map_eq_nil_iff.1 h0
      subst hR
      go_wp2
      go_roundw
      case rel =>
       refine ⟨D ++ [x], A' ++ B', out2, HP1, HG1, ⟨?_⟩, HO, HB⟩
       have hq := HQ.out
       rw [List.append_nil] at hq
       rw [List.flatMap_append]
       have e : [x].flatMap secDefs = x.2.2.map fun y => (⟨x.1, y.1, y.2.2.1⟩ : Def) := by simp [HSD.out]
       rw [e]
       exact HOQ.out.trans (List.Perm.append HOP.out (hq.map _))
      case measure =>
       rw [HG1.out.count]
       exact HCN2.out
     ·obtain ⟨A3, y, B3, rfl, hy1, rfl, hAB⟩ := leftP_split hsp
      rw [hAB] at hrg3
      subst hy1
      have hyT : y ∈ x.2.2 := HQ.out.mem_iff.1 (by simp)
      have hcell : w3.cell? ⟨y.2.1, 1, none⟩ = some (.string y.2.2.1) := by
       obtain ⟨cs, v, h1, h2, _, _⟩ := HV.out x hxT y hyT
       have hb : Below w.heap.size w w3 := HB.out.trans (hst3.below (by have := HNE.out; omega))
       exact cell_of ((hb.block _ (Array.getElem?_eq_some_iff.1 h1).1).trans h1) h2
      have HG1' := Aside0.mk (HG1.out.stepped HG2.out hst3 (by have := HNE.out; omega))
      have HO1 := Aside0.mk (rows_stepped HG2.out hst3 HO.out)
      have HB1 := Aside0.mk (HB.out.trans (hst3.below (by have := HNE.out; omega)))
      have HQ1 := Aside0.mk (perm_mid HQ.out)
      have HG3 := Aside0.mk hrg3
      have hcnt : leftW w3 w1.heap.size x.2.1 < leftW wr w1.heap.size x.2.1 := by
       rw [hrg3.count, HG2.out.count]
       unfold leftP
       simp
      have HCN3 := Aside0.mk hcnt
      have HOL := Aside0.mk (show (out2.length + 1) * 48 ≤ 140737488355328 from by
       have h1 := HOQ.out.length_eq
       have h2 := HQ.out.length_eq
       have h3 := HXL.out
       simp only [List.length_append, List.length_map, List.length_cons] at h1 h2
       omega)
      clear hsp hAB hrg3 hst3 hcnt
      go_wp2_with ((with_reducible refine gate_builtin (b := .append) (xs := #[.tmp 24, .tmp 32]) rfl ?_); at_builtin; refine Kd.R_append k28 (w0 := w) w.heap.size rfl (.tmp 24) (.tmp 32) 22 28 (.agg #[(.string ⟨#[]⟩), (.string ⟨#[]⟩), (.string ⟨#[]⟩)]) 48 rfl Tryz.underlying22 info28 rfl (by decide) (by omega) u3 out2 (⟨x.1, y.1, y.2.2.1⟩ : Def) [.string x.1, .string y.1, .string y.2.2.1] (fun _ => True) (fun _ => False) rfl ?aX ?aP (fun _ hk => hk.elim) ?aF ?aO ?aB ?aS ?aL ?_; (case aX => rfl); (case aP => exact k28_mkM _ _ _ _); (case aB => exact HB1.out); (case aF => exact (fun _ _ => trivial)); (case aO => exact HO1.out); (case aS => exact below_size HB1.out); (case aL => exact HOL.out); intro v2 w4 ho hb4 hg4 hat; have HO4 := Aside0.mk ho; have HB4 := Aside0.mk hb4; have HG4 := Aside0.mk hg4; clear ho hb4 hg4 hat)
      have HOWN := Aside0.mk (show ∀ k, u3.ownBlock = some k → ∃ cs t, w3.heap[k]? = some (.cells cs t (0, 0)) from fun k hk => by
       obtain ⟨_, _, _, q, _, cs, hc⟩ := (Kd.R_bound HO1.out).1 k hk
       exact ⟨cs, q, hc⟩)
      go_roundw
      case rel => exact ⟨D2 ++ [y], A3 ++ B3, out2 ++ [⟨x.1, y.1, y.2.2.1⟩], HQ1, ⟨HG1'.out.grown HG4.out HOWN.out⟩, ⟨HG3.out.grown HG4.out HOWN.out⟩, ⟨by rw [List.map_append, ← List.append_assoc]; exact List.Perm.append_right _ HOQ.out⟩, HO4, HB4⟩
      case measure =>
       rw [(HG3.out.grown HG4.out HOWN.out).count, ← HG3.out.count]
       exact HCN3.out
end
/-- texts with a text between -/
def strings_Join.f (l0 : List ByteArray) (a1 : ByteArray) : Option ByteArray :=
 if l0.length ≤ 140737488355328 ∧ (Lib.join (l0.map (·.data.toList)) a1.data.toList).length ≤ 140737488355328 then some ⟨(Lib.join (l0.map (·.data.toList)) a1.data.toList).toArray⟩ else none
theorem strings_Join.calls (A0 : Option Addr) (c0 : Nat) (l0 : List ByteArray) (a1 : ByteArray) (r : ByteArray) (w : World) (hr0 : Kd.C Kd.string w A0 l0.length l0) (hc0 : l0.length ≤ c0) (h : strings_Join.f l0 a1 = some r) :
  Calls Tryz.prog 95 #[.slice A0 l0.length c0, .string a1] w fun e w' => e = .returned (.string r) ∧ Below w.heap.size w w' := by
 unfold strings_Join.f at h
 by_cases hg : l0.length ≤ 140737488355328 ∧ (Lib.join (l0.map (·.data.toList)) a1.data.toList).length ≤ 140737488355328
 ·rw [if_pos hg] at h
  obtain rfl := Option.some.inj h
  rcases Nat.eq_zero_or_pos l0.length with hz | hp
  ·obtain rfl := List.eq_nil_of_length_eq_zero hz
   refine (Tryz.strings_Join_none A0 c0 a1 w).mono ?_
   rintro e w' ⟨rfl, rfl⟩
   exact ⟨rfl, Below.refl _ _⟩
  ·obtain ⟨hl, hm, hrow⟩ := hr0
   obtain ⟨ad, rfl, hc⟩ := hrow hp
   obtain ⟨bk, off, spot⟩ := ad
   have hs : ∀ j x, l0[j]? = some x → w.cell? ((⟨bk, off, spot⟩ : Addr).add (j * 1 + 0)) = some (.string x) := by
    intro j x hj
    obtain ⟨cs, hcl, hcs, hcell⟩ := hc j x hj
    have e : cs = [.string x] := hcs
    subst e
    exact hcell 0 _ rfl
   have h0 := hs 0 _ (List.getElem?_eq_getElem hp)
   have hsp : spot = none := by
    cases spot with
    | none => rfl
    | some s =>
     exfalso
     simp only [Addr.add, Nat.zero_mul, Nat.add_zero, if_true, World.cell?] at h0
     split at h0 <;> simp at h0
   subst hsp
   have hbk : bk < w.heap.size := by
    rcases Nat.lt_or_ge bk w.heap.size with q | q
    ·exact q
    ·exfalso
     simp only [Addr.add, Nat.zero_mul, Nat.add_zero, if_true, World.cell?] at h0
     rw [Array.getElem?_eq_none q] at h0
     simp at h0
   refine Tryz.strings_Join bk off c0 l0 a1 w ?_ hbk hg.1 hc0 hg.2
   intro j x hj
   have q := hs j x hj
   rcases Nat.eq_zero_or_pos j with rfl | hjp
   ·simpa [Addr.add] using q
   ·have e : ((⟨bk, off, none⟩ : Addr).add (j * 1 + 0)) = ⟨bk, off + j, none⟩ := by
     have : ¬ (j * 1 + 0 = 0) := by omega
     simp only [Addr.add, Nat.mul_one, Nat.add_zero]; rw [if_neg (by omega)]
    rw [e] at q
    exact q
 ·rw [if_neg hg] at h; cases h
/-! loadModelFromConfig. -/
section
open Go.Proofs
/-- what the sections are read as, in an order -/
def secL (k : Nat) (D : Conf) (s : ByteArray × ByteArray) : List (ByteArray × Asr) := (readC k D s.1 s.2 12 1).getD []
def putSecs (k : Nat) (D : Conf) (ab : Ab) (l : List (ByteArray × ByteArray)) : Ab := l.foldl (fun ab s => putAll ab s.1 (secL k D s)) ab
theorem putSecs_snoc (k : Nat) (D : Conf) (ab : Ab) (l : List (ByteArray × ByteArray)) (s : ByteArray × ByteArray) : putSecs k D ab (l ++ [s]) = putAll (putSecs k D ab l) s.1 (secL k D s) := by
 unfold putSecs
 rw [List.foldl_append]
 rfl
def nameVals (l : List (ByteArray × ByteArray)) : List (ByteArray × Value) := l.map fun p => (p.1, .string p.2)
theorem nameVals_split {l : List (ByteArray × ByteArray)} {A B : List (ByteArray × Value)} {s : ByteArray} {v : Value} (h : nameVals l = A ++ (s, v) :: B) : ∃ A' name B', l = A' ++ (s, name) :: B' ∧ v = .string name ∧ A = nameVals A' ∧ B = nameVals B' := by
 unfold nameVals at h
 obtain ⟨L1, L2, hL, hA, hB⟩ := List.map_eq_append_iff.1 h
 obtain ⟨x, L3, rfl, hx, hB2⟩ := List.map_eq_cons_iff.1 hB
 injection hx with h1 h2
 exact ⟨L1, x.2, L3, by rw [hL, ← h1], h2.symm, hA.symm, hB2.symm⟩
theorem secTab_facts : ∀ s ∈ secTab, (∃ j, lookS s.1 secTabV 0 = some (j, .string s.2)) ∧ s.2.size ≤ 1000 ∧ s.1.size ≤ 1000 ∧ ∀ i, i < 20 → lowKey (s.2 ++ colons ++ (s.1 ++ numB i)) = true := by
 intro s hs
 simp only [secTab, List.mem_cons, List.not_mem_nil, or_false] at hs
 rcases hs with rfl | rfl | rfl | rfl | rfl
 ·exact ⟨⟨0, rfl⟩, by decide, by decide, by decide⟩
 ·exact ⟨⟨1, rfl⟩, by decide, by decide, by decide⟩
 ·exact ⟨⟨2, rfl⟩, by decide, by decide, by decide⟩
 ·exact ⟨⟨3, rfl⟩, by decide, by decide, by decide⟩
 ·exact ⟨⟨4, rfl⟩, by decide, by decide, by decide⟩
/-- all sections that must be there are there -/
def needB : List ByteArray := [⟨#[114]⟩, ⟨#[112]⟩, ⟨#[101]⟩, ⟨#[109]⟩]
def hasAll (ab : Ab) : Bool := needB.all fun s => (getC s ab).isSome
theorem RgS.turn {w w' : World} {r M : Nat} {st left : List (ByteArray × Value)} {bs : List Nat} (h : RgS w r M st left) (hm : MTurn bs w w') (hM : M ∉ bs) : RgS w' r M st left := by
 have hlt := h.lt
 obtain ⟨es, c, since, c0, seen, h1, h2, h3⟩ := h
 exact ⟨es, c, since, c0, seen, hm.kind r _ h1 (fun _ _ e => by cases e), (hm.block M hlt.2 hM).trans h2, h3⟩
theorem MAb.stepped {w w' : World} {M r : Nat} {st : MSt} {ab : Ab} {Mx : Nat} {s l : List (ByteArray × Value)} (h : MAb w M st ab) (hs : Stepped w w' r) (hr : RgS w r Mx s l) : MAb w' M st ab := by
 obtain ⟨es, c, since, c0, seen, h1, h2, h3⟩ := hr
 have hne : ∀ k es c, w.heap[k]? = some (.map es c) → k ≠ r := fun k es c hk e => by rw [e, h1] at hk; cases hk
 refine ⟨h.mm.move (fun k hk => hs.block k ?_), h.ab.kept (fun g cs t hg => hs.block g (fun e => by rw [e, h1] at hg; cases hg))⟩
 rcases List.mem_cons.1 hk with rfl | hk
 ·obtain ⟨es, c, hb, _⟩ := h.mm.top
  exact hne _ _ _ hb
 ·obtain ⟨x, hx, rfl⟩ := List.mem_map.1 hk
  obtain ⟨es, c, hb, _⟩ := h.mm.sub x hx
  exact hne _ _ _ hb
set_option maxHeartbeats 4000000 in
set_option maxRecDepth 100000 in
theorem has_section {w : World} {M : Nat} {st : MSt} {ab : Ab} (h : MAb w M st ab) (s : ByteArray) :
  Calls Tryz.prog 93 #[.map (some M), .string s] w fun e w' => e = .returned (.bool (getC s ab).isSome) ∧ w' = w := by
 have key : ∀ {st : MSt} {ab : Ab}, AbOf w st ab → ((∃ A b l B, st = A ++ (s, b, l) :: B ∧ ∀ x ∈ A, x.1 ≠ s) → (getC s ab).isSome = true) ∧ ((∀ x ∈ st, x.1 ≠ s) → (getC s ab).isSome = false) := by
  intro st ab h
  induction h with
  | nil => exact ⟨fun ⟨A, b, l, B, h, _⟩ => by simp at h, fun _ => rfl⟩
  | cons h t ih =>
   rename_i a b l m
   unfold getC
   rw [← h.1]
   by_cases g : s = a.1
   ·rw [if_pos g]
    exact ⟨fun _ => rfl, fun hn => absurd g.symm (hn a (List.mem_cons_self ..))⟩
   ·rw [if_neg g]
    refine ⟨fun ⟨A, b2, l2, B, e, hA⟩ => ih.1 ?_, fun hn => ih.2 (fun x hx => hn x (List.mem_cons_of_mem _ hx))⟩
    cases A with
    | nil => injection e with e1 e2; exact absurd (congrArg Prod.fst e1).symm g
    | cons y A =>
     injection e with e1 e2
     exact ⟨A, b2, l2, B, e2, fun x hx => hA x (List.mem_cons_of_mem _ hx)⟩
 obtain ⟨k1, k2⟩ := key h.ab
 rcases mst_cases s st with ⟨A, b, l, B, rfl, hA⟩ | hA
 ·have hl := h.mm.top.look uM2 uMs (look_msec hA 0) false
  rw [k1 ⟨A, b, l, B, rfl, hA⟩]
  clear key k1 k2 h hA
  simp only [Bool.false_eq_true, if_false] at hl
  have hn1 : ∀ (b : Nat) (W : World), (binOp .neq 91 (.map (some b)) (.map none)).run Tryz.prog W = .ok (.bool true) W := fun b W => by kernel_rfl
  have hn2 : ∀ (W : World), (binOp .neq 91 (.map none) (.map none)).run Tryz.prog W = .ok (.bool false) W := fun W => by kernel_rfl
  go_enter Tryz.func93, Tryz.ntmps93
  go_wp2
  go_ret
  exact ⟨rfl, rfl⟩
 ·have hl := h.mm.top.look_none uM2 uMs (look_msec_none hA) (zM2 w) false
  rw [k2 hA]
  clear key k1 k2 h hA
  simp only [Bool.false_eq_true, if_false] at hl
  have hn1 : ∀ (b : Nat) (W : World), (binOp .neq 91 (.map (some b)) (.map none)).run Tryz.prog W = .ok (.bool true) W := fun b W => by kernel_rfl
  have hn2 : ∀ (W : World), (binOp .neq 91 (.map none) (.map none)).run Tryz.prog W = .ok (.bool false) W := fun W => by kernel_rfl
  go_enter Tryz.func93, Tryz.ntmps93
  go_wp2
  go_ret
  exact ⟨rfl, rfl⟩
set_option maxHeartbeats 4000000 in
set_option maxRecDepth 100000 in
theorem required (w : World) : Calls Tryz.prog 92 #[] w fun e w' => e = .returned (.slice (some ⟨w.heap.size, 0, none⟩) 4 4) ∧ (∀ i, i < 4 → w'.cell? ⟨w.heap.size, i, none⟩ = some (.string (needB.getD i ⟨#[]⟩))) ∧ Below w.heap.size w w' := by
 go_enter Tryz.func92, Tryz.ntmps92
 go_wp2
 go_ret
 refine ⟨rfl, fun i hi => ?_, (Below.refl _ _).alloc (Nat.le_refl _) _⟩
 rcases (show i = 0 ∨ i = 1 ∨ i = 2 ∨ i = 3 from by omega) with rfl | rfl | rfl | rfl <;> exact cell_of (heap_alloc_new w _) rfl
theorem MTurn.stepped {bs : List Nat} {a b c : World} {r : Nat} (h : MTurn bs a b) (hs : Stepped b c r) (hr : a.heap.size ≤ r) : MTurn bs a c :=
 ⟨hs.os.trans h.os, hs.tape.trans h.tape, hs.output.trans h.output, by rw [hs.size]; exact h.size, fun k hk hn => (hs.block k (by omega)).trans (h.block k hk hn), fun k o hk ho => (hs.block k (by have := (Array.getElem?_eq_some_iff.1 hk).1; omega)).trans (h.kind k o hk ho)⟩
theorem notin_more {M n x : Nat} {st st1 : MSt} (hx : x ∉ M :: blks st) (hlt : x < n) (h : ∀ j ∈ blks st1, j ∈ blks st ∨ n ≤ j) : x ∉ M :: blks st1 := by
 intro hm
 rcases List.mem_cons.1 hm with e | hm
 ·exact hx (by rw [e]; exact List.mem_cons_self ..)
 ·rcases h x hm with h | h
  ·exact hx (List.mem_cons_of_mem _ h)
  ·omega
theorem ConfIs.lts {w : World} {p m : Nat} {cst : Secs} (h : ConfIs w p m cst) : ∀ x ∈ m :: cst.map (·.2.1), x < w.heap.size := by
 intro k hk
 rcases List.mem_cons.1 hk with rfl | hk
 ·obtain ⟨es, c, h1, _⟩ := h.top
  exact (Array.getElem?_eq_some_iff.1 h1).1
 ·obtain ⟨x, hx, rfl⟩ := List.mem_map.1 hk
  obtain ⟨es, c, h1, _⟩ := h.sub x hx
  exact (Array.getElem?_eq_some_iff.1 h1).1
theorem StrTab.lt {w : World} (h : StrTab w) : 0 < w.heap.size := by
 have hgn : Tryz.prog.globalNamed "strings.asciiSpace" = some 0 := by kernel_rfl
 unfold StrTab Lib.TabIs World.var? at h
 rw [hgn] at h
 simp only [Option.bind_some] at h
 rcases Nat.lt_or_ge 0 w.heap.size with h' | h'
 ·exact h'
 ·rw [Array.getElem?_eq_none h'] at h; cases h
set_option maxHeartbeats 4000000 in
set_option maxRecDepth 100000 in
theorem err_new (s : ByteArray) (w : World) : Calls Tryz.prog 94 #[.string s] w fun e w' => (∃ t x, e = .returned (.iface t x)) ∧ Below w.heap.size w w' := by
 go_enter Tryz.func94, Tryz.ntmps94
 go_wp2
 go_ret
 exact ⟨⟨_, _, rfl⟩, (Below.refl _ _).alloc (Nat.le_refl _) _⟩
theorem need_facts : ∀ i, i < 4 → (∃ j nm, lookS (needB.getD i ⟨#[]⟩) secTabV 0 = some (j, .string nm) ∧ nm.size ≤ 100) ∧ needB.take (i + 1) = needB.take i ++ [needB.getD i ⟨#[]⟩] := by
 intro i hi
 rcases (show i = 0 ∨ i = 1 ∨ i = 2 ∨ i = 3 from by omega) with rfl | rfl | rfl | rfl
 ·exact ⟨⟨0, _, rfl, by decide⟩, rfl⟩
 ·exact ⟨⟨1, _, rfl, by decide⟩, rfl⟩
 ·exact ⟨⟨3, _, rfl, by decide⟩, rfl⟩
 ·exact ⟨⟨4, _, rfl, by decide⟩, rfl⟩
theorem join_small (sep : List UInt8) : ∀ (l : List ByteArray), (∀ x ∈ l, x.size ≤ 100) → (Lib.join (l.map (·.data.toList)) sep).length ≤ l.length * (100 + sep.length)
 | [], _ => by simp [Lib.join]
 | [x], h => by
  have := h x (by simp)
  simp [Lib.join]
  omega
 | x :: y :: l, h => by
  have ih := join_small sep (y :: l) (fun z hz => h z (List.mem_cons_of_mem _ hz))
  have hx : x.data.toList.length ≤ 100 := h x (by simp)
  have e2 : Lib.join ((x :: y :: l).map (·.data.toList)) sep = x.data.toList ++ (sep ++ Lib.join ((y :: l).map (·.data.toList)) sep) := by
   simp [Lib.join, List.intercalate]
  rw [e2, List.length_append, List.length_append]
  have e : (x :: y :: l).length * (100 + sep.length) = (y :: l).length * (100 + sep.length) + (100 + sep.length) := Nat.succ_mul _ _
  rw [e]
  omega
theorem own_blk9 {n e : Nat} {ok : Nat → Prop} {w : World} {v : Value} {x : ByteArray} {l : List ByteArray} (h : Kd.R Kd.string e w n ok v (x :: l)) : ∃ g cap, v = .slice (some ⟨g, 0, none⟩) (x :: l).length cap := by
 rcases (Kd.own_of_R h).2 with ⟨_, h0⟩ | ⟨g, cap, cur, rfl, hg, _⟩
 ·exact absurd h0 (by simp)
 ·exact ⟨g, cap, rfl⟩
/-- an error, or none -/
def ErrIs (ok : Bool) (e : Ending) : Prop := ∃ ev, e = .returned ev ∧ (if ok then ev = .nilIface else ∃ t x, ev = .iface t x)
def LoadPost (k : Nat) (D : Conf) (w : World) (M : Nat) (st : MSt) (ab : Ab) (e : Ending) (w' : World) : Prop :=
 ∃ l st', l.Perm secTab ∧ ErrIs (hasAll (putSecs k D ab l)) e ∧ MAb w' M st' (putSecs k D ab l) ∧ (∀ n ∈ blks st', n ∈ blks st ∨ w.heap.size ≤ n) ∧ MTurn (M :: blks st) w w'
set_option maxHeartbeats 8000000 in
set_option maxRecDepth 100000 in
theorem load_all (k : Nat) {w : World} {M p m : Nat} {cst : Secs} {st : MSt} {ab : Ab} (hM : MAb w M st ab) (hC : ConfIs w p m cst) (hdis : ∀ x ∈ m :: cst.map (·.2.1), x ∉ M :: blks st) (htab : StrTab w) (hg : 0 ∉ M :: blks st)
  (hall : ∀ s ∈ secTab, readC k (confOf cst) s.1 s.2 12 1 = some (secL k (confOf cst) s)) :
  Calls Tryz.prog 73 #[.map (some M), .iface 141 (.pointer (some ⟨p, 0, none⟩))] w fun e w' => LoadPost k (confOf cst) w M st ab e w' := by
 have HM0 := Aside0.mk hM
 have HC := Aside0.mk hC
 have HD := Aside0.mk hdis
 have HTB := Aside0.mk htab
 have HG := Aside0.mk hg
 have HALL := Aside0.mk hall
 clear hM hC hdis htab hg hall
 go_enter Tryz.func73, Tryz.ntmps73
 go_upto_region 1 with (fail)
 have hsn := Aside0.mk (sec_names w)
 go_wp2_with (go_at_call 90; refine hsn.out.mono ?_; rintro e w2 ⟨rfl, hS, hb, hz⟩; obtain ⟨o, hrun, hrg⟩ := hS.range uM1; have HRG := Aside0.mk hrg; have HB2 := Aside0.mk hb; have HZ := Aside0.mk hz; clear hS hb hz hrg)
 have HMx := Aside0.mk (show w.heap.size ∉ M :: blks st from fun h => absurd (HM0.out.mm.lt _ h) (by omega))
 have HB3 := Aside0.mk (show Below w.heap.size w (w2.alloc o) from HB2.out.alloc HB2.out.size _)
 have HS3 := Aside0.mk (show (w2.alloc o).heap.size = w.heap.size + 2 from by simp [HZ.out])
 go_loopw [5] (fun v5 wr => ∃ (Dn R : List (ByteArray × ByteArray)) (st1 : MSt), Aside0 ((Dn ++ R).Perm secTab) ∧ Aside0 (RgS wr w2.heap.size w.heap.size secTabV (nameVals R)) ∧ Aside0 (MAb wr M st1 (putSecs k (confOf cst) ab Dn) ∧ (∀ n ∈ blks st1, n ∈ blks st ∨ w.heap.size + 2 ≤ n) ∧ MTurn (M :: blks st) w wr ∧ w.heap.size + 2 ≤ wr.heap.size))
  (fun _ wr => leftW wr w2.heap.size w.heap.size)
 case atStart => exact ⟨[], secTab, st, ⟨List.Perm.refl _⟩, HRG, ⟨HM0.out.below HB3.out, fun n hn => .inl hn, MTurn.ofBelow HB3.out, by rw [HS3.out]; exact Nat.le_refl _⟩⟩
 case round =>
  clear HRG hrun
  obtain ⟨Dn, R, st1, HP, HRG, HI⟩ := hrel
  rcases HRG.out.next (P := Tryz.prog) with ⟨h0, hnx⟩ | ⟨A, s, v, B, w4, hsp, hnx, hrg1, hst1, hen⟩
  ·have hR : R = [] := List.map_eq_nil_iff.1 h0
   subst hR
   have HP2 := Aside0.mk (show Dn.Perm secTab from by have := HP.out; rwa [List.append_nil] at this)
   clear HP HRG h0
   obtain ⟨ab2, hab⟩ : ∃ x, x = putSecs k (confOf cst) ab Dn := ⟨_, rfl⟩
   have HAB := Aside0.mk hab
   rw [← hab] at HI
   clear hab
   go_upto_region 6 with ((with_reducible refine gate_dst (N := 19) rfl ?_); refine Kd.R_make Kd.string (w0 := wr) wr.heap.size 9 rfl (N := 19) rfl 25 (.const (.int .i64 0)) (.const (.int .i64 0)) rfl 0 rfl rfl Tryz.underlying25 (.string ⟨#[]⟩) 16 info9 rfl (by decide) (by omega) ByteArray.empty (ok := fun _ => True) (okp := fun _ => True) rfl (fun _ h => h) trivial (by omega) (by omega) (Below.refl _ _) (Nat.le_refl _) ?_; intro v6 w6 ho hb hg hat; have HO6 := Aside0.mk (show Kd.R Kd.string 9 w6 wr.heap.size (fun k => k ≠ w6.heap.size) v6 [] from Kd.R_mono (Kd.R_bound (show Kd.R Kd.string 9 w6 wr.heap.size (fun _ => True) v6 [] from ho)) (fun k hk => by have := hk.2.2.1; omega)); have HB6 := Aside0.mk hb; clear ho hb hg hat)
   have hrq := Aside0.mk (required w6)
   go_wp2_with (go_at_call 92; refine hrq.out.mono ?_; rintro e w7 ⟨rfl, hc7, hb7⟩; have HC7 := Aside0.mk hc7; have HB7 := Aside0.mk hb7; clear hc7 hb7)
   have HO7 := Aside0.mk (Kd.R_below HO6.out HB7.out)
   have HB8 := Aside0.mk (HB6.out.trans (HB7.out.mono HB6.out.size))
   have HQL := Aside0.mk (show w6.heap.size < w7.heap.size from World.block_lt_of_cell? w7 _ (HC7.out 0 (by omega)))
   have HQW := Aside0.mk HB6.out.size
   clear HO6 hrq
   obtain ⟨wq, hwq⟩ : ∃ x, x = wr := ⟨_, rfl⟩
   subst hwq
   go_loopw [6, 22] (fun v6 v22 wr => ∃ (i : Nat) (l : List ByteArray), v22 = .int .i64 (i : Int) ∧ i ≤ 4 ∧ l.length ≤ i ∧ Aside0 ((l = [] ↔ ∀ s ∈ needB.take i, (getC s ab2).isSome = true) ∧ ∀ x ∈ l, x.size ≤ 100) ∧ Aside0 (Kd.R Kd.string 9 wr wq.heap.size (fun k => k ≠ w6.heap.size) v6 l) ∧ Aside0 (Below wq.heap.size wq wr) ∧ Aside0 (∀ j, j < 4 → wr.cell? ⟨w6.heap.size, j, none⟩ = some (.string (needB.getD j ⟨#[]⟩))) ∧ Aside0 (w6.heap.size < wr.heap.size))
    (fun _ v22 _ => 4 - (intOf v22).toNat)
   case atStart => exact ⟨0, [], rfl, by omega, by simp, ⟨by simp, by simp⟩, HO7, HB8, HC7, HQL⟩
   case round =>
    clear HO7 HB8 HC7 HB6 HB7
    obtain ⟨i, l, rfl, hi4, hli, HLL, HO, HB, HCL, HQ⟩ := hrel
    by_cases hlt : i < 4
    ·have hlt2 : (i : Int) < 4 := by omega
     have hcl := HCL.out i hlt
     obtain ⟨⟨jj, nm, hjj, hnm⟩, htk⟩ := need_facts i hlt
     have ix := run_at_str w6.heap.size 4 4 i hlt
     obtain ⟨s, hs⟩ : ∃ s, s = needB.getD i ⟨#[]⟩ := ⟨_, rfl⟩
     rw [← hs] at hcl hjj htk
     have HTK := Aside0.mk htk
     have hhs := Aside0.mk (has_section (HI.out.1.below HB.out) s)
     have hsn := Aside0.mk (sec_names wr)
     have HJJ := Aside0.mk hjj
     clear hs htk hjj
     cases hb : (getC s ab2).isSome with
     | true =>
      have HBB := Aside0.mk hb
      rw [hb] at hhs
      clear hb
      go_wp2_with (go_at_call 93; refine hhs.out.mono ?_; rintro e w8 ⟨rfl, rfl⟩)
      go_roundw
      case rel => exact ⟨i + 1, l, by go_num, by omega, by omega, ⟨by rw [HLL.out.1, HTK.out]; simp only [List.mem_append, List.mem_singleton]; exact ⟨fun q x hx => by rcases hx with hx | rfl; exact q x hx; exact HBB.out, fun q x hx => q x (.inl hx)⟩, HLL.out.2⟩, HO, HB, HCL, HQ⟩
      case measure => simp [intOf]; omega
     | false =>
      have HBB := Aside0.mk hb
      rw [hb] at hhs
      have HLI := Aside0.mk (show (l.length + 1) * 16 ≤ 140737488355328 from by omega)
      clear hb
      go_wp2_with (first
       | (go_at_call 93; refine hhs.out.mono ?_; rintro e wx ⟨rfl, rfl⟩)
       | (go_at_call 90; refine hsn.out.mono ?_; rintro e w8 ⟨rfl, hS8, hb8, hz8⟩; have hlk := hS8.look uM1 uMs HJJ.out false; simp only [Bool.false_eq_true, if_false] at hlk; have HB8 := Aside0.mk hb8; have HO8 := Aside0.mk (Kd.R_below HO.out hb8); have HW8 := Aside0.mk (HB.out.trans (hb8.mono HB.out.size)); clear hS8 hb8 hz8)
       | ((with_reducible refine gate_builtin (b := .append) (xs := #[.tmp 30, .tmp 34]) rfl ?_); at_builtin; refine Kd.R_append Kd.string (w0 := wq) wq.heap.size rfl (.tmp 30) (.tmp 34) 25 9 (.string ⟨#[]⟩) 16 rfl Tryz.underlying25 info9 rfl (by decide) (by omega) u6 l nm [.string nm] (fun k => k ≠ w6.heap.size) (fun _ => False) rfl ?aX ?aP (fun _ hk => hk.elim) ?aF ?aO ?aB ?aS ?aL ?_; (case aX => rfl); (case aP => exact rfl); (case aB => exact HW8.out); (case aF => exact (fun k hk => by have := HQ.out; have := HB8.out.size; omega)); (case aO => exact HO8.out); (case aS => exact HW8.out.size); (case aL => exact HLI.out); intro v9 w9 ho hb9 hg9 hat; have HO9 := Aside0.mk ho; have HB9 := Aside0.mk hb9; have HG9 := Aside0.mk hg9; clear ho hb9 hg9 hat))
      go_roundw
      case rel =>
       have hq := HQ.out
       have hs8 := HB8.out.size
       have hs9 := HG9.out.size
       refine ⟨i + 1, l ++ [nm], by go_num, by omega, by simp; omega, ⟨⟨fun h => by simp at h, fun h => ?_⟩, fun x hx => ?_⟩, HO9, HB9, ⟨fun j hj => ?_⟩, ⟨by omega⟩⟩
       ·exfalso
        have := h s (by rw [HTK.out]; simp)
        rw [HBB.out] at this
        cases this
       ·rcases List.mem_append.1 hx with hx | hx
        ·exact HLL.out.2 x hx
        ·obtain rfl := List.mem_singleton.1 hx
         exact hnm
       ·have h1 := HCL.out j hj
        have h2 := (HG9.out.block _ (by omega) (fun e => HO8.out.1 _ e.symm rfl)).trans (HB8.out.block _ hq)
        unfold World.cell? at h1 ⊢
        rw [h2]
        exact h1
      case measure => simp [intOf]; omega
    ·have hlt2 : ¬ ((i : Int) < 4) := by omega
     obtain rfl : i = 4 := by omega
     have HFIN := Aside0.mk (fun (wz : World) (hbz : Below wq.heap.size wq wz) => show MAb wz M st1 ab2 ∧ MTurn (M :: blks st) w wz from ⟨HI.out.1.below hbz, HI.out.2.2.1.next (MTurn.ofBelow (bs := []) hbz) (by simp)⟩)
     have HBLK := Aside0.mk (show ∀ n ∈ blks st1, n ∈ blks st ∨ w.heap.size ≤ n from fun n hn => (HI.out.2.1 n hn).imp_right (fun h => by omega))
     have hh : hasAll ab2 = decide (l = []) := by
      rw [Bool.eq_iff_iff, decide_eq_true_iff, HLL.out.1]
      unfold hasAll
      rw [List.all_eq_true]
      rfl
     have HH := Aside0.mk hh
     clear hh
     cases l with
     | nil =>
      have hlv := Kd.R_slice HO.out
      obtain ⟨Av, cv, rfl⟩ := hlv
      go_wp2
      go_ret
      obtain ⟨q1, q2⟩ := HFIN.out _ HB.out
      refine ⟨Dn, st1, HP2.out, ?_, by rw [← HAB.out]; exact q1, HBLK.out, q2⟩
      rw [← HAB.out, HH.out]
      exact ⟨_, rfl, rfl⟩
     | cons x l =>
      obtain ⟨g9, c9, rfl⟩ := own_blk9 HO.out
      have hlp : ((((x :: l : List ByteArray).length : Nat) : Int) > 0) := by simp
      have hsl : (x :: l).length ≤ 4 := hli
      have hjl : (Lib.join ((x :: l).map (·.data.toList)) [44]).length ≤ 1000 := by
       have h1 := join_small [44] (x :: l) HLL.out.2
       have h2 : (x :: l).length * (100 + ([44] : List UInt8).length) ≤ 4 * 101 := Nat.mul_le_mul hsl (by simp)
       omega
      have hcc := (Kd.R_reads' HO.out).2
      have hj := strings_Join.calls (some ⟨g9, 0, none⟩) c9 (x :: l) ⟨#[44]⟩ ⟨(Lib.join ((x :: l).map (·.data.toList)) [44]).toArray⟩ wr hcc.2 hcc.1 (by unfold strings_Join.f; rw [if_pos ⟨by omega, by simpa using (by omega : (Lib.join ((x :: l).map (·.data.toList)) [44]).length ≤ 140737488355328)⟩])
      have HJ := Aside0.mk hj
      obtain ⟨js, hjs⟩ : ∃ js : ByteArray, js = ⟨(Lib.join ((x :: l).map (·.data.toList)) [44]).toArray⟩ := ⟨_, rfl⟩
      have hjz : js.size ≤ 1000 := by rw [hjs]; show (Lib.join ((x :: l).map (·.data.toList)) [44]).toArray.size ≤ 1000; simpa using hjl
      rw [← hjs] at HJ
      clear hj hjs hjl hcc
      go_wp2_with (first
       | (go_at_call 95; refine HJ.out.mono ?_; rintro e wj ⟨rfl, hbj⟩; have HBJ := Aside0.mk hbj; clear hbj)
       | (go_at_call 94; refine (err_new _ _).mono ?_; rintro e we ⟨⟨t, xv, rfl⟩, hbe⟩; have HBE := Aside0.mk hbe; clear hbe))
      go_ret
      have hbz := HB.out.trans ((HBJ.out.trans (HBE.out.mono HBJ.out.size)).mono HB.out.size)
      obtain ⟨q1, q2⟩ := HFIN.out _ hbz
      refine ⟨Dn, st1, HP2.out, ?_, by rw [← HAB.out]; exact q1, HBLK.out, q2⟩
      rw [← HAB.out, HH.out]
      exact ⟨_, rfl, ⟨t, xv, rfl⟩⟩
  ·obtain ⟨A', name, B', rfl, rfl, rfl, rfl⟩ := nameVals_split hsp
   have HRG1 := Aside0.mk hrg1
   have hsec : (s, name) ∈ secTab := HP.out.mem_iff.1 (by simp)
   have HP1 := Aside0.mk (perm_mid HP.out)
   have HM4 := Aside0.mk (HI.out.1.stepped hst1 HRG.out)
   have HT4 := Aside0.mk (HI.out.2.2.1.stepped hst1 (HB2.out.size))
   have HW4 := Aside0.mk (show w.heap.size + 2 ≤ w4.heap.size from by rw [hst1.size]; exact HI.out.2.2.2)
   have hmore : ∀ n ∈ blks st1, n ∈ blks st ∨ w.heap.size ≤ n := fun n hn => (HI.out.2.1 n hn).imp_right (fun h => by omega)
   have hLT := HC.out.lts
   have HMx1 := Aside0.mk (show w.heap.size ∉ M :: blks st1 from notin_more (n := w.heap.size + 2) HMx.out (by omega) HI.out.2.1)
   obtain ⟨hf1, hf2, hf3, hf4⟩ := secTab_facts (s, name) hsec
   have hls := Aside0.mk (load_section k HM4.out (HC.out.turn HT4.out HD.out) (fun x hx => notin_more (n := w.heap.size) (HD.out x hx) (hLT x hx) hmore) (HTB.out.turn HT4.out HG.out) (notin_more (n := w.heap.size) HG.out HTB.out.lt hmore) s name hf1 hf4 ⟨hf2, hf3⟩ (secL k (confOf cst) (s, name)) (HALL.out (s, name) hsec))
   have hcnt : leftW w4 w2.heap.size w.heap.size < leftW wr w2.heap.size w.heap.size := by
    rw [hrg1.count, HRG.out.count]
    simp [nameVals]
   have HCNT := Aside0.mk (show (nameVals (A' ++ B')).length < leftW wr w2.heap.size w.heap.size from by rw [HRG.out.count]; simp [nameVals])
   have HMORE := Aside0.mk hmore
   clear hsp hrg1 hst1 hLT hmore hf1 hf2 hf3 hf4 hcnt hsec
   go_wp2_with (go_at_call 91; refine hls.out.mono ?_; rintro e w5 ⟨rfl, hq⟩; have HQ := Aside0.mk hq; clear hq)
   go_roundw
   case rel =>
    obtain ⟨st', q1, q2, q3⟩ := HQ.out
    refine ⟨Dn ++ [(s, name)], A' ++ B', st', HP1, ⟨?_⟩, ⟨?_, fun n hn => ?_, HT4.out.next q3 (fun x hx => ?_), Nat.le_trans HW4.out q3.size⟩⟩
    ·have := HRG1.out.turn q3 HMx1.out
     rwa [show nameVals A' ++ nameVals B' = nameVals (A' ++ B') from by unfold nameVals; rw [List.map_append]] at this
    ·rw [putSecs_snoc]
     exact q1
    ·rcases q2 n hn with h | h
     ·exact HI.out.2.1 n h
     ·exact .inr (Nat.le_trans HW4.out h)
    ·rcases List.mem_cons.1 hx with rfl | hx
     ·exact .inl (List.mem_cons_self ..)
     ·rcases HMORE.out x hx with h | h
      ·exact .inl (List.mem_cons_of_mem _ h)
      ·exact .inr h
   case measure =>
    obtain ⟨st', q1, q2, q3⟩ := HQ.out
    have := HRG1.out.turn q3 HMx1.out
    rw [show nameVals A' ++ nameVals B' = nameVals (A' ++ B') from by unfold nameVals; rw [List.map_append]] at this
    rw [this.count]
    exact HCNT.out
end
/-! A model that is read of a text. -/
section
open Go.Proofs
def ab0 : Ab := [(logB, [(logB, (⟨#[]⟩, []))])]
theorem loadall_lt (w : World) (o : Obj) : (w.alloc o).heap.size = w.heap.size + 1 := by simp
def ModNew (w w' : World) : Prop := ∃ st, MAb w' w.heap.size st ab0 ∧ ∀ n ∈ w.heap.size :: blks st, w.heap.size ≤ n
set_option maxHeartbeats 4000000 in
set_option maxRecDepth 100000 in
theorem new_model (w : World) :
  Calls Tryz.prog 31 #[] w fun e w' => e = .returned (.map (some w.heap.size)) ∧ ModNew w w' ∧ Below w.heap.size w w' := by
 have hmm := @run_makeMap Tryz.prog
 obtain ⟨Z, hZ⟩ : ∃ Z, Z = Obj.cells #[.string ⟨#[]⟩, .string ⟨#[]⟩, .slice none 0 0, .slice none 0 0, .slice none 0 0, .map none, .nilIface, .map none, .int .i32 0, .int .u32 0, .int .u32 0, .int .u32 0, .int .i32 0, .int .i32 0] 109 (0, 0) := ⟨_, rfl⟩
 have e1 : (w.alloc (.map #[] 0)).heap.size = w.heap.size + 1 := by simp
 have e2 : ((w.alloc (.map #[] 0)).alloc (.map #[] 0)).heap.size = w.heap.size + 1 + 1 := by simp
 have hz2 : (((w.alloc (.map #[] 0)).alloc (.map #[] 0)).alloc Z).heap[w.heap.size + 1 + 1]? = some Z := by rw [← e2]; exact heap_alloc_new _ _
 have h1 : SM (((w.alloc (.map #[] 0)).alloc (.map #[] 0)).alloc Z) (w.heap.size + 1) [] := by
  have := (SM.made (w.alloc (.map #[] 0))).keep (heap_alloc_old _ Z (by simp))
  simpa using this
 have h0 : SM (((w.alloc (.map #[] 0)).alloc (.map #[] 0)).alloc Z) w.heap.size [] := by
  have := (SM.made w).keep ((heap_alloc_old _ Z (by simp; omega)).trans (heap_alloc_old _ (.map #[] 0) (by simp)))
  exact this
 obtain ⟨es1, c1, r1, g1⟩ := h1.put uM3 uMs logB (.pointer (some ⟨w.heap.size + 1 + 1, 0, none⟩))
 have h2 : SM (setO (((w.alloc (.map #[] 0)).alloc (.map #[] 0)).alloc Z) (w.heap.size + 1) (.map es1 c1)) w.heap.size [] := h0.keep (setO_ne (by omega))
 obtain ⟨es2, c2, r2, g2⟩ := h2.put uM2 uMs logB (.map (some (w.heap.size + 1)))
 have HG2 := Aside0.mk g2
 have HG1 := Aside0.mk (g1.keep (w' := setO (setO (((w.alloc (.map #[] 0)).alloc (.map #[] 0)).alloc Z) (w.heap.size + 1) (.map es1 c1)) w.heap.size (.map es2 c2)) (setO_ne (by omega)))
 have HZ := Aside0.mk (show (setO (setO (((w.alloc (.map #[] 0)).alloc (.map #[] 0)).alloc Z) (w.heap.size + 1) (.map es1 c1)) w.heap.size (.map es2 c2)).heap[w.heap.size + 1 + 1]? = some Z from (setO_ne (by omega)).trans ((setO_ne (by omega)).trans hz2))
 have HZ2 := Aside0.mk hZ
 subst hZ
 clear h0 h1 h2 g1 g2 hz2 e1 e2
 unfold logB at r1 r2
 go_enter Tryz.func31, Tryz.ntmps31
 go_wp2
 go_ret
 refine ⟨rfl, ⟨[(logB, w.heap.size + 1, [(logB, w.heap.size + 1 + 1)])], ⟨⟨HG2.out, fun x hx => ?_, by simp⟩, ?_⟩, fun n hn => by rcases List.mem_cons.1 hn with rfl | hn; exact Nat.le_refl _; obtain rfl := List.mem_singleton.1 hn; exact Nat.le_succ _⟩, ?_⟩
 ·obtain rfl := List.mem_singleton.1 hx
  exact HG1.out
 ·exact .cons ⟨rfl, .cons ⟨rfl, ⟨_, _, HZ.out, rfl, rfl, TokOf.nil _ _⟩⟩ .nil⟩ .nil
 ·exact setO_below (setO_below ((((Below.refl _ _).alloc (Nat.le_refl _) _).alloc (by simp) _).alloc (by simp; omega) _) (by omega)) (Nat.le_refl _)
set_option maxHeartbeats 4000000 in
set_option maxRecDepth 100000 in
theorem load_text (k : Nat) {pe pb : Addr} {w : World} (hG : GlobsIn pe pb w) (htab : StrTab w) {M : Nat} {st : MSt} {ab : Ab} (hM : MAb w M st ab) (hg : 0 ∉ M :: blks st) (s : ByteArray) (D : Conf) (hgt : goodText s = true) (hp : parseP s.data.toList = some D)
  (hall : ∀ x ∈ secTab, readC k D x.1 x.2 12 1 = some (secL k D x)) :
  Calls Tryz.prog 50 #[.map (some M), .string s] w fun e w' => LoadPost k D w M st ab e w' := by
 have hn := Aside0.mk (new_config hG s D hgt hp)
 have hnn : ∀ w : World, (binOp .neq 61 .nilIface .nilIface).run Tryz.prog w = .ok (.bool false) w := fun w => by kernel_rfl
 have HLA := Aside0.mk (fun (w2 : World) (p m : Nat) (cst : Secs) (hC : ConfIs w2 p m cst) (hD : confOf cst = D) (hle : w.heap.size ≤ p ∧ w.heap.size ≤ m ∧ ∀ n, n ∈ cst.map (·.2.1) → w.heap.size ≤ n) (hb : Below w.heap.size w w2) => show Calls Tryz.prog 73 #[.map (some M), .iface 141 (.pointer (some ⟨p, 0, none⟩))] w2 fun e w' => LoadPost k D w M st ab e w' from by
  subst hD
  refine (load_all k (hM.below hb) hC (fun x hx h => ?_) (strtab_below htab hb) hg hall).mono ?_
  ·have h1 := hM.mm.lt x h
   rcases List.mem_cons.1 hx with rfl | hx
   ·omega
   ·have := hle.2.2 x hx; omega
  ·rintro e w' ⟨l, st', h1, h2, h3, h4, h5⟩
   exact ⟨l, st', h1, h2, h3, fun n hn => (h4 n hn).imp_right (fun h => Nat.le_trans hb.size h), (MTurn.ofBelow hb).trans h5⟩)
 clear hG htab hM hg hgt hp hall
 go_enter Tryz.func50, Tryz.ntmps50
 go_wp2_with (first
  | (go_at_call 72; refine hn.out.mono ?_; rintro e w2 ⟨p, m, cst, rfl, hC, hD, hle, hb⟩; have HL := Aside0.mk (HLA.out w2 p m cst hC hD hle hb); clear hC hD hle hb)
  | (go_at_call 73; refine HL.out.mono ?_; intro e w3 hq; obtain ⟨l, st', h1, ⟨ev, rfl, hev⟩, h3⟩ := hq; have HQ := Aside0.mk (show LoadPost k D w M st ab (.returned ev) w3 from ⟨l, st', h1, ⟨ev, rfl, hev⟩, h3⟩); clear h1 hev h3))
 go_ret
 exact HQ.out
/-- a model that is read, or an error -/
def NewPost (k : Nat) (D : Conf) (w : World) (e : Ending) (w' : World) : Prop :=
 ∃ l, l.Perm secTab ∧ Below w.heap.size w w' ∧ if hasAll (putSecs k D ab0 l) then ∃ st, e = .returned (.tuple #[.map (some w.heap.size), .nilIface]) ∧ MAb w' w.heap.size st (putSecs k D ab0 l) else ∃ t x, e = .returned (.tuple #[.map none, .iface t x])
theorem MTurn.toBelow {bs : List Nat} {a b c : World} (hb : Below a.heap.size a b) (h : MTurn bs b c) (hbs : ∀ x ∈ bs, a.heap.size ≤ x) : Below a.heap.size a c :=
 ⟨h.os.trans hb.os, h.tape.trans hb.tape, h.output.trans hb.output, Nat.le_trans hb.size h.size, fun k hk => (h.block k (Nat.lt_of_lt_of_le hk hb.size) (fun hx => by have := hbs k hx; omega)).trans (hb.block k hk)⟩
set_option maxHeartbeats 4000000 in
set_option maxRecDepth 100000 in
theorem new_from (k : Nat) {pe pb : Addr} {w : World} (hG : GlobsIn pe pb w) (htab : StrTab w) (s : ByteArray) (D : Conf) (hgt : goodText s = true) (hp : parseP s.data.toList = some D)
  (hall : ∀ x ∈ secTab, readC k D x.1 x.2 12 1 = some (secL k D x)) :
  Calls Tryz.prog 25 #[.string s] w fun e w' => NewPost k D w e w' := by
 have hnm := Aside0.mk (new_model w)
 have HLT := Aside0.mk (fun (w2 : World) (st : MSt) (hM : MAb w2 w.heap.size st ab0) (hbl : ∀ n ∈ w.heap.size :: blks st, w.heap.size ≤ n) (hb : Below w.heap.size w w2) => show Calls Tryz.prog 50 #[.map (some w.heap.size), .string s] w2 fun e w' => LoadPost k D w2 w.heap.size st ab0 e w' from by
  obtain ⟨g0, g1, g2, g3, g4⟩ := hG.gl.lts
  exact load_text k ⟨hG.gl.keep g0 g1 g2 g3 g4 (fun k hk => hb.block k hk), hG.ne⟩ (strtab_below htab hb) hM (fun h => by have := hbl _ h; have := htab.lt; omega) s D hgt hp hall)
 clear hG htab hgt hp hall
 have hn1 : ∀ w : World, (binOp .neq 61 .nilIface .nilIface).run Tryz.prog w = .ok (.bool false) w := fun w => by kernel_rfl
 have hn2 : ∀ (t : TypeId) (x : Value) (w : World), (binOp .neq 61 (.iface t x) .nilIface).run Tryz.prog w = .ok (.bool true) w := fun t x w => by kernel_rfl
 go_enter Tryz.func25, Tryz.ntmps25
 go_upto_region 3 with (first
  | (go_at_call 31; refine hnm.out.mono ?_; rintro e w2 ⟨rfl, ⟨st, hM, hbl⟩, hb⟩; have HB2 := Aside0.mk hb; have HBL := Aside0.mk hbl; have HL := Aside0.mk (HLT.out w2 st hM hbl hb); clear hM hbl hb)
  | (go_at_call 50; refine HL.out.mono ?_; intro e w3 hq; obtain ⟨l, st', h1, ⟨ev, rfl, hev⟩, h3, h4, h5⟩ := hq; have HP := Aside0.mk h1; have HEV := Aside0.mk hev; have HM3 := Aside0.mk h3; have HT3 := Aside0.mk h5; clear h1 hev h3 h4 h5))
 have HB := Aside0.mk (HT3.out.toBelow HB2.out HBL.out)
 cases hh : hasAll (putSecs k D ab0 l) with
 | true =>
  have hev := HEV.out
  rw [hh, if_pos rfl] at hev
  subst hev
  have HH := Aside0.mk hh
  clear hh
  go_wp2
  go_ret2
  refine ⟨l, HP.out, HB.out, ?_⟩
  rw [HH.out, if_pos rfl]
  exact ⟨st', rfl, HM3.out⟩
 | false =>
  have hev := HEV.out
  rw [hh, if_neg (by simp)] at hev
  obtain ⟨t, x, rfl⟩ := hev
  have HH := Aside0.mk hh
  clear hh
  go_wp2
  go_ret2
  refine ⟨l, HP.out, HB.out, ?_⟩
  rw [HH.out, if_neg (by simp)]
  exact ⟨t, x, rfl⟩
end
/-! The order of the sections does not matter. -/
section
open Go.Proofs
def secMap (k : Nat) (D : Conf) (s : ByteArray × ByteArray) : List (ByteArray × Asr) := (secL k D s).foldl (fun m p => putC p.1 p.2 m) []
def secsOf (k : Nat) (D : Conf) (l : List (ByteArray × ByteArray)) : Ab := (l.filter fun s => !(secL k D s).isEmpty).map fun s => (s.1, secMap k D s)
theorem getC_none {α : Type} {k : ByteArray} : ∀ {l : List (ByteArray × α)}, (∀ p ∈ l, p.1 ≠ k) → getC k l = none
 | [], _ => rfl
 | p :: l, h => by
  unfold getC
  rw [if_neg (fun e => h p (List.mem_cons_self ..) e.symm), getC_none (fun q hq => h q (List.mem_cons_of_mem _ hq))]
theorem putC_none {α : Type} {k : ByteArray} {v : α} : ∀ {l : List (ByteArray × α)}, (∀ p ∈ l, p.1 ≠ k) → putC k v l = l ++ [(k, v)]
 | [], _ => rfl
 | p :: l, h => by
  unfold putC
  rw [if_neg (fun e => h p (List.mem_cons_self ..) e.symm), putC_none (fun q hq => h q (List.mem_cons_of_mem _ hq))]
  rfl
theorem getC_last {α : Type} {k : ByteArray} {v : α} : ∀ {l : List (ByteArray × α)}, (∀ p ∈ l, p.1 ≠ k) → getC k (l ++ [(k, v)]) = some v
 | [], _ => by simp [getC]
 | p :: l, h => by
  have ih := getC_last (v := v) (l := l) (fun q hq => h q (List.mem_cons_of_mem _ hq))
  simp only [List.cons_append, getC]
  rw [if_neg (fun e => h p (List.mem_cons_self ..) e.symm), ih]
theorem putC_last {α : Type} {k : ByteArray} {v u : α} : ∀ {l : List (ByteArray × α)}, (∀ p ∈ l, p.1 ≠ k) → putC k v (l ++ [(k, u)]) = l ++ [(k, v)]
 | [], _ => by simp [putC]
 | p :: l, h => by
  have ih := putC_last (v := v) (u := u) (l := l) (fun q hq => h q (List.mem_cons_of_mem _ hq))
  simp only [List.cons_append, putC]
  rw [if_neg (fun e => h p (List.mem_cons_self ..) e.symm), ih]
theorem putAll_last {sec : ByteArray} : ∀ (l : List (ByteArray × Asr)) (ab : Ab) (m : List (ByteArray × Asr)), (∀ p ∈ ab, p.1 ≠ sec) → putAll (ab ++ [(sec, m)]) sec l = ab ++ [(sec, l.foldl (fun m p => putC p.1 p.2 m) m)]
 | [], _, _, _ => rfl
 | p :: l, ab, m, h => by
  rw [putAll_cons]
  have e : putD (ab ++ [(sec, m)]) sec p.1 p.2 = ab ++ [(sec, putC p.1 p.2 m)] := by
   unfold putD
   rw [getC_last h, putC_last h]
   rfl
  rw [e, putAll_last l ab _ h]
  rfl
theorem putAll_new {sec : ByteArray} (l : List (ByteArray × Asr)) (ab : Ab) (h : ∀ p ∈ ab, p.1 ≠ sec) : putAll ab sec l = if l.isEmpty then ab else ab ++ [(sec, l.foldl (fun m p => putC p.1 p.2 m) [])] := by
 cases l with
 | nil => rfl
 | cons p l =>
  rw [putAll_cons]
  have e : putD ab sec p.1 p.2 = ab ++ [(sec, [(p.1, p.2)])] := by
   unfold putD
   rw [getC_none h, putC_none h]
   rfl
  rw [e, putAll_last l ab _ h]
  rfl
theorem putSecs_eq (k : Nat) (D : Conf) : ∀ (l : List (ByteArray × ByteArray)) (ab : Ab), (l.map (·.1)).Nodup → (∀ s ∈ l, ∀ p ∈ ab, p.1 ≠ s.1) → putSecs k D ab l = ab ++ secsOf k D l
 | [], ab, _, _ => by simp [putSecs, secsOf]
 | s :: l, ab, hn, h => by
  rw [List.map_cons, List.nodup_cons] at hn
  have e : putSecs k D ab (s :: l) = putSecs k D (putAll ab s.1 (secL k D s)) l := rfl
  rw [e, putAll_new _ _ (h s (List.mem_cons_self ..))]
  unfold secsOf
  cases hs : (secL k D s).isEmpty with
  | true =>
   rw [if_pos rfl, putSecs_eq k D l ab hn.2 (fun t ht => h t (List.mem_cons_of_mem _ ht))]
   simp [secsOf, hs]
  | false =>
   rw [if_neg (by simp), putSecs_eq k D l _ hn.2 (fun t ht p hp => ?_)]
   ·simp [secsOf, secMap, hs]
   ·rcases List.mem_append.1 hp with hp | hp
    ·exact h t (List.mem_cons_of_mem _ ht) p hp
    ·obtain rfl := List.mem_singleton.1 hp
     intro e2
     exact hn.1 (by rw [e2]; exact List.mem_map_of_mem ht)
theorem secTab_names : (secTab.map (·.1)).Nodup ∧ ∀ s ∈ secTab, ∀ p ∈ ab0, p.1 ≠ s.1 := by
 refine ⟨by decide, fun s hs p hp => ?_⟩
 obtain rfl := List.mem_singleton.1 hp
 simp only [secTab, List.mem_cons, List.not_mem_nil, or_false] at hs
 rcases hs with rfl | rfl | rfl | rfl | rfl <;> decide
theorem putSecs_perm (k : Nat) (D : Conf) {l : List (ByteArray × ByteArray)} (h : l.Perm secTab) : (putSecs k D ab0 l).Perm (putSecs k D ab0 secTab) := by
 rw [putSecs_eq k D l ab0 ((h.map _).nodup_iff.2 secTab_names.1) (fun s hs => secTab_names.2 s (h.mem_iff.1 hs)), putSecs_eq k D secTab ab0 secTab_names.1 secTab_names.2]
 exact List.Perm.append_left _ ((h.filter _).map _)
theorem getC_isSome {α : Type} (k : ByteArray) : ∀ l : List (ByteArray × α), (getC k l).isSome = l.any fun p => decide (k = p.1)
 | [] => rfl
 | p :: l => by
  unfold getC
  rw [List.any_cons]
  by_cases g : k = p.1
  ·rw [if_pos g, decide_eq_true g]; rfl
  ·rw [if_neg g, decide_eq_false g, getC_isSome k l]; rfl
theorem hasAll_perm {a b : Ab} (h : a.Perm b) : hasAll a = hasAll b := by
 unfold hasAll
 congr 1
 funext s
 rw [getC_isSome, getC_isSome, Bool.eq_iff_iff, List.any_eq_true, List.any_eq_true]
 exact ⟨fun ⟨x, hx, hq⟩ => ⟨x, h.mem_iff.1 hx, hq⟩, fun ⟨x, hx, hq⟩ => ⟨x, h.mem_iff.2 hx, hq⟩⟩
theorem defsAb_perm {a b : Ab} (h : a.Perm b) : (defsAb a).Perm (defsAb b) := h.flatMap_right _
/-! More rounds tell the same. -/
theorem cookEM_mono (k : Nat) (m : Bool) (v : ByteArray) : LeO (cookEM k m v) (cookEM (k + 1) m v) := by
 unfold cookEM
 refine LeO.bind (util_EscapeAssertion.mono _ _) (fun v1 => LeO.ite (LeO.refl _) (LeO.ite (LeO.bind (util_EscapeStringLiterals.mono _ _) (fun v2 => LeO.bind (model_zzContains.mono _ _ _) (fun b => LeO.ite (LeO.bind (model_zzReplace.mono _ _ _ _) (fun v3 => model_zzReplace.mono _ _ _ _)) (LeO.refl _)))) (LeO.refl _)))
theorem cook_mono (k : Nat) (sec key v : ByteArray) : LeO (cook k sec key v) (cook (k + 1) sec key v) := by
 unfold cook
 refine LeO.ite (LeO.refl _) (LeO.ite (LeO.refl _) (LeO.ite (LeO.refl _) (LeO.ite ?_ (LeO.ite ?_ (LeO.refl _)))))
 ·intro r h
  obtain ⟨x, hx, rfl⟩ := Option.map_eq_some_iff.1 h
  rw [cookEM_mono _ _ _ _ hx]; rfl
 ·intro r h
  obtain ⟨x, hx, rfl⟩ := Option.map_eq_some_iff.1 h
  rw [cookEM_mono _ _ _ _ hx]; rfl
theorem readC_mono (k : Nat) (D : Conf) (sec name : ByteArray) : ∀ (n i : Nat), LeO (readC k D sec name n i) (readC (k + 1) D sec name n i)
 | 0, _ => fun r h => by simp [readC] at h
 | n + 1, i => by
  unfold readC
  refine LeO.ite (LeO.refl _) (LeO.bind (cook_mono _ _ _ _) (fun x => ?_))
  intro r h
  obtain ⟨y, hy, rfl⟩ := Option.map_eq_some_iff.1 h
  rw [readC_mono k D sec name n (i + 1) _ hy]; rfl
end
/-! ModelDefs. -/
section
open Go.Proofs
def allRead (k : Nat) (D : Conf) : Bool := secTab.all fun x => (readC k D x.1 x.2 12 1).isSome
def impl_ModelDefs.f (k : Nat) (s : ByteArray) : Option (List Def × Int) :=
 if goodText s then (parseP s.data.toList).bind fun D =>
  if allRead k D && decide ((defsAb (putSecs k D ab0 secTab)).length ≤ 1000000) then (if hasAll (putSecs k D ab0 secTab) then some (defsAb (putSecs k D ab0 secTab), 0) else some ([], 1)) else none
 else none
theorem allRead_sec {k : Nat} {D : Conf} (h : allRead k D = true) : ∀ x ∈ secTab, readC k D x.1 x.2 12 1 = some (secL k D x) := by
 intro x hx
 unfold allRead at h
 have h2 := List.all_eq_true.1 h x hx
 unfold secL
 cases hr : readC k D x.1 x.2 12 1 with
 | none => rw [hr] at h2; cases h2
 | some l => rfl
theorem allRead_mono {k : Nat} {D : Conf} (h : allRead k D = true) : allRead (k + 1) D = true ∧ ∀ x ∈ secTab, secL (k + 1) D x = secL k D x := by
 have h1 := allRead_sec h
 have h2 : ∀ x ∈ secTab, readC (k + 1) D x.1 x.2 12 1 = some (secL k D x) := fun x hx => readC_mono _ _ _ _ _ _ _ (h1 x hx)
 refine ⟨List.all_eq_true.2 (fun x hx => by rw [h2 x hx]; rfl), fun x hx => ?_⟩
 show (readC (k + 1) D x.1 x.2 12 1).getD [] = _
 rw [h2 x hx]; rfl
theorem putSecs_congr {k k' : Nat} {D : Conf} (l : List (ByteArray × ByteArray)) : ∀ (ab : Ab), (∀ x ∈ l, secL k' D x = secL k D x) → putSecs k' D ab l = putSecs k D ab l := by
 unfold putSecs
 induction l with
 | nil => intro _ _; rfl
 | cons x l ih =>
  intro ab h
  rw [List.foldl_cons, List.foldl_cons, h x (List.mem_cons_self ..)]
  exact ih _ (fun y hy => h y (List.mem_cons_of_mem _ hy))
theorem impl_ModelDefs.mono : ∀ a0 k, LeO (impl_ModelDefs.f k a0) (impl_ModelDefs.f (k + 1) a0) := by
 intro s k
 unfold impl_ModelDefs.f
 refine LeO.ite (LeO.bind (LeO.refl _) (fun D => ?_)) (LeO.refl _)
 intro r h
 cases hc : (allRead k D && decide ((defsAb (putSecs k D ab0 secTab)).length ≤ 1000000)) with
 | false => rw [hc] at h; cases h
 | true =>
  have hc2 := hc
  rw [Bool.and_eq_true] at hc2
  obtain ⟨h1, h2⟩ := allRead_mono hc2.1
  rw [putSecs_congr secTab ab0 h2, h1]
  rw [hc2.1] at h
  exact h
set_option maxHeartbeats 4000000 in
set_option maxRecDepth 100000 in
theorem model_read (k : Nat) {pe pb : Addr} {w : World} (hG : GlobsIn pe pb w) (htab : StrTab w) (s : ByteArray) (r0 : List Def) (r1 : Int) (h : impl_ModelDefs.f k s = some (r0, r1)) :
  Calls Tryz.prog 11 #[.string s] w fun e w' => ∃ v, e = .returned (.tuple #[v, .int .i64 r1]) ∧ (∃ l, l.Perm r0 ∧ Kd.R k28 28 w' w.heap.size (fun _ => True) v l) ∧ Below w.heap.size w w' := by
 unfold impl_ModelDefs.f at h
 cases hgt : goodText s with
 | false => rw [hgt, if_neg (by simp)] at h; cases h
 | true =>
 rw [hgt, if_pos rfl] at h
 obtain ⟨D, hp, h⟩ := Option.bind_eq_some_iff.1 h
 cases hc : (allRead k D && decide ((defsAb (putSecs k D ab0 secTab)).length ≤ 1000000)) with
 | false => rw [hc, if_neg (by simp)] at h; cases h
 | true =>
 rw [hc, if_pos rfl] at h
 rw [Bool.and_eq_true, decide_eq_true_iff] at hc
 have hnf := Aside0.mk (new_from k hG htab s D hgt hp (allRead_sec hc.1))
 have HLEN := Aside0.mk hc.2
 have HH := Aside0.mk h
 clear h hc hp hgt hG htab
 have hn1 : ∀ w : World, (binOp .neq 61 .nilIface .nilIface).run Tryz.prog w = .ok (.bool false) w := fun w => by kernel_rfl
 have hn2 : ∀ (t : TypeId) (x : Value) (w : World), (binOp .neq 61 (.iface t x) .nilIface).run Tryz.prog w = .ok (.bool true) w := fun t x w => by kernel_rfl
 cases hh : hasAll (putSecs k D ab0 secTab) with
 | true =>
  have h := HH.out
  rw [hh, if_pos rfl] at h
  obtain ⟨rfl, rfl⟩ : defsAb (putSecs k D ab0 secTab) = r0 ∧ (0 : Int) = r1 := by
   have := Option.some.inj h
   injection this with a b
   exact ⟨a, b⟩
  have HN := Aside0.mk (hnf.out.mono (R' := fun e w' => ∃ st ab, e = .returned (.tuple #[.map (some w.heap.size), .nilIface]) ∧ MAb w' w.heap.size st ab ∧ (defsAb ab).Perm (defsAb (putSecs k D ab0 secTab)) ∧ Below w.heap.size w w') (by
   rintro e w' ⟨l, hl, hb, hq⟩
   have hpm := putSecs_perm k D hl
   rw [hasAll_perm hpm, hh, if_pos rfl] at hq
   obtain ⟨st, he, hm⟩ := hq
   exact ⟨st, _, he, hm, defsAb_perm hpm, hb⟩))
  clear hnf HH hh h
  go_enter Tryz.func11, Tryz.ntmps11
  go_wp2_with (first
   | (go_at_call 25; refine HN.out.mono ?_; rintro e w2 ⟨st, ab, rfl, hm, hpm, hb⟩; have HPM := Aside0.mk hpm; have HB2 := Aside0.mk hb; have HDF := Aside0.mk (model_defs hm (by rw [hpm.length_eq]; exact HLEN.out)); clear hm hpm hb)
   | (go_at_call 26; refine HDF.out.mono ?_; rintro e w3 ⟨v, l, rfl, hl, hR, hb⟩; have HL := Aside0.mk hl; have HR := Aside0.mk hR; have HB3 := Aside0.mk hb; clear hl hR hb))
  go_ret2
  exact ⟨v, rfl, ⟨l, HL.out.trans HPM.out, Kd.R_lower HR.out HB2.out.size⟩, HB2.out.trans (HB3.out.mono HB2.out.size)⟩
 | false =>
  have h := HH.out
  rw [hh, if_neg (by simp)] at h
  obtain ⟨rfl, rfl⟩ : ([] : List Def) = r0 ∧ (1 : Int) = r1 := by
   have := Option.some.inj h
   injection this with a b
   exact ⟨a, b⟩
  have HN := Aside0.mk (hnf.out.mono (R' := fun e w' => (∃ t x, e = .returned (.tuple #[.map none, .iface t x])) ∧ Below w.heap.size w w') (by
   rintro e w' ⟨l, hl, hb, hq⟩
   rw [hasAll_perm (putSecs_perm k D hl), hh, if_neg (by simp)] at hq
   exact ⟨hq, hb⟩))
  clear hnf HH hh h
  go_enter Tryz.func11, Tryz.ntmps11
  go_wp2_with (go_at_call 25; refine HN.out.mono ?_; rintro e w2 ⟨⟨t, x, rfl⟩, hb⟩; have HB2 := Aside0.mk hb; clear hb)
  go_ret2
  exact ⟨_, rfl, ⟨[], List.Perm.refl _, Kd.R_nil _ _ _ _ _⟩, HB2.out⟩
end
abbrev Prem (w : World) : Prop := (∃ pe pb, GlobsIn pe pb w) ∧ StrTab w
theorem prem_below {w w' : World} (h : Prem w) (hb : Below w.heap.size w w') : Prem w' := by
 obtain ⟨⟨pe, pb, h1, h2⟩, h3⟩ := h
 obtain ⟨g0, g1, g2, g3, g4⟩ := h1.lts
 exact ⟨⟨pe, pb, h1.keep g0 g1 g2 g3 g4 (fun k hk => hb.block k hk), h2⟩, strtab_below h3 hb⟩
theorem impl_ModelDefs.calls (k : Nat) (a0 : ByteArray) (r0 : List Def) (r1 : Int) (w : World) (hprem : Prem w) (h : impl_ModelDefs.f k a0 = some (r0, r1)) :
  Calls Tryz.prog 11 #[.string a0] w fun e w' => ∃ v, e = .returned (.tuple #[v, .int .i64 r1]) ∧ (∃ l, l.Perm r0 ∧ Kd.R k28 28 w' w.heap.size (fun _ => True) v l) ∧ Below w.heap.size w w' := by
 obtain ⟨⟨pe, pb, hg⟩, ht⟩ := hprem
 exact model_read k hg ht a0 r0 r1 h

end Go.Proofs.YtjglpjlbnmpdfaaGreatDoor.PFnModelAdd
