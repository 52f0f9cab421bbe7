/- The machine side of laws.FnRolesOrder: links in memory: maps, roles, what adds and deletes a link. Each theorem says its own conditions. -/
import Derived.Test.YtjijaciaioieaaaGreatOFnRolesOrderx0
import Derived.StillTailTactics
import Derived.Handy
import Derived.MapKept
import Derived.Maps.RangeRun
import Derived.OneCell
import Derived.LoopN
namespace Go.Proofs.YtjijaciaioieaaaGreat.PFnRolesOrder
open Go.RowKit Go.Proofs.YtjijaciaioieaaaGreatW.PrintWords Go.Proofs.YtjijaciaioieaaaGreatW.PrintLast Go.Proofs.YtjijaciaioieaaaGreatW.PrintMore
set_option linter.unusedVariables false
set_option linter.unusedSimpArgs false
/-! Maps whose keys are told by texts (ky: strings themselves, or interface values that hold one): the list of their keys and values. -/
section
open Go.Proofs
abbrev Ents := List (ByteArray × Value)
def lookS (k : ByteArray) : Ents → Nat → Option (Nat × Value)
 | [], _ => none
 | p :: l, i => if k = p.1 then some (i, p.2) else lookS k l (i + 1)
def putS (k : ByteArray) (v : Value) : Ents → Ents
 | [] => [(k, v)]
 | p :: l => if k = p.1 then (p.1, v) :: l else p :: putS k v l
def delS (k : ByteArray) : Ents → Ents
 | [] => []
 | p :: l => if k = p.1 then l else p :: delS k l
def setO (w : World) (b : Nat) (o : Obj) : World := { w with heap := w.heap.setIfInBounds b o }
theorem lookS_ge (k : ByteArray) : ∀ (st : Ents) (i j : Nat) (v : Value), lookS k st i = some (j, v) → i ≤ j ∧ st[j - i]? = some (k, v)
 | [], _, _, _, h => by cases h
 | p :: st, i, j, v, h => by
  unfold lookS at h
  split at h
  ·rename_i g
   cases h
   subst g
   simp
  ·obtain ⟨h1, h2⟩ := lookS_ge k st (i + 1) j v h
   refine ⟨by omega, ?_⟩
   rw [show j - i = (j - (i + 1)) + 1 from by omega]
   simpa using h2
theorem lookS_none (k : ByteArray) : ∀ (st : Ents) (i : Nat), lookS k st i = none ↔ ∀ p ∈ st, p.1 ≠ k
 | [], _ => by simp [lookS]
 | p :: st, i => by
  unfold lookS
  by_cases g : k = p.1
  ·subst g
   simp
  ·have g2 : ¬ p.1 = k := fun e => g e.symm
   simp [g, g2, lookS_none k st (i + 1)]
theorem putS_new (k : ByteArray) (v : Value) : ∀ (st : Ents), (∀ p ∈ st, p.1 ≠ k) → putS k v st = st ++ [(k, v)]
 | [], _ => rfl
 | p :: st, h => by
  unfold putS
  rw [if_neg (fun e => h p (List.mem_cons_self ..) e.symm), putS_new k v st (fun q hq => h q (List.mem_cons_of_mem _ hq))]
  rfl
theorem putS_at (k : ByteArray) (v : Value) : ∀ (st : Ents) (i j : Nat) (u : Value), lookS k st i = some (j, u) → putS k v st = st.modify (j - i) (fun _ => (k, v))
 | [], _, _, _, h => by cases h
 | p :: st, i, j, u, h => by
  unfold lookS at h
  unfold putS
  by_cases g : k = p.1
  ·rw [if_pos g] at h ⊢
   cases h
   simp [g]
  ·rw [if_neg g] at h ⊢
   obtain ⟨h1, _⟩ := lookS_ge k st (i + 1) j u h
   rw [putS_at k v st (i + 1) j u h, show j - i = (j - (i + 1)) + 1 from by omega]
   rfl
theorem delS_none (k : ByteArray) : ∀ (st : Ents), (∀ p ∈ st, p.1 ≠ k) → delS k st = st
 | [], _ => rfl
 | p :: st, h => by
  unfold delS
  rw [if_neg (fun e => h p (List.mem_cons_self ..) e.symm), delS_none k st (fun q hq => h q (List.mem_cons_of_mem _ hq))]
theorem delS_at (k : ByteArray) : ∀ (st : Ents) (i j : Nat) (u : Value), lookS k st i = some (j, u) → delS k st = st.eraseIdx (j - i)
 | [], _, _, _, h => by cases h
 | p :: st, i, j, u, h => by
  unfold lookS at h
  unfold delS
  by_cases g : k = p.1
  ·rw [if_pos g] at h ⊢
   cases h
   simp
  ·rw [if_neg g] at h ⊢
   obtain ⟨h1, _⟩ := lookS_ge k st (i + 1) j u h
   rw [delS_at k st (i + 1) j u h, show j - i = (j - (i + 1)) + 1 from by omega]
   rfl
theorem map_erase {α β : Type} (f : α → β) : ∀ (l : List α) (i : Nat), (l.eraseIdx i).map f = (l.map f).eraseIdx i
 | [], _ => rfl
 | _ :: _, 0 => rfl
 | a :: l, i + 1 => by simp [map_erase f l i]
/-- how a map's keys are told -/
structure Keyed (P : Program) (K : TypeId) (ky : ByteArray → Value) : Prop where
 check : ∀ (em : Bool) (a : ByteArray) (w : World), (Instr.checkKey em 10000 K (ky a)).run P w = .ok () w
 find : ∀ (k : ByteArray) (w : World) (es : List MapEntry) (st : Ents), es.map (fun e => (e.key, e.val)) = st.map (fun p => (ky p.1, p.2)) → (Instr.findKey K (ky k) es).run P w = .ok (lookS k st 0) w
 stays : ∀ (a : ByteArray) (w : World), (Instr.keyThatStays (ky a) (ky a)).run P w = .ok (ky a) w
theorem findNow_str (k : ByteArray) : ∀ (es : List MapEntry) (st : Ents) (i : Nat), es.map (fun e => (e.key, e.val)) = st.map (fun p => (Value.string p.1, p.2)) → Instr.findNow .string (.string k) es i = some (lookS k st i)
 | [], [], _, _ => rfl
 | [], _ :: _, _, h => by simp at h
 | _ :: _, [], _, h => by simp at h
 | e :: es, p :: st, i, h => by
  simp only [List.map_cons, List.cons.injEq, Prod.mk.injEq] at h
  obtain ⟨⟨h1, h2⟩, h3⟩ := h
  have ih := findNow_str k es st (i + 1) h3
  unfold Instr.findNow lookS
  rw [h1]
  by_cases g : k = p.1
  ·have gb : (k == p.1) = true := (MapKept.bytes_beq k p.1).2 g
   simp only [Instr.sameNow, gb, if_pos g, h2]
  ·have gb : (k == p.1) = false := Bool.eq_false_iff.2 (fun e => g ((MapKept.bytes_beq k p.1).1 e))
   simp [Instr.sameNow, gb, g, ih]
theorem Keyed.str {P : Program} {K : TypeId} (hK : P.underlying K = some .string) : Keyed P K .string where
 check em a w := MapKept.run_checkKey (d := .string) hK (by unfold MapKept.IsKey; trivial) em 9999
 find k w es st h := MapKept.run_findKey hK (findNow_str k es st 0 h)
 stays a w := MapKept.run_keyThatStays (d := .string) (by unfold MapKept.IsKey; trivial)
theorem eqI {P : Program} {K S : TypeId} {ms : Array (String × TypeId)} {I : TypeInfo} (hK : P.underlying K = some (.interface ms)) (hS : P.underlying S = some .string) (hI : P.info? S = some I) (hc : I.comparable = true) (a b : ByteArray) (w : World) :
  (Op.equal K (.iface S (.string a)) (.iface S (.string b))).run P w = .ok (a == b) w := by
 have h1 : ∀ n, (Op.equalIn (n + 1) S (.string a) (.string b)).run P w = .ok (a == b) w := fun n => by
  unfold Op.equalIn
  simp [run_underlying hS, Result.andThen]
 unfold Op.equal Op.maxDepth
 rw [show (10000 : Nat) = 9998 + 1 + 1 from rfl]
 generalize hn : (9998 : Nat) = n
 unfold Op.equalIn
 have h2 := h1 n
 simp [run_underlying hK, Result.andThen, typeInfo, hI, hc, h2]
theorem findAsk {P : Program} {K S : TypeId} {ms : Array (String × TypeId)} {I : TypeInfo} (hK : P.underlying K = some (.interface ms)) (hS : P.underlying S = some .string) (hI : P.info? S = some I) (hc : I.comparable = true) (k : ByteArray) (w : World) : ∀ (es : List MapEntry) (st : Ents) (i : Nat), es.map (fun e => (e.key, e.val)) = st.map (fun p => (Value.iface S (.string p.1), p.2)) →
  (Instr.findAsking K (.iface S (.string k)) es i).run P w = .ok (lookS k st i) w
 | [], [], _, _ => rfl
 | [], _ :: _, _, h => by simp at h
 | _ :: _, [], _, h => by simp at h
 | e :: es, p :: st, i, h => by
  simp only [List.map_cons, List.cons.injEq, Prod.mk.injEq] at h
  obtain ⟨⟨h1, h2⟩, h3⟩ := h
  have ih := findAsk hK hS hI hc k w es st (i + 1) h3
  have he := eqI hK hS hI hc k p.1 w
  unfold Instr.findAsking lookS
  rw [h1]
  by_cases g : k = p.1
  ·rw [(MapKept.bytes_beq k p.1).2 g] at he
   simp [he, Result.andThen, if_pos g, h2]
  ·rw [Bool.eq_false_iff.2 (fun e => g ((MapKept.bytes_beq k p.1).1 e))] at he
   simp [he, Result.andThen, if_neg g, ih]
theorem Keyed.iface {P : Program} {K S : TypeId} {ms : Array (String × TypeId)} {I : TypeInfo} (hK : P.underlying K = some (.interface ms)) (hS : P.underlying S = some .string) (hI : P.info? S = some I) (hc : I.comparable = true) : Keyed P K (fun a => .iface S (.string a)) where
 check em a w := by
  have h1 : ∀ n, (Instr.checkKey em (n + 1) S (.string a)).run P w = .ok () w := fun n => MapKept.run_checkKey (d := .string) hS (by unfold MapKept.IsKey; trivial) em n
  rw [show (10000 : Nat) = 9998 + 1 + 1 from rfl]
  generalize (9998 : Nat) = n at *
  have h2 := h1 n
  unfold Instr.checkKey
  simp [run_underlying hK, Result.andThen, typeInfo, hI, hc, h2]
 find k w es st h := by
  have hn : Instr.findNow (.interface ms) (.iface S (.string k)) es 0 = some (lookS k st 0) ∨ Instr.findNow (.interface ms) (.iface S (.string k)) es 0 = none := by
   cases es with
   | nil => cases st with
    | nil => exact .inl rfl
    | cons _ _ => simp at h
   | cons e es =>
    refine .inr ?_
    unfold Instr.findNow
    cases e.key <;> rfl
  unfold Instr.findKey
  rcases hn with hn | hn
  ·simp [run_underlying hK, Result.andThen, hn]
  ·simp [run_underlying hK, Result.andThen, hn, findAsk hK hS hI hc k w es st 0 h]
 stays a w := by
  have : Instr.sameBits 10000 (.iface S (.string a)) (.iface S (.string a)) = true := by
   rw [show (10000 : Nat) = 9999 + 1 from rfl]
   generalize (9999 : Nat) = n
   simp [Instr.sameBits, (MapKept.bytes_beq a a).2 rfl]
  unfold Instr.keyThatStays
  rw [if_pos this]
  rfl
def Born (es : Array MapEntry) (c : Nat) : Prop := (es.toList.map (·.born)).Nodup ∧ ∀ e ∈ es.toList, e.born < c
def EMap (ky : ByteArray → Value) (es : Array MapEntry) (st : Ents) : Prop := es.toList.map (fun e => (e.key, e.val)) = st.map (fun p => (ky p.1, p.2))
/-- block M is a map that reads as st -/
def KM (ky : ByteArray → Value) (w : World) (M : Nat) (st : Ents) : Prop := ∃ es c, w.heap[M]? = some (.map es c) ∧ EMap ky es st ∧ Born es c
theorem setO_same {w : World} {b : Nat} {o : Obj} (h : b < w.heap.size) : (setO w b o).heap[b]? = some o := by simp [setO, h]
theorem setO_ne {w : World} {b k : Nat} {o : Obj} (h : k ≠ b) : (setO w b o).heap[k]? = w.heap[k]? := by
 unfold setO
 simp only [Array.getElem?_setIfInBounds]
 rw [if_neg (fun e => h e.symm)]
theorem setO_size {w : World} {b : Nat} {o : Obj} : (setO w b o).heap.size = w.heap.size := by simp [setO]
section
variable {ky : ByteArray → Value}
theorem KM.lt {w : World} {M : Nat} {st : Ents} (h : KM ky w M st) : M < w.heap.size := by
 obtain ⟨es, c, h1, _⟩ := h
 exact (Array.getElem?_eq_some_iff.1 h1).1
theorem KM.keep {w w' : World} {M : Nat} {st : Ents} (h : KM ky w M st) (hk : w'.heap[M]? = w.heap[M]?) : KM ky w' M st := by
 obtain ⟨es, c, h1, h2⟩ := h
 exact ⟨es, c, hk.trans h1, h2⟩
theorem KM.below {w w' : World} {M : Nat} {st : Ents} (h : KM ky w M st) (hb : Below w.heap.size w w') : KM ky w' M st := h.keep (hb.block M h.lt)
theorem KM.made (w : World) : KM ky (w.alloc (.map #[] 0)) w.heap.size [] := ⟨#[], 0, heap_alloc_new w _, rfl, by simp [Born]⟩
theorem KM.cell {w : World} {M : Nat} {st : Ents} (h : KM ky w M st) (cs : Array Value) (t : TypeId) (z : Nat × Nat) : w.heap[M]? ≠ some (.cells cs t z) := by
 obtain ⟨es, c, h1, _⟩ := h
 rw [h1]; intro e; cases e
variable {P : Program} {T K E : TypeId}
theorem KM.put (hT : P.underlying T = some (.map K E)) (hK : Keyed P K ky) {w : World} {M : Nat} {st : Ents} (h : KM ky w M st) (k : ByteArray) (v : Value) :
  ∃ es' c', (Instr.mapUpdate T (.map (some M)) (ky k) v).run P w = .ok () (setO w M (.map es' c')) ∧ KM ky (setO w M (.map es' c')) M (putS k v st) := by
 obtain ⟨es, c, hb, h, hn⟩ := h
 have hM := (Array.getElem?_eq_some_iff.1 hb).1
 cases hl : lookS k st 0 with
 | none =>
  refine ⟨es.push ⟨ky k, v, c⟩, c + 1, ?_, ⟨_, _, setO_same hM, ?_, ?_⟩⟩
  ·simp [Instr.mapUpdate, run_underlying hT, MapKept.run_getObj_map hb, hK.check, hK.find k w _ _ h, hl, MapKept.run_setObj_map _ hb, Result.andThen, setO]
  ·unfold EMap at h ⊢
   rw [putS_new k v st ((lookS_none k st 0).1 hl)]
   simp [h]
  ·refine ⟨?_, fun e he => ?_⟩
   ·rw [Array.toList_push, List.map_append, List.nodup_append]
    refine ⟨hn.1, by simp, fun a ha b hb => ?_⟩
    obtain ⟨e, he, rfl⟩ := List.mem_map.1 ha
    have := hn.2 e he
    simp at hb
    omega
   ·rw [Array.toList_push] at he
    rcases List.mem_append.1 he with he | he
    ·have := hn.2 e he; omega
    ·simp at he; subst he; simp
 | some ju =>
  obtain ⟨j, u⟩ := ju
  obtain ⟨_, hg⟩ := lookS_ge k st 0 j u hl
  simp only [Nat.sub_zero] at hg
  have hes : (es.toList.map (fun e => (e.key, e.val)))[j]? = some (ky k, u) := by rw [h, List.getElem?_map, hg]; rfl
  rw [List.getElem?_map] at hes
  obtain ⟨e, he, hkv⟩ := Option.map_eq_some_iff.1 hes
  have hek : e.key = ky k := congrArg Prod.fst hkv
  have he2 : es[j]? = some e := by simpa using he
  refine ⟨es.modify j fun e => { e with key := ky k, val := v }, c, ?_, ⟨_, _, setO_same hM, ?_, ?_⟩⟩
  ·simp [Instr.mapUpdate, run_underlying hT, MapKept.run_getObj_map hb, hK.check, hK.find k w _ _ h, hl, he2, hek, hK.stays, MapKept.run_setObj_map _ hb, Result.andThen, setO]
  ·unfold EMap at h ⊢
   rw [putS_at k v st 0 j u hl, Array.toList_modify, Nat.sub_zero]
   apply List.ext_getElem?
   intro i
   have hi := congrArg (fun l => l[i]?) h
   simp only [List.getElem?_map, List.getElem?_modify] at hi ⊢
   by_cases hij : j = i
   ·subst hij
    simp [he, hg]
   ·simp only [hij, if_false]
    simpa using hi
  ·have hb : (es.modify j fun e => { e with key := ky k, val := v }).toList.map (·.born) = es.toList.map (·.born) := by
    rw [Array.toList_modify]
    apply List.ext_getElem?
    intro i
    simp only [List.getElem?_map, List.getElem?_modify]
    by_cases hij : j = i
    ·subst hij; cases es.toList[j]? <;> simp
    ·simp [hij]
   refine ⟨by rw [hb]; exact hn.1, fun e he => ?_⟩
   have : e.born ∈ es.toList.map (·.born) := by rw [← hb]; exact List.mem_map_of_mem he
   obtain ⟨e2, he2, h3⟩ := List.mem_map.1 this
   rw [← h3]; exact hn.2 e2 he2
theorem KM.look (hT : P.underlying T = some (.map K E)) (hK : Keyed P K ky) {w : World} {M : Nat} {st : Ents} (h : KM ky w M st) {k : ByteArray} {j : Nat} {v : Value} (hl : lookS k st 0 = some (j, v)) (ok : Bool) :
  (Instr.lookup T (.map (some M)) (ky k) ok).run P w = .ok (if ok then .tuple #[v, .bool true] else v) w := by
 obtain ⟨es, c, hb, h, _⟩ := h
 cases ok <;> simp [Instr.lookup, run_underlying hT, MapKept.run_getObj_map hb, hK.check, hK.find k w _ _ h, hl, Result.andThen]
theorem KM.look_none (hT : P.underlying T = some (.map K E)) (hK : Keyed P K ky) {w : World} {M : Nat} {st : Ents} (h : KM ky w M st) {k : ByteArray} (hl : lookS k st 0 = none) {z : Value} (hz : (zeroValue E).run P w = .ok z w) (ok : Bool) :
  (Instr.lookup T (.map (some M)) (ky k) ok).run P w = .ok (if ok then .tuple #[z, .bool false] else z) w := by
 obtain ⟨es, c, hb, h, _⟩ := h
 cases ok <;> simp [Instr.lookup, run_underlying hT, MapKept.run_getObj_map hb, hK.check, hK.find k w _ _ h, hl, hz, Result.andThen]
theorem look_nil (hT : P.underlying T = some (.map K E)) (hK : Keyed P K ky) (w : World) (k : ByteArray) {z : Value} (hz : (zeroValue E).run P w = .ok z w) (ok : Bool) :
  (Instr.lookup T (.map none) (ky k) ok).run P w = .ok (if ok then .tuple #[z, .bool false] else z) w := by
 have hf := hK.find k w [] [] rfl
 cases ok <;> simp [Instr.lookup, run_underlying hT, hK.check, hf, lookS, hz, Result.andThen]
theorem KM.del (hT : P.underlying T = some (.map K E)) (hK : Keyed P K ky) {w : World} {M : Nat} {st : Ents} (h : KM ky w M st) (k : ByteArray) (ty : TypeId) (tys : Array TypeId) (h0 : tys[0]? = some T) :
  ∃ es' c', (Builtin.delete_ tys ty #[.map (some M), ky k]).run P w = .ok (.tuple #[]) (setO w M (.map es' c')) ∧ KM ky (setO w M (.map es' c')) M (delS k st) := by
 obtain ⟨es, c, hb, h, hn⟩ := h
 have hM := (Array.getElem?_eq_some_iff.1 hb).1
 cases hl : lookS k st 0 with
 | none =>
  refine ⟨es, c, ?_, ⟨_, _, setO_same hM, ?_, hn⟩⟩
  ·simp [Builtin.delete_, h0, run_underlying hT, MapKept.run_getObj_map hb, hK.check, hK.find k w _ _ h, hl, MapKept.run_setObj_map _ hb, Result.andThen, setO]
  ·rw [delS_none k st ((lookS_none k st 0).1 hl)]
   exact h
 | some ju =>
  obtain ⟨j, u⟩ := ju
  obtain ⟨_, hg⟩ := lookS_ge k st 0 j u hl
  simp only [Nat.sub_zero] at hg
  have hj : j < es.toList.length := by
   have := congrArg List.length h
   rw [List.length_map, List.length_map] at this
   rw [this]
   exact (List.getElem?_eq_some_iff.1 hg).1
  have hte : (es.eraseIdxIfInBounds j).toList = es.toList.eraseIdx j := by
   unfold Array.eraseIdxIfInBounds
   rw [dif_pos (by simpa using hj), Array.toList_eraseIdx]
  refine ⟨es.eraseIdxIfInBounds j, c, ?_, ⟨_, _, setO_same hM, ?_, ?_⟩⟩
  ·simp [Builtin.delete_, h0, run_underlying hT, MapKept.run_getObj_map hb, hK.check, hK.find k w _ _ h, hl, MapKept.run_setObj_map _ hb, Result.andThen, setO]
  ·unfold EMap at h ⊢
   rw [delS_at k st 0 j u hl, hte, Nat.sub_zero, map_erase, map_erase, h]
  ·refine ⟨?_, fun e he => hn.2 e ?_⟩
   ·rw [hte]
    exact hn.1.sublist ((List.eraseIdx_sublist _ _).map _)
   ·rw [hte] at he
    exact (List.eraseIdx_sublist _ _).subset he
/-- block r ranges over block M, that reads as st; left: what is still to come -/
def RgS (ky : ByteArray → Value) (w : World) (r M : Nat) (st left : Ents) : Prop :=
 ∃ es c since c0 seen, w.heap[r]? = some (.mapIter (some M) since seen c0) ∧ w.heap[M]? = some (.map es c) ∧ EMap ky es st ∧ Born es since ∧ since ≤ c0 ∧ since ≤ c ∧
  (Go.leftOf es seen).toList.map (fun e => (e.key, e.val)) = left.map (fun p => (ky p.1, p.2))
theorem KM.range (hT : P.underlying T = some (.map K E)) {w : World} {M : Nat} {st : Ents} (h : KM ky w M st) :
  ∃ o, (Instr.range T (.map (some M))).run P w = .ok (.pointer (some ⟨w.heap.size, 0, none⟩)) (w.alloc o) ∧ RgS ky (w.alloc o) w.heap.size M st st := by
 obtain ⟨es, c, hb, h, hn⟩ := h
 refine ⟨_, run_range_map w T K E M es c hT hb, es, c, c, c, #[], heap_alloc_new _ _, ?_, h, hn, Nat.le_refl _, Nat.le_refl _, ?_⟩
 ·rw [show ∀ o, (w.alloc o).heap[M]? = w.heap[M]? from fun o => (MapKept.heap_alloc w o).2 M (Array.getElem?_eq_some_iff.1 hb).1]; exact hb
 ·have : Go.leftOf es #[] = es := by unfold Go.leftOf; simp
  rw [this]; exact h
theorem RgS.keep {w w' : World} {r M : Nat} {st left : Ents} (h : RgS ky w r M st left) (hr : w'.heap[r]? = w.heap[r]?) (hM : w'.heap[M]? = w.heap[M]?) : RgS ky w' r M st left := by
 obtain ⟨es, c, since, c0, seen, h1, h2, h3⟩ := h
 exact ⟨es, c, since, c0, seen, hr.trans h1, hM.trans h2, h3⟩
theorem RgS.lt {w : World} {r M : Nat} {st left : Ents} (h : RgS ky w r M st left) : r < w.heap.size ∧ M < w.heap.size := by
 obtain ⟨es, c, since, c0, seen, h1, h2, h3⟩ := h
 exact ⟨(Array.getElem?_eq_some_iff.1 h1).1, (Array.getElem?_eq_some_iff.1 h2).1⟩
theorem leftOfM_push (es : Array MapEntry) (seen : Array Nat) (b : Nat) : Go.leftOf es (seen.push b) = (Go.leftOf es seen).filter (fun e => !(e.born == b)) := by
 unfold Go.leftOf
 rw [Array.filter_filter]
 congr 1
 funext e
 rw [Array.contains_push, Bool.not_or]
 rw [Bool.and_comm]
theorem filter_one {b : Nat} : ∀ {A B : List MapEntry} {e : MapEntry}, ((A ++ e :: B).map (·.born)).Nodup → b = e.born → (A ++ e :: B).filter (fun x => !(x.born == b)) = A ++ B
 | A, B, e, hn, hb => by
  subst hb
  simp only [List.map_append, List.map_cons] at hn
  have h1 : ∀ x ∈ A, x.born ≠ e.born := fun x hx => (List.nodup_append.1 hn).2.2 x.born (List.mem_map_of_mem hx) e.born (List.mem_cons_self ..)
  have h2 : ∀ x ∈ B, x.born ≠ e.born := fun x hx he => by
   have := (List.nodup_cons.1 (List.nodup_append.1 hn).2.1).1
   exact this (by rw [← he]; exact List.mem_map_of_mem hx)
  rw [List.filter_append, List.filter_cons]
  have e1 : A.filter (fun x => !(x.born == e.born)) = A := List.filter_eq_self.2 (fun x hx => by simpa using h1 x hx)
  have e2 : B.filter (fun x => !(x.born == e.born)) = B := List.filter_eq_self.2 (fun x hx => by simpa using h2 x hx)
  simp [e1, e2]
/-- a world in which one block r has turned (and the tape may have been asked) -/
structure Stepped (w w' : World) (r : Nat) : Prop where
 os : w'.os = w.os
 tape : w'.tape = w.tape
 output : w'.output = w.output
 size : w'.heap.size = w.heap.size
 block : ∀ k, k ≠ r → w'.heap[k]? = w.heap[k]?
theorem RgS.next {w : World} {r M : Nat} {st left : Ents} (h : RgS ky w r M st left) :
  (left = [] ∧ ∀ ty, (Instr.next (.pointer (some ⟨r, 0, none⟩)) false ty).run P w = .ok (.tuple #[.bool false]) w) ∨
  ∃ A k v B w', left = A ++ (k, v) :: B ∧ (∀ ty, (Instr.next (.pointer (some ⟨r, 0, none⟩)) false ty).run P w = .ok (.tuple #[.bool true, ky k, v]) w') ∧ RgS ky w' r M st (A ++ B) ∧ Stepped w w' r ∧ (Instr.entry (.pointer (some ⟨r, 0, none⟩))).run P w' = .ok (.tuple #[ky k, v]) w' := by
 obtain ⟨es, c, since, c0, seen, h1, h2, h3, h4, h5, h7, h6⟩ := h
 have hne : r ≠ M := fun e => by rw [e, h2] at h1; cases h1
 have hrl := (Array.getElem?_eq_some_iff.1 h1).1
 have hsub : List.Sublist (Go.leftOf es seen).toList es.toList := by
  unfold Go.leftOf
  rw [Array.toList_filter]
  exact List.filter_sublist
 rcases run_next_at (P := P) w 0 r M since c0 seen es c h1 h2 h4.2 h5 with ⟨h0, hrun⟩ | ⟨e, he, w1, hw1, hrun⟩
 ·refine .inl ⟨?_, fun ty => hrun⟩
  have e0 : (Go.leftOf es seen).toList = [] := List.eq_nil_of_length_eq_zero (by rw [Array.length_toList]; exact h0)
  rw [e0] at h6
  exact List.map_eq_nil_iff.1 h6.symm
 ·obtain ⟨A, B, hAB⟩ := List.append_of_mem he
  rw [hAB, List.map_append, List.map_cons] at h6
  obtain ⟨L1, L2, hL, hA, hB⟩ := List.map_eq_append_iff.1 h6.symm
  obtain ⟨x, L3, rfl, hx, hB2⟩ := List.map_eq_cons_iff.1 hB
  injection hx with hk hv
  have hw1b : ∀ k : Nat, w1.heap[k]? = w.heap[k]? := by rcases hw1 with h | h <;> (subst h; intro k; rfl)
  have hsz : w1.heap.size = w.heap.size := by rcases hw1 with rfl | rfl <;> rfl
  have hset : ∀ (k : Nat) (o : Obj), k ≠ r → (ChangeMaps.setBlock w1 r o).heap[k]? = w.heap[k]? := fun k o hk => by
   rw [← hw1b k]
   simp only [ChangeMaps.setBlock, Array.getElem?_setIfInBounds]
   rw [if_neg (fun e => hk e.symm)]
  refine .inr ⟨L1, x.1, x.2, L3, _, hL, fun ty => by rw [hk, hv]; exact hrun, ⟨es, c, since, c, seen.push e.born, ?_, ?_, h3, h4, h7, h7, ?_⟩, ⟨?_, ?_, ?_, ?_, fun k hk => hset k _ hk⟩, ?_⟩
  ·simp [ChangeMaps.setBlock, hsz, hrl]
  ·rw [hset M _ (Ne.symm hne)]; exact h2
  ·rw [leftOfM_push, Array.toList_filter, hAB, filter_one (by rw [← hAB]; exact h4.1.sublist (hsub.map _)) rfl, List.map_append, List.map_append, hA, hB2]
  ·rcases hw1 with rfl | rfl <;> rfl
  ·rcases hw1 with rfl | rfl <;> rfl
  ·rcases hw1 with rfl | rfl <;> rfl
  ·simp [ChangeMaps.setBlock, hsz]
  ·have := run_entry_at (P := P) (ChangeMaps.setBlock w1 r (.mapIter (some M) since (seen.push e.born) c)) r M since seen es c e (by simp [ChangeMaps.setBlock, hsz, hrl]) (by rw [hset M _ (Ne.symm hne)]; exact h2) (hsub.subset he) h4.1
   rw [hk, hv]; exact this
end
end
/-! Links, and what is come to by them: in plain words. -/
section
instance decMemB (b : ByteArray) : (l : List ByteArray) → Decidable (b ∈ l)
 | [] => isFalse (by simp)
 | x :: l => if h : b = x then isTrue (by rw [h]; exact List.mem_cons_self ..) else match decMemB b l with
  | isTrue g => isTrue (List.mem_cons_of_mem _ g)
  | isFalse g => isFalse (fun e => (List.mem_cons.1 e).elim h g)
abbrev Nx := ByteArray → List ByteArray
/-- what is come to in exactly n steps -/
def Rch (nx : Nx) (a : ByteArray) : Nat → ByteArray → Prop
 | 0, x => x = a
 | n + 1, x => ∃ y, Rch nx a n y ∧ x ∈ nx y
/-- whether b is among what is come to from F in at most n steps -/
def hasF (nx : Nx) (b : ByteArray) : Nat → List ByteArray → Bool
 | 0, F => decide (b ∈ F)
 | n + 1, F => decide (b ∈ F) || hasF nx b n (F.flatMap nx)
theorem decide_congr {p q : Prop} [Decidable p] [Decidable q] (h : p ↔ q) : decide p = decide q := by
 by_cases hq : q
 ·rw [decide_eq_true hq, decide_eq_true (h.2 hq)]
 ·rw [decide_eq_false hq, decide_eq_false (fun e => hq (h.1 e))]
theorem hasF_congr (nx : Nx) (b : ByteArray) : ∀ (n : Nat) {F G : List ByteArray}, (∀ x, x ∈ F ↔ x ∈ G) → hasF nx b n F = hasF nx b n G
 | 0, F, G, h => by unfold hasF; rw [decide_congr (h b)]
 | n + 1, F, G, h => by
  unfold hasF
  rw [decide_congr (h b), hasF_congr nx b n (F := F.flatMap nx) (G := G.flatMap nx) (fun x => by simp only [List.mem_flatMap, h])]
theorem hasF_none (nx : Nx) (b : ByteArray) : ∀ (n : Nat), hasF nx b n [] = false
 | 0 => by simp [hasF]
 | n + 1 => by simp [hasF, hasF_none nx b n]
theorem hasF_iff (nx : Nx) (a b : ByteArray) : ∀ (n m : Nat) (F : List ByteArray), (∀ x, x ∈ F ↔ Rch nx a m x) → (hasF nx b n F = true ↔ ∃ k, m ≤ k ∧ k ≤ m + n ∧ Rch nx a k b)
 | 0, m, F, h => by
  unfold hasF
  rw [decide_eq_true_iff, h]
  constructor
  ·exact fun e => ⟨m, Nat.le_refl _, Nat.le_refl _, e⟩
  ·rintro ⟨k, h1, h2, h3⟩
   obtain rfl : k = m := by omega
   exact h3
 | n + 1, m, F, h => by
  have ih := hasF_iff nx a b n (m + 1) (F.flatMap nx) (fun x => by
   rw [List.mem_flatMap]
   show _ ↔ ∃ y, Rch nx a m y ∧ x ∈ nx y
   simp only [h])
  unfold hasF
  rw [Bool.or_eq_true, decide_eq_true_iff, h, ih]
  constructor
  ·rintro (e | ⟨k, h1, h2, h3⟩)
   ·exact ⟨m, Nat.le_refl _, by omega, e⟩
   ·exact ⟨k, by omega, by omega, h3⟩
  ·rintro ⟨k, h1, h2, h3⟩
   rcases Nat.eq_or_lt_of_le h1 with e | e
   ·exact .inl (by rw [e]; exact h3)
   ·exact .inr ⟨k, by omega, by omega, h3⟩
/-- those of a list that are not among others, each once -/
def fresh : List ByteArray → List ByteArray → List ByteArray
 | _, [] => []
 | seen, x :: l => if x ∈ seen then fresh seen l else x :: fresh (x :: seen) l
theorem fresh_mem : ∀ (l seen : List ByteArray) (x : ByteArray), x ∈ fresh seen l ↔ x ∈ l ∧ x ∉ seen
 | [], seen, x => by simp [fresh]
 | y :: l, seen, x => by
  unfold fresh
  by_cases h : y ∈ seen
  ·rw [if_pos h, fresh_mem l seen x]
   constructor
   ·rintro ⟨h1, h2⟩
    exact ⟨List.mem_cons_of_mem _ h1, h2⟩
   ·rintro ⟨h1, h2⟩
    rcases List.mem_cons.1 h1 with rfl | h1
    ·exact absurd h h2
    ·exact ⟨h1, h2⟩
  ·rw [if_neg h, List.mem_cons, fresh_mem l (y :: seen) x]
   constructor
   ·rintro (rfl | ⟨h1, h2⟩)
    ·exact ⟨List.mem_cons_self .., h⟩
    ·exact ⟨List.mem_cons_of_mem _ h1, fun e => h2 (List.mem_cons_of_mem _ e)⟩
   ·rintro ⟨h1, h2⟩
    by_cases e : x = y
    ·exact .inl e
    ·exact .inr ⟨(List.mem_cons.1 h1).resolve_left e, fun g => (List.mem_cons.1 g).elim e h2⟩
theorem fresh_nodup : ∀ (l seen : List ByteArray), (fresh seen l).Nodup
 | [], _ => by simp [fresh]
 | y :: l, seen => by
  unfold fresh
  by_cases h : y ∈ seen
  ·rw [if_pos h]; exact fresh_nodup l seen
  ·rw [if_neg h, List.nodup_cons]
   exact ⟨fun e => ((fresh_mem l _ y).1 e).2 (List.mem_cons_self ..), fresh_nodup l _⟩
/-- all that is come to from F, in at most n steps, that was not seen: level by level -/
def impN (nx : Nx) : Nat → List ByteArray → List ByteArray → List ByteArray
 | 0, _, _ => []
 | n + 1, seen, F => fresh seen (F.flatMap nx) ++ impN nx n (seen ++ fresh seen (F.flatMap nx)) (fresh seen (F.flatMap nx))
theorem impN_none (nx : Nx) : ∀ (n : Nat) (seen : List ByteArray), impN nx n seen [] = []
 | 0, _ => rfl
 | n + 1, seen => by simp [impN, fresh, impN_none nx n seen]
theorem perm_of_mem {l m : List ByteArray} (hl : l.Nodup) (hm : m.Nodup) (h : ∀ x, x ∈ l ↔ x ∈ m) : l.Perm m := (List.perm_ext_iff_of_nodup hl hm).2 h
theorem impN_perm (nx : Nx) : ∀ (n : Nat) {s t F G : List ByteArray}, (∀ x, x ∈ s ↔ x ∈ t) → (∀ x, x ∈ F ↔ x ∈ G) → (impN nx n s F).Perm (impN nx n t G)
 | 0, _, _, _, _, _, _ => List.Perm.refl _
 | n + 1, s, t, F, G, hs, hF => by
  have h1 : ∀ x, x ∈ fresh s (F.flatMap nx) ↔ x ∈ fresh t (G.flatMap nx) := fun x => by
   rw [fresh_mem, fresh_mem, List.mem_flatMap, List.mem_flatMap, hs]
   simp only [hF]
  unfold impN
  refine (perm_of_mem (fresh_nodup _ _) (fresh_nodup _ _) h1).append (impN_perm nx n (fun x => ?_) h1)
  rw [List.mem_append, List.mem_append, hs, h1]
/-- what is come to in at most n steps, without what one starts from -/
def impl (nx : Nx) (n : Nat) (a : ByteArray) : List ByteArray := impN nx n [a] [a]
theorem impN_iff (nx : Nx) (a : ByteArray) : ∀ (n m : Nat) (seen F : List ByteArray), (∀ x, x ∈ seen ↔ ∃ k, k ≤ m ∧ Rch nx a k x) → (∀ x, x ∈ F ↔ Rch nx a m x ∧ ∀ k, k < m → ¬ Rch nx a k x) →
  (impN nx n seen F).Nodup ∧ ∀ x, x ∈ impN nx n seen F ↔ (∃ k, k ≤ m + n ∧ Rch nx a k x) ∧ x ∉ seen
 | 0, m, seen, F, hs, hF => ⟨by simp [impN], fun x => by simp only [impN, List.not_mem_nil, false_iff]; rw [hs]; simp⟩
 | n + 1, m, seen, F, hs, hF => by
  have hnew : ∀ x, x ∈ fresh seen (F.flatMap nx) ↔ Rch nx a (m + 1) x ∧ ∀ k, k < m + 1 → ¬ Rch nx a k x := fun x => by
   rw [fresh_mem, List.mem_flatMap, hs]
   constructor
   ·rintro ⟨⟨y, hy, hx⟩, hn⟩
    exact ⟨⟨y, ((hF y).1 hy).1, hx⟩, fun k hk hr => hn ⟨k, by omega, hr⟩⟩
   ·rintro ⟨⟨y, hy, hx⟩, hn⟩
    refine ⟨⟨y, (hF y).2 ⟨hy, fun k hk hr => hn (k + 1) (by omega) ⟨y, hr, hx⟩⟩, hx⟩, ?_⟩
    rintro ⟨k, hk, hr⟩
    exact hn k (by omega) hr
  have hseen : ∀ x, x ∈ seen ++ fresh seen (F.flatMap nx) ↔ ∃ k, k ≤ m + 1 ∧ Rch nx a k x := fun x => by
   rw [List.mem_append, hnew, hs]
   constructor
   ·rintro (⟨k, hk, hr⟩ | ⟨hr, _⟩)
    ·exact ⟨k, by omega, hr⟩
    ·exact ⟨m + 1, Nat.le_refl _, hr⟩
   ·rintro ⟨k, hk, hr⟩
    by_cases h : ∃ j, j ≤ m ∧ Rch nx a j x
    ·exact .inl h
    ·refine .inr ⟨?_, fun j hj hr2 => h ⟨j, by omega, hr2⟩⟩
     obtain rfl : k = m + 1 := by
      rcases Nat.lt_or_ge k (m + 1) with h1 | h1
      ·exact absurd ⟨k, by omega, hr⟩ h
      ·omega
     exact hr
  obtain ⟨h1, h2⟩ := impN_iff nx a n (m + 1) _ _ hseen hnew
  unfold impN
  refine ⟨List.nodup_append.2 ⟨fresh_nodup _ _, h1, fun x hx y hy e => ?_⟩, fun x => ?_⟩
  ·subst e
   exact ((h2 x).1 hy).2 (List.mem_append_right _ hx)
  ·rw [List.mem_append, h2, hnew, List.mem_append]
   constructor
   ·rintro (⟨hr, hn⟩ | ⟨⟨k, hk, hr⟩, hn⟩)
    ·refine ⟨⟨m + 1, by omega, hr⟩, fun e => ?_⟩
     obtain ⟨k, hk, hr2⟩ := (hs x).1 e
     exact hn k (by omega) hr2
    ·exact ⟨⟨k, by omega, hr⟩, fun e => hn (.inl e)⟩
   ·rintro ⟨⟨k, hk, hr⟩, hn⟩
    by_cases h : x ∈ fresh seen (F.flatMap nx)
    ·exact .inl ((hnew x).1 h)
    ·exact .inr ⟨⟨k, by omega, hr⟩, fun e => e.elim hn h⟩
theorem impl_iff (nx : Nx) (n : Nat) (a : ByteArray) : (impl nx n a).Nodup ∧ ∀ x, x ∈ impl nx n a ↔ x ≠ a ∧ ∃ k, k ≤ n ∧ Rch nx a k x := by
 obtain ⟨h1, h2⟩ := impN_iff nx a n 0 [a] [a] (fun x => by
  rw [List.mem_singleton]
  exact ⟨fun e => ⟨0, Nat.le_refl _, e⟩, fun ⟨k, hk, hr⟩ => by
   obtain rfl : k = 0 := by omega
   exact hr⟩) (fun x => by
  rw [List.mem_singleton]
  exact ⟨fun e => ⟨e, fun k hk => by omega⟩, fun h => h.1⟩)
 refine ⟨h1, fun x => ?_⟩
 rw [show impl nx n a = impN nx n [a] [a] from rfl, h2, List.mem_singleton, Nat.zero_add, and_comm]
/-- links: a user, a role -/
abbrev Edges := List (ByteArray × ByteArray)
def rolesE (E : Edges) : Nx := fun a => (E.filter fun e => decide (e.1 = a)).map (·.2)
def usersE (E : Edges) : Nx := fun a => (E.filter fun e => decide (e.2 = a)).map (·.1)
def hasE (E : Edges) (a b : ByteArray) : Bool := E.any fun e => decide (e = (a, b))
def addE (E : Edges) (a b : ByteArray) : Edges := if hasE E a b then E else E ++ [(a, b)]
def delE (E : Edges) (a b : ByteArray) : Edges := E.filter fun e => !decide (e = (a, b))
end
/-! A role manager in memory: a footprint (which block holds what, and whose it is), and how it turns. -/
section
open Go.Proofs
abbrev KY : ByteArray → Value := fun a => .iface 9 (.string a)
abbrev PT (n : Nat) : Value := .pointer (some ⟨n, 0, none⟩)
abbrev PV (n : Nat) : Value := .iface 121 (PT n)
/-- whose a block is -/
inductive Tag where
 | rm | all | am
 | role (n : ByteArray) | sr (n : ByteArray) | su (n : ByteArray) | sm (n : ByteArray) | sb (n : ByteArray) | mr (n : ByteArray) | mu (n : ByteArray)
inductive Piece where
 | cells (cs : Array Value) (t : TypeId)
 | map (e : Ents)
def Holds (w : World) (b : Nat) : Piece → Prop
 | .cells cs t => w.heap[b]? = some (.cells cs t (0, 0))
 | .map e => KM KY w b e
theorem Holds.keep {w w' : World} {b : Nat} : ∀ {pc : Piece}, Holds w b pc → w'.heap[b]? = w.heap[b]? → Holds w' b pc
 | .cells _ _, h, hk => hk.trans h
 | .map _, h, hk => KM.keep h hk
theorem Holds.lt {w : World} {b : Nat} : ∀ {pc : Piece}, Holds w b pc → b < w.heap.size
 | .cells _ _, h => (Array.getElem?_eq_some_iff.1 h).1
 | .map _, h => KM.lt h
abbrev Fp := Nat → Option (Tag × Piece)
def Mem (w : World) (F : Fp) : Prop := ∀ k t pc, F k = some (t, pc) → Holds w k pc
def upd (F : Fp) (b : Nat) (x : Tag × Piece) : Fp := fun k => if k = b then some x else F k
theorem upd_same (F : Fp) (b : Nat) (x : Tag × Piece) : upd F b x b = some x := if_pos rfl
theorem upd_ne (F : Fp) {b k : Nat} (x : Tag × Piece) (h : k ≠ b) : upd F b x k = F k := if_neg h
/-- only the blocks of a set turn, and new ones are laid -/
structure Turn (S : Nat → Prop) (w w' : World) : Prop where
 os : w'.os = w.os
 tape : w'.tape = w.tape
 output : w'.output = w.output
 size : w.heap.size ≤ w'.heap.size
 block : ∀ k, k < w.heap.size → ¬ S k → w'.heap[k]? = w.heap[k]?
/-- a set that has new blocks alone (from n on) beside those of another one -/
def NextS (n : Nat) (S S' : Nat → Prop) : Prop := ∀ k, S' k → S k ∨ n ≤ k
theorem NextS.refl (n : Nat) (S : Nat → Prop) : NextS n S S := fun _ h => .inl h
theorem NextS.trans {n m : Nat} {F G H : Nat → Prop} (h1 : NextS n F G) (h2 : NextS m G H) (hn : n ≤ m) : NextS n F H := fun k hk => by
 rcases h2 k hk with h | h
 ·exact h1 k h
 ·exact .inr (Nat.le_trans hn h)
theorem Turn.refl (S : Nat → Prop) (w : World) : Turn S w w := ⟨rfl, rfl, rfl, Nat.le_refl _, fun _ _ _ => rfl⟩
theorem Turn.trans {F G : Nat → Prop} {a b c : World} (h : Turn F a b) (hn : NextS a.heap.size F G) (k : Turn G b c) : Turn F a c :=
 ⟨k.os.trans h.os, k.tape.trans h.tape, k.output.trans h.output, Nat.le_trans h.size k.size, fun i hi hF => (k.block i (Nat.lt_of_lt_of_le hi h.size) (fun hg => by
  rcases hn i hg with h' | h'
  ·exact hF h'
  ·omega)).trans (h.block i hi hF)⟩
theorem Turn.mono {F G : Nat → Prop} {a b : World} (h : Turn F a b) (hs : ∀ k, k < a.heap.size → F k → G k) : Turn G a b := ⟨h.os, h.tape, h.output, h.size, fun k hk hG => h.block k hk (fun hF => hG (hs k hk hF))⟩
theorem Turn.ofBelow (S : Nat → Prop) {w w' : World} (h : Below w.heap.size w w') : Turn S w w' := ⟨h.os, h.tape, h.output, h.size, fun k hk _ => h.block k hk⟩
theorem Turn.toBelow {S : Nat → Prop} {n : Nat} {a b c : World} (hb : Below n a b) (h : Turn S b c) (hn : n ≤ b.heap.size) (hS : ∀ k, S k → n ≤ k) : Below n a c :=
 ⟨h.os.trans hb.os, h.tape.trans hb.tape, h.output.trans hb.output, Nat.le_trans hb.size h.size, fun k hk => (h.block k (Nat.lt_of_lt_of_le hk hn) (fun hk2 => by have := hS k hk2; omega)).trans (hb.block k hk)⟩
abbrev dom (F : Fp) : Nat → Prop := fun k => F k ≠ none
abbrev TurnF (F : Fp) (w w' : World) : Prop := Turn (dom F) w w'
abbrev Next (n : Nat) (F F' : Fp) : Prop := NextS n (dom F) (dom F')
theorem next_upd {n b : Nat} {F : Fp} {x : Tag × Piece} (h : F b ≠ none ∨ n ≤ b) : Next n F (upd F b x) := fun k hk => by
 by_cases e : k = b
 ·rw [e]; exact h
 ·exact .inl (by
   have hk2 : upd F b x k ≠ none := hk
   rw [upd_ne F x e] at hk2
   exact hk2)
theorem Mem.below {F : Fp} {w w' : World} (h : Mem w F) (hb : Below w.heap.size w w') : Mem w' F := fun k t pc hk => (h k t pc hk).keep (hb.block k (h k t pc hk).lt)
/-- another footprint's blocks lie as they did -/
theorem Mem.apart {S : Nat → Prop} {G : Fp} {w w' : World} (h : Mem w G) (ht : Turn S w w') (hd : ∀ k, G k ≠ none → ¬ S k) : Mem w' G := fun k t pc hk => (h k t pc hk).keep (ht.block k (h k t pc hk).lt (hd k (by rw [hk]; exact Option.some_ne_none _)))
theorem mem_upd {F : Fp} {w w' : World} (h : Mem w F) {b : Nat} {t : Tag} {pc : Piece} (hk : ∀ k, k ≠ b → k < w.heap.size → w'.heap[k]? = w.heap[k]?) (hb : Holds w' b pc) : Mem w' (upd F b (t, pc)) := fun k t2 pc2 hq => by
 by_cases e : k = b
 ·subst e
  rw [upd_same] at hq
  injection hq with hq
  injection hq with _ e2
  rw [← e2]; exact hb
 ·rw [upd_ne F _ e] at hq
  exact (h k t2 pc2 hq).keep (hk k e (h k t2 pc2 hq).lt)
structure RoleB where
 name : ByteArray
 a : Nat
 sr : Nat
 su : Nat
 sm : Nat
 sb : Nat
 mr : Option Nat
 mu : Option Nat
 R : List (ByteArray × Nat)
 U : List (ByteArray × Nat)
def ents (l : List (ByteArray × Nat)) : Ents := l.map fun p => (p.1, PV p.2)
abbrev SyP (m : Option Nat) : Piece := .cells #[.map m] 106
def MapF (F : Fp) (t : Tag) (m : Option Nat) (e : Ents) : Prop := match m with
 | none => e = []
 | some b => F b = some (t, .map e)
structure RoleF (F : Fp) (x : RoleB) : Prop where
 a : F x.a = some (.role x.name, .cells #[.string x.name, PT x.sr, PT x.su, PT x.sm, PT x.sb] 123)
 sr : F x.sr = some (.sr x.name, SyP x.mr)
 su : F x.su = some (.su x.name, SyP x.mu)
 sm : F x.sm = some (.sm x.name, SyP none)
 sb : F x.sb = some (.sb x.name, SyP none)
 mr : MapF F (.mr x.name) x.mr (ents x.R)
 mu : MapF F (.mu x.name) x.mu (ents x.U)
def ents0 (L : List RoleB) : Ents := L.map fun x => (x.name, PV x.a)
/-- a manager: its own cells (mc: those of its lock), the map of all roles, the roles -/
structure RMF (F : Fp) (p s c : Nat) (max : Int) (mc : List Value) (m : Option Nat) (L : List RoleB) : Prop where
 p : F p = some (.rm, .cells (PT s :: .int .i64 max :: .nilFunc :: .nilFunc :: PT c :: mc).toArray 97)
 s : F s = some (.all, SyP m)
 m : MapF F .am m (ents0 L)
 roles : ∀ x ∈ L, RoleF F x
 names : (L.map (·.name)).Nodup
/-- what the roles say: the links -/
structure Graph (L : List RoleB) (E : Edges) : Prop where
 cr : ∀ x ∈ L, ∀ q ∈ x.R, ∃ y ∈ L, y.name = q.1 ∧ y.a = q.2
 cu : ∀ x ∈ L, ∀ q ∈ x.U, ∃ y ∈ L, y.name = q.1 ∧ y.a = q.2
 nr : ∀ x ∈ L, (x.R.map (·.1)).Nodup
 nu : ∀ x ∈ L, (x.U.map (·.1)).Nodup
 r : ∀ x ∈ L, ∀ b, b ∈ x.R.map (·.1) ↔ (x.name, b) ∈ E
 u : ∀ x ∈ L, ∀ b, b ∈ x.U.map (·.1) ↔ (b, x.name) ∈ E
 ends : ∀ e ∈ E, (∃ x ∈ L, x.name = e.1) ∧ ∃ y ∈ L, y.name = e.2
end
/-! How a footprint turns when one of its maps does. -/
section
open Go.Proofs
/-- whatever has another tag stays -/
def Stay (T : Tag → Prop) (F F' : Fp) : Prop := ∀ q t pc, F q = some (t, pc) → ¬ T t → F' q = some (t, pc)
theorem Stay.refl (T : Tag → Prop) (F : Fp) : Stay T F F := fun _ _ _ h _ => h
theorem Stay.trans {T U : Tag → Prop} {F G H : Fp} (h : Stay T F G) (k : Stay U G H) : Stay (fun t => T t ∨ U t) F H := fun q t pc hq hn => k q t pc (h q t pc hq (fun e => hn (.inl e))) (fun e => hn (.inr e))
theorem Stay.mono {T U : Tag → Prop} {F G : Fp} (h : Stay T F G) (hTU : ∀ t, T t → U t) : Stay U F G := fun q t pc hq hn => h q t pc hq (fun e => hn (hTU t e))
/-- a map behind its pointer: t its cell's tag, u the map's own -/
structure SyF (F : Fp) (s : Nat) (t : Tag) (m : Option Nat) (u : Tag) (e : Ents) : Prop where
 s : F s = some (t, SyP m)
 m : MapF F u m e
theorem MapF.stay {F F' : Fp} {T : Tag → Prop} {u : Tag} (hu : ¬ T u) (h : Stay T F F') : ∀ {m : Option Nat} {e : Ents}, MapF F u m e → MapF F' u m e
 | none, _, hm => hm
 | some _, _, hm => h _ _ _ hm hu
theorem SyF.stay {F F' : Fp} {T : Tag → Prop} {s : Nat} {t u : Tag} {m : Option Nat} {e : Ents} (h : SyF F s t m u e) (hs : Stay T F F') (ht : ¬ T t) (hu : ¬ T u) : SyF F' s t m u e := ⟨hs _ _ _ h.s ht, h.m.stay hu hs⟩
/-- what a store leaves: the map has one more, or another one -/
def Put (F : Fp) (w : World) (s : Nat) (t u : Tag) (e : Ents) (w' : World) : Prop :=
 ∃ m' F', Mem w' F' ∧ SyF F' s t m' u e ∧ Stay (fun x => x = t ∨ x = u) F F' ∧ Next w.heap.size F F' ∧ TurnF F w w'
theorem Put.at {F : Fp} {w w' : World} {s b : Nat} {t u : Tag} {e e' : Ents} (hM : Mem w F) (h : SyF F s t (some b) u e) (htu : t ≠ u) (hk : ∀ k, k ≠ b → w'.heap[k]? = w.heap[k]?) (hsz : w'.heap.size = w.heap.size) (ho : w'.os = w.os ∧ w'.tape = w.tape ∧ w'.output = w.output) (hb : KM KY w' b e') : Put F w s t u e' w' := by
 have hm : F b = some (u, .map e) := h.m
 have hsb : s ≠ b := fun e2 => by
  have := h.s
  rw [e2, hm] at this
  injection this with this
  injection this with h1 _
  exact htu h1.symm
 refine ⟨some b, upd F b (u, .map e'), mem_upd hM (fun k hk1 _ => hk k hk1) hb, ⟨(upd_ne F _ hsb).trans h.s, upd_same F b _⟩, fun q x pc hq hn => (upd_ne F _ (fun e2 => ?_)).trans hq, next_upd (.inl (by rw [hm]; exact Option.some_ne_none _)), ho.1, ho.2.1, ho.2.2, by omega, fun k _ hF => hk k (fun e2 => hF ?_)⟩
 ·rw [e2, hm] at hq
  injection hq with hq
  injection hq with h1 _
  exact hn (.inr h1.symm)
 ·show F k ≠ none
  rw [e2, hm]
  exact Option.some_ne_none _
theorem Put.fresh {F : Fp} {w w' : World} {s : Nat} {t u : Tag} {e e' : Ents} (hM : Mem w F) (h : SyF F s t none u e) (hk : ∀ k, k ≠ s → k < w.heap.size → w'.heap[k]? = w.heap[k]?) (hsz : w.heap.size ≤ w'.heap.size) (ho : w'.os = w.os ∧ w'.tape = w.tape ∧ w'.output = w.output)
  (hs : w'.heap[s]? = some (.cells #[.map (some w.heap.size)] 106 (0, 0))) (hb : KM KY w' w.heap.size e') : Put F w s t u e' w' := by
 have hsl := (hM _ _ _ h.s).lt
 have hne : w.heap.size ≠ s := by omega
 have hnone : F w.heap.size = none := by
  cases hf : F w.heap.size with
  | none => rfl
  | some x => exact absurd (hM _ x.1 x.2 hf).lt (Nat.lt_irrefl _)
 refine ⟨some w.heap.size, upd (upd F w.heap.size (u, .map e')) s (t, SyP (some w.heap.size)), fun k t2 pc2 hq => ?_, ⟨upd_same _ _ _, (upd_ne _ _ hne).trans (upd_same _ _ _)⟩, fun q x pc hq hn => ?_, ?_, ho.1, ho.2.1, ho.2.2, hsz, fun k hk1 hF => hk k (fun e2 => hF ?_) hk1⟩
 ·by_cases e1 : k = s
  ·subst e1
   rw [upd_same] at hq
   injection hq with hq
   injection hq with _ e2
   rw [← e2]; exact hs
  ·rw [upd_ne _ _ e1] at hq
   by_cases e2 : k = w.heap.size
   ·subst e2
    rw [upd_same] at hq
    injection hq with hq
    injection hq with _ e3
    rw [← e3]; exact hb
   ·rw [upd_ne _ _ e2] at hq
    exact (hM k t2 pc2 hq).keep (hk k e1 (hM k t2 pc2 hq).lt)
 ·have e1 : q ≠ s := fun e2 => by
   rw [e2, h.s] at hq
   injection hq with hq
   injection hq with h1 _
   exact hn (.inl h1.symm)
  have e2 : q ≠ w.heap.size := fun e2 => by
   rw [e2, hnone] at hq; cases hq
  rw [upd_ne _ _ e1, upd_ne _ _ e2]; exact hq
 ·intro k hk2
  have hk2 : upd (upd F w.heap.size (u, .map e')) s (t, SyP (some w.heap.size)) k ≠ none := hk2
  show F k ≠ none ∨ _
  by_cases e1 : k = s
  ·left; rw [e1, h.s]; exact Option.some_ne_none _
  ·rw [upd_ne _ _ e1] at hk2
   by_cases e2 : k = w.heap.size
   ·right; omega
   ·rw [upd_ne _ _ e2] at hk2; exact .inl hk2
 ·show F k ≠ none
  rw [e2, h.s]
  exact Option.some_ne_none _
/-- whose a tag is -/
def Tag.of : Tag → Option ByteArray
 | .rm | .all | .am => none
 | .role n | .sr n | .su n | .sm n | .sb n | .mr n | .mu n => some n
theorem RoleF.stay {F F' : Fp} {T : Tag → Prop} {x : RoleB} (h : RoleF F x) (hs : Stay T F F') (hT : ∀ t, T t → t.of ≠ some x.name) : RoleF F' x :=
 have n : ∀ t : Tag, t.of = some x.name → ¬ T t := fun t ht hn => hT t hn ht
 ⟨hs _ _ _ h.a (n _ rfl), hs _ _ _ h.sr (n _ rfl), hs _ _ _ h.su (n _ rfl), hs _ _ _ h.sm (n _ rfl), hs _ _ _ h.sb (n _ rfl), h.mr.stay (n _ rfl) hs, h.mu.stay (n _ rfl) hs⟩
theorem RoleF.syR {F : Fp} {x : RoleB} (h : RoleF F x) : SyF F x.sr (.sr x.name) x.mr (.mr x.name) (ents x.R) := ⟨h.sr, h.mr⟩
theorem RoleF.syU {F : Fp} {x : RoleB} (h : RoleF F x) : SyF F x.su (.su x.name) x.mu (.mu x.name) (ents x.U) := ⟨h.su, h.mu⟩
theorem RoleF.withR {F F' : Fp} {x : RoleB} (h : RoleF F x) {m' : Option Nat} {R' : List (ByteArray × Nat)} (hs : Stay (fun t => t = .sr x.name ∨ t = .mr x.name) F F') (hy : SyF F' x.sr (.sr x.name) m' (.mr x.name) (ents R')) : RoleF F' { x with mr := m', R := R' } :=
 ⟨hs _ _ _ h.a (by simp), hy.s, hs _ _ _ h.su (by simp), hs _ _ _ h.sm (by simp), hs _ _ _ h.sb (by simp), hy.m, h.mu.stay (by simp) hs⟩
theorem RoleF.withU {F F' : Fp} {x : RoleB} (h : RoleF F x) {m' : Option Nat} {U' : List (ByteArray × Nat)} (hs : Stay (fun t => t = .su x.name ∨ t = .mu x.name) F F') (hy : SyF F' x.su (.su x.name) m' (.mu x.name) (ents U')) : RoleF F' { x with mu := m', U := U' } :=
 ⟨hs _ _ _ h.a (by simp), hs _ _ _ h.sr (by simp), hy.s, hs _ _ _ h.sm (by simp), hs _ _ _ h.sb (by simp), h.mr.stay (by simp) hs, hy.m⟩
/-- one role of a list is another one -/
def setB (L : List RoleB) (n : ByteArray) (f : RoleB → RoleB) : List RoleB := L.map fun x => if x.name = n then f x else x
theorem setB_name {n : ByteArray} {f : RoleB → RoleB} (hf : ∀ x, (f x).name = x.name ∧ (f x).a = x.a) (L : List RoleB) : (setB L n f).map (·.name) = L.map (·.name) ∧ ents0 (setB L n f) = ents0 L := by
 constructor
 ·unfold setB
  rw [List.map_map]
  refine List.map_congr_left (fun x _ => ?_)
  show (if x.name = n then f x else x).name = x.name
  split
  ·exact (hf x).1
  ·rfl
 ·unfold setB ents0
  rw [List.map_map]
  refine List.map_congr_left (fun x _ => ?_)
  show ((if x.name = n then f x else x).name, PV (if x.name = n then f x else x).a) = _
  split
  ·rw [(hf x).1, (hf x).2]
  ·rfl
theorem RMF.set {F F' : Fp} {p s c : Nat} {max : Int} {mc : List Value} {m : Option Nat} {L : List RoleB} (h : RMF F p s c max mc m L) {T : Tag → Prop} (hs : Stay T F F') {x : RoleB} (hx : x ∈ L) (hT : ∀ t, T t → t.of = some x.name) {f : RoleB → RoleB} (hf : ∀ x, (f x).name = x.name ∧ (f x).a = x.a) (hn : RoleF F' (f x)) : RMF F' p s c max mc m (setB L x.name f) := by
 have n : ∀ t : Tag, t.of = none → ¬ T t := fun t ht e => by
  have := hT t e
  rw [ht] at this; cases this
 refine ⟨hs _ _ _ h.p (n _ rfl), hs _ _ _ h.s (n _ rfl), ?_, fun y hy => ?_, ?_⟩
 ·rw [(setB_name hf L).2]
  exact h.m.stay (n _ rfl) hs
 ·obtain ⟨z, hz, rfl⟩ := List.mem_map.1 hy
  by_cases e : z.name = x.name
  ·rw [if_pos e]
   obtain rfl : z = x := by
    have := h.names
    have key : ∀ (L : List RoleB), (L.map (·.name)).Nodup → z ∈ L → x ∈ L → z = x := by
     intro L
     induction L with
     | nil => intro _ h1; cases h1
     | cons q l ih =>
      intro hnd h1 h2
      rw [List.map_cons, List.nodup_cons] at hnd
      rcases List.mem_cons.1 h1 with g1 | g1
      ·rcases List.mem_cons.1 h2 with g2 | g2
       ·exact g1.trans g2.symm
       ·exact absurd (by rw [← g1, e]; exact List.mem_map_of_mem g2) hnd.1
      ·rcases List.mem_cons.1 h2 with g2 | g2
       ·exact absurd (by rw [← g2, ← e]; exact List.mem_map_of_mem g1) hnd.1
       ·exact ih hnd.2 g1 g2
    exact key L this hz hx
   exact hn
  ·rw [if_neg e]
   exact (h.roles z hz).stay hs (fun t ht e2 => e (by
    have := hT t ht
    rw [e2] at this
    exact Option.some.inj this))
 ·rw [(setB_name hf L).1]; exact h.names
/-- one entry more, or another one: of names and places -/
def putR (k : ByteArray) (n : Nat) : List (ByteArray × Nat) → List (ByteArray × Nat)
 | [] => [(k, n)]
 | p :: l => if k = p.1 then (p.1, n) :: l else p :: putR k n l
def delR (k : ByteArray) : List (ByteArray × Nat) → List (ByteArray × Nat)
 | [] => []
 | p :: l => if k = p.1 then l else p :: delR k l
theorem ents_put (k : ByteArray) (n : Nat) : ∀ l : List (ByteArray × Nat), putS k (PV n) (ents l) = ents (putR k n l)
 | [] => rfl
 | p :: l => by
  have ih := ents_put k n l
  unfold putR
  show (if k = p.1 then _ else _) = _
  by_cases h : k = p.1
  ·rw [if_pos h, if_pos h]; rfl
  ·rw [if_neg h, if_neg h]
   show (p.1, PV p.2) :: putS k (PV n) (ents l) = _
   rw [ih]; rfl
theorem ents_del (k : ByteArray) : ∀ l : List (ByteArray × Nat), delS k (ents l) = ents (delR k l)
 | [] => rfl
 | p :: l => by
  have ih := ents_del k l
  unfold delR
  show (if k = p.1 then _ else _) = _
  by_cases h : k = p.1
  ·rw [if_pos h, if_pos h]; rfl
  ·rw [if_neg h, if_neg h]
   show (p.1, PV p.2) :: delS k (ents l) = _
   rw [ih]; rfl
theorem putR_mem (k : ByteArray) (n : Nat) : ∀ (l : List (ByteArray × Nat)) (q : ByteArray × Nat), q ∈ putR k n l → q = (k, n) ∨ q ∈ l
 | [], q, h => .inl (List.mem_singleton.1 h)
 | p :: l, q, h => by
  unfold putR at h
  by_cases e : k = p.1
  ·rw [if_pos e] at h
   rcases List.mem_cons.1 h with h | h
   ·exact .inl (by rw [h, e])
   ·exact .inr (List.mem_cons_of_mem _ h)
  ·rw [if_neg e] at h
   rcases List.mem_cons.1 h with h | h
   ·exact .inr (by rw [h]; exact List.mem_cons_self ..)
   ·exact (putR_mem k n l q h).imp_right (List.mem_cons_of_mem _)
theorem putR_keys (k : ByteArray) (n : Nat) : ∀ (l : List (ByteArray × Nat)), (putR k n l).map (·.1) = if k ∈ l.map (·.1) then l.map (·.1) else l.map (·.1) ++ [k]
 | [] => rfl
 | p :: l => by
  have ih := putR_keys k n l
  unfold putR
  by_cases e : k = p.1
  ·rw [if_pos e, if_pos (by rw [e]; exact List.mem_cons_self ..)]; rfl
  ·rw [if_neg e, List.map_cons, ih, List.map_cons]
   by_cases g : k ∈ l.map (·.1)
   ·rw [if_pos g, if_pos (List.mem_cons_of_mem _ g)]
   ·rw [if_neg g, if_neg (fun h => (List.mem_cons.1 h).elim e g)]; rfl
theorem delR_keys (k : ByteArray) : ∀ (l : List (ByteArray × Nat)), (l.map (·.1)).Nodup → (delR k l).map (·.1) = (l.map (·.1)).filter fun x => !decide (x = k)
 | [], _ => rfl
 | p :: l, hn => by
  rw [List.map_cons, List.nodup_cons] at hn
  unfold delR
  by_cases e : k = p.1
  ·rw [if_pos e, List.map_cons, List.filter_cons_of_neg (by simp [e])]
   refine (List.filter_eq_self.2 (fun x hx => ?_)).symm
   have : x ≠ k := fun h => hn.1 (by rw [← e, ← h]; exact hx)
   simp [this]
  ·have e2 : ¬ p.1 = k := fun h => e h.symm
   rw [if_neg e, List.map_cons, delR_keys k l hn.2, List.map_cons, List.filter_cons_of_pos (by simp [e2])]
theorem delR_sub (k : ByteArray) : ∀ (l : List (ByteArray × Nat)) (q : ByteArray × Nat), q ∈ delR k l → q ∈ l
 | [], q, h => h
 | p :: l, q, h => by
  unfold delR at h
  by_cases e : k = p.1
  ·rw [if_pos e] at h; exact List.mem_cons_of_mem _ h
  ·rw [if_neg e] at h
   rcases List.mem_cons.1 h with h | h
   ·rw [h]; exact List.mem_cons_self ..
   ·exact List.mem_cons_of_mem _ (delR_sub k l q h)
end
/-! How the links turn when roles do. -/
section
open Go.Proofs
theorem same_name {L : List RoleB} (hn : (L.map (·.name)).Nodup) {x y : RoleB} (hx : x ∈ L) (hy : y ∈ L) (e : x.name = y.name) : x = y := by
 induction L with
 | nil => cases hx
 | cons q l ih =>
  rw [List.map_cons, List.nodup_cons] at hn
  rcases List.mem_cons.1 hx with g1 | g1
  ·rcases List.mem_cons.1 hy with g2 | g2
   ·exact g1.trans g2.symm
   ·exact absurd (by rw [← g1, e]; exact List.mem_map_of_mem g2) hn.1
  ·rcases List.mem_cons.1 hy with g2 | g2
   ·exact absurd (by rw [← g2, ← e]; exact List.mem_map_of_mem g1) hn.1
   ·exact ih hn.2 g1 g2
/-- a role found by its name and place in a list of which some are turned is found still -/
theorem setB_find {L : List RoleB} {n : ByteArray} {f : RoleB → RoleB} (hf : ∀ x, (f x).name = x.name ∧ (f x).a = x.a) {k : ByteArray} {a : Nat} (h : ∃ y ∈ L, y.name = k ∧ y.a = a) : ∃ y ∈ setB L n f, y.name = k ∧ y.a = a := by
 obtain ⟨y, hy, h1, h2⟩ := h
 refine ⟨_, List.mem_map_of_mem (f := fun x => if x.name = n then f x else x) hy, ?_, ?_⟩
 ·show (if y.name = n then f y else y).name = k
  split
  ·rw [(hf y).1]; exact h1
  ·exact h1
 ·show (if y.name = n then f y else y).a = a
  split
  ·rw [(hf y).2]; exact h2
  ·exact h2
abbrev fR (m : Option Nat) (g : List (ByteArray × Nat) → List (ByteArray × Nat)) : RoleB → RoleB := fun z => { z with mr := m, R := g z.R }
abbrev fU (m : Option Nat) (g : List (ByteArray × Nat) → List (ByteArray × Nat)) : RoleB → RoleB := fun z => { z with mu := m, U := g z.U }
def linkB (L : List RoleB) (u r : ByteArray) (m1 m2 : Option Nat) (g h : List (ByteArray × Nat) → List (ByteArray × Nat)) : List RoleB := setB (setB L u (fR m1 g)) r (fU m2 h)
theorem linkB_mem {L : List RoleB} {u r : ByteArray} {m1 m2 : Option Nat} {g h : List (ByteArray × Nat) → List (ByteArray × Nat)} {z : RoleB} (hz : z ∈ linkB L u r m1 m2 g h) : ∃ x ∈ L, z.name = x.name ∧ z.a = x.a ∧ z.R = (if x.name = u then g x.R else x.R) ∧ z.U = (if x.name = r then h x.U else x.U) := by
 obtain ⟨y, hy, rfl⟩ := List.mem_map.1 hz
 obtain ⟨x, hx, rfl⟩ := List.mem_map.1 hy
 refine ⟨x, hx, ?_⟩
 by_cases h1 : x.name = u <;> by_cases h2 : x.name = r <;> simp [h1, h2]
 all_goals (try subst h1) <;> (try subst h2)
 all_goals first
  | (simp; done)
  | (simp [h1]; done)
  | (simp [h2]; done)
  | (simp [h1, h2]; done)
theorem linkB_find {L : List RoleB} {u r : ByteArray} {m1 m2 : Option Nat} {g h : List (ByteArray × Nat) → List (ByteArray × Nat)} {k : ByteArray} {a : Nat} (hk : ∃ y ∈ L, y.name = k ∧ y.a = a) : ∃ y ∈ linkB L u r m1 m2 g h, y.name = k ∧ y.a = a :=
 setB_find (f := fU m2 h) (fun _ => ⟨rfl, rfl⟩) (setB_find (f := fR m1 g) (fun _ => ⟨rfl, rfl⟩) hk)
theorem hasE_iff (E : Edges) (a b : ByteArray) : hasE E a b = true ↔ (a, b) ∈ E := by
 unfold hasE
 rw [List.any_eq_true]
 exact ⟨fun ⟨x, hx, e⟩ => by rw [← of_decide_eq_true e]; exact hx, fun h => ⟨_, h, decide_eq_true rfl⟩⟩
theorem addE_mem (E : Edges) (a b : ByteArray) (e : ByteArray × ByteArray) : e ∈ addE E a b ↔ e ∈ E ∨ e = (a, b) := by
 unfold addE
 by_cases h : hasE E a b = true
 ·rw [if_pos h]
  exact ⟨.inl, fun h2 => h2.elim id (fun e2 => by rw [e2]; exact (hasE_iff E a b).1 h)⟩
 ·rw [if_neg h, List.mem_append, List.mem_singleton]
theorem delE_mem (E : Edges) (a b : ByteArray) (e : ByteArray × ByteArray) : e ∈ delE E a b ↔ e ∈ E ∧ e ≠ (a, b) := by
 unfold delE
 rw [List.mem_filter]
 simp
theorem nodup_put {k : ByteArray} {n : Nat} {l : List (ByteArray × Nat)} (h : (l.map (·.1)).Nodup) : ((putR k n l).map (·.1)).Nodup := by
 rw [putR_keys]
 split
 ·exact h
 ·rename_i hk
  rw [List.nodup_append]
  exact ⟨h, by simp, fun a ha b hb e => hk (by rw [List.mem_singleton] at hb; rw [← hb, ← e]; exact ha)⟩
theorem keys_put {k : ByteArray} {n : Nat} {l : List (ByteArray × Nat)} (b : ByteArray) : b ∈ (putR k n l).map (·.1) ↔ b ∈ l.map (·.1) ∨ b = k := by
 rw [putR_keys]
 split
 ·rename_i hk
  exact ⟨.inl, fun h => h.elim id (fun e => by rw [e]; exact hk)⟩
 ·rw [List.mem_append, List.mem_singleton]
theorem keys_del {k : ByteArray} {l : List (ByteArray × Nat)} (h : (l.map (·.1)).Nodup) (b : ByteArray) : b ∈ (delR k l).map (·.1) ↔ b ∈ l.map (·.1) ∧ b ≠ k := by
 rw [delR_keys k l h, List.mem_filter]
 simp
theorem Graph.add {L : List RoleB} {E : Edges} (hG : Graph L E) (hn : (L.map (·.name)).Nodup) {x y : RoleB} (hx : x ∈ L) (hy : y ∈ L) (m1 m2 : Option Nat) : Graph (linkB L x.name y.name m1 m2 (putR y.name y.a) (putR x.name x.a)) (addE E x.name y.name) := by
 refine ⟨fun z hz q hq => ?_, fun z hz q hq => ?_, fun z hz => ?_, fun z hz => ?_, fun z hz b => ?_, fun z hz b => ?_, fun e he => ?_⟩
 ·obtain ⟨v, hv, h1, h2, h3, h4⟩ := linkB_mem hz
  refine linkB_find ?_
  rw [h3] at hq
  split at hq
  ·rcases putR_mem _ _ _ _ hq with rfl | hq
   ·exact ⟨y, hy, rfl, rfl⟩
   ·exact hG.cr v hv q hq
  ·exact hG.cr v hv q hq
 ·obtain ⟨v, hv, h1, h2, h3, h4⟩ := linkB_mem hz
  refine linkB_find ?_
  rw [h4] at hq
  split at hq
  ·rcases putR_mem _ _ _ _ hq with rfl | hq
   ·exact ⟨x, hx, rfl, rfl⟩
   ·exact hG.cu v hv q hq
  ·exact hG.cu v hv q hq
 ·obtain ⟨v, hv, h1, h2, h3, h4⟩ := linkB_mem hz
  rw [h3]
  split
  ·exact nodup_put (hG.nr v hv)
  ·exact hG.nr v hv
 ·obtain ⟨v, hv, h1, h2, h3, h4⟩ := linkB_mem hz
  rw [h4]
  split
  ·exact nodup_put (hG.nu v hv)
  ·exact hG.nu v hv
 ·obtain ⟨v, hv, h1, h2, h3, h4⟩ := linkB_mem hz
  rw [h3, h1, addE_mem, ← hG.r v hv b]
  by_cases e : v.name = x.name
  ·rw [if_pos e, keys_put, Prod.mk.injEq]
   exact or_congr Iff.rfl ⟨fun h => ⟨e, h⟩, fun h => h.2⟩
  ·rw [if_neg e]
   exact ⟨.inl, fun h => h.elim id (fun h => absurd (congrArg Prod.fst h) e)⟩
 ·obtain ⟨v, hv, h1, h2, h3, h4⟩ := linkB_mem hz
  rw [h4, h1, addE_mem, ← hG.u v hv b]
  by_cases e : v.name = y.name
  ·rw [if_pos e, keys_put, Prod.mk.injEq]
   exact or_congr Iff.rfl ⟨fun h => ⟨h, e⟩, fun h => h.1⟩
  ·rw [if_neg e]
   exact ⟨.inl, fun h => h.elim id (fun h => absurd (congrArg Prod.snd h) e)⟩
 ·have fnd : ∀ k, (∃ z ∈ L, z.name = k) → ∃ z ∈ linkB L x.name y.name m1 m2 (putR y.name y.a) (putR x.name x.a), z.name = k := fun k ⟨z, hz, h⟩ => by
   obtain ⟨v, hv, h1, _⟩ := linkB_find (u := x.name) (r := y.name) (m1 := m1) (m2 := m2) (g := putR y.name y.a) (h := putR x.name x.a) ⟨z, hz, h, rfl⟩
   exact ⟨v, hv, h1⟩
  rcases (addE_mem E _ _ e).1 he with he | rfl
  ·exact ⟨fnd _ (hG.ends e he).1, fnd _ (hG.ends e he).2⟩
  ·exact ⟨fnd _ ⟨x, hx, rfl⟩, fnd _ ⟨y, hy, rfl⟩⟩
theorem Graph.del {L : List RoleB} {E : Edges} (hG : Graph L E) (hn : (L.map (·.name)).Nodup) {x y : RoleB} (hx : x ∈ L) (hy : y ∈ L) (m1 m2 : Option Nat) : Graph (linkB L x.name y.name m1 m2 (delR y.name) (delR x.name)) (delE E x.name y.name) := by
 have nd : ∀ {k : ByteArray} {l : List (ByteArray × Nat)}, (l.map (·.1)).Nodup → ((delR k l).map (·.1)).Nodup := fun {k l} h => by
  rw [delR_keys k l h]
  exact h.filter _
 refine ⟨fun z hz q hq => ?_, fun z hz q hq => ?_, fun z hz => ?_, fun z hz => ?_, fun z hz b => ?_, fun z hz b => ?_, fun e he => ?_⟩
 ·obtain ⟨v, hv, h1, h2, h3, h4⟩ := linkB_mem hz
  refine linkB_find (hG.cr v hv q ?_)
  rw [h3] at hq
  split at hq
  ·exact delR_sub _ _ _ hq
  ·exact hq
 ·obtain ⟨v, hv, h1, h2, h3, h4⟩ := linkB_mem hz
  refine linkB_find (hG.cu v hv q ?_)
  rw [h4] at hq
  split at hq
  ·exact delR_sub _ _ _ hq
  ·exact hq
 ·obtain ⟨v, hv, h1, h2, h3, h4⟩ := linkB_mem hz
  rw [h3]
  split
  ·exact nd (hG.nr v hv)
  ·exact hG.nr v hv
 ·obtain ⟨v, hv, h1, h2, h3, h4⟩ := linkB_mem hz
  rw [h4]
  split
  ·exact nd (hG.nu v hv)
  ·exact hG.nu v hv
 ·obtain ⟨v, hv, h1, h2, h3, h4⟩ := linkB_mem hz
  rw [h3, h1, delE_mem, ← hG.r v hv b, Ne, Prod.mk.injEq]
  by_cases e : v.name = x.name
  ·rw [if_pos e, keys_del (hG.nr v hv)]
   exact and_congr Iff.rfl ⟨fun h g => h g.2, fun h g => h ⟨e, g⟩⟩
  ·rw [if_neg e]
   exact ⟨fun h => ⟨h, fun g => e g.1⟩, fun h => h.1⟩
 ·obtain ⟨v, hv, h1, h2, h3, h4⟩ := linkB_mem hz
  rw [h4, h1, delE_mem, ← hG.u v hv b, Ne, Prod.mk.injEq]
  by_cases e : v.name = y.name
  ·rw [if_pos e, keys_del (hG.nu v hv)]
   exact and_congr Iff.rfl ⟨fun h g => h g.1, fun h g => h ⟨g, e⟩⟩
  ·rw [if_neg e]
   exact ⟨fun h => ⟨h, fun g => e g.2⟩, fun h => h.1⟩
 ·have fnd : ∀ k, (∃ z ∈ L, z.name = k) → ∃ z ∈ linkB L x.name y.name m1 m2 (delR y.name) (delR x.name), z.name = k := fun k ⟨z, hz, h⟩ => by
   obtain ⟨v, hv, h1, _⟩ := linkB_find (u := x.name) (r := y.name) (m1 := m1) (m2 := m2) (g := delR y.name) (h := delR x.name) ⟨z, hz, h, rfl⟩
   exact ⟨v, hv, h1⟩
  have he := ((delE_mem E _ _ e).1 he).1
  exact ⟨fnd _ (hG.ends e he).1, fnd _ (hG.ends e he).2⟩
theorem Graph.new {L : List RoleB} {E : Edges} (hG : Graph L E) {x : RoleB} (hx : x.name ∉ L.map (·.name)) (h0 : x.R = [] ∧ x.U = []) : Graph (L ++ [x]) E := by
 have old : ∀ {k : ByteArray} {a : Nat}, (∃ y ∈ L, y.name = k ∧ y.a = a) → ∃ y ∈ L ++ [x], y.name = k ∧ y.a = a := fun ⟨y, hy, h⟩ => ⟨y, List.mem_append_left _ hy, h⟩
 have no : ∀ e ∈ E, e.1 ≠ x.name ∧ e.2 ≠ x.name := fun e he => by
  obtain ⟨⟨y, hy, h1⟩, z, hz, h2⟩ := hG.ends e he
  exact ⟨fun h => hx (by rw [← h, ← h1]; exact List.mem_map_of_mem hy), fun h => hx (by rw [← h, ← h2]; exact List.mem_map_of_mem hz)⟩
 refine ⟨fun z hz q hq => ?_, fun z hz q hq => ?_, fun z hz => ?_, fun z hz => ?_, fun z hz b => ?_, fun z hz b => ?_, fun e he => ?_⟩
 ·rcases List.mem_append.1 hz with hz | hz
  ·exact old (hG.cr z hz q hq)
  ·obtain rfl := List.mem_singleton.1 hz
   rw [h0.1] at hq; cases hq
 ·rcases List.mem_append.1 hz with hz | hz
  ·exact old (hG.cu z hz q hq)
  ·obtain rfl := List.mem_singleton.1 hz
   rw [h0.2] at hq; cases hq
 ·rcases List.mem_append.1 hz with hz | hz
  ·exact hG.nr z hz
  ·obtain rfl := List.mem_singleton.1 hz
   rw [h0.1]; simp
 ·rcases List.mem_append.1 hz with hz | hz
  ·exact hG.nu z hz
  ·obtain rfl := List.mem_singleton.1 hz
   rw [h0.2]; simp
 ·rcases List.mem_append.1 hz with hz | hz
  ·exact hG.r z hz b
  ·obtain rfl := List.mem_singleton.1 hz
   rw [h0.1]
   exact ⟨fun h => by simp at h, fun h => absurd rfl (no _ h).1⟩
 ·rcases List.mem_append.1 hz with hz | hz
  ·exact hG.u z hz b
  ·obtain rfl := List.mem_singleton.1 hz
   rw [h0.2]
   exact ⟨fun h => by simp at h, fun h => absurd rfl (no _ h).2⟩
 ·obtain ⟨⟨y, hy, h1⟩, z, hz, h2⟩ := hG.ends e he
  exact ⟨⟨y, List.mem_append_left _ hy, h1⟩, z, List.mem_append_left _ hz, h2⟩
end
/-! A role more, or one that was made for a question alone and goes again. -/
section
open Go.Proofs
theorem RMF.sy {F : Fp} {p s c : Nat} {max : Int} {mc : List Value} {m : Option Nat} {L : List RoleB} (h : RMF F p s c max mc m L) : SyF F s .all m .am (ents0 L) := ⟨h.s, h.m⟩
theorem lookS_in {n : ByteArray} : ∀ {L : List RoleB} (i : Nat) {x : RoleB}, (L.map (·.name)).Nodup → x ∈ L → x.name = n → ∃ j, lookS n (ents0 L) i = some (j, PV x.a)
 | [], _, _, _, h, _ => by cases h
 | y :: L, i, x, hn, h, e => by
  rw [List.map_cons, List.nodup_cons] at hn
  unfold ents0 lookS
  show ∃ j, (if n = y.name then _ else _) = _
  rcases List.mem_cons.1 h with rfl | h
  ·rw [if_pos e.symm]; exact ⟨_, rfl⟩
  ·have : ¬ n = y.name := fun g => hn.1 (by rw [← g, ← e]; exact List.mem_map_of_mem h)
   rw [if_neg this]
   exact lookS_in (i + 1) hn.2 h e
theorem lookS_out {n : ByteArray} {L : List RoleB} (h : n ∉ L.map (·.name)) : lookS n (ents0 L) 0 = none := by
 rw [lookS_none]
 intro p hp
 obtain ⟨x, hx, rfl⟩ := List.mem_map.1 hp
 exact fun e => h (by rw [← e]; exact List.mem_map_of_mem hx)
theorem put_last {n : ByteArray} {L : List RoleB} (h : n ∉ L.map (·.name)) {x : RoleB} (hx : x.name = n) : putS n (PV x.a) (ents0 L) = ents0 (L ++ [x]) := by
 rw [putS_new _ _ _ ((lookS_none n (ents0 L) 0).1 (lookS_out h))]
 unfold ents0
 rw [List.map_append, ← hx]
 rfl
theorem del_last {n : ByteArray} {x : RoleB} (hx : x.name = n) : ∀ {L : List RoleB}, n ∉ L.map (·.name) → delS n (ents0 (L ++ [x])) = ents0 L
 | [], _ => by
  show (if n = x.name then _ else _) = _
  rw [if_pos hx.symm]; rfl
 | y :: L, h => by
  rw [List.map_cons, List.mem_cons, not_or] at h
  show (if n = y.name then _ else _) = _
  rw [if_neg h.1]
  have := del_last hx h.2
  show (y.name, PV y.a) :: delS n (ents0 (L ++ [x])) = _
  rw [this]; rfl
theorem RMF.grow {F F1 F2 : Fp} {p s c : Nat} {max : Int} {mc : List Value} {m m' : Option Nat} {L : List RoleB} (h : RMF F p s c max mc m L) (he : Stay (fun _ => False) F F1) {x : RoleB} (hx : RoleF F1 x) (hn : x.name ∉ L.map (·.name)) (hs : Stay (fun t => t = .all ∨ t = .am) F1 F2) (hy : SyF F2 s .all m' .am (ents0 (L ++ [x]))) : RMF F2 p s c max mc m' (L ++ [x]) := by
 refine ⟨hs _ _ _ (he _ _ _ h.p (fun e => e)) (by simp), hy.s, hy.m, fun y hy2 => ?_, ?_⟩
 ·have key : RoleF F1 y := by
   rcases List.mem_append.1 hy2 with h2 | h2
   ·exact (h.roles y h2).stay he (fun t ht => ht.elim)
   ·obtain rfl := List.mem_singleton.1 h2
    exact hx
  exact key.stay hs (fun t ht => by rcases ht with rfl | rfl <;> simp [Tag.of])
 ·rw [List.map_append, List.nodup_append]
  refine ⟨h.names, by simp, fun a ha b hb e => ?_⟩
  rw [List.map_cons, List.map_nil, List.mem_singleton] at hb
  exact hn (by rw [← hb, ← e]; exact ha)
theorem RMF.shrink {F F2 : Fp} {p s c : Nat} {max : Int} {mc : List Value} {m m' : Option Nat} {L : List RoleB} {x : RoleB} (h : RMF F p s c max mc m (L ++ [x])) (hs : Stay (fun t => t = .all ∨ t = .am) F F2) (hy : SyF F2 s .all m' .am (ents0 L)) : RMF F2 p s c max mc m' L := by
 refine ⟨hs _ _ _ h.p (by simp), hy.s, hy.m, fun y hy2 => (h.roles y (List.mem_append_left _ hy2)).stay hs (fun t ht => by rcases ht with rfl | rfl <;> simp [Tag.of]), ?_⟩
 have := h.names
 rw [List.map_append, List.nodup_append] at this
 exact this.1
theorem RMF.fresh_last {F : Fp} {p s c : Nat} {max : Int} {mc : List Value} {m : Option Nat} {L : List RoleB} {x : RoleB} (h : RMF F p s c max mc m (L ++ [x])) : x.name ∉ L.map (·.name) := by
 have := h.names
 rw [List.map_append, List.nodup_append] at this
 exact fun hx => this.2.2 _ hx x.name (by simp) rfl
/-- a store among one role's roles, or users -/
theorem RMF.putR {F F' : Fp} {p s c : Nat} {max : Int} {mc : List Value} {m m' : Option Nat} {L : List RoleB} (h : RMF F p s c max mc m L) {x : RoleB} (hx : x ∈ L) {g : List (ByteArray × Nat) → List (ByteArray × Nat)} (hs : Stay (fun t => t = .sr x.name ∨ t = .mr x.name) F F') (hy : SyF F' x.sr (.sr x.name) m' (.mr x.name) (ents (g x.R))) : RMF F' p s c max mc m (setB L x.name (fR m' g)) :=
 h.set hs hx (fun t ht => by rcases ht with rfl | rfl <;> rfl) (fun _ => ⟨rfl, rfl⟩) ((h.roles x hx).withR hs hy)
theorem RMF.putU {F F' : Fp} {p s c : Nat} {max : Int} {mc : List Value} {m m' : Option Nat} {L : List RoleB} (h : RMF F p s c max mc m L) {x : RoleB} (hx : x ∈ L) {g : List (ByteArray × Nat) → List (ByteArray × Nat)} (hs : Stay (fun t => t = .su x.name ∨ t = .mu x.name) F F') (hy : SyF F' x.su (.su x.name) m' (.mu x.name) (ents (g x.U))) : RMF F' p s c max mc m (setB L x.name (fU m' g)) :=
 h.set hs hx (fun t ht => by rcases ht with rfl | rfl <;> rfl) (fun _ => ⟨rfl, rfl⟩) ((h.roles x hx).withU hs hy)
/-- where a role of the list lies behind a turn of its roles -/
theorem setB_mem {L : List RoleB} {n : ByteArray} {f : RoleB → RoleB} {y : RoleB} (hy : y ∈ L) : (if y.name = n then f y else y) ∈ setB L n f := List.mem_map_of_mem (f := fun x => if x.name = n then f x else x) hy
/-- the manager behind a deed: the links are E -/
def RMPost (F : Fp) (w : World) (p s c : Nat) (max : Int) (mc : List Value) (E : Edges) (w' : World) : Prop :=
 ∃ F' m' L', Mem w' F' ∧ RMF F' p s c max mc m' L' ∧ Graph L' E ∧ Next w.heap.size F F' ∧ TurnF F w w'
end
/-! syncmap.Map's methods: Load, Store, Delete. -/
section
open Go.Proofs
theorem uMI : Tryz.prog.underlying 104 = some (.map 20 20) := by kernel_rfl
theorem keyI : Keyed Tryz.prog 20 KY := by
 have h : (Tryz.prog.info? 9).map (·.comparable) = some true := by kernel_rfl
 obtain ⟨I, hI, hc⟩ := Option.map_eq_some_iff.1 h
 exact Keyed.iface (ms := #[]) (by kernel_rfl) (by kernel_rfl) hI hc
theorem zeroI (w : World) : (zeroValue 20).run Tryz.prog w = .ok .nilIface w := by kernel_rfl
theorem eq_map_none (m : Option Nat) (w : World) : (binOp .eql 104 (.map m) (.map none)).run Tryz.prog w = .ok (.bool m.isNone) w := by cases m <;> kernel_rfl
theorem del_none (k : ByteArray) (w : World) : (Builtin.delete_ #[104, 20] 0 #[.map none, KY k]).run Tryz.prog w = .ok (.tuple #[]) w := by
 simp [Builtin.delete_, run_underlying uMI, keyI.check, Result.andThen]
theorem SyF.map {F : Fp} {w : World} {s b : Nat} {t u : Tag} {e : Ents} (hM : Mem w F) (h : SyF F s t (some b) u e) : KM KY w b e := hM _ _ _ h.m
theorem sy_look {F : Fp} {w : World} {s : Nat} {t u : Tag} {m : Option Nat} {e : Ents} (hM : Mem w F) (h : SyF F s t m u e) (k : ByteArray) :
  (Instr.lookup 104 (.map m) (KY k) true).run Tryz.prog w = .ok (.tuple #[((lookS k e 0).map (·.2)).getD .nilIface, .bool (lookS k e 0).isSome]) w := by
 cases m with
 | none =>
  have : e = [] := h.m
  subst this
  exact look_nil uMI keyI w k (zeroI w) true
 | some b =>
  have hk := h.map hM
  cases hl : lookS k e 0 with
  | none => exact hk.look_none uMI keyI hl (zeroI w) true
  | some jv => exact hk.look uMI keyI (j := jv.1) (v := jv.2) hl true
set_option maxHeartbeats 4000000 in
set_option maxRecDepth 100000 in
theorem sy_load {F : Fp} {w : World} {s : Nat} {t u : Tag} {m : Option Nat} {e : Ents} (hM : Mem w F) (h : SyF F s t m u e) (k : ByteArray) :
  Calls Tryz.prog 78 #[PT s, KY k] w fun x w' => x = .returned (.tuple #[((lookS k e 0).map (·.2)).getD .nilIface, .bool (lookS k e 0).isSome]) ∧ w' = w := by
 have hc := cell_of_one (hM _ _ _ h.s)
 have hl := sy_look hM h k
 clear hM h
 generalize ((lookS k e 0).map (·.2)).getD .nilIface = v at *
 generalize (lookS k e 0).isSome = b at *
 go_enter Tryz.func78, Tryz.ntmps78
 go_wp2
 go_ret2
 exact ⟨rfl, rfl⟩
set_option maxHeartbeats 4000000 in
set_option maxRecDepth 100000 in
theorem sy_store {F : Fp} {w : World} {s : Nat} {t u : Tag} {m : Option Nat} {e : Ents} (hM : Mem w F) (h : SyF F s t m u e) (htu : t ≠ u) (k : ByteArray) (v : Value) :
  Calls Tryz.prog 66 #[PT s, KY k, v] w fun x w' => x = .returned (.tuple #[]) ∧ Put F w s t u (putS k v e) w' := by
 have hs := hM _ _ _ h.s
 have hc := cell_of_one hs
 have hf := free_of_one hs
 have hsl := (hM _ _ _ h.s).lt
 cases m with
 | some b =>
  obtain ⟨es', c', hrun, hkm⟩ := (h.map hM).put uMI keyI k v
  have HP := Aside0.mk (Put.at hM h htu (fun k hk => setO_ne hk) setO_size ⟨rfl, rfl, rfl⟩ hkm)
  have hb := eq_map_none (some b)
  clear hM h hkm htu hs
  go_enter Tryz.func66, Tryz.ntmps66
  go_wp2
  go_end0
  exact ⟨rfl, HP.out⟩
 | none =>
  have he : e = [] := h.m
  subst he
  have hmm := @run_makeMap Tryz.prog
  have hb := eq_map_none none
  have hne : w.heap.size ≠ s := by omega
  have hz : (w.setCell ⟨s, 0, none⟩ (.map (some w.heap.size))).heap.size = w.heap.size := by simp
  obtain ⟨W2, hW2⟩ : ∃ W2, W2 = (w.setCell ⟨s, 0, none⟩ (.map (some w.heap.size))).alloc (.map #[] 0) := ⟨_, rfl⟩
  have h1 : (w.alloc (.map #[] 0)).heap[s]? = some (.cells #[.map none] 106 (0, 0)) := ((MapKept.heap_alloc w _).2 s hsl).trans hs
  have hk2 : ∀ j, j ≠ s → j < w.heap.size → W2.heap[j]? = w.heap[j]? := fun j hj hjl => by
   rw [hW2]
   exact ((MapKept.heap_alloc _ _).2 j (by rw [hz]; exact hjl)).trans (Below.heap_setCell _ _ _ _ hj)
  have h2 : W2.heap[s]? = some (.cells #[.map (some w.heap.size)] 106 (0, 0)) := by
   rw [hW2]
   exact ((MapKept.heap_alloc _ _).2 s (by rw [hz]; exact hsl)).trans (one_setCell hs)
  have hsz : W2.heap.size = w.heap.size + 1 := by rw [hW2]; simp
  have hk0 : KM KY W2 w.heap.size [] := by
   have := KM.made (ky := KY) (w.setCell ⟨s, 0, none⟩ (.map (some w.heap.size)))
   rw [hz, ← hW2] at this
   exact this
  obtain ⟨es', c', hrun, hkm⟩ := hk0.put uMI keyI k v
  have HP : Aside0 (Put F w s t u (putS k v []) (setO W2 w.heap.size (.map es' c'))) := ⟨Put.fresh hM h (fun j hj hjl => (setO_ne (by omega)).trans (hk2 j hj hjl)) (by rw [setO_size, hsz]; omega) (by rw [hW2]; exact ⟨rfl, rfl, rfl⟩) ((setO_ne (fun e => hne e.symm)).trans h2) hkm⟩
  have c1 := cell_of_one h1
  have f1 := free_of_one h1
  have c2 := cell_of_one h2
  clear hM h hkm htu hs h1 h2 hk0 hsz hk2 hz
  rw [hW2] at hrun c2 HP
  clear hW2 W2
  go_enter Tryz.func66, Tryz.ntmps66
  go_wp2
  go_end0
  exact ⟨rfl, HP.out⟩
set_option maxHeartbeats 4000000 in
set_option maxRecDepth 100000 in
/-- deleting a key that may not be there: a map without entries may be none at all -/
theorem sy_delete {F : Fp} {w : World} {s : Nat} {t u : Tag} {m : Option Nat} {e : Ents} (hM : Mem w F) (h : SyF F s t m u e) (htu : t ≠ u) (k : ByteArray) :
  Calls Tryz.prog 116 #[PT s, KY k] w fun x w' => x = .returned (.tuple #[]) ∧ Put F w s t u (delS k e) w' := by
 have hs := hM _ _ _ h.s
 have hc := cell_of_one hs
 cases m with
 | some b =>
  obtain ⟨es', c', hrun, hkm⟩ := (h.map hM).del uMI keyI k 0 #[104, 20] rfl
  have HP := Aside0.mk (Put.at hM h htu (fun k hk => setO_ne hk) setO_size ⟨rfl, rfl, rfl⟩ hkm)
  clear hM h hkm htu hs
  go_enter Tryz.func116, Tryz.ntmps116
  go_wp2
  go_end0
  exact ⟨rfl, HP.out⟩
 | none =>
  have he : e = [] := h.m
  subst he
  have hd := del_none k
  have HP : Aside0 (Put F w s t u (delS k []) w) := ⟨none, F, hM, h, Stay.refl _ _, NextS.refl _ _, Turn.refl _ _⟩
  clear hM h htu hs
  go_enter Tryz.func116, Tryz.ntmps116
  go_wp2
  go_end0
  exact ⟨rfl, HP.out⟩
end
/-! syncmap.Map.Range: whatever the function does with each key and value. -/
section
open Go.Proofs
def RgM (w : World) (r : Nat) (m : Option Nat) (e left : Ents) : Prop := match m with
 | none => (∃ a s c, w.heap[r]? = some (.mapIter none a s c)) ∧ left = []
 | some b => RgS KY w r b e left
theorem Stepped.refl (w : World) (r : Nat) : Stepped w w r := ⟨rfl, rfl, rfl, rfl, fun _ _ => rfl⟩
theorem Stepped.below {w w' : World} {r n : Nat} (h : Stepped w w' r) (hn : n ≤ r) : Below n w w' := ⟨h.os, h.tape, h.output, by rw [h.size]; exact Nat.le_refl _, fun k hk => h.block k (by omega)⟩
theorem sy_range_it {F : Fp} {w : World} {s : Nat} {t u : Tag} {m : Option Nat} {e : Ents} (hM : Mem w F) (h : SyF F s t m u e) :
  ∃ o, (Instr.range 104 (.map m)).run Tryz.prog w = .ok (PT w.heap.size) (w.alloc o) ∧ RgM (w.alloc o) w.heap.size m e e := by
 cases m with
 | none => exact ⟨_, run_range_nilMap w _ _ _ uMI, ⟨⟨_, _, _, heap_alloc_new _ _⟩, h.m⟩⟩
 | some b => exact (h.map hM).range uMI
theorem RgM.next {w : World} {r : Nat} {m : Option Nat} {e left : Ents} (h : RgM w r m e left) :
  (left = [] ∧ ∀ ty, (Instr.next (PT r) false ty).run Tryz.prog w = .ok (.tuple #[.bool false]) w) ∨
  ∃ A k v B w', left = A ++ (k, v) :: B ∧ (∀ ty, (Instr.next (PT r) false ty).run Tryz.prog w = .ok (.tuple #[.bool true, KY k, v]) w') ∧ RgM w' r m e (A ++ B) ∧ Stepped w w' r ∧ (Instr.entry (PT r)).run Tryz.prog w' = .ok (.tuple #[KY k, v]) w' := by
 cases m with
 | none =>
  obtain ⟨⟨a, s, c, h1⟩, h2⟩ := h
  refine .inl ⟨h2, fun ty => ?_⟩
  simp only [Instr.next, getObj, Sem.run_bind, Sem.run, h1, Result.andThen]
  rfl
 | some b => exact RgS.next h
theorem RgM.grown {w w' : World} {r : Nat} {m : Option Nat} {e left : Ents} (h : RgM w r m e left) {o : Option Nat} (hg : ∀ k, k < w.heap.size → some k ≠ o → w'.heap[k]? = w.heap[k]?) (ho : ∀ k, o = some k → ∃ cs t, w.heap[k]? = some (.cells cs t (0, 0))) : RgM w' r m e left := by
 have key : ∀ (k : Nat) (x : Obj), w.heap[k]? = some x → (∀ cs t, x ≠ .cells cs t (0, 0)) → w'.heap[k]? = some x := fun k x hk hx => (hg k (Array.getElem?_eq_some_iff.1 hk).1 (fun e => by
  obtain ⟨cs, t, hc⟩ := ho k e.symm
  rw [hk] at hc
  exact hx cs t (Option.some.inj hc))).trans hk
 cases m with
 | none =>
  obtain ⟨⟨a, s, c, h1⟩, h2⟩ := h
  exact ⟨⟨a, s, c, key r _ h1 (fun _ _ e => by cases e)⟩, h2⟩
 | some b =>
  obtain ⟨es, c, since, c0, seen, h1, h2, h3⟩ := h
  exact ⟨es, c, since, c0, seen, key r _ h1 (fun _ _ e => by cases e), key b _ h2 (fun _ _ e => by cases e), h3⟩
theorem RgM.iter {w : World} {r : Nat} {m : Option Nat} {e left : Ents} (h : RgM w r m e left) (cs : Array Value) (t : TypeId) (z : Nat × Nat) : w.heap[r]? ≠ some (.cells cs t z) := by
 cases m with
 | none =>
  obtain ⟨⟨a, s, c, h1⟩, h2⟩ := h
  rw [h1]; intro e; cases e
 | some b =>
  obtain ⟨es, c, since, c0, seen, h1, h2, h3⟩ := h
  rw [h1]; intro e; cases e
def leftN (w : World) (r : Nat) (m : Option Nat) : Nat := match m with
 | none => 0
 | some b => match w.heap[r]?, w.heap[b]? with
  | some (.mapIter _ _ seen _), some (.map es _) => (Go.leftOf es seen).size
  | _, _ => 0
theorem RgM.count {w : World} {r : Nat} {m : Option Nat} {e left : Ents} (h : RgM w r m e left) : leftN w r m = left.length := by
 cases m with
 | none => rw [h.2]; rfl
 | some b =>
  obtain ⟨es, c, since, c0, seen, h1, h2, h3, h4, h5, h6, h7⟩ := h
  unfold leftN
  simp only [h1, h2]
  have := congrArg List.length h7
  simpa using this
theorem posw {u : Int} (h0 : 0 ≤ u) (h1 : u < 9223372036854775808) : wrap64 u = u := by unfold wrap64; omega
abbrev kI : Kd ByteArray := Kd.scalar KY (fun _ => rfl)
theorem infoI : (Tryz.prog.info? 20).map (fun i => (i.zero, i.size, i.bytes)) = some (some .nilIface, 1, 16) := by kernel_rfl
theorem rowI_stepped {w w' : World} {r n : Nat} {m : Option Nat} {e left : Ents} {v : Value} {l : List ByteArray} (hr : RgM w r m e left) (hs : Stepped w w' r) (h : Kd.R kI 20 w n (fun _ => True) v l) : Kd.R kI 20 w' n (fun _ => True) v l := by
 refine Kd.R_mono (Kd.R_move (Kd.R_bound h) (fun k hk2 => hs.block k (fun e => ?_))) (fun _ _ => trivial)
 obtain ⟨_, _, _, q, hq, cs, hc⟩ := hk2
 rw [e] at hc
 exact hr.iter _ _ _ hc
theorem perm_mid {α : Type} {D A B T : List α} {x : α} (h : (D ++ (A ++ x :: B)).Perm T) : ((D ++ [x]) ++ (A ++ B)).Perm T := by
 refine List.Perm.trans ?_ h
 rw [List.append_assoc]
 exact List.Perm.append_left D (by simpa using List.perm_middle.symm)
/-- a map behind its pointer, in a world -/
structure SyW (w : World) (s : Nat) (m : Option Nat) (e : Ents) : Prop where
 s : w.heap[s]? = some (.cells #[.map m] 106 (0, 0))
 m : match m with
  | none => e = []
  | some b => KM KY w b e
theorem SyF.w {F : Fp} {w : World} {s : Nat} {t u : Tag} {m : Option Nat} {e : Ents} (hM : Mem w F) (h : SyF F s t m u e) : SyW w s m e := ⟨hM _ _ _ h.s, by
 cases m with
 | none => exact h.m
 | some b => exact h.map hM⟩
theorem SyW.keep {w w' : World} {s : Nat} {m : Option Nat} {e : Ents} (h : SyW w s m e) (hs : w'.heap[s]? = w.heap[s]?) (hm : ∀ b, m = some b → w'.heap[b]? = w.heap[b]?) : SyW w' s m e := ⟨hs.trans h.s, by
 have := h.m
 cases m with
 | none => exact this
 | some b => exact KM.keep this (hm b rfl)⟩
theorem SyW.look {w : World} {s : Nat} {m : Option Nat} {e : Ents} (h : SyW w s m e) (k : ByteArray) :
  (Instr.lookup 104 (.map m) (KY k) true).run Tryz.prog w = .ok (.tuple #[((lookS k e 0).map (·.2)).getD .nilIface, .bool (lookS k e 0).isSome]) w := by
 have hm := h.m
 cases m with
 | none =>
  have : e = [] := hm
  subst this
  exact look_nil uMI keyI w k (zeroI w) true
 | some b =>
  have hk : KM KY w b e := hm
  cases hl : lookS k e 0 with
  | none => exact hk.look_none uMI keyI hl (zeroI w) true
  | some jv => exact hk.look uMI keyI (j := jv.1) (v := jv.2) hl true
theorem look_nodup : ∀ {e : Ents} (i : Nat), (e.map (·.1)).Nodup → ∀ p ∈ e, ∃ j, lookS p.1 e i = some (j, p.2)
 | [], _, _, p, h => by cases h
 | q :: e, i, hn, p, h => by
  rw [List.map_cons, List.nodup_cons] at hn
  unfold lookS
  rcases List.mem_cons.1 h with rfl | h
  ·rw [if_pos rfl]; exact ⟨_, rfl⟩
  ·rw [if_neg (fun g => hn.1 (by rw [← g]; exact List.mem_map_of_mem h))]
   exact look_nodup (i + 1) hn.2 p h
def valOf (e : Ents) (k : ByteArray) : Value := ((lookS k e 0).map (·.2)).getD .nilIface
theorem valOf_in {e : Ents} (hn : (e.map (·.1)).Nodup) {p : ByteArray × Value} (h : p ∈ e) : valOf e p.1 = p.2 ∧ (lookS p.1 e 0).isSome = true := by
 obtain ⟨j, hj⟩ := look_nodup 0 hn p h
 unfold valOf
 rw [hj]
 exact ⟨rfl, rfl⟩
theorem vals_perm {e : Ents} (hn : (e.map (·.1)).Nodup) {D : Ents} (hD : D.Perm e) : (D.map (·.1)).map (fun k => (k, valOf e k)) = D := by
 rw [List.map_map]
 conv => rhs; rw [← List.map_id D]
 refine List.map_congr_left (fun p hp => ?_)
 show (p.1, valOf e p.1) = p
 rw [(valOf_in hn (hD.mem_iff.1 hp)).1]
/-- what is said of a function that is called with each key and value: what it has (I, its blocks S) -/
structure RStep (w : World) (e : Ents) (n : Nat) (caps : Array Value) (I : Ents → (Nat → Prop) → World → Prop) : Prop where
 step : ∀ (done rest : Ents) (S : Nat → Prop) (W : World) (k : ByteArray) (v : Value), (done ++ (k, v) :: rest).Perm e → I done S W →
  Calls Tryz.prog n (#[KY k, v] ++ caps) W fun x W' => x = .returned (.bool true) ∧ ∃ S', I (done ++ [(k, v)]) S' W' ∧ NextS W.heap.size S S' ∧ Turn S W W'
 frame : ∀ (done : Ents) (S : Nat → Prop) (W W' : World), I done S W → (∀ k, k < W.heap.size → (k < w.heap.size ∨ S k) → W'.heap[k]? = W.heap[k]?) → W.heap.size ≤ W'.heap.size → W'.os = W.os ∧ W'.tape = W.tape ∧ W'.output = W.output → I done S W'
 lt : ∀ (done : Ents) (S : Nat → Prop) (W : World), I done S W → ∀ k, S k → k < W.heap.size
set_option maxHeartbeats 8000000 in
set_option maxRecDepth 100000 in
theorem sy_range {F : Fp} {w : World} {s : Nat} {t u : Tag} {m : Option Nat} {e : Ents} (hM : Mem w F) (h : SyF F s t m u e) (hn : (e.map (·.1)).Nodup) (hlen : e.length ≤ 1000000) {n : Nat} {caps : Array Value} {I : Ents → (Nat → Prop) → World → Prop} {S0 : Nat → Prop}
  (hcf : ∀ (args : Array Value) (w : World), (callFunc n args).run Tryz.prog w = .ok (.enter n args) w) (hR : RStep w e n caps I) (h0 : I [] S0 w) (hS : ∀ k, S0 k → k < w.heap.size) (hs : ¬ S0 s) (hm : ∀ b, m = some b → ¬ S0 b) :
  Calls Tryz.prog 42 #[PT s, .func (.func n) #[] caps] w fun x w' => x = .returned (.tuple #[]) ∧ ∃ done S', done.Perm e ∧ I done S' w' ∧ NextS w.heap.size S0 S' ∧ Turn S0 w w' := by
 have hc := cell_of_one (hM _ _ _ h.s)
 have hsl := (hM _ _ _ h.s).lt
 have hml : ∀ b, m = some b → b < w.heap.size := fun b hb => by
  subst hb
  exact (h.map hM).lt
 have HW := Aside0.mk (h.w hM)
 obtain ⟨o, hrun, hrg⟩ := sy_range_it hM h
 have HRG := Aside0.mk hrg
 have HN := Aside0.mk hn
 have HLN := Aside0.mk hlen
 have HR := Aside0.mk hR
 have H0 := Aside0.mk h0
 have HS := Aside0.mk hS
 have HNS := Aside0.mk (And.intro hs hm)
 have HSL := Aside0.mk (And.intro hsl hml)
 clear hM h hn hlen hR h0 hS hs hm hrg hsl hml
 go_enter Tryz.func42, Tryz.ntmps42
 go_wp2
 go_loopw [4] (fun v4 wr => ∃ (D L : Ents), Aside0 ((D ++ L).Perm e) ∧ Aside0 (RgM wr w.heap.size m e L) ∧ Aside0 (Kd.R kI 20 wr w.heap.size (fun _ => True) v4 (D.map (·.1))) ∧ Aside0 (Below w.heap.size w wr))
  (fun _ wr => leftN wr w.heap.size m)
 case atStart => exact ⟨[], e, ⟨List.Perm.refl _⟩, HRG, ⟨Kd.R_nil _ _ _ _ _⟩, ⟨(Below.refl _ _).alloc (Nat.le_refl _) _⟩⟩
 case round =>
  clear HRG hrun hc
  obtain ⟨D, L, HP, HRG, HO, HB⟩ := hrel
  rcases HRG.out.next with ⟨rfl, hnx⟩ | ⟨A, k, v, B, w1, rfl, hnx, hrg1, hst1, hen⟩
  ·obtain ⟨A0, c0, hv4⟩ := Kd.R_slice HO.out
   subst hv4
   rw [List.append_nil] at HP
   obtain ⟨Kl, hKl⟩ : ∃ Kl, Kl = D.map (·.1) := ⟨_, rfl⟩
   have HKD := Aside0.mk (show Kl.map (fun k => (k, valOf e k)) = D from by rw [hKl]; exact vals_perm HN.out HP.out)
   rw [← hKl] at HO
   have HKL := Aside0.mk (show Kl.length ≤ 1000000 from by rw [hKl, List.length_map, HP.out.length_eq]; exact HLN.out)
   have HKE := Aside0.mk (show ∀ k ∈ Kl, (lookS k e 0).isSome = true from fun k hk => by
    rw [hKl] at hk
    obtain ⟨p, hp, rfl⟩ := List.mem_map.1 hk
    exact (valOf_in HN.out (HP.out.mem_iff.1 hp)).2)
   rw [← hKl]
   clear hKl
   have HI0 := Aside0.mk (show I [] S0 wr from HR.out.frame _ _ _ _ H0.out (fun k hk _ => HB.out.block k hk) HB.out.size ⟨HB.out.os, HB.out.tape, HB.out.output⟩)
   clear H0 HRG
   obtain ⟨wq, hwq⟩ : ∃ x, x = wr := ⟨wr, rfl⟩
   subst hwq
   have HCK := Aside0.mk (Kd.R_reads' HO.out).2.2
   go_wp2
   go_loopw [25] (fun v25 w2 => ∃ (i : Nat) (S : Nat → Prop), v25 = .int .i64 (i : Int) ∧ i ≤ Kl.length ∧ Aside0 (I ((Kl.take i).map fun k => (k, valOf e k)) S w2) ∧ Aside0 (NextS wq.heap.size S0 S) ∧ Aside0 (Turn S0 wq w2))
    (fun v25 _ => Kl.length - (intOf v25).toNat)
   case atStart => exact ⟨0, S0, rfl, Nat.zero_le _, HI0, ⟨NextS.refl _ _⟩, ⟨Turn.refl _ _⟩⟩
   case round =>
    clear HI0
    obtain ⟨i, S, rfl, hi, HI, HNX, HT⟩ := hrel
    by_cases hlt : i < Kl.length
    ·obtain ⟨k, hk⟩ : ∃ k, Kl[i]? = some k := ⟨_, List.getElem?_eq_getElem hlt⟩
     have hkm : k ∈ Kl := List.mem_of_getElem? hk
     have hs2 : wr.heap[s]? = w.heap[s]? := (HT.out.block s (Nat.lt_of_lt_of_le HSL.out.1 HB.out.size) HNS.out.1).trans (HB.out.block s HSL.out.1)
     have hW2 := HW.out.keep hs2 (fun b hb => (HT.out.block b (Nat.lt_of_lt_of_le (HSL.out.2 b hb) HB.out.size) (HNS.out.2 b hb)).trans (HB.out.block b (HSL.out.2 b hb)))
     have hc2 := cell_of_one hW2.s
     have hl2 := hW2.look k
     rw [HKE.out k hkm] at hl2
     have hrow : Kd.R kI 20 wr w.heap.size (fun _ => True) (.slice A0 Kl.length c0) Kl := Kd.R_mono (Kd.R_move (Kd.R_bound HO.out) (fun g hg => HT.out.block g hg.2.2.1 (fun hx => by
      have h1 := HS.out g hx
      have h2 := hg.2.1
      omega))) (fun _ _ => trivial)
     obtain ⟨ad, hA, hcell⟩ := ReadsOf.at_ (Kd.reads_of_C (enc := KY) (d := ByteArray.empty) (h1 := fun _ => rfl) (Kd.R_reads' hrow).2.2) (i : Int) (by omega) (by omega)
     subst hA
     have hrd : rdOf ByteArray.empty Kl (i : Int) = k := by
      unfold rdOf
      rw [Int.toNat_natCast, List.getD_eq_getElem?_getD, hk]; rfl
     rw [hrd, Int.toNat_natCast] at hcell
     have hperm : ((Kl.take i).map (fun k => (k, valOf e k)) ++ (k, valOf e k) :: (Kl.drop (i + 1)).map fun k => (k, valOf e k)).Perm e := by
      have e1 : Kl.take i ++ k :: Kl.drop (i + 1) = Kl := by
       rw [List.getElem?_eq_getElem hlt] at hk
       rw [← Option.some.inj hk, List.getElem_cons_drop, List.take_append_drop]
      have e2 := congrArg (List.map fun k => (k, valOf e k)) e1
      rw [List.map_append, List.map_cons] at e2
      rw [e2, HKD.out]
      exact HP.out
     have HST := Aside0.mk (HR.out.step _ _ S wr k (valOf e k) hperm HI.out)
     have htk : (Kl.take (i + 1)).map (fun k => (k, valOf e k)) = (Kl.take i).map (fun k => (k, valOf e k)) ++ [(k, valOf e k)] := by
      rw [List.take_add_one, hk]
      simp
     have HTK := Aside0.mk htk
     have hvv : ((lookS k e 0).map (·.2)).getD .nilIface = valOf e k := rfl
     rw [hvv] at hl2
     clear htk hperm hrow hW2 hs2 hkm hrd hk hvv
     generalize valOf e k = v at *
     have hi1 : 0 ≤ (i : Int) := by omega
     have hi2 : (i : Int) < (Kl.length : Int) := by omega
     go_wp2_with (refine HST.out.mono ?_; rintro x w3 ⟨rfl, S', hI', hN', hT'⟩; have HI3 := Aside0.mk hI'; have HN3 := Aside0.mk hN'; have HT3 := Aside0.mk hT'; clear hI' hN' hT')
     go_roundw
     case rel => exact ⟨i + 1, S', by have := HKL.out; rw [posw (by omega) (by omega)]; simp, by omega, ⟨by rw [HTK.out]; exact HI3.out⟩, ⟨HNX.out.trans HN3.out HT.out.size⟩, ⟨HT.out.trans HNX.out HT3.out⟩⟩
     case measure =>
      have := HKL.out
      rw [posw (by omega) (by omega)]
      simp only [intOf]
      omega
    ·obtain rfl : i = Kl.length := by omega
     rw [List.take_length, HKD.out] at HI
     go_wp2
     go_end0
     exact ⟨rfl, D, S, HP.out, HI.out, fun k hk => (HNX.out k hk).imp_right (fun h => Nat.le_trans HB.out.size h), (Turn.ofBelow S0 HB.out).trans (NextS.refl _ _) HT.out⟩
  ·have HRG1 := Aside0.mk hrg1
   have HO1 := Aside0.mk (rowI_stepped HRG.out hst1 HO.out)
   have HB1 := Aside0.mk (HB.out.trans (hst1.below (Nat.le_refl _)))
   have HP1 := Aside0.mk (perm_mid HP.out)
   have HCNT := Aside0.mk (show leftN w1 w.heap.size m < leftN wr w.heap.size m from by
    rw [hrg1.count, HRG.out.count]
    simp)
   have HOL := Aside0.mk (show ((D.map (·.1)).length + 1) * 16 ≤ 140737488355328 from by
    have h1 := HP.out.length_eq
    have h2 := HLN.out
    simp only [List.length_append, List.length_cons, List.length_map] at h1 ⊢
    omega)
   clear hrg1 hst1 HP HO HB HRG
   go_wp2_with ((with_reducible refine gate_builtin (b := .append) (xs := #[.tmp 19, .tmp 21]) rfl ?_); at_builtin; refine Kd.R_append kI (w0 := w) w.heap.size rfl (.tmp 19) (.tmp 21) 109 20 .nilIface 16 rfl Tryz.underlying109 infoI rfl (by decide) (by omega) u4 (D.map (·.1)) k [KY k] (fun _ => True) (fun _ => False) rfl ?aX ?aP (fun _ hk => hk.elim) ?aF ?aO ?aB ?aS ?aL ?_; (case aX => rfl); (case aP => exact rfl); (case aB => exact HB1.out); (case aF => exact (fun _ _ => trivial)); (case aO => exact HO1.out); (case aS => exact below_size HB1.out); (case aL => exact HOL.out); intro v2 w4 ho hb4 hg4 hat; have HO4 := Aside0.mk ho; have HB4 := Aside0.mk hb4; have HG4 := Aside0.mk hg4; clear ho hb4 hg4 hat)
   have HOWN := Aside0.mk (show ∀ k, u4.ownBlock = some k → ∃ cs t, w1.heap[k]? = some (.cells cs t (0, 0)) from fun k hk => by
    obtain ⟨_, _, _, q, _, cs, hc⟩ := (Kd.R_bound HO1.out).1 k hk
    exact ⟨cs, q, hc⟩)
   have HRG4 := Aside0.mk (HRG1.out.grown (fun k hk hne => HG4.out.block k hk hne) HOWN.out)
   go_roundw
   case rel => exact ⟨D ++ [(k, v)], A ++ B, HP1, HRG4, ⟨by rw [List.map_append]; exact HO4.out⟩, HB4⟩
   case measure =>
    rw [HRG4.out.count, ← HRG1.out.count]
    exact HCNT.out
end
/-! Roles: making one, finding one, links. -/
section
open Go.Proofs
theorem push5 (h : Array Obj) (a b c d e : Obj) : (((((h.push a).push b).push c).push d).push e)[h.size]? = some a ∧ (((((h.push a).push b).push c).push d).push e)[h.size + 1]? = some b ∧ (((((h.push a).push b).push c).push d).push e)[h.size + 2]? = some c ∧ (((((h.push a).push b).push c).push d).push e)[h.size + 3]? = some d ∧ (((((h.push a).push b).push c).push d).push e)[h.size + 4]? = some e := by
 refine ⟨?_, ?_, ?_, ?_, ?_⟩ <;> simp only [Array.getElem?_push, Array.size_push] <;> (repeat (first | rw [if_neg (by omega)] | rw [if_pos (by omega)])) <;> simp
theorem alloc_heap (w : World) (o : Obj) : (w.alloc o).heap = w.heap.push o := rfl
set_option maxHeartbeats 4000000 in
set_option maxRecDepth 100000 in
theorem new_role (name : ByteArray) (w : World) :
  Calls Tryz.prog 65 #[.string name] w fun x w' => x = .returned (PT w.heap.size) ∧ Below w.heap.size w w' ∧ w'.heap.size = w.heap.size + 5 ∧
   w'.heap[w.heap.size]? = some (.cells #[.string name, PT (w.heap.size + 1), PT (w.heap.size + 2), PT (w.heap.size + 3), PT (w.heap.size + 4)] 123 (0, 0)) ∧
   ∀ j, 1 ≤ j → j ≤ 4 → w'.heap[w.heap.size + j]? = some (.cells #[.map none] 106 (0, 0)) := by
 go_enter Tryz.func65, Tryz.ntmps65
 go_wp2
 go_ret
 refine ⟨rfl, (((((Below.refl _ _).alloc (Nat.le_refl _) _).alloc (by simp) _).alloc (by simp; omega) _).alloc (by simp; omega) _).alloc (by simp; omega) _, by simp, ?_, fun j h1 h2 => ?_⟩
 ·simp only [alloc_heap]
  exact (push5 _ _ _ _ _ _).1
 ·simp only [alloc_heap]
  obtain ⟨_, q1, q2, q3, q4⟩ := push5 w.heap (Obj.cells #[.string name, PT (w.heap.size + 1), PT (w.heap.size + 2), PT (w.heap.size + 3), PT (w.heap.size + 4)] 123 (0, 0)) (.cells #[.map none] 106 (0, 0)) (.cells #[.map none] 106 (0, 0)) (.cells #[.map none] 106 (0, 0)) (.cells #[.map none] 106 (0, 0))
  rcases (show j = 1 ∨ j = 2 ∨ j = 3 ∨ j = 4 from by omega) with rfl | rfl | rfl | rfl
  ·exact q1
  ·exact q2
  ·exact q3
  ·exact q4
theorem as_role (v : Value) (w : World) : (Instr.typeAssert (.iface 121 v) 20 121 false).run Tryz.prog w = .ok v w := by kernel_rfl
theorem load_cell {F : Fp} {w : World} {b : Nat} {t : Tag} {cs : Array Value} {ty : TypeId} (hM : Mem w F) (h : F b = some (t, .cells cs ty)) {i : Nat} {v : Value} (hi : cs[i]? = some v) : w.cell? ⟨b, i, none⟩ = some v := by
 have := hM _ _ _ h
 have : w.heap[b]? = some (.cells cs ty (0, 0)) := this
 simp [World.cell?, this, hi]
set_option maxHeartbeats 4000000 in
set_option maxRecDepth 100000 in
theorem rm_load {F : Fp} {w : World} {p s c : Nat} {max : Int} {mc : List Value} {m : Option Nat} {L : List RoleB} (hM : Mem w F) (h : RMF F p s c max mc m L) (n : ByteArray) (r : Option Nat) (hr : match r with
   | some a => ∃ x ∈ L, x.name = n ∧ x.a = a
   | none => n ∉ L.map (·.name)) :
  Calls Tryz.prog 64 #[PT p, KY n] w fun x w' => x = .returned (.tuple #[.pointer (r.map fun a => ⟨a, 0, none⟩), .bool r.isSome]) ∧ w' = w := by
 have hc : w.cell? ⟨p, 0, none⟩ = some (PT s) := load_cell hM h.p rfl
 have hl := sy_load hM h.sy n
 cases r with
 | some a =>
  obtain ⟨x, hx, hn, ha⟩ := hr
  obtain ⟨j, hj⟩ := lookS_in (n := n) 0 h.names hx hn
  rw [hj, ha] at hl
  have hta := as_role (PT a)
  have HL := Aside0.mk hl
  clear hl hj hM h
  go_enter Tryz.func64, Tryz.ntmps64
  go_wp2_with (go_at_call 78; refine HL.out.mono ?_; rintro x w2 ⟨rfl, rfl⟩)
  go_ret2
  exact ⟨rfl, rfl⟩
 | none =>
  rw [lookS_out hr] at hl
  have HL := Aside0.mk hl
  clear hl hM h
  go_enter Tryz.func64, Tryz.ntmps64
  go_wp2_with (go_at_call 78; refine HL.out.mono ?_; rintro x w2 ⟨rfl, rfl⟩)
  go_ret2
  exact ⟨rfl, rfl⟩
/-- a new role beside those of a manager -/
theorem RoleF.fresh {F : Fp} {w w' : World} {name : ByteArray} (hM : Mem w F) (hb : Below w.heap.size w w') (h0 : w'.heap[w.heap.size]? = some (.cells #[.string name, PT (w.heap.size + 1), PT (w.heap.size + 2), PT (w.heap.size + 3), PT (w.heap.size + 4)] 123 (0, 0)))
  (h1 : ∀ j, 1 ≤ j → j ≤ 4 → w'.heap[w.heap.size + j]? = some (.cells #[.map none] 106 (0, 0))) :
  ∃ F1, Mem w' F1 ∧ Stay (fun _ => False) F F1 ∧ RoleF F1 ⟨name, w.heap.size, w.heap.size + 1, w.heap.size + 2, w.heap.size + 3, w.heap.size + 4, none, none, [], []⟩ ∧ Next w.heap.size F F1 := by
 have old : ∀ k t pc, F k = some (t, pc) → k < w.heap.size := fun k t pc h => (hM k t pc h).lt
 have hF : ∀ k, w.heap.size ≤ k → F k = none := fun k hk => by
  cases h : F k with
  | none => rfl
  | some x => have := old k x.1 x.2 h; omega
 refine ⟨fun k => if k < w.heap.size then F k else if k = w.heap.size then some (.role name, .cells #[.string name, PT (w.heap.size + 1), PT (w.heap.size + 2), PT (w.heap.size + 3), PT (w.heap.size + 4)] 123) else if k = w.heap.size + 1 then some (.sr name, SyP none) else if k = w.heap.size + 2 then some (.su name, SyP none) else if k = w.heap.size + 3 then some (.sm name, SyP none) else if k = w.heap.size + 4 then some (.sb name, SyP none) else none, fun k t pc hk => ?_, fun k t pc hk _ => ?_, ?_, fun k hk => ?_⟩
 ·simp only at hk
  split at hk
  ·exact (hM k t pc hk).keep (hb.block k (old k t pc hk))
  ·split at hk
   ·rename_i e
    injection hk with hk
    injection hk with _ hk
    rw [← hk, e]
    exact h0
   ·split at hk
    ·rename_i e
     injection hk with hk
     injection hk with _ hk
     rw [← hk, e]
     exact h1 1 (by omega) (by omega)
    ·split at hk
     ·rename_i e
      injection hk with hk
      injection hk with _ hk
      rw [← hk, e]
      exact h1 2 (by omega) (by omega)
     ·split at hk
      ·rename_i e
       injection hk with hk
       injection hk with _ hk
       rw [← hk, e]
       exact h1 3 (by omega) (by omega)
      ·split at hk
       ·rename_i e
        injection hk with hk
        injection hk with _ hk
        rw [← hk, e]
        exact h1 4 (by omega) (by omega)
       ·cases hk
 ·show (if k < w.heap.size then F k else _) = _
  rw [if_pos (old k t pc hk)]; exact hk
 ·refine ⟨?_, ?_, ?_, ?_, ?_, rfl, rfl⟩ <;> first | (simp; done) | (simp; intro h; omega)
 ·by_cases h : k < w.heap.size
  ·left
   have hk2 : (if k < w.heap.size then F k else _) ≠ none := hk
   rw [if_pos h] at hk2
   exact hk2
  ·right; omega
set_option maxHeartbeats 8000000 in
set_option maxRecDepth 100000 in
/-- a role by its name: it is there, or it is made -/
theorem get_role {F : Fp} {w : World} {p s c : Nat} {max : Int} {mc : List Value} {m : Option Nat} {L : List RoleB} {E : Edges} (hM : Mem w F) (h : RMF F p s c max mc m L) (hG : Graph L E) (n : ByteArray) :
  Calls Tryz.prog 58 #[PT p, .string n] w fun e w' => ∃ x F' m' L', e = .returned (.tuple #[PT x.a, .bool (!decide (n ∈ L.map (·.name)))]) ∧ Mem w' F' ∧ RMF F' p s c max mc m' L' ∧ Graph L' E ∧ x ∈ L' ∧ x.name = n ∧ Next w.heap.size F F' ∧ TurnF F w w' ∧
   (n ∈ L.map (·.name) → L' = L) ∧ (n ∉ L.map (·.name) → L' = L ++ [x]) := by
 have hc : w.cell? ⟨p, 0, none⟩ = some (PT s) := load_cell hM h.p rfl
 have hc2 : w.cell? ⟨p, 2, none⟩ = some .nilFunc := load_cell hM h.p rfl
 have hpl := (hM _ _ _ h.p).lt
 have hnf : ∀ W : World, (binOp .neq 87 .nilFunc .nilFunc).run Tryz.prog W = .ok (.bool false) W := fun W => by kernel_rfl
 have hnot : ∀ (x : Bool) (w : World), (Op.unary .not (.bool x)).run Tryz.prog w = .ok (.bool (!x)) w := fun _ _ => rfl
 by_cases hin : n ∈ L.map (·.name)
 ·obtain ⟨x, hx, hxn⟩ := List.mem_map.1 hin
  have HLD := Aside0.mk (fun (W : World) (hb : Below w.heap.size w W) => rm_load (hM.below hb) h n (some x.a) ⟨x, hx, hxn, rfl⟩)
  have HF := Aside0.mk (fun (W : World) (hb : Below w.heap.size w W) => show ∃ y F' m' L', Ending.returned (.tuple #[PT x.a, .bool (!decide (n ∈ L.map (·.name)))]) = .returned (.tuple #[PT y.a, .bool (!decide (n ∈ L.map (·.name)))]) ∧ Mem W F' ∧ RMF F' p s c max mc m' L' ∧ Graph L' E ∧ y ∈ L' ∧ y.name = n ∧ Next w.heap.size F F' ∧ TurnF F w W ∧ (n ∈ L.map (·.name) → L' = L) ∧ (n ∉ L.map (·.name) → L' = L ++ [y]) from
   ⟨x, F, m, L, rfl, hM.below hb, h, hG, hx, hxn, NextS.refl _ _, Turn.ofBelow _ hb, fun _ => rfl, fun h2 => absurd hin h2⟩)
  rw [decide_eq_true hin] at HF ⊢
  clear hM h hG hx hxn hin
  go_enter Tryz.func58, Tryz.ntmps58
  go_wp2_with (go_at_call 64; refine (HLD.out _ ((Below.refl _ _).alloc (Nat.le_refl _) _)).mono ?_; rintro e w2 ⟨rfl, rfl⟩)
  go_ret2
  exact HF.out _ ((Below.refl _ _).alloc (Nat.le_refl _) _)
 ·have HLD := Aside0.mk (fun (W : World) (hb : Below w.heap.size w W) => rm_load (hM.below hb) h n none hin)
  have HNR := Aside0.mk (fun (W : World) (hb : Below w.heap.size w W) (hsz : w.heap.size < W.heap.size) => (new_role n W).mono (R' := fun e w' => e = .returned (PT W.heap.size) ∧ Below W.heap.size W w' ∧ ∃ F1, Mem w' F1 ∧ Stay (fun _ => False) F F1 ∧ RoleF F1 ⟨n, W.heap.size, W.heap.size + 1, W.heap.size + 2, W.heap.size + 3, W.heap.size + 4, none, none, [], []⟩ ∧ Next w.heap.size F F1 ∧ F1 w.heap.size = none) (fun e w' hp => by
   obtain ⟨h1, h2, _, h3, h4⟩ := hp
   obtain ⟨F1, g1, g2, g3, g4⟩ := RoleF.fresh (hM.below hb) h2 h3 h4
   refine ⟨h1, h2, F1, g1, g2, g3, fun k hk => (g4 k hk).imp_right (fun h => Nat.le_trans hb.size h), ?_⟩
   cases hf : F1 w.heap.size with
   | none => rfl
   | some y =>
    rcases g4 w.heap.size (by show F1 _ ≠ none; rw [hf]; exact Option.some_ne_none _) with h | h
    ·exfalso
     apply h
     cases hf2 : F w.heap.size with
     | none => rfl
     | some z => exact absurd (hM _ z.1 z.2 hf2).lt (Nat.lt_irrefl _)
    ·omega))
  have HST := Aside0.mk (fun (F1 : Fp) (W : World) (hM1 : Mem W F1) (hS1 : Stay (fun _ => False) F F1) (a : Nat) => show Calls Tryz.prog 66 #[PT s, KY n, PV a] W fun x w' => x = .returned (.tuple #[]) ∧ Put F1 W s .all .am (putS n (PV a) (ents0 L)) w' from sy_store hM1 (h.sy.stay hS1 (fun e => e) (fun e => e)) (by simp) n (PV a))
  have HH := Aside0.mk h
  have HGG := Aside0.mk hG
  have HIN := Aside0.mk hin
  have hb1 : Below w.heap.size w (w.alloc (.cells #[.pointer none] 121)) := (Below.refl _ _).alloc (Nat.le_refl _) _
  have e1 : (w.alloc (.cells #[.pointer none] 121)).heap.size = w.heap.size + 1 := by simp
  have HN2 := HNR.out _ hb1 (by rw [e1]; omega)
  rw [e1] at HN2
  replace HN2 := Aside0.mk HN2
  have hv0 : (w.alloc (.cells #[.pointer none] 121)).heap[w.heap.size]? = some (.cells #[.pointer none] 121 (0, 0)) := heap_alloc_new _ _
  have hsl := (hM _ _ _ h.s).lt
  rw [decide_eq_false hin]
  clear hM h hG HNR hin
  go_enter Tryz.func58, Tryz.ntmps58
  go_upto_region 6 with (first
   | (go_at_call 64; refine (HLD.out _ hb1).mono ?_; rintro e w2 ⟨rfl, rfl⟩)
   | (go_at_call 65; refine HN2.out.mono ?_; rintro e w3 ⟨rfl, hb3, F1, hM1, hS1, hR1, hN1, hF0⟩; have hv3 := (hb3.block _ (Nat.lt_succ_self _)).trans hv0; have c3 := cell_of_one hv3; have f3 := free_of_one hv3; have hx0 : w3.heap[p]? = w.heap[p]? := (hb3.block _ (Nat.lt_succ_of_lt hpl)).trans (hb1.block _ hpl); have HB3 := Aside0.mk (hb1.trans (hb3.mono (Nat.le_succ _))); have hv4 := one_setCell (u := PT (w.heap.size + 1)) hv3; have c4 := cell_of_one hv4; have hk4 : ∀ i, (w3.setCell ⟨w.heap.size, 0, none⟩ (PT (w.heap.size + 1))).cell? ⟨p, i, none⟩ = w.cell? ⟨p, i, none⟩ := (fun i => by unfold World.cell?; rw [Below.heap_setCell _ _ _ _ (by show p ≠ w.heap.size; omega), hx0]); have d0 := (hk4 0).trans hc; have d2 := (hk4 2).trans hc2; have HM4 := Aside0.mk (show Mem (w3.setCell ⟨w.heap.size, 0, none⟩ (PT (w.heap.size + 1))) F1 from fun k t pc hk => (hM1 k t pc hk).keep (Below.heap_setCell _ _ _ _ (fun e => by have e : k = w.heap.size := e; rw [e, hF0] at hk; cases hk))); have HB4 := Aside0.mk (HB3.out.setCell (p := ⟨w.heap.size, 0, none⟩) (Nat.le_refl _) (PT (w.heap.size + 1))); have HV4 := Aside0.mk hv4; have HS1 := Aside0.mk hS1; have HR1 := Aside0.mk hR1; have HN1 := Aside0.mk hN1; have HF0 := Aside0.mk hF0; clear hb3 hM1 hS1 hR1 hN1 hF0 hv3 hx0 hk4 hv4))
  generalize w3.setCell ⟨w.heap.size, 0, none⟩ (PT (w.heap.size + 1)) = W4 at *
  have HM5 := Aside0.mk (show Mem W4.drew F1 from fun k t pc hk => (HM4.out k t pc hk).keep rfl)
  have HB5 := Aside0.mk (show Below w.heap.size w W4.drew from ⟨HB4.out.os, HB4.out.tape, HB4.out.output, HB4.out.size, HB4.out.block⟩)
  clear c3 f3 HB3
  have HSX := Aside0.mk (HST.out F1 W4.drew HM5.out HS1.out (w.heap.size + 1))
  rw [put_last (x := ⟨n, w.heap.size + 1, w.heap.size + 1 + 1, w.heap.size + 1 + 2, w.heap.size + 1 + 3, w.heap.size + 1 + 4, none, none, [], []⟩) HIN.out rfl] at HSX
  go_still_tail 8, (by kernel_rfl)
  change wpList _ _ _ _ _ W4.drew
  go_wp2_with (go_at_call 66; refine HSX.out.mono ?_; rintro e w5 ⟨rfl, m', F', hM', hy', hs', hn', ht'⟩; have hRM := HH.out.grow HS1.out HR1.out HIN.out hs' hy'; have c5 := (cell_of_one ((ht'.block w.heap.size (Array.getElem?_eq_some_iff.1 HV4.out).1 (fun hx => hx HF0.out)).trans HV4.out)); have d5 : w5.cell? ⟨p, 2, none⟩ = some .nilFunc := load_cell hM' hRM.p rfl; have HM6 := Aside0.mk hM'; have HRM := Aside0.mk hRM; have HN6 := Aside0.mk (HN1.out.trans hn' HB5.out.size); have HT6 := Aside0.mk ((Turn.ofBelow (dom F) (HB5.out.mono (Nat.le_refl _))).trans HN1.out ht'); clear hM' hy' hs' hn' ht' hRM)
  go_ret2
  exact ⟨_, F', m', _, rfl, HM6.out, HRM.out, HGG.out.new (by exact HIN.out) ⟨rfl, rfl⟩, by simp, rfl, HN6.out, HT6.out, fun h2 => absurd h2 HIN.out, fun _ => rfl⟩
end
/-! Links between two roles. -/
section
open Go.Proofs
theorem Mem.drew {F : Fp} {w : World} (h : Mem w F) : Mem w.drew F := fun k t pc hk => (h k t pc hk).keep rfl
theorem Put.drew {F : Fp} {w w' : World} {s : Nat} {t u : Tag} {e : Ents} (h : Put F w.drew s t u e w') : Put F w s t u e w' := by
 obtain ⟨m', F', h1, h2, h3, h4, h5⟩ := h
 exact ⟨m', F', h1, h2, h3, h4, h5.os, h5.tape, h5.output, h5.size, h5.block⟩
set_option maxHeartbeats 4000000 in
set_option maxRecDepth 100000 in
theorem add_user {F : Fp} {w : World} {x y : RoleB} (hM : Mem w F) (hx : RoleF F x) (hy : RoleF F y) :
  Calls Tryz.prog 71 #[PT y.a, PT x.a] w fun e w' => e = .returned (.tuple #[]) ∧ Put F w y.su (.su y.name) (.mu y.name) (ents (putR x.name x.a y.U)) w' := by
 have c1 : w.cell? ⟨y.a, 2, none⟩ = some (PT y.su) := load_cell hM hy.a rfl
 have c2 : w.cell? ⟨x.a, 0, none⟩ = some (.string x.name) := load_cell hM hx.a rfl
 have HM := Aside0.mk hM
 have hst := sy_store HM.out.drew (hy.syU) (by simp) x.name (PV x.a)
 rw [ents_put] at hst
 have HST := Aside0.mk hst
 clear hst hM hx hy
 go_enter Tryz.func71, Tryz.ntmps71
 go_still_tail 11, (by kernel_rfl)
 change wpList _ _ _ _ _ w.drew
 go_wp2_with (go_at_call 66; refine HST.out.mono ?_; rintro e w2 ⟨rfl, hp⟩; have HP := Aside0.mk hp; clear hp)
 go_end0
 exact ⟨rfl, HP.out.drew⟩
set_option maxHeartbeats 4000000 in
set_option maxRecDepth 100000 in
theorem remove_user {F : Fp} {w : World} {x y : RoleB} (hM : Mem w F) (hx : RoleF F x) (hy : RoleF F y) :
  Calls Tryz.prog 117 #[PT y.a, PT x.a] w fun e w' => e = .returned (.tuple #[]) ∧ Put F w y.su (.su y.name) (.mu y.name) (ents (delR x.name y.U)) w' := by
 have c1 : w.cell? ⟨y.a, 2, none⟩ = some (PT y.su) := load_cell hM hy.a rfl
 have c2 : w.cell? ⟨x.a, 0, none⟩ = some (.string x.name) := load_cell hM hx.a rfl
 have HM := Aside0.mk hM
 have hst := sy_delete HM.out.drew (hy.syU) (by simp) x.name
 rw [ents_del] at hst
 have HST := Aside0.mk hst
 clear hst hM hx hy
 go_enter Tryz.func117, Tryz.ntmps117
 go_still_tail 9, (by kernel_rfl)
 change wpList _ _ _ _ _ w.drew
 go_wp2_with (go_at_call 116; refine HST.out.mono ?_; rintro e w2 ⟨rfl, hp⟩; have HP := Aside0.mk hp; clear hp)
 go_end0
 exact ⟨rfl, HP.out.drew⟩
set_option maxHeartbeats 4000000 in
set_option maxRecDepth 100000 in
theorem add_role {F : Fp} {w : World} {p s c : Nat} {max : Int} {mc : List Value} {m : Option Nat} {L : List RoleB} {E : Edges} {x y : RoleB} (hM : Mem w F) (hR : RMF F p s c max mc m L) (hG : Graph L E) (hx : x ∈ L) (hy : y ∈ L) :
  Calls Tryz.prog 59 #[PT x.a, PT y.a] w fun e w' => e = .returned (.tuple #[]) ∧ RMPost F w p s c max mc (addE E x.name y.name) w' := by
 have c1 : w.cell? ⟨x.a, 1, none⟩ = some (PT x.sr) := load_cell hM (hR.roles x hx).a rfl
 have c2 : w.cell? ⟨y.a, 0, none⟩ = some (.string y.name) := load_cell hM (hR.roles y hy).a rfl
 have HM := Aside0.mk hM
 have hst := sy_store HM.out.drew ((hR.roles x hx).syR) (by simp) y.name (PV y.a)
 rw [ents_put] at hst
 have HST := Aside0.mk hst
 have HU := Aside0.mk (fun (w2 : World) (hp : Put F w x.sr (.sr x.name) (.mr x.name) (ents (putR y.name y.a x.R)) w2) => show Calls Tryz.prog 71 #[PT y.a, PT x.a] w2 fun e w' => e = .returned (.tuple #[]) ∧ RMPost F w p s c max mc (addE E x.name y.name) w' from by
  obtain ⟨m1, F1, hM1, hy1, hs1, hn1, ht1⟩ := hp
  have hR1 := hR.putR hx (g := putR y.name y.a) hs1 hy1
  have hx1 := setB_mem (n := x.name) (f := fR m1 (putR y.name y.a)) hx
  have hy1' := setB_mem (n := x.name) (f := fR m1 (putR y.name y.a)) hy
  have ex : ∀ z : RoleB, (if z.name = x.name then fR m1 (putR y.name y.a) z else z).name = z.name ∧ (if z.name = x.name then fR m1 (putR y.name y.a) z else z).a = z.a ∧ (if z.name = x.name then fR m1 (putR y.name y.a) z else z).su = z.su ∧ (if z.name = x.name then fR m1 (putR y.name y.a) z else z).U = z.U := fun z => by split <;> exact ⟨rfl, rfl, rfl, rfl⟩
  have hu := add_user hM1 (hR1.roles _ hx1) (hR1.roles _ hy1')
  rw [(ex x).1, (ex x).2.1, (ex y).1, (ex y).2.1, (ex y).2.2.1, (ex y).2.2.2] at hu
  refine hu.mono ?_
  rintro e w' ⟨rfl, m2, F2, hM2, hy2, hs2, hn2, ht2⟩
  have hR2 := hR1.putU hy1' (g := putR x.name x.a) (m' := m2) (by rw [(ex y).1]; exact hs2) (by rw [(ex y).1, (ex y).2.2.1, (ex y).2.2.2]; exact hy2)
  rw [(ex y).1] at hR2
  exact ⟨rfl, F2, m, _, hM2, hR2, hG.add hR.names hx hy m1 m2, hn1.trans hn2 ht1.size, ht1.trans hn1 ht2⟩)
 clear hst hM hR hG hx hy
 go_enter Tryz.func59, Tryz.ntmps59
 go_upto_region 0 with (fail)
 go_still_tail 11, (by kernel_rfl)
 change wpList _ _ _ _ _ w.drew
 go_wp2_with (first
  | (go_at_call 66; refine HST.out.mono ?_; rintro e w2 ⟨rfl, hp⟩; have HP := Aside0.mk hp.drew; clear hp)
  | (go_at_call 71; refine (HU.out w2 HP.out).mono ?_; rintro e w3 ⟨rfl, hq⟩; have HQ := Aside0.mk hq; clear hq))
 go_end0
 exact ⟨rfl, HQ.out⟩
set_option maxHeartbeats 4000000 in
set_option maxRecDepth 100000 in
theorem remove_role_link {F : Fp} {w : World} {p s c : Nat} {max : Int} {mc : List Value} {m : Option Nat} {L : List RoleB} {E : Edges} {x y : RoleB} (hM : Mem w F) (hR : RMF F p s c max mc m L) (hG : Graph L E) (hx : x ∈ L) (hy : y ∈ L) :
  Calls Tryz.prog 107 #[PT x.a, PT y.a] w fun e w' => e = .returned (.tuple #[]) ∧ RMPost F w p s c max mc (delE E x.name y.name) w' := by
 have c1 : w.cell? ⟨x.a, 1, none⟩ = some (PT x.sr) := load_cell hM (hR.roles x hx).a rfl
 have c2 : w.cell? ⟨y.a, 0, none⟩ = some (.string y.name) := load_cell hM (hR.roles y hy).a rfl
 have HM := Aside0.mk hM
 have hst := sy_delete HM.out.drew ((hR.roles x hx).syR) (by simp) y.name
 rw [ents_del] at hst
 have HST := Aside0.mk hst
 have HU := Aside0.mk (fun (w2 : World) (hp : Put F w x.sr (.sr x.name) (.mr x.name) (ents (delR y.name x.R)) w2) => show Calls Tryz.prog 117 #[PT y.a, PT x.a] w2 fun e w' => e = .returned (.tuple #[]) ∧ RMPost F w p s c max mc (delE E x.name y.name) w' from by
  obtain ⟨m1, F1, hM1, hy1, hs1, hn1, ht1⟩ := hp
  have hR1 := hR.putR hx (g := delR y.name) hs1 hy1
  have hx1 := setB_mem (n := x.name) (f := fR m1 (delR y.name)) hx
  have hy1' := setB_mem (n := x.name) (f := fR m1 (delR y.name)) hy
  have ex : ∀ z : RoleB, (if z.name = x.name then fR m1 (delR y.name) z else z).name = z.name ∧ (if z.name = x.name then fR m1 (delR y.name) z else z).a = z.a ∧ (if z.name = x.name then fR m1 (delR y.name) z else z).su = z.su ∧ (if z.name = x.name then fR m1 (delR y.name) z else z).U = z.U := fun z => by split <;> exact ⟨rfl, rfl, rfl, rfl⟩
  have hu := remove_user hM1 (hR1.roles _ hx1) (hR1.roles _ hy1')
  rw [(ex x).1, (ex x).2.1, (ex y).1, (ex y).2.1, (ex y).2.2.1, (ex y).2.2.2] at hu
  refine hu.mono ?_
  rintro e w' ⟨rfl, m2, F2, hM2, hy2, hs2, hn2, ht2⟩
  have hR2 := hR1.putU hy1' (g := delR x.name) (m' := m2) (by rw [(ex y).1]; exact hs2) (by rw [(ex y).1, (ex y).2.2.1, (ex y).2.2.2]; exact hy2)
  rw [(ex y).1] at hR2
  exact ⟨rfl, F2, m, _, hM2, hR2, hG.del hR.names hx hy m1 m2, hn1.trans hn2 ht1.size, ht1.trans hn1 ht2⟩)
 clear hst hM hR hG hx hy
 go_enter Tryz.func107, Tryz.ntmps107
 go_upto_region 0 with (fail)
 go_still_tail 9, (by kernel_rfl)
 change wpList _ _ _ _ _ w.drew
 go_wp2_with (first
  | (go_at_call 116; refine HST.out.mono ?_; rintro e w2 ⟨rfl, hp⟩; have HP := Aside0.mk hp.drew; clear hp)
  | (go_at_call 117; refine (HU.out w2 HP.out).mono ?_; rintro e w3 ⟨rfl, hq⟩; have HQ := Aside0.mk hq; clear hq))
 go_end0
 exact ⟨rfl, HQ.out⟩
end
/-! AddLink, DeleteLink of a role manager. -/
section
open Go.Proofs
theorem RMPost.after {F F1 : Fp} {w w1 w2 : World} {p s c : Nat} {max : Int} {mc : List Value} {E : Edges} (hn : Next w.heap.size F F1) (ht : TurnF F w w1) (h : RMPost F1 w1 p s c max mc E w2) : RMPost F w p s c max mc E w2 := by
 obtain ⟨F', m', L', h1, h2, h3, h4, h5⟩ := h
 exact ⟨F', m', L', h1, h2, h3, hn.trans h4 ht.size, ht.trans hn h5⟩
set_option maxHeartbeats 8000000 in
set_option maxRecDepth 100000 in
theorem add_link {F : Fp} {w : World} {p s c : Nat} {max : Int} {mc : List Value} {m : Option Nat} {L : List RoleB} {E : Edges} (hM : Mem w F) (hR : RMF F p s c max mc m L) (hG : Graph L E) (u r : ByteArray) (dv : Value) :
  Calls Tryz.prog 50 #[PT p, .string u, .string r, dv] w fun e w' => e = .returned .nilIface ∧ RMPost F w p s c max mc (addE E u r) w' := by
 have HG1 := Aside0.mk (get_role hM hR hG u)
 clear hM hR hG
 go_enter Tryz.func50, Tryz.ntmps50
 go_upto_region 2 with (go_at_call 58; refine HG1.out.mono ?_; rintro e w2 ⟨x, F1, m1, L1, rfl, hM1, hR1, hG1, hx1, hxn, hn1, ht1, _, _⟩)
 have HG2 := Aside0.mk (get_role hM1 hR1 hG1 r)
 generalize (!decide (u ∈ L.map (·.name))) = b1
 have HN1 := Aside0.mk hn1
 have HT1 := Aside0.mk ht1
 have HX := Aside0.mk hx1
 have HXN := Aside0.mk hxn
 clear hM1 hR1 hG1 hn1 ht1 hx1 hxn HG1
 go_upto_region 3 with (go_at_call 58; refine HG2.out.mono ?_; rintro e w3 ⟨y, F2, m2, L2, rfl, hM2, hR2, hG2, hy2, hyn, hn2, ht2, hsame, hmore⟩)
 generalize hb2 : (!decide (r ∈ L1.map (·.name))) = b2 at *
 have hx2 : x ∈ L2 := by
  by_cases hin : r ∈ L1.map (·.name)
  ·rw [hsame hin]; exact HX.out
  ·rw [hmore hin]; exact List.mem_append_left _ HX.out
 have hl := add_role hM2 hR2 hG2 hx2 hy2
 rw [HXN.out, hyn] at hl
 have HL := Aside0.mk hl
 have HN2 := Aside0.mk (HN1.out.trans hn2 HT1.out.size)
 have HT2 := Aside0.mk (HT1.out.trans HN1.out ht2)
 clear hM2 hR2 hG2 hn2 ht2 hx2 hy2 hyn hsame hmore hl HG2 hb2
 go_wp2_with (go_at_call 59; refine HL.out.mono ?_; rintro e w4 ⟨rfl, hq⟩; have HQ := Aside0.mk (RMPost.after HN2.out HT2.out hq); clear hq)
 go_ret
 exact ⟨rfl, HQ.out⟩
set_option maxHeartbeats 8000000 in
set_option maxRecDepth 100000 in
theorem delete_link {F : Fp} {w : World} {p s c : Nat} {max : Int} {mc : List Value} {m : Option Nat} {L : List RoleB} {E : Edges} (hM : Mem w F) (hR : RMF F p s c max mc m L) (hG : Graph L E) (u r : ByteArray) (dv : Value) :
  Calls Tryz.prog 98 #[PT p, .string u, .string r, dv] w fun e w' => e = .returned .nilIface ∧ RMPost F w p s c max mc (delE E u r) w' := by
 have HG1 := Aside0.mk (get_role hM hR hG u)
 clear hM hR hG
 go_enter Tryz.func98, Tryz.ntmps98
 go_upto_region 2 with (go_at_call 58; refine HG1.out.mono ?_; rintro e w2 ⟨x, F1, m1, L1, rfl, hM1, hR1, hG1, hx1, hxn, hn1, ht1, _, _⟩)
 have HG2 := Aside0.mk (get_role hM1 hR1 hG1 r)
 generalize (!decide (u ∈ L.map (·.name))) = b1
 have HN1 := Aside0.mk hn1
 have HT1 := Aside0.mk ht1
 have HX := Aside0.mk hx1
 have HXN := Aside0.mk hxn
 clear hM1 hR1 hG1 hn1 ht1 hx1 hxn HG1
 go_upto_region 3 with (go_at_call 58; refine HG2.out.mono ?_; rintro e w3 ⟨y, F2, m2, L2, rfl, hM2, hR2, hG2, hy2, hyn, hn2, ht2, hsame, hmore⟩)
 generalize hb2 : (!decide (r ∈ L1.map (·.name))) = b2 at *
 have hx2 : x ∈ L2 := by
  by_cases hin : r ∈ L1.map (·.name)
  ·rw [hsame hin]; exact HX.out
  ·rw [hmore hin]; exact List.mem_append_left _ HX.out
 have hl := remove_role_link hM2 hR2 hG2 hx2 hy2
 rw [HXN.out, hyn] at hl
 have HL := Aside0.mk hl
 have HN2 := Aside0.mk (HN1.out.trans hn2 HT1.out.size)
 have HT2 := Aside0.mk (HT1.out.trans HN1.out ht2)
 clear hM2 hR2 hG2 hn2 ht2 hx2 hy2 hyn hsame hmore hl HG2 hb2
 go_wp2_with (go_at_call 107; refine HL.out.mono ?_; rintro e w4 ⟨rfl, hq⟩; have HQ := Aside0.mk (RMPost.after HN2.out HT2.out hq); clear hq)
 go_ret
 exact ⟨rfl, HQ.out⟩
end
/-! The roles, or the users, of a role are ranged over (no role is a pattern: what is matched is none). -/
section
open Go.Proofs
set_option maxHeartbeats 4000000 in
set_option maxRecDepth 100000 in
theorem sy_range_nil {w : World} {s : Nat} (hs : w.heap[s]? = some (.cells #[.map none] 106 (0, 0))) (f : Value) :
  Calls Tryz.prog 42 #[PT s, f] w fun e w' => e = .returned (.tuple #[]) ∧ Below w.heap.size w w' := by
 have hc := cell_of_one hs
 have hrun := run_range_nilMap w 104 _ _ uMI
 have hnx := fun ty => run_next_nilMap (P := Tryz.prog) w ty 0 0 #[]
 have hb : Below w.heap.size w (w.alloc (.mapIter none 0 #[] 0)) := (Below.refl _ _).alloc (Nat.le_refl _) _
 clear hs
 go_enter Tryz.func42, Tryz.ntmps42
 go_wp2
 refine wp_loop_rounds 1 ?_
 rw [rounds_succ]
 go_wp2
 refine wp_loop_rounds 1 ?_
 rw [rounds_succ]
 go_wp2
 go_end0
 exact ⟨rfl, hb⟩
theorem RStep.up {w w1 : World} {e : Ents} {n : Nat} {caps : Array Value} {I : Ents → (Nat → Prop) → World → Prop} (h : RStep w e n caps I) (hs : w.heap.size ≤ w1.heap.size) : RStep w1 e n caps I :=
 ⟨h.step, fun done S W W' hI hk hsz ho => h.frame done S W W' hI (fun k hk1 hk2 => hk k hk1 (hk2.imp_left (fun h => Nat.lt_of_lt_of_le h hs))) hsz ho, h.lt⟩
set_option maxHeartbeats 4000000 in
set_option maxRecDepth 100000 in
theorem roles_match {F : Fp} {w : World} {y : RoleB} (hM : Mem w F) (hy : RoleF F y) (k : ByteArray) (b0 : Nat) (fv : Value) (hb0 : w.heap[b0]? = some (.cells #[fv] 102 (0, 0))) :
  Calls Tryz.prog 133 #[KY k, PV y.a, PT b0] w fun e w' => e = .returned (.bool true) ∧ Below w.heap.size w w' := by
 have c1 : w.cell? ⟨y.a, 3, none⟩ = some (PT y.sm) := load_cell hM hy.a rfl
 have c2 := cell_of_one hb0
 have hta := as_role (PT y.a)
 have HN := Aside0.mk (sy_range_nil (w := w.drew) (s := y.sm) (hM _ _ _ hy.sm) fv)
 clear hM hy hb0
 go_enter Tryz.func133, Tryz.ntmps133
 go_upto_region 2 with (fail)
 go_still_tail 5, (by kernel_rfl)
 change wpList _ _ _ _ _ w.drew
 go_wp2_with (go_at_call 42; refine HN.out.mono ?_; rintro e w2 ⟨rfl, hb⟩; have HB := Aside0.mk hb; clear hb)
 go_ret
 exact ⟨rfl, ⟨HB.out.os, HB.out.tape, HB.out.output, HB.out.size, HB.out.block⟩⟩
set_option maxHeartbeats 8000000 in
set_option maxRecDepth 100000 in
theorem range_roles {F : Fp} {w : World} {p s c : Nat} {max : Int} {mc : List Value} {m : Option Nat} {L : List RoleB} {E : Edges} {x : RoleB} (hM : Mem w F) (hR : RMF F p s c max mc m L) (hG : Graph L E) (hx : x ∈ L) (hlen : x.R.length ≤ 1000000)
  {n : Nat} {caps : Array Value} {I : Ents → (Nat → Prop) → World → Prop} {S0 : Nat → Prop} (hcf : ∀ (args : Array Value) (w : World), (callFunc n args).run Tryz.prog w = .ok (.enter n args) w) (hRS : RStep w (ents x.R) n caps I) (h0 : I [] S0 w) (hS : ∀ k, S0 k → k < w.heap.size) (hdis : ∀ k, S0 k → F k = none) :
  Calls Tryz.prog 120 #[PT x.a, .func (.func n) #[] caps] w fun e w' => e = .returned (.tuple #[]) ∧ ∃ done S', done.Perm (ents x.R) ∧ I done S' w' ∧ NextS w.heap.size S0 S' ∧ Turn S0 w w' := by
 have hxF := hR.roles x hx
 have hxl := (hM _ _ _ hxF.a).lt
 have c1 : w.cell? ⟨x.a, 1, none⟩ = some (PT x.sr) := load_cell hM hxF.a rfl
 have hmf : ∀ (fn : Fn) (first cap : Array Value) (w : World), (Instr.makeFunc fn first cap).run Tryz.prog w = .ok (.func fn first cap) w := fun _ _ _ _ => rfl
 have hnod : ((ents x.R).map (·.1)).Nodup := by
  have := hG.nr x hx
  unfold ents
  rw [List.map_map]
  exact this
 obtain ⟨W1, hW1⟩ : ∃ W1, W1 = w.alloc (.cells #[.func (.func n) #[] caps] 102) := ⟨_, rfl⟩
 have hb1 : Below w.heap.size w W1 := by rw [hW1]; exact (Below.refl _ _).alloc (Nat.le_refl _) _
 have hv1 : W1.heap[w.heap.size]? = some (.cells #[.func (.func n) #[] caps] 102 (0, 0)) := by rw [hW1]; exact heap_alloc_new _ _
 have hM1 : Mem W1.drew F := (hM.below hb1).drew
 have hr1 := sy_range (w := W1.drew) hM1 hxF.syR hnod (by unfold ents; rw [List.length_map]; exact hlen) hcf (hRS.up hb1.size) (hRS.frame _ _ _ _ h0 (fun k hk _ => hb1.block k hk) hb1.size ⟨hb1.os, hb1.tape, hb1.output⟩) (fun k hk => Nat.lt_of_lt_of_le (hS k hk) hb1.size) (fun h => by
  have := hdis _ h
  rw [hxF.sr] at this; cases this) (fun b hb h => by
  have h1 := hdis _ h
  have h2 := hxF.mr
  rw [hb] at h2
  have h3 : F b = some _ := h2
  rw [h3] at h1; cases h1)
 have H1 := Aside0.mk hr1
 have HA := Aside0.mk (fun (w2 : World) (D : Ents) (S1 : Nat → Prop) (hI : I D S1 w2) (hN : NextS W1.heap.size S0 S1) (hT : Turn S0 W1 w2) => show Calls Tryz.prog 42 #[PT x.sr, .func (.func 133) #[] #[PT w.heap.size]] w2 fun e w' => e = .returned (.tuple #[]) ∧ Below w2.heap.size w2 w' ∧ I D S1 w' from by
  have hM2 : Mem w2 F := (hM.below hb1).apart hT (fun k hk hx => hk (hdis k hx))
  have hv2 : w2.heap[w.heap.size]? = _ := (hT.block _ (Array.getElem?_eq_some_iff.1 hv1).1 (fun h => by have := hS _ h; omega)).trans hv1
  have hst : RStep w2 (ents x.R) 133 #[PT w.heap.size] (fun _ S W => S = (fun _ => False) ∧ I D S1 W ∧ Below w2.heap.size w2 W) := by
   refine ⟨fun done rest S W k v hp hq => ?_, fun done S W W' hq hk hsz ho => ?_, fun done S W hq k hk => ?_⟩
   ·obtain ⟨rfl, hq1, hq2⟩ := hq
    have hin : (k, v) ∈ ents x.R := hp.mem_iff.1 (by simp)
    obtain ⟨q, hq3, hq4⟩ := List.mem_map.1 hin
    obtain ⟨y, hy, hyn, hya⟩ := hG.cr x hx q hq3
    injection hq4 with hk1 hv
    rw [← hv, ← hya]
    refine (roles_match (hM2.below hq2) (hR.roles y hy) k w.heap.size _ ((hq2.block _ (Array.getElem?_eq_some_iff.1 hv2).1).trans hv2)).mono ?_
    rintro e w' ⟨rfl, hb⟩
    exact ⟨rfl, _, ⟨rfl, hRS.frame _ _ _ _ hq1 (fun k hk _ => hb.block k hk) hb.size ⟨hb.os, hb.tape, hb.output⟩, hq2.trans (hb.mono hq2.size)⟩, NextS.refl _ _, Turn.ofBelow _ hb⟩
   ·obtain ⟨rfl, hq1, hq2⟩ := hq
    have hlt1 := hRS.lt _ _ _ hI
    refine ⟨rfl, hRS.frame _ _ _ _ hq1 (fun k hk1 hk2 => hk k hk1 (.inl ?_)) hsz ho, ⟨ho.1.trans hq2.os, ho.2.1.trans hq2.tape, ho.2.2.trans hq2.output, Nat.le_trans hq2.size hsz, fun k hk1 => (hk k (Nat.lt_of_lt_of_le hk1 hq2.size) (.inl hk1)).trans (hq2.block k hk1)⟩⟩
    rcases hk2 with h | h
    ·exact Nat.lt_of_lt_of_le h (Nat.le_trans hb1.size hT.size)
    ·exact hlt1 k h
   ·obtain ⟨rfl, _⟩ := hq
    exact hk.elim
  refine (sy_range (w := w2) hM2 hxF.syR hnod (by unfold ents; rw [List.length_map]; exact hlen) (fun args w => by kernel_rfl) hst ⟨rfl, hI, Below.refl _ _⟩ (fun k hk => hk.elim) (fun h => h) (fun _ _ h => h)).mono ?_
  rintro e w' ⟨rfl, D2, S2, _, ⟨_, h2, h3⟩, _, _⟩
  exact ⟨rfl, h3, h2⟩)
 have HN := Aside0.mk (fun (w2 : World) (D : Ents) (S1 : Nat → Prop) (hT : Turn S0 W1 w2) => show w2.cell? ⟨x.a, 1, none⟩ = some (PT x.sr) ∧ w2.cell? ⟨x.a, 4, none⟩ = some (PT x.sb) ∧ ∀ fv, Calls Tryz.prog 42 #[PT x.sb, fv] w2 fun e w' => e = .returned (.tuple #[]) ∧ Below w2.heap.size w2 w' from by
  have hM2 : Mem w2 F := (hM.below hb1).apart hT (fun k hk hx => hk (hdis k hx))
  exact ⟨load_cell hM2 hxF.a rfl, load_cell hM2 hxF.a rfl, fun fv => sy_range_nil (hM2 _ _ _ hxF.sb) fv⟩)
 have HFR := Aside0.mk (fun (w2 w3 : World) (D : Ents) (S1 : Nat → Prop) (hI : I D S1 w2) (hb : Below w2.heap.size w2 w3) => hRS.frame _ _ _ _ hI (fun k hk _ => hb.block k hk) hb.size ⟨hb.os, hb.tape, hb.output⟩)
 have HB1 := Aside0.mk hb1
 have hw1c : W1.cell? ⟨x.a, 1, none⟩ = some (PT x.sr) := load_cell (hM.below hb1) hxF.a rfl
 have hvc := cell_of_one hv1
 clear hM hR hG hRS h0 hS hdis hr1 hnod hM1 hxF hb1 hv1
 rw [hW1] at H1 HA HN HB1 hw1c hvc
 clear hW1 W1
 go_enter Tryz.func120, Tryz.ntmps120
 go_upto_region 1 with (fail)
 generalize w.alloc (.cells #[.func (.func n) #[] caps] 102) = W1 at *
 go_still_tail 5, (by kernel_rfl)
 change wpList _ _ _ _ _ W1.drew
 go_upto_region 2 with (go_at_call 42; refine H1.out.mono ?_; rintro e w2 ⟨rfl, D, S1, hp, hI, hN, hT⟩; have HP := Aside0.mk hp; have HT := Aside0.mk (show Turn S0 W1 w2 from ⟨hT.os, hT.tape, hT.output, hT.size, hT.block⟩); have HNX := Aside0.mk (show NextS W1.heap.size S0 S1 from hN); obtain ⟨c2, c3, hnil⟩ := HN.out w2 D S1 HT.out; have HA2 := Aside0.mk (HA.out w2 D S1 hI HNX.out HT.out); clear hp hI hN hT hnil)
 clear H1 HA
 go_upto_region 3 with (go_at_call 42; refine HA2.out.mono ?_; rintro e w3 ⟨rfl, hb3, hI3⟩; have HT3 := Aside0.mk (HT.out.trans (NextS.refl _ _) (Turn.ofBelow S0 hb3)); obtain ⟨c4, c5, hnil⟩ := HN.out w3 D S1 HT3.out; have HNIL := Aside0.mk hnil; have HI3 := Aside0.mk hI3; clear hb3 hI3 hnil)
 clear HA2 HN
 go_wp2_with (go_at_call 42; refine (HNIL.out _).mono ?_; rintro e w4 ⟨rfl, hb4⟩; have HB4 := Aside0.mk hb4; clear hb4)
 go_end0
 have hT4 := HT3.out.trans (NextS.refl _ _) (Turn.ofBelow S0 HB4.out)
 exact ⟨rfl, D, S1, HP.out, HFR.out _ _ _ _ HI3.out HB4.out, fun k hk => (HNX.out k hk).imp_right (fun h => Nat.le_trans HB1.out.size h), (Turn.ofBelow S0 HB1.out).trans (NextS.refl _ _) hT4⟩
set_option maxHeartbeats 4000000 in
set_option maxRecDepth 100000 in
theorem users_match {F : Fp} {w : World} {y : RoleB} (hM : Mem w F) (hy : RoleF F y) (k : ByteArray) (b0 : Nat) (fv : Value) (hb0 : w.heap[b0]? = some (.cells #[fv] 102 (0, 0))) :
  Calls Tryz.prog 135 #[KY k, PV y.a, PT b0] w fun e w' => e = .returned (.bool true) ∧ Below w.heap.size w w' := by
 have c1 : w.cell? ⟨y.a, 3, none⟩ = some (PT y.sm) := load_cell hM hy.a rfl
 have c2 := cell_of_one hb0
 have hta := as_role (PT y.a)
 have HN := Aside0.mk (sy_range_nil (w := w.drew) (s := y.sm) (hM _ _ _ hy.sm) fv)
 clear hM hy hb0
 go_enter Tryz.func135, Tryz.ntmps135
 go_upto_region 2 with (fail)
 go_still_tail 5, (by kernel_rfl)
 change wpList _ _ _ _ _ w.drew
 go_wp2_with (go_at_call 42; refine HN.out.mono ?_; rintro e w2 ⟨rfl, hb⟩; have HB := Aside0.mk hb; clear hb)
 go_ret
 exact ⟨rfl, ⟨HB.out.os, HB.out.tape, HB.out.output, HB.out.size, HB.out.block⟩⟩
set_option maxHeartbeats 8000000 in
set_option maxRecDepth 100000 in
theorem range_users {F : Fp} {w : World} {p s c : Nat} {max : Int} {mc : List Value} {m : Option Nat} {L : List RoleB} {E : Edges} {x : RoleB} (hM : Mem w F) (hR : RMF F p s c max mc m L) (hG : Graph L E) (hx : x ∈ L) (hlen : x.U.length ≤ 1000000)
  {n : Nat} {caps : Array Value} {I : Ents → (Nat → Prop) → World → Prop} {S0 : Nat → Prop} (hcf : ∀ (args : Array Value) (w : World), (callFunc n args).run Tryz.prog w = .ok (.enter n args) w) (hRS : RStep w (ents x.U) n caps I) (h0 : I [] S0 w) (hS : ∀ k, S0 k → k < w.heap.size) (hdis : ∀ k, S0 k → F k = none) :
  Calls Tryz.prog 122 #[PT x.a, .func (.func n) #[] caps] w fun e w' => e = .returned (.tuple #[]) ∧ ∃ done S', done.Perm (ents x.U) ∧ I done S' w' ∧ NextS w.heap.size S0 S' ∧ Turn S0 w w' := by
 have hxF := hR.roles x hx
 have hxl := (hM _ _ _ hxF.a).lt
 have c1 : w.cell? ⟨x.a, 2, none⟩ = some (PT x.su) := load_cell hM hxF.a rfl
 have hmf : ∀ (fn : Fn) (first cap : Array Value) (w : World), (Instr.makeFunc fn first cap).run Tryz.prog w = .ok (.func fn first cap) w := fun _ _ _ _ => rfl
 have hnod : ((ents x.U).map (·.1)).Nodup := by
  have := hG.nu x hx
  unfold ents
  rw [List.map_map]
  exact this
 obtain ⟨W1, hW1⟩ : ∃ W1, W1 = w.alloc (.cells #[.func (.func n) #[] caps] 102) := ⟨_, rfl⟩
 have hb1 : Below w.heap.size w W1 := by rw [hW1]; exact (Below.refl _ _).alloc (Nat.le_refl _) _
 have hv1 : W1.heap[w.heap.size]? = some (.cells #[.func (.func n) #[] caps] 102 (0, 0)) := by rw [hW1]; exact heap_alloc_new _ _
 have hM1 : Mem W1.drew F := (hM.below hb1).drew
 have hr1 := sy_range (w := W1.drew) hM1 hxF.syU hnod (by unfold ents; rw [List.length_map]; exact hlen) hcf (hRS.up hb1.size) (hRS.frame _ _ _ _ h0 (fun k hk _ => hb1.block k hk) hb1.size ⟨hb1.os, hb1.tape, hb1.output⟩) (fun k hk => Nat.lt_of_lt_of_le (hS k hk) hb1.size) (fun h => by
  have := hdis _ h
  rw [hxF.su] at this; cases this) (fun b hb h => by
  have h1 := hdis _ h
  have h2 := hxF.mu
  rw [hb] at h2
  have h3 : F b = some _ := h2
  rw [h3] at h1; cases h1)
 have H1 := Aside0.mk hr1
 have HA := Aside0.mk (fun (w2 : World) (D : Ents) (S1 : Nat → Prop) (hI : I D S1 w2) (hN : NextS W1.heap.size S0 S1) (hT : Turn S0 W1 w2) => show Calls Tryz.prog 42 #[PT x.su, .func (.func 135) #[] #[PT w.heap.size]] w2 fun e w' => e = .returned (.tuple #[]) ∧ Below w2.heap.size w2 w' ∧ I D S1 w' from by
  have hM2 : Mem w2 F := (hM.below hb1).apart hT (fun k hk hx => hk (hdis k hx))
  have hv2 : w2.heap[w.heap.size]? = _ := (hT.block _ (Array.getElem?_eq_some_iff.1 hv1).1 (fun h => by have := hS _ h; omega)).trans hv1
  have hst : RStep w2 (ents x.U) 135 #[PT w.heap.size] (fun _ S W => S = (fun _ => False) ∧ I D S1 W ∧ Below w2.heap.size w2 W) := by
   refine ⟨fun done rest S W k v hp hq => ?_, fun done S W W' hq hk hsz ho => ?_, fun done S W hq k hk => ?_⟩
   ·obtain ⟨rfl, hq1, hq2⟩ := hq
    have hin : (k, v) ∈ ents x.U := hp.mem_iff.1 (by simp)
    obtain ⟨q, hq3, hq4⟩ := List.mem_map.1 hin
    obtain ⟨y, hy, hyn, hya⟩ := hG.cu x hx q hq3
    injection hq4 with hk1 hv
    rw [← hv, ← hya]
    refine (users_match (hM2.below hq2) (hR.roles y hy) k w.heap.size _ ((hq2.block _ (Array.getElem?_eq_some_iff.1 hv2).1).trans hv2)).mono ?_
    rintro e w' ⟨rfl, hb⟩
    exact ⟨rfl, _, ⟨rfl, hRS.frame _ _ _ _ hq1 (fun k hk _ => hb.block k hk) hb.size ⟨hb.os, hb.tape, hb.output⟩, hq2.trans (hb.mono hq2.size)⟩, NextS.refl _ _, Turn.ofBelow _ hb⟩
   ·obtain ⟨rfl, hq1, hq2⟩ := hq
    have hlt1 := hRS.lt _ _ _ hI
    refine ⟨rfl, hRS.frame _ _ _ _ hq1 (fun k hk1 hk2 => hk k hk1 (.inl ?_)) hsz ho, ⟨ho.1.trans hq2.os, ho.2.1.trans hq2.tape, ho.2.2.trans hq2.output, Nat.le_trans hq2.size hsz, fun k hk1 => (hk k (Nat.lt_of_lt_of_le hk1 hq2.size) (.inl hk1)).trans (hq2.block k hk1)⟩⟩
    rcases hk2 with h | h
    ·exact Nat.lt_of_lt_of_le h (Nat.le_trans hb1.size hT.size)
    ·exact hlt1 k h
   ·obtain ⟨rfl, _⟩ := hq
    exact hk.elim
  refine (sy_range (w := w2) hM2 hxF.syU hnod (by unfold ents; rw [List.length_map]; exact hlen) (fun args w => by kernel_rfl) hst ⟨rfl, hI, Below.refl _ _⟩ (fun k hk => hk.elim) (fun h => h) (fun _ _ h => h)).mono ?_
  rintro e w' ⟨rfl, D2, S2, _, ⟨_, h2, h3⟩, _, _⟩
  exact ⟨rfl, h3, h2⟩)
 have HN := Aside0.mk (fun (w2 : World) (D : Ents) (S1 : Nat → Prop) (hT : Turn S0 W1 w2) => show w2.cell? ⟨x.a, 2, none⟩ = some (PT x.su) ∧ w2.cell? ⟨x.a, 4, none⟩ = some (PT x.sb) ∧ ∀ fv, Calls Tryz.prog 42 #[PT x.sb, fv] w2 fun e w' => e = .returned (.tuple #[]) ∧ Below w2.heap.size w2 w' from by
  have hM2 : Mem w2 F := (hM.below hb1).apart hT (fun k hk hx => hk (hdis k hx))
  exact ⟨load_cell hM2 hxF.a rfl, load_cell hM2 hxF.a rfl, fun fv => sy_range_nil (hM2 _ _ _ hxF.sb) fv⟩)
 have HFR := Aside0.mk (fun (w2 w3 : World) (D : Ents) (S1 : Nat → Prop) (hI : I D S1 w2) (hb : Below w2.heap.size w2 w3) => hRS.frame _ _ _ _ hI (fun k hk _ => hb.block k hk) hb.size ⟨hb.os, hb.tape, hb.output⟩)
 have HB1 := Aside0.mk hb1
 have hw1c : W1.cell? ⟨x.a, 2, none⟩ = some (PT x.su) := load_cell (hM.below hb1) hxF.a rfl
 have hvc := cell_of_one hv1
 clear hM hR hG hRS h0 hS hdis hr1 hnod hM1 hxF hb1 hv1
 rw [hW1] at H1 HA HN HB1 hw1c hvc
 clear hW1 W1
 go_enter Tryz.func122, Tryz.ntmps122
 go_upto_region 1 with (fail)
 generalize w.alloc (.cells #[.func (.func n) #[] caps] 102) = W1 at *
 go_still_tail 5, (by kernel_rfl)
 change wpList _ _ _ _ _ W1.drew
 go_upto_region 2 with (go_at_call 42; refine H1.out.mono ?_; rintro e w2 ⟨rfl, D, S1, hp, hI, hN, hT⟩; have HP := Aside0.mk hp; have HT := Aside0.mk (show Turn S0 W1 w2 from ⟨hT.os, hT.tape, hT.output, hT.size, hT.block⟩); have HNX := Aside0.mk (show NextS W1.heap.size S0 S1 from hN); obtain ⟨c2, c3, hnil⟩ := HN.out w2 D S1 HT.out; have HA2 := Aside0.mk (HA.out w2 D S1 hI HNX.out HT.out); clear hp hI hN hT hnil)
 clear H1 HA
 go_upto_region 3 with (go_at_call 42; refine HA2.out.mono ?_; rintro e w3 ⟨rfl, hb3, hI3⟩; have HT3 := Aside0.mk (HT.out.trans (NextS.refl _ _) (Turn.ofBelow S0 hb3)); obtain ⟨c4, c5, hnil⟩ := HN.out w3 D S1 HT3.out; have HNIL := Aside0.mk hnil; have HI3 := Aside0.mk hI3; clear hb3 hI3 hnil)
 clear HA2 HN
 go_wp2_with (go_at_call 42; refine (HNIL.out _).mono ?_; rintro e w4 ⟨rfl, hb4⟩; have HB4 := Aside0.mk hb4; clear hb4)
 go_end0
 have hT4 := HT3.out.trans (NextS.refl _ _) (Turn.ofBelow S0 HB4.out)
 exact ⟨rfl, D, S1, HP.out, HFR.out _ _ _ _ HI3.out HB4.out, fun k hk => (HNX.out k hk).imp_right (fun h => Nat.le_trans HB1.out.size h), (Turn.ofBelow S0 HB1.out).trans (NextS.refl _ _) hT4⟩
end
/-! A region that draws its order, by one invariant. -/
section
variable {P : Program} {ops : Array Oper} {Q : Exit → Act → World → Prop}
def unL : List Bool → Nat
 | [] => 0
 | b :: l => (if b = true then 0 else 1) + unL l
theorem unL_set : ∀ (l : List Bool) (i : Nat), l[i]? = some false → unL (l.set i true) + 1 = unL l
 | [], _, h => by simp at h
 | b :: l, 0, h => by
  simp at h
  subst h
  simp [unL]; omega
 | b :: l, i + 1, h => by
  have := unL_set l i (by simpa using h)
  simp only [List.set_cons_succ, unL]
  omega
theorem unL_zero : ∀ (l : List Bool) (i : Nat), unL l = 0 → l[i]? ≠ some false
 | [], _, _ => by simp
 | b :: l, 0, h => by
  intro e
  simp at e
  subst e
  simp [unL] at h
 | b :: l, i + 1, h => by
  simp only [List.getElem?_cons_succ]
  exact unL_zero l i (by unfold unL at h; omega)
theorem unL_le : ∀ (l : List Bool), unL l ≤ l.length
 | [] => Nat.le_refl _
 | b :: l => by
  have := unL_le l
  unfold unL
  simp only [List.length_cons]
  split <;> omega
/-- what has come up: number i -/
def hasL_ (l : Array Bool) (i : Nat) : Bool := l.getD i false
theorem hasL_set {l : Array Bool} {i : Nat} (hi : i < l.size) (j : Nat) : hasL_ (l.setIfInBounds i true) j = if j = i then true else hasL_ l j := by
 unfold hasL_
 simp only [Array.getD_eq_getD_getElem?, Array.getElem?_setIfInBounds]
 by_cases h : i = j
 ·subst h; simp [hi]
 ·rw [if_neg h, if_neg (fun e => h e.symm)]
theorem inv_any (J : Array Bool → Act → World → Prop) (T : List (List Nat))
  (hT : (List.range ops.size).map (fun i => match ops[i]? with | some o => o.after.toList.filterMap (fun e => if Region.binds .any e = true then some e.on else none) | none => []) = T)
  (hlow : (T.zipIdx.all fun p => p.1.all fun n => decide (n < p.2)) = true)
  (hstep : ∀ listed a w i, listed.size = ops.size → i < ops.size → hasL_ listed i = false → (∀ n ∈ T.getD i [], hasL_ listed n = true) → J listed a w → wpOp P ops Q i (J (listed.setIfInBounds i true)) a w)
  (hend : ∀ listed a w, listed.size = ops.size → (∀ i, i < ops.size → hasL_ listed i = true) → J listed a w → Q .normal a w) :
  ∀ (fuel : Nat) (listed : Array Bool) (a : Act) (w : World), listed.size = ops.size → unL listed.toList ≤ fuel → J listed a w → wpAny P .any ops Q fuel listed a w := by
 have hTi : ∀ i o, ops[i]? = some o → T.getD i [] = o.after.toList.filterMap (fun e => if Region.binds .any e = true then some e.on else none) := by
  intro i o ho
  have hi : i < ops.size := (Array.getElem?_eq_some_iff.1 ho).1
  rw [← hT, List.getD_eq_getElem?_getD, List.getElem?_map, List.getElem?_range hi]
  simp [ho]
 have hrd : ∀ (listed : Array Bool) (i : Nat), listed.size = ops.size → (i ∈ Region.ready .any ops listed ↔ i < ops.size ∧ hasL_ listed i = false ∧ ∀ n ∈ T.getD i [], hasL_ listed n = true) := by
  intro listed i hsz
  rw [mem_ready]
  constructor
  ·rintro ⟨h1, o, ho, h2⟩
   have hi : i < ops.size := (Array.getElem?_eq_some_iff.1 ho).1
   refine ⟨hi, ?_, ?_⟩
   ·unfold hasL_
    rw [Array.getD_eq_getD_getElem?] at h1 ⊢
    rw [Array.getElem?_eq_getElem (by omega)] at h1 ⊢
    exact h1
   ·intro n hn
    rw [hTi i o ho, List.mem_filterMap] at hn
    obtain ⟨e, he, h3⟩ := hn
    by_cases hb : Region.binds .any e = true
    ·rw [if_pos hb] at h3
     cases h3
     exact h2 e (by simpa using he) hb
    ·rw [if_neg hb] at h3; cases h3
  ·rintro ⟨hi, h1, h2⟩
   refine ⟨?_, ops[i], Array.getElem?_eq_getElem hi, ?_⟩
   ·unfold hasL_ at h1
    rw [Array.getD_eq_getD_getElem?] at h1 ⊢
    rw [Array.getElem?_eq_getElem (by omega)] at h1 ⊢
    exact h1
   ·intro e he hb
    refine h2 e.on ?_
    rw [hTi i _ (Array.getElem?_eq_getElem hi), List.mem_filterMap]
    exact ⟨e, by simpa using he, by rw [if_pos hb]⟩
 have hall : ∀ listed : Array Bool, listed.size = ops.size → Region.ready .any ops listed = [] → ∀ i, i < ops.size → hasL_ listed i = true := by
  intro listed hsz hr i
  induction i using Nat.strongRecOn with
  | ind i ih =>
   intro hi
   cases hb : hasL_ listed i with
   | true => rfl
   | false =>
    exfalso
    have : i ∈ Region.ready .any ops listed := by
     rw [hrd listed i hsz]
     refine ⟨hi, hb, fun n hn => ?_⟩
     have hlt : n < i := by
      have hlen : T.length = ops.size := by rw [← hT]; simp
      have h1 := List.all_eq_true.1 hlow (T.getD i [], i) (by
       rw [List.mem_zipIdx_iff_getElem?]
       simp only
       rw [List.getD_eq_getElem?_getD, List.getElem?_eq_getElem (by omega)]
       rfl)
      have h2 := List.all_eq_true.1 h1 n hn
      exact of_decide_eq_true h2
     exact ih n hlt (by omega)
    rw [hr] at this
    cases this
 intro fuel
 induction fuel with
 | zero =>
  intro listed a w hsz hun hJ
  have hd : ∀ i, i < ops.size → hasL_ listed i = true := by
   intro i hi
   cases hb : hasL_ listed i with
   | true => rfl
   | false =>
    exfalso
    refine unL_zero listed.toList i (by omega) ?_
    unfold hasL_ at hb
    rw [Array.getD_eq_getD_getElem?, Array.getElem?_eq_getElem (by omega)] at hb
    rw [Array.getElem?_toList, Array.getElem?_eq_getElem (by omega)]
    simpa using hb
  refine ⟨?_, hend listed a w hsz hd hJ⟩
  apply List.eq_nil_iff_forall_not_mem.2
  intro i hi
  obtain ⟨h1, h2, _⟩ := (hrd listed i hsz).1 hi
  rw [hd i h1] at h2
  cases h2
 | succ fuel ih =>
  intro listed a w hsz hun hJ
  refine ⟨fun hr => hend listed a w hsz (hall listed hsz hr) hJ, fun i hi => ?_⟩
  obtain ⟨h1, h2, h3⟩ := (hrd listed i hsz).1 hi
  refine wpOp_mono (fun a' w' hJ' => ih _ a' w' (by simp [hsz]) ?_ hJ') (hstep listed a w i hsz h1 h2 h3 hJ)
  have : listed.toList[i]? = some false := by
   unfold hasL_ at h2
   rw [Array.getD_eq_getD_getElem?, Array.getElem?_eq_getElem (by omega)] at h2
   rw [Array.getElem?_toList, Array.getElem?_eq_getElem (by omega)]
   simpa using h2
  have h4 := unL_set listed.toList i this
  rw [Array.toList_setIfInBounds]
  omega
/-- the region: what holds at first, what each operation that may come up leaves, what holds at the end -/
theorem region_inv {id : Nat} {a : Act} {w : World} (hm : P.follows .mixedOrders = true) (J : Array Bool → Act → World → Prop) (T : List (List Nat))
  (hT : (List.range ops.size).map (fun i => match ops[i]? with | some o => o.after.toList.filterMap (fun e => if Region.binds .any e = true then some e.on else none) | none => []) = T)
  (hlow : (T.zipIdx.all fun p => p.1.all fun n => decide (n < p.2)) = true)
  (h0 : J (Array.replicate ops.size false) a w.drew)
  (hstep : ∀ listed a w i, listed.size = ops.size → i < ops.size → hasL_ listed i = false → (∀ n ∈ T.getD i [], hasL_ listed n = true) → J listed a w → wpOp P ops Q i (J (listed.setIfInBounds i true)) a w)
  (hend : ∀ listed a w, listed.size = ops.size → (∀ i, i < ops.size → hasL_ listed i = true) → J listed a w → Q .normal a w) : (Code.region id ops true).wp P Q a w :=
 wp_region_any hm (inv_any J T hT hlow hstep hend ops.size _ a _ (by simp) (by have := unL_le (Array.replicate ops.size false).toList; simpa using this) h0)
end
/-! A region that draws its order, in which one operation calls, the last one comes last, and the others only read. -/
section
variable {P : Program} {ops : Array Oper} {Q : Exit → Act → World → Prop}
def updN (s : Nat → Value) (n : Nat) (v : Value) : Nat → Value := fun j => if j = n then v else s j
theorem updN_self (s : Nat → Value) (n : Nat) (v : Value) : updN s n v n = v := if_pos rfl
theorem updN_ne {s : Nat → Value} {n j : Nat} {v : Value} (h : j ≠ n) : updN s n v j = s j := if_neg h
def mkN (n : Nat) (d : List Deferred) (s : Nat → Value) : Act := { tmps := ((List.range n).map s).toArray, defers := d }
theorem mkN_eval {n : Nat} {d : List Deferred} (s : Nat → Value) (j : Nat) (h : j < n) : (mkN n d s).eval (.tmp j) = s j := by
 show (((List.range n).map s).toArray).getD j undef = s j
 rw [Array.getD_eq_getD_getElem?, List.getElem?_toArray, List.getElem?_map, List.getElem?_range h]
 rfl
theorem mkN_get {n : Nat} {d : List Deferred} (s : Nat → Value) (j : Nat) (h : j < n) : (mkN n d s).tmps[j]?.getD undef = s j := by
 show (((List.range n).map s).toArray)[j]?.getD undef = s j
 rw [List.getElem?_toArray, List.getElem?_map, List.getElem?_range h]
 rfl
theorem mkN_put {n : Nat} {d : List Deferred} (s : Nat → Value) (N : Nat) (v : Value) (h : N < n) : (mkN n d s).put (some N) v = mkN n d (updN s N v) := by
 show ({ tmps := (((List.range n).map s).toArray).setIfInBounds N v, defers := d } : Act) = { tmps := ((List.range n).map (updN s N v)).toArray, defers := d }
 congr 1
 apply Array.ext_getElem?
 intro j
 rw [Array.getElem?_setIfInBounds, List.getElem?_toArray, List.getElem?_toArray, List.getElem?_map, List.getElem?_map]
 by_cases hj : j < n
 ·rw [List.getElem?_range hj]
  by_cases e : N = j
  ·subst e; simp [updN, h]
  ·have e2 : ¬ j = N := fun z => e z.symm
   simp [updN, e, e2]
 ·rw [List.getElem?_eq_none (by simpa using hj)]
  have e : N ≠ j := by omega
  simp [e]
theorem at_mkN {n : Nat} {d : List Deferred} {c : Code} {a : Act} {w : World} (h1 : a.tmps.size = n) (h2 : a.defers = d) (h : Code.wp P c Q (mkN n d fun j => a.tmps.getD j undef) w) : Code.wp P c Q a w := by
 subst h2
 have e : a = mkN n a.defers fun j => a.tmps.getD j undef := by
  obtain ⟨tm, df⟩ := a
  simp only at h1
  unfold mkN
  congr 1
  apply Array.ext (by simpa using h1)
  intro i h3 h4
  simp [Array.getD_eq_getD_getElem?, h3]
 rw [e]
 exact h
/-- what an operation may rely on: what it waits for has come up; what it does not wait for, and what does not wait for it, has not been touched -/
structure Seen (D : List Nat) (V : Nat → Value) (T : List (List Nat)) (t : Nat → Value) (i : Nat) (s : Nat → Value) : Prop where
 got : ∀ k, k < D.length → k ∈ T.getD i [] → s (D.getD k 0) = V k
 old : ∀ j, (∀ k, k < D.length → D.getD k 0 = j → i ∈ T.getD k []) → s j = t j
theorem region_once {n id : Nat} {d : List Deferred} {t : Nat → Value} {w : World} (hm : P.follows .mixedOrders = true) (D : List Nat) (V : Nat → Value) (c : Nat) (Pw : World → Prop) (T : List (List Nat))
  (hT : (List.range ops.size).map (fun i => match ops[i]? with | some o => o.after.toList.filterMap (fun e => if Region.binds .any e = true then some e.on else none) | none => []) = T)
  (hlow : (T.zipIdx.all fun p => p.1.all fun n => decide (n < p.2)) = true)
  (hsz : ops.size = D.length + 1) (hD : ∀ i, i < D.length → ∀ k, k < D.length → D.getD i 0 = D.getD k 0 → i = k) (hfull : ∀ k, k < D.length → k ∈ T.getD D.length []) (hc : c < D.length) (hDn : ∀ k, k < D.length → D.getD k 0 < n)
  (hpure : ∀ i, i < D.length → i ≠ c → ∀ s W, (W = w.drew ∨ Pw W) → Seen D V T t i s → ∃ o, ops[i]? = some o ∧ o.dst = some (D.getD i 0) ∧ (∀ a : Act, Region.wanted o (yielded ops a.tmps) = true) ∧ (execOp (mkN n d s).eval o).run P W = .ok (.value (V i)) W)
  (hcall : ∀ s, Seen D V T t c s → ∀ K : Act → World → Prop, (∀ W, Pw W → K (mkN n d (updN s (D.getD c 0) (V c))) W) → wpOp P ops Q c K (mkN n d s) w.drew)
  (hlast : ∀ s W, Pw W → (∀ k, k < D.length → s (D.getD k 0) = V k) → (∀ j, j ∉ D → s j = t j) → wpOp P ops Q D.length (fun a W => Q .normal a W) (mkN n d s) W) :
  (Code.region id ops true).wp P Q (mkN n d t) w := by
 have hinj : ∀ i k, i < D.length → k < D.length → D.getD i 0 = D.getD k 0 → i = k := fun i k hi hk e => hD i hi k hk e
 let J : Array Bool → Act → World → Prop := fun L a W =>
  (hasL_ L D.length = true ∧ (∀ k, k < D.length → hasL_ L k = true) ∧ Q .normal a W) ∨
  (hasL_ L D.length = false ∧ ∃ s, a = mkN n d s ∧ (∀ k, k < D.length → hasL_ L k = true → s (D.getD k 0) = V k) ∧ (∀ j, (∀ k, k < D.length → D.getD k 0 = j → hasL_ L k = false) → s j = t j) ∧
   (hasL_ L c = false → W = w.drew) ∧ (hasL_ L c = true → Pw W) ∧ (∀ j k, k ∈ T.getD j [] → hasL_ L j = true → hasL_ L k = true))
 have hz : ∀ j, hasL_ (Array.replicate ops.size false) j = false := by
  intro j
  unfold hasL_
  rw [Array.getD_eq_getD_getElem?, Array.getElem?_replicate]
  split <;> rfl
 refine region_inv hm J T hT hlow ?_ ?_ ?_
 ·refine .inr ⟨hz _, t, rfl, fun k _ h => ?_, fun _ _ => rfl, fun _ => rfl, fun h => ?_, fun j k _ h => ?_⟩ <;> (rw [hz] at h; cases h)
 ·intro L a W i hL hi hn hneed hJ
  have hself : hasL_ (L.setIfInBounds i true) i = true := by rw [hasL_set (by omega), if_pos rfl]
  have hoth : ∀ j, j ≠ i → hasL_ (L.setIfInBounds i true) j = hasL_ L j := fun j hj => by rw [hasL_set (by omega), if_neg hj]
  rcases hJ with ⟨h1, h2, _⟩ | ⟨h1, s, rfl, hv, hf, hw0, hw1, hcl⟩
  ·exfalso
   rcases Nat.lt_or_ge i D.length with g | g
   ·rw [h2 i g] at hn; cases hn
   ·obtain rfl : i = D.length := by omega
    rw [h1] at hn; cases hn
  ·by_cases g : i = D.length
   ·subst g
    have hall : ∀ k, k < D.length → hasL_ L k = true := fun k hk => hneed k (hfull k hk)
    refine wpOp_mono (fun a' W' hq => .inl ⟨hself, fun k hk => ?_, hq⟩) (hlast s W (hw1 (hall c hc)) (fun k hk => hv k hk (hall k hk)) (fun j hj => hf j (fun k hk e => ?_)))
    ·rw [hoth k (by omega)]; exact hall k hk
    ·exfalso
     apply hj
     rw [← e, List.getD_eq_getElem?_getD, List.getElem?_eq_getElem hk]
     exact List.getElem_mem hk
   ·have hi2 : i < D.length := by omega
    have hseen : Seen D V T t i s := by
     refine ⟨fun k hk hkT => hv k hk (hneed k hkT), fun j hj => hf j (fun k hk e => ?_)⟩
     cases hb : hasL_ L k with
     | false => rfl
     | true => rw [hcl k i (hj k hk e) hb] at hn; cases hn
    have hnext : ∀ W', (hasL_ (L.setIfInBounds i true) c = false → W' = w.drew) → (hasL_ (L.setIfInBounds i true) c = true → Pw W') → J (L.setIfInBounds i true) (mkN n d (updN s (D.getD i 0) (V i))) W' := by
     intro W' z0 z1
     refine .inr ⟨by rw [hoth _ (fun e => g e.symm)]; exact h1, _, rfl, fun k hk hl => ?_, fun j hj => ?_, z0, z1, fun j k hk hl => ?_⟩
     ·by_cases e : k = i
      ·subst e; exact updN_self _ _ _
      ·rw [updN_ne (fun z => e (hinj k i hk hi2 z))]
       rw [hoth k e] at hl
       exact hv k hk hl
     ·have hne : j ≠ D.getD i 0 := by
       rintro rfl
       have := hj i hi2 rfl
       rw [hself] at this; cases this
      rw [updN_ne hne]
      refine hf j (fun k hk e => ?_)
      have h3 := hj k hk e
      by_cases e2 : k = i
      ·subst e2; exact absurd e.symm hne
      ·rwa [hoth k e2] at h3
     ·by_cases e : k = i
      ·rw [e]; exact hself
      ·rw [hoth k e]
       by_cases e2 : j = i
       ·rw [e2] at hk; exact hneed k hk
       ·rw [hoth j e2] at hl; exact hcl j k hk hl
    by_cases hic : i = c
    ·subst hic
     have hW := hw0 hn
     subst hW
     refine hcall s hseen _ (fun W' hP => hnext W' (fun z => ?_) (fun _ => hP))
     rw [hself] at z; cases z
    ·have hci : c ≠ i := fun z => hic z.symm
     have hWc : W = w.drew ∨ Pw W := by
      cases hb : hasL_ L c with
      | false => exact .inl (hw0 hb)
      | true => exact .inr (hw1 hb)
     obtain ⟨o, ho, hod, how, hrun⟩ := hpure i hi2 hic s W hWc hseen
     refine YieldsIf.wpOp (S := fun x => x = W) ho (v := V i) (.inl ⟨how _, fun x hx => by rw [hx]; exact hrun⟩) rfl ?_
     rw [hod, mkN_put _ _ _ (hDn i hi2)]
     exact hnext W (fun z => hw0 (by rwa [hoth c hci] at z)) (fun z => hw1 (by rwa [hoth c hci] at z))
 ·intro L a W hL hall hJ
  rcases hJ with ⟨_, _, hq⟩ | ⟨h1, _⟩
  ·exact hq
  ·rw [hall D.length (by omega)] at h1; cases h1
end
/-! A region that draws its order: some operations that only read (D), then a chain, each link behind the one ahead (C: calls, memory), the last one last. -/
section
variable {P : Program} {ops : Array Oper} {Q : Exit → Act → World → Prop}
def sinks_ (T : List (List Nat)) (h : Nat) (late : Nat → Bool) : Bool := (List.range h).all fun i => late i || (List.range (h + 1)).any fun j => decide (i < j) && (decide (j = h) || !late j) && (T.getD j []).contains i
theorem sinks_all {T : List (List Nat)} {h : Nat} {late : Nat → Bool} (hs : sinks_ T h late = true) {L : Array Bool} (hcl : ∀ j k, k ∈ T.getD j [] → hasL_ L j = true → hasL_ L k = true) (hh : hasL_ L h = true) : ∀ (d i : Nat), h - i = d → i < h → late i = false → hasL_ L i = true := by
 intro d
 induction d using Nat.strongRecOn with
 | _ d ih =>
  intro i hd hi hl
  have h1 := List.all_eq_true.1 hs i (List.mem_range.2 hi)
  rw [hl, Bool.false_or] at h1
  obtain ⟨j, hj, hj2⟩ := List.any_eq_true.1 h1
  simp only [Bool.and_eq_true, Bool.or_eq_true, decide_eq_true_eq, List.contains_iff_mem, Bool.not_eq_true'] at hj2
  obtain ⟨⟨hij, hjl⟩, hmem⟩ := hj2
  have hjh : j ≤ h := by have := List.mem_range.1 hj; omega
  refine hcl j i hmem ?_
  rcases hjl with rfl | hjl
  ·exact hh
  ·by_cases e : j = h
   ·rw [e]; exact hh
   ·exact ih (h - j) (by omega) j rfl (by omega) hjl
theorem region_chain2 {n id : Nat} {d : List Deferred} {t : Nat → Value} {w : World} (hm : P.follows .mixedOrders = true) (D C : List Nat) (V : Nat → Value) (Z : Nat → (Nat → Value) → World → Prop) (T : List (List Nat)) (late : Nat → Bool)
  (hT : (List.range ops.size).map (fun i => match ops[i]? with | some o => o.after.toList.filterMap (fun e => if Region.binds .any e = true then some e.on else none) | none => []) = T)
  (hlow : (T.zipIdx.all fun p => p.1.all fun n => decide (n < p.2)) = true)
  (hsz : ops.size = D.length + C.length + 1) (hnd : (D ++ C).Nodup) (hDn : ∀ k ∈ D ++ C, k < n) (h0 : 0 < C.length)
  (hchain : ∀ i, i < C.length → D.length + i ∈ T.getD (D.length + i + 1) []) (hfull : ∀ k, k < D.length → k ∈ T.getD (D.length + C.length) []) (hsink : sinks_ T D.length late = true)
  (hpure : ∀ i, i < D.length → ∀ s W, (late i = false → W = w.drew) → (∃ q, Z q s W ∧ ∀ r, r < q → i ∉ T.getD (D.length + r) []) → (∀ k, k < D.length → k ∈ T.getD i [] → s (D.getD k 0) = V k) → (∀ j, j ∉ D ++ C → s j = t j) → ∃ o, ops[i]? = some o ∧ o.dst = some (D.getD i 0) ∧ (∀ a : Act, Region.wanted o (yielded ops a.tmps) = true) ∧ (execOp (mkN n d s).eval o).run P W = .ok (.value (V i)) W)
  (hz0 : Z 0 t w.drew) (hzw : ∀ s W, Z 0 s W → W = w.drew) (hstab : ∀ i s x v W, (∀ j, j < C.length → C.getD j 0 ≠ x) → Z i s W → Z i (updN s x v) W)
  (hstep : ∀ i, i < C.length → ∀ s W, (∀ k, k < D.length → k ∈ T.getD (D.length + i) [] → s (D.getD k 0) = V k) → (∀ j, j ∉ D ++ C → s j = t j) → Z i s W → ∀ K : Act → World → Prop, (∀ v W', Z (i + 1) (updN s (C.getD i 0) v) W' → K (mkN n d (updN s (C.getD i 0) v)) W') → wpOp P ops Q (D.length + i) K (mkN n d s) W)
  (hlast : ∀ s W, Z C.length s W → (∀ k, k < D.length → s (D.getD k 0) = V k) → (∀ j, j ∉ D ++ C → s j = t j) → wpOp P ops Q (D.length + C.length) (fun a W => Q .normal a W) (mkN n d s) W) :
  (Code.region id ops true).wp P Q (mkN n d t) w := by
 have hget : ∀ {l : List Nat} {k : Nat}, k < l.length → l.getD k 0 ∈ l := fun {l k} hk => by
  rw [List.getD_eq_getElem?_getD, List.getElem?_eq_getElem hk]
  exact List.getElem_mem hk
 have hDm : ∀ k, k < D.length → D.getD k 0 ∈ D ++ C := fun k hk => List.mem_append_left _ (hget hk)
 have hCm : ∀ k, k < C.length → C.getD k 0 ∈ D ++ C := fun k hk => List.mem_append_right _ (hget hk)
 have hnd2 := List.nodup_append.1 hnd
 have hDC : ∀ i k, i < D.length → k < C.length → D.getD i 0 ≠ C.getD k 0 := fun i k hi hk => hnd2.2.2 _ (hget hi) _ (hget hk)
 have hinj : ∀ i k, i < D.length → k < D.length → D.getD i 0 = D.getD k 0 → i = k := fun i k hi hk e => by
  rw [List.getD_eq_getElem?_getD, List.getD_eq_getElem?_getD, List.getElem?_eq_getElem hi, List.getElem?_eq_getElem hk] at e
  exact (List.getElem_inj hnd2.1).1 e
 let J : Array Bool → Act → World → Prop := fun L a W =>
  (hasL_ L (D.length + C.length) = true ∧ (∀ k, k < D.length + C.length → hasL_ L k = true) ∧ Q .normal a W) ∨
  (hasL_ L (D.length + C.length) = false ∧ ∃ s i, a = mkN n d s ∧ i ≤ C.length ∧ (∀ k, k < C.length → hasL_ L (D.length + k) = decide (k < i)) ∧ Z i s W ∧ (∀ k, k < D.length → hasL_ L k = true → s (D.getD k 0) = V k) ∧ (∀ j, j ∉ D ++ C → s j = t j) ∧ (∀ j k, k ∈ T.getD j [] → hasL_ L j = true → hasL_ L k = true))
 have hz : ∀ j, hasL_ (Array.replicate ops.size false) j = false := by
  intro j
  unfold hasL_
  rw [Array.getD_eq_getD_getElem?, Array.getElem?_replicate]
  split <;> rfl
 refine region_inv hm J T hT hlow ?_ ?_ ?_
 ·refine .inr ⟨hz _, t, 0, rfl, Nat.zero_le _, fun k _ => by rw [hz, decide_eq_false (by omega)], hz0, fun k _ h => ?_, fun _ _ => rfl, fun j k _ h => ?_⟩ <;> (rw [hz] at h; cases h)
 ·intro L a W i hL hi hn hneed hJ
  have hself : hasL_ (L.setIfInBounds i true) i = true := by rw [hasL_set (by omega), if_pos rfl]
  have hoth : ∀ j, j ≠ i → hasL_ (L.setIfInBounds i true) j = hasL_ L j := fun j hj => by rw [hasL_set (by omega), if_neg hj]
  rcases hJ with ⟨h1, h2, _⟩ | ⟨h1, s, q, rfl, hq, hst, hZ, hv, hold, hcl⟩
  ·exfalso
   rcases Nat.lt_or_ge i (D.length + C.length) with g | g
   ·rw [h2 i g] at hn; cases hn
   ·obtain rfl : i = D.length + C.length := by omega
    rw [h1] at hn; cases hn
  ·have hcl' : ∀ j k, k ∈ T.getD j [] → hasL_ (L.setIfInBounds i true) j = true → hasL_ (L.setIfInBounds i true) k = true := fun j k hk hl => by
    by_cases e : k = i
    ·rw [e]; exact hself
    ·rw [hoth k e]
     by_cases e2 : j = i
     ·rw [e2] at hk; exact hneed k hk
     ·rw [hoth j e2] at hl; exact hcl j k hk hl
   by_cases g : i = D.length + C.length
   ·subst g
    have hall : ∀ k, k < D.length → hasL_ L k = true := fun k hk => hneed k (hfull k hk)
    have hlst : hasL_ L (D.length + (C.length - 1)) = true := hneed _ (by have := hchain (C.length - 1) (by omega); rwa [show D.length + (C.length - 1) + 1 = D.length + C.length from by omega] at this)
    have hqm : q = C.length := by
     rw [hst _ (by omega)] at hlst
     have := of_decide_eq_true hlst
     omega
    subst hqm
    refine wpOp_mono (fun a' W' hq2 => .inl ⟨hself, fun k hk => ?_, hq2⟩) (hlast s W hZ (fun k hk => hv k hk (hall k hk)) hold)
    rw [hoth k (by omega)]
    rcases Nat.lt_or_ge k D.length with e | e
    ·exact hall k e
    ·have := hst (k - D.length) (by omega)
     rw [show D.length + (k - D.length) = k from by omega] at this
     rw [this]
     exact decide_eq_true (by omega)
   ·have hlast0 : hasL_ (L.setIfInBounds i true) (D.length + C.length) = false := by rw [hoth _ (fun e => g e.symm)]; exact h1
    rcases Nat.lt_or_ge i D.length with hiD | hiD
    ·have hW : late i = false → W = w.drew := fun hl => by
      have hh : hasL_ L D.length = false := by
       cases hb : hasL_ L D.length with
       | false => rfl
       | true =>
        rw [sinks_all hsink hcl hb _ i rfl hiD hl] at hn
        cases hn
      have := hst 0 h0
      rw [Nat.add_zero, hh] at this
      obtain rfl : q = 0 := by
       have := of_decide_eq_false this.symm
       omega
      exact hzw s W hZ
     obtain ⟨o, ho, hod, how, hrun⟩ := hpure i hiD s W hW ⟨q, hZ, fun r hr hmem => by
      have h5 := hcl _ _ hmem (by rw [hst r (by omega)]; exact decide_eq_true hr)
      rw [hn] at h5; cases h5⟩ (fun k hk hkT => hv k hk (hneed k hkT)) hold
     refine YieldsIf.wpOp (S := fun x => x = W) ho (v := V i) (.inl ⟨how _, fun x hx => by rw [hx]; exact hrun⟩) rfl ?_
     rw [hod, mkN_put _ _ _ (hDn _ (hDm i hiD))]
     refine .inr ⟨hlast0, _, q, rfl, hq, fun k hk => ?_, hstab _ _ _ _ _ (fun j hj e => hDC i j hiD hj e.symm) hZ, fun k hk hl => ?_, fun j hj => ?_, hcl'⟩
     ·rw [hoth _ (by omega)]; exact hst k hk
     ·by_cases e : k = i
      ·subst e; exact updN_self _ _ _
      ·rw [updN_ne (fun z => e (hinj k i hk hiD z))]
       rw [hoth k e] at hl
       exact hv k hk hl
     ·rw [updN_ne (fun e => hj (by rw [e]; exact hDm i hiD))]
      exact hold j hj
    ·obtain ⟨r, rfl⟩ : ∃ r, i = D.length + r := ⟨i - D.length, by omega⟩
     have hr : r < C.length := by omega
     have hqr : q = r := by
      have h2 := hst r hr
      rw [hn] at h2
      have h3 := of_decide_eq_false h2.symm
      rcases Nat.eq_zero_or_pos r with e | e
      ·omega
      ·have h4 := hneed (D.length + (r - 1)) (by have := hchain (r - 1) (by omega); rwa [show D.length + (r - 1) + 1 = D.length + r from by omega] at this)
       rw [hst _ (by omega)] at h4
       have := of_decide_eq_true h4
       omega
     subst hqr
     refine hstep q hr s W (fun k hk hkT => hv k hk (hneed k hkT)) hold hZ _ (fun v W' hZ' => ?_)
     refine .inr ⟨hlast0, _, q + 1, rfl, by omega, fun k hk => ?_, hZ', fun k hk hl => ?_, fun j hj => ?_, hcl'⟩
     ·by_cases e : k = q
      ·subst e; rw [hself, decide_eq_true (by omega)]
      ·rw [hoth _ (by omega), hst k hk]
       by_cases e2 : k < q
       ·rw [decide_eq_true e2, decide_eq_true (by omega)]
       ·rw [decide_eq_false e2, decide_eq_false (by omega)]
     ·rw [updN_ne (hDC k q hk hr)]
      rw [hoth k (by omega)] at hl
      exact hv k hk hl
     ·rw [updN_ne (fun e => hj (by rw [e]; exact hCm q hr))]
      exact hold j hj
 ·intro L a W hL hall hJ
  rcases hJ with ⟨_, _, hq⟩ | ⟨h1, _⟩
  ·exact hq
  ·rw [hall _ (by omega)] at h1; cases h1
end

end Go.Proofs.YtjijaciaioieaaaGreat.PFnRolesOrder
