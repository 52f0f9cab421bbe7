/- The machine side of laws.FnCache: each function of this text answers what its Lean function answers (written for this claim by a program of this session over the kit's print; no condition beyond what each theorem says). -/
import Derived.Test.YtikjdoemkibadaaOFnCachex0
namespace Go.Proofs.Ytikjdoemkibadaa.PFnCache
open Go.RowKit Go.Proofs.YtikjdoemkibadaaW.PrintWords Go.Proofs.YtikjdoemkibadaaW.PrintLast Go.Proofs.YtikjdoemkibadaaW.PrintMore
attribute [local go_sem] max2_int min2_int max_two min_two max_three min_three max_four min_four   -- for this text's walks alone
set_option linter.unusedVariables false
set_option linter.unusedSimpArgs false

/-! ### impl_Cache: function 8 -/
/-! The cache's map: interface keys that hold ints, pointers to nodes. -/
section
open Go.Proofs
def ikey (k : Int) : Value := .iface 3 (.int .i64 k)
def setB (w : World) (b : Nat) (o : Obj) : World := { w with heap := w.heap.setIfInBounds b o }
def at1 (n : Nat) : Value := .pointer (some ⟨n, 0, none⟩)
theorem run_eq_key (a b : Int) (w : World) : (Op.equal 20 (ikey a) (ikey b)).run Try.prog w = .ok (a == b) w := by kernel_rfl
theorem run_check_key (em : Bool) (a : Int) (w : World) : (Instr.checkKey em 10000 20 (ikey a)).run Try.prog w = .ok () w := by
  cases em <;> kernel_rfl
open Classical in
/-- the place and the value of a key among entries -/
noncomputable def findE (k : Int) : List MapEntry → Nat → Option (Nat × Value)
  | [], _ => none
  | e :: es, i => if e.key = ikey k then some (i, e.val) else findE k es (i + 1)
theorem ikey_inj {a b : Int} (h : ikey a = ikey b) : a = b := by
  unfold ikey at h
  injection h with _ h
  injection h
theorem run_asking (k : Int) (w : World) : ∀ (es : List MapEntry) (i : Nat), (∀ e ∈ es, ∃ a, e.key = ikey a) → (Instr.findAsking 20 (ikey k) es i).run Try.prog w = .ok (findE k es i) w
  | [], i, _ => by simp [Instr.findAsking, findE]
  | e :: es, i, h => by
    obtain ⟨a, ha⟩ := h e (List.mem_cons_self ..)
    have ih := run_asking k w es (i + 1) (fun e he => h e (List.mem_cons_of_mem _ he))
    by_cases g : k = a
    · subst g
      simp [Instr.findAsking, findE, ha, run_eq_key, Result.andThen]
    · have g2 : ¬ ikey a = ikey k := fun z => g (ikey_inj z).symm
      simp [Instr.findAsking, findE, ha, run_eq_key, g, g2, Result.andThen, ih]
theorem run_find (k : Int) (w : World) (es : List MapEntry) (h : ∀ e ∈ es, ∃ a, e.key = ikey a) : (Instr.findKey 20 (ikey k) es).run Try.prog w = .ok (findE k es 0) w := by
  have hu : Try.prog.underlying 20 = some (.interface #[]) := by kernel_rfl
  cases es with
  | nil => simp [Instr.findKey, run_underlying hu, Instr.findNow, findE, Result.andThen]
  | cons e es =>
    obtain ⟨a, ha⟩ := h e (List.mem_cons_self ..)
    have q := run_asking k w (e :: es) 0 h
    simp [Instr.findKey, run_underlying hu, Instr.findNow, Instr.sameNow, ha, ikey, Result.andThen]
    simpa [ikey] using q
/-- the map's pairs are those of the list of nodes -/
abbrev Ent := Nat × Int × Int
def pairOf (x : Ent) : Value × Value := (ikey x.2.1, at1 x.1)
def MapIs (es : Array MapEntry) (st : List Ent) : Prop := (es.toList.map fun e => (e.key, e.val)).Perm (st.map pairOf) ∧ (st.map fun x => x.2.1).Nodup
theorem MapIs.keys {es : Array MapEntry} {st : List Ent} (h : MapIs es st) : ∀ e ∈ es.toList, ∃ x ∈ st, e.key = ikey x.2.1 ∧ e.val = at1 x.1 := by
  intro e he
  have := h.1.mem_iff.1 (List.mem_map_of_mem (f := fun e : MapEntry => (e.key, e.val)) he)
  obtain ⟨x, hx, e2⟩ := List.mem_map.1 this
  unfold pairOf at e2
  exact ⟨x, hx, (congrArg Prod.fst e2).symm, (congrArg Prod.snd e2).symm⟩
theorem MapIs.size {es : Array MapEntry} {st : List Ent} (h : MapIs es st) : es.size = st.length := by
  have := h.1.length_eq
  simpa using this
theorem findE_none (k : Int) : ∀ (es : List MapEntry) (i : Nat), (∀ e ∈ es, e.key ≠ ikey k) → findE k es i = none
  | [], _, _ => rfl
  | e :: es, i, h => by
    unfold findE
    rw [if_neg (h e (List.mem_cons_self ..))]
    exact findE_none k es (i + 1) (fun e he => h e (List.mem_cons_of_mem _ he))
theorem findE_some (k : Int) : ∀ (es : List MapEntry) (i : Nat), (∃ e ∈ es, e.key = ikey k) → ∃ j e, es[j]? = some e ∧ e.key = ikey k ∧ findE k es i = some (i + j, e.val)
  | [], _, h => by obtain ⟨e, he, _⟩ := h; cases he
  | e :: es, i, h => by
    by_cases g : e.key = ikey k
    · exact ⟨0, e, rfl, g, by unfold findE; rw [if_pos g]; rfl⟩
    · have : ∃ e ∈ es, e.key = ikey k := by
        obtain ⟨e', he', hk⟩ := h
        rcases List.mem_cons.1 he' with rfl | he'
        · exact absurd hk g
        · exact ⟨e', he', hk⟩
      obtain ⟨j, e', hj, hk, hf⟩ := findE_some k es (i + 1) this
      exact ⟨j + 1, e', by simpa using hj, hk, by unfold findE; rw [if_neg g, hf]; congr 2; omega⟩
theorem key_unique {st : List Ent} (hn : (st.map fun x => x.2.1).Nodup) {x y : Ent} (hx : x ∈ st) (hy : y ∈ st) (h : x.2.1 = y.2.1) : x = y := by
  induction st with
  | nil => cases hx
  | cons z st ih =>
    simp only [List.map_cons, List.nodup_cons] at hn
    rcases List.mem_cons.1 hx with rfl | hx' <;> rcases List.mem_cons.1 hy with rfl | hy'
    · rfl
    · exact absurd (List.mem_map_of_mem (f := fun x : Ent => x.2.1) hy') (by rw [← h]; exact hn.1)
    · exact absurd (List.mem_map_of_mem (f := fun x : Ent => x.2.1) hx') (by rw [h]; exact hn.1)
    · exact ih hn.2 hx' hy'
/-- what a key leads to: its node, at some place among the entries -/
theorem MapIs.at_ {es : Array MapEntry} {st : List Ent} (h : MapIs es st) {x : Ent} (hx : x ∈ st) : ∃ j, j < es.size ∧ findE x.2.1 es.toList 0 = some (j, at1 x.1) ∧ (es.toList.map fun e => (e.key, e.val))[j]? = some (pairOf x) := by
  have hm : pairOf x ∈ es.toList.map fun e => (e.key, e.val) := h.1.mem_iff.2 (List.mem_map_of_mem hx)
  obtain ⟨e, he, e2⟩ := List.mem_map.1 hm
  have hk : e.key = ikey x.2.1 := congrArg Prod.fst e2
  obtain ⟨j, e', hj, hk', hf⟩ := findE_some x.2.1 es.toList 0 ⟨e, he, hk⟩
  obtain ⟨y, hy, hky, hvy⟩ := h.keys e' (List.mem_of_getElem? hj)
  have hxy : y = x := key_unique h.2 hy hx (ikey_inj (hky.symm.trans hk'))
  subst hxy
  refine ⟨j, by simpa using (List.getElem?_eq_some_iff.1 hj).1, by rw [hf, hvy]; simp, ?_⟩
  rw [List.getElem?_map, hj]
  simp [pairOf, hk', hvy]
theorem MapIs.none_ {es : Array MapEntry} {st : List Ent} (h : MapIs es st) {k : Int} (hk : ∀ x ∈ st, x.2.1 ≠ k) : findE k es.toList 0 = none := by
  refine findE_none k _ 0 (fun e he hek => ?_)
  obtain ⟨x, hx, hkx, _⟩ := h.keys e he
  exact hk x hx (ikey_inj (hkx.symm.trans hek))
theorem MapIs.forms {es : Array MapEntry} {st : List Ent} (h : MapIs es st) : ∀ e ∈ es.toList, ∃ a, e.key = ikey a := fun e he => by
  obtain ⟨x, _, hk, _⟩ := h.keys e he
  exact ⟨_, hk⟩
theorem getElem_eraseIdx_perm {α : Type} : ∀ (l : List α) (j : Nat) (h : j < l.length), (l[j] :: l.eraseIdx j).Perm l
  | _ :: _, 0, _ => List.Perm.refl _
  | a :: l, j + 1, h => by
    have ih := getElem_eraseIdx_perm l j (by simpa using h)
    simp only [List.getElem_cons_succ, List.eraseIdx_cons_succ]
    exact (List.Perm.swap ..).trans (ih.cons a)
theorem map_eraseIdx {α β : Type} (f : α → β) : ∀ (l : List α) (j : Nat), (l.eraseIdx j).map f = (l.map f).eraseIdx j
  | [], _ => rfl
  | _ :: _, 0 => rfl
  | a :: l, j + 1 => by simp [List.eraseIdx_cons_succ, map_eraseIdx f l j]
/-- without one of them -/
theorem MapIs.erase {es : Array MapEntry} {A B : List Ent} {x : Ent} (h : MapIs es (A ++ x :: B)) {j : Nat} (hj : j < es.size) (hp : (es.toList.map fun e => (e.key, e.val))[j]? = some (pairOf x)) : MapIs (es.eraseIdxIfInBounds j) (A ++ B) := by
  have hsub : (es.eraseIdxIfInBounds j).toList = es.toList.eraseIdx j := by
    unfold Array.eraseIdxIfInBounds
    rw [dif_pos hj]
    simp
  refine ⟨?_, ?_⟩
  · rw [hsub, map_eraseIdx]
    have h1 : (pairOf x :: (es.toList.map fun e => (e.key, e.val)).eraseIdx j).Perm (es.toList.map fun e => (e.key, e.val)) := by
      have hjl := (List.getElem?_eq_some_iff.1 hp).1
      have e := (List.getElem?_eq_some_iff.1 hp).2
      rw [← e]
      exact getElem_eraseIdx_perm _ j hjl
    have h2 : ((A ++ x :: B).map pairOf).Perm (pairOf x :: (A ++ B).map pairOf) := by
      rw [List.map_append, List.map_cons, List.map_append]
      exact List.perm_middle
    exact (h1.trans (h.1.trans h2)).cons_inv
  · have := h.2
    rw [List.map_append, List.map_cons] at this
    rw [List.map_append]
    exact (List.perm_middle.nodup_iff.1 this |>.of_cons)
/-- with one more, ahead -/
theorem MapIs.push {es : Array MapEntry} {st : List Ent} (h : MapIs es st) {x : Ent} (hk : ∀ y ∈ st, y.2.1 ≠ x.2.1) (born : Nat) : MapIs (es.push ⟨ikey x.2.1, at1 x.1, born⟩) (x :: st) := by
  refine ⟨?_, ?_⟩
  · rw [Array.toList_push, List.map_append, List.map_cons, List.map_cons, List.map_nil]
    exact (List.perm_append_singleton _ _).trans (h.1.cons _)
  · rw [List.map_cons, List.nodup_cons]
    refine ⟨fun hm => ?_, h.2⟩
    obtain ⟨y, hy, e⟩ := List.mem_map.1 hm
    exact hk y hy e
theorem run_lookup_some {w : World} {M : Nat} {es : Array MapEntry} {clock : Nat} {st : List Ent} (hb : w.heap[M]? = some (.map es clock)) (h : MapIs es st) {x : Ent} (hx : x ∈ st) :
    (Instr.lookup 41 (.map (some M)) (ikey x.2.1) true).run Try.prog w = .ok (.tuple #[at1 x.1, .bool true]) w := by
  obtain ⟨j, _, hf, _⟩ := h.at_ hx
  simp [Instr.lookup, run_underlying Try.underlying41, MapKept.run_getObj_map hb, run_check_key, run_find _ _ _ h.forms, hf, Result.andThen]
theorem run_lookup_none {w : World} {M : Nat} {es : Array MapEntry} {clock : Nat} {st : List Ent} (hb : w.heap[M]? = some (.map es clock)) (h : MapIs es st) {k : Int} (hk : ∀ x ∈ st, x.2.1 ≠ k) :
    (Instr.lookup 41 (.map (some M)) (ikey k) true).run Try.prog w = .ok (.tuple #[.pointer none, .bool false]) w := by
  have hz : ∀ w, (zeroValue 42).run Try.prog w = .ok (.pointer none) w := fun w => by kernel_rfl
  simp [Instr.lookup, run_underlying Try.underlying41, MapKept.run_getObj_map hb, run_check_key, run_find _ _ _ h.forms, h.none_ hk, hz, Result.andThen]
theorem run_delete_at {w : World} {M : Nat} {es : Array MapEntry} {clock : Nat} {st : List Ent} (hb : w.heap[M]? = some (.map es clock)) (h : MapIs es st) {x : Ent} {j : Nat} (hf : findE x.2.1 es.toList 0 = some (j, at1 x.1)) (ty : TypeId) :
    (Builtin.delete_ #[41, 20] ty #[.map (some M), ikey x.2.1]).run Try.prog w = .ok (.tuple #[]) (setB w M (.map (es.eraseIdxIfInBounds j) clock)) := by
  simp [Builtin.delete_, run_underlying Try.underlying41, MapKept.run_getObj_map hb, run_check_key, run_find _ _ _ h.forms, hf, MapKept.run_setObj_map _ hb, Result.andThen, setB]
theorem run_update_new {w : World} {M : Nat} {es : Array MapEntry} {clock : Nat} {st : List Ent} (hb : w.heap[M]? = some (.map es clock)) (h : MapIs es st) {k : Int} (hk : ∀ x ∈ st, x.2.1 ≠ k) (v : Value) :
    (Instr.mapUpdate 41 (.map (some M)) (ikey k) v).run Try.prog w = .ok () (setB w M (.map (es.push ⟨ikey k, v, clock⟩) (clock + 1))) := by
  simp [Instr.mapUpdate, run_underlying Try.underlying41, MapKept.run_getObj_map hb, run_check_key, run_find _ _ _ h.forms, h.none_ hk, MapKept.run_setObj_map _ hb, Result.andThen, setB]
end
/-! The cache's list of nodes, linked both ways. -/
def Node (w : World) (n : Nat) (k v p q : Value) : Prop := w.heap[n]? = some (.cells #[k, v, p, q] 46 (0, 0))
theorem Node.c0 {w : World} {n : Nat} {k v p q : Value} (h : Node w n k v p q) : w.cell? ⟨n, 0, none⟩ = some k := by unfold Node at h; simp [World.cell?, h]
theorem Node.c1 {w : World} {n : Nat} {k v p q : Value} (h : Node w n k v p q) : w.cell? ⟨n, 1, none⟩ = some v := by unfold Node at h; simp [World.cell?, h]
theorem Node.c2 {w : World} {n : Nat} {k v p q : Value} (h : Node w n k v p q) : w.cell? ⟨n, 2, none⟩ = some p := by unfold Node at h; simp [World.cell?, h]
theorem Node.c3 {w : World} {n : Nat} {k v p q : Value} (h : Node w n k v p q) : w.cell? ⟨n, 3, none⟩ = some q := by unfold Node at h; simp [World.cell?, h]
theorem Node.fr {w : World} {n : Nat} {k v p q : Value} (h : Node w n k v p q) (j : Nat) : w.frozen? ⟨n, j, none⟩ = false := by unfold Node at h; simp [World.frozen?, h]
theorem Node.lt {w : World} {n : Nat} {k v p q : Value} (h : Node w n k v p q) : n < w.heap.size := (Array.getElem?_eq_some_iff.1 h).1
theorem Node.put2 {w : World} {n : Nat} {k v p q : Value} (h : Node w n k v p q) (x : Value) : Node (w.setCell ⟨n, 2, none⟩ x) n k v x q := by
  unfold Node at h ⊢
  simp [World.setCell, Array.getElem?_modify, h]
theorem Node.put3 {w : World} {n : Nat} {k v p q : Value} (h : Node w n k v p q) (x : Value) : Node (w.setCell ⟨n, 3, none⟩ x) n k v p x := by
  unfold Node at h ⊢
  simp [World.setCell, Array.getElem?_modify, h]
theorem Node.move {w w' : World} {n : Nat} {k v p q : Value} (h : Node w n k v p q) (hm : w'.heap[n]? = w.heap[n]?) : Node w' n k v p q := hm.trans h
theorem put_other (w : World) (a : Addr) (v : Value) {m : Nat} (h : m ≠ a.block) : (w.setCell a v).heap[m]? = w.heap[m]? := Below.heap_setCell w a v m h
theorem setB_other {w : World} {M m : Nat} (o : Obj) (e : m ≠ M) : (setB w M o).heap[m]? = w.heap[m]? := by
  unfold setB
  simp only [Array.getElem?_setIfInBounds]
  rw [if_neg (fun z => e z.symm)]
/-- an element of the list: its block, its key's and its value's cells -/
abbrev El := Nat × Value × Value
def nx : List El → Value → Value
  | [], q => q
  | e :: _, _ => at1 e.1
def lst : Value → List El → Value
  | p, [] => p
  | _, e :: r => lst (at1 e.1) r
def Seg (w : World) : Value → List El → Value → Prop
  | _, [], _ => True
  | p, e :: r, q => Node w e.1 e.2.1 e.2.2 p (nx r q) ∧ Seg w (at1 e.1) r q
theorem nx_append (B : List El) (q : Value) : ∀ A : List El, nx (A ++ B) q = nx A (nx B q)
  | [] => rfl
  | _ :: _ => rfl
theorem lst_snoc (a : El) : ∀ (p : Value) (A : List El), lst p (A ++ [a]) = at1 a.1
  | _, [] => rfl
  | _, e :: A => lst_snoc a (at1 e.1) A
theorem seg_append (w : World) (B : List El) (q : Value) : ∀ (A : List El) (p : Value), Seg w p (A ++ B) q ↔ Seg w p A (nx B q) ∧ Seg w (lst p A) B q
  | [], p => by simp [Seg, lst]
  | e :: A, p => by
    have ih := seg_append w B q A (at1 e.1)
    simp only [List.cons_append, Seg, lst, ih, nx_append, and_assoc]
theorem Seg.move {w w' : World} {q : Value} : ∀ {L : List El} {p : Value}, Seg w p L q → (∀ e ∈ L, w'.heap[e.1]? = w.heap[e.1]?) → Seg w' p L q
  | [], _, _, _ => trivial
  | e :: L, _, h, hm => ⟨h.1.move (hm e (List.mem_cons_self ..)), Seg.move h.2 (fun e he => hm e (List.mem_cons_of_mem _ he))⟩
theorem Seg.node {w : World} {q : Value} : ∀ {L : List El} {p : Value}, Seg w p L q → ∀ e ∈ L, ∃ a b, Node w e.1 e.2.1 e.2.2 a b
  | [], _, _, _, he => by cases he
  | e :: L, _, h, x, hx => by
    rcases List.mem_cons.1 hx with rfl | hx
    · exact ⟨_, _, h.1⟩
    · exact Seg.node h.2 x hx
/-- the last one's next is turned -/
theorem seg_last {w : World} {a : El} {A : List El} {p q : Value} (h : Seg w p (A ++ [a]) q) (hn : ∀ e ∈ A, e.1 ≠ a.1) (q' : Value) : Seg (w.setCell ⟨a.1, 3, none⟩ q') p (A ++ [a]) q' := by
  rw [seg_append] at h ⊢
  obtain ⟨h1, h2, _⟩ := h
  exact ⟨h1.move (fun e he => put_other w _ _ (hn e he)), h2.put3 q', trivial⟩
/-- the first one's prev is turned -/
theorem seg_first {w : World} {b : El} {B : List El} {p q : Value} (h : Seg w p (b :: B) q) (hn : ∀ e ∈ B, e.1 ≠ b.1) (p' : Value) : Seg (w.setCell ⟨b.1, 2, none⟩ p') p' (b :: B) q := by
  obtain ⟨h1, h2⟩ := h
  exact ⟨h1.put2 p', h2.move (fun e he => put_other w _ _ (hn e he))⟩
/-- a list without the one between a and b -/
theorem seg_unlink {w : World} {A B : List El} {a n b : El} (h : Seg w (.pointer none) (A ++ [a] ++ n :: b :: B) (.pointer none)) (hd : (A ++ [a] ++ n :: b :: B).Pairwise fun x y => x.1 ≠ y.1) :
    Node w n.1 n.2.1 n.2.2 (at1 a.1) (at1 b.1) ∧ (∃ x y, Node w a.1 a.2.1 a.2.2 x y) ∧ (∃ x y, Node w b.1 b.2.1 b.2.2 x y) ∧ a.1 ≠ n.1 ∧ b.1 ≠ n.1 ∧ a.1 ≠ b.1 ∧
      Seg ((w.setCell ⟨a.1, 3, none⟩ (at1 b.1)).setCell ⟨b.1, 2, none⟩ (at1 a.1)) (.pointer none) (A ++ [a] ++ b :: B) (.pointer none) := by
  rw [seg_append] at h
  obtain ⟨h1, h2, h3⟩ := h
  rw [lst_snoc] at h2
  rw [List.pairwise_append] at hd
  obtain ⟨d1, d2, d3⟩ := hd
  rw [List.pairwise_append] at d1
  obtain ⟨_, _, d4⟩ := d1
  rw [List.pairwise_cons] at d2
  obtain ⟨d5, d6⟩ := d2
  rw [List.pairwise_cons] at d6
  have ha : a ∈ A ++ [a] := by simp
  have an : a.1 ≠ n.1 := d3 a ha n (List.mem_cons_self ..)
  have ab : a.1 ≠ b.1 := d3 a ha b (by simp)
  have nb : n.1 ≠ b.1 := d5 b (List.mem_cons_self ..)
  have na := Seg.node h1 a ha
  have nbn := Seg.node h3 b (List.mem_cons_self ..)
  refine ⟨h2, na, nbn, an, fun e => nb e.symm, ab, ?_⟩
  rw [seg_append, lst_snoc]
  constructor
  · have s1 := seg_last h1 (fun e he => d4 e he a (by simp)) (at1 b.1)
    exact s1.move (fun e he => put_other _ _ _ (fun z => d3 e he b (by simp) z))
  · have s2 : Seg (w.setCell ⟨a.1, 3, none⟩ (at1 b.1)) (at1 n.1) (b :: B) (.pointer none) := h3.move (fun e he => put_other _ _ _ (fun z => d3 a ha e (List.mem_cons_of_mem _ he) z.symm))
    exact seg_first s2 (fun e he z => d6.1 e he z.symm) (at1 a.1)
/-- a list with one more behind its first -/
theorem seg_link {w : World} {B : List El} {h0 n b : El} {x y : Value} (h : Seg w (.pointer none) (h0 :: b :: B) (.pointer none)) (hn : Node w n.1 n.2.1 n.2.2 x y) (hd : (h0 :: n :: b :: B).Pairwise fun x y => x.1 ≠ y.1) :
    Node w h0.1 h0.2.1 h0.2.2 (.pointer none) (at1 b.1) ∧ (∃ x y, Node w b.1 b.2.1 b.2.2 x y) ∧ h0.1 ≠ n.1 ∧ b.1 ≠ n.1 ∧ h0.1 ≠ b.1 ∧
      Seg ((((w.setCell ⟨h0.1, 3, none⟩ (at1 n.1)).setCell ⟨b.1, 2, none⟩ (at1 n.1)).setCell ⟨n.1, 3, none⟩ (at1 b.1)).setCell ⟨n.1, 2, none⟩ (at1 h0.1)) (.pointer none) (h0 :: n :: b :: B) (.pointer none) := by
  rw [List.pairwise_cons] at hd
  obtain ⟨d1, d2⟩ := hd
  rw [List.pairwise_cons] at d2
  obtain ⟨d2, d3⟩ := d2
  rw [List.pairwise_cons] at d3
  obtain ⟨d3, _⟩ := d3
  obtain ⟨h1, h2⟩ := h
  have hn0 : h0.1 ≠ n.1 := d1 n (List.mem_cons_self ..)
  have h0b : h0.1 ≠ b.1 := d1 b (by simp)
  have nb : n.1 ≠ b.1 := d2 b (List.mem_cons_self ..)
  refine ⟨h1, ⟨_, _, h2.1⟩, hn0, fun e => nb e.symm, h0b, ?_⟩
  have g1 : Node (w.setCell ⟨h0.1, 3, none⟩ (at1 n.1)) h0.1 h0.2.1 h0.2.2 (.pointer none) (at1 n.1) := h1.put3 _
  have g2 : Seg (w.setCell ⟨h0.1, 3, none⟩ (at1 n.1)) (at1 h0.1) (b :: B) (.pointer none) := Seg.move (L := b :: B) h2 (fun e he => put_other _ _ _ (fun z => d1 e (List.mem_cons_of_mem _ he) z.symm))
  have g3 : Node (w.setCell ⟨h0.1, 3, none⟩ (at1 n.1)) n.1 n.2.1 n.2.2 x y := hn.move (put_other _ _ _ (fun z => hn0 z.symm))
  have k1 := g1.move (put_other _ ⟨b.1, 2, none⟩ (at1 n.1) h0b)
  have k2 := seg_first g2 (fun e he z => d3 e he z.symm) (at1 n.1)
  have k3 := g3.move (put_other _ ⟨b.1, 2, none⟩ (at1 n.1) nb)
  have l1 := k1.move (put_other _ ⟨n.1, 3, none⟩ (at1 b.1) hn0)
  have l2 := k2.move (fun e he => put_other _ ⟨n.1, 3, none⟩ (at1 b.1) (fun z => d2 e he z.symm))
  have l3 := k3.put3 (at1 b.1)
  have m1 := l1.move (put_other _ ⟨n.1, 2, none⟩ (at1 h0.1) hn0)
  have m2 := l2.move (fun e he => put_other _ ⟨n.1, 2, none⟩ (at1 h0.1) (fun z => d2 e he z.symm))
  have m3 := l3.put2 (at1 h0.1)
  exact ⟨m1, m3, m2⟩
def CacheAt (w : World) (C : Nat) (cap : Int) (M H T : Nat) : Prop := w.heap[C]? = some (.cells #[.int .i64 cap, .map (some M), at1 H, at1 T] 44 (0, 0))
theorem CacheAt.c {w : World} {C M H T : Nat} {cap : Int} (h : CacheAt w C cap M H T) : w.cell? ⟨C, 0, none⟩ = some (.int .i64 cap) ∧ w.cell? ⟨C, 1, none⟩ = some (.map (some M)) ∧ w.cell? ⟨C, 2, none⟩ = some (at1 H) ∧ w.cell? ⟨C, 3, none⟩ = some (at1 T) := by
  unfold CacheAt at h
  simp [World.cell?, h]
/-! The cache by a plain list, what was used last ahead. -/
def kvOf (st : List Ent) : List (Int × Int) := st.map (·.2)
/-- the pair of a key, ahead; the others as they stood -/
def mvL (k : Int) (l : List (Int × Int)) : List (Int × Int) := (l.filter fun p => decide (p.1 = k)) ++ l.filter fun p => !decide (p.1 = k)
def hasL (k : Int) (l : List (Int × Int)) : Bool := l.any fun p => decide (p.1 = k)
def putL (cap : Int) (l : List (Int × Int)) (k v : Int) : List (Int × Int) :=
  if hasL k l = true then mvL k l else (k, v) :: (if cap ≤ (l.length : Int) then l.dropLast else l)
def gotL (k : Int) (l : List (Int × Int)) : Option Int := (l.find? fun p => decide (p.1 = k)).map (·.2)
/-- the script -/
def runL (cap : Int) : List (Int × Int) → List S30 → List S32
  | _, [] => []
  | l, x :: r =>
    if x.f0 = 0 then z32 :: runL cap (putL cap l x.f1 x.f2) r
    else match gotL x.f1 l with
      | some v => ⟨true, v⟩ :: runL cap (mvL x.f1 l) r
      | none => ⟨false, 0⟩ :: runL cap l r
def impl_Cache.f (a0 : Int) (l1 : List S30) : Option (List S32) := if 1 ≤ a0 ∧ l1.length < 1000000 then some (runL a0 [] l1) else none
theorem hasL_false {k : Int} {l : List (Int × Int)} (h : hasL k l = false) : ∀ p ∈ l, p.1 ≠ k := by
  unfold hasL at h
  rw [List.any_eq_false] at h
  intro p hp e
  exact h p hp (decide_eq_true e)
theorem gotL_none {k : Int} {l : List (Int × Int)} (h : hasL k l = false) : gotL k l = none := by
  unfold gotL
  rw [List.find?_eq_none.2]
  · rfl
  · intro p hp
    simpa using hasL_false h p hp
theorem filter_key {A B : List (Int × Int)} {x : Int × Int} (h : ((A ++ x :: B).map (·.1)).Nodup) : (A ++ x :: B).filter (fun p => decide (p.1 = x.1)) = [x] ∧ (A ++ x :: B).filter (fun p => !decide (p.1 = x.1)) = A ++ B := by
  rw [List.map_append, List.map_cons] at h
  have h2 := List.perm_middle.nodup_iff.1 h
  rw [List.nodup_cons] at h2
  have hA : ∀ p ∈ A, p.1 ≠ x.1 := fun p hp e => h2.1 (List.mem_append_left _ (e ▸ List.mem_map_of_mem hp))
  have hB : ∀ p ∈ B, p.1 ≠ x.1 := fun p hp e => h2.1 (List.mem_append_right _ (e ▸ List.mem_map_of_mem hp))
  constructor
  · rw [List.filter_append, List.filter_cons_of_pos (by simp), List.filter_eq_nil_iff.2 (fun p hp => by simpa using hA p hp), List.filter_eq_nil_iff.2 (fun p hp => by simpa using hB p hp)]
    rfl
  · rw [List.filter_append, List.filter_cons_of_neg (by simp), List.filter_eq_self.2 (fun p hp => by simpa using hA p hp), List.filter_eq_self.2 (fun p hp => by simpa using hB p hp)]
theorem mvL_split {A B : List (Int × Int)} {x : Int × Int} (h : ((A ++ x :: B).map (·.1)).Nodup) : mvL x.1 (A ++ x :: B) = x :: (A ++ B) := by
  obtain ⟨h1, h2⟩ := filter_key h
  unfold mvL
  rw [h1, h2]
  rfl
theorem gotL_split {A B : List (Int × Int)} {x : Int × Int} (h : ((A ++ x :: B).map (·.1)).Nodup) : gotL x.1 (A ++ x :: B) = some x.2 := by
  unfold gotL
  have hf : ((A ++ x :: B).filter fun p => decide (p.1 = x.1)).head? = some x := by rw [(filter_key h).1]; rfl
  rw [List.head?_filter] at hf
  rw [hf]; rfl
theorem hasL_split {A B : List (Int × Int)} {x : Int × Int} : hasL x.1 (A ++ x :: B) = true := by
  unfold hasL
  rw [List.any_eq_true]
  exact ⟨x, by simp, by simp⟩
theorem st_split {st : List Ent} {k : Int} (h : hasL k (kvOf st) = true) : ∃ A x B, st = A ++ x :: B ∧ x.2.1 = k := by
  unfold hasL kvOf at h
  rw [List.any_eq_true] at h
  obtain ⟨p, hp, hk⟩ := h
  obtain ⟨x, hx, rfl⟩ := List.mem_map.1 hp
  obtain ⟨A, B, rfl⟩ := List.append_of_mem hx
  exact ⟨A, x, B, rfl, of_decide_eq_true hk⟩
/-! The memory of a cache. -/
def el (x : Ent) : El := (x.1, ikey x.2.1, ikey x.2.2)
def ends (n : Nat) : El := (n, .nilIface, .nilIface)
def chain (H T : Nat) (st : List Ent) : List El := ends H :: st.map el ++ [ends T]
def blocks (C M H T : Nat) (st : List Ent) : List Nat := C :: M :: H :: st.map (·.1) ++ [T]
/-! The cache's own functions. -/
set_option maxHeartbeats 4000000 in
set_option maxRecDepth 100000 in
/-- remove, the list alone -/
theorem remove_list (C n a b : Nat) (k v ka va pa qa kb vb pb qb : Value) (w : World) (hn : Node w n k v (at1 a) (at1 b)) (ha : Node w a ka va pa qa) (hb : Node w b kb vb pb qb) (han : a ≠ n) (hbn : b ≠ n) (hab : a ≠ b) :
    Calls Try.prog 13 #[at1 C, at1 n, .bool true] w fun e w' => e = .returned (.tuple #[]) ∧ ∃ q, w' = ((w.setCell ⟨a, 3, none⟩ (at1 b)).setCell ⟨b, 2, none⟩ (at1 a)).drewN q := by
  have f1 := hn.c2
  have f2 := hn.c3
  have f3 := ha.c3
  have f4 := hb.c2
  have g3 := ha.fr 3
  have g4 := hb.fr 2
  have n1 : ¬ n = a := fun z => han z.symm
  have n2 : ¬ n = b := fun z => hbn z.symm
  have n3 : ¬ b = a := fun z => hab z.symm
  unfold at1 at *
  go_enter Try.func13, Try.ntmps13
  go_wp2
  go_region
  all_goals go_wp2
  go_region
  all_goals go_wp2
  all_goals go_end0
  all_goals exact ⟨rfl, 2, rfl⟩
set_option maxHeartbeats 4000000 in
set_option maxRecDepth 100000 in
/-- add, the list alone -/
theorem add_list (C M H T n b : Nat) (cap : Int) (k v p q kh vh ph kb vb pb qb : Value) (w : World) (hC : CacheAt w C cap M H T) (hn : Node w n k v p q) (hh : Node w H kh vh ph (at1 b)) (hb : Node w b kb vb pb qb) (hhn : H ≠ n) (hbn : b ≠ n) (hhb : H ≠ b) (hCn : C ≠ n) (hCb : C ≠ b) (hCH : C ≠ H) :
    Calls Try.prog 14 #[at1 C, at1 n, .bool true] w fun e w' => e = .returned (.tuple #[]) ∧ ∃ q, w' = ((((w.setCell ⟨H, 3, none⟩ (at1 n)).setCell ⟨b, 2, none⟩ (at1 n)).setCell ⟨n, 3, none⟩ (at1 b)).setCell ⟨n, 2, none⟩ (at1 H)).drewN q := by
  have c2 := hC.c.2.2.1
  have f1 := hh.c3
  have f2 := hb.c2
  have f3 := hn.c2
  have f4 := hn.c3
  have g1 := hh.fr 3
  have g2 := hb.fr 2
  have g3 := hn.fr 2
  have g4 := hn.fr 3
  have n1 : ¬ n = H := fun z => hhn z.symm
  have n2 : ¬ n = b := fun z => hbn z.symm
  have n3 : ¬ b = H := fun z => hhb z.symm
  unfold at1 at *
  go_enter Try.func14, Try.ntmps14
  go_wp2
  all_goals go_end0
  all_goals exact ⟨rfl, 0, rfl⟩
set_option maxHeartbeats 4000000 in
set_option maxRecDepth 100000 in
/-- remove, from the map too -/
theorem remove_all (C M H T n a b : Nat) (cap : Int) (es : Array MapEntry) (clock : Nat) (st : List Ent) (x : Ent) (j : Nat) (v ka va pa qa kb vb pb qb : Value) (w : World) (hC : CacheAt w C cap M H T) (hM : w.heap[M]? = some (.map es clock)) (hst : MapIs es st) (hf : findE x.2.1 es.toList 0 = some (j, at1 x.1)) (hn : Node w n (ikey x.2.1) v (at1 a) (at1 b)) (ha : Node w a ka va pa qa) (hb : Node w b kb vb pb qb) (han : a ≠ n) (hbn : b ≠ n) (hab : a ≠ b) (hMn : M ≠ n) (hMa : M ≠ a) (hMb : M ≠ b) :
    Calls Try.prog 13 #[at1 C, at1 n, .bool false] w fun e w' => e = .returned (.tuple #[]) ∧ ∃ q, w' = (((setB w M (.map (es.eraseIdxIfInBounds j) clock)).setCell ⟨a, 3, none⟩ (at1 b)).setCell ⟨b, 2, none⟩ (at1 a)).drewN q := by
  have c1 := hC.c.2.1
  have f0 := hn.c0
  have m2 : Node (setB w.drew M (.map (es.eraseIdxIfInBounds j) clock)) n (ikey x.2.1) v (at1 a) (at1 b) := hn.move (setB_other _ (fun z => hMn z.symm))
  have m3 : Node (setB w.drew M (.map (es.eraseIdxIfInBounds j) clock)) a ka va pa qa := ha.move (setB_other _ (fun z => hMa z.symm))
  have m4 : Node (setB w.drew M (.map (es.eraseIdxIfInBounds j) clock)) b kb vb pb qb := hb.move (setB_other _ (fun z => hMb z.symm))
  have f1 := m2.c2
  have f2 := m2.c3
  have f3 := m3.c3
  have f4 := m4.c2
  have g3 := m3.fr 3
  have g4 := m4.fr 2
  have n1 : ¬ n = a := fun z => han z.symm
  have n2 : ¬ n = b := fun z => hbn z.symm
  have n3 : ¬ b = a := fun z => hab z.symm
  have hdel := run_delete_at (w := w.drew) hM hst hf 0
  unfold at1 at *
  go_enter Try.func13, Try.ntmps13
  go_wp2
  go_region
  all_goals go_wp2
  go_region
  all_goals go_wp2
  go_region
  all_goals go_wp2
  all_goals go_end0
  all_goals exact ⟨rfl, 3, rfl⟩
set_option maxHeartbeats 4000000 in
set_option maxRecDepth 100000 in
/-- add, to the map too -/
theorem add_all (C M H T n b : Nat) (cap : Int) (es : Array MapEntry) (clock : Nat) (st : List Ent) (k : Int) (v p q kh vh ph kb vb pb qb : Value) (w : World) (hC : CacheAt w C cap M H T) (hM : w.heap[M]? = some (.map es clock)) (hst : MapIs es st) (hk : ∀ x ∈ st, x.2.1 ≠ k) (hn : Node w n (ikey k) v p q) (hh : Node w H kh vh ph (at1 b)) (hb : Node w b kb vb pb qb) (hhn : H ≠ n) (hbn : b ≠ n) (hhb : H ≠ b) (hCn : C ≠ n) (hCb : C ≠ b) (hCH : C ≠ H) (hMn : M ≠ n) (hMb : M ≠ b) (hMH : M ≠ H) (hMC : M ≠ C) :
    Calls Try.prog 14 #[at1 C, at1 n, .bool false] w fun e w' => e = .returned (.tuple #[]) ∧ ∃ q, w' = (((((setB w M (.map (es.push ⟨ikey k, at1 n, clock⟩) (clock + 1))).setCell ⟨H, 3, none⟩ (at1 n)).setCell ⟨b, 2, none⟩ (at1 n)).setCell ⟨n, 3, none⟩ (at1 b)).setCell ⟨n, 2, none⟩ (at1 H)).drewN q := by
  have c1 := hC.c.2.1
  have f0 := hn.c0
  have mC : CacheAt (setB w.drew M (.map (es.push ⟨ikey k, at1 n, clock⟩) (clock + 1))) C cap M H T := (setB_other _ (fun z => hMC z.symm)).trans hC
  have m2 : Node (setB w.drew M (.map (es.push ⟨ikey k, at1 n, clock⟩) (clock + 1))) n (ikey k) v p q := hn.move (setB_other _ (fun z => hMn z.symm))
  have m3 : Node (setB w.drew M (.map (es.push ⟨ikey k, at1 n, clock⟩) (clock + 1))) H kh vh ph (at1 b) := hh.move (setB_other _ (fun z => hMH z.symm))
  have m4 : Node (setB w.drew M (.map (es.push ⟨ikey k, at1 n, clock⟩) (clock + 1))) b kb vb pb qb := hb.move (setB_other _ (fun z => hMb z.symm))
  have c2 := mC.c.2.2.1
  have f1 := m3.c3
  have f2 := m4.c2
  have f3 := m2.c2
  have f4 := m2.c3
  have g1 := m3.fr 3
  have g2 := m4.fr 2
  have g3 := m2.fr 2
  have g4 := m2.fr 3
  have n1 : ¬ n = H := fun z => hhn z.symm
  have n2 : ¬ n = b := fun z => hbn z.symm
  have n3 : ¬ b = H := fun z => hhb z.symm
  have hupd := run_update_new (w := w.drew) hM hst hk (at1 n)
  unfold at1 at *
  go_enter Try.func14, Try.ntmps14
  go_wp2
  go_region
  all_goals go_wp2
  all_goals go_end0
  all_goals exact ⟨rfl, 1, rfl⟩
/-! What holds of a cache's memory, and what its functions leave as it was. -/
/-- all but these blocks stay -/
structure Fr (w w' : World) (bs : List Nat) : Prop where
  os : w'.os = w.os
  tape : w'.tape = w.tape
  output : w'.output = w.output
  size : w.heap.size ≤ w'.heap.size
  block : ∀ k, k < w.heap.size → k ∉ bs → w'.heap[k]? = w.heap[k]?
theorem Fr.refl (w : World) (bs : List Nat) : Fr w w bs := ⟨rfl, rfl, rfl, Nat.le_refl _, fun _ _ _ => rfl⟩
theorem Fr.trans {a b c : World} {bs : List Nat} (h : Fr a b bs) (k : Fr b c bs) : Fr a c bs :=
  ⟨k.os.trans h.os, k.tape.trans h.tape, k.output.trans h.output, Nat.le_trans h.size k.size, fun i hi hn => (k.block i (Nat.lt_of_lt_of_le hi h.size) hn).trans (h.block i hi hn)⟩
theorem Fr.mono {a b : World} {bs bs' : List Nat} (h : Fr a b bs) (hs : ∀ k, k ∈ bs → k ∈ bs') : Fr a b bs' := ⟨h.os, h.tape, h.output, h.size, fun k hk hn => h.block k hk (fun z => hn (hs k z))⟩
/-- what is new may change too -/
theorem Fr.trans_new {a b c : World} {bs bs' : List Nat} (h : Fr a b bs) (k : Fr b c bs') (hs : ∀ x, x ∈ bs' → x ∈ bs ∨ a.heap.size ≤ x) : Fr a c bs :=
  ⟨k.os.trans h.os, k.tape.trans h.tape, k.output.trans h.output, Nat.le_trans h.size k.size, fun i hi hn => (k.block i (Nat.lt_of_lt_of_le hi h.size) (fun z => (hs i z).elim hn (fun z => by omega))).trans (h.block i hi hn)⟩
theorem Fr.drewN {a b : World} {bs : List Nat} (h : Fr a b bs) (q : Nat) : Fr a (b.drewN q) bs := ⟨h.os, h.tape, h.output, h.size, h.block⟩
theorem Fr.set {a b : World} {bs : List Nat} (h : Fr a b bs) {n : Nat} (hn : n ∈ bs) (j : Nat) (v : Value) : Fr a (b.setCell ⟨n, j, none⟩ v) bs :=
  ⟨h.os, h.tape, h.output, by simpa using h.size, fun k hk hk2 => (put_other (m := k) b ⟨n, j, none⟩ v (fun z => hk2 (by rw [z]; exact hn))).trans (h.block k hk hk2)⟩
theorem Fr.setB {a b : World} {bs : List Nat} (h : Fr a b bs) {n : Nat} (hn : n ∈ bs) (o : Obj) : Fr a (setB b n o) bs :=
  ⟨h.os, h.tape, h.output, by simpa [PFnCache.setB] using h.size, fun k hk hk2 => (setB_other (m := k) (M := n) o (fun z => hk2 (by rw [z]; exact hn))).trans (h.block k hk hk2)⟩
theorem Fr.below {a b : World} {bs : List Nat} (h : Fr a b bs) {B : Nat} (hB : B ≤ a.heap.size) (hs : ∀ k, k ∈ bs → B ≤ k) : Below B a b :=
  ⟨h.os, h.tape, h.output, h.size, fun k hk => h.block k (Nat.lt_of_lt_of_le hk hB) (fun z => by have := hs k z; omega)⟩
theorem setB_self {w : World} {M : Nat} (o : Obj) (h : M < w.heap.size) : (setB w M o).heap[M]? = some o := by
  unfold PFnCache.setB
  simp [h]
/-- a cache: its map has mst, its chain st -/
structure InvG (w : World) (base C M H T : Nat) (cap : Int) (mst st : List Ent) : Prop where
  cache : CacheAt w C cap M H T
  map : ∃ es clock, w.heap[M]? = some (.map es clock) ∧ MapIs es mst
  seg : Seg w (.pointer none) (chain H T st) (.pointer none)
  nodup : (blocks C M H T st).Nodup
  base : ∀ b ∈ blocks C M H T st, base ≤ b
theorem mem_blocks {C M H T : Nat} {st : List Ent} {b : Nat} : b ∈ blocks C M H T st ↔ b = C ∨ b = M ∨ b = H ∨ b ∈ st.map (·.1) ∨ b = T := by
  unfold blocks
  simp only [List.mem_cons, List.mem_append, List.not_mem_nil, or_false, List.cons_append]
theorem chain_mem {C M H T : Nat} {st : List Ent} {e : El} (h : e ∈ chain H T st) : e.1 ∈ blocks C M H T st := by
  rw [mem_blocks]
  unfold chain at h
  simp only [List.mem_cons, List.mem_append, List.not_mem_nil, or_false, List.cons_append] at h
  rcases h with rfl | h | rfl
  · exact .inr (.inr (.inl rfl))
  · obtain ⟨x, hx, rfl⟩ := List.mem_map.1 h
    exact .inr (.inr (.inr (.inl (List.mem_map_of_mem (f := fun x : Ent => x.1) hx))))
  · exact .inr (.inr (.inr (.inr rfl)))
theorem chain_fst (H T : Nat) (st : List Ent) : (chain H T st).map (·.1) = H :: st.map (·.1) ++ [T] := by
  simp [chain, ends, el, List.map_map, Function.comp_def]
theorem chain_apart {C M H T : Nat} {st : List Ent} (h : (blocks C M H T st).Nodup) : (chain H T st).Pairwise fun x y => x.1 ≠ y.1 := by
  have h2 : ((chain H T st).map (·.1)).Nodup := by
    rw [chain_fst]
    unfold blocks at h
    rw [List.cons_append, List.cons_append, List.nodup_cons, List.nodup_cons] at h
    exact h.2.2
  exact List.pairwise_map.1 h2
theorem chain_apart2 {C M H T : Nat} {st : List Ent} (h : (blocks C M H T st).Nodup) : ∀ e ∈ chain H T st, C ≠ e.1 ∧ M ≠ e.1 := by
  intro e he
  have hm : e.1 ∈ H :: st.map (·.1) ++ [T] := by rw [← chain_fst]; exact List.mem_map_of_mem he
  unfold blocks at h
  rw [List.cons_append, List.cons_append, List.nodup_cons, List.nodup_cons] at h
  exact ⟨fun z => h.1 (List.mem_cons_of_mem _ (z ▸ hm)), fun z => h.2.1 (z ▸ hm)⟩
theorem blocks_MC {C M H T : Nat} {st : List Ent} (h : (blocks C M H T st).Nodup) : M ≠ C := by
  unfold blocks at h
  rw [List.cons_append, List.nodup_cons] at h
  exact fun z => h.1 (z ▸ List.mem_cons_self ..)
/-- around one of them -/
theorem chain_around (H T : Nat) (A : List Ent) (x : Ent) (B : List Ent) : ∃ A' a b B', chain H T (A ++ x :: B) = A' ++ [a] ++ el x :: b :: B' ∧ chain H T (A ++ B) = A' ++ [a] ++ b :: B' := by
  obtain ⟨A', a, hA⟩ : ∃ A' a, ends H :: A.map el = A' ++ [a] := ⟨_, _, (List.dropLast_concat_getLast (l := ends H :: A.map el) (by simp)).symm⟩
  obtain ⟨b, B', hB⟩ : ∃ b B', B.map el ++ [ends T] = b :: B' := by
    cases B with
    | nil => exact ⟨_, _, rfl⟩
    | cons y B => exact ⟨_, _, rfl⟩
  refine ⟨A', a, b, B', ?_, ?_⟩
  · unfold chain
    rw [List.map_append, List.map_cons, ← hA, ← hB]
    simp
  · unfold chain
    rw [List.map_append, ← hA, ← hB]
    simp
theorem chain_first (H T : Nat) (st : List Ent) : ∃ b B, (∀ x, chain H T (x :: st) = ends H :: el x :: b :: B) ∧ chain H T st = ends H :: b :: B := by
  obtain ⟨b, B, hB⟩ : ∃ b B, st.map el ++ [ends T] = b :: B := by
    cases st with
    | nil => exact ⟨_, _, rfl⟩
    | cons y st => exact ⟨_, _, rfl⟩
  exact ⟨b, B, fun x => by unfold chain; rw [List.map_cons, ← hB]; simp, by unfold chain; rw [← hB]; simp⟩
theorem blocks_perm {C M H T : Nat} {st st' : List Ent} (h : st.Perm st') : (blocks C M H T st).Perm (blocks C M H T st') := by
  unfold blocks
  exact List.Perm.append_right _ (List.Perm.cons _ (List.Perm.cons _ (List.Perm.cons _ (h.map _))))
theorem MapIs.perm {es : Array MapEntry} {st st' : List Ent} (h : MapIs es st) (p : st.Perm st') : MapIs es st' := ⟨h.1.trans (p.map _), (p.map _).nodup_iff.1 h.2⟩
theorem InvG.perm {w : World} {base C M H T : Nat} {cap : Int} {mst mst' st : List Ent} (h : InvG w base C M H T cap mst st) (p : mst.Perm mst') : InvG w base C M H T cap mst' st := by
  obtain ⟨es, clock, h1, h2⟩ := h.map
  exact ⟨h.cache, ⟨es, clock, h1, h2.perm p⟩, h.seg, h.nodup, h.base⟩
theorem InvG.move {w w' : World} {base C M H T : Nat} {cap : Int} {mst st : List Ent} (h : InvG w base C M H T cap mst st) (hm : ∀ b ∈ blocks C M H T st, w'.heap[b]? = w.heap[b]?) : InvG w' base C M H T cap mst st := by
  obtain ⟨es, clock, h1, h2⟩ := h.map
  exact ⟨(hm C (mem_blocks.2 (.inl rfl))).trans h.cache, ⟨es, clock, (hm M (mem_blocks.2 (.inr (.inl rfl)))).trans h1, h2⟩, h.seg.move (fun e he => hm _ (chain_mem he)), h.nodup, h.base⟩
/-- what lies in a cache's blocks -/
theorem InvG.kinds {w : World} {base C M H T : Nat} {cap : Int} {mst st : List Ent} (h : InvG w base C M H T cap mst st) : ∀ b ∈ blocks C M H T st, (∃ es clock, w.heap[b]? = some (.map es clock)) ∨ (∃ cs t, w.heap[b]? = some (.cells cs t (0, 0)) ∧ (t = 44 ∨ t = 46)) := by
  intro b hb
  have nodes : b ∈ (chain H T st).map (·.1) → ∃ cs t, w.heap[b]? = some (.cells cs t (0, 0)) ∧ (t = 44 ∨ t = 46) := by
    intro hm
    obtain ⟨e, he, rfl⟩ := List.mem_map.1 hm
    obtain ⟨p, q, hn⟩ := h.seg.node e he
    exact ⟨_, _, hn, .inr rfl⟩
  rw [chain_fst] at nodes
  rw [mem_blocks] at hb
  rcases hb with rfl | rfl | hb
  · exact .inr ⟨_, _, h.cache, .inl rfl⟩
  · obtain ⟨es, clock, h1, _⟩ := h.map
    exact .inl ⟨es, clock, h1⟩
  · right
    apply nodes
    rcases hb with rfl | hb | rfl
    · simp
    · simp [hb]
    · simp
theorem InvG.lt {w : World} {base C M H T : Nat} {cap : Int} {mst st : List Ent} (h : InvG w base C M H T cap mst st) {b : Nat} (hb : b ∈ blocks C M H T st) : b < w.heap.size := by
  rcases h.kinds b hb with ⟨_, _, e⟩ | ⟨_, _, e, _⟩ <;> exact (Array.getElem?_eq_some_iff.1 e).1
def NodeOf (w : World) (x : Ent) : Prop := ∃ p q, Node w x.1 (ikey x.2.1) (ikey x.2.2) p q
theorem blocks_drop {C M H T : Nat} {A B : List Ent} {x : Ent} (h : (blocks C M H T (A ++ x :: B)).Nodup) : (blocks C M H T (A ++ B)).Nodup ∧ x.1 ∉ blocks C M H T (A ++ B) := by
  have p : (blocks C M H T (A ++ x :: B)).Perm (x.1 :: blocks C M H T (A ++ B)) := by
    unfold blocks
    simp only [List.map_append, List.map_cons]
    exact (List.perm_middle (l₁ := C :: M :: H :: A.map (·.1)) (a := x.1) (l₂ := B.map (·.1) ++ [T])) |> fun q => by simpa using q
  have h2 := p.nodup_iff.1 h
  rw [List.nodup_cons] at h2
  exact ⟨h2.2, h2.1⟩
theorem blocks_add {C M H T : Nat} {st : List Ent} {x : Ent} (h : (blocks C M H T st).Nodup) (hx : x.1 ∉ blocks C M H T st) : (blocks C M H T (x :: st)).Nodup := by
  have p : (blocks C M H T (x :: st)).Perm (x.1 :: blocks C M H T st) := by
    unfold blocks
    simp only [List.map_cons]
    exact (List.perm_middle (l₁ := [C, M, H]) (a := x.1) (l₂ := st.map (·.1) ++ [T])) |> fun q => by simpa using q
  exact p.nodup_iff.2 (List.nodup_cons.2 ⟨hx, h⟩)
theorem sub_blocks {C M H T : Nat} {A B : List Ent} {x : Ent} {b : Nat} (h : b ∈ blocks C M H T (A ++ B)) : b ∈ blocks C M H T (A ++ x :: B) := by
  rw [mem_blocks] at h ⊢
  simp only [List.map_append, List.map_cons, List.mem_append, List.mem_cons] at h ⊢
  rcases h with h | h | h | (h | h) | h <;> simp [h]
/-! remove and add, by the invariant. -/
theorem remove1 {w : World} {base C M H T : Nat} {cap : Int} {mst A B : List Ent} {x : Ent} (h : InvG w base C M H T cap mst (A ++ x :: B)) :
    Calls Try.prog 13 #[at1 C, at1 x.1, .bool true] w fun e w' => e = .returned (.tuple #[]) ∧ InvG w' base C M H T cap mst (A ++ B) ∧ NodeOf w' x ∧ w'.heap.size = w.heap.size ∧ Fr w w' (blocks C M H T (A ++ x :: B)) := by
  obtain ⟨A', a, b, B', e1, e2⟩ := chain_around H T A x B
  have hs := h.seg
  have hd := chain_apart h.nodup
  have hd2 := chain_apart2 h.nodup
  have hin : ∀ e ∈ chain H T (A ++ x :: B), e.1 ∈ blocks C M H T (A ++ x :: B) := fun e he => chain_mem he
  rw [e1] at hs hd hd2 hin
  obtain ⟨hn, ⟨pa, qa, ha⟩, ⟨pb, qb, hb⟩, han, hbn, hab, hs2⟩ := seg_unlink hs hd
  have ia := hd2 a (by simp)
  have ib := hd2 b (by simp)
  have ja := hin a (by simp)
  have jb := hin b (by simp)
  refine (remove_list C x.1 a.1 b.1 _ _ _ _ _ _ _ _ _ _ w hn ha hb han hbn hab).mono ?_
  rintro e w' ⟨rfl, q, rfl⟩
  obtain ⟨es, clock, h1, h2⟩ := h.map
  have oth : ∀ m, m ≠ a.1 → m ≠ b.1 → ((((w.setCell ⟨a.1, 3, none⟩ (at1 b.1)).setCell ⟨b.1, 2, none⟩ (at1 a.1)).drewN q).heap[m]? = w.heap[m]?) := fun m m1 m2 => (put_other _ _ _ m2).trans (put_other _ _ _ m1)
  obtain ⟨hnd, _⟩ := blocks_drop h.nodup
  refine ⟨rfl, ⟨(oth C ia.1 ib.1).trans h.cache, ⟨es, clock, (oth M ia.2 ib.2).trans h1, h2⟩, ?_, hnd, fun k hk => h.base k (sub_blocks hk)⟩, ⟨_, _, hn.move (oth _ (fun z => han z.symm) (fun z => hbn z.symm))⟩, by simp, (((Fr.refl w _).set ja 3 _).set jb 2 _).drewN q⟩
  rw [e2]
  exact hs2.move (fun e he => rfl)
theorem remove2 {w : World} {base C M H T : Nat} {cap : Int} {A B : List Ent} {x : Ent} (h : InvG w base C M H T cap (A ++ x :: B) (A ++ x :: B)) :
    Calls Try.prog 13 #[at1 C, at1 x.1, .bool false] w fun e w' => e = .returned (.tuple #[]) ∧ InvG w' base C M H T cap (A ++ B) (A ++ B) ∧ NodeOf w' x ∧ w'.heap.size = w.heap.size ∧ Fr w w' (blocks C M H T (A ++ x :: B)) := by
  obtain ⟨A', a, b, B', e1, e2⟩ := chain_around H T A x B
  have hs := h.seg
  have hd := chain_apart h.nodup
  have hd2 := chain_apart2 h.nodup
  have hin : ∀ e ∈ chain H T (A ++ x :: B), e.1 ∈ blocks C M H T (A ++ x :: B) := fun e he => chain_mem he
  rw [e1] at hs hd hd2 hin
  obtain ⟨hn, ⟨pa, qa, ha⟩, ⟨pb, qb, hb⟩, han, hbn, hab, hs2⟩ := seg_unlink hs hd
  have ia := hd2 a (by simp)
  have ib := hd2 b (by simp)
  have ix := hd2 (el x) (by simp)
  have ja := hin a (by simp)
  have jb := hin b (by simp)
  obtain ⟨es, clock, h1, h2⟩ := h.map
  obtain ⟨j, hj, hf, hp⟩ := h2.at_ (x := x) (by simp)
  have hMC := blocks_MC h.nodup
  have jM : M ∈ blocks C M H T (A ++ x :: B) := mem_blocks.2 (.inr (.inl rfl))
  refine (remove_all C M H T x.1 a.1 b.1 cap es clock (A ++ x :: B) x j _ _ _ _ _ _ _ _ _ w h.cache h1 h2 hf hn ha hb han hbn hab ix.2 ia.2 ib.2).mono ?_
  rintro e w' ⟨rfl, q, rfl⟩
  have oth : ∀ m, m ≠ M → m ≠ a.1 → m ≠ b.1 → (((((setB w M (.map (es.eraseIdxIfInBounds j) clock)).setCell ⟨a.1, 3, none⟩ (at1 b.1)).setCell ⟨b.1, 2, none⟩ (at1 a.1)).drewN q).heap[m]? = w.heap[m]?) := fun m m0 m1 m2 => ((put_other _ _ _ m2).trans (put_other _ _ _ m1)).trans (setB_other _ m0)
  obtain ⟨hnd, _⟩ := blocks_drop h.nodup
  have hM2 : ((((setB w M (.map (es.eraseIdxIfInBounds j) clock)).setCell ⟨a.1, 3, none⟩ (at1 b.1)).setCell ⟨b.1, 2, none⟩ (at1 a.1)).drewN q).heap[M]? = some (.map (es.eraseIdxIfInBounds j) clock) := ((put_other _ _ _ ib.2).trans (put_other _ _ _ ia.2)).trans (setB_self _ (Array.getElem?_eq_some_iff.1 h1).1)
  refine ⟨rfl, ⟨(oth C (fun z => hMC z.symm) ia.1 ib.1).trans h.cache, ⟨_, clock, hM2, h2.erase hj hp⟩, ?_, hnd, fun k hk => h.base k (sub_blocks hk)⟩, ⟨_, _, hn.move (oth _ (fun z => ix.2 z.symm) (fun z => han z.symm) (fun z => hbn z.symm))⟩, by simp [setB], ((((Fr.refl w _).setB jM _).set ja 3 _).set jb 2 _).drewN q⟩
  rw [e2]
  have hs3 : Seg (setB w M (.map (es.eraseIdxIfInBounds j) clock)) (.pointer none) (A' ++ [a] ++ el x :: b :: B') (.pointer none) := hs.move (fun e he => setB_other _ (fun z => (hd2 e he).2 z.symm))
  obtain ⟨_, _, _, _, _, _, hs4⟩ := seg_unlink hs3 hd
  exact hs4.move (fun e he => rfl)
theorem add1 {w : World} {base C M H T : Nat} {cap : Int} {mst st : List Ent} {x : Ent} (h : InvG w base C M H T cap mst st) (hx : NodeOf w x) (hx1 : x.1 ∉ blocks C M H T st) (hx2 : base ≤ x.1) :
    Calls Try.prog 14 #[at1 C, at1 x.1, .bool true] w fun e w' => e = .returned (.tuple #[]) ∧ InvG w' base C M H T cap mst (x :: st) ∧ w'.heap.size = w.heap.size ∧ Fr w w' (x.1 :: blocks C M H T st) := by
  obtain ⟨b, B, e1, e2⟩ := chain_first H T st
  have hnd := blocks_add h.nodup hx1
  have hs := h.seg
  have hd := chain_apart hnd
  have hd2 := chain_apart2 hnd
  have hin : ∀ e ∈ chain H T st, e.1 ∈ blocks C M H T st := fun e he => chain_mem he
  rw [e1] at hd hd2
  rw [e2] at hs hin
  obtain ⟨p, q0, hn⟩ := hx
  obtain ⟨hh, ⟨pb, qb, hb⟩, hhn, hbn, hhb, hs2⟩ := seg_link (n := el x) hs hn hd
  have ih := hd2 (ends H) (by simp)
  have ib := hd2 b (by simp)
  have ix := hd2 (el x) (by simp)
  have jh := List.mem_cons_of_mem x.1 (hin (ends H) (by simp))
  have jb := List.mem_cons_of_mem x.1 (hin b (by simp))
  refine (add_list C M H T x.1 b.1 cap _ _ _ _ _ _ _ _ _ _ _ w h.cache hn hh hb hhn hbn hhb ix.1 ib.1 ih.1).mono ?_
  rintro e w' ⟨rfl, q, rfl⟩
  obtain ⟨es, clock, h1, h2⟩ := h.map
  have oth : ∀ m, m ≠ H → m ≠ b.1 → m ≠ x.1 → ((((((w.setCell ⟨H, 3, none⟩ (at1 x.1)).setCell ⟨b.1, 2, none⟩ (at1 x.1)).setCell ⟨x.1, 3, none⟩ (at1 b.1)).setCell ⟨x.1, 2, none⟩ (at1 H)).drewN q).heap[m]? = w.heap[m]?) := fun m m1 m2 m3 => ((put_other _ _ _ m3).trans (put_other _ _ _ m3)).trans ((put_other _ _ _ m2).trans (put_other _ _ _ m1))
  refine ⟨rfl, ⟨(oth C ih.1 ib.1 ix.1).trans h.cache, ⟨es, clock, (oth M ih.2 ib.2 ix.2).trans h1, h2⟩, ?_, hnd, ?_⟩, by simp, (((((Fr.refl w _).set jh 3 _).set jb 2 _).set (List.mem_cons_self ..) 3 _).set (List.mem_cons_self ..) 2 _).drewN q⟩
  · rw [e1]
    exact hs2.move (fun e he => rfl)
  · intro k hk
    rw [mem_blocks, List.map_cons, List.mem_cons] at hk
    rcases hk with hk | hk | hk | (hk | hk) | hk
    · exact h.base k (mem_blocks.2 (.inl hk))
    · exact h.base k (mem_blocks.2 (.inr (.inl hk)))
    · exact h.base k (mem_blocks.2 (.inr (.inr (.inl hk))))
    · rw [hk]; exact hx2
    · exact h.base k (mem_blocks.2 (.inr (.inr (.inr (.inl hk)))))
    · exact h.base k (mem_blocks.2 (.inr (.inr (.inr (.inr hk)))))
set_option maxHeartbeats 4000000 in
theorem add2 {w : World} {base C M H T : Nat} {cap : Int} {st : List Ent} {x : Ent} (h : InvG w base C M H T cap st st) (hx : NodeOf w x) (hx1 : x.1 ∉ blocks C M H T st) (hx2 : base ≤ x.1) (hk : ∀ y ∈ st, y.2.1 ≠ x.2.1) :
    Calls Try.prog 14 #[at1 C, at1 x.1, .bool false] w fun e w' => e = .returned (.tuple #[]) ∧ InvG w' base C M H T cap (x :: st) (x :: st) ∧ w'.heap.size = w.heap.size ∧ Fr w w' (x.1 :: blocks C M H T st) := by
  obtain ⟨b, B, e1, e2⟩ := chain_first H T st
  have hnd := blocks_add h.nodup hx1
  have hs := h.seg
  have hd := chain_apart hnd
  have hd2 := chain_apart2 hnd
  have hin : ∀ e ∈ chain H T st, e.1 ∈ blocks C M H T st := fun e he => chain_mem he
  rw [e1] at hd hd2
  rw [e2] at hs hin
  obtain ⟨p, q0, hn⟩ := hx
  obtain ⟨hh, ⟨pb, qb, hb⟩, hhn, hbn, hhb, _⟩ := seg_link (n := el x) hs hn hd
  have ih := hd2 (ends H) (by simp)
  have ib := hd2 b (by simp)
  have ix := hd2 (el x) (by simp)
  have jh := List.mem_cons_of_mem x.1 (hin (ends H) (by simp))
  have jb := List.mem_cons_of_mem x.1 (hin b (by simp))
  have jM : M ∈ x.1 :: blocks C M H T st := List.mem_cons_of_mem _ (mem_blocks.2 (.inr (.inl rfl)))
  have hMC := blocks_MC h.nodup
  obtain ⟨es, clock, h1, h2⟩ := h.map
  refine (add_all C M H T x.1 b.1 cap es clock st x.2.1 _ _ _ _ _ _ _ _ _ _ w h.cache h1 h2 hk hn hh hb hhn hbn hhb ix.1 ib.1 ih.1 ix.2 ib.2 ih.2 hMC).mono ?_
  rintro e w' ⟨rfl, q, rfl⟩
  have oth : ∀ m, m ≠ M → m ≠ H → m ≠ b.1 → m ≠ x.1 → (((((((setB w M (.map (es.push ⟨ikey x.2.1, at1 x.1, clock⟩) (clock + 1))).setCell ⟨H, 3, none⟩ (at1 x.1)).setCell ⟨b.1, 2, none⟩ (at1 x.1)).setCell ⟨x.1, 3, none⟩ (at1 b.1)).setCell ⟨x.1, 2, none⟩ (at1 H)).drewN q).heap[m]? = w.heap[m]?) := fun m m0 m1 m2 m3 => (((put_other _ _ _ m3).trans (put_other _ _ _ m3)).trans ((put_other _ _ _ m2).trans (put_other _ _ _ m1))).trans (setB_other _ m0)
  have hM2 : ((((((setB w M (.map (es.push ⟨ikey x.2.1, at1 x.1, clock⟩) (clock + 1))).setCell ⟨H, 3, none⟩ (at1 x.1)).setCell ⟨b.1, 2, none⟩ (at1 x.1)).setCell ⟨x.1, 3, none⟩ (at1 b.1)).setCell ⟨x.1, 2, none⟩ (at1 H)).drewN q).heap[M]? = some (.map (es.push ⟨ikey x.2.1, at1 x.1, clock⟩) (clock + 1)) := (((put_other _ _ _ ix.2).trans (put_other _ _ _ ix.2)).trans ((put_other _ _ _ ib.2).trans (put_other _ _ _ ih.2))).trans (setB_self _ (Array.getElem?_eq_some_iff.1 h1).1)
  refine ⟨rfl, ⟨(oth C (fun z => hMC z.symm) ih.1 ib.1 ix.1).trans h.cache, ⟨_, _, hM2, h2.push hk clock⟩, ?_, hnd, ?_⟩, by simp [setB], ((((((Fr.refl w _).setB jM _).set jh 3 _).set jb 2 _).set (List.mem_cons_self ..) 3 _).set (List.mem_cons_self ..) 2 _).drewN q⟩
  · rw [e1]
    have hs3 : Seg (setB w M (.map (es.push ⟨ikey x.2.1, at1 x.1, clock⟩) (clock + 1))) (.pointer none) (ends H :: b :: B) (.pointer none) := hs.move (fun e he => setB_other _ (fun z => (hd2 e (by simp only [List.mem_cons] at he ⊢; rcases he with he | he | he <;> simp [he])).2 z.symm))
    obtain ⟨_, _, _, _, _, hs4⟩ := seg_link (n := el x) hs3 (hn.move (setB_other _ (fun z => ix.2 z.symm))) hd
    exact hs4.move (fun e he => rfl)
  · intro k hk
    rw [mem_blocks, List.map_cons, List.mem_cons] at hk
    rcases hk with hk | hk | hk | (hk | hk) | hk
    · exact h.base k (mem_blocks.2 (.inl hk))
    · exact h.base k (mem_blocks.2 (.inr (.inl hk)))
    · exact h.base k (mem_blocks.2 (.inr (.inr (.inl hk))))
    · rw [hk]; exact hx2
    · exact h.base k (mem_blocks.2 (.inr (.inr (.inr (.inl hk)))))
    · exact h.base k (mem_blocks.2 (.inr (.inr (.inr (.inr hk)))))
theorem InvG.node {w : World} {base C M H T : Nat} {cap : Int} {mst st : List Ent} (h : InvG w base C M H T cap mst st) {x : Ent} (hx : x ∈ st) : NodeOf w x := by
  obtain ⟨p, q, hn⟩ := h.seg.node (el x) (by unfold chain; simp only [List.mem_cons, List.mem_append, List.cons_append]; exact .inr (.inl (List.mem_map_of_mem hx)))
  exact ⟨p, q, hn⟩
theorem InvG.value {w : World} {base C M H T : Nat} {cap : Int} {mst st : List Ent} (h : InvG w base C M H T cap mst st) {x : Ent} (hx : x ∈ st) : w.cell? ⟨x.1, 1, none⟩ = some (ikey x.2.2) := by
  obtain ⟨p, q, hn⟩ := h.node hx
  exact hn.c1
set_option maxHeartbeats 4000000 in
set_option maxRecDepth 100000 in
/-- moveToHead -/
theorem moveHead {w : World} {base C M H T : Nat} {cap : Int} {mst A B : List Ent} {x : Ent} (h : InvG w base C M H T cap mst (A ++ x :: B)) :
    Calls Try.prog 15 #[at1 C, at1 x.1] w fun e w' => e = .returned (.tuple #[]) ∧ InvG w' base C M H T cap mst (x :: (A ++ B)) ∧ w'.heap.size = w.heap.size ∧ Fr w w' (blocks C M H T (A ++ x :: B)) := by
  obtain ⟨_, hx1⟩ := blocks_drop h.nodup
  have hx2 : base ≤ x.1 := h.base _ (mem_blocks.2 (.inr (.inr (.inr (.inl (by simp))))))
  have hxm : x.1 ∈ blocks C M H T (A ++ x :: B) := mem_blocks.2 (.inr (.inr (.inr (.inl (by simp)))))
  go_enter Try.func15, Try.ntmps15
  go_wp2_with (first
    | ((with_reducible refine gate_callee (f := 13) rfl ?_); refine goesL_ _ rfl rfl Try.func13 (by kernel_rfl) rfl #[at1 C, at1 x.1, .bool true] rfl (by (try simp only [List.map_toArray, List.map_cons, List.map_nil]); first | done | rfl) ?_; (with_reducible refine (remove1 h).mono ?_); rintro e w1 ⟨rfl, h1, hx, hz1, hF1⟩; refine ⟨_, rfl, ?_⟩)
    | ((with_reducible refine gate_callee (f := 14) rfl ?_); refine goesL_ _ rfl rfl Try.func14 (by kernel_rfl) rfl #[at1 C, at1 x.1, .bool true] rfl (by (try simp only [List.map_toArray, List.map_cons, List.map_nil]); first | done | rfl) ?_; (with_reducible refine (add1 h1 hx hx1 hx2).mono ?_); rintro e w2 ⟨rfl, h2, hz2, hF2⟩; refine ⟨_, rfl, ?_⟩))
  refine bodyPost_end (v := .tuple #[]) (results_none rfl _ _ _) (by rfl) ?_
  refine ⟨rfl, h2, hz2.trans hz1, hF1.trans (hF2.mono ?_)⟩
  intro k hk
  rcases List.mem_cons.1 hk with rfl | hk
  · exact hxm
  · exact sub_blocks hk
set_option maxHeartbeats 4000000 in
set_option maxRecDepth 100000 in
/-- Get: a key that is there -/
theorem get_some {w : World} {base C M H T : Nat} {cap : Int} {A B : List Ent} {x : Ent} (h : InvG w base C M H T cap (A ++ x :: B) (A ++ x :: B)) :
    Calls Try.prog 12 #[at1 C, ikey x.2.1] w fun e w' => e = .returned (.tuple #[ikey x.2.2, .bool true]) ∧ InvG w' base C M H T cap (x :: (A ++ B)) (x :: (A ++ B)) ∧ w'.heap.size = w.heap.size ∧ Fr w w' (blocks C M H T (A ++ x :: B)) := by
  obtain ⟨es, clock, hM, hst⟩ := h.map
  have c1 := h.cache.c.2.1
  have hlk := run_lookup_some hM hst (x := x) (by simp)
  have hmv := moveHead h
  unfold at1 at *
  go_enter Try.func12, Try.ntmps12
  go_wp2_with (first
    | ((with_reducible refine gate_callee (f := 15) rfl ?_); refine goesL_ _ rfl rfl Try.func15 (by kernel_rfl) rfl #[.pointer (some ⟨C, 0, none⟩), .pointer (some ⟨x.1, 0, none⟩)] rfl (by (try simp only [List.map_toArray, List.map_cons, List.map_nil]); first | done | rfl) ?_; (with_reducible refine hmv.mono ?_); rintro e w2 ⟨rfl, h2, hz2, hF2⟩; have fv := (h2.value (x := x) (List.mem_cons_self ..)); refine ⟨_, rfl, ?_⟩))
  all_goals go_ret2
  all_goals exact ⟨rfl, h2.perm List.perm_middle, hz2, hF2⟩
set_option maxHeartbeats 4000000 in
set_option maxRecDepth 100000 in
/-- Get: a key that is not -/
theorem get_none {w : World} {base C M H T : Nat} {cap : Int} {st : List Ent} (h : InvG w base C M H T cap st st) {k : Int} (hk : ∀ x ∈ st, x.2.1 ≠ k) :
    Calls Try.prog 12 #[at1 C, ikey k] w fun e w' => e = .returned (.tuple #[.nilIface, .bool false]) ∧ ∃ q, w' = w.drewN q := by
  obtain ⟨es, clock, hM, hst⟩ := h.map
  have c1 := h.cache.c.2.1
  have hlk := run_lookup_none hM hst hk
  unfold at1 at *
  go_enter Try.func12, Try.ntmps12
  go_wp2
  all_goals go_ret2
  all_goals exact ⟨rfl, 0, rfl⟩
set_option maxHeartbeats 4000000 in
set_option maxRecDepth 100000 in
/-- Put: a key that is there -/
theorem put_some {w : World} {base C M H T : Nat} {cap : Int} {A B : List Ent} {x : Ent} (h : InvG w base C M H T cap (A ++ x :: B) (A ++ x :: B)) (v : Value) :
    Calls Try.prog 11 #[at1 C, ikey x.2.1, v] w fun e w' => e = .returned (.tuple #[]) ∧ InvG w' base C M H T cap (x :: (A ++ B)) (x :: (A ++ B)) ∧ w'.heap.size = w.heap.size ∧ Fr w w' (blocks C M H T (A ++ x :: B)) := by
  obtain ⟨es, clock, hM, hst⟩ := h.map
  have c1 := h.cache.c.2.1
  have hlk := run_lookup_some hM hst (x := x) (by simp)
  have hrm := remove2 h
  have hd := blocks_drop h.nodup
  have hx2 : base ≤ x.1 := h.base _ (mem_blocks.2 (.inr (.inr (.inr (.inl (by simp))))))
  have hxm : x.1 ∈ blocks C M H T (A ++ x :: B) := mem_blocks.2 (.inr (.inr (.inr (.inl (by simp)))))
  have hk : ∀ y ∈ A ++ B, y.2.1 ≠ x.2.1 := by
    have hn := hst.2
    rw [List.map_append, List.map_cons] at hn
    have h2 := (List.nodup_cons.1 (List.perm_middle.nodup_iff.1 hn)).1
    intro y hy e
    apply h2
    rw [← List.map_append, ← e]
    exact List.mem_map_of_mem (f := fun x : Ent => x.2.1) hy
  unfold at1 at *
  go_enter Try.func11, Try.ntmps11
  go_wp2_with (first
    | ((with_reducible refine gate_callee (f := 13) rfl ?_); refine goesL_ _ rfl rfl Try.func13 (by kernel_rfl) rfl #[.pointer (some ⟨C, 0, none⟩), .pointer (some ⟨x.1, 0, none⟩), .bool false] rfl (by (try simp only [List.map_toArray, List.map_cons, List.map_nil]); first | done | rfl) ?_; (with_reducible refine hrm.mono ?_); rintro e w1 ⟨rfl, h1, hx, hz1, hF1⟩; have had := add2 h1 hx hd.2 hx2 hk; unfold at1 at had; refine ⟨_, rfl, ?_⟩)
    | ((with_reducible refine gate_callee (f := 14) rfl ?_); refine goesL_ _ rfl rfl Try.func14 (by kernel_rfl) rfl #[.pointer (some ⟨C, 0, none⟩), .pointer (some ⟨x.1, 0, none⟩), .bool false] rfl (by (try simp only [List.map_toArray, List.map_cons, List.map_nil]); first | done | rfl) ?_; (with_reducible refine had.mono ?_); rintro e w2 ⟨rfl, h2, hz2, hF2⟩; refine ⟨_, rfl, ?_⟩))
  refine bodyPost_end (v := .tuple #[]) (results_none rfl _ _ _) (by rfl) ?_
  refine ⟨rfl, h2, hz2.trans hz1, hF1.trans (hF2.mono ?_)⟩
  intro k hk
  rcases List.mem_cons.1 hk with rfl | hk
  · exact hxm
  · exact sub_blocks hk
/-- the last one -/
theorem InvG.tail {w : World} {base C M H T : Nat} {cap : Int} {mst A : List Ent} {x : Ent} (h : InvG w base C M H T cap mst (A ++ [x])) : w.cell? ⟨T, 2, none⟩ = some (at1 x.1) := by
  have hs := h.seg
  have e : chain H T (A ++ [x]) = ends H :: A.map el ++ [el x] ++ [ends T] := by unfold chain; simp
  rw [e, seg_append, lst_snoc] at hs
  exact hs.2.1.c2
theorem InvG.alloc {w : World} {base C M H T : Nat} {cap : Int} {mst st : List Ent} (h : InvG w base C M H T cap mst st) (o : Obj) : InvG (w.alloc o) base C M H T cap mst st :=
  h.move (fun b hb => Below.heap_alloc w o b (h.lt hb))
theorem fresh {w : World} {base C M H T : Nat} {cap : Int} {mst st : List Ent} (h : InvG w base C M H T cap mst st) : w.heap.size ∉ blocks C M H T st := fun z => Nat.lt_irrefl _ (h.lt z)
def nodeObj (k v : Int) : Obj := .cells #[ikey k, ikey v, .pointer none, .pointer none] 46 (0, 0)
theorem node_new (w : World) (k v : Int) : NodeOf (w.alloc (nodeObj k v)) (w.heap.size, k, v) := ⟨.pointer none, .pointer none, (MapKept.heap_alloc w _).1⟩
theorem Fr.alloc {a b : World} {bs : List Nat} (h : Fr a b bs) (o : Obj) : Fr a (b.alloc o) bs :=
  ⟨h.os, h.tape, h.output, by have := h.size; simp; omega, fun k hk hn => (Below.heap_alloc b o k (Nat.lt_of_lt_of_le hk h.size)).trans (h.block k hk hn)⟩
set_option maxHeartbeats 4000000 in
set_option maxRecDepth 100000 in
/-- Put: a new key, with room -/
theorem put_new {w : World} {base C M H T : Nat} {cap : Int} {st : List Ent} {k : Int} (h : InvG w base C M H T cap st st) (hB : base ≤ w.heap.size) (hk : ∀ x ∈ st, x.2.1 ≠ k) (hcap : (st.length : Int) < cap) (v : Int) :
    Calls Try.prog 11 #[at1 C, ikey k, ikey v] w fun e w' => e = .returned (.tuple #[]) ∧ (∃ n : Nat, InvG w' base C M H T cap ((n, k, v) :: st) ((n, k, v) :: st)) ∧ Fr w w' (blocks C M H T st) := by
  obtain ⟨es, clock, hM, hst⟩ := h.map
  have c1 := h.cache.c.2.1
  have hlk := run_lookup_none hM hst hk
  have h1 := h.alloc (nodeObj k v)
  have d1 := h1.cache.c.2.1
  have d0 := h1.cache.c.1
  have hM1 : (w.alloc (nodeObj k v)).heap[M]? = some (.map es clock) := (Below.heap_alloc w _ M (Array.getElem?_eq_some_iff.1 hM).1).trans hM
  have hsz := hst.size
  have had := add2 (x := (w.heap.size, k, v)) (h1.move (w' := (w.alloc (nodeObj k v)).drew) (fun _ _ => rfl)) (by obtain ⟨a, b, n⟩ := node_new w k v; exact ⟨a, b, n⟩) (fresh h) hB hk
  have hlen : (Builtin.len_ #[41] 3 #[.map (some M)]).run Try.prog (w.alloc (nodeObj k v)).drew = .ok (.int .i64 (st.length : Int)) (w.alloc (nodeObj k v)).drew := by
    have hq : (w.alloc (nodeObj k v)).drew.heap[M]? = some (.map es clock) := hM1
    simp [Builtin.len_, run_underlying Try.underlying41, MapKept.run_getObj_map hq, goInt, Result.andThen, hsz]
  unfold nodeObj at1 ikey at *
  go_enter Try.func11, Try.ntmps11
  go_wp2
  go_region
  all_goals go_wp2_with (first
    | ((with_reducible refine gate_callee (f := 14) rfl ?_); refine goesL_ _ rfl rfl Try.func14 (by kernel_rfl) rfl #[.pointer (some ⟨C, 0, none⟩), .pointer (some ⟨w.heap.size, 0, none⟩), .bool false] rfl (by (try simp only [List.map_toArray, List.map_cons, List.map_nil]); first | done | rfl) ?_; (with_reducible refine had.mono ?_); rintro e w2 ⟨rfl, h2, hz2, hF2⟩; refine ⟨_, rfl, ?_⟩))
  refine bodyPost_end (v := .tuple #[]) (results_none rfl _ _ _) (by rfl) ?_
  refine ⟨rfl, ⟨_, h2⟩, (((Fr.refl w _).alloc _).drewN 1).trans_new hF2 ?_⟩
  intro y hy
  rcases List.mem_cons.1 hy with rfl | hy
  · exact .inr (Nat.le_refl _)
  · exact .inl hy
set_option maxHeartbeats 4000000 in
set_option maxRecDepth 100000 in
/-- Put: a new key, without room -/
theorem put_full {w : World} {base C M H T : Nat} {cap : Int} {A : List Ent} {x : Ent} {k : Int} (h : InvG w base C M H T cap (A ++ [x]) (A ++ [x])) (hB : base ≤ w.heap.size) (hk : ∀ y ∈ A ++ [x], y.2.1 ≠ k) (hcap : cap ≤ ((A.length : Int) + 1)) (v : Int) :
    Calls Try.prog 11 #[at1 C, ikey k, ikey v] w fun e w' => e = .returned (.tuple #[]) ∧ (∃ n : Nat, InvG w' base C M H T cap ((n, k, v) :: A) ((n, k, v) :: A)) ∧ Fr w w' (blocks C M H T (A ++ [x])) := by
  obtain ⟨es, clock, hM, hst⟩ := h.map
  have c1 := h.cache.c.2.1
  have hlk := run_lookup_none hM hst hk
  have h1 := h.alloc (nodeObj k v)
  have d1 := h1.cache.c.2.1
  have d0 := h1.cache.c.1
  have hM1 : (w.alloc (nodeObj k v)).heap[M]? = some (.map es clock) := (Below.heap_alloc w _ M (Array.getElem?_eq_some_iff.1 hM).1).trans hM
  have hsz := hst.size
  have hsz2 : (es.size : Int) = (A.length : Int) + 1 := by rw [hsz]; simp
  have hI : InvG (w.alloc (nodeObj k v)).drew base C M H T cap (A ++ x :: []) (A ++ x :: []) := h1.move (fun _ _ => rfl)
  have dT := h1.tail
  have d3 := h1.cache.c.2.2.2
  have hrm := remove2 hI
  have hfr := fresh h
  have hkA : ∀ y ∈ A ++ [], y.2.1 ≠ k := fun y hy => hk y (by simp at hy; simp [hy])
  have had : ∀ w1, InvG w1 base C M H T cap (A ++ []) (A ++ []) → Fr (w.alloc (nodeObj k v)).drew w1 (blocks C M H T (A ++ x :: [])) → Calls Try.prog 14 #[at1 C, at1 w.heap.size, .bool false] w1 fun e w' => e = .returned (.tuple #[]) ∧ InvG w' base C M H T cap ((w.heap.size, k, v) :: (A ++ [])) ((w.heap.size, k, v) :: (A ++ [])) ∧ w'.heap.size = w1.heap.size ∧ Fr w1 w' (w.heap.size :: blocks C M H T (A ++ [])) := by
    intro w1 hi hf
    refine add2 (x := (w.heap.size, k, v)) hi ?_ (fun z => hfr (sub_blocks z)) hB hkA
    obtain ⟨a, b, n⟩ := node_new w k v
    exact ⟨a, b, n.move (hf.block _ (by show w.heap.size < (w.alloc (nodeObj k v)).heap.size; simp) hfr)⟩
  have hlen : (Builtin.len_ #[41] 3 #[.map (some M)]).run Try.prog (w.alloc (nodeObj k v)).drew = .ok (.int .i64 ((A.length : Int) + 1)) (w.alloc (nodeObj k v)).drew := by
    have hq : (w.alloc (nodeObj k v)).drew.heap[M]? = some (.map es clock) := hM1
    simp [Builtin.len_, run_underlying Try.underlying41, MapKept.run_getObj_map hq, goInt, Result.andThen, hsz2]
  unfold nodeObj at1 ikey at *
  go_enter Try.func11, Try.ntmps11
  go_wp2
  go_region
  all_goals go_wp2_with (first
    | ((with_reducible refine gate_callee (f := 13) rfl ?_); refine goesL_ _ rfl rfl Try.func13 (by kernel_rfl) rfl #[.pointer (some ⟨C, 0, none⟩), .pointer (some ⟨x.1, 0, none⟩), .bool false] rfl (by (try simp only [List.map_toArray, List.map_cons, List.map_nil]); first | done | rfl) ?_; (with_reducible refine hrm.mono ?_); rintro e w1 ⟨rfl, h1, hx, hz1, hF1⟩; have had2 := had w1 h1 hF1; refine ⟨_, rfl, ?_⟩)
    | ((with_reducible refine gate_callee (f := 14) rfl ?_); refine goesL_ _ rfl rfl Try.func14 (by kernel_rfl) rfl #[.pointer (some ⟨C, 0, none⟩), .pointer (some ⟨w.heap.size, 0, none⟩), .bool false] rfl (by (try simp only [List.map_toArray, List.map_cons, List.map_nil]); first | done | rfl) ?_; (with_reducible refine had2.mono ?_); rintro e w2 ⟨rfl, h2, hz2, hF2⟩; refine ⟨_, rfl, ?_⟩))
  refine bodyPost_end (v := .tuple #[]) (results_none rfl _ _ _) (by rfl) ?_
  refine ⟨rfl, ⟨w.heap.size, by simpa using h2⟩, ((((Fr.refl w _).alloc _).drewN 1).trans hF1).trans_new hF2 ?_⟩
  intro y hy
  rcases List.mem_cons.1 hy with rfl | hy
  · exact .inr (Nat.le_refl _)
  · exact .inl (sub_blocks hy)
theorem four (w : World) (o0 o1 o2 o3 : Obj) : ((((w.alloc o0).alloc o1).alloc o2).alloc o3).heap[w.heap.size]? = some o0 ∧ ((((w.alloc o0).alloc o1).alloc o2).alloc o3).heap[w.heap.size + 1]? = some o1 ∧ ((((w.alloc o0).alloc o1).alloc o2).alloc o3).heap[w.heap.size + 1 + 1]? = some o2 ∧ ((((w.alloc o0).alloc o1).alloc o2).alloc o3).heap[w.heap.size + 1 + 1 + 1]? = some o3 := by
  have s0 : (w.alloc o0).heap.size = w.heap.size + 1 := World.size_alloc _ _
  have s1 : ((w.alloc o0).alloc o1).heap.size = w.heap.size + 1 + 1 := (World.size_alloc _ _).trans (by rw [s0])
  have s2 : (((w.alloc o0).alloc o1).alloc o2).heap.size = w.heap.size + 1 + 1 + 1 := (World.size_alloc _ _).trans (by rw [s1])
  have a0 := (MapKept.heap_alloc w o0).1
  have a1 := (MapKept.heap_alloc (w.alloc o0) o1).1
  have a2 := (MapKept.heap_alloc ((w.alloc o0).alloc o1) o2).1
  have a3 := (MapKept.heap_alloc (((w.alloc o0).alloc o1).alloc o2) o3).1
  rw [s0] at a1
  rw [s1] at a2
  rw [s2] at a3
  refine ⟨?_, ?_, ?_, a3⟩
  · exact (Below.heap_alloc _ o3 _ (by omega)).trans ((Below.heap_alloc _ o2 _ (by omega)).trans ((Below.heap_alloc _ o1 _ (by omega)).trans a0))
  · exact (Below.heap_alloc _ o3 _ (by omega)).trans ((Below.heap_alloc _ o2 _ (by omega)).trans a1)
  · exact (Below.heap_alloc _ o3 _ (by omega)).trans a2
theorem run_mkMap (w : World) : (Instr.makeMap 41 none).run Try.prog w = .ok (.map (some w.heap.size)) (w.alloc (.map #[] 0)) := by
  simp [Instr.makeMap, Result.andThen]
set_option maxHeartbeats 4000000 in
set_option maxRecDepth 100000 in
/-- NewLRUCache -/
theorem new_cache (w : World) (cap : Int) :
    Calls Try.prog 10 #[.int .i64 cap] w fun e w' => ∃ C M H T, e = .returned (at1 C) ∧ InvG w' w.heap.size C M H T cap [] [] ∧ Fr w w' [] := by
  have hmk := fun w => run_mkMap w
  unfold at1
  go_enter Try.func10, Try.ntmps10
  go_wp2
  all_goals go_ret
  all_goals refine ⟨w.heap.size, w.heap.size + 1, w.heap.size + 1 + 1, w.heap.size + 1 + 1 + 1, rfl, ?_, ((((Fr.refl w _).alloc _).alloc _).alloc _).alloc _⟩
  all_goals obtain ⟨e0, e1, e2, e3⟩ := four w _ _ _ _
  all_goals refine ⟨e0, ⟨_, _, e1, List.Perm.refl _, List.nodup_nil⟩, ⟨e2, e3, trivial⟩, ?_, ?_⟩
  · simp [blocks]; omega
  · intro b hb
    simp [blocks] at hb
    omega
/-! Put and Get, by the plain list. -/
theorem InvG.keys {w : World} {base C M H T : Nat} {cap : Int} {st st' : List Ent} (h : InvG w base C M H T cap st st') : ((kvOf st).map (·.1)).Nodup := by
  obtain ⟨_, _, _, h2⟩ := h.map
  have := h2.2
  unfold kvOf
  rw [List.map_map]
  exact this
theorem kvOf_split (A : List Ent) (x : Ent) (B : List Ent) : kvOf (A ++ x :: B) = kvOf A ++ x.2 :: kvOf B := by simp [kvOf]
theorem put_all {w : World} {base C M H T : Nat} {cap : Int} {st : List Ent} (h : InvG w base C M H T cap st st) (hB : base ≤ w.heap.size) (hc : 1 ≤ cap) (k v : Int) :
    Calls Try.prog 11 #[at1 C, ikey k, ikey v] w fun e w' => e = .returned (.tuple #[]) ∧ (∃ st', InvG w' base C M H T cap st' st' ∧ kvOf st' = putL cap (kvOf st) k v) ∧ Fr w w' (blocks C M H T st) := by
  cases hh : hasL k (kvOf st) with
  | true =>
    obtain ⟨A, x, B, rfl, rfl⟩ := st_split hh
    refine (put_some h (ikey v)).mono ?_
    rintro e w' ⟨rfl, h2, _, hF⟩
    refine ⟨rfl, ⟨_, h2, ?_⟩, hF⟩
    have hn := h.keys
    unfold putL
    rw [if_pos hh, kvOf_split]
    rw [kvOf_split] at hn
    rw [mvL_split hn]
    simp [kvOf]
  | false =>
    have hk : ∀ x ∈ st, x.2.1 ≠ k := fun x hx => hasL_false hh x.2 (List.mem_map_of_mem (f := fun x : Ent => x.2) hx)
    have hlen : (kvOf st).length = st.length := by simp [kvOf]
    by_cases hf : cap ≤ (st.length : Int)
    · have hne : st ≠ [] := by rintro rfl; simp at hf; omega
      obtain ⟨A, x, rfl⟩ : ∃ A x, st = A ++ [x] := ⟨_, _, (List.dropLast_concat_getLast hne).symm⟩
      refine (put_full h hB hk (by simp at hf; exact hf) v).mono ?_
      rintro e w' ⟨rfl, ⟨n, h2⟩, hF⟩
      refine ⟨rfl, ⟨_, h2, ?_⟩, hF⟩
      unfold putL
      rw [if_neg (by rw [hh]; simp), hlen, if_pos hf]
      simp [kvOf]
    · refine (put_new h hB hk (by omega) v).mono ?_
      rintro e w' ⟨rfl, ⟨n, h2⟩, hF⟩
      refine ⟨rfl, ⟨_, h2, ?_⟩, hF⟩
      unfold putL
      rw [if_neg (by rw [hh]; simp), hlen, if_neg hf]
      simp [kvOf]
theorem gotL_some_has {k v : Int} {l : List (Int × Int)} (h : gotL k l = some v) : hasL k l = true := by
  cases hh : hasL k l with
  | true => rfl
  | false => rw [gotL_none hh] at h; cases h
theorem gotL_none_has {k : Int} {l : List (Int × Int)} (h : gotL k l = none) : hasL k l = false := by
  cases hh : hasL k l with
  | false => rfl
  | true =>
    unfold gotL at h
    unfold hasL at hh
    rw [Option.map_eq_none_iff, List.find?_eq_none] at h
    rw [List.any_eq_true] at hh
    obtain ⟨p, hp, hk⟩ := hh
    exact absurd hk (h p hp)
theorem get_have {w : World} {base C M H T : Nat} {cap : Int} {st : List Ent} (h : InvG w base C M H T cap st st) {k v : Int} (hg : gotL k (kvOf st) = some v) :
    Calls Try.prog 12 #[at1 C, ikey k] w fun e w' => e = .returned (.tuple #[ikey v, .bool true]) ∧ (∃ st', InvG w' base C M H T cap st' st' ∧ kvOf st' = mvL k (kvOf st)) ∧ Fr w w' (blocks C M H T st) := by
  obtain ⟨A, x, B, rfl, rfl⟩ := st_split (gotL_some_has hg)
  have hn := h.keys
  rw [kvOf_split] at hn
  have hv : x.2.2 = v := by
    rw [kvOf_split, gotL_split hn] at hg
    exact Option.some.inj hg
  subst hv
  refine (get_some h).mono ?_
  rintro e w' ⟨rfl, h2, _, hF⟩
  refine ⟨rfl, ⟨_, h2, ?_⟩, hF⟩
  rw [kvOf_split, mvL_split hn]
  simp [kvOf]
theorem get_not {w : World} {base C M H T : Nat} {cap : Int} {st : List Ent} (h : InvG w base C M H T cap st st) {k : Int} (hg : gotL k (kvOf st) = none) :
    Calls Try.prog 12 #[at1 C, ikey k] w fun e w' => e = .returned (.tuple #[.nilIface, .bool false]) ∧ ∃ q, w' = w.drewN q :=
  get_none h (fun x hx => hasL_false (gotL_none_has hg) x.2 (List.mem_map_of_mem (f := fun x : Ent => x.2) hx))
/-! The row of answers beside the cache. -/
theorem apart_out {w : World} {base C M H T : Nat} {cap : Int} {mst st : List Ent} {b : Nat} {ok : Nat → Prop} {v : Value} {xs : List S32} (h : InvG w base C M H T cap mst st) (hR : Kd.R k32 32 w b ok v xs) : ∀ k ∈ blocks C M H T st, some k ≠ v.ownBlock := by
  intro k hk e
  obtain ⟨cells, hc⟩ := Kd.R_typed hR k e.symm
  rcases h.kinds k hk with ⟨es, clock, h2⟩ | ⟨cs, t, h2, h3⟩
  · rw [hc] at h2; cases h2
  · rw [hc] at h2
    injection h2 with h2
    injection h2 with _ h2 _
    rcases h3 with h3 | h3 <;> rw [h3] at h2 <;> exact absurd h2 (by decide)
theorem out_stays {w w' : World} {base C M H T : Nat} {cap : Int} {mst st : List Ent} {b : Nat} {ok : Nat → Prop} {v : Value} {xs : List S32} (h : InvG w base C M H T cap mst st) (hR : Kd.R k32 32 w b ok v xs) (hF : Fr w w' (blocks C M H T st)) : Kd.R k32 32 w' b (fun _ => True) v xs :=
  Kd.R_mono (Kd.R_step (Kd.R_tight rfl hR) (fun k hk hlt => hF.block k hlt (fun z => apart_out h hR k z hk))) (fun _ _ => trivial)
theorem cache_stays {w w' : World} {base C M H T : Nat} {cap : Int} {mst st : List Ent} {b : Nat} {ok : Nat → Prop} {v : Value} {xs : List S32} (h : InvG w base C M H T cap mst st) (hR : Kd.R k32 32 w b ok v xs) (hg : w.grownBy w' v.ownBlock) : InvG w' base C M H T cap mst st :=
  h.move (fun k hk => hg.block k (h.lt hk) (apart_out h hR k hk))
theorem ta_nil (w : World) : (Instr.typeAssert .nilIface 20 3 true).run Try.prog w = .ok (.tuple #[.int .i64 0, .bool false]) w := by kernel_rfl
theorem ta_int (v : Int) (w : World) : (Instr.typeAssert (.iface 3 (.int .i64 v)) 20 3 true).run Try.prog w = .ok (.tuple #[.int .i64 v, .bool true]) w := by kernel_rfl
theorem infoGot : (Try.prog.info? 32).map (fun i => (i.zero, i.size, i.bytes)) = some (some (.agg #[.bool false, .int .i64 0]), 2, 16) := by kernel_rfl
/-- one more answer -/
theorem append_got {ops : Array Oper} {rest : List Oper} {o : Oper} {a : Act} {Q : Exit → Act → World → Prop} {w0 W : World} (hgd : o.guard = none) (s x : Operand) (ho : o.op = .call { callee := .builtin .append, args := #[s, x], argTypes := #[26, 26] })
    (v : Value) (xs : List S32) (p : S32) (hs : a.eval s = v) (hx : a.eval x = .slice (some ⟨W.heap.size, 0, none⟩) 1 1)
    (HO : Kd.R k32 32 W w0.heap.size (fun _ => True) v xs) (HB : Below w0.heap.size w0 W) (hl : xs.length < 1000000)
    (h : ∀ v1 w1, Kd.R k32 32 w1 w0.heap.size (fun _ => True) v1 (xs ++ [p]) → Below w0.heap.size w0 w1 → W.grownBy w1 v.ownBlock → wpList Try.prog ops Q rest (a.put o.dst v1) w1) :
    wpList Try.prog ops Q (o :: rest) a (W.alloc (.cells #[.bool p.f0, .int .i64 p.f1] 32)) := by
  have hE : (Kd.E k32) = [] := rfl
  exact Kd.R_append k32 (w0 := w0) w0.heap.size hgd s x 26 32 (.agg #[.bool false, .int .i64 0]) 16 ho Try.underlying26 infoGot rfl (by decide) (by decide) v xs p [.bool p.f0, .int .i64 p.f1] (fun _ => True) (fun _ => False) hs hx (k32_mkM _ _ _ p) (fun _ hk => hk.elim) (fun _ _ => trivial) HO HB HB.size (by omega) (fun v1 w1 h1 h2 h3 _ => h v1 w1 h1 h2 h3)
set_option maxHeartbeats 4000000 in
set_option maxRecDepth 100000 in
theorem impl_Cache.calls (a0 : Int) (A1 : Option Addr) (c1 : Nat) (l1 : List S30) (r : List S32) (w : World) (hr1 : Kd.C k30 w A1 l1.length l1) (hc1 : l1.length ≤ c1) (h : impl_Cache.f a0 l1 = some r) :
    Calls Try.prog 8 #[.int .i64 a0, .slice A1 l1.length c1] w fun e w' => ∃ v0_, e = .returned v0_ ∧ Kd.R k32 32 w' w.heap.size (fun _ => True) v0_ r ∧ Below w.heap.size w w' := by
  unfold impl_Cache.f at h
  by_cases g : 1 ≤ a0 ∧ l1.length < 1000000
  rotate_left
  · rw [if_neg g] at h; cases h
  rw [if_pos g] at h
  obtain ⟨ha, hl⟩ := g
  have hrr : runL a0 [] l1 = r := Option.some.inj h
  clear h
  have HR1 := Aside0.mk hr1
  clear hr1
  go_enter Try.func8, Try.ntmps8
  go_wp2_with (first
    | ((with_reducible refine gate_callee (f := 10) rfl ?_); refine goesL_ _ rfl rfl Try.func10 (by kernel_rfl) rfl #[.int .i64 a0] rfl (by (try simp only [List.map_toArray, List.map_cons, List.map_nil]); first | done | rfl) ?_; (with_reducible refine (new_cache w a0).mono ?_); rintro e w1 ⟨C, M, H, T, rfl, hI, hF⟩; refine ⟨_, rfl, ?_⟩))
  have HB1 : Below w.heap.size w w1 := hF.below (Nat.le_refl _) (fun k hk => by cases hk)
  have HI1 := Aside0.mk hI
  have HB2 := Aside0.mk HB1
  clear hI hF HB1
  go_loopw [6, 7] (fun v6 v7 wr => ∃ (k : Nat) (st : List Ent) (out : List S32), k ≤ l1.length ∧ v7 = .int .i64 k ∧ Aside0 (out.length = k) ∧ Aside0 (out ++ runL a0 (kvOf st) (l1.drop k) = r) ∧ Aside0 (InvG wr w.heap.size C M H T a0 st st) ∧ Aside0 (Kd.R k32 32 wr w.heap.size (fun _ => True) v6 out) ∧ Aside0 (Below w.heap.size w wr))
    (fun _ v _ => l1.length - (intOf v).toNat)
  case atStart => exact ⟨0, [], [], Nat.zero_le _, rfl, ⟨rfl⟩, ⟨hrr⟩, HI1, ⟨Kd.R_nil _ _ _ _ _⟩, HB2⟩
  case round =>
    clear HI1 HB2 hrr
    obtain ⟨k, st, out, hk, rfl, HL, HE, HI, HO, HB⟩ := hrel
    by_cases hlt : k < l1.length
    · obtain ⟨ad, e1, hx0, hx1, hx2⟩ := at_T30 (Kd.C_below HR1.out HB.out) (k : Int) (by omega) (by omega)
      cases e1
      have hrd : rd_T30 l1 (k : Int) = l1[k] := by simp [rd_T30, List.getD_eq_getElem?_getD, List.getElem?_eq_getElem hlt]
      rw [hrd, show ((k : Int)).toNat = k from by omega] at hx0 hx1 hx2
      clear hrd
      have HD := Aside0.mk (List.drop_eq_getElem_cons hlt)
      by_cases hop : l1[k].f0 = 0
      · rw [hop] at hx0
        have hput := put_all (HI.out.move (w' := wr.drew) (fun _ _ => rfl)) (by show _ ≤ wr.heap.size; have := HB.out.size; omega) ha l1[k].f1 l1[k].f2
        replace hput := Aside0.mk hput
        replace hop := Aside0.mk hop
        obtain ⟨xk, hxk⟩ : ∃ y, y = l1[k].f1 := ⟨_, rfl⟩
        obtain ⟨xv, hxv⟩ : ∃ y, y = l1[k].f2 := ⟨_, rfl⟩
        rw [← hxk] at hx1 hput
        rw [← hxv] at hx2 hput
        replace hxk := Aside0.mk hxk
        replace hxv := Aside0.mk hxv
        unfold at1 ikey at *
        go_wp2
        go_still_tail 13, (by kernel_rfl)
        change wpList _ _ _ _ _ wr.drew
        go_wp2_with (first
          | ((with_reducible refine gate_callee (f := 11) rfl ?_); refine goesL_ _ rfl rfl Try.func11 (by kernel_rfl) rfl #[.pointer (some ⟨C, 0, none⟩), .iface 3 (.int .i64 xk), .iface 3 (.int .i64 xv)] rfl (by (try simp only [List.map_toArray, List.map_cons, List.map_nil]); first | done | rfl) ?_; (with_reducible refine hput.out.mono ?_); rintro e w3 ⟨rfl, ⟨st', hI3, hst3⟩, hF3⟩; have HO3 := Aside0.mk (out_stays (HI.out.move (w' := wr.drew) (fun _ _ => rfl)) (Kd.R_drew HO.out) hF3); have HB3 := Aside0.mk (HB.out.drew.trans (hF3.below (B := w.heap.size) (by show w.heap.size ≤ wr.heap.size; exact HB.out.size) (fun k hk => HI.out.base k hk))); replace hI3 := Aside0.mk hI3; replace hst3 := Aside0.mk hst3; clear hF3 HO HB HI; refine ⟨_, rfl, ?_⟩)
          | ((with_reducible refine gate_builtin (b := .append) (xs := #[.tmp 40, .tmp 42]) rfl ?_); at_builtin; refine append_got (w0 := w) rfl (.tmp 40) (.tmp 42) rfl u6 out z32 rfl rfl HO3.out HB3.out (by have := HL.out; omega) ?_; intro v4 w4 ho hb hg; have n0_ := Aside0.mk hb; have n1_ := Aside0.mk ho; have n2_ := Aside0.mk (cache_stays hI3.out HO3.out hg); clear ho hb hg))
        go_roundw
        case rel =>
          refine ⟨k + 1, st', out ++ [z32], by omega, by go_num, ⟨by rw [List.length_append, HL.out]; rfl⟩, ⟨?_⟩, n2_, n1_, n0_⟩
          rw [← HE.out, HD.out, hst3.out, hxk.out, hxv.out, List.append_assoc]
          simp only [runL, hop.out, if_true, List.cons_append, List.nil_append]
        case measure => simp [intOf]; omega
      · have hopb : (l1[k].f0 == 0) = false := beq_eq_false_iff_ne.2 hop
        obtain ⟨xo, hxo⟩ : ∃ y, y = l1[k].f0 := ⟨_, rfl⟩
        obtain ⟨xk, hxk⟩ : ∃ y, y = l1[k].f1 := ⟨_, rfl⟩
        have hop0 := Aside0.mk hop
        rw [← hxo] at hx0 hop hopb
        rw [← hxk] at hx1
        clear hxo hx2
        replace hxk := Aside0.mk hxk
        have ta1 := ta_nil
        have ta2 := ta_int
        cases hg : gotL xk (kvOf st) with
        | some v =>
          have hget := Aside0.mk (get_have HI.out hg)
          have hstep := Aside0.mk (show runL a0 (kvOf st) (l1.drop k) = ⟨true, v⟩ :: runL a0 (mvL xk (kvOf st)) (l1.drop (k + 1)) from by rw [HD.out]; simp only [runL, if_neg hop0.out, ← hxk.out, hg])
          replace hg := Aside0.mk hg
          clear HD
          unfold at1 ikey at *
          go_wp2_with (first
            | ((with_reducible refine gate_callee (f := 12) rfl ?_); refine goesL_ _ rfl rfl Try.func12 (by kernel_rfl) rfl #[.pointer (some ⟨C, 0, none⟩), .iface 3 (.int .i64 xk)] rfl (by (try simp only [List.map_toArray, List.map_cons, List.map_nil]); first | done | rfl) ?_; (with_reducible refine hget.out.mono ?_); rintro e w3 ⟨rfl, ⟨st', hI3, hst3⟩, hF3⟩; have HO3 := Aside0.mk (out_stays HI.out HO.out hF3); have HB3 := Aside0.mk (HB.out.trans (hF3.below (B := w.heap.size) HB.out.size (fun k hk => HI.out.base k hk))); replace hI3 := Aside0.mk hI3; replace hst3 := Aside0.mk hst3; clear hF3 HO HB HI; refine ⟨_, rfl, ?_⟩)
            | ((with_reducible refine gate_builtin (b := .append) (xs := #[.tmp 60, .tmp 64]) rfl ?_); at_builtin; refine append_got (w0 := w) rfl (.tmp 60) (.tmp 64) rfl u6 out ⟨true, v⟩ rfl rfl HO3.out HB3.out (by have := HL.out; omega) ?_; intro v4 w4 ho hb hg; have n0_ := Aside0.mk hb; have n1_ := Aside0.mk ho; have n2_ := Aside0.mk (cache_stays hI3.out HO3.out hg); clear ho hb hg))
          go_roundw
          case rel =>
            refine ⟨k + 1, st', out ++ [⟨true, v⟩], by omega, by go_num, ⟨by rw [List.length_append, HL.out]; rfl⟩, ⟨?_⟩, n2_, n1_, n0_⟩
            rw [← HE.out, hstep.out, hst3.out, List.append_assoc]
            rfl
          case measure => simp [intOf]; omega
        | none =>
          have hget := Aside0.mk (get_not HI.out hg)
          have hstep := Aside0.mk (show runL a0 (kvOf st) (l1.drop k) = ⟨false, 0⟩ :: runL a0 (kvOf st) (l1.drop (k + 1)) from by rw [HD.out]; simp only [runL, if_neg hop0.out, ← hxk.out, hg])
          replace hg := Aside0.mk hg
          clear HD
          unfold at1 ikey at *
          go_wp2_with (first
            | ((with_reducible refine gate_callee (f := 12) rfl ?_); refine goesL_ _ rfl rfl Try.func12 (by kernel_rfl) rfl #[.pointer (some ⟨C, 0, none⟩), .iface 3 (.int .i64 xk)] rfl (by (try simp only [List.map_toArray, List.map_cons, List.map_nil]); first | done | rfl) ?_; (with_reducible refine hget.out.mono ?_); rintro e w3 ⟨rfl, q3, hw3⟩; have hI3 := Aside0.mk (HI.out.move (w' := w3) (fun _ _ => by rw [hw3]; rfl)); have HO3 := Aside0.mk (show Kd.R k32 32 w3 w.heap.size (fun _ => True) u6 out from by rw [hw3]; exact Kd.R_drewN HO.out q3); have HB3 := Aside0.mk (show Below w.heap.size w w3 from by rw [hw3]; exact pw_below_drewN HB.out q3); clear hw3 HO HB HI; refine ⟨_, rfl, ?_⟩)
            | ((with_reducible refine gate_builtin (b := .append) (xs := #[.tmp 60, .tmp 64]) rfl ?_); at_builtin; refine append_got (w0 := w) rfl (.tmp 60) (.tmp 64) rfl u6 out ⟨false, 0⟩ rfl rfl HO3.out HB3.out (by have := HL.out; omega) ?_; intro v4 w4 ho hb hg; have n0_ := Aside0.mk hb; have n1_ := Aside0.mk ho; have n2_ := Aside0.mk (cache_stays hI3.out HO3.out hg); clear ho hb hg))
          go_roundw
          case rel =>
            refine ⟨k + 1, st, out ++ [⟨false, 0⟩], by omega, by go_num, ⟨by rw [List.length_append, HL.out]; rfl⟩, ⟨?_⟩, n2_, n1_, n0_⟩
            rw [← HE.out, hstep.out, List.append_assoc]
            rfl
          case measure => simp [intOf]; omega
    · obtain rfl : k = l1.length := by omega
      have hend := HE.out
      rw [List.drop_length] at hend
      simp only [runL, List.append_nil] at hend
      subst hend
      go_wp2
      go_ret
      exact ⟨_, rfl, HO.out, HB.out⟩

end Go.Proofs.Ytikjdoemkibadaa.PFnCache
