/- The machine side of laws.FnOnce: each function of this text answers what its Lean function answers (written for this claim by a program of this session over the kit's print; no condition beyond what each theorem says). -/
import Derived.Test.YtnbcohabllkneaaOFnOncex0
import Derived.Test.YtnbcohabllkneaaOFnOncex1
import Derived.Test.YtnbcohabllkneaaOFnOncex3
import Derived.Test.YtnbcohabllkneaaOFnOncex5
namespace Go.Proofs.Ytnbcohabllkneaa.PFnOnce
open Go.RowKit Go.Proofs.YtnbcohabllkneaaW.PrintWords Go.Proofs.YtnbcohabllkneaaW.PrintLast Go.Proofs.YtnbcohabllkneaaW.PrintMore
attribute [local go_sem] max2_int min2_int max_two min_two max_three min_three max_four min_four   -- for this text's walks alone
set_option linter.unusedVariables false
set_option linter.unusedSimpArgs false

/-! ### impl_RemoveDuplicates: function 27 -/
/-- a set of texts, as its map reads -/
def txt (s : ByteArray) : Lit := .string s.data.toList
theorem txt_key (s : ByteArray) : WideAt.IsKeyLit (txt s) := trivial
theorem txt_same (s t : ByteArray) : (txt s).sameKey (txt t) = decide (s = t) := by
  rw [Bool.eq_iff_iff, decide_eq_true_eq]
  constructor
  · intro h
    have h : s.data.toList = t.data.toList := by simpa [txt, Lit.sameKey] using h
    exact WideShapes.bytes_inj h
  · rintro rfl
    simp [txt, Lit.sameKey]
/-- whether a list has a text -/
def hasT (l : List ByteArray) (s : ByteArray) : Bool := l.any fun t => decide (t = s)
theorem hasT_iff (l : List ByteArray) (s : ByteArray) : hasT l s = true ↔ s ∈ l := by
  simp [hasT]
def textSet (l : List ByteArray) : DataW Unit := Maps.setOf (.agg []) (l.map txt)
theorem textSet_nil : textSet [] = .map [] := rfl
theorem textSet_snoc (l : List ByteArray) (s : ByteArray) : textSet (l ++ [s]) = (textSet l).put (txt s) (.agg []) := by
  unfold textSet
  rw [List.map_append]
  exact Maps.setOf_snoc _ _ _
theorem textSet_has (l : List ByteArray) (s : ByteArray) : Maps.has (textSet l) (txt s) = hasT l s := by
  unfold textSet
  rw [Maps.has_setOf _ _ _ (fun x hx => by obtain ⟨y, _, rfl⟩ := List.mem_map.1 hx; exact txt_key y), List.any_map, Bool.eq_iff_iff, hasT_iff, List.any_eq_true]
  constructor
  · rintro ⟨x, hx, h⟩
    have h : (txt x).sameKey (txt s) = true := h
    rw [txt_same, decide_eq_true_eq] at h
    subst h
    exact hx
  · intro h
    refine ⟨s, h, ?_⟩
    show (txt s).sameKey (txt s) = true
    rw [txt_same]
    simp
theorem law9 : Maps.Keyed Try.prog 9 := Maps.string_keyed Try.underlying9
theorem zero49 (w : World) : (zeroValue 49).run Try.prog w = .ok (.agg #[]) w := by kernel_rfl
/-- a map's block is not a row's -/
theorem map_ne_row {α : Type} {d : Kd α} {e : Nat} {P : Program} {K : TypeId} {Rd : Value → Option (DataW Unit × List MemPlace)} {w : World} {b n base : Nat} {D : DataW Unit} {ok : Nat → Prop} {v : Value} {xs : List α} (hm : w.ownsMap P K Rd b n D) (h : d.R e w base ok v xs) : some b ≠ v.ownBlock := by
  intro he
  obtain ⟨es, clock, hb, _⟩ := hm
  obtain ⟨inner, ho⟩ := Kd.R_own h
  obtain ⟨cells, hc⟩ := own_typed ho b he.symm
  rw [hb] at hc
  cases hc
/-- a row stays over a store into a map -/
theorem R_over_map {α : Type} {d : Kd α} {e : Nat} {P : Program} {K : TypeId} {Rd : Value → Option (DataW Unit × List MemPlace)} {w w1 : World} {b n base : Nat} {D : DataW Unit} {v : Value} {xs : List α} (hm : w.ownsMap P K Rd b n D) (h : d.R e w base (fun _ => True) v xs) (hg : w.grownBy w1 (some b)) : d.R e w1 base (fun _ => True) v xs := by
  refine Kd.R_mono (Kd.R_grown (Kd.R_bound h) hg (fun j hj => ?_)) (fun _ _ => trivial)
  obtain ⟨_, _, _, q, _, cells, hc⟩ := hj
  intro he
  injection he with he
  subst he
  obtain ⟨es, clock, hb, _⟩ := hm
  rw [hb] at hc
  cases hc
/-- each text of a list once, where it first stands, behind those that are there already -/
def onceT : List ByteArray → List ByteArray → List ByteArray
  | acc, [] => acc
  | acc, x :: l => if hasT acc x then onceT acc l else onceT (acc ++ [x]) l
theorem onceT_snoc (x : ByteArray) (l : List ByteArray) : ∀ acc, onceT acc (l ++ [x]) = if hasT (onceT acc l) x then onceT acc l else onceT acc l ++ [x] := by
  induction l with
  | nil => intro acc; rfl
  | cons y l ih =>
    intro acc
    show onceT acc (y :: (l ++ [x])) = _
    rw [onceT, onceT]
    by_cases h : hasT acc y = true
    · rw [if_pos h, if_pos h, ih]
    · rw [if_neg h, if_neg h, ih]
theorem onceT_len (l : List ByteArray) : ∀ acc, (onceT acc l).length ≤ acc.length + l.length := by
  induction l with
  | nil => intro acc; simp [onceT]
  | cons y l ih =>
    intro acc
    rw [onceT]
    by_cases h : hasT acc y = true
    · rw [if_pos h]; have := ih acc; simp only [List.length_cons]; omega
    · rw [if_neg h]; have := ih (acc ++ [y]); simp only [List.length_append, List.length_cons, List.length_nil] at this ⊢; omega
theorem set_behind {α : Type} (acc l : List α) (x : α) (h : acc.length < l.length) : (acc ++ l.drop acc.length).set acc.length x = acc ++ [x] ++ l.drop (acc ++ [x]).length := by
  rw [List.set_append_right _ _ (Nat.le_refl _), Nat.sub_self, List.drop_eq_getElem_cons h, List.set_cons_zero]
  simp
/-- a map of truths that holds true under each text of a list -/
def flagSet (l : List ByteArray) : DataW Unit := Maps.setOf (.lit (.bool true)) (l.map txt)
theorem flagSet_nil : flagSet [] = .map [] := rfl
theorem flagSet_snoc (l : List ByteArray) (s : ByteArray) : flagSet (l ++ [s]) = (flagSet l).put (txt s) (.lit (.bool true)) := by
  unfold flagSet
  rw [List.map_append]
  exact Maps.setOf_snoc _ _ _
theorem flagSet_has (l : List ByteArray) (s : ByteArray) : Maps.has (flagSet l) (txt s) = hasT l s := by
  unfold flagSet
  rw [Maps.has_setOf _ _ _ (fun x hx => by obtain ⟨y, _, rfl⟩ := List.mem_map.1 hx; exact txt_key y), List.any_map, Bool.eq_iff_iff, hasT_iff, List.any_eq_true]
  constructor
  · rintro ⟨x, hx, h⟩
    have h : (txt x).sameKey (txt s) = true := h
    rw [txt_same, decide_eq_true_eq] at h
    subst h
    exact hx
  · intro h
    refine ⟨s, h, ?_⟩
    show (txt s).sameKey (txt s) = true
    rw [txt_same]
    simp
theorem flagSet_at (s : ByteArray) (l : List ByteArray) : (flagSet l).atKey (txt s) (.lit (.bool false)) = .lit (.bool (hasT l s)) := by
  cases h : hasT l s with
  | false => exact Maps.atKey_of_not_has ((flagSet_has l s).trans h) _
  | true =>
    rw [hasT_iff] at h
    have key : ∀ (m p : List ByteArray), s ∈ p ∨ s ∈ m → (∀ x ∈ p, x ∈ p) → s ∈ p → (flagSet (p ++ m)).atKey (txt s) (.lit (.bool false)) = .lit (.bool true) → True := fun _ _ _ _ _ _ => trivial
    clear key
    obtain ⟨a, b, rfl⟩ := List.append_of_mem h
    have base : (flagSet (a ++ [s])).atKey (txt s) (.lit (.bool false)) = .lit (.bool true) := by
      rw [flagSet_snoc]
      exact Maps.atKey_put_same (Maps.tidy_setOf _ _ (fun x hx => by obtain ⟨y, _, rfl⟩ := List.mem_map.1 hx; exact txt_key y)).isMap (txt_key s) _ _
    have go : ∀ (m p : List ByteArray), (flagSet p).atKey (txt s) (.lit (.bool false)) = .lit (.bool true) → (flagSet (p ++ m)).atKey (txt s) (.lit (.bool false)) = .lit (.bool true) := by
      intro m
      induction m with
      | nil => intro p hp; rw [List.append_nil]; exact hp
      | cons x m ih =>
        intro p hp
        have : (flagSet (p ++ [x])).atKey (txt s) (.lit (.bool false)) = .lit (.bool true) := by
          rw [flagSet_snoc]
          by_cases e : txt s = txt x
          · rw [e]
            exact Maps.atKey_put_same (Maps.tidy_setOf _ _ (fun x hx => by obtain ⟨y, _, rfl⟩ := List.mem_map.1 hx; exact txt_key y)).isMap (txt_key x) _ _
          · rw [Maps.atKey_put_other e]
            exact hp
        have := ih (p ++ [x]) this
        simpa using this
    have := go b (a ++ [s]) base
    simpa using this
theorem plainElem_bool_inv {P : Program} {e : TypeId} (he : P.underlying e = some .bool) {v : Value} {z : DataW Unit × List MemPlace} (h : plainElem P e v = some z) : ∃ x, v = .bool x ∧ z = (.lit (.bool x), []) := by
  unfold plainElem at h
  rw [he] at h
  cases v <;> simp at h
  exact ⟨_, rfl, h.symm⟩
/-- 'm[s]' in such a map -/
theorem wpList_lookup_flag {P : Program} (w : World) {ops : Array Oper} {rest : List Oper} {o : Oper} {a : Act} {Q : Exit → Act → World → Prop}
    (hg : o.guard = none) (m x : Operand) (t : TypeId) (hop : o.op = Op.lookup t m x false)
    (k e : TypeId) (K : Maps.Keyed P k) (ht : P.underlying t = some (.map k e)) (he : P.underlying e = some .bool) (hz : (zeroValue e).run P w = .ok (.bool false) w) (b n : Nat) (l : List ByteArray) (s : ByteArray)
    (hm : a.eval m = .map (some b)) (hown : w.ownsMap P k (plainElem P e) b n (flagSet l)) (key : Value) (hx : a.eval x = key) (hkey : keyOf P k key = some (.string s.data.toList))
    (hK : wpList P ops Q rest (a.put o.dst (.bool (hasT l s))) w) :
    wpList P ops Q (o :: rest) a w := by
  refine wpList_plain hg fun K' hK' => ?_
  obtain ⟨v, ps, hrun, hv⟩ := hown.lookup K ht hz (plainElem_bool he false) hkey
  obtain ⟨y, rfl, hy⟩ := plainElem_bool_inv he hv
  simp only [Prod.mk.injEq] at hy
  have h2 : (DataW.lit (.bool (hasT l s)) : DataW Unit) = .lit (.bool y) := (flagSet_at s l).symm.trans hy.1
  injection h2 with h2
  injection h2 with h2
  subst h2
  unfold Oper.wp
  simp [execOp, hop, hm, hx, hrun, Result.andThen]
  exact hK' _ _ hK
theorem heap_new (w : World) (o : Obj) : (w.alloc o).heap[w.heap.size]? = some o := by
  show (w.heap.push o)[w.heap.size]? = _
  simp
theorem zero4 (w : World) : (zeroValue 4).run Try.prog w = .ok (.bool false) w := by kernel_rfl
set_option maxHeartbeats 4000000 in
set_option maxRecDepth 100000 in
/-- a row that stands in a box: its texts once each, in place -/
theorem arrayOnce (w0 w : World) (g : Nat) (v : Value) (l : List ByteArray) (hl0 : l.length < 8796093022208) (hs0 : ∀ s ∈ l, s.size ≤ maxLen) (hg : w.heap[g]? = some (.cells #[v] 22 (0, 0))) (hg0 : w0.heap.size ≤ g) (ho : Kd.R Kd.string 9 w w0.heap.size (fun _ => True) v l) (hB : Below w0.heap.size w0 w) :
    Calls Try.prog 50 #[.pointer (some ⟨g, 0, none⟩)] w fun e w' => ∃ v', e = .returned (.tuple #[]) ∧ w'.heap[g]? = some (.cells #[v'] 22 (0, 0)) ∧ Kd.R Kd.string 9 w' w0.heap.size (fun _ => True) v' (onceT [] l) ∧ Below w0.heap.size w0 w' := by
  have HS0 := Aside0.mk hs0
  have HO0 := Aside0.mk ho
  have HB0 := Aside0.mk hB
  have HG := Aside0.mk hg
  have hwb : w0.heap.size ≤ w.heap.size := hB.size
  have hgl : g < w.heap.size := (Array.getElem?_eq_some_iff.1 hg).1
  obtain ⟨A, c, hv⟩ := Kd.R_slice ho
  subst hv
  have hc0 := cell_of_one hg
  have hf0 := free_of_one hg
  clear hs0 ho hB hg
  have hmm := @run_makeMap Try.prog
  go_enter Try.func50, Try.ntmps50
  go_wp2
  clear hmm hc0 hf0
  have HG' := Aside0.mk ((World.grownBy_alloc w (.map #[] 0) none).block g hgl (by simp) |>.trans HG.out)
  have hlen0 : (onceT [] l).length ≤ l.length := by have := onceT_len l []; simpa using this
  go_loopw [3, 11] (fun v3 v wr => ∃ k : Nat, k ≤ l.length ∧ v = .int .i64 k ∧ v3 = .int .i64 ((onceT [] (l.take k)).length : Nat) ∧ Aside0 (wr.ownsMap Try.prog 9 (plainElem Try.prog 4) w.heap.size k (flagSet (onceT [] (l.take k)))) ∧ Aside0 (Kd.R Kd.string 9 wr w0.heap.size (fun _ => True) (.slice A l.length c) (onceT [] (l.take k) ++ l.drop (onceT [] (l.take k)).length)) ∧ Aside0 (Below w0.heap.size w0 wr) ∧ Aside0 (wr.heap[g]? = some (.cells #[.slice A l.length c] 22 (0, 0))))
    (fun _ v _ => l.length - (intOf v).toNat)
  case atStart => exact ⟨0, Nat.zero_le _, rfl, rfl, ⟨World.ownsMap_made _ _ _ _⟩, ⟨by simpa [onceT] using Kd.R_alloc HO0.out _⟩, ⟨below_alloc HB0.out _⟩, HG'⟩
  case round =>
    clear HO0 HB0 HG HG'
    obtain ⟨k, hk, rfl, rfl, HM, HO, HB, HG⟩ := hrel
    have hsn0 := onceT_len (l.take k) []
    have hol : (onceT [] (l.take k)).length ≤ k := by have h2 := List.length_take_le k l; have h3 : ([] : List ByteArray).length = 0 := rfl; omega
    have hsn1 := Aside0.mk (fun h : k < l.length => (onceT_snoc l[k] (l.take k) []))
    have hTK := Aside0.mk (fun h : k < l.length => List.take_succ_eq_append_getElem h)
    obtain ⟨acc, hacc⟩ : ∃ y_ : List ByteArray, y_ = onceT [] (l.take k) := ⟨_, rfl⟩
    rw [← hacc] at HM HO hol hsn1 hsn0
    have Hacc := Aside0.mk hacc
    simp only [← hacc]
    clear hacc hsn0
    by_cases hlt : k < l.length
    · have hrl : (acc ++ l.drop acc.length).length = l.length := by simp; omega
      obtain ⟨b, c', hv, hb1, hb2, cells, hbc⟩ := Kd.R_form HO.out (by rw [hrl]; omega)
      injection hv with hA hN hc
      clear hN
      subst hA
      subst hc
      have HO' := Aside0.mk (show Kd.R Kd.string 9 wr w0.heap.size (fun _ => True) (.slice (some ⟨b, 0, none⟩) (acc ++ l.drop acc.length).length c) (acc ++ l.drop acc.length) by rw [hrl]; exact HO.out)
      have hx := (Kd.R_cell ByteArray.empty HO'.out (k : Int) (by omega) (by rw [hrl]; omega)).1
      rw [show ((k : Int)).toNat = k from by omega, show rdOf ByteArray.empty (acc ++ l.drop acc.length) (k : Int) = l[k] from by
        simp only [rdOf, List.getD, show ((k : Int)).toNat = k from by omega]
        rw [List.getElem?_append_right hol, List.getElem?_drop, show acc.length + (k - acc.length) = k from by omega, List.getElem?_eq_getElem hlt]
        rfl] at hx
      have hkey := Aside0.mk (WideMaps.keyOf_string_mk (k := 9) Try.underlying9 (HS0.out l[k] (by simp)))
      have hsn := hsn1.out hlt
      have hTk := hTK.out hlt
      replace hsn := Aside0.mk hsn
      replace hTk := Aside0.mk hTk
      have hgb : b ≠ g := by
        intro e
        subst e
        rw [HG.out] at hbc
        injection hbc with hbc
        injection hbc with h1 h2 h3
        exact absurd h2 (by decide)
      clear hbc cells
      replace hrl := Aside0.mk hrl
      cases hin : hasT acc l[k] with
      | true =>
        replace hin := Aside0.mk hin
        go_wp2_with (first
          | (at_lookup; refine wpList_lookup_flag _ rfl (.tmp 16) (.tmp 17) 52 rfl 9 4 law9 Try.underlying52 Try.underlying4 (zero4 _) w.heap.size k acc l[k] rfl HM.out _ rfl hkey.out ?_; rw [hin.out]))
        go_roundw
        case rel =>
          refine ⟨k + 1, by omega, by go_num, ?_⟩
          rw [hTk.out, hsn.out, if_pos hin.out]
          exact ⟨rfl, ⟨HM.out.mono (Nat.le_succ _)⟩, HO, HB, HG⟩
        case measure => simp [intOf]; omega
      | false =>
        replace hin := Aside0.mk hin
        go_wp2_with (first
          | (at_lookup; refine wpList_lookup_flag _ rfl (.tmp 16) (.tmp 17) 52 rfl 9 4 law9 Try.underlying52 Try.underlying4 (zero4 _) w.heap.size k acc l[k] rfl HM.out _ rfl hkey.out ?_; rw [hin.out])
          | (at_mapUpdate; refine wpList_mapUpdate_own _ rfl _ _ _ 52 rfl 9 4 law9 Try.underlying52 (plainElem (H := Unit) Try.prog 4) w.heap.size k _ rfl HM.out (by unfold maxLen; omega) _ _ _ rfl rfl hkey.out (.lit (.bool true)) [] (plainElem_bool Try.underlying4 true) ?_; intro w1 hown1 hgrow1; have HM2 := Aside0.mk hown1; have HG2 := Aside0.mk hgrow1; clear hown1 hgrow1))
        have HO1 := Aside0.mk (R_over_map HM.out HO'.out HG2.out)
        have hgB : some g ≠ some w.heap.size := by
          intro e
          injection e with e
          omega
        have HG1 := Aside0.mk ((HG2.out.block g (lt_of_block HG.out) hgB).trans HG.out)
        have HB1 := Aside0.mk (HB.out.grown HG2.out (Nat.le_trans hwb (by have := HM.out; obtain ⟨_, _, hb, _⟩ := this; exact Nat.le_of_lt (lt_of_block hb))) (fun j hj => by cases hj; exact hwb))
        have hgc := cell_of_one HG1.out
        have hgf := free_of_one HG1.out
        have hck := (Kd.R_cell ByteArray.empty HO1.out (k : Int) (by omega) (by rw [hrl.out]; omega)).1
        rw [show ((k : Int)).toNat = k from by omega, show rdOf ByteArray.empty (acc ++ l.drop acc.length) (k : Int) = l[k] from by
          simp only [rdOf, List.getD, show ((k : Int)).toNat = k from by omega]
          rw [List.getElem?_append_right hol, List.getElem?_drop, show acc.length + (k - acc.length) = k from by omega, List.getElem?_eq_getElem hlt]
          rfl] at hck
        have hcj := Kd.R_cell ByteArray.empty HO1.out (acc.length : Int) (by omega) (by rw [hrl.out]; omega)
        rw [show ((acc.length : Int)).toNat = acc.length from by omega] at hcj
        obtain ⟨hcj, hfj⟩ := hcj
        have hput := Kd.R_put HO1.out (acc.length : Int) l[k]
        rw [show ((acc.length : Int)).toNat = acc.length from by omega] at hput
        have HP := Aside0.mk hput
        clear hput hx
        have hjl : acc.length < l.length := by omega
        go_region
        all_goals go_wp2
        all_goals go_roundw
        case rel | rel | rel =>
          refine ⟨k + 1, by omega, by go_num, ?_⟩
          rw [hTk.out, hsn.out, if_neg (by rw [hin.out]; simp)]
          have hset := set_behind acc l l[k] hjl
          have HPR := Aside0.mk HP.out.1
          have HPG := Aside0.mk HP.out.2
          refine ⟨by simp, ⟨?_⟩, ⟨?_⟩, ⟨?_⟩, ⟨?_⟩⟩
          · rw [flagSet_snoc]
            exact (HM2.out.kept HPG.out (by
              intro e
              injection e with e
              subst e
              obtain ⟨_, _, hb, _⟩ := HM2.out
              obtain ⟨inner, ho⟩ := Kd.R_own HO1.out
              obtain ⟨cells, hc⟩ := own_typed ho _ rfl
              rw [hb] at hc
              cases hc)).drew
          · refine Kd.R_drew ?_
            have h2 := HPR.out
            rw [hset, hrl.out] at h2
            exact h2
          · exact below_drew (HB1.out.grown HPG.out (by have := HG2.out.size; omega) (fun j hj => by cases hj; exact hb1))
          · exact (HPG.out.block g (lt_of_block HG1.out) (by intro e; injection e with e; exact hgb e.symm)).trans HG1.out
        all_goals (simp [intOf]; omega)
    · obtain rfl : k = l.length := by omega
      rw [List.take_length] at Hacc
      have hgc := cell_of_one HG.out
      have hgf := free_of_one HG.out
      have hlc : l.length ≤ c := by
        have h := HO.out
        have hrl : (acc ++ l.drop acc.length).length = l.length := by simp; omega
        exact (Kd.R_reads' h).2.1
      go_wp2
      go_end0
      have HP := Aside0.mk (Kd.R_take HO.out (m := acc.length) (by simp))
      rw [List.take_left] at HP
      rw [show onceT [] l = acc from Hacc.out.symm]
      refine ⟨_, rfl, one_setCell HG.out, ?_, ?_⟩
      · exact Kd.R_set HP.out HG.out (fun q hq => by simp [Kd.string, Kd.scalar] at hq; subst hq; decide) 0 _
      · exact HB.out.setCell hg0 _

/-- each text of a list once, in a row of its own -/
def impl_RemoveDuplicates.f (l0 : List ByteArray) : Option (List ByteArray) :=
  if l0.length < 8796093022208 ∧ (∀ s ∈ l0, s.size ≤ maxLen) then some (onceT [] l0) else none
set_option maxHeartbeats 4000000 in
set_option maxRecDepth 100000 in
theorem impl_RemoveDuplicates.calls (A0 : Option Addr) (c0 : Nat) (l0 : List ByteArray) (r : List ByteArray) (w : World) (hr0 : Kd.C Kd.string w A0 l0.length l0) (hc0 : l0.length ≤ c0) (h : impl_RemoveDuplicates.f l0 = some r) :
    Calls Try.prog 27 #[.slice A0 l0.length c0] w fun e w' => ∃ v0_ : Value, e = .returned (v0_) ∧ Kd.R Kd.string 9 w' w.heap.size (fun _ => True) v0_ r ∧ Below w.heap.size w w' := by
  unfold impl_RemoveDuplicates.f at h
  have hg : l0.length < 8796093022208 ∧ (∀ s ∈ l0, s.size ≤ maxLen) := by
    by_cases hg : l0.length < 8796093022208 ∧ (∀ s ∈ l0, s.size ≤ maxLen)
    · exact hg
    · rw [if_neg hg] at h; cases h
  rw [if_pos hg] at h
  obtain ⟨hl0, hs0⟩ := hg
  obtain rfl := Option.some.inj h
  clear h
  have HS0 := Aside0.mk hs0
  have HR0 := Aside0.mk hr0
  have HC0 := Aside0.mk hc0
  have HT := Aside0.mk (show impl_texts.f l0 = some l0 by
    unfold impl_texts.f
    simp only [Option.bind_some]
    rw [if_pos (by simpa using hl0)]
    rfl)
  clear hs0 hr0 hc0
  go_enter Try.func27, Try.ntmps27
  go_wp2_with (first
    | (go_at_call 49; refine (impl_texts.calls A0 c0 l0 l0 _ HR0.out HC0.out HT.out).mono ?_; rintro e w1 ⟨v1, rfl, ho, hb⟩; obtain ⟨A1, c1, rfl⟩ := Kd.R_slice ho; have HO := Aside0.mk ho; have HB := Aside0.mk hb; clear ho hb)
    | (go_at_call 50; refine (arrayOnce w _ w1.heap.size (.slice A1 l0.length c1) l0 hl0 HS0.out ?h1 ?h2 ?h3 ?h4).mono ?_; (case h1 => exact heap_new _ _); (case h2 => exact HB.out.size); (case h3 => exact Kd.R_alloc HO.out _); (case h4 => exact below_alloc HB.out _); rintro e w2 ⟨v2, rfl, hg2, ho2, hb2⟩; obtain ⟨A2, c2, rfl⟩ := Kd.R_slice ho2; have HG2 := Aside0.mk hg2; have hc2 := cell_of_one hg2; have HO2 := Aside0.mk ho2; have HB2 := Aside0.mk hb2; clear hg2 ho2 hb2))
  go_ret
  exact ⟨_, rfl, HO2.out, HB2.out⟩

/-! ### spec_Often: function 44 -/
def spec_Often.l0 : Nat → List ByteArray → ByteArray → Int → Int → Option (Int)
  | 0, _, _, _, _ => none
  | k + 1, x0, x1, x5, x6 => if x6 < (x0.length : Int) then (if 0 ≤ x6 then (if (rdOf ByteArray.empty x0 x6).toList = x1.toList then (spec_Often.l0 k x0 x1 (wrap64 (x5 + 1)) (wrap64 (x6 + 1))) else (spec_Often.l0 k x0 x1 x5 (wrap64 (x6 + 1)))) else (none)) else (some x5)
def spec_Often.f (k : Nat) (l0 : List ByteArray) (a1 : ByteArray) : Option (Int) := spec_Often.l0 k l0 a1 0 0
theorem spec_Often.mono_l : ∀ k, (∀ y0 y1 y2 y3, LeO (spec_Often.l0 k y0 y1 y2 y3) (spec_Often.l0 (k + 1) y0 y1 y2 y3))
  | 0 => fun _ _ _ _ r h => by simp [spec_Often.l0] at h
  | k + 1 => by
    have ih0 := spec_Often.mono_l k
    · intro y0 y1 y2 y3
      unfold spec_Often.l0
      repeat' first
      | (with_reducible exact ih0 _ _ _ _)
      | (with_reducible exact LeO.refl _)
      | (with_reducible exact LeO.none _)
      | (with_reducible refine LeO.ite ?_ ?_)
      | (with_reducible refine LeO.bind ?_ (fun _ => ?_))
      | exact ih0 _ _ _ _
      | exact LeO.none _
      | refine LeO.ite ?_ ?_
      | refine LeO.bind ?_ (fun _ => ?_)
theorem spec_Often.mono : ∀ a0 a1 k, LeO (spec_Often.f k a0 a1) (spec_Often.f (k + 1) a0 a1) := by
  intro a0 a1 k
  have ih0 := spec_Often.mono_l k
  unfold spec_Often.f
  repeat' first
      | (with_reducible exact ih0 _ _ _ _)
      | (with_reducible exact LeO.refl _)
      | (with_reducible exact LeO.none _)
      | (with_reducible refine LeO.ite ?_ ?_)
      | (with_reducible refine LeO.bind ?_ (fun _ => ?_))
      | exact ih0 _ _ _ _
      | exact LeO.none _
      | refine LeO.ite ?_ ?_
      | refine LeO.bind ?_ (fun _ => ?_)
set_option maxHeartbeats 8000000 in
set_option maxRecDepth 100000 in
theorem spec_Often.calls (k : Nat) (A0 : Option Addr) (c0 : Nat) (l0 : List ByteArray) (a1 : ByteArray) (r : Int) (w : World) (hr0 : Kd.C Kd.string w A0 l0.length l0) (hc0 : l0.length ≤ c0) (h : spec_Often.f k l0 a1 = some r) :
    Calls Try.prog 44 #[.slice A0 l0.length c0, .string a1] w fun e w' => e = .returned (.int .i64 r) ∧ Drawn0 w w' := by
  have HR0 := Aside0.mk hr0
  have HC0 := Aside0.mk hc0
  clear hr0 hc0
  have H : (spec_Often.l0 k l0 a1 0 0) = some r := h
  clear h
  have H' := Aside0.mk H
  clear H
  go_enter Try.func44, Try.ntmps44
  go_wp2
  go_loopg [5, 6] k (fun kq v5 v6 w' => ∃ (x5_1 : Int) (x6_1 : Int), v5 = .int .i64 x5_1 ∧ v6 = .int .i64 x6_1 ∧ Aside0 (spec_Often.l0 kq l0 a1 x5_1 x6_1 = some r) ∧ Aside0 (kq ≤ k) ∧ Drawn0 w w')
  case atStart => exact ⟨(0), (0), (by first | rfl | (simp; done) | (simp [*]; done)), (by first | rfl | (simp; done) | (simp [*]; done)), H', ⟨Nat.le_refl _⟩, by repeat (first | exact Drawn0.refl _ | apply Drawn0.step)⟩
  case round =>
    clear H'
    try clear p2
    obtain ⟨x5_1, x6_1, rfl, rfl, HA, HK1, ⟨m1, rfl⟩⟩ := hrel
    cases gk with
    | zero => exact absurd HA.out (by simp [spec_Often.l0])
    | succ k1 =>
      have H := HA.out
      clear HA
      simp only [spec_Often.l0] at H
      by_cases c3 : x6_1 < (l0.length : Int)
      · rw [if_pos c3] at H
        have c3b0 : decide (x6_1 < (l0.length : Int)) = true := decide_eq_true c3
        clear c3
        by_cases c4 : 0 ≤ x6_1
        · rw [if_pos c4] at H
          have c4b0 : decide (0 ≤ x6_1) = true := decide_eq_true c4
          clear c4
          by_cases c5 : (rdOf ByteArray.empty l0 x6_1).toList = a1.toList
          · rw [if_pos c5] at H
            have c5b0 : ((rdOf ByteArray.empty l0 x6_1).toList == a1.toList) = true := beq_iff_eq.mpr c5
            have c5b1 : ((rdOf ByteArray.empty l0 x6_1).toList != a1.toList) = false := bne_eq_false_iff_eq.mpr c5
            clear c5
            have H' := Aside0.mk H
            clear H
            have p159 : 0 ≤ (x6_1 : Int) := of_decide_eq_true (by first | (with_reducible assumption) | assumption)
            have q159 : x6_1 < (l0.length : Int) := of_decide_eq_true (by first | (with_reducible assumption) | assumption)
            obtain ⟨ad159, e159, hx159_0⟩ := Kd.at_string HR0.out x6_1 p159 q159
            cases e159
            replace p159 := eq_true p159
            replace q159 := eq_true q159
            go_wp2
            go_roundg k1
            case measure => have := HK1.out; omega
            case rel => exact ⟨(wrap64 (x5_1 + 1)), (wrap64 (x6_1 + 1)), (by first | rfl | (simp; done) | (simp [*]; done)), (by first | rfl | (simp; done) | (simp [*]; done)), H', ⟨by have := HK1.out; omega⟩, by repeat (first | exact Drawn0.refl _ | apply Drawn0.step)⟩
          · rw [if_neg c5] at H
            have c5b0 : ((rdOf ByteArray.empty l0 x6_1).toList == a1.toList) = false := beq_eq_false_iff_ne.mpr c5
            have c5b1 : ((rdOf ByteArray.empty l0 x6_1).toList != a1.toList) = true := bne_iff_ne.mpr c5
            have H' := Aside0.mk H
            clear H
            have p159 : 0 ≤ (x6_1 : Int) := of_decide_eq_true (by first | (with_reducible assumption) | assumption)
            have q159 : x6_1 < (l0.length : Int) := of_decide_eq_true (by first | (with_reducible assumption) | assumption)
            obtain ⟨ad159, e159, hx159_0⟩ := Kd.at_string HR0.out x6_1 p159 q159
            cases e159
            replace p159 := eq_true p159
            replace q159 := eq_true q159
            go_wp2
            go_roundg k1
            case measure => have := HK1.out; omega
            case rel => exact ⟨(x5_1), (wrap64 (x6_1 + 1)), (by first | rfl | (simp; done) | (simp [*]; done)), (by first | rfl | (simp; done) | (simp [*]; done)), H', ⟨by have := HK1.out; omega⟩, by repeat (first | exact Drawn0.refl _ | apply Drawn0.step)⟩
        · rw [if_neg c4] at H
          exact absurd H (by simp)
      · rw [if_neg c3] at H
        have c3b0 : decide (x6_1 < (l0.length : Int)) = false := decide_eq_false c3
        clear c3
        obtain rfl := Option.some.inj H
        go_wp2
        go_ret
        exact ⟨by first | rfl | (simp; done) | (simp [*]; done), by repeat (first | exact Drawn0.refl _ | apply Drawn0.step)⟩

/-! ### spec_Distinct: function 28 -/
def spec_Distinct.l0 : Nat → List ByteArray → List ByteArray → Int → Option (List ByteArray)
  | 0, _, _, _ => none
  | k + 1, x0, x3, x4 => if x4 < (x0.length : Int) then (if 0 ≤ x4 then ((spec_Often.f k x3 (rdOf ByteArray.empty x0 x4)).bind fun t161 => (if t161 = 0 then (if x3.length < 8796093022208 then (spec_Distinct.l0 k x0 (x3 ++ [rdOf ByteArray.empty x0 x4]) (wrap64 (x4 + 1))) else (none)) else (spec_Distinct.l0 k x0 x3 (wrap64 (x4 + 1))))) else (none)) else (some x3)
def spec_Distinct.f (k : Nat) (l0 : List ByteArray) : Option (List ByteArray) := spec_Distinct.l0 k l0 ([] : List ByteArray) 0
theorem spec_Distinct.mono_l : ∀ k, (∀ y0 y1 y2, LeO (spec_Distinct.l0 k y0 y1 y2) (spec_Distinct.l0 (k + 1) y0 y1 y2))
  | 0 => fun _ _ _ r h => by simp [spec_Distinct.l0] at h
  | k + 1 => by
    have ih0 := spec_Distinct.mono_l k
    · intro y0 y1 y2
      unfold spec_Distinct.l0
      repeat' first
      | (with_reducible exact ih0 _ _ _)
      | (with_reducible exact spec_Often.mono _ _ _)
      | (with_reducible exact LeO.refl _)
      | (with_reducible exact LeO.none _)
      | (with_reducible refine LeO.ite ?_ ?_)
      | (with_reducible refine LeO.bind ?_ (fun _ => ?_))
      | exact ih0 _ _ _
      | exact spec_Often.mono _ _ _
      | exact LeO.none _
      | refine LeO.ite ?_ ?_
      | refine LeO.bind ?_ (fun _ => ?_)
theorem spec_Distinct.mono : ∀ a0 k, LeO (spec_Distinct.f k a0) (spec_Distinct.f (k + 1) a0) := by
  intro a0 k
  have ih0 := spec_Distinct.mono_l k
  unfold spec_Distinct.f
  repeat' first
      | (with_reducible exact ih0 _ _ _)
      | (with_reducible exact spec_Often.mono _ _ _)
      | (with_reducible exact LeO.refl _)
      | (with_reducible exact LeO.none _)
      | (with_reducible refine LeO.ite ?_ ?_)
      | (with_reducible refine LeO.bind ?_ (fun _ => ?_))
      | exact ih0 _ _ _
      | exact spec_Often.mono _ _ _
      | exact LeO.none _
      | refine LeO.ite ?_ ?_
      | refine LeO.bind ?_ (fun _ => ?_)
set_option maxHeartbeats 8000000 in
set_option maxRecDepth 100000 in
theorem spec_Distinct.calls (k : Nat) (A0 : Option Addr) (c0 : Nat) (l0 : List ByteArray) (r : List ByteArray) (w : World) (hr0 : Kd.C Kd.string w A0 l0.length l0) (hc0 : l0.length ≤ c0) (h : spec_Distinct.f k l0 = some r) :
    Calls Try.prog 28 #[.slice A0 l0.length c0] w fun e w' => ∃ v0_ : Value, e = .returned (v0_) ∧ Kd.R Kd.string 9 w' w.heap.size (fun _ => True) v0_ r ∧ Below w.heap.size w w' := by
  have HR0 := Aside0.mk hr0
  have HC0 := Aside0.mk hc0
  clear hr0 hc0
  have HB := Aside0.mk (Below.refl w.heap.size w)
  have H : (spec_Distinct.l0 k l0 ([] : List ByteArray) 0) = some r := h
  clear h
  have H' := Aside0.mk H
  clear H
  go_enter Try.func28, Try.ntmps28
  go_wp2
  go_loopg [3, 4] k (fun kq v3 v4 w' => ∃ (x3_1 : List ByteArray) (x4_1 : Int), v4 = .int .i64 x4_1 ∧ Aside0 (spec_Distinct.l0 kq l0 x3_1 x4_1 = some r) ∧ Aside0 (kq ≤ k) ∧ Aside0 (Kd.R Kd.string 9 w' w.heap.size (fun _ => True) v3 x3_1) ∧ Aside0 (Below w.heap.size w w'))
  case atStart => exact ⟨(([] : List ByteArray)), (0), (by first | rfl | (simp; done) | (simp [*]; done)), H', ⟨Nat.le_refl _⟩, ⟨by first | exact Kd.R_nil _ _ _ _ _ | exact Kd.N_nil _ _ _ _ _ | exact Kd.V_nil _ _ _ _ _ | exact Kd.Q_nil _ _ _ _ _ | exact Kd.S_nil _ _ _ _ _⟩, ⟨by repeat (first | (with_reducible first | exact HB.out | apply below_alloc | apply pw_below_drewN | apply below_drew1) | exact HB.out)⟩⟩
  case round =>
    clear H'
    obtain ⟨x3_1, x4_1, rfl, HA, HK1, HO_3, HB⟩ := hrel
    cases gk with
    | zero => exact absurd HA.out (by simp [spec_Distinct.l0])
    | succ k1 =>
      have H := HA.out
      clear HA
      simp only [spec_Distinct.l0] at H
      by_cases c2 : x4_1 < (l0.length : Int)
      · rw [if_pos c2] at H
        have c2b0 : decide (x4_1 < (l0.length : Int)) = true := decide_eq_true c2
        clear c2
        by_cases c3 : 0 ≤ x4_1
        · rw [if_pos c3] at H
          have c3b0 : decide (0 ≤ x4_1) = true := decide_eq_true c3
          clear c3
          replace H := Option.bind_eq_some_iff.mp H
          obtain ⟨t161, A40, H⟩ := H
          replace H : (if t161 = 0 then (if x3_1.length < 8796093022208 then (spec_Distinct.l0 k1 l0 (x3_1 ++ [rdOf ByteArray.empty l0 x4_1]) (wrap64 (x4_1 + 1))) else (none)) else (spec_Distinct.l0 k1 l0 x3_1 (wrap64 (x4_1 + 1)))) = some r := H
          have A4 := Aside0.mk A40
          clear A40
          by_cases c5 : t161 = 0
          · rw [if_pos c5] at H
            have c5b0 : (t161 == 0) = true := beq_iff_eq.mpr c5
            have c5b1 : (t161 != 0) = false := bne_eq_false_iff_eq.mpr c5
            clear c5
            by_cases c6 : x3_1.length < 8796093022208
            · rw [if_pos c6] at H
              have LMc6 := Aside0.mk c6
              clear c6
              obtain ⟨y163, hy163⟩ : ∃ y_ : List ByteArray, y_ = (x3_1 ++ [rdOf ByteArray.empty l0 x4_1]) := ⟨_, rfl⟩
              replace H : (spec_Distinct.l0 k1 l0 y163 (wrap64 (x4_1 + 1))) = some r := by first | (rw [hy163]; with_reducible exact H) | (have H2_ := (Option.bind_some _ _).symm.trans H; rw [hy163]; with_reducible exact H2_) | (have H2_ := (Option.bind_some _ _).symm.trans H; with_reducible exact H2_) | with_reducible exact H | (rw [hy163]; exact H) | exact H
              have Ny163 := Aside0.mk hy163
              clear hy163
              have H' := Aside0.mk H
              clear H
              have p160 : 0 ≤ (x4_1 : Int) := of_decide_eq_true (by first | (with_reducible assumption) | assumption)
              have q160 : x4_1 < (l0.length : Int) := of_decide_eq_true (by first | (with_reducible assumption) | assumption)
              obtain ⟨ad160, e160, hx160_0⟩ := Kd.at_string HR0.out x4_1 p160 q160
              cases e160
              replace hx160_0 := (HB.out.cell (World.block_lt_of_cell? w _ hx160_0)).trans hx160_0
              replace p160 := eq_true p160
              replace q160 := eq_true q160
              obtain ⟨Ao7, co7, eo7⟩ := Kd.R_slice HO_3.out
              subst eo7
              go_wp2_with (first | ((with_reducible refine gate_callee (f := 44) rfl ?_); refine goesL_ (some 16) rfl rfl Try.func44 (by kernel_rfl) rfl #[.slice Ao7 x3_1.length co7, .string (rdOf ByteArray.empty l0 x4_1)] rfl (by (try simp only [List.map_toArray, List.map_cons, List.map_nil]); first | done | rfl | (simp only [List.length_drop, List.length_take]; rfl)) ?_; (with_reducible refine (spec_Often.calls k1 _ _ x3_1 (rdOf ByteArray.empty l0 x4_1) t161 _ ?side1 ?side2 A4.out).mono ?_); (case side1 => repeat (first | exact (Kd.R_reads' HO_3.out).2.2 | (with_reducible refine Kd.C_alloc ?_ _) | (with_reducible refine Kd.C_drewN ?_ _) | (with_reducible refine Kd.C_drew ?_))); (case side2 => exact (Kd.R_reads' HO_3.out).2.1); rintro e w' ⟨rfl, ⟨nd, rfl⟩⟩; refine ⟨_, rfl, ?_⟩; have p162 : 0 ≤ (x4_1 : Int) := of_decide_eq_true (by first | (with_reducible assumption) | assumption); have q162 : x4_1 < (l0.length : Int) := of_decide_eq_true (by first | (with_reducible assumption) | assumption); obtain ⟨ad162, e162, hx162_0⟩ := Kd.at_string HR0.out x4_1 p162 q162; obtain rfl : ad160 = ad162 := (by injection e162); replace hx162_0 := (HB.out.cell (World.block_lt_of_cell? w _ hx162_0)).trans hx162_0; replace p162 := eq_true p162; replace q162 := eq_true q162) | ((with_reducible refine gate_builtin (b := .append) (xs := #[.tmp 18, .tmp 23]) rfl ?_); at_builtin; refine Kd.R_append Kd.string (w0 := w) w.heap.size rfl (.tmp 18) (.tmp 23) 22 9 (.string ⟨#[]⟩) 16 rfl Try.underlying22 info9 rfl (by decide) (by omega) (.slice Ao7 x3_1.length co7) x3_1 (rdOf ByteArray.empty l0 x4_1) [.string (rdOf ByteArray.empty l0 x4_1)] (fun _ => True) (fun _ => False) rfl rfl ?aP (fun _ hk => hk.elim) ?aF ?aO ?aB ?aS ?aL ?_; (case aP => exact rfl); (case aB => exact (by repeat (first | (with_reducible first | exact HB.out | apply below_alloc | apply pw_below_drewN | apply below_drew1) | exact HB.out))); (case aF => exact (fun _ _ => trivial)); (case aO => exact (by (with_reducible repeat (first | apply Kd.R_alloc | apply Kd.R_drewN | apply Kd.R_drew)); exact HO_3.out)); (case aS => exact (below_size (by repeat (first | (with_reducible first | exact HB.out | apply below_alloc | apply pw_below_drewN | apply below_drew1) | exact HB.out)))); (case aL => have := LMc6.out; omega); intro v164 w8 ho hb hg hat; rw [← Ny163.out] at ho; have n0_ := Aside0.mk (hb); have n1_ := Aside0.mk (ho); clear HB; clear HO_3; have HB := n0_; have HO165 := n1_; clear n0_ n1_; clear ho hb hg hat))
              go_roundg k1
              case measure => have := HK1.out; omega
              case rel => exact ⟨(y163), (wrap64 (x4_1 + 1)), (by first | rfl | (simp; done) | (simp [*]; done)), H', ⟨by have := HK1.out; omega⟩, ⟨by (with_reducible repeat (first | apply Kd.R_alloc | apply Kd.R_drewN | apply Kd.R_drew)); exact HO165.out⟩, ⟨by repeat (first | (with_reducible first | exact HB.out | apply below_alloc | apply pw_below_drewN | apply below_drew1) | exact HB.out)⟩⟩
            · rw [if_neg c6] at H
              exact absurd H (by simp)
          · rw [if_neg c5] at H
            have c5b0 : (t161 == 0) = false := beq_eq_false_iff_ne.mpr c5
            have c5b1 : (t161 != 0) = true := bne_iff_ne.mpr c5
            have H' := Aside0.mk H
            clear H
            have p160 : 0 ≤ (x4_1 : Int) := of_decide_eq_true (by first | (with_reducible assumption) | assumption)
            have q160 : x4_1 < (l0.length : Int) := of_decide_eq_true (by first | (with_reducible assumption) | assumption)
            obtain ⟨ad160, e160, hx160_0⟩ := Kd.at_string HR0.out x4_1 p160 q160
            cases e160
            replace hx160_0 := (HB.out.cell (World.block_lt_of_cell? w _ hx160_0)).trans hx160_0
            replace p160 := eq_true p160
            replace q160 := eq_true q160
            obtain ⟨Ao9, co9, eo9⟩ := Kd.R_slice HO_3.out
            subst eo9
            go_wp2_with (first | ((with_reducible refine gate_callee (f := 44) rfl ?_); refine goesL_ (some 16) rfl rfl Try.func44 (by kernel_rfl) rfl #[.slice Ao9 x3_1.length co9, .string (rdOf ByteArray.empty l0 x4_1)] rfl (by (try simp only [List.map_toArray, List.map_cons, List.map_nil]); first | done | rfl | (simp only [List.length_drop, List.length_take]; rfl)) ?_; (with_reducible refine (spec_Often.calls k1 _ _ x3_1 (rdOf ByteArray.empty l0 x4_1) t161 _ ?side1 ?side2 A4.out).mono ?_); (case side1 => repeat (first | exact (Kd.R_reads' HO_3.out).2.2 | (with_reducible refine Kd.C_alloc ?_ _) | (with_reducible refine Kd.C_drewN ?_ _) | (with_reducible refine Kd.C_drew ?_))); (case side2 => exact (Kd.R_reads' HO_3.out).2.1); rintro e w' ⟨rfl, ⟨nd, rfl⟩⟩; refine ⟨_, rfl, ?_⟩))
            go_roundg k1
            case measure => have := HK1.out; omega
            case rel => exact ⟨(x3_1), (wrap64 (x4_1 + 1)), (by first | rfl | (simp; done) | (simp [*]; done)), H', ⟨by have := HK1.out; omega⟩, ⟨by (with_reducible repeat (first | apply Kd.R_alloc | apply Kd.R_drewN | apply Kd.R_drew)); exact HO_3.out⟩, ⟨by repeat (first | (with_reducible first | exact HB.out | apply below_alloc | apply pw_below_drewN | apply below_drew1) | exact HB.out)⟩⟩
        · rw [if_neg c3] at H
          exact absurd H (by simp)
      · rw [if_neg c2] at H
        have c2b0 : decide (x4_1 < (l0.length : Int)) = false := decide_eq_false c2
        clear c2
        obtain rfl := Option.some.inj H
        go_wp2
        go_ret
        exact ⟨_, by first | rfl | (simp [errW_none, errW_some] <;> rfl) | (simp [*, errW_none, errW_some] <;> rfl), by (with_reducible repeat (first | apply Kd.R_alloc | apply Kd.R_drewN | apply Kd.R_drew)); exact HO_3.out, by repeat (first | (with_reducible first | exact HB.out | apply below_alloc | apply pw_below_drewN | apply below_drew1) | exact HB.out)⟩

/-! ### util_RemoveDuplicateElement: function 51 -/
/-- each text once, where it first stands -/
def util_RemoveDuplicateElement.f (l0 : List ByteArray) : Option (List ByteArray) :=
  if l0.length < 8796093022208 ∧ (∀ s ∈ l0, s.size ≤ maxLen) then some (onceT [] l0) else none
set_option maxHeartbeats 4000000 in
set_option maxRecDepth 100000 in
theorem util_RemoveDuplicateElement.calls (A0 : Option Addr) (c0 : Nat) (l0 : List ByteArray) (r : List ByteArray) (w : World) (hr0 : Kd.C Kd.string w A0 l0.length l0) (hc0 : l0.length ≤ c0) (h : util_RemoveDuplicateElement.f l0 = some r) :
    Calls Try.prog 51 #[.slice A0 l0.length c0] w fun e w' => ∃ v0_ : Value, e = .returned (v0_) ∧ Kd.R Kd.string 9 w' w.heap.size (fun _ => True) v0_ r ∧ Below w.heap.size w w' := by
  unfold util_RemoveDuplicateElement.f at h
  have hg : l0.length < 8796093022208 ∧ (∀ s ∈ l0, s.size ≤ maxLen) := by
    by_cases hg : l0.length < 8796093022208 ∧ (∀ s ∈ l0, s.size ≤ maxLen)
    · exact hg
    · rw [if_neg hg] at h; cases h
  rw [if_pos hg] at h
  obtain ⟨hl0, hs0⟩ := hg
  obtain rfl := Option.some.inj h
  clear h hc0
  have HS0 := Aside0.mk hs0
  have HR0 := Aside0.mk hr0
  clear hs0 hr0
  have hmm := @run_makeMap Try.prog
  obtain ⟨i0, hi, hz0, hz1, hz2⟩ := info_parts info9
  replace hi := Aside0.mk hi
  replace hz0 := Aside0.mk hz0
  replace hz1 := Aside0.mk hz1
  replace hz2 := Aside0.mk hz2
  go_enter Try.func51, Try.ntmps51
  go_wp2_with (first | (refine wpList_make_own _ rfl (.const (.int .i64 0)) (.tmp 10) 22 rfl w.heap.size 9 i0 (.string ⟨#[]⟩) 1 Try.underlying22 hi.out hz0.out hz1.out .i64 .i64 _ l0.length rfl rfl rfl ?b2 ?b3 ?b4 ?_; (case b2 => rw [hz2.out]; omega); (case b3 => unfold maxLen; omega); (case b4 => exact Nat.le_refl _); intro w1 ho hg; have HO1 := Aside0.mk ho; have HG1 := Aside0.mk hg; clear ho hg))
  clear hmm
  have hs1 : w.heap.size ≤ w1.heap.size := HG1.out.size
  have HB1 := Aside0.mk ((Below.refl w.heap.size w).grown HG1.out (Nat.le_refl _) (fun j hj => by cases hj))
  go_loopw [3, 15] (fun v3 v wr => ∃ k : Nat, k ≤ l0.length ∧ v = .int .i64 k ∧ Aside0 (wr.ownsMap Try.prog 9 unitElem w1.heap.size k (textSet (onceT [] (l0.take k)))) ∧ Aside0 (Kd.R Kd.string 9 wr w.heap.size (fun _ => True) v3 (onceT [] (l0.take k))) ∧ Aside0 (Below w.heap.size w wr) ∧ w1.heap.size < wr.heap.size)
    (fun _ v _ => l0.length - (intOf v).toNat)
  case atStart => exact ⟨0, Nat.zero_le _, rfl, ⟨by rw [List.take_zero]; exact World.ownsMap_made _ _ _ _⟩, ⟨by rw [List.take_zero]; exact Kd.R_alloc ⟨fun _ _ => trivial, [], HO1.out, Reps.none _ _⟩ _⟩, ⟨below_alloc HB1.out _⟩, by rw [World.size_alloc]; omega⟩
  case round =>
    clear HO1 HB1
    obtain ⟨k, hk, rfl, HM, HO, HB, hsz⟩ := hrel
    by_cases hlt : k < l0.length
    · obtain ⟨ad, e1, hx⟩ := Kd.at_string HR0.out (k : Int) (by omega) (by omega)
      cases e1
      replace hx := (HB.out.cell (World.block_lt_of_cell? w _ hx)).trans hx
      rw [show ((k : Int)).toNat = k from by omega, show rdOf ByteArray.empty l0 (k : Int) = l0[k] from by simp [rdOf, List.getD, hlt]] at hx
      have hkey := Aside0.mk (WideMaps.keyOf_string_mk (k := 9) Try.underlying9 (HS0.out l0[k] (by simp)))
      have hTK := Aside0.mk (List.take_succ_eq_append_getElem hlt)
      have hol : (onceT [] (l0.take k)).length ≤ k := by have := onceT_len (l0.take k) []; have h2 := List.length_take_le k l0; have h3 : ([] : List ByteArray).length = 0 := rfl; omega
      have hsn := Aside0.mk (onceT_snoc l0[k] (l0.take k) [])
      obtain ⟨ys, hys⟩ : ∃ y_ : List ByteArray, y_ = onceT [] (l0.take k) := ⟨_, rfl⟩
      rw [← hys] at HM HO hol hsn
      clear hys
      cases hin : hasT ys l0[k] with
      | true =>
        have HH := Aside0.mk ((textSet_has ys l0[k]).trans hin)
        replace hin := Aside0.mk hin
        go_wp2_with (first
          | (at_lookup; refine wpList_lookup_own_unit _ rfl _ _ 48 rfl 9 49 law9 Try.underlying48 (zero49 _) w1.heap.size _ _ rfl HM.out _ _ rfl hkey.out ?_; rw [show Maps.has (textSet ys) (Lit.string l0[k].data.toList) = true from HH.out]))
        go_roundw
        case rel =>
          refine ⟨k + 1, by omega, by go_num, ⟨?_⟩, ⟨?_⟩, ⟨below_alloc HB.out _⟩, by simp; omega⟩
          · rw [hTK.out, hsn.out, if_pos hin.out]
            exact (HM.out.alloc _).mono (Nat.le_succ _)
          · rw [hTK.out, hsn.out, if_pos hin.out]
            exact Kd.R_alloc HO.out _
        case measure => simp [intOf]; omega
      | false =>
        have HH := Aside0.mk ((textSet_has ys l0[k]).trans hin)
        replace hin := Aside0.mk hin
        go_wp2_with (first
          | (at_lookup; refine wpList_lookup_own_unit _ rfl _ _ 48 rfl 9 49 law9 Try.underlying48 (zero49 _) w1.heap.size _ _ rfl HM.out _ _ rfl hkey.out ?_; rw [show Maps.has (textSet ys) (Lit.string l0[k].data.toList) = false from HH.out])
          | (at_mapUpdate; refine wpList_mapUpdate_own _ rfl _ _ _ 48 rfl 9 49 law9 Try.underlying48 (unitElem (H := Unit)) w1.heap.size k _ rfl (HM.out.alloc _) (by unfold maxLen; omega) _ _ _ rfl rfl hkey.out _ [] unitElem_mk ?_; intro w2 hown1 hgrow1; have HM2 := Aside0.mk hown1; have HG2 := Aside0.mk hgrow1; have HO2 := Aside0.mk (R_over_map (HM.out.alloc (.cells #[] 49)) (Kd.R_alloc HO.out (.cells #[] 49)) hgrow1); have HB2 := Aside0.mk ((below_alloc HB.out (.cells #[] 49)).grown hgrow1 (by simp; omega) (fun j hj => by cases hj; exact hs1)); clear hown1 hgrow1)
          | ((with_reducible refine gate_builtin (b := .append) (xs := #[.tmp 30, .tmp 32]) rfl ?_); at_builtin; refine Kd.R_append Kd.string (w0 := w) w.heap.size rfl (.tmp 30) (.tmp 32) 22 9 (.string ⟨#[]⟩) 16 rfl Try.underlying22 info9 rfl (by decide) (by omega) u3 ys l0[k] [.string l0[k]] (fun _ => True) (fun _ => False) rfl ?aX ?aP (fun _ hk => hk.elim) ?aF ?aO ?aB ?aS ?aL ?_; (case aX => rfl); (case aP => exact rfl); (case aB => exact HB2.out); (case aF => exact (fun _ _ => trivial)); (case aO => exact HO2.out); (case aS => exact below_size HB2.out); (case aL => omega); intro v140 w8 ho hb hg hat; have n0_ := Aside0.mk hb; have n1_ := Aside0.mk ho; have n2_ := Aside0.mk hg; clear ho hb hg hat))
        go_roundw
        case rel =>
          have := HG2.out.size
          have := n2_.out.size
          refine ⟨k + 1, by omega, by go_num, ⟨?_⟩, ⟨?_⟩, n0_, by simp at *; omega⟩
          · rw [hTK.out, hsn.out, if_neg (by rw [hin.out]; simp), textSet_snoc]
            exact HM2.out.kept n2_.out (map_ne_row HM2.out HO2.out)
          · rw [hTK.out, hsn.out, if_neg (by rw [hin.out]; simp)]
            exact n1_.out
        case measure => simp [intOf]; omega
    · obtain rfl : k = l0.length := by omega
      rw [List.take_length] at HO
      go_wp2
      go_ret
      exact ⟨_, rfl, HO.out, HB.out⟩

/-! ### impl_RemoveDuplicateElement: function 29 -/
def impl_RemoveDuplicateElement.f (l0 : List ByteArray) : Option (List ByteArray) := (util_RemoveDuplicateElement.f l0).bind fun t166 => (some t166)
set_option maxHeartbeats 8000000 in
set_option maxRecDepth 100000 in
theorem impl_RemoveDuplicateElement.calls (A0 : Option Addr) (c0 : Nat) (l0 : List ByteArray) (r : List ByteArray) (w : World) (hr0 : Kd.C Kd.string w A0 l0.length l0) (hc0 : l0.length ≤ c0) (h : impl_RemoveDuplicateElement.f l0 = some r) :
    Calls Try.prog 29 #[.slice A0 l0.length c0] w fun e w' => ∃ v0_ : Value, e = .returned (v0_) ∧ Kd.R Kd.string 9 w' w.heap.size (fun _ => True) v0_ r ∧ Below w.heap.size w w' := by
  have HR0 := Aside0.mk hr0
  have HC0 := Aside0.mk hc0
  clear hr0 hc0
  have HB := Aside0.mk (Below.refl w.heap.size w)
  have H : ((util_RemoveDuplicateElement.f l0).bind fun t166 => (some t166)) = some r := h
  clear h
  replace H := Option.bind_eq_some_iff.mp H
  obtain ⟨t166, A20, H⟩ := H
  replace H : (some t166) = some r := H
  have A2 := Aside0.mk A20
  clear A20
  obtain rfl := Option.some.inj H
  go_enter Try.func29, Try.ntmps29
  go_wp2_with (first | ((with_reducible refine gate_callee (f := 51) rfl ?_); refine goesL_ (some 4) rfl rfl Try.func51 (by kernel_rfl) rfl #[.slice A0 l0.length c0] rfl (by (try simp only [List.map_toArray, List.map_cons, List.map_nil]); first | done | rfl | (simp only [List.length_drop, List.length_take]; rfl)) ?_; (with_reducible refine (util_RemoveDuplicateElement.calls _ _ l0 t166 _ ?side1 ?side2 A2.out).mono ?_); (case side1 => repeat (first | exact HR0.out | (with_reducible refine Kd.C_alloc ?_ _) | (with_reducible refine Kd.C_drewN ?_ _) | (with_reducible refine Kd.C_drew ?_))); (case side2 => exact HC0.out); rintro e w3 ⟨v167, rfl, ho0, hb⟩; refine ⟨_, rfl, ?_⟩; have n0_ := Aside0.mk (Kd.R_lower ho0 (below_size (by repeat (first | (with_reducible first | exact HB.out | apply below_alloc | apply pw_below_drewN | apply below_drew1) | exact HB.out)))); have n1_ := Aside0.mk (below_step (by repeat (first | (with_reducible first | exact HB.out | apply below_alloc | apply pw_below_drewN | apply below_drew1) | exact HB.out)) hb); clear HB; have HO168 := n0_; have HB := n1_; clear n0_ n1_; (try clear hb); (try clear hb2); (try clear hk); (try clear hi); (try clear ho0)))
  go_ret
  exact ⟨_, by first | rfl | (simp [errW_none, errW_some] <;> rfl) | (simp [*, errW_none, errW_some] <;> rfl), by (with_reducible repeat (first | apply Kd.R_alloc | apply Kd.R_drewN | apply Kd.R_drew)); exact HO168.out, by repeat (first | (with_reducible first | exact HB.out | apply below_alloc | apply pw_below_drewN | apply below_drew1) | exact HB.out)⟩

/-! ### laws_FnOnce: function 6 -/
def laws_FnOnce.f (k : Nat) (l0 : List ByteArray) : Option (Bool) := (laws_zzFits10.f k l0).bind fun t169 => (if t169 = true then ((laws_texts.f l0).bind fun t170 => (if t170 = true then ((laws_copied.f l0).bind fun t172 => ((impl_RemoveDuplicates.f t172).bind fun t175 => ((spec_Distinct.f k l0).bind fun t178 => ((laws_sameSet.f k t175 t178).bind fun t181 => (if t181 = true then ((laws_copied.f l0).bind fun t182 => ((impl_RemoveDuplicateElement.f t182).bind fun t185 => ((spec_Distinct.f k l0).bind fun t188 => ((spec_SameList.f k t185 t188).bind fun t191 => (if t191 = true then ((laws_awakeUtil.f k).bind fun t192 => (some t192)) else (some false)))))) else (some false)))))) else ((laws_awakeUtil.f k).bind fun t171 => (some t171)))) else (some true))
theorem laws_FnOnce.mono : ∀ a0 k, LeO (laws_FnOnce.f k a0) (laws_FnOnce.f (k + 1) a0) := by
  intro a0 k
  unfold laws_FnOnce.f
  repeat' first
      | (with_reducible exact laws_awakeUtil.mono _)
      | (with_reducible exact laws_sameSet.mono _ _ _)
      | (with_reducible exact laws_zzFits10.mono _ _)
      | (with_reducible exact spec_Distinct.mono _ _)
      | (with_reducible exact spec_SameList.mono _ _ _)
      | (with_reducible exact LeO.refl _)
      | (with_reducible exact LeO.none _)
      | (with_reducible refine LeO.ite ?_ ?_)
      | (with_reducible refine LeO.bind ?_ (fun _ => ?_))
      | exact laws_awakeUtil.mono _
      | exact laws_sameSet.mono _ _ _
      | exact laws_zzFits10.mono _ _
      | exact spec_Distinct.mono _ _
      | exact spec_SameList.mono _ _ _
      | exact LeO.none _
      | refine LeO.ite ?_ ?_
      | refine LeO.bind ?_ (fun _ => ?_)
set_option maxHeartbeats 8000000 in
set_option maxRecDepth 100000 in
theorem laws_FnOnce.calls (k : Nat) (A0 : Option Addr) (c0 : Nat) (l0 : List ByteArray) (r : Bool) (w : World) (hr0 : Kd.C Kd.string w A0 l0.length l0) (hc0 : l0.length ≤ c0) (h : laws_FnOnce.f k l0 = some r) :
    Calls Try.prog 6 #[.slice A0 l0.length c0] w fun e w' => e = .returned (.bool r) ∧ Below w.heap.size w w' := by
  have HR0 := Aside0.mk hr0
  have HC0 := Aside0.mk hc0
  clear hr0 hc0
  have HB := Aside0.mk (Below.refl w.heap.size w)
  have H : ((laws_zzFits10.f k l0).bind fun t169 => (if t169 = true then ((laws_texts.f l0).bind fun t170 => (if t170 = true then ((laws_copied.f l0).bind fun t172 => ((impl_RemoveDuplicates.f t172).bind fun t175 => ((spec_Distinct.f k l0).bind fun t178 => ((laws_sameSet.f k t175 t178).bind fun t181 => (if t181 = true then ((laws_copied.f l0).bind fun t182 => ((impl_RemoveDuplicateElement.f t182).bind fun t185 => ((spec_Distinct.f k l0).bind fun t188 => ((spec_SameList.f k t185 t188).bind fun t191 => (if t191 = true then ((laws_awakeUtil.f k).bind fun t192 => (some t192)) else (some false)))))) else (some false)))))) else ((laws_awakeUtil.f k).bind fun t171 => (some t171)))) else (some true))) = some r := h
  clear h
  replace H := Option.bind_eq_some_iff.mp H
  obtain ⟨t169, A20, H⟩ := H
  replace H : (if t169 = true then ((laws_texts.f l0).bind fun t170 => (if t170 = true then ((laws_copied.f l0).bind fun t172 => ((impl_RemoveDuplicates.f t172).bind fun t175 => ((spec_Distinct.f k l0).bind fun t178 => ((laws_sameSet.f k t175 t178).bind fun t181 => (if t181 = true then ((laws_copied.f l0).bind fun t182 => ((impl_RemoveDuplicateElement.f t182).bind fun t185 => ((spec_Distinct.f k l0).bind fun t188 => ((spec_SameList.f k t185 t188).bind fun t191 => (if t191 = true then ((laws_awakeUtil.f k).bind fun t192 => (some t192)) else (some false)))))) else (some false)))))) else ((laws_awakeUtil.f k).bind fun t171 => (some t171)))) else (some true)) = some r := H
  have A2 := Aside0.mk A20
  clear A20
  by_cases c3 : t169 = true
  · subst c3
    have H1 : ((laws_texts.f l0).bind fun t170 => (if t170 = true then ((laws_copied.f l0).bind fun t172 => ((impl_RemoveDuplicates.f t172).bind fun t175 => ((spec_Distinct.f k l0).bind fun t178 => ((laws_sameSet.f k t175 t178).bind fun t181 => (if t181 = true then ((laws_copied.f l0).bind fun t182 => ((impl_RemoveDuplicateElement.f t182).bind fun t185 => ((spec_Distinct.f k l0).bind fun t188 => ((spec_SameList.f k t185 t188).bind fun t191 => (if t191 = true then ((laws_awakeUtil.f k).bind fun t192 => (some t192)) else (some false)))))) else (some false)))))) else ((laws_awakeUtil.f k).bind fun t171 => (some t171)))) = some r := by rw [if_pos rfl] at H; exact H
    clear H
    have H := H1
    clear H1
    replace H := Option.bind_eq_some_iff.mp H
    obtain ⟨t170, A40, H⟩ := H
    replace H : (if t170 = true then ((laws_copied.f l0).bind fun t172 => ((impl_RemoveDuplicates.f t172).bind fun t175 => ((spec_Distinct.f k l0).bind fun t178 => ((laws_sameSet.f k t175 t178).bind fun t181 => (if t181 = true then ((laws_copied.f l0).bind fun t182 => ((impl_RemoveDuplicateElement.f t182).bind fun t185 => ((spec_Distinct.f k l0).bind fun t188 => ((spec_SameList.f k t185 t188).bind fun t191 => (if t191 = true then ((laws_awakeUtil.f k).bind fun t192 => (some t192)) else (some false)))))) else (some false)))))) else ((laws_awakeUtil.f k).bind fun t171 => (some t171))) = some r := H
    have A4 := Aside0.mk A40
    clear A40
    by_cases c5 : t170 = true
    · subst c5
      have H1 : ((laws_copied.f l0).bind fun t172 => ((impl_RemoveDuplicates.f t172).bind fun t175 => ((spec_Distinct.f k l0).bind fun t178 => ((laws_sameSet.f k t175 t178).bind fun t181 => (if t181 = true then ((laws_copied.f l0).bind fun t182 => ((impl_RemoveDuplicateElement.f t182).bind fun t185 => ((spec_Distinct.f k l0).bind fun t188 => ((spec_SameList.f k t185 t188).bind fun t191 => (if t191 = true then ((laws_awakeUtil.f k).bind fun t192 => (some t192)) else (some false)))))) else (some false)))))) = some r := by rw [if_pos rfl] at H; exact H
      clear H
      have H := H1
      clear H1
      replace H := Option.bind_eq_some_iff.mp H
      obtain ⟨t172, A60, H⟩ := H
      replace H : ((impl_RemoveDuplicates.f t172).bind fun t175 => ((spec_Distinct.f k l0).bind fun t178 => ((laws_sameSet.f k t175 t178).bind fun t181 => (if t181 = true then ((laws_copied.f l0).bind fun t182 => ((impl_RemoveDuplicateElement.f t182).bind fun t185 => ((spec_Distinct.f k l0).bind fun t188 => ((spec_SameList.f k t185 t188).bind fun t191 => (if t191 = true then ((laws_awakeUtil.f k).bind fun t192 => (some t192)) else (some false)))))) else (some false))))) = some r := H
      have A6 := Aside0.mk A60
      clear A60
      replace H := Option.bind_eq_some_iff.mp H
      obtain ⟨t175, A70, H⟩ := H
      replace H : ((spec_Distinct.f k l0).bind fun t178 => ((laws_sameSet.f k t175 t178).bind fun t181 => (if t181 = true then ((laws_copied.f l0).bind fun t182 => ((impl_RemoveDuplicateElement.f t182).bind fun t185 => ((spec_Distinct.f k l0).bind fun t188 => ((spec_SameList.f k t185 t188).bind fun t191 => (if t191 = true then ((laws_awakeUtil.f k).bind fun t192 => (some t192)) else (some false)))))) else (some false)))) = some r := H
      have A7 := Aside0.mk A70
      clear A70
      replace H := Option.bind_eq_some_iff.mp H
      obtain ⟨t178, A80, H⟩ := H
      replace H : ((laws_sameSet.f k t175 t178).bind fun t181 => (if t181 = true then ((laws_copied.f l0).bind fun t182 => ((impl_RemoveDuplicateElement.f t182).bind fun t185 => ((spec_Distinct.f k l0).bind fun t188 => ((spec_SameList.f k t185 t188).bind fun t191 => (if t191 = true then ((laws_awakeUtil.f k).bind fun t192 => (some t192)) else (some false)))))) else (some false))) = some r := H
      have A8 := Aside0.mk A80
      clear A80
      replace H := Option.bind_eq_some_iff.mp H
      obtain ⟨t181, A90, H⟩ := H
      replace H : (if t181 = true then ((laws_copied.f l0).bind fun t182 => ((impl_RemoveDuplicateElement.f t182).bind fun t185 => ((spec_Distinct.f k l0).bind fun t188 => ((spec_SameList.f k t185 t188).bind fun t191 => (if t191 = true then ((laws_awakeUtil.f k).bind fun t192 => (some t192)) else (some false)))))) else (some false)) = some r := H
      have A9 := Aside0.mk A90
      clear A90
      by_cases c10 : t181 = true
      · subst c10
        have H1 : ((laws_copied.f l0).bind fun t182 => ((impl_RemoveDuplicateElement.f t182).bind fun t185 => ((spec_Distinct.f k l0).bind fun t188 => ((spec_SameList.f k t185 t188).bind fun t191 => (if t191 = true then ((laws_awakeUtil.f k).bind fun t192 => (some t192)) else (some false)))))) = some r := by rw [if_pos rfl] at H; exact H
        clear H
        have H := H1
        clear H1
        replace H := Option.bind_eq_some_iff.mp H
        obtain ⟨t182, A110, H⟩ := H
        replace H : ((impl_RemoveDuplicateElement.f t182).bind fun t185 => ((spec_Distinct.f k l0).bind fun t188 => ((spec_SameList.f k t185 t188).bind fun t191 => (if t191 = true then ((laws_awakeUtil.f k).bind fun t192 => (some t192)) else (some false))))) = some r := H
        have A11 := Aside0.mk A110
        clear A110
        replace H := Option.bind_eq_some_iff.mp H
        obtain ⟨t185, A120, H⟩ := H
        replace H : ((spec_Distinct.f k l0).bind fun t188 => ((spec_SameList.f k t185 t188).bind fun t191 => (if t191 = true then ((laws_awakeUtil.f k).bind fun t192 => (some t192)) else (some false)))) = some r := H
        have A12 := Aside0.mk A120
        clear A120
        replace H := Option.bind_eq_some_iff.mp H
        obtain ⟨t188, A130, H⟩ := H
        replace H : ((spec_SameList.f k t185 t188).bind fun t191 => (if t191 = true then ((laws_awakeUtil.f k).bind fun t192 => (some t192)) else (some false))) = some r := H
        have A13 := Aside0.mk A130
        clear A130
        replace H := Option.bind_eq_some_iff.mp H
        obtain ⟨t191, A140, H⟩ := H
        replace H : (if t191 = true then ((laws_awakeUtil.f k).bind fun t192 => (some t192)) else (some false)) = some r := H
        have A14 := Aside0.mk A140
        clear A140
        by_cases c15 : t191 = true
        · subst c15
          have H1 : ((laws_awakeUtil.f k).bind fun t192 => (some t192)) = some r := by rw [if_pos rfl] at H; exact H
          clear H
          have H := H1
          clear H1
          replace H := Option.bind_eq_some_iff.mp H
          obtain ⟨t192, A160, H⟩ := H
          replace H : (some t192) = some r := H
          have A16 := Aside0.mk A160
          clear A160
          obtain rfl := Option.some.inj H
          go_enter Try.func6, Try.ntmps6
          go_wp2_with (first | ((with_reducible refine gate_callee (f := 10) rfl ?_); refine goesL_ (some 4) rfl rfl Try.func10 (by kernel_rfl) rfl #[.slice A0 l0.length c0] rfl (by (try simp only [List.map_toArray, List.map_cons, List.map_nil]); first | done | rfl | (simp only [List.length_drop, List.length_take]; rfl)) ?_; (with_reducible refine (laws_zzFits10.calls k _ _ l0 true _ ?side1 ?side2 A2.out).mono ?_); (case side1 => repeat (first | exact HR0.out | (with_reducible refine Kd.C_alloc ?_ _) | (with_reducible refine Kd.C_drewN ?_ _) | (with_reducible refine Kd.C_drew ?_))); (case side2 => exact HC0.out); rintro e w' ⟨rfl, ⟨nd, rfl⟩⟩; refine ⟨_, rfl, ?_⟩) | ((with_reducible refine gate_callee (f := 12) rfl ?_); refine goesL_ (some 7) rfl rfl Try.func12 (by kernel_rfl) rfl #[.slice A0 l0.length c0] rfl (by (try simp only [List.map_toArray, List.map_cons, List.map_nil]); first | done | rfl | (simp only [List.length_drop, List.length_take]; rfl)) ?_; (with_reducible refine (laws_texts.calls _ _ l0 true _ ?side1 ?side2 A4.out).mono ?_); (case side1 => repeat (first | exact HR0.out | (with_reducible refine Kd.C_alloc ?_ _) | (with_reducible refine Kd.C_drewN ?_ _) | (with_reducible refine Kd.C_drew ?_))); (case side2 => exact HC0.out); rintro e w' ⟨rfl, ⟨nd, rfl⟩⟩; refine ⟨_, rfl, ?_⟩) | ((with_reducible refine gate_callee (f := 16) rfl ?_); refine goesL_ (some 11) rfl rfl Try.func16 (by kernel_rfl) rfl #[.slice A0 l0.length c0] rfl (by (try simp only [List.map_toArray, List.map_cons, List.map_nil]); first | done | rfl | (simp only [List.length_drop, List.length_take]; rfl)) ?_; (with_reducible refine (laws_copied.calls _ _ l0 t172 _ ?side1 ?side2 A6.out).mono ?_); (case side1 => repeat (first | exact HR0.out | (with_reducible refine Kd.C_alloc ?_ _) | (with_reducible refine Kd.C_drewN ?_ _) | (with_reducible refine Kd.C_drew ?_))); (case side2 => exact HC0.out); rintro e w17 ⟨v173, rfl, ho0, hb⟩; refine ⟨_, rfl, ?_⟩; have n0_ := Aside0.mk (Kd.R_lower ho0 (below_size (by repeat (first | (with_reducible first | exact HB.out | apply below_alloc | apply pw_below_drewN | apply below_drew1) | exact HB.out)))); have n1_ := Aside0.mk (below_step (by repeat (first | (with_reducible first | exact HB.out | apply below_alloc | apply pw_below_drewN | apply below_drew1) | exact HB.out)) hb); clear HB; have HO174 := n0_; have HB := n1_; clear n0_ n1_; (try clear hb); (try clear hb2); (try clear hk); (try clear hi); (try clear ho0); obtain ⟨Ao18, co18, eo18⟩ := Kd.R_slice HO174.out; subst eo18) | ((with_reducible refine gate_callee (f := 27) rfl ?_); refine goesL_ (some 12) rfl rfl Try.func27 (by kernel_rfl) rfl #[.slice Ao18 t172.length co18] rfl (by (try simp only [List.map_toArray, List.map_cons, List.map_nil]); first | done | rfl | (simp only [List.length_drop, List.length_take]; rfl)) ?_; (with_reducible refine (impl_RemoveDuplicates.calls _ _ t172 t175 _ ?side1 ?side2 A7.out).mono ?_); (case side1 => repeat (first | exact (Kd.R_reads' HO174.out).2.2 | (with_reducible refine Kd.C_alloc ?_ _) | (with_reducible refine Kd.C_drewN ?_ _) | (with_reducible refine Kd.C_drew ?_))); (case side2 => exact (Kd.R_reads' HO174.out).2.1); rintro e w19 ⟨v176, rfl, ho0, hb⟩; refine ⟨_, rfl, ?_⟩; have n0_ := Aside0.mk (Kd.R_elder' (by (with_reducible repeat (first | apply Kd.R_alloc | apply Kd.R_drewN | apply Kd.R_drew)); exact HO174.out) (Kd.R_base ho0) hb); have n1_ := Aside0.mk (Kd.R_lower (Kd.R_new' ho0 (Kd.R_lt (by (with_reducible repeat (first | apply Kd.R_alloc | apply Kd.R_drewN | apply Kd.R_drew)); exact HO174.out))) (below_size (by repeat (first | (with_reducible first | exact HB.out | apply below_alloc | apply pw_below_drewN | apply below_drew1) | exact HB.out)))); have n2_ := Aside0.mk (below_step (by repeat (first | (with_reducible first | exact HB.out | apply below_alloc | apply pw_below_drewN | apply below_drew1) | exact HB.out)) hb); clear HO174; clear HB; have HO174 := n0_; have HO177 := n1_; have HB := n2_; clear n0_ n1_ n2_; (try clear hb); (try clear hb2); (try clear hk); (try clear hi); (try clear ho0)) | ((with_reducible refine gate_callee (f := 28) rfl ?_); refine goesL_ (some 14) rfl rfl Try.func28 (by kernel_rfl) rfl #[.slice A0 l0.length c0] rfl (by (try simp only [List.map_toArray, List.map_cons, List.map_nil]); first | done | rfl | (simp only [List.length_drop, List.length_take]; rfl)) ?_; (with_reducible refine (spec_Distinct.calls k _ _ l0 t178 _ ?side1 ?side2 A8.out).mono ?_); (case side1 => repeat (first | exact (Kd.C_below HR0.out HB.out) | (with_reducible refine Kd.C_alloc ?_ _) | (with_reducible refine Kd.C_drewN ?_ _) | (with_reducible refine Kd.C_drew ?_))); (case side2 => exact HC0.out); rintro e w20 ⟨v179, rfl, ho0, hb⟩; refine ⟨_, rfl, ?_⟩; have n0_ := Aside0.mk (Kd.R_elder' (by (with_reducible repeat (first | apply Kd.R_alloc | apply Kd.R_drewN | apply Kd.R_drew)); exact HO174.out) (Kd.R_base ho0) hb); have n1_ := Aside0.mk (Kd.R_elder' (by (with_reducible repeat (first | apply Kd.R_alloc | apply Kd.R_drewN | apply Kd.R_drew)); exact HO177.out) (Kd.R_base ho0) hb); have n2_ := Aside0.mk (Kd.R_lower (Kd.R_new' (Kd.R_new' ho0 (Kd.R_lt (by (with_reducible repeat (first | apply Kd.R_alloc | apply Kd.R_drewN | apply Kd.R_drew)); exact HO174.out))) (Kd.R_lt (by (with_reducible repeat (first | apply Kd.R_alloc | apply Kd.R_drewN | apply Kd.R_drew)); exact HO177.out))) (below_size (by repeat (first | (with_reducible first | exact HB.out | apply below_alloc | apply pw_below_drewN | apply below_drew1) | exact HB.out)))); have n3_ := Aside0.mk (below_step (by repeat (first | (with_reducible first | exact HB.out | apply below_alloc | apply pw_below_drewN | apply below_drew1) | exact HB.out)) hb); clear HO174; clear HO177; clear HB; have HO174 := n0_; have HO177 := n1_; have HO180 := n2_; have HB := n3_; clear n0_ n1_ n2_ n3_; (try clear hb); (try clear hb2); (try clear hk); (try clear hi); (try clear ho0); obtain ⟨Ao21, co21, eo21⟩ := Kd.R_slice HO177.out; subst eo21; obtain ⟨Ao22, co22, eo22⟩ := Kd.R_slice HO180.out; subst eo22) | ((with_reducible refine gate_callee (f := 26) rfl ?_); refine goesL_ (some 15) rfl rfl Try.func26 (by kernel_rfl) rfl #[.slice Ao21 t175.length co21, .slice Ao22 t178.length co22] rfl (by (try simp only [List.map_toArray, List.map_cons, List.map_nil]); first | done | rfl | (simp only [List.length_drop, List.length_take]; rfl)) ?_; (with_reducible refine (laws_sameSet.calls k _ _ t175 _ _ t178 true _ ?side1 ?side2 ?side3 ?side4 A9.out).mono ?_); (case side1 => repeat (first | exact (Kd.R_reads' HO177.out).2.2 | (with_reducible refine Kd.C_alloc ?_ _) | (with_reducible refine Kd.C_drewN ?_ _) | (with_reducible refine Kd.C_drew ?_))); (case side2 => exact (Kd.R_reads' HO177.out).2.1); (case side3 => repeat (first | exact (Kd.R_reads' HO180.out).2.2 | (with_reducible refine Kd.C_alloc ?_ _) | (with_reducible refine Kd.C_drewN ?_ _) | (with_reducible refine Kd.C_drew ?_))); (case side4 => exact (Kd.R_reads' HO180.out).2.1); rintro e w23 ⟨rfl, hb⟩; refine ⟨_, rfl, ?_⟩; have n0_ := Aside0.mk (Kd.R_below (by (with_reducible repeat (first | apply Kd.R_alloc | apply Kd.R_drewN | apply Kd.R_drew)); exact HO174.out) hb); have n1_ := Aside0.mk (Kd.R_below (by (with_reducible repeat (first | apply Kd.R_alloc | apply Kd.R_drewN | apply Kd.R_drew)); exact HO177.out) hb); have n2_ := Aside0.mk (Kd.R_below (by (with_reducible repeat (first | apply Kd.R_alloc | apply Kd.R_drewN | apply Kd.R_drew)); exact HO180.out) hb); have n3_ := Aside0.mk (below_step (by repeat (first | (with_reducible first | exact HB.out | apply below_alloc | apply pw_below_drewN | apply below_drew1) | exact HB.out)) hb); clear HO174; clear HO177; clear HO180; clear HB; have HO174 := n0_; have HO177 := n1_; have HO180 := n2_; have HB := n3_; clear n0_ n1_ n2_ n3_; (try clear hb); (try clear hb2); (try clear hk); (try clear hi)) | (go_at_call 16; (with_reducible refine (laws_copied.calls _ _ l0 t182 _ ?side1 ?side2 A11.out).mono ?_); (case side1 => repeat (first | exact (Kd.C_below HR0.out HB.out) | (with_reducible refine Kd.C_alloc ?_ _) | (with_reducible refine Kd.C_drewN ?_ _) | (with_reducible refine Kd.C_drew ?_))); (case side2 => exact HC0.out); rintro e w24 ⟨v183, rfl, ho0, hb⟩; have n0_ := Aside0.mk (Kd.R_elder' (by (with_reducible repeat (first | apply Kd.R_alloc | apply Kd.R_drewN | apply Kd.R_drew)); exact HO174.out) (Kd.R_base ho0) hb); have n1_ := Aside0.mk (Kd.R_elder' (by (with_reducible repeat (first | apply Kd.R_alloc | apply Kd.R_drewN | apply Kd.R_drew)); exact HO177.out) (Kd.R_base ho0) hb); have n2_ := Aside0.mk (Kd.R_elder' (by (with_reducible repeat (first | apply Kd.R_alloc | apply Kd.R_drewN | apply Kd.R_drew)); exact HO180.out) (Kd.R_base ho0) hb); have n3_ := Aside0.mk (Kd.R_lower (Kd.R_new' (Kd.R_new' (Kd.R_new' ho0 (Kd.R_lt (by (with_reducible repeat (first | apply Kd.R_alloc | apply Kd.R_drewN | apply Kd.R_drew)); exact HO174.out))) (Kd.R_lt (by (with_reducible repeat (first | apply Kd.R_alloc | apply Kd.R_drewN | apply Kd.R_drew)); exact HO177.out))) (Kd.R_lt (by (with_reducible repeat (first | apply Kd.R_alloc | apply Kd.R_drewN | apply Kd.R_drew)); exact HO180.out))) (below_size (by repeat (first | (with_reducible first | exact HB.out | apply below_alloc | apply pw_below_drewN | apply below_drew1) | exact HB.out)))); have n4_ := Aside0.mk (below_step (by repeat (first | (with_reducible first | exact HB.out | apply below_alloc | apply pw_below_drewN | apply below_drew1) | exact HB.out)) hb); clear HO174; clear HO177; clear HO180; clear HB; have HO174 := n0_; have HO177 := n1_; have HO180 := n2_; have HO184 := n3_; have HB := n4_; clear n0_ n1_ n2_ n3_ n4_; (try clear hb); (try clear hb2); (try clear hk); (try clear hi); (try clear ho0); obtain ⟨Ao25, co25, eo25⟩ := Kd.R_slice HO184.out; subst eo25) | (go_at_call 29; (with_reducible refine (impl_RemoveDuplicateElement.calls _ _ t182 t185 _ ?side1 ?side2 A12.out).mono ?_); (case side1 => repeat (first | exact (Kd.R_reads' HO184.out).2.2 | (with_reducible refine Kd.C_alloc ?_ _) | (with_reducible refine Kd.C_drewN ?_ _) | (with_reducible refine Kd.C_drew ?_))); (case side2 => exact (Kd.R_reads' HO184.out).2.1); rintro e w26 ⟨v186, rfl, ho0, hb⟩; have n0_ := Aside0.mk (Kd.R_elder' (by (with_reducible repeat (first | apply Kd.R_alloc | apply Kd.R_drewN | apply Kd.R_drew)); exact HO174.out) (Kd.R_base ho0) hb); have n1_ := Aside0.mk (Kd.R_elder' (by (with_reducible repeat (first | apply Kd.R_alloc | apply Kd.R_drewN | apply Kd.R_drew)); exact HO177.out) (Kd.R_base ho0) hb); have n2_ := Aside0.mk (Kd.R_elder' (by (with_reducible repeat (first | apply Kd.R_alloc | apply Kd.R_drewN | apply Kd.R_drew)); exact HO180.out) (Kd.R_base ho0) hb); have n3_ := Aside0.mk (Kd.R_elder' (by (with_reducible repeat (first | apply Kd.R_alloc | apply Kd.R_drewN | apply Kd.R_drew)); exact HO184.out) (Kd.R_base ho0) hb); have n4_ := Aside0.mk (Kd.R_lower (Kd.R_new' (Kd.R_new' (Kd.R_new' (Kd.R_new' ho0 (Kd.R_lt (by (with_reducible repeat (first | apply Kd.R_alloc | apply Kd.R_drewN | apply Kd.R_drew)); exact HO174.out))) (Kd.R_lt (by (with_reducible repeat (first | apply Kd.R_alloc | apply Kd.R_drewN | apply Kd.R_drew)); exact HO177.out))) (Kd.R_lt (by (with_reducible repeat (first | apply Kd.R_alloc | apply Kd.R_drewN | apply Kd.R_drew)); exact HO180.out))) (Kd.R_lt (by (with_reducible repeat (first | apply Kd.R_alloc | apply Kd.R_drewN | apply Kd.R_drew)); exact HO184.out))) (below_size (by repeat (first | (with_reducible first | exact HB.out | apply below_alloc | apply pw_below_drewN | apply below_drew1) | exact HB.out)))); have n5_ := Aside0.mk (below_step (by repeat (first | (with_reducible first | exact HB.out | apply below_alloc | apply pw_below_drewN | apply below_drew1) | exact HB.out)) hb); clear HO174; clear HO177; clear HO180; clear HO184; clear HB; have HO174 := n0_; have HO177 := n1_; have HO180 := n2_; have HO184 := n3_; have HO187 := n4_; have HB := n5_; clear n0_ n1_ n2_ n3_ n4_ n5_; (try clear hb); (try clear hb2); (try clear hk); (try clear hi); (try clear ho0)) | (go_at_call 28; (with_reducible refine (spec_Distinct.calls k _ _ l0 t188 _ ?side1 ?side2 A13.out).mono ?_); (case side1 => repeat (first | exact (Kd.C_below HR0.out HB.out) | (with_reducible refine Kd.C_alloc ?_ _) | (with_reducible refine Kd.C_drewN ?_ _) | (with_reducible refine Kd.C_drew ?_))); (case side2 => exact HC0.out); rintro e w27 ⟨v189, rfl, ho0, hb⟩; have n0_ := Aside0.mk (Kd.R_elder' (by (with_reducible repeat (first | apply Kd.R_alloc | apply Kd.R_drewN | apply Kd.R_drew)); exact HO174.out) (Kd.R_base ho0) hb); have n1_ := Aside0.mk (Kd.R_elder' (by (with_reducible repeat (first | apply Kd.R_alloc | apply Kd.R_drewN | apply Kd.R_drew)); exact HO177.out) (Kd.R_base ho0) hb); have n2_ := Aside0.mk (Kd.R_elder' (by (with_reducible repeat (first | apply Kd.R_alloc | apply Kd.R_drewN | apply Kd.R_drew)); exact HO180.out) (Kd.R_base ho0) hb); have n3_ := Aside0.mk (Kd.R_elder' (by (with_reducible repeat (first | apply Kd.R_alloc | apply Kd.R_drewN | apply Kd.R_drew)); exact HO184.out) (Kd.R_base ho0) hb); have n4_ := Aside0.mk (Kd.R_elder' (by (with_reducible repeat (first | apply Kd.R_alloc | apply Kd.R_drewN | apply Kd.R_drew)); exact HO187.out) (Kd.R_base ho0) hb); have n5_ := Aside0.mk (Kd.R_lower (Kd.R_new' (Kd.R_new' (Kd.R_new' (Kd.R_new' (Kd.R_new' ho0 (Kd.R_lt (by (with_reducible repeat (first | apply Kd.R_alloc | apply Kd.R_drewN | apply Kd.R_drew)); exact HO174.out))) (Kd.R_lt (by (with_reducible repeat (first | apply Kd.R_alloc | apply Kd.R_drewN | apply Kd.R_drew)); exact HO177.out))) (Kd.R_lt (by (with_reducible repeat (first | apply Kd.R_alloc | apply Kd.R_drewN | apply Kd.R_drew)); exact HO180.out))) (Kd.R_lt (by (with_reducible repeat (first | apply Kd.R_alloc | apply Kd.R_drewN | apply Kd.R_drew)); exact HO184.out))) (Kd.R_lt (by (with_reducible repeat (first | apply Kd.R_alloc | apply Kd.R_drewN | apply Kd.R_drew)); exact HO187.out))) (below_size (by repeat (first | (with_reducible first | exact HB.out | apply below_alloc | apply pw_below_drewN | apply below_drew1) | exact HB.out)))); have n6_ := Aside0.mk (below_step (by repeat (first | (with_reducible first | exact HB.out | apply below_alloc | apply pw_below_drewN | apply below_drew1) | exact HB.out)) hb); clear HO174; clear HO177; clear HO180; clear HO184; clear HO187; clear HB; have HO174 := n0_; have HO177 := n1_; have HO180 := n2_; have HO184 := n3_; have HO187 := n4_; have HO190 := n5_; have HB := n6_; clear n0_ n1_ n2_ n3_ n4_ n5_ n6_; (try clear hb); (try clear hb2); (try clear hk); (try clear hi); (try clear ho0); obtain ⟨Ao28, co28, eo28⟩ := Kd.R_slice HO187.out; subst eo28; obtain ⟨Ao29, co29, eo29⟩ := Kd.R_slice HO190.out; subst eo29) | (go_at_call 17; (with_reducible refine (spec_SameList.calls k _ _ t185 _ _ t188 true _ ?side1 ?side2 ?side3 ?side4 A14.out).mono ?_); (case side1 => repeat (first | exact (Kd.R_reads' HO187.out).2.2 | (with_reducible refine Kd.C_alloc ?_ _) | (with_reducible refine Kd.C_drewN ?_ _) | (with_reducible refine Kd.C_drew ?_))); (case side2 => exact (Kd.R_reads' HO187.out).2.1); (case side3 => repeat (first | exact (Kd.R_reads' HO190.out).2.2 | (with_reducible refine Kd.C_alloc ?_ _) | (with_reducible refine Kd.C_drewN ?_ _) | (with_reducible refine Kd.C_drew ?_))); (case side4 => exact (Kd.R_reads' HO190.out).2.1); rintro e w' ⟨rfl, ⟨nd, rfl⟩⟩) | (go_at_call 14; (with_reducible refine (laws_awakeUtil.calls k  t192 _ A16.out).mono ?_); rintro e w30 ⟨rfl, hb⟩; have n0_ := Aside0.mk (Kd.R_below (by (with_reducible repeat (first | apply Kd.R_alloc | apply Kd.R_drewN | apply Kd.R_drew)); exact HO174.out) hb); have n1_ := Aside0.mk (Kd.R_below (by (with_reducible repeat (first | apply Kd.R_alloc | apply Kd.R_drewN | apply Kd.R_drew)); exact HO177.out) hb); have n2_ := Aside0.mk (Kd.R_below (by (with_reducible repeat (first | apply Kd.R_alloc | apply Kd.R_drewN | apply Kd.R_drew)); exact HO180.out) hb); have n3_ := Aside0.mk (Kd.R_below (by (with_reducible repeat (first | apply Kd.R_alloc | apply Kd.R_drewN | apply Kd.R_drew)); exact HO184.out) hb); have n4_ := Aside0.mk (Kd.R_below (by (with_reducible repeat (first | apply Kd.R_alloc | apply Kd.R_drewN | apply Kd.R_drew)); exact HO187.out) hb); have n5_ := Aside0.mk (Kd.R_below (by (with_reducible repeat (first | apply Kd.R_alloc | apply Kd.R_drewN | apply Kd.R_drew)); exact HO190.out) hb); have n6_ := Aside0.mk (below_step (by repeat (first | (with_reducible first | exact HB.out | apply below_alloc | apply pw_below_drewN | apply below_drew1) | exact HB.out)) hb); clear HO174; clear HO177; clear HO180; clear HO184; clear HO187; clear HO190; clear HB; have HO174 := n0_; have HO177 := n1_; have HO180 := n2_; have HO184 := n3_; have HO187 := n4_; have HO190 := n5_; have HB := n6_; clear n0_ n1_ n2_ n3_ n4_ n5_ n6_; (try clear hb); (try clear hb2); (try clear hk); (try clear hi)))
          go_ret
          exact ⟨by first | rfl | (simp [errW_none, errW_some] <;> rfl) | (simp [*, errW_none, errW_some] <;> rfl), by repeat (first | (with_reducible first | exact HB.out | apply below_alloc | apply pw_below_drewN | apply below_drew1) | exact HB.out)⟩
        · replace c15 := Bool.eq_false_iff.mpr c15
          subst c15
          have H1 : (some false) = some r := by rw [if_neg (show ¬ (false = true) by decide)] at H; exact H
          clear H
          have H := H1
          clear H1
          obtain rfl := Option.some.inj H
          go_enter Try.func6, Try.ntmps6
          go_wp2_with (first | ((with_reducible refine gate_callee (f := 10) rfl ?_); refine goesL_ (some 4) rfl rfl Try.func10 (by kernel_rfl) rfl #[.slice A0 l0.length c0] rfl (by (try simp only [List.map_toArray, List.map_cons, List.map_nil]); first | done | rfl | (simp only [List.length_drop, List.length_take]; rfl)) ?_; (with_reducible refine (laws_zzFits10.calls k _ _ l0 true _ ?side1 ?side2 A2.out).mono ?_); (case side1 => repeat (first | exact HR0.out | (with_reducible refine Kd.C_alloc ?_ _) | (with_reducible refine Kd.C_drewN ?_ _) | (with_reducible refine Kd.C_drew ?_))); (case side2 => exact HC0.out); rintro e w' ⟨rfl, ⟨nd, rfl⟩⟩; refine ⟨_, rfl, ?_⟩) | ((with_reducible refine gate_callee (f := 12) rfl ?_); refine goesL_ (some 7) rfl rfl Try.func12 (by kernel_rfl) rfl #[.slice A0 l0.length c0] rfl (by (try simp only [List.map_toArray, List.map_cons, List.map_nil]); first | done | rfl | (simp only [List.length_drop, List.length_take]; rfl)) ?_; (with_reducible refine (laws_texts.calls _ _ l0 true _ ?side1 ?side2 A4.out).mono ?_); (case side1 => repeat (first | exact HR0.out | (with_reducible refine Kd.C_alloc ?_ _) | (with_reducible refine Kd.C_drewN ?_ _) | (with_reducible refine Kd.C_drew ?_))); (case side2 => exact HC0.out); rintro e w' ⟨rfl, ⟨nd, rfl⟩⟩; refine ⟨_, rfl, ?_⟩) | ((with_reducible refine gate_callee (f := 16) rfl ?_); refine goesL_ (some 11) rfl rfl Try.func16 (by kernel_rfl) rfl #[.slice A0 l0.length c0] rfl (by (try simp only [List.map_toArray, List.map_cons, List.map_nil]); first | done | rfl | (simp only [List.length_drop, List.length_take]; rfl)) ?_; (with_reducible refine (laws_copied.calls _ _ l0 t172 _ ?side1 ?side2 A6.out).mono ?_); (case side1 => repeat (first | exact HR0.out | (with_reducible refine Kd.C_alloc ?_ _) | (with_reducible refine Kd.C_drewN ?_ _) | (with_reducible refine Kd.C_drew ?_))); (case side2 => exact HC0.out); rintro e w31 ⟨v173, rfl, ho0, hb⟩; refine ⟨_, rfl, ?_⟩; have n0_ := Aside0.mk (Kd.R_lower ho0 (below_size (by repeat (first | (with_reducible first | exact HB.out | apply below_alloc | apply pw_below_drewN | apply below_drew1) | exact HB.out)))); have n1_ := Aside0.mk (below_step (by repeat (first | (with_reducible first | exact HB.out | apply below_alloc | apply pw_below_drewN | apply below_drew1) | exact HB.out)) hb); clear HB; have HO174 := n0_; have HB := n1_; clear n0_ n1_; (try clear hb); (try clear hb2); (try clear hk); (try clear hi); (try clear ho0); obtain ⟨Ao32, co32, eo32⟩ := Kd.R_slice HO174.out; subst eo32) | ((with_reducible refine gate_callee (f := 27) rfl ?_); refine goesL_ (some 12) rfl rfl Try.func27 (by kernel_rfl) rfl #[.slice Ao32 t172.length co32] rfl (by (try simp only [List.map_toArray, List.map_cons, List.map_nil]); first | done | rfl | (simp only [List.length_drop, List.length_take]; rfl)) ?_; (with_reducible refine (impl_RemoveDuplicates.calls _ _ t172 t175 _ ?side1 ?side2 A7.out).mono ?_); (case side1 => repeat (first | exact (Kd.R_reads' HO174.out).2.2 | (with_reducible refine Kd.C_alloc ?_ _) | (with_reducible refine Kd.C_drewN ?_ _) | (with_reducible refine Kd.C_drew ?_))); (case side2 => exact (Kd.R_reads' HO174.out).2.1); rintro e w33 ⟨v176, rfl, ho0, hb⟩; refine ⟨_, rfl, ?_⟩; have n0_ := Aside0.mk (Kd.R_elder' (by (with_reducible repeat (first | apply Kd.R_alloc | apply Kd.R_drewN | apply Kd.R_drew)); exact HO174.out) (Kd.R_base ho0) hb); have n1_ := Aside0.mk (Kd.R_lower (Kd.R_new' ho0 (Kd.R_lt (by (with_reducible repeat (first | apply Kd.R_alloc | apply Kd.R_drewN | apply Kd.R_drew)); exact HO174.out))) (below_size (by repeat (first | (with_reducible first | exact HB.out | apply below_alloc | apply pw_below_drewN | apply below_drew1) | exact HB.out)))); have n2_ := Aside0.mk (below_step (by repeat (first | (with_reducible first | exact HB.out | apply below_alloc | apply pw_below_drewN | apply below_drew1) | exact HB.out)) hb); clear HO174; clear HB; have HO174 := n0_; have HO177 := n1_; have HB := n2_; clear n0_ n1_ n2_; (try clear hb); (try clear hb2); (try clear hk); (try clear hi); (try clear ho0)) | ((with_reducible refine gate_callee (f := 28) rfl ?_); refine goesL_ (some 14) rfl rfl Try.func28 (by kernel_rfl) rfl #[.slice A0 l0.length c0] rfl (by (try simp only [List.map_toArray, List.map_cons, List.map_nil]); first | done | rfl | (simp only [List.length_drop, List.length_take]; rfl)) ?_; (with_reducible refine (spec_Distinct.calls k _ _ l0 t178 _ ?side1 ?side2 A8.out).mono ?_); (case side1 => repeat (first | exact (Kd.C_below HR0.out HB.out) | (with_reducible refine Kd.C_alloc ?_ _) | (with_reducible refine Kd.C_drewN ?_ _) | (with_reducible refine Kd.C_drew ?_))); (case side2 => exact HC0.out); rintro e w34 ⟨v179, rfl, ho0, hb⟩; refine ⟨_, rfl, ?_⟩; have n0_ := Aside0.mk (Kd.R_elder' (by (with_reducible repeat (first | apply Kd.R_alloc | apply Kd.R_drewN | apply Kd.R_drew)); exact HO174.out) (Kd.R_base ho0) hb); have n1_ := Aside0.mk (Kd.R_elder' (by (with_reducible repeat (first | apply Kd.R_alloc | apply Kd.R_drewN | apply Kd.R_drew)); exact HO177.out) (Kd.R_base ho0) hb); have n2_ := Aside0.mk (Kd.R_lower (Kd.R_new' (Kd.R_new' ho0 (Kd.R_lt (by (with_reducible repeat (first | apply Kd.R_alloc | apply Kd.R_drewN | apply Kd.R_drew)); exact HO174.out))) (Kd.R_lt (by (with_reducible repeat (first | apply Kd.R_alloc | apply Kd.R_drewN | apply Kd.R_drew)); exact HO177.out))) (below_size (by repeat (first | (with_reducible first | exact HB.out | apply below_alloc | apply pw_below_drewN | apply below_drew1) | exact HB.out)))); have n3_ := Aside0.mk (below_step (by repeat (first | (with_reducible first | exact HB.out | apply below_alloc | apply pw_below_drewN | apply below_drew1) | exact HB.out)) hb); clear HO174; clear HO177; clear HB; have HO174 := n0_; have HO177 := n1_; have HO180 := n2_; have HB := n3_; clear n0_ n1_ n2_ n3_; (try clear hb); (try clear hb2); (try clear hk); (try clear hi); (try clear ho0); obtain ⟨Ao35, co35, eo35⟩ := Kd.R_slice HO177.out; subst eo35; obtain ⟨Ao36, co36, eo36⟩ := Kd.R_slice HO180.out; subst eo36) | ((with_reducible refine gate_callee (f := 26) rfl ?_); refine goesL_ (some 15) rfl rfl Try.func26 (by kernel_rfl) rfl #[.slice Ao35 t175.length co35, .slice Ao36 t178.length co36] rfl (by (try simp only [List.map_toArray, List.map_cons, List.map_nil]); first | done | rfl | (simp only [List.length_drop, List.length_take]; rfl)) ?_; (with_reducible refine (laws_sameSet.calls k _ _ t175 _ _ t178 true _ ?side1 ?side2 ?side3 ?side4 A9.out).mono ?_); (case side1 => repeat (first | exact (Kd.R_reads' HO177.out).2.2 | (with_reducible refine Kd.C_alloc ?_ _) | (with_reducible refine Kd.C_drewN ?_ _) | (with_reducible refine Kd.C_drew ?_))); (case side2 => exact (Kd.R_reads' HO177.out).2.1); (case side3 => repeat (first | exact (Kd.R_reads' HO180.out).2.2 | (with_reducible refine Kd.C_alloc ?_ _) | (with_reducible refine Kd.C_drewN ?_ _) | (with_reducible refine Kd.C_drew ?_))); (case side4 => exact (Kd.R_reads' HO180.out).2.1); rintro e w37 ⟨rfl, hb⟩; refine ⟨_, rfl, ?_⟩; have n0_ := Aside0.mk (Kd.R_below (by (with_reducible repeat (first | apply Kd.R_alloc | apply Kd.R_drewN | apply Kd.R_drew)); exact HO174.out) hb); have n1_ := Aside0.mk (Kd.R_below (by (with_reducible repeat (first | apply Kd.R_alloc | apply Kd.R_drewN | apply Kd.R_drew)); exact HO177.out) hb); have n2_ := Aside0.mk (Kd.R_below (by (with_reducible repeat (first | apply Kd.R_alloc | apply Kd.R_drewN | apply Kd.R_drew)); exact HO180.out) hb); have n3_ := Aside0.mk (below_step (by repeat (first | (with_reducible first | exact HB.out | apply below_alloc | apply pw_below_drewN | apply below_drew1) | exact HB.out)) hb); clear HO174; clear HO177; clear HO180; clear HB; have HO174 := n0_; have HO177 := n1_; have HO180 := n2_; have HB := n3_; clear n0_ n1_ n2_ n3_; (try clear hb); (try clear hb2); (try clear hk); (try clear hi)) | (go_at_call 16; (with_reducible refine (laws_copied.calls _ _ l0 t182 _ ?side1 ?side2 A11.out).mono ?_); (case side1 => repeat (first | exact (Kd.C_below HR0.out HB.out) | (with_reducible refine Kd.C_alloc ?_ _) | (with_reducible refine Kd.C_drewN ?_ _) | (with_reducible refine Kd.C_drew ?_))); (case side2 => exact HC0.out); rintro e w38 ⟨v183, rfl, ho0, hb⟩; have n0_ := Aside0.mk (Kd.R_elder' (by (with_reducible repeat (first | apply Kd.R_alloc | apply Kd.R_drewN | apply Kd.R_drew)); exact HO174.out) (Kd.R_base ho0) hb); have n1_ := Aside0.mk (Kd.R_elder' (by (with_reducible repeat (first | apply Kd.R_alloc | apply Kd.R_drewN | apply Kd.R_drew)); exact HO177.out) (Kd.R_base ho0) hb); have n2_ := Aside0.mk (Kd.R_elder' (by (with_reducible repeat (first | apply Kd.R_alloc | apply Kd.R_drewN | apply Kd.R_drew)); exact HO180.out) (Kd.R_base ho0) hb); have n3_ := Aside0.mk (Kd.R_lower (Kd.R_new' (Kd.R_new' (Kd.R_new' ho0 (Kd.R_lt (by (with_reducible repeat (first | apply Kd.R_alloc | apply Kd.R_drewN | apply Kd.R_drew)); exact HO174.out))) (Kd.R_lt (by (with_reducible repeat (first | apply Kd.R_alloc | apply Kd.R_drewN | apply Kd.R_drew)); exact HO177.out))) (Kd.R_lt (by (with_reducible repeat (first | apply Kd.R_alloc | apply Kd.R_drewN | apply Kd.R_drew)); exact HO180.out))) (below_size (by repeat (first | (with_reducible first | exact HB.out | apply below_alloc | apply pw_below_drewN | apply below_drew1) | exact HB.out)))); have n4_ := Aside0.mk (below_step (by repeat (first | (with_reducible first | exact HB.out | apply below_alloc | apply pw_below_drewN | apply below_drew1) | exact HB.out)) hb); clear HO174; clear HO177; clear HO180; clear HB; have HO174 := n0_; have HO177 := n1_; have HO180 := n2_; have HO184 := n3_; have HB := n4_; clear n0_ n1_ n2_ n3_ n4_; (try clear hb); (try clear hb2); (try clear hk); (try clear hi); (try clear ho0); obtain ⟨Ao39, co39, eo39⟩ := Kd.R_slice HO184.out; subst eo39) | (go_at_call 29; (with_reducible refine (impl_RemoveDuplicateElement.calls _ _ t182 t185 _ ?side1 ?side2 A12.out).mono ?_); (case side1 => repeat (first | exact (Kd.R_reads' HO184.out).2.2 | (with_reducible refine Kd.C_alloc ?_ _) | (with_reducible refine Kd.C_drewN ?_ _) | (with_reducible refine Kd.C_drew ?_))); (case side2 => exact (Kd.R_reads' HO184.out).2.1); rintro e w40 ⟨v186, rfl, ho0, hb⟩; have n0_ := Aside0.mk (Kd.R_elder' (by (with_reducible repeat (first | apply Kd.R_alloc | apply Kd.R_drewN | apply Kd.R_drew)); exact HO174.out) (Kd.R_base ho0) hb); have n1_ := Aside0.mk (Kd.R_elder' (by (with_reducible repeat (first | apply Kd.R_alloc | apply Kd.R_drewN | apply Kd.R_drew)); exact HO177.out) (Kd.R_base ho0) hb); have n2_ := Aside0.mk (Kd.R_elder' (by (with_reducible repeat (first | apply Kd.R_alloc | apply Kd.R_drewN | apply Kd.R_drew)); exact HO180.out) (Kd.R_base ho0) hb); have n3_ := Aside0.mk (Kd.R_elder' (by (with_reducible repeat (first | apply Kd.R_alloc | apply Kd.R_drewN | apply Kd.R_drew)); exact HO184.out) (Kd.R_base ho0) hb); have n4_ := Aside0.mk (Kd.R_lower (Kd.R_new' (Kd.R_new' (Kd.R_new' (Kd.R_new' ho0 (Kd.R_lt (by (with_reducible repeat (first | apply Kd.R_alloc | apply Kd.R_drewN | apply Kd.R_drew)); exact HO174.out))) (Kd.R_lt (by (with_reducible repeat (first | apply Kd.R_alloc | apply Kd.R_drewN | apply Kd.R_drew)); exact HO177.out))) (Kd.R_lt (by (with_reducible repeat (first | apply Kd.R_alloc | apply Kd.R_drewN | apply Kd.R_drew)); exact HO180.out))) (Kd.R_lt (by (with_reducible repeat (first | apply Kd.R_alloc | apply Kd.R_drewN | apply Kd.R_drew)); exact HO184.out))) (below_size (by repeat (first | (with_reducible first | exact HB.out | apply below_alloc | apply pw_below_drewN | apply below_drew1) | exact HB.out)))); have n5_ := Aside0.mk (below_step (by repeat (first | (with_reducible first | exact HB.out | apply below_alloc | apply pw_below_drewN | apply below_drew1) | exact HB.out)) hb); clear HO174; clear HO177; clear HO180; clear HO184; clear HB; have HO174 := n0_; have HO177 := n1_; have HO180 := n2_; have HO184 := n3_; have HO187 := n4_; have HB := n5_; clear n0_ n1_ n2_ n3_ n4_ n5_; (try clear hb); (try clear hb2); (try clear hk); (try clear hi); (try clear ho0)) | (go_at_call 28; (with_reducible refine (spec_Distinct.calls k _ _ l0 t188 _ ?side1 ?side2 A13.out).mono ?_); (case side1 => repeat (first | exact (Kd.C_below HR0.out HB.out) | (with_reducible refine Kd.C_alloc ?_ _) | (with_reducible refine Kd.C_drewN ?_ _) | (with_reducible refine Kd.C_drew ?_))); (case side2 => exact HC0.out); rintro e w41 ⟨v189, rfl, ho0, hb⟩; have n0_ := Aside0.mk (Kd.R_elder' (by (with_reducible repeat (first | apply Kd.R_alloc | apply Kd.R_drewN | apply Kd.R_drew)); exact HO174.out) (Kd.R_base ho0) hb); have n1_ := Aside0.mk (Kd.R_elder' (by (with_reducible repeat (first | apply Kd.R_alloc | apply Kd.R_drewN | apply Kd.R_drew)); exact HO177.out) (Kd.R_base ho0) hb); have n2_ := Aside0.mk (Kd.R_elder' (by (with_reducible repeat (first | apply Kd.R_alloc | apply Kd.R_drewN | apply Kd.R_drew)); exact HO180.out) (Kd.R_base ho0) hb); have n3_ := Aside0.mk (Kd.R_elder' (by (with_reducible repeat (first | apply Kd.R_alloc | apply Kd.R_drewN | apply Kd.R_drew)); exact HO184.out) (Kd.R_base ho0) hb); have n4_ := Aside0.mk (Kd.R_elder' (by (with_reducible repeat (first | apply Kd.R_alloc | apply Kd.R_drewN | apply Kd.R_drew)); exact HO187.out) (Kd.R_base ho0) hb); have n5_ := Aside0.mk (Kd.R_lower (Kd.R_new' (Kd.R_new' (Kd.R_new' (Kd.R_new' (Kd.R_new' ho0 (Kd.R_lt (by (with_reducible repeat (first | apply Kd.R_alloc | apply Kd.R_drewN | apply Kd.R_drew)); exact HO174.out))) (Kd.R_lt (by (with_reducible repeat (first | apply Kd.R_alloc | apply Kd.R_drewN | apply Kd.R_drew)); exact HO177.out))) (Kd.R_lt (by (with_reducible repeat (first | apply Kd.R_alloc | apply Kd.R_drewN | apply Kd.R_drew)); exact HO180.out))) (Kd.R_lt (by (with_reducible repeat (first | apply Kd.R_alloc | apply Kd.R_drewN | apply Kd.R_drew)); exact HO184.out))) (Kd.R_lt (by (with_reducible repeat (first | apply Kd.R_alloc | apply Kd.R_drewN | apply Kd.R_drew)); exact HO187.out))) (below_size (by repeat (first | (with_reducible first | exact HB.out | apply below_alloc | apply pw_below_drewN | apply below_drew1) | exact HB.out)))); have n6_ := Aside0.mk (below_step (by repeat (first | (with_reducible first | exact HB.out | apply below_alloc | apply pw_below_drewN | apply below_drew1) | exact HB.out)) hb); clear HO174; clear HO177; clear HO180; clear HO184; clear HO187; clear HB; have HO174 := n0_; have HO177 := n1_; have HO180 := n2_; have HO184 := n3_; have HO187 := n4_; have HO190 := n5_; have HB := n6_; clear n0_ n1_ n2_ n3_ n4_ n5_ n6_; (try clear hb); (try clear hb2); (try clear hk); (try clear hi); (try clear ho0); obtain ⟨Ao42, co42, eo42⟩ := Kd.R_slice HO187.out; subst eo42; obtain ⟨Ao43, co43, eo43⟩ := Kd.R_slice HO190.out; subst eo43) | (go_at_call 17; (with_reducible refine (spec_SameList.calls k _ _ t185 _ _ t188 false _ ?side1 ?side2 ?side3 ?side4 A14.out).mono ?_); (case side1 => repeat (first | exact (Kd.R_reads' HO187.out).2.2 | (with_reducible refine Kd.C_alloc ?_ _) | (with_reducible refine Kd.C_drewN ?_ _) | (with_reducible refine Kd.C_drew ?_))); (case side2 => exact (Kd.R_reads' HO187.out).2.1); (case side3 => repeat (first | exact (Kd.R_reads' HO190.out).2.2 | (with_reducible refine Kd.C_alloc ?_ _) | (with_reducible refine Kd.C_drewN ?_ _) | (with_reducible refine Kd.C_drew ?_))); (case side4 => exact (Kd.R_reads' HO190.out).2.1); rintro e w' ⟨rfl, ⟨nd, rfl⟩⟩))
          go_ret
          exact ⟨by first | rfl | (simp [errW_none, errW_some] <;> rfl) | (simp [*, errW_none, errW_some] <;> rfl), by repeat (first | (with_reducible first | exact HB.out | apply below_alloc | apply pw_below_drewN | apply below_drew1) | exact HB.out)⟩
      · replace c10 := Bool.eq_false_iff.mpr c10
        subst c10
        have H1 : (some false) = some r := by rw [if_neg (show ¬ (false = true) by decide)] at H; exact H
        clear H
        have H := H1
        clear H1
        obtain rfl := Option.some.inj H
        go_enter Try.func6, Try.ntmps6
        go_wp2_with (first | ((with_reducible refine gate_callee (f := 10) rfl ?_); refine goesL_ (some 4) rfl rfl Try.func10 (by kernel_rfl) rfl #[.slice A0 l0.length c0] rfl (by (try simp only [List.map_toArray, List.map_cons, List.map_nil]); first | done | rfl | (simp only [List.length_drop, List.length_take]; rfl)) ?_; (with_reducible refine (laws_zzFits10.calls k _ _ l0 true _ ?side1 ?side2 A2.out).mono ?_); (case side1 => repeat (first | exact HR0.out | (with_reducible refine Kd.C_alloc ?_ _) | (with_reducible refine Kd.C_drewN ?_ _) | (with_reducible refine Kd.C_drew ?_))); (case side2 => exact HC0.out); rintro e w' ⟨rfl, ⟨nd, rfl⟩⟩; refine ⟨_, rfl, ?_⟩) | ((with_reducible refine gate_callee (f := 12) rfl ?_); refine goesL_ (some 7) rfl rfl Try.func12 (by kernel_rfl) rfl #[.slice A0 l0.length c0] rfl (by (try simp only [List.map_toArray, List.map_cons, List.map_nil]); first | done | rfl | (simp only [List.length_drop, List.length_take]; rfl)) ?_; (with_reducible refine (laws_texts.calls _ _ l0 true _ ?side1 ?side2 A4.out).mono ?_); (case side1 => repeat (first | exact HR0.out | (with_reducible refine Kd.C_alloc ?_ _) | (with_reducible refine Kd.C_drewN ?_ _) | (with_reducible refine Kd.C_drew ?_))); (case side2 => exact HC0.out); rintro e w' ⟨rfl, ⟨nd, rfl⟩⟩; refine ⟨_, rfl, ?_⟩) | ((with_reducible refine gate_callee (f := 16) rfl ?_); refine goesL_ (some 11) rfl rfl Try.func16 (by kernel_rfl) rfl #[.slice A0 l0.length c0] rfl (by (try simp only [List.map_toArray, List.map_cons, List.map_nil]); first | done | rfl | (simp only [List.length_drop, List.length_take]; rfl)) ?_; (with_reducible refine (laws_copied.calls _ _ l0 t172 _ ?side1 ?side2 A6.out).mono ?_); (case side1 => repeat (first | exact HR0.out | (with_reducible refine Kd.C_alloc ?_ _) | (with_reducible refine Kd.C_drewN ?_ _) | (with_reducible refine Kd.C_drew ?_))); (case side2 => exact HC0.out); rintro e w44 ⟨v173, rfl, ho0, hb⟩; refine ⟨_, rfl, ?_⟩; have n0_ := Aside0.mk (Kd.R_lower ho0 (below_size (by repeat (first | (with_reducible first | exact HB.out | apply below_alloc | apply pw_below_drewN | apply below_drew1) | exact HB.out)))); have n1_ := Aside0.mk (below_step (by repeat (first | (with_reducible first | exact HB.out | apply below_alloc | apply pw_below_drewN | apply below_drew1) | exact HB.out)) hb); clear HB; have HO174 := n0_; have HB := n1_; clear n0_ n1_; (try clear hb); (try clear hb2); (try clear hk); (try clear hi); (try clear ho0); obtain ⟨Ao45, co45, eo45⟩ := Kd.R_slice HO174.out; subst eo45) | ((with_reducible refine gate_callee (f := 27) rfl ?_); refine goesL_ (some 12) rfl rfl Try.func27 (by kernel_rfl) rfl #[.slice Ao45 t172.length co45] rfl (by (try simp only [List.map_toArray, List.map_cons, List.map_nil]); first | done | rfl | (simp only [List.length_drop, List.length_take]; rfl)) ?_; (with_reducible refine (impl_RemoveDuplicates.calls _ _ t172 t175 _ ?side1 ?side2 A7.out).mono ?_); (case side1 => repeat (first | exact (Kd.R_reads' HO174.out).2.2 | (with_reducible refine Kd.C_alloc ?_ _) | (with_reducible refine Kd.C_drewN ?_ _) | (with_reducible refine Kd.C_drew ?_))); (case side2 => exact (Kd.R_reads' HO174.out).2.1); rintro e w46 ⟨v176, rfl, ho0, hb⟩; refine ⟨_, rfl, ?_⟩; have n0_ := Aside0.mk (Kd.R_elder' (by (with_reducible repeat (first | apply Kd.R_alloc | apply Kd.R_drewN | apply Kd.R_drew)); exact HO174.out) (Kd.R_base ho0) hb); have n1_ := Aside0.mk (Kd.R_lower (Kd.R_new' ho0 (Kd.R_lt (by (with_reducible repeat (first | apply Kd.R_alloc | apply Kd.R_drewN | apply Kd.R_drew)); exact HO174.out))) (below_size (by repeat (first | (with_reducible first | exact HB.out | apply below_alloc | apply pw_below_drewN | apply below_drew1) | exact HB.out)))); have n2_ := Aside0.mk (below_step (by repeat (first | (with_reducible first | exact HB.out | apply below_alloc | apply pw_below_drewN | apply below_drew1) | exact HB.out)) hb); clear HO174; clear HB; have HO174 := n0_; have HO177 := n1_; have HB := n2_; clear n0_ n1_ n2_; (try clear hb); (try clear hb2); (try clear hk); (try clear hi); (try clear ho0)) | ((with_reducible refine gate_callee (f := 28) rfl ?_); refine goesL_ (some 14) rfl rfl Try.func28 (by kernel_rfl) rfl #[.slice A0 l0.length c0] rfl (by (try simp only [List.map_toArray, List.map_cons, List.map_nil]); first | done | rfl | (simp only [List.length_drop, List.length_take]; rfl)) ?_; (with_reducible refine (spec_Distinct.calls k _ _ l0 t178 _ ?side1 ?side2 A8.out).mono ?_); (case side1 => repeat (first | exact (Kd.C_below HR0.out HB.out) | (with_reducible refine Kd.C_alloc ?_ _) | (with_reducible refine Kd.C_drewN ?_ _) | (with_reducible refine Kd.C_drew ?_))); (case side2 => exact HC0.out); rintro e w47 ⟨v179, rfl, ho0, hb⟩; refine ⟨_, rfl, ?_⟩; have n0_ := Aside0.mk (Kd.R_elder' (by (with_reducible repeat (first | apply Kd.R_alloc | apply Kd.R_drewN | apply Kd.R_drew)); exact HO174.out) (Kd.R_base ho0) hb); have n1_ := Aside0.mk (Kd.R_elder' (by (with_reducible repeat (first | apply Kd.R_alloc | apply Kd.R_drewN | apply Kd.R_drew)); exact HO177.out) (Kd.R_base ho0) hb); have n2_ := Aside0.mk (Kd.R_lower (Kd.R_new' (Kd.R_new' ho0 (Kd.R_lt (by (with_reducible repeat (first | apply Kd.R_alloc | apply Kd.R_drewN | apply Kd.R_drew)); exact HO174.out))) (Kd.R_lt (by (with_reducible repeat (first | apply Kd.R_alloc | apply Kd.R_drewN | apply Kd.R_drew)); exact HO177.out))) (below_size (by repeat (first | (with_reducible first | exact HB.out | apply below_alloc | apply pw_below_drewN | apply below_drew1) | exact HB.out)))); have n3_ := Aside0.mk (below_step (by repeat (first | (with_reducible first | exact HB.out | apply below_alloc | apply pw_below_drewN | apply below_drew1) | exact HB.out)) hb); clear HO174; clear HO177; clear HB; have HO174 := n0_; have HO177 := n1_; have HO180 := n2_; have HB := n3_; clear n0_ n1_ n2_ n3_; (try clear hb); (try clear hb2); (try clear hk); (try clear hi); (try clear ho0); obtain ⟨Ao48, co48, eo48⟩ := Kd.R_slice HO177.out; subst eo48; obtain ⟨Ao49, co49, eo49⟩ := Kd.R_slice HO180.out; subst eo49) | ((with_reducible refine gate_callee (f := 26) rfl ?_); refine goesL_ (some 15) rfl rfl Try.func26 (by kernel_rfl) rfl #[.slice Ao48 t175.length co48, .slice Ao49 t178.length co49] rfl (by (try simp only [List.map_toArray, List.map_cons, List.map_nil]); first | done | rfl | (simp only [List.length_drop, List.length_take]; rfl)) ?_; (with_reducible refine (laws_sameSet.calls k _ _ t175 _ _ t178 false _ ?side1 ?side2 ?side3 ?side4 A9.out).mono ?_); (case side1 => repeat (first | exact (Kd.R_reads' HO177.out).2.2 | (with_reducible refine Kd.C_alloc ?_ _) | (with_reducible refine Kd.C_drewN ?_ _) | (with_reducible refine Kd.C_drew ?_))); (case side2 => exact (Kd.R_reads' HO177.out).2.1); (case side3 => repeat (first | exact (Kd.R_reads' HO180.out).2.2 | (with_reducible refine Kd.C_alloc ?_ _) | (with_reducible refine Kd.C_drewN ?_ _) | (with_reducible refine Kd.C_drew ?_))); (case side4 => exact (Kd.R_reads' HO180.out).2.1); rintro e w50 ⟨rfl, hb⟩; refine ⟨_, rfl, ?_⟩; have n0_ := Aside0.mk (Kd.R_below (by (with_reducible repeat (first | apply Kd.R_alloc | apply Kd.R_drewN | apply Kd.R_drew)); exact HO174.out) hb); have n1_ := Aside0.mk (Kd.R_below (by (with_reducible repeat (first | apply Kd.R_alloc | apply Kd.R_drewN | apply Kd.R_drew)); exact HO177.out) hb); have n2_ := Aside0.mk (Kd.R_below (by (with_reducible repeat (first | apply Kd.R_alloc | apply Kd.R_drewN | apply Kd.R_drew)); exact HO180.out) hb); have n3_ := Aside0.mk (below_step (by repeat (first | (with_reducible first | exact HB.out | apply below_alloc | apply pw_below_drewN | apply below_drew1) | exact HB.out)) hb); clear HO174; clear HO177; clear HO180; clear HB; have HO174 := n0_; have HO177 := n1_; have HO180 := n2_; have HB := n3_; clear n0_ n1_ n2_ n3_; (try clear hb); (try clear hb2); (try clear hk); (try clear hi)))
        go_ret
        exact ⟨by first | rfl | (simp [errW_none, errW_some] <;> rfl) | (simp [*, errW_none, errW_some] <;> rfl), by repeat (first | (with_reducible first | exact HB.out | apply below_alloc | apply pw_below_drewN | apply below_drew1) | exact HB.out)⟩
    · replace c5 := Bool.eq_false_iff.mpr c5
      subst c5
      have H1 : ((laws_awakeUtil.f k).bind fun t171 => (some t171)) = some r := by rw [if_neg (show ¬ (false = true) by decide)] at H; exact H
      clear H
      have H := H1
      clear H1
      replace H := Option.bind_eq_some_iff.mp H
      obtain ⟨t171, A510, H⟩ := H
      replace H : (some t171) = some r := H
      have A51 := Aside0.mk A510
      clear A510
      obtain rfl := Option.some.inj H
      go_enter Try.func6, Try.ntmps6
      go_wp2_with (first | ((with_reducible refine gate_callee (f := 10) rfl ?_); refine goesL_ (some 4) rfl rfl Try.func10 (by kernel_rfl) rfl #[.slice A0 l0.length c0] rfl (by (try simp only [List.map_toArray, List.map_cons, List.map_nil]); first | done | rfl | (simp only [List.length_drop, List.length_take]; rfl)) ?_; (with_reducible refine (laws_zzFits10.calls k _ _ l0 true _ ?side1 ?side2 A2.out).mono ?_); (case side1 => repeat (first | exact HR0.out | (with_reducible refine Kd.C_alloc ?_ _) | (with_reducible refine Kd.C_drewN ?_ _) | (with_reducible refine Kd.C_drew ?_))); (case side2 => exact HC0.out); rintro e w' ⟨rfl, ⟨nd, rfl⟩⟩; refine ⟨_, rfl, ?_⟩) | ((with_reducible refine gate_callee (f := 12) rfl ?_); refine goesL_ (some 7) rfl rfl Try.func12 (by kernel_rfl) rfl #[.slice A0 l0.length c0] rfl (by (try simp only [List.map_toArray, List.map_cons, List.map_nil]); first | done | rfl | (simp only [List.length_drop, List.length_take]; rfl)) ?_; (with_reducible refine (laws_texts.calls _ _ l0 false _ ?side1 ?side2 A4.out).mono ?_); (case side1 => repeat (first | exact HR0.out | (with_reducible refine Kd.C_alloc ?_ _) | (with_reducible refine Kd.C_drewN ?_ _) | (with_reducible refine Kd.C_drew ?_))); (case side2 => exact HC0.out); rintro e w' ⟨rfl, ⟨nd, rfl⟩⟩; refine ⟨_, rfl, ?_⟩) | ((with_reducible refine gate_callee (f := 14) rfl ?_); refine goesL_ (some 9) rfl rfl Try.func14 (by kernel_rfl) rfl #[] rfl (by (try simp only [List.map_toArray, List.map_cons, List.map_nil]); first | done | rfl | (simp only [List.length_drop, List.length_take]; rfl)) ?_; (with_reducible refine (laws_awakeUtil.calls k  t171 _ A51.out).mono ?_); rintro e w52 ⟨rfl, hb⟩; refine ⟨_, rfl, ?_⟩; have n0_ := Aside0.mk (below_step (by repeat (first | (with_reducible first | exact HB.out | apply below_alloc | apply pw_below_drewN | apply below_drew1) | exact HB.out)) hb); clear HB; have HB := n0_; clear n0_; (try clear hb); (try clear hb2); (try clear hk); (try clear hi)))
      go_ret
      exact ⟨by first | rfl | (simp [errW_none, errW_some] <;> rfl) | (simp [*, errW_none, errW_some] <;> rfl), by repeat (first | (with_reducible first | exact HB.out | apply below_alloc | apply pw_below_drewN | apply below_drew1) | exact HB.out)⟩
  · replace c3 := Bool.eq_false_iff.mpr c3
    subst c3
    have H1 : (some true) = some r := by rw [if_neg (show ¬ (false = true) by decide)] at H; exact H
    clear H
    have H := H1
    clear H1
    obtain rfl := Option.some.inj H
    go_enter Try.func6, Try.ntmps6
    go_wp2_with (first | ((with_reducible refine gate_callee (f := 10) rfl ?_); refine goesL_ (some 4) rfl rfl Try.func10 (by kernel_rfl) rfl #[.slice A0 l0.length c0] rfl (by (try simp only [List.map_toArray, List.map_cons, List.map_nil]); first | done | rfl | (simp only [List.length_drop, List.length_take]; rfl)) ?_; (with_reducible refine (laws_zzFits10.calls k _ _ l0 false _ ?side1 ?side2 A2.out).mono ?_); (case side1 => repeat (first | exact HR0.out | (with_reducible refine Kd.C_alloc ?_ _) | (with_reducible refine Kd.C_drewN ?_ _) | (with_reducible refine Kd.C_drew ?_))); (case side2 => exact HC0.out); rintro e w' ⟨rfl, ⟨nd, rfl⟩⟩; refine ⟨_, rfl, ?_⟩))
    go_ret
    exact ⟨by first | rfl | (simp [errW_none, errW_some] <;> rfl) | (simp [*, errW_none, errW_some] <;> rfl), by repeat (first | (with_reducible first | exact HB.out | apply below_alloc | apply pw_below_drewN | apply below_drew1) | exact HB.out)⟩

end Go.Proofs.Ytnbcohabllkneaa.PFnOnce
