/- The machine side of laws.FnCache: each function of this text answers what its Lean function answers (written for this claim by a program of this session over the kit's print; no condition beyond what each theorem says). -/
import Derived.Test.YtikjdoemkibadaaOFnCachex0
import Derived.Test.YtikjdoemkibadaaOFnCachex3
namespace Go.Proofs.Ytikjdoemkibadaa.PFnCache
open Go.RowKit Go.Proofs.YtikjdoemkibadaaW.PrintWords Go.Proofs.YtikjdoemkibadaaW.PrintLast Go.Proofs.YtikjdoemkibadaaW.PrintMore
attribute [local go_sem] max2_int min2_int max_two min_two max_three min_three max_four min_four   -- for this text's walks alone
set_option linter.unusedVariables false
set_option linter.unusedSimpArgs false

/-! ### spec_Cache: function 9 -/
/-! A region that draws its order, by one invariant. -/
section
variable {P : Program} {ops : Array Oper} {Q : Exit → Act → World → Prop}
def unL : List Bool → Nat
  | [] => 0
  | b :: l => (if b = true then 0 else 1) + unL l
theorem unL_set : ∀ (l : List Bool) (i : Nat), l[i]? = some false → unL (l.set i true) + 1 = unL l
  | [], _, h => by simp at h
  | b :: l, 0, h => by
    simp at h
    subst h
    simp [unL]; omega
  | b :: l, i + 1, h => by
    have := unL_set l i (by simpa using h)
    simp only [List.set_cons_succ, unL]
    omega
theorem unL_zero : ∀ (l : List Bool) (i : Nat), unL l = 0 → l[i]? ≠ some false
  | [], _, _ => by simp
  | b :: l, 0, h => by
    intro e
    simp at e
    subst e
    simp [unL] at h
  | b :: l, i + 1, h => by
    simp only [List.getElem?_cons_succ]
    exact unL_zero l i (by unfold unL at h; omega)
theorem unL_le : ∀ (l : List Bool), unL l ≤ l.length
  | [] => Nat.le_refl _
  | b :: l => by
    have := unL_le l
    unfold unL
    simp only [List.length_cons]
    split <;> omega
/-- what has come up: number i -/
def hasL_ (l : Array Bool) (i : Nat) : Bool := l.getD i false
theorem hasL_set {l : Array Bool} {i : Nat} (hi : i < l.size) (j : Nat) : hasL_ (l.setIfInBounds i true) j = if j = i then true else hasL_ l j := by
  unfold hasL_
  simp only [Array.getD_eq_getD_getElem?, Array.getElem?_setIfInBounds]
  by_cases h : i = j
  · subst h; simp [hi]
  · rw [if_neg h, if_neg (fun e => h e.symm)]
theorem inv_any (J : Array Bool → Act → World → Prop) (T : List (List Nat))
    (hT : (List.range ops.size).map (fun i => match ops[i]? with | some o => o.after.toList.filterMap (fun e => if Region.binds .any e = true then some e.on else none) | none => []) = T)
    (hlow : (T.zipIdx.all fun p => p.1.all fun n => decide (n < p.2)) = true)
    (hstep : ∀ listed a w i, listed.size = ops.size → i < ops.size → hasL_ listed i = false → (∀ n ∈ T.getD i [], hasL_ listed n = true) → J listed a w → wpOp P ops Q i (J (listed.setIfInBounds i true)) a w)
    (hend : ∀ listed a w, listed.size = ops.size → (∀ i, i < ops.size → hasL_ listed i = true) → J listed a w → Q .normal a w) :
    ∀ (fuel : Nat) (listed : Array Bool) (a : Act) (w : World), listed.size = ops.size → unL listed.toList ≤ fuel → J listed a w → wpAny P .any ops Q fuel listed a w := by
  have hTi : ∀ i o, ops[i]? = some o → T.getD i [] = o.after.toList.filterMap (fun e => if Region.binds .any e = true then some e.on else none) := by
    intro i o ho
    have hi : i < ops.size := (Array.getElem?_eq_some_iff.1 ho).1
    rw [← hT, List.getD_eq_getElem?_getD, List.getElem?_map, List.getElem?_range hi]
    simp [ho]
  have hrd : ∀ (listed : Array Bool) (i : Nat), listed.size = ops.size → (i ∈ Region.ready .any ops listed ↔ i < ops.size ∧ hasL_ listed i = false ∧ ∀ n ∈ T.getD i [], hasL_ listed n = true) := by
    intro listed i hsz
    rw [mem_ready]
    constructor
    · rintro ⟨h1, o, ho, h2⟩
      have hi : i < ops.size := (Array.getElem?_eq_some_iff.1 ho).1
      refine ⟨hi, ?_, ?_⟩
      · unfold hasL_
        rw [Array.getD_eq_getD_getElem?] at h1 ⊢
        rw [Array.getElem?_eq_getElem (by omega)] at h1 ⊢
        exact h1
      · intro n hn
        rw [hTi i o ho, List.mem_filterMap] at hn
        obtain ⟨e, he, h3⟩ := hn
        by_cases hb : Region.binds .any e = true
        · rw [if_pos hb] at h3
          cases h3
          exact h2 e (by simpa using he) hb
        · rw [if_neg hb] at h3; cases h3
    · rintro ⟨hi, h1, h2⟩
      refine ⟨?_, ops[i], Array.getElem?_eq_getElem hi, ?_⟩
      · unfold hasL_ at h1
        rw [Array.getD_eq_getD_getElem?] at h1 ⊢
        rw [Array.getElem?_eq_getElem (by omega)] at h1 ⊢
        exact h1
      · intro e he hb
        refine h2 e.on ?_
        rw [hTi i _ (Array.getElem?_eq_getElem hi), List.mem_filterMap]
        exact ⟨e, by simpa using he, by rw [if_pos hb]⟩
  have hall : ∀ listed : Array Bool, listed.size = ops.size → Region.ready .any ops listed = [] → ∀ i, i < ops.size → hasL_ listed i = true := by
    intro listed hsz hr i
    induction i using Nat.strongRecOn with
    | ind i ih =>
      intro hi
      cases hb : hasL_ listed i with
      | true => rfl
      | false =>
        exfalso
        have : i ∈ Region.ready .any ops listed := by
          rw [hrd listed i hsz]
          refine ⟨hi, hb, fun n hn => ?_⟩
          have hlt : n < i := by
            have hlen : T.length = ops.size := by rw [← hT]; simp
            have h1 := List.all_eq_true.1 hlow (T.getD i [], i) (by
              rw [List.mem_zipIdx_iff_getElem?]
              simp only
              rw [List.getD_eq_getElem?_getD, List.getElem?_eq_getElem (by omega)]
              rfl)
            have h2 := List.all_eq_true.1 h1 n hn
            exact of_decide_eq_true h2
          exact ih n hlt (by omega)
        rw [hr] at this
        cases this
  intro fuel
  induction fuel with
  | zero =>
    intro listed a w hsz hun hJ
    have hd : ∀ i, i < ops.size → hasL_ listed i = true := by
      intro i hi
      cases hb : hasL_ listed i with
      | true => rfl
      | false =>
        exfalso
        refine unL_zero listed.toList i (by omega) ?_
        unfold hasL_ at hb
        rw [Array.getD_eq_getD_getElem?, Array.getElem?_eq_getElem (by omega)] at hb
        rw [Array.getElem?_toList, Array.getElem?_eq_getElem (by omega)]
        simpa using hb
    refine ⟨?_, hend listed a w hsz hd hJ⟩
    apply List.eq_nil_iff_forall_not_mem.2
    intro i hi
    obtain ⟨h1, h2, _⟩ := (hrd listed i hsz).1 hi
    rw [hd i h1] at h2
    cases h2
  | succ fuel ih =>
    intro listed a w hsz hun hJ
    refine ⟨fun hr => hend listed a w hsz (hall listed hsz hr) hJ, fun i hi => ?_⟩
    obtain ⟨h1, h2, h3⟩ := (hrd listed i hsz).1 hi
    refine wpOp_mono (fun a' w' hJ' => ih _ a' w' (by simp [hsz]) ?_ hJ') (hstep listed a w i hsz h1 h2 h3 hJ)
    have : listed.toList[i]? = some false := by
      unfold hasL_ at h2
      rw [Array.getD_eq_getD_getElem?, Array.getElem?_eq_getElem (by omega)] at h2
      rw [Array.getElem?_toList, Array.getElem?_eq_getElem (by omega)]
      simpa using h2
    have h4 := unL_set listed.toList i this
    rw [Array.toList_setIfInBounds]
    omega
/-- the region: what holds at first, what each operation that may come up leaves, what holds at the end -/
theorem region_inv {id : Nat} {a : Act} {w : World} (hm : P.follows .mixedOrders = true) (J : Array Bool → Act → World → Prop) (T : List (List Nat))
    (hT : (List.range ops.size).map (fun i => match ops[i]? with | some o => o.after.toList.filterMap (fun e => if Region.binds .any e = true then some e.on else none) | none => []) = T)
    (hlow : (T.zipIdx.all fun p => p.1.all fun n => decide (n < p.2)) = true)
    (h0 : J (Array.replicate ops.size false) a w.drew)
    (hstep : ∀ listed a w i, listed.size = ops.size → i < ops.size → hasL_ listed i = false → (∀ n ∈ T.getD i [], hasL_ listed n = true) → J listed a w → wpOp P ops Q i (J (listed.setIfInBounds i true)) a w)
    (hend : ∀ listed a w, listed.size = ops.size → (∀ i, i < ops.size → hasL_ listed i = true) → J listed a w → Q .normal a w) : (Code.region id ops true).wp P Q a w :=
  wp_region_any hm (inv_any J T hT hlow hstep hend ops.size _ a _ (by simp) (by have := unL_le (Array.replicate ops.size false).toList; simpa using this) h0)
end
theorem infoInt : (Try.prog.info? 3).map (fun i => (i.zero, i.size, i.bytes)) = some (some (.int .i64 0), 1, 8) := by kernel_rfl
/-! Rows of whole numbers by the chain that made them: a colour for each block. -/
def Row (c : Nat → Nat) (X : Nat) (W : World) (b : Nat) (v : Value) (xs : List Int) : Prop := Kd.R (Kd.int .i64) 3 W b (fun k => c k = X) v xs
structure Grow (W W' : World) (c c' : Nat → Nat) (X : Nat) : Prop where
  size : W.heap.size ≤ W'.heap.size
  same : ∀ k, k < W.heap.size → c' k = c k
  keep : ∀ k, k < W.heap.size → c k ≠ X → W'.heap[k]? = W.heap[k]?
theorem Row.stay {c c' : Nat → Nat} {X Y : Nat} {W W' : World} {b : Nat} {v : Value} {xs : List Int} (h : Row c Y W b v xs) (g : Grow W W' c c' X) (hne : Y ≠ X) : Row c' Y W' b v xs := by
  have h1 := Kd.R_bound h
  have h2 := Kd.R_step h1 (w1 := W') (fun k hk hlt => g.keep k hlt (by rw [hk.1]; exact hne))
  exact Kd.R_mono h2 (fun k hk => (g.same k hk.2.2.1).trans hk.1)
theorem Grow.below {c c' : Nat → Nat} {X b : Nat} {W W' : World} (g : Grow W W' c c' X) (hc : ∀ k, k < b → c k = 0) (hb : b ≤ W.heap.size) : ∀ k, k < b → c' k = 0 := fun k hk => (g.same k (Nat.lt_of_lt_of_le hk hb)).trans (hc k hk)
def paint (c : Nat → Nat) (n X : Nat) : Nat → Nat := fun k => if k < n then c k else X
theorem paint_lt {c : Nat → Nat} {n X k : Nat} (h : k < n) : paint c n X k = c k := if_pos h
theorem paint_ge {c : Nat → Nat} {n X k : Nat} (h : n ≤ k) : paint c n X k = X := if_neg (by omega)
theorem Row.paint {c : Nat → Nat} {X Y : Nat} {W : World} {b : Nat} {v : Value} {xs : List Int} (h : Row c Y W b v xs) : Row (paint c W.heap.size X) Y W b v xs :=
  Kd.R_mono (Kd.R_bound h) (fun k hk => (paint_lt hk.2.2.1).trans hk.1)
theorem reps_ints (W : World) (b : Nat) (ok : Nat → Prop) (xs : List Int) (h : xs.length ≤ 1) : Reps (Kd.M (Kd.int .i64) W b ok) 1 xs (xs.map fun x => .int .i64 x) := by
  match xs, h with
  | [], _ => exact Reps.none _ _
  | [x], _ => exact Reps.one (show Kd.M (Kd.int .i64) _ _ _ x [.int .i64 x] from rfl) (Reps.none _ _)
section
variable {ops : Array Oper} {o : Oper} {a : Act} {Q : Exit → Act → World → Prop} {Kc : Act → World → Prop}
/-- []int of none or of one -/
theorem row_lit {w0 W : World} (c : Nat → Nat) (X : Nat) (hw : Region.wanted o (yielded ops a.tmps) = true) {N : Tmp} (hd : o.dst = some N) (xs : List Int) (hl : xs.length ≤ 1)
    (hrun : (execOp a.eval o).run Try.prog W = .ok (.value (.slice (some ⟨W.heap.size, 0, none⟩) xs.length xs.length)) (W.alloc (.cells (xs.map fun x => Value.int .i64 x).toArray 3)))
    (HB : Below w0.heap.size w0 W) (h : ∀ v c' W', Row c' X W' w0.heap.size v xs → Grow W W' c c' X → Below w0.heap.size w0 W' → Kc (a.put o.dst v) W') :
    if Region.wanted o (yielded ops a.tmps) = true then Oper.wp Try.prog o a W Kc Q else Kc (a.put o.dst undef) W := by
  refine Kd.R_lit_step (Kd.int .i64) (w0 := w0) w0.heap.size 3 hw hd (xs := xs) (inner := xs.map fun x => .int .i64 x) (ok := fun k => paint c W.heap.size X k = X) (okp := fun k => paint c W.heap.size X k = X) hrun (reps_ints _ _ _ xs hl) (fun _ hk => hk) (paint_ge (Nat.le_refl _)) HB HB.size (by omega) ?_
  intro v w1 h1 h2 h3 _
  exact h v _ w1 h1 ⟨h3.size, fun k hk => paint_lt hk, fun k hk _ => h3.block k hk (by simp)⟩ h2
/-- append(row, xs...) -/
theorem row_app {w0 W : World} (c : Nat → Nat) (X : Nat) (hw : Region.wanted o (yielded ops a.tmps) = true) (s x : Operand) (ho : o.op = .call { callee := .builtin .append, args := #[s, x], argTypes := #[40, 40] })
    (v : Value) (xs ys : List Int) (A : Option Addr) (m cc : Nat) (hs : a.eval s = v) (hx : a.eval x = .slice A m cc) (HO : Row c X W w0.heap.size v xs) (HR : Kd.C (Kd.int .i64) W A m ys) (hl : xs.length + m < 10000000) (HB : Below w0.heap.size w0 W)
    (h : ∀ v1 c' W', Row c' X W' w0.heap.size v1 (xs ++ ys) → Grow W W' c c' X → Below w0.heap.size w0 W' → Kc (a.put o.dst v1) W') :
    if Region.wanted o (yielded ops a.tmps) = true then Oper.wp Try.prog o a W Kc Q else Kc (a.put o.dst undef) W := by
  refine Kd.R_append_rows_step (Kd.int .i64) (w0 := w0) w0.heap.size hw s x 40 3 (.int .i64 0) 8 ho Try.underlying40 infoInt rfl (by decide) (by omega) v xs ys A m cc (fun k => paint c W.heap.size X k = X) (fun _ => False) hs hx (HO.paint) HR (fun _ _ h => h) (fun _ h => h.elim) (fun k hk => paint_ge hk) HB HB.size (by omega) ?_
  intro v1 w1 h1 h2 h3 _
  refine h v1 _ w1 h1 ⟨h3.size, fun k hk => paint_lt hk, fun k hk hne => h3.block k hk (fun e => hne ?_)⟩ h2
  exact HO.1 k e.symm
end
theorem Row.reads {c : Nat → Nat} {X : Nat} {W : World} {b : Nat} {v : Value} {xs : List Int} (h : Row c X W b v xs) : ∃ A cc, v = .slice A xs.length cc ∧ xs.length ≤ cc ∧ Kd.C (Kd.int .i64) W A xs.length xs := Kd.R_reads h
def upd (s : Nat → Value) (n : Nat) (v : Value) : Nat → Value := fun j => if j = n then v else s j
theorem upd_self (s : Nat → Value) (n : Nat) (v : Value) : upd s n v n = v := if_pos rfl
theorem upd_ne {s : Nat → Value} {n j : Nat} {v : Value} (h : j ≠ n) : upd s n v j = s j := if_neg h
/-! The frame of spec.Cache, slot by slot. -/
def mk128 (s : Nat → Value) : Act := { tmps := ((List.range 128).map s).toArray, defers := [] }
set_option maxRecDepth 100000 in
theorem mk128_lit (s : Nat → Value) : mk128 s = { tmps := #[s 0, s 1, s 2, s 3, s 4, s 5, s 6, s 7, s 8, s 9, s 10, s 11, s 12, s 13, s 14, s 15, s 16, s 17, s 18, s 19, s 20, s 21, s 22, s 23, s 24, s 25, s 26, s 27, s 28, s 29, s 30, s 31, s 32, s 33, s 34, s 35, s 36, s 37, s 38, s 39, s 40, s 41, s 42, s 43, s 44, s 45, s 46, s 47, s 48, s 49, s 50, s 51, s 52, s 53, s 54, s 55, s 56, s 57, s 58, s 59, s 60, s 61, s 62, s 63, s 64, s 65, s 66, s 67, s 68, s 69, s 70, s 71, s 72, s 73, s 74, s 75, s 76, s 77, s 78, s 79, s 80, s 81, s 82, s 83, s 84, s 85, s 86, s 87, s 88, s 89, s 90, s 91, s 92, s 93, s 94, s 95, s 96, s 97, s 98, s 99, s 100, s 101, s 102, s 103, s 104, s 105, s 106, s 107, s 108, s 109, s 110, s 111, s 112, s 113, s 114, s 115, s 116, s 117, s 118, s 119, s 120, s 121, s 122, s 123, s 124, s 125, s 126, s 127], defers := [] } := rfl
theorem at_mk {c : Code} {Q : Exit → Act → World → Prop} {a : Act} {w : World} (h1 : a.tmps.size = 128) (h2 : a.defers = []) (h : Code.wp Try.prog c Q (mk128 fun j => a.tmps.getD j undef) w) : Code.wp Try.prog c Q a w := by
  have e : a = mk128 fun j => a.tmps.getD j undef := by
    obtain ⟨tm, df⟩ := a
    simp only at h1 h2
    subst h2
    unfold mk128
    congr 1
    apply Array.ext (by simpa using h1)
    intro i h3 h4
    simp [Array.getD_eq_getD_getElem?, h3]
  rw [e]
  exact h
theorem mk_eval (s : Nat → Value) (j : Nat) (h : j < 128) : (mk128 s).eval (.tmp j) = s j := by
  show (((List.range 128).map s).toArray).getD j undef = s j
  rw [Array.getD_eq_getD_getElem?, List.getElem?_toArray, List.getElem?_map, List.getElem?_range h]
  rfl
theorem mk_get (s : Nat → Value) (j : Nat) (h : j < 128) : (mk128 s).tmps[j]?.getD undef = s j := by
  show (((List.range 128).map s).toArray)[j]?.getD undef = s j
  rw [List.getElem?_toArray, List.getElem?_map, List.getElem?_range h]
  rfl
theorem mk_put (s : Nat → Value) (N : Nat) (v : Value) (h : N < 128) : (mk128 s).put (some N) v = mk128 (upd s N v) := by
  show ({ tmps := (((List.range 128).map s).toArray).setIfInBounds N v, defers := [] } : Act) = { tmps := ((List.range 128).map (upd s N v)).toArray, defers := [] }
  congr 1
  apply Array.ext_getElem?
  intro j
  rw [Array.getElem?_setIfInBounds, List.getElem?_toArray, List.getElem?_toArray, List.getElem?_map, List.getElem?_map]
  by_cases hj : j < 128
  · rw [List.getElem?_range hj]
    by_cases e : N = j
    · subst e; simp [upd, h]
    · have e2 : ¬ j = N := fun z => e z.symm
      simp [upd, e, e2]
  · rw [List.getElem?_eq_none (by simpa using hj)]
    have e : N ≠ j := by omega
    simp [e]
theorem hasL_none (n j : Nat) : hasL_ (Array.replicate n false) j = false := by
  unfold hasL_
  rw [Array.getD_eq_getD_getElem?, Array.getElem?_replicate]
  split <;> rfl
/-- a slice that may be read -/
def CS (W : World) (v : Value) (xs : List Int) : Prop := ∃ A cc, v = .slice A xs.length cc ∧ xs.length ≤ cc ∧ Kd.C (Kd.int .i64) W A xs.length xs ∧ ∀ ad, A = some ad → ∃ cells, W.heap[ad.block]? = some (.cells cells 3 (0, 0))
theorem Row.cs {c : Nat → Nat} {X : Nat} {W : World} {b : Nat} {v : Value} {xs : List Int} (h : Row c X W b v xs) : CS W v xs := by
  obtain ⟨A, cc, e, h1, h2⟩ := Kd.R_reads h
  obtain ⟨inner, ho⟩ := Kd.R_own h
  exact ⟨A, cc, e, h1, h2, fun ad ha => own_typed ho ad.block (by rw [e, ha]; rfl)⟩
theorem elem_int : ∃ i, Try.prog.info? 3 = some i ∧ i.size = 1 := by
  obtain ⟨i0, hi, hz⟩ := Option.map_eq_some_iff.1 infoInt
  simp only [Prod.mk.injEq] at hz
  exact ⟨i0, hi, hz.2.1⟩
def ops18 : Array Oper := #[{ dst := some 59, op := Op.buildSlice 40 0 #[], type := 40, pos := "sets.go:170", after := #[], guard := none }, { dst := some 60, op := Op.move (Operand.tmp 5), type := 40, pos := "sets.go:170", after := #[], guard := none }, { dst := some 61, op := Op.move (Operand.tmp 9), type := 3, pos := "sets.go:170", after := #[], guard := none }, { dst := some 62, op := Op.slice 40 (Operand.tmp 60) none (some (Operand.tmp 61)) none, type := 40, pos := "sets.go:170", after := #[{ on := 1, ground := Ground.data }, { on := 2, ground := Ground.data }], guard := none }, { dst := some 63, op := Op.call { callee := Callee.builtin Builtin.append, args := #[Operand.tmp 59, Operand.tmp 62], argTypes := #[40, 40] }, type := 40, pos := "sets.go:170", after := #[{ on := 0, ground := Ground.data }, { on := 3, ground := Ground.data }], guard := none }, { dst := some 64, op := Op.move (Operand.tmp 5), type := 40, pos := "sets.go:170", after := #[], guard := none }, { dst := some 65, op := Op.move (Operand.tmp 9), type := 3, pos := "sets.go:170", after := #[], guard := none }, { dst := some 66, op := Op.binOp BinOp.add 3 (Operand.tmp 65) (Operand.const (Value.int IntKind.i64 1)) 3, type := 3, pos := "sets.go:170", after := #[{ on := 6, ground := Ground.data }], guard := none }, { dst := some 67, op := Op.slice 40 (Operand.tmp 64) (some (Operand.tmp 66)) none none, type := 40, pos := "sets.go:170", after := #[{ on := 5, ground := Ground.data }, { on := 7, ground := Ground.data }], guard := none }, { dst := some 68, op := Op.call { callee := Callee.builtin Builtin.append, args := #[Operand.tmp 63, Operand.tmp 67], argTypes := #[40, 40] }, type := 40, pos := "sets.go:170", after := #[{ on := 4, ground := Ground.data }, { on := 8, ground := Ground.data }, { on := 4, ground := Ground.chain }], guard := none }, { dst := some 5, op := Op.assign (Operand.tmp 68), type := 40, pos := "sets.go:170", after := #[{ on := 9, ground := Ground.data }, { on := 9, ground := Ground.chain }, { on := 0, ground := Ground.phase }, { on := 1, ground := Ground.phase }, { on := 2, ground := Ground.phase }, { on := 3, ground := Ground.phase }, { on := 4, ground := Ground.phase }, { on := 5, ground := Ground.phase }, { on := 6, ground := Ground.phase }, { on := 7, ground := Ground.phase }, { on := 8, ground := Ground.phase }, { on := 9, ground := Ground.phase }], guard := none }]
def T18 : List (List Nat) := [[], [], [], [1, 2], [0, 3], [], [], [6], [5, 7], [4, 8, 4], [9, 9, 0, 1, 2, 3, 4, 5, 6, 7, 8, 9]]
theorem ops18_T : (List.range ops18.size).map (fun i => match ops18[i]? with | some o => o.after.toList.filterMap (fun e => if Region.binds .any e = true then some e.on else none) | none => []) = T18 := by kernel_rfl
structure F18 (ks : List Int) (A : Option Addr) (cap : Nat) (n : Nat) (VT : Value) (VD : Value) (t : Nat → Value) (b : Nat) (L : Nat → Bool) (s : Nat → Value) (c : Nat → Nat) (W : World) : Prop where
  cl : ∀ j k, k ∈ T18.getD j [] → L j = true → L k = true
  fr : ∀ j, j ∉ [5, 59, 60, 61, 62, 63, 64, 65, 66, 67, 68] → s j = t j
  r0 : L 0 = true → L 4 = false → Row c 1 W b (s 59) ([])
  p1 : L 1 = true → s 60 = (.slice A ks.length cap)
  p2 : L 2 = true → s 61 = (.int .i64 (n : Int))
  p3 : L 3 = true → s 62 = VT
  r4 : L 4 = true → L 9 = false → Row c 1 W b (s 63) (ks.take n)
  p5 : L 5 = true → s 64 = (.slice A ks.length cap)
  p6 : L 6 = true → s 65 = (.int .i64 (n : Int))
  p7 : L 7 = true → s 66 = (.int .i64 ((n : Int) + 1))
  p8 : L 8 = true → s 67 = VD
  r9 : L 9 = true → Row c 1 W b (s 68) (ks.take n ++ ks.drop (n + 1))
  q10 : L 10 = true → s 5 = s 68
  n10 : L 10 = false → s 5 = (.slice A ks.length cap)
set_option maxHeartbeats 4000000 in
set_option maxRecDepth 100000 in
theorem reg18 {Q : Exit → Act → World → Prop} (t : Nat → Value) (w : World) (ks : List Int) (A : Option Addr) (cap : Nat) (n : Nat) (VT : Value) (VD : Value) (h5 : t 5 = (.slice A ks.length cap)) (h9 : t 9 = (.int .i64 (n : Int))) (hc : ks.length ≤ cap) (hC : Kd.C (Kd.int .i64) w A ks.length ks) (hlt : n < ks.length) (hl : ks.length < 1000000) (hTk : ∀ W : World, (Instr.slice 40 (.slice A ks.length cap) none (some (.int .i64 (n : Int))) none).run Try.prog W = .ok VT W) (hVT : VT = .slice A (ks.take n).length cap) (hCt : Kd.C (Kd.int .i64) w A (ks.take n).length (ks.take n)) (A' : Option Addr) (hDk : ∀ W : World, (Instr.slice 40 (.slice A ks.length cap) (some (.int .i64 ((n : Int) + 1))) none none).run Try.prog W = .ok VD W) (hVD : VD = .slice A' (ks.drop (n + 1)).length (cap - (n + 1))) (hCd : Kd.C (Kd.int .i64) w A' (ks.drop (n + 1)).length (ks.drop (n + 1)))
    (hQ : ∀ t' W', Below w.heap.size w W' → (∀ j, j ∉ [5, 59, 60, 61, 62, 63, 64, 65, 66, 67, 68] → t' j = t j) → CS W' (t' 5) (ks.take n ++ ks.drop (n + 1)) → Q .normal (mk128 t') W') : (Code.region 18 ops18 true).wp Try.prog Q (mk128 t) w := by
  refine region_inv (by kernel_rfl) (fun L a W => ∃ s c, a = mk128 s ∧ Below w.heap.size w W ∧ F18 ks A cap n VT VD t w.heap.size (hasL_ L) s c W) T18 ops18_T (by decide) ?_ ?_ ?_
  · refine ⟨t, fun _ => 0, rfl, below_drew (Below.refl _ _), ?_⟩
    have hz : ∀ j, hasL_ (Array.replicate ops18.size false) j = false := hasL_none _
    refine { cl := fun j k _ h => absurd h (by rw [hz]; decide), fr := fun _ _ => rfl, r0 := ?_, p1 := ?_, p2 := ?_, p3 := ?_, r4 := ?_, p5 := ?_, p6 := ?_, p7 := ?_, p8 := ?_, r9 := ?_, q10 := ?_, n10 := ?_ }
    · intro h _; rw [hz] at h; cases h
    · intro h; rw [hz] at h; cases h
    · intro h; rw [hz] at h; cases h
    · intro h; rw [hz] at h; cases h
    · intro h _; rw [hz] at h; cases h
    · intro h; rw [hz] at h; cases h
    · intro h; rw [hz] at h; cases h
    · intro h; rw [hz] at h; cases h
    · intro h; rw [hz] at h; cases h
    · intro h; rw [hz] at h; cases h
    · intro h; rw [hz] at h; cases h
    · intro _; exact h5
  · rintro L a W i hsz hi hn hneed ⟨s, c, rfl, HB, hF⟩
    have hi2 : i < 11 := hi
    have hself : hasL_ (L.setIfInBounds i true) i = true := by rw [hasL_set (by omega), if_pos rfl]
    have hoth : ∀ j, j ≠ i → hasL_ (L.setIfInBounds i true) j = hasL_ L j := fun j hj => by rw [hasL_set (by omega), if_neg hj]
    have hcl : ∀ j k, k ∈ T18.getD j [] → hasL_ (L.setIfInBounds i true) j = true → hasL_ (L.setIfInBounds i true) k = true := by
      intro j k hk hj
      by_cases e : k = i
      · rw [e]; exact hself
      · rw [hoth k e]
        by_cases e2 : j = i
        · rw [e2] at hk; exact hneed k hk
        · rw [hoth j e2] at hj; exact hF.cl j k hk hj
    rcases (show i = 0 ∨ i = 1 ∨ i = 2 ∨ i = 3 ∨ i = 4 ∨ i = 5 ∨ i = 6 ∨ i = 7 ∨ i = 8 ∨ i = 9 ∨ i = 10 by omega) with rfl | rfl | rfl | rfl | rfl | rfl | rfl | rfl | rfl | rfl | rfl
    · refine wpOp_step (o := { dst := some 59, op := Op.buildSlice 40 0 #[], type := 40, pos := "sets.go:170", after := #[], guard := none }) rfl (fun K' hK => ?_)
      refine row_lit (w0 := w) c 1 rfl (N := 59) rfl ([]) (by simp) ?_ HB ?_
      · first | (go_simp; done) | (simp [execOp, mk_eval, *]; done)
      intro v c' W' hR hG HB'
      refine hK _ _ ⟨upd s 59 v, c', mk_put s 59 v (by decide), HB', ?_⟩
      refine { cl := hcl, fr := fun j hj => ?_, r0 := ?_, p1 := ?_, p2 := ?_, p3 := ?_, r4 := ?_, p5 := ?_, p6 := ?_, p7 := ?_, p8 := ?_, r9 := ?_, q10 := ?_, n10 := ?_ }
      · rw [upd_ne (by rintro rfl; exact hj (by decide))]; exact hF.fr j hj
      · intro h0 h1; rw [hoth 4 (by decide)] at h1; rw [upd_self]; exact hR
      · intro h0; rw [hoth 1 (by decide)] at h0; rw [upd_ne (show 60 ≠ 59 by decide)]; exact hF.p1 h0
      · intro h0; rw [hoth 2 (by decide)] at h0; rw [upd_ne (show 61 ≠ 59 by decide)]; exact hF.p2 h0
      · intro h0; rw [hoth 3 (by decide)] at h0; rw [upd_ne (show 62 ≠ 59 by decide)]; exact hF.p3 h0
      · intro h0 h1; rw [hoth 4 (by decide)] at h0; rw [hoth 9 (by decide)] at h1; exact absurd (hF.cl 4 0 (by decide) h0) (by rw [hn]; decide)
      · intro h0; rw [hoth 5 (by decide)] at h0; rw [upd_ne (show 64 ≠ 59 by decide)]; exact hF.p5 h0
      · intro h0; rw [hoth 6 (by decide)] at h0; rw [upd_ne (show 65 ≠ 59 by decide)]; exact hF.p6 h0
      · intro h0; rw [hoth 7 (by decide)] at h0; rw [upd_ne (show 66 ≠ 59 by decide)]; exact hF.p7 h0
      · intro h0; rw [hoth 8 (by decide)] at h0; rw [upd_ne (show 67 ≠ 59 by decide)]; exact hF.p8 h0
      · intro h0; rw [hoth 9 (by decide)] at h0; exact absurd (hF.cl 4 0 (by decide) (hF.cl 9 4 (by decide) h0)) (by rw [hn]; decide)
      · intro h0; rw [hoth 10 (by decide)] at h0; rw [upd_ne (show 5 ≠ 59 by decide)]; rw [upd_ne (show 68 ≠ 59 by decide)]; exact hF.q10 h0
      · intro h0; rw [hoth 10 (by decide)] at h0; rw [upd_ne (show 5 ≠ 59 by decide)]; exact hF.n10 h0
    · have off10 : hasL_ L 10 = false := by cases h : hasL_ L 10 with | false => rfl | true => exact absurd (hF.cl 10 1 (by decide) h) (by rw [hn]; decide)
      have e1 := hF.n10 off10
      refine Yields.wpOp (o := { dst := some 60, op := Op.move (Operand.tmp 5), type := 40, pos := "sets.go:170", after := #[], guard := none }) (v := (.slice A ks.length cap)) rfl (Or.inl ⟨rfl, fun w' => ?_⟩) ?_
      · first | (go_simp; done) | (simp [execOp, mk_eval, *]; done)
      refine ⟨upd s 60 (.slice A ks.length cap), c, mk_put s 60 (.slice A ks.length cap) (by decide), HB, ?_⟩
      refine { cl := hcl, fr := fun j hj => ?_, r0 := ?_, p1 := ?_, p2 := ?_, p3 := ?_, r4 := ?_, p5 := ?_, p6 := ?_, p7 := ?_, p8 := ?_, r9 := ?_, q10 := ?_, n10 := ?_ }
      · rw [upd_ne (by rintro rfl; exact hj (by decide))]; exact hF.fr j hj
      · intro h0 h1; rw [hoth 0 (by decide)] at h0; rw [hoth 4 (by decide)] at h1; rw [upd_ne (show 59 ≠ 60 by decide)]; exact hF.r0 h0 h1
      · intro h0; exact upd_self _ _ _
      · intro h0; rw [hoth 2 (by decide)] at h0; rw [upd_ne (show 61 ≠ 60 by decide)]; exact hF.p2 h0
      · intro h0; rw [hoth 3 (by decide)] at h0; exact absurd (hF.cl 3 1 (by decide) h0) (by rw [hn]; decide)
      · intro h0 h1; rw [hoth 4 (by decide)] at h0; rw [hoth 9 (by decide)] at h1; rw [upd_ne (show 63 ≠ 60 by decide)]; exact hF.r4 h0 h1
      · intro h0; rw [hoth 5 (by decide)] at h0; rw [upd_ne (show 64 ≠ 60 by decide)]; exact hF.p5 h0
      · intro h0; rw [hoth 6 (by decide)] at h0; rw [upd_ne (show 65 ≠ 60 by decide)]; exact hF.p6 h0
      · intro h0; rw [hoth 7 (by decide)] at h0; rw [upd_ne (show 66 ≠ 60 by decide)]; exact hF.p7 h0
      · intro h0; rw [hoth 8 (by decide)] at h0; rw [upd_ne (show 67 ≠ 60 by decide)]; exact hF.p8 h0
      · intro h0; rw [hoth 9 (by decide)] at h0; rw [upd_ne (show 68 ≠ 60 by decide)]; exact hF.r9 h0
      · intro h0; rw [hoth 10 (by decide)] at h0; exact absurd (hF.cl 10 1 (by decide) h0) (by rw [hn]; decide)
      · intro h0; rw [hoth 10 (by decide)] at h0; rw [upd_ne (show 5 ≠ 60 by decide)]; exact hF.n10 h0
    · have e1 := (hF.fr 9 (by decide)).trans h9
      refine Yields.wpOp (o := { dst := some 61, op := Op.move (Operand.tmp 9), type := 3, pos := "sets.go:170", after := #[], guard := none }) (v := (.int .i64 (n : Int))) rfl (Or.inl ⟨rfl, fun w' => ?_⟩) ?_
      · first | (go_simp; done) | (simp [execOp, mk_eval, *]; done)
      refine ⟨upd s 61 (.int .i64 (n : Int)), c, mk_put s 61 (.int .i64 (n : Int)) (by decide), HB, ?_⟩
      refine { cl := hcl, fr := fun j hj => ?_, r0 := ?_, p1 := ?_, p2 := ?_, p3 := ?_, r4 := ?_, p5 := ?_, p6 := ?_, p7 := ?_, p8 := ?_, r9 := ?_, q10 := ?_, n10 := ?_ }
      · rw [upd_ne (by rintro rfl; exact hj (by decide))]; exact hF.fr j hj
      · intro h0 h1; rw [hoth 0 (by decide)] at h0; rw [hoth 4 (by decide)] at h1; rw [upd_ne (show 59 ≠ 61 by decide)]; exact hF.r0 h0 h1
      · intro h0; rw [hoth 1 (by decide)] at h0; rw [upd_ne (show 60 ≠ 61 by decide)]; exact hF.p1 h0
      · intro h0; exact upd_self _ _ _
      · intro h0; rw [hoth 3 (by decide)] at h0; exact absurd (hF.cl 3 2 (by decide) h0) (by rw [hn]; decide)
      · intro h0 h1; rw [hoth 4 (by decide)] at h0; rw [hoth 9 (by decide)] at h1; rw [upd_ne (show 63 ≠ 61 by decide)]; exact hF.r4 h0 h1
      · intro h0; rw [hoth 5 (by decide)] at h0; rw [upd_ne (show 64 ≠ 61 by decide)]; exact hF.p5 h0
      · intro h0; rw [hoth 6 (by decide)] at h0; rw [upd_ne (show 65 ≠ 61 by decide)]; exact hF.p6 h0
      · intro h0; rw [hoth 7 (by decide)] at h0; rw [upd_ne (show 66 ≠ 61 by decide)]; exact hF.p7 h0
      · intro h0; rw [hoth 8 (by decide)] at h0; rw [upd_ne (show 67 ≠ 61 by decide)]; exact hF.p8 h0
      · intro h0; rw [hoth 9 (by decide)] at h0; rw [upd_ne (show 68 ≠ 61 by decide)]; exact hF.r9 h0
      · intro h0; rw [hoth 10 (by decide)] at h0; exact absurd (hF.cl 10 2 (by decide) h0) (by rw [hn]; decide)
      · intro h0; rw [hoth 10 (by decide)] at h0; rw [upd_ne (show 5 ≠ 61 by decide)]; exact hF.n10 h0
    · have e1 := hF.p1 (hneed 1 (by decide))
      have e2 := hF.p2 (hneed 2 (by decide))
      refine Yields.wpOp (o := { dst := some 62, op := Op.slice 40 (Operand.tmp 60) none (some (Operand.tmp 61)) none, type := 40, pos := "sets.go:170", after := #[{ on := 1, ground := Ground.data }, { on := 2, ground := Ground.data }], guard := none }) (v := VT) rfl (Or.inl ⟨rfl, fun w' => ?_⟩) ?_
      · simp [execOp, mk_eval, e1, e2, Instr.sliceAt, run_underlying Try.underlying40, hTk, Result.andThen]
      refine ⟨upd s 62 VT, c, mk_put s 62 VT (by decide), HB, ?_⟩
      refine { cl := hcl, fr := fun j hj => ?_, r0 := ?_, p1 := ?_, p2 := ?_, p3 := ?_, r4 := ?_, p5 := ?_, p6 := ?_, p7 := ?_, p8 := ?_, r9 := ?_, q10 := ?_, n10 := ?_ }
      · rw [upd_ne (by rintro rfl; exact hj (by decide))]; exact hF.fr j hj
      · intro h0 h1; rw [hoth 0 (by decide)] at h0; rw [hoth 4 (by decide)] at h1; rw [upd_ne (show 59 ≠ 62 by decide)]; exact hF.r0 h0 h1
      · intro h0; rw [hoth 1 (by decide)] at h0; rw [upd_ne (show 60 ≠ 62 by decide)]; exact hF.p1 h0
      · intro h0; rw [hoth 2 (by decide)] at h0; rw [upd_ne (show 61 ≠ 62 by decide)]; exact hF.p2 h0
      · intro h0; exact upd_self _ _ _
      · intro h0 h1; rw [hoth 4 (by decide)] at h0; rw [hoth 9 (by decide)] at h1; rw [upd_ne (show 63 ≠ 62 by decide)]; exact hF.r4 h0 h1
      · intro h0; rw [hoth 5 (by decide)] at h0; rw [upd_ne (show 64 ≠ 62 by decide)]; exact hF.p5 h0
      · intro h0; rw [hoth 6 (by decide)] at h0; rw [upd_ne (show 65 ≠ 62 by decide)]; exact hF.p6 h0
      · intro h0; rw [hoth 7 (by decide)] at h0; rw [upd_ne (show 66 ≠ 62 by decide)]; exact hF.p7 h0
      · intro h0; rw [hoth 8 (by decide)] at h0; rw [upd_ne (show 67 ≠ 62 by decide)]; exact hF.p8 h0
      · intro h0; rw [hoth 9 (by decide)] at h0; rw [upd_ne (show 68 ≠ 62 by decide)]; exact hF.r9 h0
      · intro h0; rw [hoth 10 (by decide)] at h0; exact absurd (hF.cl 10 3 (by decide) h0) (by rw [hn]; decide)
      · intro h0; rw [hoth 10 (by decide)] at h0; rw [upd_ne (show 5 ≠ 62 by decide)]; exact hF.n10 h0
    · refine wpOp_step (o := { dst := some 63, op := Op.call { callee := Callee.builtin Builtin.append, args := #[Operand.tmp 59, Operand.tmp 62], argTypes := #[40, 40] }, type := 40, pos := "sets.go:170", after := #[{ on := 0, ground := Ground.data }, { on := 3, ground := Ground.data }], guard := none }) rfl (fun K' hK => ?_)
      refine row_app (w0 := w) c 1 rfl (.tmp 59) (.tmp 62) rfl (s 59) ([]) (ks.take n) A (ks.take n).length cap (mk_eval s _ (by decide)) (by rw [mk_eval s _ (by decide)]; rw [hF.p3 (hneed 3 (by decide)), hVT]) (hF.r0 (hneed 0 (by decide)) hn) (Kd.C_below hCt HB) (by simp; omega) HB ?_
      intro v c' W' hR hG HB'
      refine hK _ _ ⟨upd s 63 v, c', mk_put s 63 v (by decide), HB', ?_⟩
      refine { cl := hcl, fr := fun j hj => ?_, r0 := ?_, p1 := ?_, p2 := ?_, p3 := ?_, r4 := ?_, p5 := ?_, p6 := ?_, p7 := ?_, p8 := ?_, r9 := ?_, q10 := ?_, n10 := ?_ }
      · rw [upd_ne (by rintro rfl; exact hj (by decide))]; exact hF.fr j hj
      · intro h0 h1; rw [hoth 0 (by decide)] at h0; rw [hself] at h1; cases h1
      · intro h0; rw [hoth 1 (by decide)] at h0; rw [upd_ne (show 60 ≠ 63 by decide)]; exact hF.p1 h0
      · intro h0; rw [hoth 2 (by decide)] at h0; rw [upd_ne (show 61 ≠ 63 by decide)]; exact hF.p2 h0
      · intro h0; rw [hoth 3 (by decide)] at h0; rw [upd_ne (show 62 ≠ 63 by decide)]; exact hF.p3 h0
      · intro h0 h1; rw [hoth 9 (by decide)] at h1; rw [upd_self]; exact hR
      · intro h0; rw [hoth 5 (by decide)] at h0; rw [upd_ne (show 64 ≠ 63 by decide)]; exact hF.p5 h0
      · intro h0; rw [hoth 6 (by decide)] at h0; rw [upd_ne (show 65 ≠ 63 by decide)]; exact hF.p6 h0
      · intro h0; rw [hoth 7 (by decide)] at h0; rw [upd_ne (show 66 ≠ 63 by decide)]; exact hF.p7 h0
      · intro h0; rw [hoth 8 (by decide)] at h0; rw [upd_ne (show 67 ≠ 63 by decide)]; exact hF.p8 h0
      · intro h0; rw [hoth 9 (by decide)] at h0; exact absurd (hF.cl 9 4 (by decide) h0) (by rw [hn]; decide)
      · intro h0; rw [hoth 10 (by decide)] at h0; rw [upd_ne (show 5 ≠ 63 by decide)]; rw [upd_ne (show 68 ≠ 63 by decide)]; exact hF.q10 h0
      · intro h0; rw [hoth 10 (by decide)] at h0; rw [upd_ne (show 5 ≠ 63 by decide)]; exact hF.n10 h0
    · have off10 : hasL_ L 10 = false := by cases h : hasL_ L 10 with | false => rfl | true => exact absurd (hF.cl 10 5 (by decide) h) (by rw [hn]; decide)
      have e1 := hF.n10 off10
      refine Yields.wpOp (o := { dst := some 64, op := Op.move (Operand.tmp 5), type := 40, pos := "sets.go:170", after := #[], guard := none }) (v := (.slice A ks.length cap)) rfl (Or.inl ⟨rfl, fun w' => ?_⟩) ?_
      · first | (go_simp; done) | (simp [execOp, mk_eval, *]; done)
      refine ⟨upd s 64 (.slice A ks.length cap), c, mk_put s 64 (.slice A ks.length cap) (by decide), HB, ?_⟩
      refine { cl := hcl, fr := fun j hj => ?_, r0 := ?_, p1 := ?_, p2 := ?_, p3 := ?_, r4 := ?_, p5 := ?_, p6 := ?_, p7 := ?_, p8 := ?_, r9 := ?_, q10 := ?_, n10 := ?_ }
      · rw [upd_ne (by rintro rfl; exact hj (by decide))]; exact hF.fr j hj
      · intro h0 h1; rw [hoth 0 (by decide)] at h0; rw [hoth 4 (by decide)] at h1; rw [upd_ne (show 59 ≠ 64 by decide)]; exact hF.r0 h0 h1
      · intro h0; rw [hoth 1 (by decide)] at h0; rw [upd_ne (show 60 ≠ 64 by decide)]; exact hF.p1 h0
      · intro h0; rw [hoth 2 (by decide)] at h0; rw [upd_ne (show 61 ≠ 64 by decide)]; exact hF.p2 h0
      · intro h0; rw [hoth 3 (by decide)] at h0; rw [upd_ne (show 62 ≠ 64 by decide)]; exact hF.p3 h0
      · intro h0 h1; rw [hoth 4 (by decide)] at h0; rw [hoth 9 (by decide)] at h1; rw [upd_ne (show 63 ≠ 64 by decide)]; exact hF.r4 h0 h1
      · intro h0; exact upd_self _ _ _
      · intro h0; rw [hoth 6 (by decide)] at h0; rw [upd_ne (show 65 ≠ 64 by decide)]; exact hF.p6 h0
      · intro h0; rw [hoth 7 (by decide)] at h0; rw [upd_ne (show 66 ≠ 64 by decide)]; exact hF.p7 h0
      · intro h0; rw [hoth 8 (by decide)] at h0; exact absurd (hF.cl 8 5 (by decide) h0) (by rw [hn]; decide)
      · intro h0; rw [hoth 9 (by decide)] at h0; rw [upd_ne (show 68 ≠ 64 by decide)]; exact hF.r9 h0
      · intro h0; rw [hoth 10 (by decide)] at h0; exact absurd (hF.cl 10 5 (by decide) h0) (by rw [hn]; decide)
      · intro h0; rw [hoth 10 (by decide)] at h0; rw [upd_ne (show 5 ≠ 64 by decide)]; exact hF.n10 h0
    · have e1 := (hF.fr 9 (by decide)).trans h9
      refine Yields.wpOp (o := { dst := some 65, op := Op.move (Operand.tmp 9), type := 3, pos := "sets.go:170", after := #[], guard := none }) (v := (.int .i64 (n : Int))) rfl (Or.inl ⟨rfl, fun w' => ?_⟩) ?_
      · first | (go_simp; done) | (simp [execOp, mk_eval, *]; done)
      refine ⟨upd s 65 (.int .i64 (n : Int)), c, mk_put s 65 (.int .i64 (n : Int)) (by decide), HB, ?_⟩
      refine { cl := hcl, fr := fun j hj => ?_, r0 := ?_, p1 := ?_, p2 := ?_, p3 := ?_, r4 := ?_, p5 := ?_, p6 := ?_, p7 := ?_, p8 := ?_, r9 := ?_, q10 := ?_, n10 := ?_ }
      · rw [upd_ne (by rintro rfl; exact hj (by decide))]; exact hF.fr j hj
      · intro h0 h1; rw [hoth 0 (by decide)] at h0; rw [hoth 4 (by decide)] at h1; rw [upd_ne (show 59 ≠ 65 by decide)]; exact hF.r0 h0 h1
      · intro h0; rw [hoth 1 (by decide)] at h0; rw [upd_ne (show 60 ≠ 65 by decide)]; exact hF.p1 h0
      · intro h0; rw [hoth 2 (by decide)] at h0; rw [upd_ne (show 61 ≠ 65 by decide)]; exact hF.p2 h0
      · intro h0; rw [hoth 3 (by decide)] at h0; rw [upd_ne (show 62 ≠ 65 by decide)]; exact hF.p3 h0
      · intro h0 h1; rw [hoth 4 (by decide)] at h0; rw [hoth 9 (by decide)] at h1; rw [upd_ne (show 63 ≠ 65 by decide)]; exact hF.r4 h0 h1
      · intro h0; rw [hoth 5 (by decide)] at h0; rw [upd_ne (show 64 ≠ 65 by decide)]; exact hF.p5 h0
      · intro h0; exact upd_self _ _ _
      · intro h0; rw [hoth 7 (by decide)] at h0; exact absurd (hF.cl 7 6 (by decide) h0) (by rw [hn]; decide)
      · intro h0; rw [hoth 8 (by decide)] at h0; exact absurd (hF.cl 7 6 (by decide) (hF.cl 8 7 (by decide) h0)) (by rw [hn]; decide)
      · intro h0; rw [hoth 9 (by decide)] at h0; rw [upd_ne (show 68 ≠ 65 by decide)]; exact hF.r9 h0
      · intro h0; rw [hoth 10 (by decide)] at h0; exact absurd (hF.cl 10 6 (by decide) h0) (by rw [hn]; decide)
      · intro h0; rw [hoth 10 (by decide)] at h0; rw [upd_ne (show 5 ≠ 65 by decide)]; exact hF.n10 h0
    · have e1 := hF.p6 (hneed 6 (by decide))
      refine Yields.wpOp (o := { dst := some 66, op := Op.binOp BinOp.add 3 (Operand.tmp 65) (Operand.const (Value.int IntKind.i64 1)) 3, type := 3, pos := "sets.go:170", after := #[{ on := 6, ground := Ground.data }], guard := none }) (v := (.int .i64 ((n : Int) + 1))) rfl (Or.inl ⟨rfl, fun w' => ?_⟩) ?_
      · simp only [execOp, mk_eval s _ (show 65 < 128 by decide), e1]; go_simp; rw [IntKind.wrap_i64]; omega
      refine ⟨upd s 66 (.int .i64 ((n : Int) + 1)), c, mk_put s 66 (.int .i64 ((n : Int) + 1)) (by decide), HB, ?_⟩
      refine { cl := hcl, fr := fun j hj => ?_, r0 := ?_, p1 := ?_, p2 := ?_, p3 := ?_, r4 := ?_, p5 := ?_, p6 := ?_, p7 := ?_, p8 := ?_, r9 := ?_, q10 := ?_, n10 := ?_ }
      · rw [upd_ne (by rintro rfl; exact hj (by decide))]; exact hF.fr j hj
      · intro h0 h1; rw [hoth 0 (by decide)] at h0; rw [hoth 4 (by decide)] at h1; rw [upd_ne (show 59 ≠ 66 by decide)]; exact hF.r0 h0 h1
      · intro h0; rw [hoth 1 (by decide)] at h0; rw [upd_ne (show 60 ≠ 66 by decide)]; exact hF.p1 h0
      · intro h0; rw [hoth 2 (by decide)] at h0; rw [upd_ne (show 61 ≠ 66 by decide)]; exact hF.p2 h0
      · intro h0; rw [hoth 3 (by decide)] at h0; rw [upd_ne (show 62 ≠ 66 by decide)]; exact hF.p3 h0
      · intro h0 h1; rw [hoth 4 (by decide)] at h0; rw [hoth 9 (by decide)] at h1; rw [upd_ne (show 63 ≠ 66 by decide)]; exact hF.r4 h0 h1
      · intro h0; rw [hoth 5 (by decide)] at h0; rw [upd_ne (show 64 ≠ 66 by decide)]; exact hF.p5 h0
      · intro h0; rw [hoth 6 (by decide)] at h0; rw [upd_ne (show 65 ≠ 66 by decide)]; exact hF.p6 h0
      · intro h0; exact upd_self _ _ _
      · intro h0; rw [hoth 8 (by decide)] at h0; exact absurd (hF.cl 8 7 (by decide) h0) (by rw [hn]; decide)
      · intro h0; rw [hoth 9 (by decide)] at h0; rw [upd_ne (show 68 ≠ 66 by decide)]; exact hF.r9 h0
      · intro h0; rw [hoth 10 (by decide)] at h0; exact absurd (hF.cl 10 7 (by decide) h0) (by rw [hn]; decide)
      · intro h0; rw [hoth 10 (by decide)] at h0; rw [upd_ne (show 5 ≠ 66 by decide)]; exact hF.n10 h0
    · have e1 := hF.p5 (hneed 5 (by decide))
      have e2 := hF.p7 (hneed 7 (by decide))
      refine Yields.wpOp (o := { dst := some 67, op := Op.slice 40 (Operand.tmp 64) (some (Operand.tmp 66)) none none, type := 40, pos := "sets.go:170", after := #[{ on := 5, ground := Ground.data }, { on := 7, ground := Ground.data }], guard := none }) (v := VD) rfl (Or.inl ⟨rfl, fun w' => ?_⟩) ?_
      · simp [execOp, mk_eval, e1, e2, Instr.sliceAt, run_underlying Try.underlying40, hDk, Result.andThen]
      refine ⟨upd s 67 VD, c, mk_put s 67 VD (by decide), HB, ?_⟩
      refine { cl := hcl, fr := fun j hj => ?_, r0 := ?_, p1 := ?_, p2 := ?_, p3 := ?_, r4 := ?_, p5 := ?_, p6 := ?_, p7 := ?_, p8 := ?_, r9 := ?_, q10 := ?_, n10 := ?_ }
      · rw [upd_ne (by rintro rfl; exact hj (by decide))]; exact hF.fr j hj
      · intro h0 h1; rw [hoth 0 (by decide)] at h0; rw [hoth 4 (by decide)] at h1; rw [upd_ne (show 59 ≠ 67 by decide)]; exact hF.r0 h0 h1
      · intro h0; rw [hoth 1 (by decide)] at h0; rw [upd_ne (show 60 ≠ 67 by decide)]; exact hF.p1 h0
      · intro h0; rw [hoth 2 (by decide)] at h0; rw [upd_ne (show 61 ≠ 67 by decide)]; exact hF.p2 h0
      · intro h0; rw [hoth 3 (by decide)] at h0; rw [upd_ne (show 62 ≠ 67 by decide)]; exact hF.p3 h0
      · intro h0 h1; rw [hoth 4 (by decide)] at h0; rw [hoth 9 (by decide)] at h1; rw [upd_ne (show 63 ≠ 67 by decide)]; exact hF.r4 h0 h1
      · intro h0; rw [hoth 5 (by decide)] at h0; rw [upd_ne (show 64 ≠ 67 by decide)]; exact hF.p5 h0
      · intro h0; rw [hoth 6 (by decide)] at h0; rw [upd_ne (show 65 ≠ 67 by decide)]; exact hF.p6 h0
      · intro h0; rw [hoth 7 (by decide)] at h0; rw [upd_ne (show 66 ≠ 67 by decide)]; exact hF.p7 h0
      · intro h0; exact upd_self _ _ _
      · intro h0; rw [hoth 9 (by decide)] at h0; rw [upd_ne (show 68 ≠ 67 by decide)]; exact hF.r9 h0
      · intro h0; rw [hoth 10 (by decide)] at h0; exact absurd (hF.cl 10 8 (by decide) h0) (by rw [hn]; decide)
      · intro h0; rw [hoth 10 (by decide)] at h0; rw [upd_ne (show 5 ≠ 67 by decide)]; exact hF.n10 h0
    · refine wpOp_step (o := { dst := some 68, op := Op.call { callee := Callee.builtin Builtin.append, args := #[Operand.tmp 63, Operand.tmp 67], argTypes := #[40, 40] }, type := 40, pos := "sets.go:170", after := #[{ on := 4, ground := Ground.data }, { on := 8, ground := Ground.data }, { on := 4, ground := Ground.chain }], guard := none }) rfl (fun K' hK => ?_)
      refine row_app (w0 := w) c 1 rfl (.tmp 63) (.tmp 67) rfl (s 63) (ks.take n) (ks.drop (n + 1)) A' (ks.drop (n + 1)).length (cap - (n + 1)) (mk_eval s _ (by decide)) (by rw [mk_eval s _ (by decide)]; rw [hF.p8 (hneed 8 (by decide)), hVD]) (hF.r4 (hneed 4 (by decide)) hn) (Kd.C_below hCd HB) (by simp; omega) HB ?_
      intro v c' W' hR hG HB'
      refine hK _ _ ⟨upd s 68 v, c', mk_put s 68 v (by decide), HB', ?_⟩
      refine { cl := hcl, fr := fun j hj => ?_, r0 := ?_, p1 := ?_, p2 := ?_, p3 := ?_, r4 := ?_, p5 := ?_, p6 := ?_, p7 := ?_, p8 := ?_, r9 := ?_, q10 := ?_, n10 := ?_ }
      · rw [upd_ne (by rintro rfl; exact hj (by decide))]; exact hF.fr j hj
      · intro h0 h1; rw [hoth 0 (by decide)] at h0; rw [hoth 4 (by decide)] at h1; rw [(hneed 4 (by decide))] at h1; cases h1
      · intro h0; rw [hoth 1 (by decide)] at h0; rw [upd_ne (show 60 ≠ 68 by decide)]; exact hF.p1 h0
      · intro h0; rw [hoth 2 (by decide)] at h0; rw [upd_ne (show 61 ≠ 68 by decide)]; exact hF.p2 h0
      · intro h0; rw [hoth 3 (by decide)] at h0; rw [upd_ne (show 62 ≠ 68 by decide)]; exact hF.p3 h0
      · intro h0 h1; rw [hoth 4 (by decide)] at h0; rw [hself] at h1; cases h1
      · intro h0; rw [hoth 5 (by decide)] at h0; rw [upd_ne (show 64 ≠ 68 by decide)]; exact hF.p5 h0
      · intro h0; rw [hoth 6 (by decide)] at h0; rw [upd_ne (show 65 ≠ 68 by decide)]; exact hF.p6 h0
      · intro h0; rw [hoth 7 (by decide)] at h0; rw [upd_ne (show 66 ≠ 68 by decide)]; exact hF.p7 h0
      · intro h0; rw [hoth 8 (by decide)] at h0; rw [upd_ne (show 67 ≠ 68 by decide)]; exact hF.p8 h0
      · intro h0; rw [upd_self]; exact hR
      · intro h0; rw [hoth 10 (by decide)] at h0; exact absurd (hF.cl 10 9 (by decide) h0) (by rw [hn]; decide)
      · intro h0; rw [hoth 10 (by decide)] at h0; rw [upd_ne (show 5 ≠ 68 by decide)]; exact hF.n10 h0
    · refine Yields.wpOp (o := { dst := some 5, op := Op.assign (Operand.tmp 68), type := 40, pos := "sets.go:170", after := #[{ on := 9, ground := Ground.data }, { on := 9, ground := Ground.chain }, { on := 0, ground := Ground.phase }, { on := 1, ground := Ground.phase }, { on := 2, ground := Ground.phase }, { on := 3, ground := Ground.phase }, { on := 4, ground := Ground.phase }, { on := 5, ground := Ground.phase }, { on := 6, ground := Ground.phase }, { on := 7, ground := Ground.phase }, { on := 8, ground := Ground.phase }, { on := 9, ground := Ground.phase }], guard := none }) (v := (s 68)) rfl (Or.inl ⟨rfl, fun w' => ?_⟩) ?_
      · first | (go_simp; done) | (simp [execOp, mk_eval, *]; done)
      refine ⟨upd s 5 (s 68), c, mk_put s 5 (s 68) (by decide), HB, ?_⟩
      refine { cl := hcl, fr := fun j hj => ?_, r0 := ?_, p1 := ?_, p2 := ?_, p3 := ?_, r4 := ?_, p5 := ?_, p6 := ?_, p7 := ?_, p8 := ?_, r9 := ?_, q10 := ?_, n10 := ?_ }
      · rw [upd_ne (by rintro rfl; exact hj (by decide))]; exact hF.fr j hj
      · intro h0 h1; rw [hoth 0 (by decide)] at h0; rw [hoth 4 (by decide)] at h1; rw [upd_ne (show 59 ≠ 5 by decide)]; exact hF.r0 h0 h1
      · intro h0; rw [hoth 1 (by decide)] at h0; rw [upd_ne (show 60 ≠ 5 by decide)]; exact hF.p1 h0
      · intro h0; rw [hoth 2 (by decide)] at h0; rw [upd_ne (show 61 ≠ 5 by decide)]; exact hF.p2 h0
      · intro h0; rw [hoth 3 (by decide)] at h0; rw [upd_ne (show 62 ≠ 5 by decide)]; exact hF.p3 h0
      · intro h0 h1; rw [hoth 4 (by decide)] at h0; rw [hoth 9 (by decide)] at h1; rw [upd_ne (show 63 ≠ 5 by decide)]; exact hF.r4 h0 h1
      · intro h0; rw [hoth 5 (by decide)] at h0; rw [upd_ne (show 64 ≠ 5 by decide)]; exact hF.p5 h0
      · intro h0; rw [hoth 6 (by decide)] at h0; rw [upd_ne (show 65 ≠ 5 by decide)]; exact hF.p6 h0
      · intro h0; rw [hoth 7 (by decide)] at h0; rw [upd_ne (show 66 ≠ 5 by decide)]; exact hF.p7 h0
      · intro h0; rw [hoth 8 (by decide)] at h0; rw [upd_ne (show 67 ≠ 5 by decide)]; exact hF.p8 h0
      · intro h0; rw [hoth 9 (by decide)] at h0; rw [upd_ne (show 68 ≠ 5 by decide)]; exact hF.r9 h0
      · intro h0; rw [upd_self, upd_ne (by decide)]
      · intro h0; rw [hself] at h0; cases h0
  · rintro L a W hsz hall ⟨s, c, rfl, HB, hF⟩
    have ha : ∀ j, j < 11 → hasL_ L j = true := hall
    refine hQ s W HB hF.fr ?_
    have h := (hF.r9 (ha 9 (by decide))).cs
    have e := hF.q10 (ha 10 (by decide))
    rw [e]
    exact h
def ops19 : Array Oper := #[{ dst := some 69, op := Op.buildSlice 40 0 #[], type := 40, pos := "sets.go:171", after := #[], guard := none }, { dst := some 70, op := Op.move (Operand.tmp 6), type := 40, pos := "sets.go:171", after := #[], guard := none }, { dst := some 71, op := Op.move (Operand.tmp 9), type := 3, pos := "sets.go:171", after := #[], guard := none }, { dst := some 72, op := Op.slice 40 (Operand.tmp 70) none (some (Operand.tmp 71)) none, type := 40, pos := "sets.go:171", after := #[{ on := 1, ground := Ground.data }, { on := 2, ground := Ground.data }], guard := none }, { dst := some 73, op := Op.call { callee := Callee.builtin Builtin.append, args := #[Operand.tmp 69, Operand.tmp 72], argTypes := #[40, 40] }, type := 40, pos := "sets.go:171", after := #[{ on := 0, ground := Ground.data }, { on := 3, ground := Ground.data }], guard := none }, { dst := some 74, op := Op.move (Operand.tmp 6), type := 40, pos := "sets.go:171", after := #[], guard := none }, { dst := some 75, op := Op.move (Operand.tmp 9), type := 3, pos := "sets.go:171", after := #[], guard := none }, { dst := some 76, op := Op.binOp BinOp.add 3 (Operand.tmp 75) (Operand.const (Value.int IntKind.i64 1)) 3, type := 3, pos := "sets.go:171", after := #[{ on := 6, ground := Ground.data }], guard := none }, { dst := some 77, op := Op.slice 40 (Operand.tmp 74) (some (Operand.tmp 76)) none none, type := 40, pos := "sets.go:171", after := #[{ on := 5, ground := Ground.data }, { on := 7, ground := Ground.data }], guard := none }, { dst := some 78, op := Op.call { callee := Callee.builtin Builtin.append, args := #[Operand.tmp 73, Operand.tmp 77], argTypes := #[40, 40] }, type := 40, pos := "sets.go:171", after := #[{ on := 4, ground := Ground.data }, { on := 8, ground := Ground.data }, { on := 4, ground := Ground.chain }], guard := none }, { dst := some 6, op := Op.assign (Operand.tmp 78), type := 40, pos := "sets.go:171", after := #[{ on := 9, ground := Ground.data }, { on := 9, ground := Ground.chain }, { on := 0, ground := Ground.phase }, { on := 1, ground := Ground.phase }, { on := 2, ground := Ground.phase }, { on := 3, ground := Ground.phase }, { on := 4, ground := Ground.phase }, { on := 5, ground := Ground.phase }, { on := 6, ground := Ground.phase }, { on := 7, ground := Ground.phase }, { on := 8, ground := Ground.phase }, { on := 9, ground := Ground.phase }], guard := none }]
def T19 : List (List Nat) := [[], [], [], [1, 2], [0, 3], [], [], [6], [5, 7], [4, 8, 4], [9, 9, 0, 1, 2, 3, 4, 5, 6, 7, 8, 9]]
theorem ops19_T : (List.range ops19.size).map (fun i => match ops19[i]? with | some o => o.after.toList.filterMap (fun e => if Region.binds .any e = true then some e.on else none) | none => []) = T19 := by kernel_rfl
structure F19 (ks : List Int) (A : Option Addr) (cap : Nat) (n : Nat) (VT : Value) (VD : Value) (t : Nat → Value) (b : Nat) (L : Nat → Bool) (s : Nat → Value) (c : Nat → Nat) (W : World) : Prop where
  cl : ∀ j k, k ∈ T19.getD j [] → L j = true → L k = true
  fr : ∀ j, j ∉ [6, 69, 70, 71, 72, 73, 74, 75, 76, 77, 78] → s j = t j
  r0 : L 0 = true → L 4 = false → Row c 1 W b (s 69) ([])
  p1 : L 1 = true → s 70 = (.slice A ks.length cap)
  p2 : L 2 = true → s 71 = (.int .i64 (n : Int))
  p3 : L 3 = true → s 72 = VT
  r4 : L 4 = true → L 9 = false → Row c 1 W b (s 73) (ks.take n)
  p5 : L 5 = true → s 74 = (.slice A ks.length cap)
  p6 : L 6 = true → s 75 = (.int .i64 (n : Int))
  p7 : L 7 = true → s 76 = (.int .i64 ((n : Int) + 1))
  p8 : L 8 = true → s 77 = VD
  r9 : L 9 = true → Row c 1 W b (s 78) (ks.take n ++ ks.drop (n + 1))
  q10 : L 10 = true → s 6 = s 78
  n10 : L 10 = false → s 6 = (.slice A ks.length cap)
set_option maxHeartbeats 4000000 in
set_option maxRecDepth 100000 in
theorem reg19 {Q : Exit → Act → World → Prop} (t : Nat → Value) (w : World) (ks : List Int) (A : Option Addr) (cap : Nat) (n : Nat) (VT : Value) (VD : Value) (h5 : t 6 = (.slice A ks.length cap)) (h9 : t 9 = (.int .i64 (n : Int))) (hc : ks.length ≤ cap) (hC : Kd.C (Kd.int .i64) w A ks.length ks) (hlt : n < ks.length) (hl : ks.length < 1000000) (hTk : ∀ W : World, (Instr.slice 40 (.slice A ks.length cap) none (some (.int .i64 (n : Int))) none).run Try.prog W = .ok VT W) (hVT : VT = .slice A (ks.take n).length cap) (hCt : Kd.C (Kd.int .i64) w A (ks.take n).length (ks.take n)) (A' : Option Addr) (hDk : ∀ W : World, (Instr.slice 40 (.slice A ks.length cap) (some (.int .i64 ((n : Int) + 1))) none none).run Try.prog W = .ok VD W) (hVD : VD = .slice A' (ks.drop (n + 1)).length (cap - (n + 1))) (hCd : Kd.C (Kd.int .i64) w A' (ks.drop (n + 1)).length (ks.drop (n + 1)))
    (hQ : ∀ t' W', Below w.heap.size w W' → (∀ j, j ∉ [6, 69, 70, 71, 72, 73, 74, 75, 76, 77, 78] → t' j = t j) → CS W' (t' 6) (ks.take n ++ ks.drop (n + 1)) → Q .normal (mk128 t') W') : (Code.region 19 ops19 true).wp Try.prog Q (mk128 t) w := by
  refine region_inv (by kernel_rfl) (fun L a W => ∃ s c, a = mk128 s ∧ Below w.heap.size w W ∧ F19 ks A cap n VT VD t w.heap.size (hasL_ L) s c W) T19 ops19_T (by decide) ?_ ?_ ?_
  · refine ⟨t, fun _ => 0, rfl, below_drew (Below.refl _ _), ?_⟩
    have hz : ∀ j, hasL_ (Array.replicate ops19.size false) j = false := hasL_none _
    refine { cl := fun j k _ h => absurd h (by rw [hz]; decide), fr := fun _ _ => rfl, r0 := ?_, p1 := ?_, p2 := ?_, p3 := ?_, r4 := ?_, p5 := ?_, p6 := ?_, p7 := ?_, p8 := ?_, r9 := ?_, q10 := ?_, n10 := ?_ }
    · intro h _; rw [hz] at h; cases h
    · intro h; rw [hz] at h; cases h
    · intro h; rw [hz] at h; cases h
    · intro h; rw [hz] at h; cases h
    · intro h _; rw [hz] at h; cases h
    · intro h; rw [hz] at h; cases h
    · intro h; rw [hz] at h; cases h
    · intro h; rw [hz] at h; cases h
    · intro h; rw [hz] at h; cases h
    · intro h; rw [hz] at h; cases h
    · intro h; rw [hz] at h; cases h
    · intro _; exact h5
  · rintro L a W i hsz hi hn hneed ⟨s, c, rfl, HB, hF⟩
    have hi2 : i < 11 := hi
    have hself : hasL_ (L.setIfInBounds i true) i = true := by rw [hasL_set (by omega), if_pos rfl]
    have hoth : ∀ j, j ≠ i → hasL_ (L.setIfInBounds i true) j = hasL_ L j := fun j hj => by rw [hasL_set (by omega), if_neg hj]
    have hcl : ∀ j k, k ∈ T19.getD j [] → hasL_ (L.setIfInBounds i true) j = true → hasL_ (L.setIfInBounds i true) k = true := by
      intro j k hk hj
      by_cases e : k = i
      · rw [e]; exact hself
      · rw [hoth k e]
        by_cases e2 : j = i
        · rw [e2] at hk; exact hneed k hk
        · rw [hoth j e2] at hj; exact hF.cl j k hk hj
    rcases (show i = 0 ∨ i = 1 ∨ i = 2 ∨ i = 3 ∨ i = 4 ∨ i = 5 ∨ i = 6 ∨ i = 7 ∨ i = 8 ∨ i = 9 ∨ i = 10 by omega) with rfl | rfl | rfl | rfl | rfl | rfl | rfl | rfl | rfl | rfl | rfl
    · refine wpOp_step (o := { dst := some 69, op := Op.buildSlice 40 0 #[], type := 40, pos := "sets.go:171", after := #[], guard := none }) rfl (fun K' hK => ?_)
      refine row_lit (w0 := w) c 1 rfl (N := 69) rfl ([]) (by simp) ?_ HB ?_
      · first | (go_simp; done) | (simp [execOp, mk_eval, *]; done)
      intro v c' W' hR hG HB'
      refine hK _ _ ⟨upd s 69 v, c', mk_put s 69 v (by decide), HB', ?_⟩
      refine { cl := hcl, fr := fun j hj => ?_, r0 := ?_, p1 := ?_, p2 := ?_, p3 := ?_, r4 := ?_, p5 := ?_, p6 := ?_, p7 := ?_, p8 := ?_, r9 := ?_, q10 := ?_, n10 := ?_ }
      · rw [upd_ne (by rintro rfl; exact hj (by decide))]; exact hF.fr j hj
      · intro h0 h1; rw [hoth 4 (by decide)] at h1; rw [upd_self]; exact hR
      · intro h0; rw [hoth 1 (by decide)] at h0; rw [upd_ne (show 70 ≠ 69 by decide)]; exact hF.p1 h0
      · intro h0; rw [hoth 2 (by decide)] at h0; rw [upd_ne (show 71 ≠ 69 by decide)]; exact hF.p2 h0
      · intro h0; rw [hoth 3 (by decide)] at h0; rw [upd_ne (show 72 ≠ 69 by decide)]; exact hF.p3 h0
      · intro h0 h1; rw [hoth 4 (by decide)] at h0; rw [hoth 9 (by decide)] at h1; exact absurd (hF.cl 4 0 (by decide) h0) (by rw [hn]; decide)
      · intro h0; rw [hoth 5 (by decide)] at h0; rw [upd_ne (show 74 ≠ 69 by decide)]; exact hF.p5 h0
      · intro h0; rw [hoth 6 (by decide)] at h0; rw [upd_ne (show 75 ≠ 69 by decide)]; exact hF.p6 h0
      · intro h0; rw [hoth 7 (by decide)] at h0; rw [upd_ne (show 76 ≠ 69 by decide)]; exact hF.p7 h0
      · intro h0; rw [hoth 8 (by decide)] at h0; rw [upd_ne (show 77 ≠ 69 by decide)]; exact hF.p8 h0
      · intro h0; rw [hoth 9 (by decide)] at h0; exact absurd (hF.cl 4 0 (by decide) (hF.cl 9 4 (by decide) h0)) (by rw [hn]; decide)
      · intro h0; rw [hoth 10 (by decide)] at h0; rw [upd_ne (show 6 ≠ 69 by decide)]; rw [upd_ne (show 78 ≠ 69 by decide)]; exact hF.q10 h0
      · intro h0; rw [hoth 10 (by decide)] at h0; rw [upd_ne (show 6 ≠ 69 by decide)]; exact hF.n10 h0
    · have off10 : hasL_ L 10 = false := by cases h : hasL_ L 10 with | false => rfl | true => exact absurd (hF.cl 10 1 (by decide) h) (by rw [hn]; decide)
      have e1 := hF.n10 off10
      refine Yields.wpOp (o := { dst := some 70, op := Op.move (Operand.tmp 6), type := 40, pos := "sets.go:171", after := #[], guard := none }) (v := (.slice A ks.length cap)) rfl (Or.inl ⟨rfl, fun w' => ?_⟩) ?_
      · first | (go_simp; done) | (simp [execOp, mk_eval, *]; done)
      refine ⟨upd s 70 (.slice A ks.length cap), c, mk_put s 70 (.slice A ks.length cap) (by decide), HB, ?_⟩
      refine { cl := hcl, fr := fun j hj => ?_, r0 := ?_, p1 := ?_, p2 := ?_, p3 := ?_, r4 := ?_, p5 := ?_, p6 := ?_, p7 := ?_, p8 := ?_, r9 := ?_, q10 := ?_, n10 := ?_ }
      · rw [upd_ne (by rintro rfl; exact hj (by decide))]; exact hF.fr j hj
      · intro h0 h1; rw [hoth 0 (by decide)] at h0; rw [hoth 4 (by decide)] at h1; rw [upd_ne (show 69 ≠ 70 by decide)]; exact hF.r0 h0 h1
      · intro h0; exact upd_self _ _ _
      · intro h0; rw [hoth 2 (by decide)] at h0; rw [upd_ne (show 71 ≠ 70 by decide)]; exact hF.p2 h0
      · intro h0; rw [hoth 3 (by decide)] at h0; exact absurd (hF.cl 3 1 (by decide) h0) (by rw [hn]; decide)
      · intro h0 h1; rw [hoth 4 (by decide)] at h0; rw [hoth 9 (by decide)] at h1; rw [upd_ne (show 73 ≠ 70 by decide)]; exact hF.r4 h0 h1
      · intro h0; rw [hoth 5 (by decide)] at h0; rw [upd_ne (show 74 ≠ 70 by decide)]; exact hF.p5 h0
      · intro h0; rw [hoth 6 (by decide)] at h0; rw [upd_ne (show 75 ≠ 70 by decide)]; exact hF.p6 h0
      · intro h0; rw [hoth 7 (by decide)] at h0; rw [upd_ne (show 76 ≠ 70 by decide)]; exact hF.p7 h0
      · intro h0; rw [hoth 8 (by decide)] at h0; rw [upd_ne (show 77 ≠ 70 by decide)]; exact hF.p8 h0
      · intro h0; rw [hoth 9 (by decide)] at h0; rw [upd_ne (show 78 ≠ 70 by decide)]; exact hF.r9 h0
      · intro h0; rw [hoth 10 (by decide)] at h0; exact absurd (hF.cl 10 1 (by decide) h0) (by rw [hn]; decide)
      · intro h0; rw [hoth 10 (by decide)] at h0; rw [upd_ne (show 6 ≠ 70 by decide)]; exact hF.n10 h0
    · have e1 := (hF.fr 9 (by decide)).trans h9
      refine Yields.wpOp (o := { dst := some 71, op := Op.move (Operand.tmp 9), type := 3, pos := "sets.go:171", after := #[], guard := none }) (v := (.int .i64 (n : Int))) rfl (Or.inl ⟨rfl, fun w' => ?_⟩) ?_
      · first | (go_simp; done) | (simp [execOp, mk_eval, *]; done)
      refine ⟨upd s 71 (.int .i64 (n : Int)), c, mk_put s 71 (.int .i64 (n : Int)) (by decide), HB, ?_⟩
      refine { cl := hcl, fr := fun j hj => ?_, r0 := ?_, p1 := ?_, p2 := ?_, p3 := ?_, r4 := ?_, p5 := ?_, p6 := ?_, p7 := ?_, p8 := ?_, r9 := ?_, q10 := ?_, n10 := ?_ }
      · rw [upd_ne (by rintro rfl; exact hj (by decide))]; exact hF.fr j hj
      · intro h0 h1; rw [hoth 0 (by decide)] at h0; rw [hoth 4 (by decide)] at h1; rw [upd_ne (show 69 ≠ 71 by decide)]; exact hF.r0 h0 h1
      · intro h0; rw [hoth 1 (by decide)] at h0; rw [upd_ne (show 70 ≠ 71 by decide)]; exact hF.p1 h0
      · intro h0; exact upd_self _ _ _
      · intro h0; rw [hoth 3 (by decide)] at h0; exact absurd (hF.cl 3 2 (by decide) h0) (by rw [hn]; decide)
      · intro h0 h1; rw [hoth 4 (by decide)] at h0; rw [hoth 9 (by decide)] at h1; rw [upd_ne (show 73 ≠ 71 by decide)]; exact hF.r4 h0 h1
      · intro h0; rw [hoth 5 (by decide)] at h0; rw [upd_ne (show 74 ≠ 71 by decide)]; exact hF.p5 h0
      · intro h0; rw [hoth 6 (by decide)] at h0; rw [upd_ne (show 75 ≠ 71 by decide)]; exact hF.p6 h0
      · intro h0; rw [hoth 7 (by decide)] at h0; rw [upd_ne (show 76 ≠ 71 by decide)]; exact hF.p7 h0
      · intro h0; rw [hoth 8 (by decide)] at h0; rw [upd_ne (show 77 ≠ 71 by decide)]; exact hF.p8 h0
      · intro h0; rw [hoth 9 (by decide)] at h0; rw [upd_ne (show 78 ≠ 71 by decide)]; exact hF.r9 h0
      · intro h0; rw [hoth 10 (by decide)] at h0; exact absurd (hF.cl 10 2 (by decide) h0) (by rw [hn]; decide)
      · intro h0; rw [hoth 10 (by decide)] at h0; rw [upd_ne (show 6 ≠ 71 by decide)]; exact hF.n10 h0
    · have e1 := hF.p1 (hneed 1 (by decide))
      have e2 := hF.p2 (hneed 2 (by decide))
      refine Yields.wpOp (o := { dst := some 72, op := Op.slice 40 (Operand.tmp 70) none (some (Operand.tmp 71)) none, type := 40, pos := "sets.go:171", after := #[{ on := 1, ground := Ground.data }, { on := 2, ground := Ground.data }], guard := none }) (v := VT) rfl (Or.inl ⟨rfl, fun w' => ?_⟩) ?_
      · simp [execOp, mk_eval, e1, e2, Instr.sliceAt, run_underlying Try.underlying40, hTk, Result.andThen]
      refine ⟨upd s 72 VT, c, mk_put s 72 VT (by decide), HB, ?_⟩
      refine { cl := hcl, fr := fun j hj => ?_, r0 := ?_, p1 := ?_, p2 := ?_, p3 := ?_, r4 := ?_, p5 := ?_, p6 := ?_, p7 := ?_, p8 := ?_, r9 := ?_, q10 := ?_, n10 := ?_ }
      · rw [upd_ne (by rintro rfl; exact hj (by decide))]; exact hF.fr j hj
      · intro h0 h1; rw [hoth 0 (by decide)] at h0; rw [hoth 4 (by decide)] at h1; rw [upd_ne (show 69 ≠ 72 by decide)]; exact hF.r0 h0 h1
      · intro h0; rw [hoth 1 (by decide)] at h0; rw [upd_ne (show 70 ≠ 72 by decide)]; exact hF.p1 h0
      · intro h0; rw [hoth 2 (by decide)] at h0; rw [upd_ne (show 71 ≠ 72 by decide)]; exact hF.p2 h0
      · intro h0; exact upd_self _ _ _
      · intro h0 h1; rw [hoth 4 (by decide)] at h0; rw [hoth 9 (by decide)] at h1; rw [upd_ne (show 73 ≠ 72 by decide)]; exact hF.r4 h0 h1
      · intro h0; rw [hoth 5 (by decide)] at h0; rw [upd_ne (show 74 ≠ 72 by decide)]; exact hF.p5 h0
      · intro h0; rw [hoth 6 (by decide)] at h0; rw [upd_ne (show 75 ≠ 72 by decide)]; exact hF.p6 h0
      · intro h0; rw [hoth 7 (by decide)] at h0; rw [upd_ne (show 76 ≠ 72 by decide)]; exact hF.p7 h0
      · intro h0; rw [hoth 8 (by decide)] at h0; rw [upd_ne (show 77 ≠ 72 by decide)]; exact hF.p8 h0
      · intro h0; rw [hoth 9 (by decide)] at h0; rw [upd_ne (show 78 ≠ 72 by decide)]; exact hF.r9 h0
      · intro h0; rw [hoth 10 (by decide)] at h0; exact absurd (hF.cl 10 3 (by decide) h0) (by rw [hn]; decide)
      · intro h0; rw [hoth 10 (by decide)] at h0; rw [upd_ne (show 6 ≠ 72 by decide)]; exact hF.n10 h0
    · refine wpOp_step (o := { dst := some 73, op := Op.call { callee := Callee.builtin Builtin.append, args := #[Operand.tmp 69, Operand.tmp 72], argTypes := #[40, 40] }, type := 40, pos := "sets.go:171", after := #[{ on := 0, ground := Ground.data }, { on := 3, ground := Ground.data }], guard := none }) rfl (fun K' hK => ?_)
      refine row_app (w0 := w) c 1 rfl (.tmp 69) (.tmp 72) rfl (s 69) ([]) (ks.take n) A (ks.take n).length cap (mk_eval s _ (by decide)) (by rw [mk_eval s _ (by decide)]; rw [hF.p3 (hneed 3 (by decide)), hVT]) (hF.r0 (hneed 0 (by decide)) hn) (Kd.C_below hCt HB) (by simp; omega) HB ?_
      intro v c' W' hR hG HB'
      refine hK _ _ ⟨upd s 73 v, c', mk_put s 73 v (by decide), HB', ?_⟩
      refine { cl := hcl, fr := fun j hj => ?_, r0 := ?_, p1 := ?_, p2 := ?_, p3 := ?_, r4 := ?_, p5 := ?_, p6 := ?_, p7 := ?_, p8 := ?_, r9 := ?_, q10 := ?_, n10 := ?_ }
      · rw [upd_ne (by rintro rfl; exact hj (by decide))]; exact hF.fr j hj
      · intro h0 h1; rw [hoth 0 (by decide)] at h0; rw [hself] at h1; cases h1
      · intro h0; rw [hoth 1 (by decide)] at h0; rw [upd_ne (show 70 ≠ 73 by decide)]; exact hF.p1 h0
      · intro h0; rw [hoth 2 (by decide)] at h0; rw [upd_ne (show 71 ≠ 73 by decide)]; exact hF.p2 h0
      · intro h0; rw [hoth 3 (by decide)] at h0; rw [upd_ne (show 72 ≠ 73 by decide)]; exact hF.p3 h0
      · intro h0 h1; rw [hoth 9 (by decide)] at h1; rw [upd_self]; exact hR
      · intro h0; rw [hoth 5 (by decide)] at h0; rw [upd_ne (show 74 ≠ 73 by decide)]; exact hF.p5 h0
      · intro h0; rw [hoth 6 (by decide)] at h0; rw [upd_ne (show 75 ≠ 73 by decide)]; exact hF.p6 h0
      · intro h0; rw [hoth 7 (by decide)] at h0; rw [upd_ne (show 76 ≠ 73 by decide)]; exact hF.p7 h0
      · intro h0; rw [hoth 8 (by decide)] at h0; rw [upd_ne (show 77 ≠ 73 by decide)]; exact hF.p8 h0
      · intro h0; rw [hoth 9 (by decide)] at h0; exact absurd (hF.cl 9 4 (by decide) h0) (by rw [hn]; decide)
      · intro h0; rw [hoth 10 (by decide)] at h0; rw [upd_ne (show 6 ≠ 73 by decide)]; rw [upd_ne (show 78 ≠ 73 by decide)]; exact hF.q10 h0
      · intro h0; rw [hoth 10 (by decide)] at h0; rw [upd_ne (show 6 ≠ 73 by decide)]; exact hF.n10 h0
    · have off10 : hasL_ L 10 = false := by cases h : hasL_ L 10 with | false => rfl | true => exact absurd (hF.cl 10 5 (by decide) h) (by rw [hn]; decide)
      have e1 := hF.n10 off10
      refine Yields.wpOp (o := { dst := some 74, op := Op.move (Operand.tmp 6), type := 40, pos := "sets.go:171", after := #[], guard := none }) (v := (.slice A ks.length cap)) rfl (Or.inl ⟨rfl, fun w' => ?_⟩) ?_
      · first | (go_simp; done) | (simp [execOp, mk_eval, *]; done)
      refine ⟨upd s 74 (.slice A ks.length cap), c, mk_put s 74 (.slice A ks.length cap) (by decide), HB, ?_⟩
      refine { cl := hcl, fr := fun j hj => ?_, r0 := ?_, p1 := ?_, p2 := ?_, p3 := ?_, r4 := ?_, p5 := ?_, p6 := ?_, p7 := ?_, p8 := ?_, r9 := ?_, q10 := ?_, n10 := ?_ }
      · rw [upd_ne (by rintro rfl; exact hj (by decide))]; exact hF.fr j hj
      · intro h0 h1; rw [hoth 0 (by decide)] at h0; rw [hoth 4 (by decide)] at h1; rw [upd_ne (show 69 ≠ 74 by decide)]; exact hF.r0 h0 h1
      · intro h0; rw [hoth 1 (by decide)] at h0; rw [upd_ne (show 70 ≠ 74 by decide)]; exact hF.p1 h0
      · intro h0; rw [hoth 2 (by decide)] at h0; rw [upd_ne (show 71 ≠ 74 by decide)]; exact hF.p2 h0
      · intro h0; rw [hoth 3 (by decide)] at h0; rw [upd_ne (show 72 ≠ 74 by decide)]; exact hF.p3 h0
      · intro h0 h1; rw [hoth 4 (by decide)] at h0; rw [hoth 9 (by decide)] at h1; rw [upd_ne (show 73 ≠ 74 by decide)]; exact hF.r4 h0 h1
      · intro h0; exact upd_self _ _ _
      · intro h0; rw [hoth 6 (by decide)] at h0; rw [upd_ne (show 75 ≠ 74 by decide)]; exact hF.p6 h0
      · intro h0; rw [hoth 7 (by decide)] at h0; rw [upd_ne (show 76 ≠ 74 by decide)]; exact hF.p7 h0
      · intro h0; rw [hoth 8 (by decide)] at h0; exact absurd (hF.cl 8 5 (by decide) h0) (by rw [hn]; decide)
      · intro h0; rw [hoth 9 (by decide)] at h0; rw [upd_ne (show 78 ≠ 74 by decide)]; exact hF.r9 h0
      · intro h0; rw [hoth 10 (by decide)] at h0; exact absurd (hF.cl 10 5 (by decide) h0) (by rw [hn]; decide)
      · intro h0; rw [hoth 10 (by decide)] at h0; rw [upd_ne (show 6 ≠ 74 by decide)]; exact hF.n10 h0
    · have e1 := (hF.fr 9 (by decide)).trans h9
      refine Yields.wpOp (o := { dst := some 75, op := Op.move (Operand.tmp 9), type := 3, pos := "sets.go:171", after := #[], guard := none }) (v := (.int .i64 (n : Int))) rfl (Or.inl ⟨rfl, fun w' => ?_⟩) ?_
      · first | (go_simp; done) | (simp [execOp, mk_eval, *]; done)
      refine ⟨upd s 75 (.int .i64 (n : Int)), c, mk_put s 75 (.int .i64 (n : Int)) (by decide), HB, ?_⟩
      refine { cl := hcl, fr := fun j hj => ?_, r0 := ?_, p1 := ?_, p2 := ?_, p3 := ?_, r4 := ?_, p5 := ?_, p6 := ?_, p7 := ?_, p8 := ?_, r9 := ?_, q10 := ?_, n10 := ?_ }
      · rw [upd_ne (by rintro rfl; exact hj (by decide))]; exact hF.fr j hj
      · intro h0 h1; rw [hoth 0 (by decide)] at h0; rw [hoth 4 (by decide)] at h1; rw [upd_ne (show 69 ≠ 75 by decide)]; exact hF.r0 h0 h1
      · intro h0; rw [hoth 1 (by decide)] at h0; rw [upd_ne (show 70 ≠ 75 by decide)]; exact hF.p1 h0
      · intro h0; rw [hoth 2 (by decide)] at h0; rw [upd_ne (show 71 ≠ 75 by decide)]; exact hF.p2 h0
      · intro h0; rw [hoth 3 (by decide)] at h0; rw [upd_ne (show 72 ≠ 75 by decide)]; exact hF.p3 h0
      · intro h0 h1; rw [hoth 4 (by decide)] at h0; rw [hoth 9 (by decide)] at h1; rw [upd_ne (show 73 ≠ 75 by decide)]; exact hF.r4 h0 h1
      · intro h0; rw [hoth 5 (by decide)] at h0; rw [upd_ne (show 74 ≠ 75 by decide)]; exact hF.p5 h0
      · intro h0; exact upd_self _ _ _
      · intro h0; rw [hoth 7 (by decide)] at h0; exact absurd (hF.cl 7 6 (by decide) h0) (by rw [hn]; decide)
      · intro h0; rw [hoth 8 (by decide)] at h0; exact absurd (hF.cl 7 6 (by decide) (hF.cl 8 7 (by decide) h0)) (by rw [hn]; decide)
      · intro h0; rw [hoth 9 (by decide)] at h0; rw [upd_ne (show 78 ≠ 75 by decide)]; exact hF.r9 h0
      · intro h0; rw [hoth 10 (by decide)] at h0; exact absurd (hF.cl 10 6 (by decide) h0) (by rw [hn]; decide)
      · intro h0; rw [hoth 10 (by decide)] at h0; rw [upd_ne (show 6 ≠ 75 by decide)]; exact hF.n10 h0
    · have e1 := hF.p6 (hneed 6 (by decide))
      refine Yields.wpOp (o := { dst := some 76, op := Op.binOp BinOp.add 3 (Operand.tmp 75) (Operand.const (Value.int IntKind.i64 1)) 3, type := 3, pos := "sets.go:171", after := #[{ on := 6, ground := Ground.data }], guard := none }) (v := (.int .i64 ((n : Int) + 1))) rfl (Or.inl ⟨rfl, fun w' => ?_⟩) ?_
      · simp only [execOp, mk_eval s _ (show 75 < 128 by decide), e1]; go_simp; rw [IntKind.wrap_i64]; omega
      refine ⟨upd s 76 (.int .i64 ((n : Int) + 1)), c, mk_put s 76 (.int .i64 ((n : Int) + 1)) (by decide), HB, ?_⟩
      refine { cl := hcl, fr := fun j hj => ?_, r0 := ?_, p1 := ?_, p2 := ?_, p3 := ?_, r4 := ?_, p5 := ?_, p6 := ?_, p7 := ?_, p8 := ?_, r9 := ?_, q10 := ?_, n10 := ?_ }
      · rw [upd_ne (by rintro rfl; exact hj (by decide))]; exact hF.fr j hj
      · intro h0 h1; rw [hoth 0 (by decide)] at h0; rw [hoth 4 (by decide)] at h1; rw [upd_ne (show 69 ≠ 76 by decide)]; exact hF.r0 h0 h1
      · intro h0; rw [hoth 1 (by decide)] at h0; rw [upd_ne (show 70 ≠ 76 by decide)]; exact hF.p1 h0
      · intro h0; rw [hoth 2 (by decide)] at h0; rw [upd_ne (show 71 ≠ 76 by decide)]; exact hF.p2 h0
      · intro h0; rw [hoth 3 (by decide)] at h0; rw [upd_ne (show 72 ≠ 76 by decide)]; exact hF.p3 h0
      · intro h0 h1; rw [hoth 4 (by decide)] at h0; rw [hoth 9 (by decide)] at h1; rw [upd_ne (show 73 ≠ 76 by decide)]; exact hF.r4 h0 h1
      · intro h0; rw [hoth 5 (by decide)] at h0; rw [upd_ne (show 74 ≠ 76 by decide)]; exact hF.p5 h0
      · intro h0; rw [hoth 6 (by decide)] at h0; rw [upd_ne (show 75 ≠ 76 by decide)]; exact hF.p6 h0
      · intro h0; exact upd_self _ _ _
      · intro h0; rw [hoth 8 (by decide)] at h0; exact absurd (hF.cl 8 7 (by decide) h0) (by rw [hn]; decide)
      · intro h0; rw [hoth 9 (by decide)] at h0; rw [upd_ne (show 78 ≠ 76 by decide)]; exact hF.r9 h0
      · intro h0; rw [hoth 10 (by decide)] at h0; exact absurd (hF.cl 10 7 (by decide) h0) (by rw [hn]; decide)
      · intro h0; rw [hoth 10 (by decide)] at h0; rw [upd_ne (show 6 ≠ 76 by decide)]; exact hF.n10 h0
    · have e1 := hF.p5 (hneed 5 (by decide))
      have e2 := hF.p7 (hneed 7 (by decide))
      refine Yields.wpOp (o := { dst := some 77, op := Op.slice 40 (Operand.tmp 74) (some (Operand.tmp 76)) none none, type := 40, pos := "sets.go:171", after := #[{ on := 5, ground := Ground.data }, { on := 7, ground := Ground.data }], guard := none }) (v := VD) rfl (Or.inl ⟨rfl, fun w' => ?_⟩) ?_
      · simp [execOp, mk_eval, e1, e2, Instr.sliceAt, run_underlying Try.underlying40, hDk, Result.andThen]
      refine ⟨upd s 77 VD, c, mk_put s 77 VD (by decide), HB, ?_⟩
      refine { cl := hcl, fr := fun j hj => ?_, r0 := ?_, p1 := ?_, p2 := ?_, p3 := ?_, r4 := ?_, p5 := ?_, p6 := ?_, p7 := ?_, p8 := ?_, r9 := ?_, q10 := ?_, n10 := ?_ }
      · rw [upd_ne (by rintro rfl; exact hj (by decide))]; exact hF.fr j hj
      · intro h0 h1; rw [hoth 0 (by decide)] at h0; rw [hoth 4 (by decide)] at h1; rw [upd_ne (show 69 ≠ 77 by decide)]; exact hF.r0 h0 h1
      · intro h0; rw [hoth 1 (by decide)] at h0; rw [upd_ne (show 70 ≠ 77 by decide)]; exact hF.p1 h0
      · intro h0; rw [hoth 2 (by decide)] at h0; rw [upd_ne (show 71 ≠ 77 by decide)]; exact hF.p2 h0
      · intro h0; rw [hoth 3 (by decide)] at h0; rw [upd_ne (show 72 ≠ 77 by decide)]; exact hF.p3 h0
      · intro h0 h1; rw [hoth 4 (by decide)] at h0; rw [hoth 9 (by decide)] at h1; rw [upd_ne (show 73 ≠ 77 by decide)]; exact hF.r4 h0 h1
      · intro h0; rw [hoth 5 (by decide)] at h0; rw [upd_ne (show 74 ≠ 77 by decide)]; exact hF.p5 h0
      · intro h0; rw [hoth 6 (by decide)] at h0; rw [upd_ne (show 75 ≠ 77 by decide)]; exact hF.p6 h0
      · intro h0; rw [hoth 7 (by decide)] at h0; rw [upd_ne (show 76 ≠ 77 by decide)]; exact hF.p7 h0
      · intro h0; exact upd_self _ _ _
      · intro h0; rw [hoth 9 (by decide)] at h0; rw [upd_ne (show 78 ≠ 77 by decide)]; exact hF.r9 h0
      · intro h0; rw [hoth 10 (by decide)] at h0; exact absurd (hF.cl 10 8 (by decide) h0) (by rw [hn]; decide)
      · intro h0; rw [hoth 10 (by decide)] at h0; rw [upd_ne (show 6 ≠ 77 by decide)]; exact hF.n10 h0
    · refine wpOp_step (o := { dst := some 78, op := Op.call { callee := Callee.builtin Builtin.append, args := #[Operand.tmp 73, Operand.tmp 77], argTypes := #[40, 40] }, type := 40, pos := "sets.go:171", after := #[{ on := 4, ground := Ground.data }, { on := 8, ground := Ground.data }, { on := 4, ground := Ground.chain }], guard := none }) rfl (fun K' hK => ?_)
      refine row_app (w0 := w) c 1 rfl (.tmp 73) (.tmp 77) rfl (s 73) (ks.take n) (ks.drop (n + 1)) A' (ks.drop (n + 1)).length (cap - (n + 1)) (mk_eval s _ (by decide)) (by rw [mk_eval s _ (by decide)]; rw [hF.p8 (hneed 8 (by decide)), hVD]) (hF.r4 (hneed 4 (by decide)) hn) (Kd.C_below hCd HB) (by simp; omega) HB ?_
      intro v c' W' hR hG HB'
      refine hK _ _ ⟨upd s 78 v, c', mk_put s 78 v (by decide), HB', ?_⟩
      refine { cl := hcl, fr := fun j hj => ?_, r0 := ?_, p1 := ?_, p2 := ?_, p3 := ?_, r4 := ?_, p5 := ?_, p6 := ?_, p7 := ?_, p8 := ?_, r9 := ?_, q10 := ?_, n10 := ?_ }
      · rw [upd_ne (by rintro rfl; exact hj (by decide))]; exact hF.fr j hj
      · intro h0 h1; rw [hoth 0 (by decide)] at h0; rw [hoth 4 (by decide)] at h1; rw [(hneed 4 (by decide))] at h1; cases h1
      · intro h0; rw [hoth 1 (by decide)] at h0; rw [upd_ne (show 70 ≠ 78 by decide)]; exact hF.p1 h0
      · intro h0; rw [hoth 2 (by decide)] at h0; rw [upd_ne (show 71 ≠ 78 by decide)]; exact hF.p2 h0
      · intro h0; rw [hoth 3 (by decide)] at h0; rw [upd_ne (show 72 ≠ 78 by decide)]; exact hF.p3 h0
      · intro h0 h1; rw [hoth 4 (by decide)] at h0; rw [hself] at h1; cases h1
      · intro h0; rw [hoth 5 (by decide)] at h0; rw [upd_ne (show 74 ≠ 78 by decide)]; exact hF.p5 h0
      · intro h0; rw [hoth 6 (by decide)] at h0; rw [upd_ne (show 75 ≠ 78 by decide)]; exact hF.p6 h0
      · intro h0; rw [hoth 7 (by decide)] at h0; rw [upd_ne (show 76 ≠ 78 by decide)]; exact hF.p7 h0
      · intro h0; rw [hoth 8 (by decide)] at h0; rw [upd_ne (show 77 ≠ 78 by decide)]; exact hF.p8 h0
      · intro h0; rw [upd_self]; exact hR
      · intro h0; rw [hoth 10 (by decide)] at h0; exact absurd (hF.cl 10 9 (by decide) h0) (by rw [hn]; decide)
      · intro h0; rw [hoth 10 (by decide)] at h0; rw [upd_ne (show 6 ≠ 78 by decide)]; exact hF.n10 h0
    · refine Yields.wpOp (o := { dst := some 6, op := Op.assign (Operand.tmp 78), type := 40, pos := "sets.go:171", after := #[{ on := 9, ground := Ground.data }, { on := 9, ground := Ground.chain }, { on := 0, ground := Ground.phase }, { on := 1, ground := Ground.phase }, { on := 2, ground := Ground.phase }, { on := 3, ground := Ground.phase }, { on := 4, ground := Ground.phase }, { on := 5, ground := Ground.phase }, { on := 6, ground := Ground.phase }, { on := 7, ground := Ground.phase }, { on := 8, ground := Ground.phase }, { on := 9, ground := Ground.phase }], guard := none }) (v := (s 78)) rfl (Or.inl ⟨rfl, fun w' => ?_⟩) ?_
      · first | (go_simp; done) | (simp [execOp, mk_eval, *]; done)
      refine ⟨upd s 6 (s 78), c, mk_put s 6 (s 78) (by decide), HB, ?_⟩
      refine { cl := hcl, fr := fun j hj => ?_, r0 := ?_, p1 := ?_, p2 := ?_, p3 := ?_, r4 := ?_, p5 := ?_, p6 := ?_, p7 := ?_, p8 := ?_, r9 := ?_, q10 := ?_, n10 := ?_ }
      · rw [upd_ne (by rintro rfl; exact hj (by decide))]; exact hF.fr j hj
      · intro h0 h1; rw [hoth 0 (by decide)] at h0; rw [hoth 4 (by decide)] at h1; rw [upd_ne (show 69 ≠ 6 by decide)]; exact hF.r0 h0 h1
      · intro h0; rw [hoth 1 (by decide)] at h0; rw [upd_ne (show 70 ≠ 6 by decide)]; exact hF.p1 h0
      · intro h0; rw [hoth 2 (by decide)] at h0; rw [upd_ne (show 71 ≠ 6 by decide)]; exact hF.p2 h0
      · intro h0; rw [hoth 3 (by decide)] at h0; rw [upd_ne (show 72 ≠ 6 by decide)]; exact hF.p3 h0
      · intro h0 h1; rw [hoth 4 (by decide)] at h0; rw [hoth 9 (by decide)] at h1; rw [upd_ne (show 73 ≠ 6 by decide)]; exact hF.r4 h0 h1
      · intro h0; rw [hoth 5 (by decide)] at h0; rw [upd_ne (show 74 ≠ 6 by decide)]; exact hF.p5 h0
      · intro h0; rw [hoth 6 (by decide)] at h0; rw [upd_ne (show 75 ≠ 6 by decide)]; exact hF.p6 h0
      · intro h0; rw [hoth 7 (by decide)] at h0; rw [upd_ne (show 76 ≠ 6 by decide)]; exact hF.p7 h0
      · intro h0; rw [hoth 8 (by decide)] at h0; rw [upd_ne (show 77 ≠ 6 by decide)]; exact hF.p8 h0
      · intro h0; rw [hoth 9 (by decide)] at h0; rw [upd_ne (show 78 ≠ 6 by decide)]; exact hF.r9 h0
      · intro h0; rw [upd_self, upd_ne (by decide)]
      · intro h0; rw [hself] at h0; cases h0
  · rintro L a W hsz hall ⟨s, c, rfl, HB, hF⟩
    have ha : ∀ j, j < 11 → hasL_ L j = true := hall
    refine hQ s W HB hF.fr ?_
    have h := (hF.r9 (ha 9 (by decide))).cs
    have e := hF.q10 (ha 10 (by decide))
    rw [e]
    exact h
def ops21 : Array Oper := #[{ dst := some 89, op := Op.buildSlice 40 0 #[], type := 40, pos := "sets.go:174", after := #[], guard := none }, { dst := some 90, op := Op.move (Operand.tmp 5), type := 40, pos := "sets.go:174", after := #[], guard := none }, { dst := some 91, op := Op.call { callee := Callee.builtin Builtin.append, args := #[Operand.tmp 89, Operand.tmp 90], argTypes := #[40, 40] }, type := 40, pos := "sets.go:174", after := #[{ on := 0, ground := Ground.data }, { on := 1, ground := Ground.data }], guard := none }, { dst := some 92, op := Op.move (Operand.tmp 1), type := 22, pos := "sets.go:174", after := #[], guard := none }, { dst := some 93, op := Op.move (Operand.tmp 8), type := 3, pos := "sets.go:174", after := #[], guard := none }, { dst := some 94, op := Op.indexAddr 22 (Operand.tmp 92) (Operand.tmp 93), type := 0, pos := "sets.go:174", after := #[{ on := 3, ground := Ground.data }, { on := 4, ground := Ground.data }], guard := none }, { dst := some 95, op := Op.fieldAddr 30 (Operand.tmp 94) 1, type := 0, pos := "sets.go:174", after := #[{ on := 5, ground := Ground.data }], guard := none }, { dst := some 96, op := Op.load 3 (Operand.tmp 95), type := 3, pos := "sets.go:174", after := #[{ on := 6, ground := Ground.data }], guard := none }, { dst := some 97, op := Op.buildSlice 40 1 #[(0, Operand.tmp 96)], type := 40, pos := "sets.go:174", after := #[{ on := 7, ground := Ground.data }], guard := none }, { dst := some 98, op := Op.call { callee := Callee.builtin Builtin.append, args := #[Operand.tmp 91, Operand.tmp 97], argTypes := #[40, 40] }, type := 40, pos := "sets.go:174", after := #[{ on := 2, ground := Ground.data }, { on := 8, ground := Ground.data }, { on := 2, ground := Ground.chain }], guard := none }, { dst := some 99, op := Op.buildSlice 40 0 #[], type := 40, pos := "sets.go:174", after := #[], guard := none }, { dst := some 100, op := Op.move (Operand.tmp 6), type := 40, pos := "sets.go:174", after := #[], guard := none }, { dst := some 101, op := Op.call { callee := Callee.builtin Builtin.append, args := #[Operand.tmp 99, Operand.tmp 100], argTypes := #[40, 40] }, type := 40, pos := "sets.go:174", after := #[{ on := 10, ground := Ground.data }, { on := 11, ground := Ground.data }, { on := 9, ground := Ground.chain }], guard := none }, { dst := some 102, op := Op.move (Operand.tmp 12), type := 3, pos := "sets.go:174", after := #[], guard := none }, { dst := some 103, op := Op.buildSlice 40 1 #[(0, Operand.tmp 102)], type := 40, pos := "sets.go:174", after := #[{ on := 13, ground := Ground.data }], guard := none }, { dst := some 104, op := Op.call { callee := Callee.builtin Builtin.append, args := #[Operand.tmp 101, Operand.tmp 103], argTypes := #[40, 40] }, type := 40, pos := "sets.go:174", after := #[{ on := 12, ground := Ground.data }, { on := 14, ground := Ground.data }, { on := 12, ground := Ground.chain }], guard := none }, { dst := some 5, op := Op.assign (Operand.tmp 98), type := 40, pos := "sets.go:174", after := #[{ on := 9, ground := Ground.data }, { on := 15, ground := Ground.chain }, { on := 0, ground := Ground.phase }, { on := 1, ground := Ground.phase }, { on := 2, ground := Ground.phase }, { on := 3, ground := Ground.phase }, { on := 4, ground := Ground.phase }, { on := 5, ground := Ground.phase }, { on := 6, ground := Ground.phase }, { on := 7, ground := Ground.phase }, { on := 8, ground := Ground.phase }, { on := 9, ground := Ground.phase }, { on := 10, ground := Ground.textOnly Departure.lateStores }, { on := 11, ground := Ground.textOnly Departure.lateStores }, { on := 12, ground := Ground.textOnly Departure.lateStoresUnsure }, { on := 13, ground := Ground.textOnly Departure.lateStores }, { on := 14, ground := Ground.textOnly Departure.lateStores }, { on := 15, ground := Ground.textOnly Departure.lateStoresUnsure }], guard := none }, { dst := some 6, op := Op.assign (Operand.tmp 104), type := 40, pos := "sets.go:174", after := #[{ on := 15, ground := Ground.data }, { on := 16, ground := Ground.chain }, { on := 0, ground := Ground.phase }, { on := 1, ground := Ground.phase }, { on := 2, ground := Ground.phase }, { on := 3, ground := Ground.phase }, { on := 4, ground := Ground.phase }, { on := 5, ground := Ground.phase }, { on := 6, ground := Ground.phase }, { on := 7, ground := Ground.phase }, { on := 8, ground := Ground.phase }, { on := 9, ground := Ground.phase }, { on := 10, ground := Ground.phase }, { on := 11, ground := Ground.phase }, { on := 12, ground := Ground.phase }, { on := 13, ground := Ground.phase }, { on := 14, ground := Ground.phase }, { on := 15, ground := Ground.phase }, { on := 16, ground := Ground.phase }], guard := none }]
def T21 : List (List Nat) := [[], [], [0, 1], [], [], [3, 4], [5], [6], [7], [2, 8, 2], [], [], [10, 11, 9], [], [13], [12, 14, 12], [9, 15, 0, 1, 2, 3, 4, 5, 6, 7, 8, 9], [15, 16, 0, 1, 2, 3, 4, 5, 6, 7, 8, 9, 10, 11, 12, 13, 14, 15, 16]]
theorem ops21_T : (List.range ops21.size).map (fun i => match ops21[i]? with | some o => o.after.toList.filterMap (fun e => if Region.binds .any e = true then some e.on else none) | none => []) = T21 := by kernel_rfl
structure F21 (ks vs : List Int) (A B : Option Addr) (cap capb : Nat) (ad : Addr) (m c1 k : Nat) (key v : Int) (t : Nat → Value) (b : Nat) (L : Nat → Bool) (s : Nat → Value) (c : Nat → Nat) (W : World) : Prop where
  cl : ∀ j k, k ∈ T21.getD j [] → L j = true → L k = true
  fr : ∀ j, j ∉ [5, 6, 89, 90, 91, 92, 93, 94, 95, 96, 97, 98, 99, 100, 101, 102, 103, 104] → s j = t j
  r0 : L 0 = true → L 2 = false → Row c 1 W b (s 89) ([])
  p1 : L 1 = true → s 90 = (.slice A ks.length cap)
  r2 : L 2 = true → L 9 = false → Row c 1 W b (s 91) (ks)
  p3 : L 3 = true → s 92 = (.slice (some ad) m c1)
  p4 : L 4 = true → s 93 = (.int .i64 (k : Int))
  p5 : L 5 = true → s 94 = (.pointer (some (ad.add (k * 3))))
  p6 : L 6 = true → s 95 = (.pointer (some ⟨(ad.add (k * 3)).block, (ad.add (k * 3)).off + 1, none⟩))
  p7 : L 7 = true → s 96 = (.int .i64 key)
  r8 : L 8 = true → Row c 2 W b (s 97) ([key])
  r9 : L 9 = true → Row c 1 W b (s 98) (ks ++ [key])
  r10 : L 10 = true → L 12 = false → Row c 3 W b (s 99) ([])
  p11 : L 11 = true → s 100 = (.slice B vs.length capb)
  r12 : L 12 = true → L 15 = false → Row c 3 W b (s 101) (vs)
  p13 : L 13 = true → s 102 = (.int .i64 v)
  r14 : L 14 = true → Row c 4 W b (s 103) ([v])
  r15 : L 15 = true → Row c 3 W b (s 104) (vs ++ [v])
  q16 : L 16 = true → s 5 = s 98
  n16 : L 16 = false → s 5 = (.slice A ks.length cap)
  q17 : L 17 = true → s 6 = s 104
  n17 : L 17 = false → s 6 = (.slice B vs.length capb)
set_option maxHeartbeats 4000000 in
set_option maxRecDepth 100000 in
theorem reg21 {Q : Exit → Act → World → Prop} (t : Nat → Value) (w : World) (ks vs : List Int) (A B : Option Addr) (cap capb : Nat) (ad : Addr) (m c1 k : Nat) (key v : Int) (h5 : t 5 = (.slice A ks.length cap)) (h6 : t 6 = (.slice B vs.length capb)) (h1 : t 1 = .slice (some ad) m c1) (h8 : t 8 = .int .i64 (k : Int)) (h12 : t 12 = .int .i64 v) (hC : Kd.C (Kd.int .i64) w A ks.length ks) (hCb : Kd.C (Kd.int .i64) w B vs.length vs) (hk : k < m) (hx1 : w.cell? ⟨(ad.add (k * 3)).block, (ad.add (k * 3)).off + 1, none⟩ = some (.int .i64 key)) (hl : ks.length < 1000000) (hlb : vs.length < 1000000)
    (hQ : ∀ t' W', Below w.heap.size w W' → (∀ j, j ∉ [5, 6, 89, 90, 91, 92, 93, 94, 95, 96, 97, 98, 99, 100, 101, 102, 103, 104] → t' j = t j) → (CS W' (t' 5) (ks ++ [key]) ∧ CS W' (t' 6) (vs ++ [v])) → Q .normal (mk128 t') W') : (Code.region 21 ops21 true).wp Try.prog Q (mk128 t) w := by
  refine region_inv (by kernel_rfl) (fun L a W => ∃ s c, a = mk128 s ∧ Below w.heap.size w W ∧ F21 ks vs A B cap capb ad m c1 k key v t w.heap.size (hasL_ L) s c W) T21 ops21_T (by decide) ?_ ?_ ?_
  · refine ⟨t, fun _ => 0, rfl, below_drew (Below.refl _ _), ?_⟩
    have hz : ∀ j, hasL_ (Array.replicate ops21.size false) j = false := hasL_none _
    refine { cl := fun j k _ h => absurd h (by rw [hz]; decide), fr := fun _ _ => rfl, r0 := ?_, p1 := ?_, r2 := ?_, p3 := ?_, p4 := ?_, p5 := ?_, p6 := ?_, p7 := ?_, r8 := ?_, r9 := ?_, r10 := ?_, p11 := ?_, r12 := ?_, p13 := ?_, r14 := ?_, r15 := ?_, q16 := ?_, n16 := ?_, q17 := ?_, n17 := ?_ }
    · intro h _; rw [hz] at h; cases h
    · intro h; rw [hz] at h; cases h
    · intro h _; rw [hz] at h; cases h
    · intro h; rw [hz] at h; cases h
    · intro h; rw [hz] at h; cases h
    · intro h; rw [hz] at h; cases h
    · intro h; rw [hz] at h; cases h
    · intro h; rw [hz] at h; cases h
    · intro h; rw [hz] at h; cases h
    · intro h; rw [hz] at h; cases h
    · intro h _; rw [hz] at h; cases h
    · intro h; rw [hz] at h; cases h
    · intro h _; rw [hz] at h; cases h
    · intro h; rw [hz] at h; cases h
    · intro h; rw [hz] at h; cases h
    · intro h; rw [hz] at h; cases h
    · intro h; rw [hz] at h; cases h
    · intro _; exact h5
    · intro h; rw [hz] at h; cases h
    · intro _; exact h6
  · rintro L a W i hsz hi hn hneed ⟨s, c, rfl, HB, hF⟩
    have hi2 : i < 18 := hi
    have hself : hasL_ (L.setIfInBounds i true) i = true := by rw [hasL_set (by omega), if_pos rfl]
    have hoth : ∀ j, j ≠ i → hasL_ (L.setIfInBounds i true) j = hasL_ L j := fun j hj => by rw [hasL_set (by omega), if_neg hj]
    have hcl : ∀ j k, k ∈ T21.getD j [] → hasL_ (L.setIfInBounds i true) j = true → hasL_ (L.setIfInBounds i true) k = true := by
      intro j k hk hj
      by_cases e : k = i
      · rw [e]; exact hself
      · rw [hoth k e]
        by_cases e2 : j = i
        · rw [e2] at hk; exact hneed k hk
        · rw [hoth j e2] at hj; exact hF.cl j k hk hj
    rcases (show i = 0 ∨ i = 1 ∨ i = 2 ∨ i = 3 ∨ i = 4 ∨ i = 5 ∨ i = 6 ∨ i = 7 ∨ i = 8 ∨ i = 9 ∨ i = 10 ∨ i = 11 ∨ i = 12 ∨ i = 13 ∨ i = 14 ∨ i = 15 ∨ i = 16 ∨ i = 17 by omega) with rfl | rfl | rfl | rfl | rfl | rfl | rfl | rfl | rfl | rfl | rfl | rfl | rfl | rfl | rfl | rfl | rfl | rfl
    · refine wpOp_step (o := { dst := some 89, op := Op.buildSlice 40 0 #[], type := 40, pos := "sets.go:174", after := #[], guard := none }) rfl (fun K' hK => ?_)
      refine row_lit (w0 := w) c 1 rfl (N := 89) rfl ([]) (by simp) ?_ HB ?_
      · first | (go_simp; done) | (simp [execOp, mk_eval, *]; done)
      intro v c' W' hR hG HB'
      refine hK _ _ ⟨upd s 89 v, c', mk_put s 89 v (by decide), HB', ?_⟩
      refine { cl := hcl, fr := fun j hj => ?_, r0 := ?_, p1 := ?_, r2 := ?_, p3 := ?_, p4 := ?_, p5 := ?_, p6 := ?_, p7 := ?_, r8 := ?_, r9 := ?_, r10 := ?_, p11 := ?_, r12 := ?_, p13 := ?_, r14 := ?_, r15 := ?_, q16 := ?_, n16 := ?_, q17 := ?_, n17 := ?_ }
      · rw [upd_ne (by rintro rfl; exact hj (by decide))]; exact hF.fr j hj
      · intro h0 h1; rw [hoth 2 (by decide)] at h1; rw [upd_self]; exact hR
      · intro h0; rw [hoth 1 (by decide)] at h0; rw [upd_ne (show 90 ≠ 89 by decide)]; exact hF.p1 h0
      · intro h0 h1; rw [hoth 2 (by decide)] at h0; rw [hoth 9 (by decide)] at h1; exact absurd (hF.cl 2 0 (by decide) h0) (by rw [hn]; decide)
      · intro h0; rw [hoth 3 (by decide)] at h0; rw [upd_ne (show 92 ≠ 89 by decide)]; exact hF.p3 h0
      · intro h0; rw [hoth 4 (by decide)] at h0; rw [upd_ne (show 93 ≠ 89 by decide)]; exact hF.p4 h0
      · intro h0; rw [hoth 5 (by decide)] at h0; rw [upd_ne (show 94 ≠ 89 by decide)]; exact hF.p5 h0
      · intro h0; rw [hoth 6 (by decide)] at h0; rw [upd_ne (show 95 ≠ 89 by decide)]; exact hF.p6 h0
      · intro h0; rw [hoth 7 (by decide)] at h0; rw [upd_ne (show 96 ≠ 89 by decide)]; exact hF.p7 h0
      · intro h0; rw [hoth 8 (by decide)] at h0; rw [upd_ne (show 97 ≠ 89 by decide)]; exact (hF.r8 h0).stay hG (by decide)
      · intro h0; rw [hoth 9 (by decide)] at h0; exact absurd (hF.cl 2 0 (by decide) (hF.cl 9 2 (by decide) h0)) (by rw [hn]; decide)
      · intro h0 h1; rw [hoth 10 (by decide)] at h0; rw [hoth 12 (by decide)] at h1; rw [upd_ne (show 99 ≠ 89 by decide)]; exact (hF.r10 h0 h1).stay hG (by decide)
      · intro h0; rw [hoth 11 (by decide)] at h0; rw [upd_ne (show 100 ≠ 89 by decide)]; exact hF.p11 h0
      · intro h0 h1; rw [hoth 12 (by decide)] at h0; rw [hoth 15 (by decide)] at h1; rw [upd_ne (show 101 ≠ 89 by decide)]; exact (hF.r12 h0 h1).stay hG (by decide)
      · intro h0; rw [hoth 13 (by decide)] at h0; rw [upd_ne (show 102 ≠ 89 by decide)]; exact hF.p13 h0
      · intro h0; rw [hoth 14 (by decide)] at h0; rw [upd_ne (show 103 ≠ 89 by decide)]; exact (hF.r14 h0).stay hG (by decide)
      · intro h0; rw [hoth 15 (by decide)] at h0; rw [upd_ne (show 104 ≠ 89 by decide)]; exact (hF.r15 h0).stay hG (by decide)
      · intro h0; rw [hoth 16 (by decide)] at h0; rw [upd_ne (show 5 ≠ 89 by decide)]; rw [upd_ne (show 98 ≠ 89 by decide)]; exact hF.q16 h0
      · intro h0; rw [hoth 16 (by decide)] at h0; rw [upd_ne (show 5 ≠ 89 by decide)]; exact hF.n16 h0
      · intro h0; rw [hoth 17 (by decide)] at h0; rw [upd_ne (show 6 ≠ 89 by decide)]; rw [upd_ne (show 104 ≠ 89 by decide)]; exact hF.q17 h0
      · intro h0; rw [hoth 17 (by decide)] at h0; rw [upd_ne (show 6 ≠ 89 by decide)]; exact hF.n17 h0
    · have off16 : hasL_ L 16 = false := by cases h : hasL_ L 16 with | false => rfl | true => exact absurd (hF.cl 16 1 (by decide) h) (by rw [hn]; decide)
      have e1 := hF.n16 off16
      refine Yields.wpOp (o := { dst := some 90, op := Op.move (Operand.tmp 5), type := 40, pos := "sets.go:174", after := #[], guard := none }) (v := (.slice A ks.length cap)) rfl (Or.inl ⟨rfl, fun w' => ?_⟩) ?_
      · first | (go_simp; done) | (simp [execOp, mk_eval, *]; done)
      refine ⟨upd s 90 (.slice A ks.length cap), c, mk_put s 90 (.slice A ks.length cap) (by decide), HB, ?_⟩
      refine { cl := hcl, fr := fun j hj => ?_, r0 := ?_, p1 := ?_, r2 := ?_, p3 := ?_, p4 := ?_, p5 := ?_, p6 := ?_, p7 := ?_, r8 := ?_, r9 := ?_, r10 := ?_, p11 := ?_, r12 := ?_, p13 := ?_, r14 := ?_, r15 := ?_, q16 := ?_, n16 := ?_, q17 := ?_, n17 := ?_ }
      · rw [upd_ne (by rintro rfl; exact hj (by decide))]; exact hF.fr j hj
      · intro h0 h1; rw [hoth 0 (by decide)] at h0; rw [hoth 2 (by decide)] at h1; rw [upd_ne (show 89 ≠ 90 by decide)]; exact hF.r0 h0 h1
      · intro h0; exact upd_self _ _ _
      · intro h0 h1; rw [hoth 2 (by decide)] at h0; rw [hoth 9 (by decide)] at h1; rw [upd_ne (show 91 ≠ 90 by decide)]; exact hF.r2 h0 h1
      · intro h0; rw [hoth 3 (by decide)] at h0; rw [upd_ne (show 92 ≠ 90 by decide)]; exact hF.p3 h0
      · intro h0; rw [hoth 4 (by decide)] at h0; rw [upd_ne (show 93 ≠ 90 by decide)]; exact hF.p4 h0
      · intro h0; rw [hoth 5 (by decide)] at h0; rw [upd_ne (show 94 ≠ 90 by decide)]; exact hF.p5 h0
      · intro h0; rw [hoth 6 (by decide)] at h0; rw [upd_ne (show 95 ≠ 90 by decide)]; exact hF.p6 h0
      · intro h0; rw [hoth 7 (by decide)] at h0; rw [upd_ne (show 96 ≠ 90 by decide)]; exact hF.p7 h0
      · intro h0; rw [hoth 8 (by decide)] at h0; rw [upd_ne (show 97 ≠ 90 by decide)]; exact hF.r8 h0
      · intro h0; rw [hoth 9 (by decide)] at h0; rw [upd_ne (show 98 ≠ 90 by decide)]; exact hF.r9 h0
      · intro h0 h1; rw [hoth 10 (by decide)] at h0; rw [hoth 12 (by decide)] at h1; rw [upd_ne (show 99 ≠ 90 by decide)]; exact hF.r10 h0 h1
      · intro h0; rw [hoth 11 (by decide)] at h0; rw [upd_ne (show 100 ≠ 90 by decide)]; exact hF.p11 h0
      · intro h0 h1; rw [hoth 12 (by decide)] at h0; rw [hoth 15 (by decide)] at h1; rw [upd_ne (show 101 ≠ 90 by decide)]; exact hF.r12 h0 h1
      · intro h0; rw [hoth 13 (by decide)] at h0; rw [upd_ne (show 102 ≠ 90 by decide)]; exact hF.p13 h0
      · intro h0; rw [hoth 14 (by decide)] at h0; rw [upd_ne (show 103 ≠ 90 by decide)]; exact hF.r14 h0
      · intro h0; rw [hoth 15 (by decide)] at h0; rw [upd_ne (show 104 ≠ 90 by decide)]; exact hF.r15 h0
      · intro h0; rw [hoth 16 (by decide)] at h0; exact absurd (hF.cl 16 1 (by decide) h0) (by rw [hn]; decide)
      · intro h0; rw [hoth 16 (by decide)] at h0; rw [upd_ne (show 5 ≠ 90 by decide)]; exact hF.n16 h0
      · intro h0; rw [hoth 17 (by decide)] at h0; exact absurd (hF.cl 17 1 (by decide) h0) (by rw [hn]; decide)
      · intro h0; rw [hoth 17 (by decide)] at h0; rw [upd_ne (show 6 ≠ 90 by decide)]; exact hF.n17 h0
    · refine wpOp_step (o := { dst := some 91, op := Op.call { callee := Callee.builtin Builtin.append, args := #[Operand.tmp 89, Operand.tmp 90], argTypes := #[40, 40] }, type := 40, pos := "sets.go:174", after := #[{ on := 0, ground := Ground.data }, { on := 1, ground := Ground.data }], guard := none }) rfl (fun K' hK => ?_)
      refine row_app (w0 := w) c 1 rfl (.tmp 89) (.tmp 90) rfl (s 89) ([]) (ks) A ks.length cap (mk_eval s _ (by decide)) (by rw [mk_eval s _ (by decide)]; exact hF.p1 (hneed 1 (by decide))) (hF.r0 (hneed 0 (by decide)) hn) (Kd.C_below hC HB) (by simp; omega) HB ?_
      intro v c' W' hR hG HB'
      refine hK _ _ ⟨upd s 91 v, c', mk_put s 91 v (by decide), HB', ?_⟩
      refine { cl := hcl, fr := fun j hj => ?_, r0 := ?_, p1 := ?_, r2 := ?_, p3 := ?_, p4 := ?_, p5 := ?_, p6 := ?_, p7 := ?_, r8 := ?_, r9 := ?_, r10 := ?_, p11 := ?_, r12 := ?_, p13 := ?_, r14 := ?_, r15 := ?_, q16 := ?_, n16 := ?_, q17 := ?_, n17 := ?_ }
      · rw [upd_ne (by rintro rfl; exact hj (by decide))]; exact hF.fr j hj
      · intro h0 h1; rw [hoth 0 (by decide)] at h0; rw [hself] at h1; cases h1
      · intro h0; rw [hoth 1 (by decide)] at h0; rw [upd_ne (show 90 ≠ 91 by decide)]; exact hF.p1 h0
      · intro h0 h1; rw [hoth 9 (by decide)] at h1; rw [upd_self]; exact hR
      · intro h0; rw [hoth 3 (by decide)] at h0; rw [upd_ne (show 92 ≠ 91 by decide)]; exact hF.p3 h0
      · intro h0; rw [hoth 4 (by decide)] at h0; rw [upd_ne (show 93 ≠ 91 by decide)]; exact hF.p4 h0
      · intro h0; rw [hoth 5 (by decide)] at h0; rw [upd_ne (show 94 ≠ 91 by decide)]; exact hF.p5 h0
      · intro h0; rw [hoth 6 (by decide)] at h0; rw [upd_ne (show 95 ≠ 91 by decide)]; exact hF.p6 h0
      · intro h0; rw [hoth 7 (by decide)] at h0; rw [upd_ne (show 96 ≠ 91 by decide)]; exact hF.p7 h0
      · intro h0; rw [hoth 8 (by decide)] at h0; rw [upd_ne (show 97 ≠ 91 by decide)]; exact (hF.r8 h0).stay hG (by decide)
      · intro h0; rw [hoth 9 (by decide)] at h0; exact absurd (hF.cl 9 2 (by decide) h0) (by rw [hn]; decide)
      · intro h0 h1; rw [hoth 10 (by decide)] at h0; rw [hoth 12 (by decide)] at h1; rw [upd_ne (show 99 ≠ 91 by decide)]; exact (hF.r10 h0 h1).stay hG (by decide)
      · intro h0; rw [hoth 11 (by decide)] at h0; rw [upd_ne (show 100 ≠ 91 by decide)]; exact hF.p11 h0
      · intro h0 h1; rw [hoth 12 (by decide)] at h0; rw [hoth 15 (by decide)] at h1; rw [upd_ne (show 101 ≠ 91 by decide)]; exact (hF.r12 h0 h1).stay hG (by decide)
      · intro h0; rw [hoth 13 (by decide)] at h0; rw [upd_ne (show 102 ≠ 91 by decide)]; exact hF.p13 h0
      · intro h0; rw [hoth 14 (by decide)] at h0; rw [upd_ne (show 103 ≠ 91 by decide)]; exact (hF.r14 h0).stay hG (by decide)
      · intro h0; rw [hoth 15 (by decide)] at h0; rw [upd_ne (show 104 ≠ 91 by decide)]; exact (hF.r15 h0).stay hG (by decide)
      · intro h0; rw [hoth 16 (by decide)] at h0; rw [upd_ne (show 5 ≠ 91 by decide)]; rw [upd_ne (show 98 ≠ 91 by decide)]; exact hF.q16 h0
      · intro h0; rw [hoth 16 (by decide)] at h0; rw [upd_ne (show 5 ≠ 91 by decide)]; exact hF.n16 h0
      · intro h0; rw [hoth 17 (by decide)] at h0; rw [upd_ne (show 6 ≠ 91 by decide)]; rw [upd_ne (show 104 ≠ 91 by decide)]; exact hF.q17 h0
      · intro h0; rw [hoth 17 (by decide)] at h0; rw [upd_ne (show 6 ≠ 91 by decide)]; exact hF.n17 h0
    · have e1 := (hF.fr 1 (by decide)).trans h1
      refine Yields.wpOp (o := { dst := some 92, op := Op.move (Operand.tmp 1), type := 22, pos := "sets.go:174", after := #[], guard := none }) (v := (.slice (some ad) m c1)) rfl (Or.inl ⟨rfl, fun w' => ?_⟩) ?_
      · first | (go_simp; done) | (simp [execOp, mk_eval, *]; done)
      refine ⟨upd s 92 (.slice (some ad) m c1), c, mk_put s 92 (.slice (some ad) m c1) (by decide), HB, ?_⟩
      refine { cl := hcl, fr := fun j hj => ?_, r0 := ?_, p1 := ?_, r2 := ?_, p3 := ?_, p4 := ?_, p5 := ?_, p6 := ?_, p7 := ?_, r8 := ?_, r9 := ?_, r10 := ?_, p11 := ?_, r12 := ?_, p13 := ?_, r14 := ?_, r15 := ?_, q16 := ?_, n16 := ?_, q17 := ?_, n17 := ?_ }
      · rw [upd_ne (by rintro rfl; exact hj (by decide))]; exact hF.fr j hj
      · intro h0 h1; rw [hoth 0 (by decide)] at h0; rw [hoth 2 (by decide)] at h1; rw [upd_ne (show 89 ≠ 92 by decide)]; exact hF.r0 h0 h1
      · intro h0; rw [hoth 1 (by decide)] at h0; rw [upd_ne (show 90 ≠ 92 by decide)]; exact hF.p1 h0
      · intro h0 h1; rw [hoth 2 (by decide)] at h0; rw [hoth 9 (by decide)] at h1; rw [upd_ne (show 91 ≠ 92 by decide)]; exact hF.r2 h0 h1
      · intro h0; exact upd_self _ _ _
      · intro h0; rw [hoth 4 (by decide)] at h0; rw [upd_ne (show 93 ≠ 92 by decide)]; exact hF.p4 h0
      · intro h0; rw [hoth 5 (by decide)] at h0; exact absurd (hF.cl 5 3 (by decide) h0) (by rw [hn]; decide)
      · intro h0; rw [hoth 6 (by decide)] at h0; exact absurd (hF.cl 5 3 (by decide) (hF.cl 6 5 (by decide) h0)) (by rw [hn]; decide)
      · intro h0; rw [hoth 7 (by decide)] at h0; exact absurd (hF.cl 5 3 (by decide) (hF.cl 6 5 (by decide) (hF.cl 7 6 (by decide) h0))) (by rw [hn]; decide)
      · intro h0; rw [hoth 8 (by decide)] at h0; rw [upd_ne (show 97 ≠ 92 by decide)]; exact hF.r8 h0
      · intro h0; rw [hoth 9 (by decide)] at h0; rw [upd_ne (show 98 ≠ 92 by decide)]; exact hF.r9 h0
      · intro h0 h1; rw [hoth 10 (by decide)] at h0; rw [hoth 12 (by decide)] at h1; rw [upd_ne (show 99 ≠ 92 by decide)]; exact hF.r10 h0 h1
      · intro h0; rw [hoth 11 (by decide)] at h0; rw [upd_ne (show 100 ≠ 92 by decide)]; exact hF.p11 h0
      · intro h0 h1; rw [hoth 12 (by decide)] at h0; rw [hoth 15 (by decide)] at h1; rw [upd_ne (show 101 ≠ 92 by decide)]; exact hF.r12 h0 h1
      · intro h0; rw [hoth 13 (by decide)] at h0; rw [upd_ne (show 102 ≠ 92 by decide)]; exact hF.p13 h0
      · intro h0; rw [hoth 14 (by decide)] at h0; rw [upd_ne (show 103 ≠ 92 by decide)]; exact hF.r14 h0
      · intro h0; rw [hoth 15 (by decide)] at h0; rw [upd_ne (show 104 ≠ 92 by decide)]; exact hF.r15 h0
      · intro h0; rw [hoth 16 (by decide)] at h0; exact absurd (hF.cl 16 3 (by decide) h0) (by rw [hn]; decide)
      · intro h0; rw [hoth 16 (by decide)] at h0; rw [upd_ne (show 5 ≠ 92 by decide)]; exact hF.n16 h0
      · intro h0; rw [hoth 17 (by decide)] at h0; exact absurd (hF.cl 17 3 (by decide) h0) (by rw [hn]; decide)
      · intro h0; rw [hoth 17 (by decide)] at h0; rw [upd_ne (show 6 ≠ 92 by decide)]; exact hF.n17 h0
    · have e1 := (hF.fr 8 (by decide)).trans h8
      refine Yields.wpOp (o := { dst := some 93, op := Op.move (Operand.tmp 8), type := 3, pos := "sets.go:174", after := #[], guard := none }) (v := (.int .i64 (k : Int))) rfl (Or.inl ⟨rfl, fun w' => ?_⟩) ?_
      · first | (go_simp; done) | (simp [execOp, mk_eval, *]; done)
      refine ⟨upd s 93 (.int .i64 (k : Int)), c, mk_put s 93 (.int .i64 (k : Int)) (by decide), HB, ?_⟩
      refine { cl := hcl, fr := fun j hj => ?_, r0 := ?_, p1 := ?_, r2 := ?_, p3 := ?_, p4 := ?_, p5 := ?_, p6 := ?_, p7 := ?_, r8 := ?_, r9 := ?_, r10 := ?_, p11 := ?_, r12 := ?_, p13 := ?_, r14 := ?_, r15 := ?_, q16 := ?_, n16 := ?_, q17 := ?_, n17 := ?_ }
      · rw [upd_ne (by rintro rfl; exact hj (by decide))]; exact hF.fr j hj
      · intro h0 h1; rw [hoth 0 (by decide)] at h0; rw [hoth 2 (by decide)] at h1; rw [upd_ne (show 89 ≠ 93 by decide)]; exact hF.r0 h0 h1
      · intro h0; rw [hoth 1 (by decide)] at h0; rw [upd_ne (show 90 ≠ 93 by decide)]; exact hF.p1 h0
      · intro h0 h1; rw [hoth 2 (by decide)] at h0; rw [hoth 9 (by decide)] at h1; rw [upd_ne (show 91 ≠ 93 by decide)]; exact hF.r2 h0 h1
      · intro h0; rw [hoth 3 (by decide)] at h0; rw [upd_ne (show 92 ≠ 93 by decide)]; exact hF.p3 h0
      · intro h0; exact upd_self _ _ _
      · intro h0; rw [hoth 5 (by decide)] at h0; exact absurd (hF.cl 5 4 (by decide) h0) (by rw [hn]; decide)
      · intro h0; rw [hoth 6 (by decide)] at h0; exact absurd (hF.cl 5 4 (by decide) (hF.cl 6 5 (by decide) h0)) (by rw [hn]; decide)
      · intro h0; rw [hoth 7 (by decide)] at h0; exact absurd (hF.cl 5 4 (by decide) (hF.cl 6 5 (by decide) (hF.cl 7 6 (by decide) h0))) (by rw [hn]; decide)
      · intro h0; rw [hoth 8 (by decide)] at h0; rw [upd_ne (show 97 ≠ 93 by decide)]; exact hF.r8 h0
      · intro h0; rw [hoth 9 (by decide)] at h0; rw [upd_ne (show 98 ≠ 93 by decide)]; exact hF.r9 h0
      · intro h0 h1; rw [hoth 10 (by decide)] at h0; rw [hoth 12 (by decide)] at h1; rw [upd_ne (show 99 ≠ 93 by decide)]; exact hF.r10 h0 h1
      · intro h0; rw [hoth 11 (by decide)] at h0; rw [upd_ne (show 100 ≠ 93 by decide)]; exact hF.p11 h0
      · intro h0 h1; rw [hoth 12 (by decide)] at h0; rw [hoth 15 (by decide)] at h1; rw [upd_ne (show 101 ≠ 93 by decide)]; exact hF.r12 h0 h1
      · intro h0; rw [hoth 13 (by decide)] at h0; rw [upd_ne (show 102 ≠ 93 by decide)]; exact hF.p13 h0
      · intro h0; rw [hoth 14 (by decide)] at h0; rw [upd_ne (show 103 ≠ 93 by decide)]; exact hF.r14 h0
      · intro h0; rw [hoth 15 (by decide)] at h0; rw [upd_ne (show 104 ≠ 93 by decide)]; exact hF.r15 h0
      · intro h0; rw [hoth 16 (by decide)] at h0; exact absurd (hF.cl 16 4 (by decide) h0) (by rw [hn]; decide)
      · intro h0; rw [hoth 16 (by decide)] at h0; rw [upd_ne (show 5 ≠ 93 by decide)]; exact hF.n16 h0
      · intro h0; rw [hoth 17 (by decide)] at h0; exact absurd (hF.cl 17 4 (by decide) h0) (by rw [hn]; decide)
      · intro h0; rw [hoth 17 (by decide)] at h0; rw [upd_ne (show 6 ≠ 93 by decide)]; exact hF.n17 h0
    · have e1 := hF.p3 (hneed 3 (by decide))
      have e2 := hF.p4 (hneed 4 (by decide))
      refine Yields.wpOp (o := { dst := some 94, op := Op.indexAddr 22 (Operand.tmp 92) (Operand.tmp 93), type := 0, pos := "sets.go:174", after := #[{ on := 3, ground := Ground.data }, { on := 4, ground := Ground.data }], guard := none }) (v := (.pointer (some (ad.add (k * 3))))) rfl (Or.inl ⟨rfl, fun w' => ?_⟩) ?_
      · simp only [execOp, mk_eval s _ (show 92 < 128 by decide), mk_eval s _ (show 93 < 128 by decide), e1, e2]; go_simp
      refine ⟨upd s 94 (.pointer (some (ad.add (k * 3)))), c, mk_put s 94 (.pointer (some (ad.add (k * 3)))) (by decide), HB, ?_⟩
      refine { cl := hcl, fr := fun j hj => ?_, r0 := ?_, p1 := ?_, r2 := ?_, p3 := ?_, p4 := ?_, p5 := ?_, p6 := ?_, p7 := ?_, r8 := ?_, r9 := ?_, r10 := ?_, p11 := ?_, r12 := ?_, p13 := ?_, r14 := ?_, r15 := ?_, q16 := ?_, n16 := ?_, q17 := ?_, n17 := ?_ }
      · rw [upd_ne (by rintro rfl; exact hj (by decide))]; exact hF.fr j hj
      · intro h0 h1; rw [hoth 0 (by decide)] at h0; rw [hoth 2 (by decide)] at h1; rw [upd_ne (show 89 ≠ 94 by decide)]; exact hF.r0 h0 h1
      · intro h0; rw [hoth 1 (by decide)] at h0; rw [upd_ne (show 90 ≠ 94 by decide)]; exact hF.p1 h0
      · intro h0 h1; rw [hoth 2 (by decide)] at h0; rw [hoth 9 (by decide)] at h1; rw [upd_ne (show 91 ≠ 94 by decide)]; exact hF.r2 h0 h1
      · intro h0; rw [hoth 3 (by decide)] at h0; rw [upd_ne (show 92 ≠ 94 by decide)]; exact hF.p3 h0
      · intro h0; rw [hoth 4 (by decide)] at h0; rw [upd_ne (show 93 ≠ 94 by decide)]; exact hF.p4 h0
      · intro h0; exact upd_self _ _ _
      · intro h0; rw [hoth 6 (by decide)] at h0; exact absurd (hF.cl 6 5 (by decide) h0) (by rw [hn]; decide)
      · intro h0; rw [hoth 7 (by decide)] at h0; exact absurd (hF.cl 6 5 (by decide) (hF.cl 7 6 (by decide) h0)) (by rw [hn]; decide)
      · intro h0; rw [hoth 8 (by decide)] at h0; rw [upd_ne (show 97 ≠ 94 by decide)]; exact hF.r8 h0
      · intro h0; rw [hoth 9 (by decide)] at h0; rw [upd_ne (show 98 ≠ 94 by decide)]; exact hF.r9 h0
      · intro h0 h1; rw [hoth 10 (by decide)] at h0; rw [hoth 12 (by decide)] at h1; rw [upd_ne (show 99 ≠ 94 by decide)]; exact hF.r10 h0 h1
      · intro h0; rw [hoth 11 (by decide)] at h0; rw [upd_ne (show 100 ≠ 94 by decide)]; exact hF.p11 h0
      · intro h0 h1; rw [hoth 12 (by decide)] at h0; rw [hoth 15 (by decide)] at h1; rw [upd_ne (show 101 ≠ 94 by decide)]; exact hF.r12 h0 h1
      · intro h0; rw [hoth 13 (by decide)] at h0; rw [upd_ne (show 102 ≠ 94 by decide)]; exact hF.p13 h0
      · intro h0; rw [hoth 14 (by decide)] at h0; rw [upd_ne (show 103 ≠ 94 by decide)]; exact hF.r14 h0
      · intro h0; rw [hoth 15 (by decide)] at h0; rw [upd_ne (show 104 ≠ 94 by decide)]; exact hF.r15 h0
      · intro h0; rw [hoth 16 (by decide)] at h0; exact absurd (hF.cl 16 5 (by decide) h0) (by rw [hn]; decide)
      · intro h0; rw [hoth 16 (by decide)] at h0; rw [upd_ne (show 5 ≠ 94 by decide)]; exact hF.n16 h0
      · intro h0; rw [hoth 17 (by decide)] at h0; exact absurd (hF.cl 17 5 (by decide) h0) (by rw [hn]; decide)
      · intro h0; rw [hoth 17 (by decide)] at h0; rw [upd_ne (show 6 ≠ 94 by decide)]; exact hF.n17 h0
    · have e1 := hF.p5 (hneed 5 (by decide))
      refine Yields.wpOp (o := { dst := some 95, op := Op.fieldAddr 30 (Operand.tmp 94) 1, type := 0, pos := "sets.go:174", after := #[{ on := 5, ground := Ground.data }], guard := none }) (v := (.pointer (some ⟨(ad.add (k * 3)).block, (ad.add (k * 3)).off + 1, none⟩))) rfl (Or.inl ⟨rfl, fun w' => ?_⟩) ?_
      · simp only [execOp, mk_eval s _ (show 94 < 128 by decide), e1]; go_simp
      refine ⟨upd s 95 (.pointer (some ⟨(ad.add (k * 3)).block, (ad.add (k * 3)).off + 1, none⟩)), c, mk_put s 95 (.pointer (some ⟨(ad.add (k * 3)).block, (ad.add (k * 3)).off + 1, none⟩)) (by decide), HB, ?_⟩
      refine { cl := hcl, fr := fun j hj => ?_, r0 := ?_, p1 := ?_, r2 := ?_, p3 := ?_, p4 := ?_, p5 := ?_, p6 := ?_, p7 := ?_, r8 := ?_, r9 := ?_, r10 := ?_, p11 := ?_, r12 := ?_, p13 := ?_, r14 := ?_, r15 := ?_, q16 := ?_, n16 := ?_, q17 := ?_, n17 := ?_ }
      · rw [upd_ne (by rintro rfl; exact hj (by decide))]; exact hF.fr j hj
      · intro h0 h1; rw [hoth 0 (by decide)] at h0; rw [hoth 2 (by decide)] at h1; rw [upd_ne (show 89 ≠ 95 by decide)]; exact hF.r0 h0 h1
      · intro h0; rw [hoth 1 (by decide)] at h0; rw [upd_ne (show 90 ≠ 95 by decide)]; exact hF.p1 h0
      · intro h0 h1; rw [hoth 2 (by decide)] at h0; rw [hoth 9 (by decide)] at h1; rw [upd_ne (show 91 ≠ 95 by decide)]; exact hF.r2 h0 h1
      · intro h0; rw [hoth 3 (by decide)] at h0; rw [upd_ne (show 92 ≠ 95 by decide)]; exact hF.p3 h0
      · intro h0; rw [hoth 4 (by decide)] at h0; rw [upd_ne (show 93 ≠ 95 by decide)]; exact hF.p4 h0
      · intro h0; rw [hoth 5 (by decide)] at h0; rw [upd_ne (show 94 ≠ 95 by decide)]; exact hF.p5 h0
      · intro h0; exact upd_self _ _ _
      · intro h0; rw [hoth 7 (by decide)] at h0; exact absurd (hF.cl 7 6 (by decide) h0) (by rw [hn]; decide)
      · intro h0; rw [hoth 8 (by decide)] at h0; rw [upd_ne (show 97 ≠ 95 by decide)]; exact hF.r8 h0
      · intro h0; rw [hoth 9 (by decide)] at h0; rw [upd_ne (show 98 ≠ 95 by decide)]; exact hF.r9 h0
      · intro h0 h1; rw [hoth 10 (by decide)] at h0; rw [hoth 12 (by decide)] at h1; rw [upd_ne (show 99 ≠ 95 by decide)]; exact hF.r10 h0 h1
      · intro h0; rw [hoth 11 (by decide)] at h0; rw [upd_ne (show 100 ≠ 95 by decide)]; exact hF.p11 h0
      · intro h0 h1; rw [hoth 12 (by decide)] at h0; rw [hoth 15 (by decide)] at h1; rw [upd_ne (show 101 ≠ 95 by decide)]; exact hF.r12 h0 h1
      · intro h0; rw [hoth 13 (by decide)] at h0; rw [upd_ne (show 102 ≠ 95 by decide)]; exact hF.p13 h0
      · intro h0; rw [hoth 14 (by decide)] at h0; rw [upd_ne (show 103 ≠ 95 by decide)]; exact hF.r14 h0
      · intro h0; rw [hoth 15 (by decide)] at h0; rw [upd_ne (show 104 ≠ 95 by decide)]; exact hF.r15 h0
      · intro h0; rw [hoth 16 (by decide)] at h0; exact absurd (hF.cl 16 6 (by decide) h0) (by rw [hn]; decide)
      · intro h0; rw [hoth 16 (by decide)] at h0; rw [upd_ne (show 5 ≠ 95 by decide)]; exact hF.n16 h0
      · intro h0; rw [hoth 17 (by decide)] at h0; exact absurd (hF.cl 17 6 (by decide) h0) (by rw [hn]; decide)
      · intro h0; rw [hoth 17 (by decide)] at h0; rw [upd_ne (show 6 ≠ 95 by decide)]; exact hF.n17 h0
    · have e1 := hF.p6 (hneed 6 (by decide))
      refine YieldsIf.wpOp (S := fun w' => w'.cell? (⟨(ad.add (k * 3)).block, (ad.add (k * 3)).off + 1, none⟩) = some ((.int .i64 key))) (o := { dst := some 96, op := Op.load 3 (Operand.tmp 95), type := 3, pos := "sets.go:174", after := #[{ on := 6, ground := Ground.data }], guard := none }) (v := (.int .i64 key)) rfl (Or.inl ⟨rfl, fun w' hS => ?_⟩) ((HB.cell (World.block_lt_of_cell? w _ hx1)).trans hx1) ?_
      · simp only [execOp, mk_eval s _ (show 95 < 128 by decide), e1]; go_simp
      refine ⟨upd s 96 (.int .i64 key), c, mk_put s 96 (.int .i64 key) (by decide), HB, ?_⟩
      refine { cl := hcl, fr := fun j hj => ?_, r0 := ?_, p1 := ?_, r2 := ?_, p3 := ?_, p4 := ?_, p5 := ?_, p6 := ?_, p7 := ?_, r8 := ?_, r9 := ?_, r10 := ?_, p11 := ?_, r12 := ?_, p13 := ?_, r14 := ?_, r15 := ?_, q16 := ?_, n16 := ?_, q17 := ?_, n17 := ?_ }
      · rw [upd_ne (by rintro rfl; exact hj (by decide))]; exact hF.fr j hj
      · intro h0 h1; rw [hoth 0 (by decide)] at h0; rw [hoth 2 (by decide)] at h1; rw [upd_ne (show 89 ≠ 96 by decide)]; exact hF.r0 h0 h1
      · intro h0; rw [hoth 1 (by decide)] at h0; rw [upd_ne (show 90 ≠ 96 by decide)]; exact hF.p1 h0
      · intro h0 h1; rw [hoth 2 (by decide)] at h0; rw [hoth 9 (by decide)] at h1; rw [upd_ne (show 91 ≠ 96 by decide)]; exact hF.r2 h0 h1
      · intro h0; rw [hoth 3 (by decide)] at h0; rw [upd_ne (show 92 ≠ 96 by decide)]; exact hF.p3 h0
      · intro h0; rw [hoth 4 (by decide)] at h0; rw [upd_ne (show 93 ≠ 96 by decide)]; exact hF.p4 h0
      · intro h0; rw [hoth 5 (by decide)] at h0; rw [upd_ne (show 94 ≠ 96 by decide)]; exact hF.p5 h0
      · intro h0; rw [hoth 6 (by decide)] at h0; rw [upd_ne (show 95 ≠ 96 by decide)]; exact hF.p6 h0
      · intro h0; exact upd_self _ _ _
      · intro h0; rw [hoth 8 (by decide)] at h0; rw [upd_ne (show 97 ≠ 96 by decide)]; exact hF.r8 h0
      · intro h0; rw [hoth 9 (by decide)] at h0; rw [upd_ne (show 98 ≠ 96 by decide)]; exact hF.r9 h0
      · intro h0 h1; rw [hoth 10 (by decide)] at h0; rw [hoth 12 (by decide)] at h1; rw [upd_ne (show 99 ≠ 96 by decide)]; exact hF.r10 h0 h1
      · intro h0; rw [hoth 11 (by decide)] at h0; rw [upd_ne (show 100 ≠ 96 by decide)]; exact hF.p11 h0
      · intro h0 h1; rw [hoth 12 (by decide)] at h0; rw [hoth 15 (by decide)] at h1; rw [upd_ne (show 101 ≠ 96 by decide)]; exact hF.r12 h0 h1
      · intro h0; rw [hoth 13 (by decide)] at h0; rw [upd_ne (show 102 ≠ 96 by decide)]; exact hF.p13 h0
      · intro h0; rw [hoth 14 (by decide)] at h0; rw [upd_ne (show 103 ≠ 96 by decide)]; exact hF.r14 h0
      · intro h0; rw [hoth 15 (by decide)] at h0; rw [upd_ne (show 104 ≠ 96 by decide)]; exact hF.r15 h0
      · intro h0; rw [hoth 16 (by decide)] at h0; exact absurd (hF.cl 16 7 (by decide) h0) (by rw [hn]; decide)
      · intro h0; rw [hoth 16 (by decide)] at h0; rw [upd_ne (show 5 ≠ 96 by decide)]; exact hF.n16 h0
      · intro h0; rw [hoth 17 (by decide)] at h0; exact absurd (hF.cl 17 7 (by decide) h0) (by rw [hn]; decide)
      · intro h0; rw [hoth 17 (by decide)] at h0; rw [upd_ne (show 6 ≠ 96 by decide)]; exact hF.n17 h0
    · have e1 := hF.p7 (hneed 7 (by decide))
      refine wpOp_step (o := { dst := some 97, op := Op.buildSlice 40 1 #[(0, Operand.tmp 96)], type := 40, pos := "sets.go:174", after := #[{ on := 7, ground := Ground.data }], guard := none }) rfl (fun K' hK => ?_)
      refine row_lit (w0 := w) c 2 rfl (N := 97) rfl ([key]) (by simp) ?_ HB ?_
      · have h_ := (mk_get s 96 (by decide)).trans e1; go_simp
      intro v c' W' hR hG HB'
      refine hK _ _ ⟨upd s 97 v, c', mk_put s 97 v (by decide), HB', ?_⟩
      refine { cl := hcl, fr := fun j hj => ?_, r0 := ?_, p1 := ?_, r2 := ?_, p3 := ?_, p4 := ?_, p5 := ?_, p6 := ?_, p7 := ?_, r8 := ?_, r9 := ?_, r10 := ?_, p11 := ?_, r12 := ?_, p13 := ?_, r14 := ?_, r15 := ?_, q16 := ?_, n16 := ?_, q17 := ?_, n17 := ?_ }
      · rw [upd_ne (by rintro rfl; exact hj (by decide))]; exact hF.fr j hj
      · intro h0 h1; rw [hoth 0 (by decide)] at h0; rw [hoth 2 (by decide)] at h1; rw [upd_ne (show 89 ≠ 97 by decide)]; exact (hF.r0 h0 h1).stay hG (by decide)
      · intro h0; rw [hoth 1 (by decide)] at h0; rw [upd_ne (show 90 ≠ 97 by decide)]; exact hF.p1 h0
      · intro h0 h1; rw [hoth 2 (by decide)] at h0; rw [hoth 9 (by decide)] at h1; rw [upd_ne (show 91 ≠ 97 by decide)]; exact (hF.r2 h0 h1).stay hG (by decide)
      · intro h0; rw [hoth 3 (by decide)] at h0; rw [upd_ne (show 92 ≠ 97 by decide)]; exact hF.p3 h0
      · intro h0; rw [hoth 4 (by decide)] at h0; rw [upd_ne (show 93 ≠ 97 by decide)]; exact hF.p4 h0
      · intro h0; rw [hoth 5 (by decide)] at h0; rw [upd_ne (show 94 ≠ 97 by decide)]; exact hF.p5 h0
      · intro h0; rw [hoth 6 (by decide)] at h0; rw [upd_ne (show 95 ≠ 97 by decide)]; exact hF.p6 h0
      · intro h0; rw [hoth 7 (by decide)] at h0; rw [upd_ne (show 96 ≠ 97 by decide)]; exact hF.p7 h0
      · intro h0; rw [upd_self]; exact hR
      · intro h0; rw [hoth 9 (by decide)] at h0; rw [upd_ne (show 98 ≠ 97 by decide)]; exact (hF.r9 h0).stay hG (by decide)
      · intro h0 h1; rw [hoth 10 (by decide)] at h0; rw [hoth 12 (by decide)] at h1; rw [upd_ne (show 99 ≠ 97 by decide)]; exact (hF.r10 h0 h1).stay hG (by decide)
      · intro h0; rw [hoth 11 (by decide)] at h0; rw [upd_ne (show 100 ≠ 97 by decide)]; exact hF.p11 h0
      · intro h0 h1; rw [hoth 12 (by decide)] at h0; rw [hoth 15 (by decide)] at h1; rw [upd_ne (show 101 ≠ 97 by decide)]; exact (hF.r12 h0 h1).stay hG (by decide)
      · intro h0; rw [hoth 13 (by decide)] at h0; rw [upd_ne (show 102 ≠ 97 by decide)]; exact hF.p13 h0
      · intro h0; rw [hoth 14 (by decide)] at h0; rw [upd_ne (show 103 ≠ 97 by decide)]; exact (hF.r14 h0).stay hG (by decide)
      · intro h0; rw [hoth 15 (by decide)] at h0; rw [upd_ne (show 104 ≠ 97 by decide)]; exact (hF.r15 h0).stay hG (by decide)
      · intro h0; rw [hoth 16 (by decide)] at h0; rw [upd_ne (show 5 ≠ 97 by decide)]; rw [upd_ne (show 98 ≠ 97 by decide)]; exact hF.q16 h0
      · intro h0; rw [hoth 16 (by decide)] at h0; rw [upd_ne (show 5 ≠ 97 by decide)]; exact hF.n16 h0
      · intro h0; rw [hoth 17 (by decide)] at h0; rw [upd_ne (show 6 ≠ 97 by decide)]; rw [upd_ne (show 104 ≠ 97 by decide)]; exact hF.q17 h0
      · intro h0; rw [hoth 17 (by decide)] at h0; rw [upd_ne (show 6 ≠ 97 by decide)]; exact hF.n17 h0
    · obtain ⟨A8, c8, e8, _, hC8⟩ := (hF.r8 (hneed 8 (by decide))).reads
      refine wpOp_step (o := { dst := some 98, op := Op.call { callee := Callee.builtin Builtin.append, args := #[Operand.tmp 91, Operand.tmp 97], argTypes := #[40, 40] }, type := 40, pos := "sets.go:174", after := #[{ on := 2, ground := Ground.data }, { on := 8, ground := Ground.data }, { on := 2, ground := Ground.chain }], guard := none }) rfl (fun K' hK => ?_)
      refine row_app (w0 := w) c 1 rfl (.tmp 91) (.tmp 97) rfl (s 91) (ks) ([key]) A8 1 c8 (mk_eval s _ (by decide)) (by rw [mk_eval s _ (by decide)]; exact e8) (hF.r2 (hneed 2 (by decide)) hn) (hC8) (by omega) HB ?_
      intro v c' W' hR hG HB'
      refine hK _ _ ⟨upd s 98 v, c', mk_put s 98 v (by decide), HB', ?_⟩
      refine { cl := hcl, fr := fun j hj => ?_, r0 := ?_, p1 := ?_, r2 := ?_, p3 := ?_, p4 := ?_, p5 := ?_, p6 := ?_, p7 := ?_, r8 := ?_, r9 := ?_, r10 := ?_, p11 := ?_, r12 := ?_, p13 := ?_, r14 := ?_, r15 := ?_, q16 := ?_, n16 := ?_, q17 := ?_, n17 := ?_ }
      · rw [upd_ne (by rintro rfl; exact hj (by decide))]; exact hF.fr j hj
      · intro h0 h1; rw [hoth 0 (by decide)] at h0; rw [hoth 2 (by decide)] at h1; rw [(hneed 2 (by decide))] at h1; cases h1
      · intro h0; rw [hoth 1 (by decide)] at h0; rw [upd_ne (show 90 ≠ 98 by decide)]; exact hF.p1 h0
      · intro h0 h1; rw [hoth 2 (by decide)] at h0; rw [hself] at h1; cases h1
      · intro h0; rw [hoth 3 (by decide)] at h0; rw [upd_ne (show 92 ≠ 98 by decide)]; exact hF.p3 h0
      · intro h0; rw [hoth 4 (by decide)] at h0; rw [upd_ne (show 93 ≠ 98 by decide)]; exact hF.p4 h0
      · intro h0; rw [hoth 5 (by decide)] at h0; rw [upd_ne (show 94 ≠ 98 by decide)]; exact hF.p5 h0
      · intro h0; rw [hoth 6 (by decide)] at h0; rw [upd_ne (show 95 ≠ 98 by decide)]; exact hF.p6 h0
      · intro h0; rw [hoth 7 (by decide)] at h0; rw [upd_ne (show 96 ≠ 98 by decide)]; exact hF.p7 h0
      · intro h0; rw [hoth 8 (by decide)] at h0; rw [upd_ne (show 97 ≠ 98 by decide)]; exact (hF.r8 h0).stay hG (by decide)
      · intro h0; rw [upd_self]; exact hR
      · intro h0 h1; rw [hoth 10 (by decide)] at h0; rw [hoth 12 (by decide)] at h1; rw [upd_ne (show 99 ≠ 98 by decide)]; exact (hF.r10 h0 h1).stay hG (by decide)
      · intro h0; rw [hoth 11 (by decide)] at h0; rw [upd_ne (show 100 ≠ 98 by decide)]; exact hF.p11 h0
      · intro h0 h1; rw [hoth 12 (by decide)] at h0; rw [hoth 15 (by decide)] at h1; rw [upd_ne (show 101 ≠ 98 by decide)]; exact (hF.r12 h0 h1).stay hG (by decide)
      · intro h0; rw [hoth 13 (by decide)] at h0; rw [upd_ne (show 102 ≠ 98 by decide)]; exact hF.p13 h0
      · intro h0; rw [hoth 14 (by decide)] at h0; rw [upd_ne (show 103 ≠ 98 by decide)]; exact (hF.r14 h0).stay hG (by decide)
      · intro h0; rw [hoth 15 (by decide)] at h0; rw [upd_ne (show 104 ≠ 98 by decide)]; exact (hF.r15 h0).stay hG (by decide)
      · intro h0; rw [hoth 16 (by decide)] at h0; exact absurd (hF.cl 16 9 (by decide) h0) (by rw [hn]; decide)
      · intro h0; rw [hoth 16 (by decide)] at h0; rw [upd_ne (show 5 ≠ 98 by decide)]; exact hF.n16 h0
      · intro h0; rw [hoth 17 (by decide)] at h0; rw [upd_ne (show 6 ≠ 98 by decide)]; rw [upd_ne (show 104 ≠ 98 by decide)]; exact hF.q17 h0
      · intro h0; rw [hoth 17 (by decide)] at h0; rw [upd_ne (show 6 ≠ 98 by decide)]; exact hF.n17 h0
    · refine wpOp_step (o := { dst := some 99, op := Op.buildSlice 40 0 #[], type := 40, pos := "sets.go:174", after := #[], guard := none }) rfl (fun K' hK => ?_)
      refine row_lit (w0 := w) c 3 rfl (N := 99) rfl ([]) (by simp) ?_ HB ?_
      · first | (go_simp; done) | (simp [execOp, mk_eval, *]; done)
      intro v c' W' hR hG HB'
      refine hK _ _ ⟨upd s 99 v, c', mk_put s 99 v (by decide), HB', ?_⟩
      refine { cl := hcl, fr := fun j hj => ?_, r0 := ?_, p1 := ?_, r2 := ?_, p3 := ?_, p4 := ?_, p5 := ?_, p6 := ?_, p7 := ?_, r8 := ?_, r9 := ?_, r10 := ?_, p11 := ?_, r12 := ?_, p13 := ?_, r14 := ?_, r15 := ?_, q16 := ?_, n16 := ?_, q17 := ?_, n17 := ?_ }
      · rw [upd_ne (by rintro rfl; exact hj (by decide))]; exact hF.fr j hj
      · intro h0 h1; rw [hoth 0 (by decide)] at h0; rw [hoth 2 (by decide)] at h1; rw [upd_ne (show 89 ≠ 99 by decide)]; exact (hF.r0 h0 h1).stay hG (by decide)
      · intro h0; rw [hoth 1 (by decide)] at h0; rw [upd_ne (show 90 ≠ 99 by decide)]; exact hF.p1 h0
      · intro h0 h1; rw [hoth 2 (by decide)] at h0; rw [hoth 9 (by decide)] at h1; rw [upd_ne (show 91 ≠ 99 by decide)]; exact (hF.r2 h0 h1).stay hG (by decide)
      · intro h0; rw [hoth 3 (by decide)] at h0; rw [upd_ne (show 92 ≠ 99 by decide)]; exact hF.p3 h0
      · intro h0; rw [hoth 4 (by decide)] at h0; rw [upd_ne (show 93 ≠ 99 by decide)]; exact hF.p4 h0
      · intro h0; rw [hoth 5 (by decide)] at h0; rw [upd_ne (show 94 ≠ 99 by decide)]; exact hF.p5 h0
      · intro h0; rw [hoth 6 (by decide)] at h0; rw [upd_ne (show 95 ≠ 99 by decide)]; exact hF.p6 h0
      · intro h0; rw [hoth 7 (by decide)] at h0; rw [upd_ne (show 96 ≠ 99 by decide)]; exact hF.p7 h0
      · intro h0; rw [hoth 8 (by decide)] at h0; rw [upd_ne (show 97 ≠ 99 by decide)]; exact (hF.r8 h0).stay hG (by decide)
      · intro h0; rw [hoth 9 (by decide)] at h0; rw [upd_ne (show 98 ≠ 99 by decide)]; exact (hF.r9 h0).stay hG (by decide)
      · intro h0 h1; rw [hoth 12 (by decide)] at h1; rw [upd_self]; exact hR
      · intro h0; rw [hoth 11 (by decide)] at h0; rw [upd_ne (show 100 ≠ 99 by decide)]; exact hF.p11 h0
      · intro h0 h1; rw [hoth 12 (by decide)] at h0; rw [hoth 15 (by decide)] at h1; exact absurd (hF.cl 12 10 (by decide) h0) (by rw [hn]; decide)
      · intro h0; rw [hoth 13 (by decide)] at h0; rw [upd_ne (show 102 ≠ 99 by decide)]; exact hF.p13 h0
      · intro h0; rw [hoth 14 (by decide)] at h0; rw [upd_ne (show 103 ≠ 99 by decide)]; exact (hF.r14 h0).stay hG (by decide)
      · intro h0; rw [hoth 15 (by decide)] at h0; exact absurd (hF.cl 12 10 (by decide) (hF.cl 15 12 (by decide) h0)) (by rw [hn]; decide)
      · intro h0; rw [hoth 16 (by decide)] at h0; rw [upd_ne (show 5 ≠ 99 by decide)]; rw [upd_ne (show 98 ≠ 99 by decide)]; exact hF.q16 h0
      · intro h0; rw [hoth 16 (by decide)] at h0; rw [upd_ne (show 5 ≠ 99 by decide)]; exact hF.n16 h0
      · intro h0; rw [hoth 17 (by decide)] at h0; rw [upd_ne (show 6 ≠ 99 by decide)]; rw [upd_ne (show 104 ≠ 99 by decide)]; exact hF.q17 h0
      · intro h0; rw [hoth 17 (by decide)] at h0; rw [upd_ne (show 6 ≠ 99 by decide)]; exact hF.n17 h0
    · have off17 : hasL_ L 17 = false := by cases h : hasL_ L 17 with | false => rfl | true => exact absurd (hF.cl 17 11 (by decide) h) (by rw [hn]; decide)
      have e1 := hF.n17 off17
      refine Yields.wpOp (o := { dst := some 100, op := Op.move (Operand.tmp 6), type := 40, pos := "sets.go:174", after := #[], guard := none }) (v := (.slice B vs.length capb)) rfl (Or.inl ⟨rfl, fun w' => ?_⟩) ?_
      · first | (go_simp; done) | (simp [execOp, mk_eval, *]; done)
      refine ⟨upd s 100 (.slice B vs.length capb), c, mk_put s 100 (.slice B vs.length capb) (by decide), HB, ?_⟩
      refine { cl := hcl, fr := fun j hj => ?_, r0 := ?_, p1 := ?_, r2 := ?_, p3 := ?_, p4 := ?_, p5 := ?_, p6 := ?_, p7 := ?_, r8 := ?_, r9 := ?_, r10 := ?_, p11 := ?_, r12 := ?_, p13 := ?_, r14 := ?_, r15 := ?_, q16 := ?_, n16 := ?_, q17 := ?_, n17 := ?_ }
      · rw [upd_ne (by rintro rfl; exact hj (by decide))]; exact hF.fr j hj
      · intro h0 h1; rw [hoth 0 (by decide)] at h0; rw [hoth 2 (by decide)] at h1; rw [upd_ne (show 89 ≠ 100 by decide)]; exact hF.r0 h0 h1
      · intro h0; rw [hoth 1 (by decide)] at h0; rw [upd_ne (show 90 ≠ 100 by decide)]; exact hF.p1 h0
      · intro h0 h1; rw [hoth 2 (by decide)] at h0; rw [hoth 9 (by decide)] at h1; rw [upd_ne (show 91 ≠ 100 by decide)]; exact hF.r2 h0 h1
      · intro h0; rw [hoth 3 (by decide)] at h0; rw [upd_ne (show 92 ≠ 100 by decide)]; exact hF.p3 h0
      · intro h0; rw [hoth 4 (by decide)] at h0; rw [upd_ne (show 93 ≠ 100 by decide)]; exact hF.p4 h0
      · intro h0; rw [hoth 5 (by decide)] at h0; rw [upd_ne (show 94 ≠ 100 by decide)]; exact hF.p5 h0
      · intro h0; rw [hoth 6 (by decide)] at h0; rw [upd_ne (show 95 ≠ 100 by decide)]; exact hF.p6 h0
      · intro h0; rw [hoth 7 (by decide)] at h0; rw [upd_ne (show 96 ≠ 100 by decide)]; exact hF.p7 h0
      · intro h0; rw [hoth 8 (by decide)] at h0; rw [upd_ne (show 97 ≠ 100 by decide)]; exact hF.r8 h0
      · intro h0; rw [hoth 9 (by decide)] at h0; rw [upd_ne (show 98 ≠ 100 by decide)]; exact hF.r9 h0
      · intro h0 h1; rw [hoth 10 (by decide)] at h0; rw [hoth 12 (by decide)] at h1; rw [upd_ne (show 99 ≠ 100 by decide)]; exact hF.r10 h0 h1
      · intro h0; exact upd_self _ _ _
      · intro h0 h1; rw [hoth 12 (by decide)] at h0; rw [hoth 15 (by decide)] at h1; rw [upd_ne (show 101 ≠ 100 by decide)]; exact hF.r12 h0 h1
      · intro h0; rw [hoth 13 (by decide)] at h0; rw [upd_ne (show 102 ≠ 100 by decide)]; exact hF.p13 h0
      · intro h0; rw [hoth 14 (by decide)] at h0; rw [upd_ne (show 103 ≠ 100 by decide)]; exact hF.r14 h0
      · intro h0; rw [hoth 15 (by decide)] at h0; rw [upd_ne (show 104 ≠ 100 by decide)]; exact hF.r15 h0
      · intro h0; rw [hoth 16 (by decide)] at h0; exact absurd (hF.cl 12 11 (by decide) (hF.cl 15 12 (by decide) (hF.cl 16 15 (by decide) h0))) (by rw [hn]; decide)
      · intro h0; rw [hoth 16 (by decide)] at h0; rw [upd_ne (show 5 ≠ 100 by decide)]; exact hF.n16 h0
      · intro h0; rw [hoth 17 (by decide)] at h0; exact absurd (hF.cl 17 11 (by decide) h0) (by rw [hn]; decide)
      · intro h0; rw [hoth 17 (by decide)] at h0; rw [upd_ne (show 6 ≠ 100 by decide)]; exact hF.n17 h0
    · refine wpOp_step (o := { dst := some 101, op := Op.call { callee := Callee.builtin Builtin.append, args := #[Operand.tmp 99, Operand.tmp 100], argTypes := #[40, 40] }, type := 40, pos := "sets.go:174", after := #[{ on := 10, ground := Ground.data }, { on := 11, ground := Ground.data }, { on := 9, ground := Ground.chain }], guard := none }) rfl (fun K' hK => ?_)
      refine row_app (w0 := w) c 3 rfl (.tmp 99) (.tmp 100) rfl (s 99) ([]) (vs) B vs.length capb (mk_eval s _ (by decide)) (by rw [mk_eval s _ (by decide)]; exact hF.p11 (hneed 11 (by decide))) (hF.r10 (hneed 10 (by decide)) hn) (Kd.C_below hCb HB) (by simp; omega) HB ?_
      intro v c' W' hR hG HB'
      refine hK _ _ ⟨upd s 101 v, c', mk_put s 101 v (by decide), HB', ?_⟩
      refine { cl := hcl, fr := fun j hj => ?_, r0 := ?_, p1 := ?_, r2 := ?_, p3 := ?_, p4 := ?_, p5 := ?_, p6 := ?_, p7 := ?_, r8 := ?_, r9 := ?_, r10 := ?_, p11 := ?_, r12 := ?_, p13 := ?_, r14 := ?_, r15 := ?_, q16 := ?_, n16 := ?_, q17 := ?_, n17 := ?_ }
      · rw [upd_ne (by rintro rfl; exact hj (by decide))]; exact hF.fr j hj
      · intro h0 h1; rw [hoth 0 (by decide)] at h0; rw [hoth 2 (by decide)] at h1; rw [upd_ne (show 89 ≠ 101 by decide)]; exact (hF.r0 h0 h1).stay hG (by decide)
      · intro h0; rw [hoth 1 (by decide)] at h0; rw [upd_ne (show 90 ≠ 101 by decide)]; exact hF.p1 h0
      · intro h0 h1; rw [hoth 2 (by decide)] at h0; rw [hoth 9 (by decide)] at h1; rw [upd_ne (show 91 ≠ 101 by decide)]; exact (hF.r2 h0 h1).stay hG (by decide)
      · intro h0; rw [hoth 3 (by decide)] at h0; rw [upd_ne (show 92 ≠ 101 by decide)]; exact hF.p3 h0
      · intro h0; rw [hoth 4 (by decide)] at h0; rw [upd_ne (show 93 ≠ 101 by decide)]; exact hF.p4 h0
      · intro h0; rw [hoth 5 (by decide)] at h0; rw [upd_ne (show 94 ≠ 101 by decide)]; exact hF.p5 h0
      · intro h0; rw [hoth 6 (by decide)] at h0; rw [upd_ne (show 95 ≠ 101 by decide)]; exact hF.p6 h0
      · intro h0; rw [hoth 7 (by decide)] at h0; rw [upd_ne (show 96 ≠ 101 by decide)]; exact hF.p7 h0
      · intro h0; rw [hoth 8 (by decide)] at h0; rw [upd_ne (show 97 ≠ 101 by decide)]; exact (hF.r8 h0).stay hG (by decide)
      · intro h0; rw [hoth 9 (by decide)] at h0; rw [upd_ne (show 98 ≠ 101 by decide)]; exact (hF.r9 h0).stay hG (by decide)
      · intro h0 h1; rw [hoth 10 (by decide)] at h0; rw [hself] at h1; cases h1
      · intro h0; rw [hoth 11 (by decide)] at h0; rw [upd_ne (show 100 ≠ 101 by decide)]; exact hF.p11 h0
      · intro h0 h1; rw [hoth 15 (by decide)] at h1; rw [upd_self]; exact hR
      · intro h0; rw [hoth 13 (by decide)] at h0; rw [upd_ne (show 102 ≠ 101 by decide)]; exact hF.p13 h0
      · intro h0; rw [hoth 14 (by decide)] at h0; rw [upd_ne (show 103 ≠ 101 by decide)]; exact (hF.r14 h0).stay hG (by decide)
      · intro h0; rw [hoth 15 (by decide)] at h0; exact absurd (hF.cl 15 12 (by decide) h0) (by rw [hn]; decide)
      · intro h0; rw [hoth 16 (by decide)] at h0; rw [upd_ne (show 5 ≠ 101 by decide)]; rw [upd_ne (show 98 ≠ 101 by decide)]; exact hF.q16 h0
      · intro h0; rw [hoth 16 (by decide)] at h0; rw [upd_ne (show 5 ≠ 101 by decide)]; exact hF.n16 h0
      · intro h0; rw [hoth 17 (by decide)] at h0; rw [upd_ne (show 6 ≠ 101 by decide)]; rw [upd_ne (show 104 ≠ 101 by decide)]; exact hF.q17 h0
      · intro h0; rw [hoth 17 (by decide)] at h0; rw [upd_ne (show 6 ≠ 101 by decide)]; exact hF.n17 h0
    · have e1 := (hF.fr 12 (by decide)).trans h12
      refine Yields.wpOp (o := { dst := some 102, op := Op.move (Operand.tmp 12), type := 3, pos := "sets.go:174", after := #[], guard := none }) (v := (.int .i64 v)) rfl (Or.inl ⟨rfl, fun w' => ?_⟩) ?_
      · first | (go_simp; done) | (simp [execOp, mk_eval, *]; done)
      refine ⟨upd s 102 (.int .i64 v), c, mk_put s 102 (.int .i64 v) (by decide), HB, ?_⟩
      refine { cl := hcl, fr := fun j hj => ?_, r0 := ?_, p1 := ?_, r2 := ?_, p3 := ?_, p4 := ?_, p5 := ?_, p6 := ?_, p7 := ?_, r8 := ?_, r9 := ?_, r10 := ?_, p11 := ?_, r12 := ?_, p13 := ?_, r14 := ?_, r15 := ?_, q16 := ?_, n16 := ?_, q17 := ?_, n17 := ?_ }
      · rw [upd_ne (by rintro rfl; exact hj (by decide))]; exact hF.fr j hj
      · intro h0 h1; rw [hoth 0 (by decide)] at h0; rw [hoth 2 (by decide)] at h1; rw [upd_ne (show 89 ≠ 102 by decide)]; exact hF.r0 h0 h1
      · intro h0; rw [hoth 1 (by decide)] at h0; rw [upd_ne (show 90 ≠ 102 by decide)]; exact hF.p1 h0
      · intro h0 h1; rw [hoth 2 (by decide)] at h0; rw [hoth 9 (by decide)] at h1; rw [upd_ne (show 91 ≠ 102 by decide)]; exact hF.r2 h0 h1
      · intro h0; rw [hoth 3 (by decide)] at h0; rw [upd_ne (show 92 ≠ 102 by decide)]; exact hF.p3 h0
      · intro h0; rw [hoth 4 (by decide)] at h0; rw [upd_ne (show 93 ≠ 102 by decide)]; exact hF.p4 h0
      · intro h0; rw [hoth 5 (by decide)] at h0; rw [upd_ne (show 94 ≠ 102 by decide)]; exact hF.p5 h0
      · intro h0; rw [hoth 6 (by decide)] at h0; rw [upd_ne (show 95 ≠ 102 by decide)]; exact hF.p6 h0
      · intro h0; rw [hoth 7 (by decide)] at h0; rw [upd_ne (show 96 ≠ 102 by decide)]; exact hF.p7 h0
      · intro h0; rw [hoth 8 (by decide)] at h0; rw [upd_ne (show 97 ≠ 102 by decide)]; exact hF.r8 h0
      · intro h0; rw [hoth 9 (by decide)] at h0; rw [upd_ne (show 98 ≠ 102 by decide)]; exact hF.r9 h0
      · intro h0 h1; rw [hoth 10 (by decide)] at h0; rw [hoth 12 (by decide)] at h1; rw [upd_ne (show 99 ≠ 102 by decide)]; exact hF.r10 h0 h1
      · intro h0; rw [hoth 11 (by decide)] at h0; rw [upd_ne (show 100 ≠ 102 by decide)]; exact hF.p11 h0
      · intro h0 h1; rw [hoth 12 (by decide)] at h0; rw [hoth 15 (by decide)] at h1; rw [upd_ne (show 101 ≠ 102 by decide)]; exact hF.r12 h0 h1
      · intro h0; exact upd_self _ _ _
      · intro h0; rw [hoth 14 (by decide)] at h0; rw [upd_ne (show 103 ≠ 102 by decide)]; exact hF.r14 h0
      · intro h0; rw [hoth 15 (by decide)] at h0; rw [upd_ne (show 104 ≠ 102 by decide)]; exact hF.r15 h0
      · intro h0; rw [hoth 16 (by decide)] at h0; exact absurd (hF.cl 14 13 (by decide) (hF.cl 15 14 (by decide) (hF.cl 16 15 (by decide) h0))) (by rw [hn]; decide)
      · intro h0; rw [hoth 16 (by decide)] at h0; rw [upd_ne (show 5 ≠ 102 by decide)]; exact hF.n16 h0
      · intro h0; rw [hoth 17 (by decide)] at h0; exact absurd (hF.cl 17 13 (by decide) h0) (by rw [hn]; decide)
      · intro h0; rw [hoth 17 (by decide)] at h0; rw [upd_ne (show 6 ≠ 102 by decide)]; exact hF.n17 h0
    · have e1 := hF.p13 (hneed 13 (by decide))
      refine wpOp_step (o := { dst := some 103, op := Op.buildSlice 40 1 #[(0, Operand.tmp 102)], type := 40, pos := "sets.go:174", after := #[{ on := 13, ground := Ground.data }], guard := none }) rfl (fun K' hK => ?_)
      refine row_lit (w0 := w) c 4 rfl (N := 103) rfl ([v]) (by simp) ?_ HB ?_
      · have h_ := (mk_get s 102 (by decide)).trans e1; go_simp
      intro v c' W' hR hG HB'
      refine hK _ _ ⟨upd s 103 v, c', mk_put s 103 v (by decide), HB', ?_⟩
      refine { cl := hcl, fr := fun j hj => ?_, r0 := ?_, p1 := ?_, r2 := ?_, p3 := ?_, p4 := ?_, p5 := ?_, p6 := ?_, p7 := ?_, r8 := ?_, r9 := ?_, r10 := ?_, p11 := ?_, r12 := ?_, p13 := ?_, r14 := ?_, r15 := ?_, q16 := ?_, n16 := ?_, q17 := ?_, n17 := ?_ }
      · rw [upd_ne (by rintro rfl; exact hj (by decide))]; exact hF.fr j hj
      · intro h0 h1; rw [hoth 0 (by decide)] at h0; rw [hoth 2 (by decide)] at h1; rw [upd_ne (show 89 ≠ 103 by decide)]; exact (hF.r0 h0 h1).stay hG (by decide)
      · intro h0; rw [hoth 1 (by decide)] at h0; rw [upd_ne (show 90 ≠ 103 by decide)]; exact hF.p1 h0
      · intro h0 h1; rw [hoth 2 (by decide)] at h0; rw [hoth 9 (by decide)] at h1; rw [upd_ne (show 91 ≠ 103 by decide)]; exact (hF.r2 h0 h1).stay hG (by decide)
      · intro h0; rw [hoth 3 (by decide)] at h0; rw [upd_ne (show 92 ≠ 103 by decide)]; exact hF.p3 h0
      · intro h0; rw [hoth 4 (by decide)] at h0; rw [upd_ne (show 93 ≠ 103 by decide)]; exact hF.p4 h0
      · intro h0; rw [hoth 5 (by decide)] at h0; rw [upd_ne (show 94 ≠ 103 by decide)]; exact hF.p5 h0
      · intro h0; rw [hoth 6 (by decide)] at h0; rw [upd_ne (show 95 ≠ 103 by decide)]; exact hF.p6 h0
      · intro h0; rw [hoth 7 (by decide)] at h0; rw [upd_ne (show 96 ≠ 103 by decide)]; exact hF.p7 h0
      · intro h0; rw [hoth 8 (by decide)] at h0; rw [upd_ne (show 97 ≠ 103 by decide)]; exact (hF.r8 h0).stay hG (by decide)
      · intro h0; rw [hoth 9 (by decide)] at h0; rw [upd_ne (show 98 ≠ 103 by decide)]; exact (hF.r9 h0).stay hG (by decide)
      · intro h0 h1; rw [hoth 10 (by decide)] at h0; rw [hoth 12 (by decide)] at h1; rw [upd_ne (show 99 ≠ 103 by decide)]; exact (hF.r10 h0 h1).stay hG (by decide)
      · intro h0; rw [hoth 11 (by decide)] at h0; rw [upd_ne (show 100 ≠ 103 by decide)]; exact hF.p11 h0
      · intro h0 h1; rw [hoth 12 (by decide)] at h0; rw [hoth 15 (by decide)] at h1; rw [upd_ne (show 101 ≠ 103 by decide)]; exact (hF.r12 h0 h1).stay hG (by decide)
      · intro h0; rw [hoth 13 (by decide)] at h0; rw [upd_ne (show 102 ≠ 103 by decide)]; exact hF.p13 h0
      · intro h0; rw [upd_self]; exact hR
      · intro h0; rw [hoth 15 (by decide)] at h0; rw [upd_ne (show 104 ≠ 103 by decide)]; exact (hF.r15 h0).stay hG (by decide)
      · intro h0; rw [hoth 16 (by decide)] at h0; rw [upd_ne (show 5 ≠ 103 by decide)]; rw [upd_ne (show 98 ≠ 103 by decide)]; exact hF.q16 h0
      · intro h0; rw [hoth 16 (by decide)] at h0; rw [upd_ne (show 5 ≠ 103 by decide)]; exact hF.n16 h0
      · intro h0; rw [hoth 17 (by decide)] at h0; rw [upd_ne (show 6 ≠ 103 by decide)]; rw [upd_ne (show 104 ≠ 103 by decide)]; exact hF.q17 h0
      · intro h0; rw [hoth 17 (by decide)] at h0; rw [upd_ne (show 6 ≠ 103 by decide)]; exact hF.n17 h0
    · obtain ⟨A8, c8, e8, _, hC8⟩ := (hF.r14 (hneed 14 (by decide))).reads
      refine wpOp_step (o := { dst := some 104, op := Op.call { callee := Callee.builtin Builtin.append, args := #[Operand.tmp 101, Operand.tmp 103], argTypes := #[40, 40] }, type := 40, pos := "sets.go:174", after := #[{ on := 12, ground := Ground.data }, { on := 14, ground := Ground.data }, { on := 12, ground := Ground.chain }], guard := none }) rfl (fun K' hK => ?_)
      refine row_app (w0 := w) c 3 rfl (.tmp 101) (.tmp 103) rfl (s 101) (vs) ([v]) A8 1 c8 (mk_eval s _ (by decide)) (by rw [mk_eval s _ (by decide)]; exact e8) (hF.r12 (hneed 12 (by decide)) hn) (hC8) (by omega) HB ?_
      intro v c' W' hR hG HB'
      refine hK _ _ ⟨upd s 104 v, c', mk_put s 104 v (by decide), HB', ?_⟩
      refine { cl := hcl, fr := fun j hj => ?_, r0 := ?_, p1 := ?_, r2 := ?_, p3 := ?_, p4 := ?_, p5 := ?_, p6 := ?_, p7 := ?_, r8 := ?_, r9 := ?_, r10 := ?_, p11 := ?_, r12 := ?_, p13 := ?_, r14 := ?_, r15 := ?_, q16 := ?_, n16 := ?_, q17 := ?_, n17 := ?_ }
      · rw [upd_ne (by rintro rfl; exact hj (by decide))]; exact hF.fr j hj
      · intro h0 h1; rw [hoth 0 (by decide)] at h0; rw [hoth 2 (by decide)] at h1; rw [upd_ne (show 89 ≠ 104 by decide)]; exact (hF.r0 h0 h1).stay hG (by decide)
      · intro h0; rw [hoth 1 (by decide)] at h0; rw [upd_ne (show 90 ≠ 104 by decide)]; exact hF.p1 h0
      · intro h0 h1; rw [hoth 2 (by decide)] at h0; rw [hoth 9 (by decide)] at h1; rw [upd_ne (show 91 ≠ 104 by decide)]; exact (hF.r2 h0 h1).stay hG (by decide)
      · intro h0; rw [hoth 3 (by decide)] at h0; rw [upd_ne (show 92 ≠ 104 by decide)]; exact hF.p3 h0
      · intro h0; rw [hoth 4 (by decide)] at h0; rw [upd_ne (show 93 ≠ 104 by decide)]; exact hF.p4 h0
      · intro h0; rw [hoth 5 (by decide)] at h0; rw [upd_ne (show 94 ≠ 104 by decide)]; exact hF.p5 h0
      · intro h0; rw [hoth 6 (by decide)] at h0; rw [upd_ne (show 95 ≠ 104 by decide)]; exact hF.p6 h0
      · intro h0; rw [hoth 7 (by decide)] at h0; rw [upd_ne (show 96 ≠ 104 by decide)]; exact hF.p7 h0
      · intro h0; rw [hoth 8 (by decide)] at h0; rw [upd_ne (show 97 ≠ 104 by decide)]; exact (hF.r8 h0).stay hG (by decide)
      · intro h0; rw [hoth 9 (by decide)] at h0; rw [upd_ne (show 98 ≠ 104 by decide)]; exact (hF.r9 h0).stay hG (by decide)
      · intro h0 h1; rw [hoth 10 (by decide)] at h0; rw [hoth 12 (by decide)] at h1; rw [(hneed 12 (by decide))] at h1; cases h1
      · intro h0; rw [hoth 11 (by decide)] at h0; rw [upd_ne (show 100 ≠ 104 by decide)]; exact hF.p11 h0
      · intro h0 h1; rw [hoth 12 (by decide)] at h0; rw [hself] at h1; cases h1
      · intro h0; rw [hoth 13 (by decide)] at h0; rw [upd_ne (show 102 ≠ 104 by decide)]; exact hF.p13 h0
      · intro h0; rw [hoth 14 (by decide)] at h0; rw [upd_ne (show 103 ≠ 104 by decide)]; exact (hF.r14 h0).stay hG (by decide)
      · intro h0; rw [upd_self]; exact hR
      · intro h0; rw [hoth 16 (by decide)] at h0; rw [upd_ne (show 5 ≠ 104 by decide)]; rw [upd_ne (show 98 ≠ 104 by decide)]; exact hF.q16 h0
      · intro h0; rw [hoth 16 (by decide)] at h0; rw [upd_ne (show 5 ≠ 104 by decide)]; exact hF.n16 h0
      · intro h0; rw [hoth 17 (by decide)] at h0; exact absurd (hF.cl 17 15 (by decide) h0) (by rw [hn]; decide)
      · intro h0; rw [hoth 17 (by decide)] at h0; rw [upd_ne (show 6 ≠ 104 by decide)]; exact hF.n17 h0
    · refine Yields.wpOp (o := { dst := some 5, op := Op.assign (Operand.tmp 98), type := 40, pos := "sets.go:174", after := #[{ on := 9, ground := Ground.data }, { on := 15, ground := Ground.chain }, { on := 0, ground := Ground.phase }, { on := 1, ground := Ground.phase }, { on := 2, ground := Ground.phase }, { on := 3, ground := Ground.phase }, { on := 4, ground := Ground.phase }, { on := 5, ground := Ground.phase }, { on := 6, ground := Ground.phase }, { on := 7, ground := Ground.phase }, { on := 8, ground := Ground.phase }, { on := 9, ground := Ground.phase }, { on := 10, ground := Ground.textOnly Departure.lateStores }, { on := 11, ground := Ground.textOnly Departure.lateStores }, { on := 12, ground := Ground.textOnly Departure.lateStoresUnsure }, { on := 13, ground := Ground.textOnly Departure.lateStores }, { on := 14, ground := Ground.textOnly Departure.lateStores }, { on := 15, ground := Ground.textOnly Departure.lateStoresUnsure }], guard := none }) (v := (s 98)) rfl (Or.inl ⟨rfl, fun w' => ?_⟩) ?_
      · first | (go_simp; done) | (simp [execOp, mk_eval, *]; done)
      refine ⟨upd s 5 (s 98), c, mk_put s 5 (s 98) (by decide), HB, ?_⟩
      refine { cl := hcl, fr := fun j hj => ?_, r0 := ?_, p1 := ?_, r2 := ?_, p3 := ?_, p4 := ?_, p5 := ?_, p6 := ?_, p7 := ?_, r8 := ?_, r9 := ?_, r10 := ?_, p11 := ?_, r12 := ?_, p13 := ?_, r14 := ?_, r15 := ?_, q16 := ?_, n16 := ?_, q17 := ?_, n17 := ?_ }
      · rw [upd_ne (by rintro rfl; exact hj (by decide))]; exact hF.fr j hj
      · intro h0 h1; rw [hoth 0 (by decide)] at h0; rw [hoth 2 (by decide)] at h1; rw [upd_ne (show 89 ≠ 5 by decide)]; exact hF.r0 h0 h1
      · intro h0; rw [hoth 1 (by decide)] at h0; rw [upd_ne (show 90 ≠ 5 by decide)]; exact hF.p1 h0
      · intro h0 h1; rw [hoth 2 (by decide)] at h0; rw [hoth 9 (by decide)] at h1; rw [upd_ne (show 91 ≠ 5 by decide)]; exact hF.r2 h0 h1
      · intro h0; rw [hoth 3 (by decide)] at h0; rw [upd_ne (show 92 ≠ 5 by decide)]; exact hF.p3 h0
      · intro h0; rw [hoth 4 (by decide)] at h0; rw [upd_ne (show 93 ≠ 5 by decide)]; exact hF.p4 h0
      · intro h0; rw [hoth 5 (by decide)] at h0; rw [upd_ne (show 94 ≠ 5 by decide)]; exact hF.p5 h0
      · intro h0; rw [hoth 6 (by decide)] at h0; rw [upd_ne (show 95 ≠ 5 by decide)]; exact hF.p6 h0
      · intro h0; rw [hoth 7 (by decide)] at h0; rw [upd_ne (show 96 ≠ 5 by decide)]; exact hF.p7 h0
      · intro h0; rw [hoth 8 (by decide)] at h0; rw [upd_ne (show 97 ≠ 5 by decide)]; exact hF.r8 h0
      · intro h0; rw [hoth 9 (by decide)] at h0; rw [upd_ne (show 98 ≠ 5 by decide)]; exact hF.r9 h0
      · intro h0 h1; rw [hoth 10 (by decide)] at h0; rw [hoth 12 (by decide)] at h1; rw [upd_ne (show 99 ≠ 5 by decide)]; exact hF.r10 h0 h1
      · intro h0; rw [hoth 11 (by decide)] at h0; rw [upd_ne (show 100 ≠ 5 by decide)]; exact hF.p11 h0
      · intro h0 h1; rw [hoth 12 (by decide)] at h0; rw [hoth 15 (by decide)] at h1; rw [upd_ne (show 101 ≠ 5 by decide)]; exact hF.r12 h0 h1
      · intro h0; rw [hoth 13 (by decide)] at h0; rw [upd_ne (show 102 ≠ 5 by decide)]; exact hF.p13 h0
      · intro h0; rw [hoth 14 (by decide)] at h0; rw [upd_ne (show 103 ≠ 5 by decide)]; exact hF.r14 h0
      · intro h0; rw [hoth 15 (by decide)] at h0; rw [upd_ne (show 104 ≠ 5 by decide)]; exact hF.r15 h0
      · intro h0; rw [upd_self, upd_ne (by decide)]
      · intro h0; rw [hself] at h0; cases h0
      · intro h0; rw [hoth 17 (by decide)] at h0; exact absurd (hF.cl 17 16 (by decide) h0) (by rw [hn]; decide)
      · intro h0; rw [hoth 17 (by decide)] at h0; rw [upd_ne (show 6 ≠ 5 by decide)]; exact hF.n17 h0
    · refine Yields.wpOp (o := { dst := some 6, op := Op.assign (Operand.tmp 104), type := 40, pos := "sets.go:174", after := #[{ on := 15, ground := Ground.data }, { on := 16, ground := Ground.chain }, { on := 0, ground := Ground.phase }, { on := 1, ground := Ground.phase }, { on := 2, ground := Ground.phase }, { on := 3, ground := Ground.phase }, { on := 4, ground := Ground.phase }, { on := 5, ground := Ground.phase }, { on := 6, ground := Ground.phase }, { on := 7, ground := Ground.phase }, { on := 8, ground := Ground.phase }, { on := 9, ground := Ground.phase }, { on := 10, ground := Ground.phase }, { on := 11, ground := Ground.phase }, { on := 12, ground := Ground.phase }, { on := 13, ground := Ground.phase }, { on := 14, ground := Ground.phase }, { on := 15, ground := Ground.phase }, { on := 16, ground := Ground.phase }], guard := none }) (v := (s 104)) rfl (Or.inl ⟨rfl, fun w' => ?_⟩) ?_
      · first | (go_simp; done) | (simp [execOp, mk_eval, *]; done)
      refine ⟨upd s 6 (s 104), c, mk_put s 6 (s 104) (by decide), HB, ?_⟩
      refine { cl := hcl, fr := fun j hj => ?_, r0 := ?_, p1 := ?_, r2 := ?_, p3 := ?_, p4 := ?_, p5 := ?_, p6 := ?_, p7 := ?_, r8 := ?_, r9 := ?_, r10 := ?_, p11 := ?_, r12 := ?_, p13 := ?_, r14 := ?_, r15 := ?_, q16 := ?_, n16 := ?_, q17 := ?_, n17 := ?_ }
      · rw [upd_ne (by rintro rfl; exact hj (by decide))]; exact hF.fr j hj
      · intro h0 h1; rw [hoth 0 (by decide)] at h0; rw [hoth 2 (by decide)] at h1; rw [upd_ne (show 89 ≠ 6 by decide)]; exact hF.r0 h0 h1
      · intro h0; rw [hoth 1 (by decide)] at h0; rw [upd_ne (show 90 ≠ 6 by decide)]; exact hF.p1 h0
      · intro h0 h1; rw [hoth 2 (by decide)] at h0; rw [hoth 9 (by decide)] at h1; rw [upd_ne (show 91 ≠ 6 by decide)]; exact hF.r2 h0 h1
      · intro h0; rw [hoth 3 (by decide)] at h0; rw [upd_ne (show 92 ≠ 6 by decide)]; exact hF.p3 h0
      · intro h0; rw [hoth 4 (by decide)] at h0; rw [upd_ne (show 93 ≠ 6 by decide)]; exact hF.p4 h0
      · intro h0; rw [hoth 5 (by decide)] at h0; rw [upd_ne (show 94 ≠ 6 by decide)]; exact hF.p5 h0
      · intro h0; rw [hoth 6 (by decide)] at h0; rw [upd_ne (show 95 ≠ 6 by decide)]; exact hF.p6 h0
      · intro h0; rw [hoth 7 (by decide)] at h0; rw [upd_ne (show 96 ≠ 6 by decide)]; exact hF.p7 h0
      · intro h0; rw [hoth 8 (by decide)] at h0; rw [upd_ne (show 97 ≠ 6 by decide)]; exact hF.r8 h0
      · intro h0; rw [hoth 9 (by decide)] at h0; rw [upd_ne (show 98 ≠ 6 by decide)]; exact hF.r9 h0
      · intro h0 h1; rw [hoth 10 (by decide)] at h0; rw [hoth 12 (by decide)] at h1; rw [upd_ne (show 99 ≠ 6 by decide)]; exact hF.r10 h0 h1
      · intro h0; rw [hoth 11 (by decide)] at h0; rw [upd_ne (show 100 ≠ 6 by decide)]; exact hF.p11 h0
      · intro h0 h1; rw [hoth 12 (by decide)] at h0; rw [hoth 15 (by decide)] at h1; rw [upd_ne (show 101 ≠ 6 by decide)]; exact hF.r12 h0 h1
      · intro h0; rw [hoth 13 (by decide)] at h0; rw [upd_ne (show 102 ≠ 6 by decide)]; exact hF.p13 h0
      · intro h0; rw [hoth 14 (by decide)] at h0; rw [upd_ne (show 103 ≠ 6 by decide)]; exact hF.r14 h0
      · intro h0; rw [hoth 15 (by decide)] at h0; rw [upd_ne (show 104 ≠ 6 by decide)]; exact hF.r15 h0
      · intro h0; rw [hoth 16 (by decide)] at h0; rw [upd_ne (show 5 ≠ 6 by decide)]; rw [upd_ne (show 98 ≠ 6 by decide)]; exact hF.q16 h0
      · intro h0; rw [hoth 16 (by decide)] at h0; rw [(hneed 16 (by decide))] at h0; cases h0
      · intro h0; rw [upd_self, upd_ne (by decide)]
      · intro h0; rw [hself] at h0; cases h0
  · rintro L a W hsz hall ⟨s, c, rfl, HB, hF⟩
    have ha : ∀ j, j < 18 → hasL_ L j = true := hall
    refine hQ s W HB hF.fr ⟨?_, ?_⟩
    · rw [hF.q16 (ha 16 (by decide))]; exact (hF.r9 (ha 9 (by decide))).cs
    · rw [hF.q17 (ha 17 (by decide))]; exact (hF.r15 (ha 15 (by decide))).cs
/-! spec.Cache by a plain list of pairs, what was used last ahead. -/
def gotS (k : Int) (l : List (Int × Int)) : Option Int := (l.find? fun p => decide (p.1 = k)).map (·.2)
def stepS (room : Int) (l : List (Int × Int)) (x : S30) : List (Int × Int) :=
  match gotS x.f1 l with
  | some v => (x.f1, if x.f0 = 1 then v else x.f2) :: l.filter (fun p => !decide (p.1 = x.f1))
  | none => if x.f0 = 0 then (x.f1, x.f2) :: (if room ≤ (l.length : Int) then l.dropLast else l) else l
def ansS (l : List (Int × Int)) (x : S30) : S32 :=
  if x.f0 = 1 then match gotS x.f1 l with | some v => ⟨true, v⟩ | none => ⟨false, 0⟩ else ⟨false, 0⟩
def runS (room : Int) : List (Int × Int) → List S30 → List S32
  | _, [] => []
  | l, x :: r => ansS l x :: runS room (stepS room l x) r
def bitS (l : List S30) : Bool := l.all fun x => decide (x.f0 = 0 ∨ x.f0 = 1)
def spec_Cache.f (a0 : Int) (l1 : List S30) : Option (List S32) := if 1 ≤ a0 ∧ l1.length < 1000000 ∧ bitS l1 = true then some (runS a0 [] l1) else none
/-- the place of a key among keys, the last one -/
def atK (ks : List Int) (k : Int) : Nat → Int
  | 0 => -1
  | n + 1 => if ks[n]? = some k then (n : Int) else atK ks k n
theorem atK_none {ks : List Int} {k : Int} (h : k ∉ ks) : ∀ n, atK ks k n = -1
  | 0 => rfl
  | n + 1 => by
    unfold atK
    rw [if_neg (fun e => h (List.mem_of_getElem? e))]
    exact atK_none h n
theorem atK_mid (B A : List Int) (k : Int) (hA : k ∉ A) : ∀ n, n ≤ (B ++ k :: A).length → B.length < n → atK (B ++ k :: A) k n = (B.length : Int)
  | 0, _, h => by omega
  | n + 1, hn, h => by
    unfold atK
    by_cases g : n = B.length
    · subst g
      rw [if_pos (by simp)]
    · rw [if_neg, atK_mid B A k hA n (by omega) (by omega)]
      intro e
      rw [List.getElem?_append_right (by omega)] at e
      obtain ⟨m, hm⟩ : ∃ m, n - B.length = m + 1 := ⟨n - B.length - 1, by omega⟩
      rw [hm, List.getElem?_cons_succ] at e
      exact hA (List.mem_of_getElem? e)
def keysR (l : List (Int × Int)) : List Int := (l.map (·.1)).reverse
def valsR (l : List (Int × Int)) : List Int := (l.map (·.2)).reverse
theorem gotS_none {k : Int} {l : List (Int × Int)} (h : gotS k l = none) : k ∉ keysR l := by
  unfold gotS at h
  rw [Option.map_eq_none_iff, List.find?_eq_none] at h
  unfold keysR
  rw [List.mem_reverse, List.mem_map]
  rintro ⟨p, hp, rfl⟩
  exact h p hp (by simp)
theorem gotS_split {k v : Int} {l : List (Int × Int)} (hn : (l.map (·.1)).Nodup) (h : gotS k l = some v) : ∃ A B, l = A ++ (k, v) :: B ∧ k ∉ A.map (·.1) ∧ k ∉ B.map (·.1) ∧ l.filter (fun p => !decide (p.1 = k)) = A ++ B := by
  unfold gotS at h
  rw [Option.map_eq_some_iff] at h
  obtain ⟨p, hp, rfl⟩ := h
  have h1 := List.find?_some hp
  have h2 := List.mem_of_find?_eq_some hp
  have e : p.1 = k := of_decide_eq_true h1
  obtain ⟨A, B, rfl⟩ := List.append_of_mem h2
  rw [List.map_append, List.map_cons] at hn
  have h3 := List.perm_middle.nodup_iff.1 hn
  rw [List.nodup_cons, List.mem_append] at h3
  have hA : k ∉ A.map (·.1) := fun z => h3.1 (.inl (e ▸ z))
  have hB : k ∉ B.map (·.1) := fun z => h3.1 (.inr (e ▸ z))
  refine ⟨A, B, by rw [← e], hA, hB, ?_⟩
  rw [List.filter_append, List.filter_cons_of_neg (by simp [e]), List.filter_eq_self.2, List.filter_eq_self.2]
  · intro q hq; simp; exact fun z => hB (z ▸ List.mem_map_of_mem (f := fun x : Int × Int => x.1) hq)
  · intro q hq; simp; exact fun z => hA (z ▸ List.mem_map_of_mem (f := fun x : Int × Int => x.1) hq)
/-- what the loop finds, where the key is -/
theorem found {k v : Int} {l : List (Int × Int)} (hn : (l.map (·.1)).Nodup) (h : gotS k l = some v) : ∃ n : Nat, atK (keysR l) k (keysR l).length = (n : Int) ∧ n < (keysR l).length ∧ (keysR l).length = l.length ∧ (valsR l).length = l.length ∧ (valsR l)[n]? = some v ∧
    (∀ u : Int, (keysR l).take n ++ (keysR l).drop (n + 1) ++ [k] = keysR ((k, u) :: l.filter (fun p => !decide (p.1 = k))) ∧ (valsR l).take n ++ (valsR l).drop (n + 1) ++ [u] = valsR ((k, u) :: l.filter (fun p => !decide (p.1 = k)))) ∧
    (∀ u : Int, (((k, u) :: l.filter (fun p => !decide (p.1 = k))).map (·.1)).Nodup ∧ ((k, u) :: l.filter (fun p => !decide (p.1 = k))).length = l.length) := by
  obtain ⟨A, B, rfl, hA, hB, hf⟩ := gotS_split hn h
  rw [hf]
  have e1 : keysR (A ++ (k, v) :: B) = (B.map (·.1)).reverse ++ k :: (A.map (·.1)).reverse := by simp [keysR]
  have e2 : valsR (A ++ (k, v) :: B) = (B.map (·.2)).reverse ++ v :: (A.map (·.2)).reverse := by simp [valsR]
  have hl : (keysR (A ++ (k, v) :: B)).length = (A ++ (k, v) :: B).length := by simp [keysR]; omega
  refine ⟨B.length, ?_, ?_, hl, by simp [valsR]; omega, ?_, ?_, ?_⟩
  · rw [e1]
    have := atK_mid (B.map (·.1)).reverse (A.map (·.1)).reverse k (by simpa using hA) _ (Nat.le_refl _) (by simp)
    rw [this]; simp
  · rw [hl]; simp; omega
  · rw [e2, List.getElem?_append_right (by simp)]; simp
  · intro u
    constructor
    · rw [e1, List.take_append_of_le_length (by simp), List.take_of_length_le (by simp), List.drop_append]
      simp [keysR]
    · rw [e2, List.take_append_of_le_length (by simp), List.take_of_length_le (by simp), List.drop_append]
      simp [valsR]
  · intro u
    rw [List.map_append, List.map_cons] at hn
    have := List.perm_middle.nodup_iff.1 hn
    constructor
    · simpa using this
    · simp; omega
theorem notfound {k : Int} {l : List (Int × Int)} (h : gotS k l = none) : atK (keysR l) k (keysR l).length = -1 := atK_none (gotS_none h) _
theorem gotlt {W : World} {g : Nat} {o : Obj} (h : W.heap[g]? = some o) : g < W.heap.size := by
  obtain ⟨h, _⟩ := Array.getElem?_eq_some_iff.1 h
  exact h
theorem cut18 {Q : Exit → Act → World → Prop} (t : Nat → Value) (w : World) (ks : List Int) (A : Option Addr) (cap n : Nat) (h5 : t 5 = .slice A ks.length cap) (h9 : t 9 = .int .i64 (n : Int)) (hc : ks.length ≤ cap) (hC : Kd.C (Kd.int .i64) w A ks.length ks) (hlt : n < ks.length) (hl : ks.length < 1000000)
    (hQ : ∀ t' W', Below w.heap.size w W' → (∀ j, j ∉ [5, 59, 60, 61, 62, 63, 64, 65, 66, 67, 68] → t' j = t j) → CS W' (t' 5) (ks.take n ++ ks.drop (n + 1)) → Q .normal (mk128 t') W') : (Code.region 18 ops18 true).wp Try.prog Q (mk128 t) w := by
  obtain ⟨i, hi, hs⟩ := elem_int
  obtain ⟨T1, T2, _⟩ := print_take_of (P := Try.prog) (Value.int .i64) (0 : Int) 40 3 .i64 Try.underlying40 hi hs A cap ks (n : Int) (by omega) (by omega) hc
  obtain ⟨A', D1, D2, _⟩ := print_drop_of (P := Try.prog) (Value.int .i64) (0 : Int) 40 3 .i64 Try.underlying40 hi hs A cap ks ((n : Int) + 1) (by omega) (by omega) hc
  rw [show ((n : Int)).toNat = n from by omega] at T1 T2
  rw [show ((n : Int) + 1).toNat = n + 1 from by omega] at D1 D2
  exact reg18 t w ks A cap n _ _ h5 h9 hc hC hlt hl T1 rfl (Kd.C_of_reads (T2 w (Kd.reads_of_C hC))) A' D1 rfl (Kd.C_of_reads (D2 w (Kd.reads_of_C hC))) hQ
theorem cut19 {Q : Exit → Act → World → Prop} (t : Nat → Value) (w : World) (ks : List Int) (A : Option Addr) (cap n : Nat) (h5 : t 6 = .slice A ks.length cap) (h9 : t 9 = .int .i64 (n : Int)) (hc : ks.length ≤ cap) (hC : Kd.C (Kd.int .i64) w A ks.length ks) (hlt : n < ks.length) (hl : ks.length < 1000000)
    (hQ : ∀ t' W', Below w.heap.size w W' → (∀ j, j ∉ [6, 69, 70, 71, 72, 73, 74, 75, 76, 77, 78] → t' j = t j) → CS W' (t' 6) (ks.take n ++ ks.drop (n + 1)) → Q .normal (mk128 t') W') : (Code.region 19 ops19 true).wp Try.prog Q (mk128 t) w := by
  obtain ⟨i, hi, hs⟩ := elem_int
  obtain ⟨T1, T2, _⟩ := print_take_of (P := Try.prog) (Value.int .i64) (0 : Int) 40 3 .i64 Try.underlying40 hi hs A cap ks (n : Int) (by omega) (by omega) hc
  obtain ⟨A', D1, D2, _⟩ := print_drop_of (P := Try.prog) (Value.int .i64) (0 : Int) 40 3 .i64 Try.underlying40 hi hs A cap ks ((n : Int) + 1) (by omega) (by omega) hc
  rw [show ((n : Int)).toNat = n from by omega] at T1 T2
  rw [show ((n : Int) + 1).toNat = n + 1 from by omega] at D1 D2
  exact reg19 t w ks A cap n _ _ h5 h9 hc hC hlt hl T1 rfl (Kd.C_of_reads (T2 w (Kd.reads_of_C hC))) A' D1 rfl (Kd.C_of_reads (D2 w (Kd.reads_of_C hC))) hQ
/-- a row without its first -/
theorem drop1 {w : World} {A : Option Addr} {cap : Nat} {ks : List Int} (h : 1 ≤ ks.length) (hc : ks.length ≤ cap) (hC : Kd.C (Kd.int .i64) w A ks.length ks) : Kd.C (Kd.int .i64) w (if cap = 1 then A else Option.map (fun x => (⟨x.block, x.off + 1, none⟩ : Addr)) A) (ks.length - 1) (ks.drop 1) :=
  Kd.C_of_reads (ReadsOf.drop_ (Kd.reads_of_C (d := (0 : Int)) hC) 1 h hc)
theorem drop1_T {w : World} {A : Option Addr} (cap : Nat) (hT : ∀ ad, A = some ad → ∃ cells, w.heap[ad.block]? = some (.cells cells 3 (0, 0))) : ∀ ad, (if cap = 1 then A else Option.map (fun x => (⟨x.block, x.off + 1, none⟩ : Addr)) A) = some ad → ∃ cells, w.heap[ad.block]? = some (.cells cells 3 (0, 0)) := by
  intro ad e
  split at e
  · exact hT ad e
  · obtain ⟨b, hb, rfl⟩ := Option.map_eq_some_iff.1 e
    exact hT b hb
theorem T_below {w w1 : World} {A : Option Addr} (hT : ∀ ad, A = some ad → ∃ cells, w.heap[ad.block]? = some (.cells cells 3 (0, 0))) (hB : Below w.heap.size w w1) : ∀ ad, A = some ad → ∃ cells, w1.heap[ad.block]? = some (.cells cells 3 (0, 0)) := by
  intro ad ha
  obtain ⟨cells, hc⟩ := hT ad ha
  exact ⟨cells, (hB.block _ (gotlt hc)).trans hc⟩
theorem infoGotS : (Try.prog.info? 32).map (fun i => (i.zero, i.size, i.bytes)) = some (some (.agg #[.bool false, .int .i64 0]), 2, 16) := by kernel_rfl
/-- one more answer -/
theorem append_gotS {ops : Array Oper} {rest : List Oper} {o : Oper} {a : Act} {Q : Exit → Act → World → Prop} {w0 W : World} (hgd : o.guard = none) (s x : Operand) (ho : o.op = .call { callee := .builtin .append, args := #[s, x], argTypes := #[26, 26] })
    (v : Value) (xs : List S32) (p : S32) (hs : a.eval s = v) (hx : a.eval x = .slice (some ⟨W.heap.size, 0, none⟩) 1 1)
    (HO : Kd.R k32 32 W w0.heap.size (fun _ => True) v xs) (HB : Below w0.heap.size w0 W) (hl : xs.length < 1000000)
    (h : ∀ v1 w1, Kd.R k32 32 w1 w0.heap.size (fun _ => True) v1 (xs ++ [p]) → Below w0.heap.size w0 w1 → W.grownBy w1 v.ownBlock → wpList Try.prog ops Q rest (a.put o.dst v1) w1) :
    wpList Try.prog ops Q (o :: rest) a (W.alloc (.cells #[.bool p.f0, .int .i64 p.f1] 32)) := by
  have hE : (Kd.E k32) = [] := rfl
  exact Kd.R_append k32 (w0 := w0) w0.heap.size hgd s x 26 32 (.agg #[.bool false, .int .i64 0]) 16 ho Try.underlying26 infoGotS rfl (by decide) (by decide) v xs p [.bool p.f0, .int .i64 p.f1] (fun _ => True) (fun _ => False) hs hx (k32_mkM _ _ _ p) (fun _ hk => hk.elim) (fun _ _ => trivial) HO HB HB.size (by omega) (fun v1 w1 h1 h2 h3 _ => h v1 w1 h1 h2 h3)
theorem keysR_len (l : List (Int × Int)) : (keysR l).length = l.length := by simp [keysR]
theorem valsR_len (l : List (Int × Int)) : (valsR l).length = l.length := by simp [valsR]
theorem keysR_trim (p : Int × Int) (l : List (Int × Int)) (h : 1 ≤ l.length) : (keysR (p :: l)).drop 1 = keysR (p :: l.dropLast) := by
  obtain ⟨a, z, rfl⟩ : ∃ a z, l = a ++ [z] := ⟨l.dropLast, l.getLast (by rintro rfl; simp at h), (List.dropLast_concat_getLast _).symm⟩
  simp [keysR]
theorem valsR_trim (p : Int × Int) (l : List (Int × Int)) (h : 1 ≤ l.length) : (valsR (p :: l)).drop 1 = valsR (p :: l.dropLast) := by
  obtain ⟨a, z, rfl⟩ : ∃ a z, l = a ++ [z] := ⟨l.dropLast, l.getLast (by rintro rfl; simp at h), (List.dropLast_concat_getLast _).symm⟩
  simp [valsR]
theorem nodup_new {k u : Int} {l : List (Int × Int)} (hn : (l.map (·.1)).Nodup) (h : gotS k l = none) : (((k, u) :: l).map (·.1)).Nodup := by
  rw [List.map_cons, List.nodup_cons]
  exact ⟨fun z => gotS_none h (by unfold keysR; exact List.mem_reverse.2 z), hn⟩
theorem nodup_trim {p : Int × Int} {l : List (Int × Int)} (hn : ((p :: l).map (·.1)).Nodup) : ((p :: l.dropLast).map (·.1)).Nodup :=
  List.Nodup.sublist (List.Sublist.map _ (List.Sublist.cons_cons p (List.dropLast_sublist l))) hn
/-- a row of whole numbers is not touched by one more answer: the blocks are of two kinds -/
theorem cs_stays {W w1 : World} {v : Value} {base : Nat} {ok : Nat → Prop} {out : List S32} (HO : Kd.R k32 32 W base ok v out) (hg : W.grownBy w1 v.ownBlock) {A : Option Addr} {n : Nat} {xs : List Int} (hC : Kd.C (Kd.int .i64) W A n xs) (hT : ∀ ad, A = some ad → ∃ cells, W.heap[ad.block]? = some (.cells cells 3 (0, 0))) :
    Kd.C (Kd.int .i64) w1 A n xs ∧ ∀ ad, A = some ad → ∃ cells, w1.heap[ad.block]? = some (.cells cells 3 (0, 0)) := by
  obtain ⟨inner, ho⟩ := Kd.R_own HO
  have key : ∀ ad, A = some ad → w1.heap[ad.block]? = W.heap[ad.block]? := by
    intro ad ha
    obtain ⟨cells, hc⟩ := hT ad ha
    refine hg.block ad.block (gotlt hc) (fun e => ?_)
    obtain ⟨cells', hc'⟩ := own_typed ho ad.block e.symm
    rw [hc] at hc'
    injection hc' with hc'
    injection hc' with _ h3 _
    exact absurd h3 (by decide)
  refine ⟨?_, fun ad ha => ?_⟩
  · have h := Kd.reads_of_C (d := (0 : Int)) hC
    refine Kd.C_of_reads (d := (0 : Int)) ⟨h.1, h.2.1, fun hn => ?_⟩
    obtain ⟨ad, ha, hc⟩ := h.2.2 hn
    refine ⟨ad, ha, fun j hj => ?_⟩
    rw [← hc j hj]
    have hb : (ad.add j).block = ad.block := by unfold Addr.add; split <;> rfl
    unfold World.cell?
    rw [hb, key ad ha]
  · rw [key ad ha]; exact hT ad ha
theorem w64_ {x : Int} (h0 : -9223372036854775808 ≤ x) (h1 : x ≤ 9223372036854775807) : wrap64 x = x := by
  unfold wrap64
  omega
theorem rd_get {ks : List Int} {j : Nat} (h : j < ks.length) : ks[j]? = some (rd ks (j : Int)) := by
  simp [rd, List.getD_eq_getElem?_getD, List.getElem?_eq_getElem h]
theorem atK_hit {ks : List Int} {k : Int} {j : Nat} (h : j < ks.length) (e : rd ks (j : Int) = k) : atK ks k (j + 1) = (j : Int) := by
  unfold atK
  rw [rd_get h, e, if_pos rfl]
theorem atK_miss {ks : List Int} {k : Int} {j : Nat} (h : j < ks.length) (e : ¬ rd ks (j : Int) = k) : atK ks k (j + 1) = atK ks k j := by
  rw [atK, rd_get h, if_neg (fun z => e (Option.some.inj z))]
theorem CS_nil (w : World) : Kd.C (Kd.int .i64) w none 0 [] := ⟨rfl, by decide, fun h => absurd h (Nat.lt_irrefl 0)⟩
set_option maxHeartbeats 8000000 in
set_option maxRecDepth 100000 in
theorem spec_Cache.calls (a0 : Int) (A1 : Option Addr) (c1 : Nat) (l1 : List S30) (r : List S32) (w : World) (hr1 : Kd.C k30 w A1 l1.length l1) (hc1 : l1.length ≤ c1) (h : spec_Cache.f a0 l1 = some r) :
    Calls Try.prog 9 #[.int .i64 a0, .slice A1 l1.length c1] w fun e w' => ∃ v0_, e = .returned v0_ ∧ Kd.R k32 32 w' w.heap.size (fun _ => True) v0_ r ∧ Below w.heap.size w w' := by
  unfold spec_Cache.f at h
  by_cases g : 1 ≤ a0 ∧ l1.length < 1000000 ∧ bitS l1 = true
  rotate_left
  · rw [if_neg g] at h; cases h
  rw [if_pos g] at h
  obtain ⟨ha, hl, hbit⟩ := g
  have hrr : runS a0 [] l1 = r := Option.some.inj h
  clear h
  have HR1 := Aside0.mk hr1
  clear hr1
  go_enter Try.func9, Try.ntmps9
  go_wp2
  have HB0 := Aside0.mk (Below.refl w.heap.size w)
  have hbits : ∀ x ∈ l1, x.f0 = 0 ∨ x.f0 = 1 := fun x hx => of_decide_eq_true (List.all_eq_true.1 hbit x hx)
  have HBT := Aside0.mk hbits
  clear hbits hbit
  go_loopw [5, 6, 7, 8] (fun v5 v6 v7 v8 wr => ∃ (k : Nat) (l : List (Int × Int)) (out : List S32), k ≤ l1.length ∧ v8 = .int .i64 k ∧ Aside0 (out.length = k) ∧ Aside0 (out ++ runS a0 l (l1.drop k) = r) ∧ Aside0 ((l.map (·.1)).Nodup) ∧ Aside0 ((l.length : Int) ≤ a0 ∧ l.length ≤ k) ∧ Aside0 (CS wr v5 (keysR l)) ∧ Aside0 (CS wr v6 (valsR l)) ∧ Aside0 (Kd.R k32 32 wr w.heap.size (fun _ => True) v7 out) ∧ Aside0 (Below w.heap.size w wr))
    (fun _ _ _ v _ => l1.length - (intOf v).toNat)
  case atStart => exact ⟨0, [], [], Nat.zero_le _, rfl, ⟨rfl⟩, ⟨hrr⟩, ⟨List.nodup_nil⟩, ⟨by simp; omega, Nat.le_refl _⟩, ⟨⟨none, 0, rfl, Nat.le_refl _, CS_nil _, fun _ h => nomatch h⟩⟩, ⟨⟨none, 0, rfl, Nat.le_refl _, CS_nil _, fun _ h => nomatch h⟩⟩, ⟨Kd.R_nil _ _ _ _ _⟩, HB0⟩
  case round =>
    clear HB0 hrr
    obtain ⟨k, l, out, hk, rfl, HL, HE, HN, HZ, H5, H6, HO, HB⟩ := hrel
    by_cases hlt : k < l1.length
    · obtain ⟨ad, e1, hx0, hx1, hx2⟩ := at_T30 (Kd.C_below HR1.out HB.out) (k : Int) (by omega) (by omega)
      cases e1
      have hrd : rd_T30 l1 (k : Int) = l1[k] := by simp [rd_T30, List.getD_eq_getElem?_getD, List.getElem?_eq_getElem hlt]
      rw [hrd, show ((k : Int)).toNat = k from by omega] at hx0 hx1 hx2
      clear hrd
      have HD := Aside0.mk (List.drop_eq_getElem_cons hlt)
      have hbk := HBT.out l1[k] (List.getElem_mem hlt)
      obtain ⟨x, hx⟩ : ∃ y, y = l1[k] := ⟨_, rfl⟩
      rw [← hx] at hx0 hx1 hx2 hbk HD
      replace hx := Aside0.mk hx
      obtain ⟨A5, c5, e5, hc5, hC5, hT5⟩ := H5.out
      obtain ⟨A6, c6, e6, hc6, hC6, hT6⟩ := H6.out
      subst e5 e6
      have HC5 := Aside0.mk hC5
      have HC6 := Aside0.mk hC6
      have HT5 := Aside0.mk hT5
      have HT6 := Aside0.mk hT6
      have Hc5 := Aside0.mk hc5
      have Hc6 := Aside0.mk hc6
      clear hC5 hC6 H5 H6 hc5 hc6 hT5 hT6
      obtain ⟨ks, hks⟩ : ∃ y, y = keysR l := ⟨_, rfl⟩
      obtain ⟨vs, hvs⟩ : ∃ y, y = valsR l := ⟨_, rfl⟩
      rw [← hks] at HC5 Hc5 ⊢
      rw [← hvs] at HC6 Hc6 ⊢
      have HKS := Aside0.mk hks
      have HVS := Aside0.mk hvs
      clear hks hvs
      have hkl : ks.length < 1000000 := by rw [HKS.out]; have := HZ.out.2; simp [keysR]; omega
      have hvl : vs.length < 1000000 := by rw [HVS.out]; have := HZ.out.2; simp [valsR]; omega
      generalize wr = wo at *
      have Hx0 := Aside0.mk hx0
      have Hx2 := Aside0.mk hx2
      clear hx0 hx2
      go_wp2
      go_loopw [9, 10] (fun v9 v10 wr => ∃ (j q : Nat), j ≤ ks.length ∧ v10 = .int .i64 j ∧ v9 = .int .i64 (atK ks x.f1 j) ∧ wr = wo.drewN q) (fun _ v _ => ks.length - (intOf v).toNat)
      case atStart => exact ⟨0, 0, Nat.zero_le _, rfl, rfl, rfl⟩
      case round =>
        obtain ⟨j, q, hj, rfl, rfl, hW1⟩ := hrel
        have hxw : wr.cell? ⟨(ad.add (k * 3)).block, (ad.add (k * 3)).off + 1, none⟩ = some (.int .i64 x.f1) := by rw [hW1]; exact hx1
        replace hW1 := Aside0.mk hW1
        by_cases hlj : j < ks.length
        · obtain ⟨ad5, e5, hk5⟩ := Kd.at_int HC5.out (j : Int) (by omega) (by omega)
          cases e5
          rw [show ((j : Int)).toNat = j from by omega] at hk5
          replace hk5 : wr.cell? (ad5.add j) = some (.int .i64 (rd ks (j : Int))) := by rw [hW1.out]; exact hk5
          by_cases hq : rd ks (j : Int) = x.f1
          · have hq1 : (rd ks (j : Int) == x.f1) = true := beq_iff_eq.2 hq
            have hat := Aside0.mk (atK_hit hlj hq)
            replace hq := Aside0.mk hq
            go_wp2
            go_region
            all_goals go_wp2
            all_goals go_roundw
            case rel => exact ⟨j + 1, q + 1, by omega, by go_num, by rw [hat.out], by rw [hW1.out]; exact World.drewN_drewN wo q 1⟩
            case measure => simp [intOf]; omega
          · have hq1 : (rd ks (j : Int) == x.f1) = false := beq_eq_false_iff_ne.2 hq
            have hat := Aside0.mk (atK_miss hlj hq)
            replace hq := Aside0.mk hq
            go_wp2
            go_region
            all_goals go_wp2
            all_goals go_roundw
            case rel => exact ⟨j + 1, q + 1, by omega, by go_num, by rw [hat.out], by rw [hW1.out]; exact World.drewN_drewN wo q 1⟩
            case measure => simp [intOf]; omega
        · obtain rfl : j = ks.length := by omega
          clear hlj hj
          go_upto_region 13 with (fail)
          have HBq := Aside0.mk (show Below wo.heap.size wo (wr.alloc (.cells #[Value.bool false, Value.int .i64 0] 32)) from below_alloc (by rw [hW1.out]; exact pw_below_drewN (Below.refl _ _) q) _)
          have hgb : (wr.alloc (.cells #[Value.bool false, Value.int .i64 0] 32)).heap[wr.heap.size]? = some (.cells #[Value.bool false, Value.int .i64 0] 32 (0, 0)) := (MapKept.heap_alloc wr _).1
          have hgs : wo.heap.size ≤ wr.heap.size := by rw [hW1.out]; exact Nat.le_refl _
          clear hxw hW1
          generalize hgw : wr.alloc (.cells #[Value.bool false, Value.int .i64 0] 32) = W2 at *
          generalize hgn : wr.heap.size = gb at *
          clear hgw hgn
          have HC5b := Aside0.mk (Kd.C_below HC5.out HBq.out)
          have HC6b := Aside0.mk (Kd.C_below HC6.out HBq.out)
          have HOb := Aside0.mk (Kd.R_below HO.out HBq.out)
          have HBb := Aside0.mk (HB.out.trans (HBq.out.mono HB.out.size))
          have y0 := (HBq.out.cell (World.block_lt_of_cell? wo _ Hx0.out)).trans Hx0.out
          have y1 := (HBq.out.cell (World.block_lt_of_cell? wo _ hx1)).trans hx1
          have y2 := (HBq.out.cell (World.block_lt_of_cell? wo _ Hx2.out)).trans Hx2.out
          have hga : (ad.add (k * 3)).block < gb := Nat.lt_of_lt_of_le (World.block_lt_of_cell? wo _ Hx0.out) hgs
          have gc0 : W2.cell? ⟨gb, 0, none⟩ = some (.bool false) := by simp [World.cell?, hgb]
          have gc1 : W2.cell? ⟨gb, 1, none⟩ = some (.int .i64 0) := by simp [World.cell?, hgb]
          have gf0 : W2.frozen? ⟨gb, 0, none⟩ = false := by simp [World.frozen?, hgb]
          have gf1 : W2.frozen? ⟨gb, 1, none⟩ = false := by simp [World.frozen?, hgb]
          have Hx1 := Aside0.mk hx1
          clear hx1
          cases hg : gotS x.f1 l with
          | some v =>
            obtain ⟨n, hat, hnl, hkz, hvz, hvn, hnew, hnew2⟩ := found HN.out hg
            rw [← HKS.out] at hat hnl hkz hnew
            rw [← HVS.out] at hvz hvn hnew
            obtain ⟨ad6, e6, z6⟩ := Kd.at_int HC6.out (n : Int) (by omega) (by omega)
            cases e6
            rw [show ((n : Int)).toNat = n from by omega] at z6
            have hrv : rd vs (n : Int) = v := by
              have := rd_get (ks := vs) (j := n) (by omega)
              rw [hvn] at this
              exact (Option.some.inj this).symm
            rw [hrv] at z6
            have y6 := (HBq.out.cell (World.block_lt_of_cell? wo _ z6)).trans z6
            have Hy6 := Aside0.mk z6
            clear z6
            have hnv : n < vs.length := by omega
            have HNEW := Aside0.mk hnew
            have HNEW2 := Aside0.mk hnew2
            have HG := Aside0.mk hg
            have HVZ := Aside0.mk (And.intro hkz hvz)
            clear hnew hnew2 hkz hvz hvn hrv
            replace hg := 0
            rw [hat]
            clear hat hg
            go_upto_region 16 with (fail)
            have hB3 : Below wo.heap.size wo ((W2.setCell ⟨gb, 0, none⟩ (.bool true)).setCell ⟨gb, 1, none⟩ (.int .i64 v)) := below_set (below_set HBq.out hgs) hgs
            have hg3 : ((W2.setCell ⟨gb, 0, none⟩ (.bool true)).setCell ⟨gb, 1, none⟩ (.int .i64 v)).heap[gb]? = some (.cells #[.bool true, .int .i64 v] 32 (0, 0)) := blk_put (blk_put hgb 0 _ rfl) 1 _ rfl
            generalize hw3 : (W2.setCell ⟨gb, 0, none⟩ (.bool true)).setCell ⟨gb, 1, none⟩ (.int .i64 v) = W3 at hB3 hg3 ⊢
            clear hw3 HC5b HC6b HOb HBb y0 y1 y2 y6 gc0 gc1 gf0 gf1 hgb HBq
            have HB3 := Aside0.mk hB3
            have HG3 := Aside0.mk hg3
            clear hB3 hg3
            have y0 := (HB3.out.cell (World.block_lt_of_cell? wo _ Hx0.out)).trans Hx0.out
            have y6 := (HB3.out.cell (World.block_lt_of_cell? wo _ Hy6.out)).trans Hy6.out
            rcases hbk with hf0 | hf0
            · rw [hf0] at y0
              have HF0 := Aside0.mk hf0
              clear hf0
              go_upto_region 18 with (fail)
              clear y0 y6
              refine at_mk rfl rfl ?_
              refine cut18 _ _ ks A5 c5 n rfl rfl Hc5.out (Kd.C_below HC5.out HB3.out) hnl hkl ?_
              intro t4 W4 hB4 hf4 hcs4
              have HB4 := Aside0.mk (HB3.out.trans (hB4.mono HB3.out.size))
              have HG4 := Aside0.mk ((hB4.block gb (gotlt HG3.out)).trans HG3.out)
              obtain ⟨A5b, c5b, f5, hc5b, hC5b, _⟩ := hcs4
              have f0 : t4 0 = .int .i64 a0 := hf4 0 (by decide)
              have f1 : t4 1 = .slice (some ad) l1.length c1 := hf4 1 (by decide)
              have f2 : t4 2 = undef := hf4 2 (by decide)
              have f3 : t4 3 = undef := hf4 3 (by decide)
              have f4 : t4 4 = .slice none 0 0 := hf4 4 (by decide)
              have f6 : t4 6 = .slice (some ad6) vs.length c6 := hf4 6 (by decide)
              have f7 : t4 7 = u7 := hf4 7 (by decide)
              have f8 : t4 8 = .int .i64 (k : Int) := hf4 8 (by decide)
              have f9 : t4 9 = .int .i64 (n : Int) := hf4 9 (by decide)
              have f11 : t4 11 = .pointer (some ⟨gb, 0, none⟩) := hf4 11 (by decide)
              have f12 : t4 12 = .int .i64 x.f2 := hf4 12 (by decide)
              have f127 : t4 127 = undef := hf4 127 (by decide)
              have HC5b := Aside0.mk hC5b
              have Hc5b := Aside0.mk hc5b
              clear hB4 hf4 hC5b hc5b HB3 HG3
              obtain ⟨ks2, hks2⟩ : ∃ y, y = ks.take n ++ ks.drop (n + 1) := ⟨_, rfl⟩
              rw [← hks2] at HC5b Hc5b f5
              have hkl2 : ks2.length < 1000000 := by rw [hks2]; simp; omega
              have HKS2 := Aside0.mk hks2
              clear hks2
              simp only [mk128_lit, f0, f1, f2, f3, f4, f6, f7, f8, f9, f11, f12, f127, f5]
              clear f0 f1 f2 f3 f4 f6 f7 f8 f9 f11 f12 f127 f5
              go_upto_region 19 with (fail)
              refine at_mk rfl rfl ?_
              refine cut19 _ _ vs (some ad6) c6 n rfl rfl Hc6.out (Kd.C_below HC6.out HB4.out) hnv hvl ?_
              intro t5 W5 hB5 hf5 hcs5
              have HB5 := Aside0.mk (HB4.out.trans (hB5.mono HB4.out.size))
              have HG5 := Aside0.mk ((hB5.block gb (gotlt HG4.out)).trans HG4.out)
              replace HC5b := Aside0.mk (Kd.C_below HC5b.out hB5)
              obtain ⟨A6b, c6b, f6, hc6b, hC6b, _⟩ := hcs5
              have f0 : t5 0 = .int .i64 a0 := hf5 0 (by decide)
              have f1 : t5 1 = .slice (some ad) l1.length c1 := hf5 1 (by decide)
              have f2 : t5 2 = undef := hf5 2 (by decide)
              have f3 : t5 3 = undef := hf5 3 (by decide)
              have f4 : t5 4 = .slice none 0 0 := hf5 4 (by decide)
              have f5 : t5 5 = .slice A5b ks2.length c5b := hf5 5 (by decide)
              have f7 : t5 7 = u7 := hf5 7 (by decide)
              have f8 : t5 8 = .int .i64 (k : Int) := hf5 8 (by decide)
              have f9 : t5 9 = .int .i64 (n : Int) := hf5 9 (by decide)
              have f11 : t5 11 = .pointer (some ⟨gb, 0, none⟩) := hf5 11 (by decide)
              have f12 : t5 12 = .int .i64 x.f2 := hf5 12 (by decide)
              have f127 : t5 127 = undef := hf5 127 (by decide)
              have HC6b := Aside0.mk hC6b
              have Hc6b := Aside0.mk hc6b
              clear hB5 hf5 hC6b hc6b HB4 HG4
              obtain ⟨vs2, hvs2⟩ : ∃ y, y = vs.take n ++ vs.drop (n + 1) := ⟨_, rfl⟩
              rw [← hvs2] at HC6b Hc6b f6
              have hvl2 : vs2.length < 1000000 := by rw [hvs2]; simp; omega
              have HVS2 := Aside0.mk hvs2
              clear hvs2
              simp only [mk128_lit, f0, f1, f2, f3, f4, f5, f7, f8, f9, f11, f12, f127, f6]
              clear f0 f1 f2 f3 f4 f5 f7 f8 f9 f11 f12 f127 f6
              have y0 := (HB5.out.cell (World.block_lt_of_cell? wo _ Hx0.out)).trans Hx0.out
              rw [HF0.out] at y0
              go_upto_region 21 with (fail)
              clear y0
              have y1 := (HB5.out.cell (World.block_lt_of_cell? wo _ Hx1.out)).trans Hx1.out
              refine at_mk rfl rfl ?_
              refine reg21 _ _ ks2 vs2 A5b A6b c5b c6b ad l1.length c1 k x.f1 x.f2 rfl rfl rfl rfl rfl HC5b.out HC6b.out hlt y1 hkl2 hvl2 ?_
              intro t6 W6 hB6 hf6 hcs6
              clear y1
              have HB6 := Aside0.mk (HB5.out.trans (hB6.mono HB5.out.size))
              have HG6 := Aside0.mk ((hB6.block gb (gotlt HG5.out)).trans HG5.out)
              obtain ⟨⟨A5c, c5c, f5, hc5c, hC5c, hT5c⟩, ⟨A6c, c6c, f6, hc6c, hC6c, hT6c⟩⟩ := hcs6
              have f0 : t6 0 = .int .i64 a0 := hf6 0 (by decide)
              have f1 : t6 1 = .slice (some ad) l1.length c1 := hf6 1 (by decide)
              have f2 : t6 2 = undef := hf6 2 (by decide)
              have f3 : t6 3 = undef := hf6 3 (by decide)
              have f4 : t6 4 = .slice none 0 0 := hf6 4 (by decide)
              have f7 : t6 7 = u7 := hf6 7 (by decide)
              have f8 : t6 8 = .int .i64 (k : Int) := hf6 8 (by decide)
              have f9 : t6 9 = .int .i64 (n : Int) := hf6 9 (by decide)
              have f11 : t6 11 = .pointer (some ⟨gb, 0, none⟩) := hf6 11 (by decide)
              have f12 : t6 12 = .int .i64 x.f2 := hf6 12 (by decide)
              have f127 : t6 127 = undef := hf6 127 (by decide)
              have HC5c := Aside0.mk hC5c
              have Hc5c := Aside0.mk hc5c
              have HC6c := Aside0.mk hC6c
              have Hc6c := Aside0.mk hc6c
              have HT5c := Aside0.mk hT5c
              have HT6c := Aside0.mk hT6c
              clear hT5c hT6c hB6 hf6 hC5c hc5c hC6c hc6c HB5 HG5
              obtain ⟨ks3, hks3⟩ : ∃ y, y = ks2 ++ [x.f1] := ⟨_, rfl⟩
              rw [← hks3] at HC5c Hc5c f5
              obtain ⟨vs3, hvs3⟩ : ∃ y, y = vs2 ++ [x.f2] := ⟨_, rfl⟩
              rw [← hvs3] at HC6c Hc6c f6
              replace hks3 := Aside0.mk (show ks3 = keysR ((x.f1, x.f2) :: l.filter (fun p => !decide (p.1 = x.f1))) from by rw [hks3, HKS2.out]; exact (HNEW.out _).1)
              replace hvs3 := Aside0.mk (show vs3 = valsR ((x.f1, x.f2) :: l.filter (fun p => !decide (p.1 = x.f1))) from by rw [hvs3, HVS2.out]; exact (HNEW.out _).2)
              have hroom : (ks3.length : Int) ≤ a0 := by rw [hks3.out, keysR_len, (HNEW2.out _).2]; exact HZ.out.1
              simp only [mk128_lit, f0, f1, f2, f3, f4, f7, f8, f9, f11, f12, f127, f5, f6]
              clear f0 f1 f2 f3 f4 f7 f8 f9 f11 f12 f127 f5 f6
              have y0 := (HB6.out.cell (World.block_lt_of_cell? wo _ Hx0.out)).trans Hx0.out
              rw [HF0.out] at y0
              have HO3 := Aside0.mk (Kd.R_below HO.out HB6.out)
              have HB3 := Aside0.mk (HB.out.trans (HB6.out.mono HB.out.size))
              go_wp2_with (first
                | ((with_reducible refine gate_builtin (b := .append) (xs := #[.tmp 123, .tmp 125]) rfl ?_); at_builtin; refine append_gotS (w0 := w) rfl (.tmp 123) (.tmp 125) rfl u7 out ⟨false, 0⟩ rfl rfl HO3.out HB3.out (by have := HL.out; omega) ?_; intro v4 w4 ho hb hg; have n0_ := Aside0.mk hb; have n1_ := Aside0.mk ho; have n2_ := Aside0.mk (cs_stays HO3.out hg HC5c.out HT5c.out); have n3_ := Aside0.mk (cs_stays HO3.out hg HC6c.out HT6c.out); clear ho hb hg))
              go_roundw
              case rel =>
                refine ⟨k + 1, (x.f1, x.f2) :: l.filter (fun p => !decide (p.1 = x.f1)), out ++ [⟨false, 0⟩], by omega, by go_num, ⟨by rw [List.length_append, HL.out]; rfl⟩, ⟨?_⟩, ⟨(HNEW2.out _).1⟩, ⟨by rw [(HNEW2.out _).2]; exact ⟨HZ.out.1, by have := HZ.out.2; omega⟩⟩, ⟨by rw [← hks3.out]; exact ⟨_, _, by first | rfl | rw [hk3], Hc5c.out, n2_.out⟩⟩, ⟨by rw [← hvs3.out]; exact ⟨_, _, by first | rfl | rw [hk3], Hc6c.out, n3_.out⟩⟩, n1_, n0_⟩
                rw [← HE.out, HD.out, List.append_assoc]
                simp [runS, stepS, ansS, HG.out, HF0.out]
              case measure => simp [intOf]; omega
            · rw [hf0] at y0
              have HF0 := Aside0.mk hf0
              clear hf0
              go_upto_region 18 with (fail)
              clear y0 y6
              refine at_mk rfl rfl ?_
              refine cut18 _ _ ks A5 c5 n rfl rfl Hc5.out (Kd.C_below HC5.out HB3.out) hnl hkl ?_
              intro t4 W4 hB4 hf4 hcs4
              have HB4 := Aside0.mk (HB3.out.trans (hB4.mono HB3.out.size))
              have HG4 := Aside0.mk ((hB4.block gb (gotlt HG3.out)).trans HG3.out)
              obtain ⟨A5b, c5b, f5, hc5b, hC5b, _⟩ := hcs4
              have f0 : t4 0 = .int .i64 a0 := hf4 0 (by decide)
              have f1 : t4 1 = .slice (some ad) l1.length c1 := hf4 1 (by decide)
              have f2 : t4 2 = undef := hf4 2 (by decide)
              have f3 : t4 3 = undef := hf4 3 (by decide)
              have f4 : t4 4 = .slice none 0 0 := hf4 4 (by decide)
              have f6 : t4 6 = .slice (some ad6) vs.length c6 := hf4 6 (by decide)
              have f7 : t4 7 = u7 := hf4 7 (by decide)
              have f8 : t4 8 = .int .i64 (k : Int) := hf4 8 (by decide)
              have f9 : t4 9 = .int .i64 (n : Int) := hf4 9 (by decide)
              have f11 : t4 11 = .pointer (some ⟨gb, 0, none⟩) := hf4 11 (by decide)
              have f12 : t4 12 = .int .i64 v := hf4 12 (by decide)
              have f127 : t4 127 = undef := hf4 127 (by decide)
              have HC5b := Aside0.mk hC5b
              have Hc5b := Aside0.mk hc5b
              clear hB4 hf4 hC5b hc5b HB3 HG3
              obtain ⟨ks2, hks2⟩ : ∃ y, y = ks.take n ++ ks.drop (n + 1) := ⟨_, rfl⟩
              rw [← hks2] at HC5b Hc5b f5
              have hkl2 : ks2.length < 1000000 := by rw [hks2]; simp; omega
              have HKS2 := Aside0.mk hks2
              clear hks2
              simp only [mk128_lit, f0, f1, f2, f3, f4, f6, f7, f8, f9, f11, f12, f127, f5]
              clear f0 f1 f2 f3 f4 f6 f7 f8 f9 f11 f12 f127 f5
              go_upto_region 19 with (fail)
              refine at_mk rfl rfl ?_
              refine cut19 _ _ vs (some ad6) c6 n rfl rfl Hc6.out (Kd.C_below HC6.out HB4.out) hnv hvl ?_
              intro t5 W5 hB5 hf5 hcs5
              have HB5 := Aside0.mk (HB4.out.trans (hB5.mono HB4.out.size))
              have HG5 := Aside0.mk ((hB5.block gb (gotlt HG4.out)).trans HG4.out)
              replace HC5b := Aside0.mk (Kd.C_below HC5b.out hB5)
              obtain ⟨A6b, c6b, f6, hc6b, hC6b, _⟩ := hcs5
              have f0 : t5 0 = .int .i64 a0 := hf5 0 (by decide)
              have f1 : t5 1 = .slice (some ad) l1.length c1 := hf5 1 (by decide)
              have f2 : t5 2 = undef := hf5 2 (by decide)
              have f3 : t5 3 = undef := hf5 3 (by decide)
              have f4 : t5 4 = .slice none 0 0 := hf5 4 (by decide)
              have f5 : t5 5 = .slice A5b ks2.length c5b := hf5 5 (by decide)
              have f7 : t5 7 = u7 := hf5 7 (by decide)
              have f8 : t5 8 = .int .i64 (k : Int) := hf5 8 (by decide)
              have f9 : t5 9 = .int .i64 (n : Int) := hf5 9 (by decide)
              have f11 : t5 11 = .pointer (some ⟨gb, 0, none⟩) := hf5 11 (by decide)
              have f12 : t5 12 = .int .i64 v := hf5 12 (by decide)
              have f127 : t5 127 = undef := hf5 127 (by decide)
              have HC6b := Aside0.mk hC6b
              have Hc6b := Aside0.mk hc6b
              clear hB5 hf5 hC6b hc6b HB4 HG4
              obtain ⟨vs2, hvs2⟩ : ∃ y, y = vs.take n ++ vs.drop (n + 1) := ⟨_, rfl⟩
              rw [← hvs2] at HC6b Hc6b f6
              have hvl2 : vs2.length < 1000000 := by rw [hvs2]; simp; omega
              have HVS2 := Aside0.mk hvs2
              clear hvs2
              simp only [mk128_lit, f0, f1, f2, f3, f4, f5, f7, f8, f9, f11, f12, f127, f6]
              clear f0 f1 f2 f3 f4 f5 f7 f8 f9 f11 f12 f127 f6
              have y0 := (HB5.out.cell (World.block_lt_of_cell? wo _ Hx0.out)).trans Hx0.out
              rw [HF0.out] at y0
              go_upto_region 21 with (fail)
              clear y0
              have y1 := (HB5.out.cell (World.block_lt_of_cell? wo _ Hx1.out)).trans Hx1.out
              refine at_mk rfl rfl ?_
              refine reg21 _ _ ks2 vs2 A5b A6b c5b c6b ad l1.length c1 k x.f1 v rfl rfl rfl rfl rfl HC5b.out HC6b.out hlt y1 hkl2 hvl2 ?_
              intro t6 W6 hB6 hf6 hcs6
              clear y1
              have HB6 := Aside0.mk (HB5.out.trans (hB6.mono HB5.out.size))
              have HG6 := Aside0.mk ((hB6.block gb (gotlt HG5.out)).trans HG5.out)
              obtain ⟨⟨A5c, c5c, f5, hc5c, hC5c, hT5c⟩, ⟨A6c, c6c, f6, hc6c, hC6c, hT6c⟩⟩ := hcs6
              have f0 : t6 0 = .int .i64 a0 := hf6 0 (by decide)
              have f1 : t6 1 = .slice (some ad) l1.length c1 := hf6 1 (by decide)
              have f2 : t6 2 = undef := hf6 2 (by decide)
              have f3 : t6 3 = undef := hf6 3 (by decide)
              have f4 : t6 4 = .slice none 0 0 := hf6 4 (by decide)
              have f7 : t6 7 = u7 := hf6 7 (by decide)
              have f8 : t6 8 = .int .i64 (k : Int) := hf6 8 (by decide)
              have f9 : t6 9 = .int .i64 (n : Int) := hf6 9 (by decide)
              have f11 : t6 11 = .pointer (some ⟨gb, 0, none⟩) := hf6 11 (by decide)
              have f12 : t6 12 = .int .i64 v := hf6 12 (by decide)
              have f127 : t6 127 = undef := hf6 127 (by decide)
              have HC5c := Aside0.mk hC5c
              have Hc5c := Aside0.mk hc5c
              have HC6c := Aside0.mk hC6c
              have Hc6c := Aside0.mk hc6c
              have HT5c := Aside0.mk hT5c
              have HT6c := Aside0.mk hT6c
              clear hT5c hT6c hB6 hf6 hC5c hc5c hC6c hc6c HB5 HG5
              obtain ⟨ks3, hks3⟩ : ∃ y, y = ks2 ++ [x.f1] := ⟨_, rfl⟩
              rw [← hks3] at HC5c Hc5c f5
              obtain ⟨vs3, hvs3⟩ : ∃ y, y = vs2 ++ [v] := ⟨_, rfl⟩
              rw [← hvs3] at HC6c Hc6c f6
              replace hks3 := Aside0.mk (show ks3 = keysR ((x.f1, v) :: l.filter (fun p => !decide (p.1 = x.f1))) from by rw [hks3, HKS2.out]; exact (HNEW.out _).1)
              replace hvs3 := Aside0.mk (show vs3 = valsR ((x.f1, v) :: l.filter (fun p => !decide (p.1 = x.f1))) from by rw [hvs3, HVS2.out]; exact (HNEW.out _).2)
              have hroom : (ks3.length : Int) ≤ a0 := by rw [hks3.out, keysR_len, (HNEW2.out _).2]; exact HZ.out.1
              simp only [mk128_lit, f0, f1, f2, f3, f4, f7, f8, f9, f11, f12, f127, f5, f6]
              clear f0 f1 f2 f3 f4 f7 f8 f9 f11 f12 f127 f5 f6
              have y0 := (HB6.out.cell (World.block_lt_of_cell? wo _ Hx0.out)).trans Hx0.out
              rw [HF0.out] at y0
              have gc0 : W6.cell? ⟨gb, 0, none⟩ = some (.bool true) := by simp [World.cell?, HG6.out]
              have gc1 : W6.cell? ⟨gb, 1, none⟩ = some (.int .i64 v) := by simp [World.cell?, HG6.out]
              have HO3 := Aside0.mk (Kd.R_below HO.out HB6.out)
              have HB3 := Aside0.mk (HB.out.trans (HB6.out.mono HB.out.size))
              go_wp2_with (first
                | ((with_reducible refine gate_builtin (b := .append) (xs := #[.tmp 119, .tmp 121]) rfl ?_); at_builtin; refine append_gotS (w0 := w) rfl (.tmp 119) (.tmp 121) rfl u7 out ⟨true, v⟩ rfl rfl HO3.out HB3.out (by have := HL.out; omega) ?_; intro v4 w4 ho hb hg; have n0_ := Aside0.mk hb; have n1_ := Aside0.mk ho; have n2_ := Aside0.mk (cs_stays HO3.out hg HC5c.out HT5c.out); have n3_ := Aside0.mk (cs_stays HO3.out hg HC6c.out HT6c.out); clear ho hb hg))
              go_roundw
              case rel =>
                refine ⟨k + 1, (x.f1, v) :: l.filter (fun p => !decide (p.1 = x.f1)), out ++ [⟨true, v⟩], by omega, by go_num, ⟨by rw [List.length_append, HL.out]; rfl⟩, ⟨?_⟩, ⟨(HNEW2.out _).1⟩, ⟨by rw [(HNEW2.out _).2]; exact ⟨HZ.out.1, by have := HZ.out.2; omega⟩⟩, ⟨by rw [← hks3.out]; exact ⟨_, _, by first | rfl | rw [hk3], Hc5c.out, n2_.out⟩⟩, ⟨by rw [← hvs3.out]; exact ⟨_, _, by first | rfl | rw [hk3], Hc6c.out, n3_.out⟩⟩, n1_, n0_⟩
                rw [← HE.out, HD.out, List.append_assoc]
                simp [runS, stepS, ansS, HG.out, HF0.out]
              case measure => simp [intOf]; omega
          | none =>
            have hat := notfound hg
            rw [← HKS.out] at hat
            have HG := Aside0.mk hg
            rw [hat]
            clear hat
            replace hg := 0
            clear hg
            have HB2 := HBq
            have HG2 := Aside0.mk hgb
            clear HBq hgb HC5b HC6b HOb HBb gf0 gf1
            rcases hbk with hf0 | hf0
            · rw [hf0] at y0
              have HF0 := Aside0.mk hf0
              clear hf0
              go_upto_region 21 with (fail)
              clear y0
              have y1 := (HB2.out.cell (World.block_lt_of_cell? wo _ Hx1.out)).trans Hx1.out
              refine at_mk rfl rfl ?_
              refine reg21 _ _ ks vs A5 A6 c5 c6 ad l1.length c1 k x.f1 x.f2 rfl rfl rfl rfl rfl (Kd.C_below HC5.out HB2.out) (Kd.C_below HC6.out HB2.out) hlt y1 hkl hvl ?_
              intro t6 W6 hB6 hf6 hcs6
              clear y1
              have HB6 := Aside0.mk (HB2.out.trans (hB6.mono HB2.out.size))
              have HG6 := Aside0.mk ((hB6.block gb (gotlt HG2.out)).trans HG2.out)
              obtain ⟨⟨A5c, c5c, f5, hc5c, hC5c, hT5c⟩, ⟨A6c, c6c, f6, hc6c, hC6c, hT6c⟩⟩ := hcs6
              have f0 : t6 0 = .int .i64 a0 := hf6 0 (by decide)
              have f1 : t6 1 = .slice (some ad) l1.length c1 := hf6 1 (by decide)
              have f2 : t6 2 = undef := hf6 2 (by decide)
              have f3 : t6 3 = undef := hf6 3 (by decide)
              have f4 : t6 4 = .slice none 0 0 := hf6 4 (by decide)
              have f7 : t6 7 = u7 := hf6 7 (by decide)
              have f8 : t6 8 = .int .i64 (k : Int) := hf6 8 (by decide)
              have f9 : t6 9 = .int .i64 (-1) := hf6 9 (by decide)
              have f11 : t6 11 = .pointer (some ⟨gb, 0, none⟩) := hf6 11 (by decide)
              have f12 : t6 12 = .int .i64 x.f2 := hf6 12 (by decide)
              have f127 : t6 127 = undef := hf6 127 (by decide)
              have HC5c := Aside0.mk hC5c
              have Hc5c := Aside0.mk hc5c
              have HC6c := Aside0.mk hC6c
              have Hc6c := Aside0.mk hc6c
              have HT5c := Aside0.mk hT5c
              have HT6c := Aside0.mk hT6c
              clear hT5c hT6c hB6 hf6 hC5c hc5c hC6c hc6c HB2 HG2
              obtain ⟨ks3, hks3⟩ : ∃ y, y = ks ++ [x.f1] := ⟨_, rfl⟩
              rw [← hks3] at HC5c Hc5c f5
              obtain ⟨vs3, hvs3⟩ : ∃ y, y = vs ++ [x.f2] := ⟨_, rfl⟩
              rw [← hvs3] at HC6c Hc6c f6
              replace hks3 := Aside0.mk (show ks3 = keysR ((x.f1, x.f2) :: l) from by rw [hks3, HKS.out]; simp [keysR])
              replace hvs3 := Aside0.mk (show vs3 = valsR ((x.f1, x.f2) :: l) from by rw [hvs3, HVS.out]; simp [valsR])
              have hk3 : ks3.length = l.length + 1 := by rw [hks3.out, keysR_len]; rfl
              simp only [mk128_lit, f0, f1, f2, f3, f4, f7, f8, f9, f11, f12, f127, f5, f6]
              clear f0 f1 f2 f3 f4 f7 f8 f9 f11 f12 f127 f5 f6
              by_cases htr : a0 ≤ (l.length : Int)
              · have hroom : a0 < (ks3.length : Int) := by omega
                have hv3 : vs3.length = l.length + 1 := by rw [hvs3.out, valsR_len]; rfl
                have HC5d := Aside0.mk (show Kd.C (Kd.int .i64) W6.drew (if c5c = 1 then A5c else Option.map (fun x => (⟨x.block, x.off + 1, none⟩ : Addr)) A5c) l.length (ks3.drop 1) from by have z := drop1 (by omega) Hc5c.out HC5c.out; rw [show ks3.length - 1 = l.length from by omega] at z; exact Kd.C_below z (below_drew (Below.refl _ _)))
                have HT5d := Aside0.mk (show ∀ ad, (if c5c = 1 then A5c else Option.map (fun x => (⟨x.block, x.off + 1, none⟩ : Addr)) A5c) = some ad → ∃ cells, W6.drew.heap[ad.block]? = some (.cells cells 3 (0, 0)) from drop1_T c5c HT5c.out)
                have HC6d := Aside0.mk (show Kd.C (Kd.int .i64) W6.drew (if c6c = 1 then A6c else Option.map (fun x => (⟨x.block, x.off + 1, none⟩ : Addr)) A6c) l.length (vs3.drop 1) from by have z := drop1 (by omega) Hc6c.out HC6c.out; rw [show vs3.length - 1 = l.length from by omega] at z; exact Kd.C_below z (below_drew (Below.refl _ _)))
                have HT6d := Aside0.mk (show ∀ ad, (if c6c = 1 then A6c else Option.map (fun x => (⟨x.block, x.off + 1, none⟩ : Addr)) A6c) = some ad → ∃ cells, W6.drew.heap[ad.block]? = some (.cells cells 3 (0, 0)) from drop1_T c6c HT6c.out)
                have hll : 1 ≤ l.length := by omega
                have hks4 := Aside0.mk (show ks3.drop 1 = keysR ((x.f1, x.f2) :: l.dropLast) from by rw [hks3.out]; exact keysR_trim _ _ hll)
                have hvs4 := Aside0.mk (show vs3.drop 1 = valsR ((x.f1, x.f2) :: l.dropLast) from by rw [hvs3.out]; exact valsR_trim _ _ hll)
                have hl4 := Aside0.mk (show (keysR ((x.f1, x.f2) :: l.dropLast)).length = l.length from by rw [keysR_len]; simp; omega)
                have hl4v := Aside0.mk (show (valsR ((x.f1, x.f2) :: l.dropLast)).length = l.length from by rw [valsR_len]; simp; omega)
                have Hc5d := Aside0.mk (show l.length ≤ c5c - 1 from by have := Hc5c.out; omega)
                have Hc6d := Aside0.mk (show l.length ≤ c6c - 1 from by have := Hc6c.out; omega)
                rw [hks4.out] at HC5d
                rw [hvs4.out] at HC6d
                replace HB6 := Aside0.mk (HB6.out.drew)
                replace HG6 := Aside0.mk (show W6.drew.heap[gb]? = some (.cells #[.bool false, .int .i64 0] 32 (0, 0)) from HG6.out)
                go_upto_region 23 with (fail)
                go_region
                generalize W6.drew = W6 at *
                generalize (if c5c = 1 then A5c else Option.map (fun x => (⟨x.block, x.off + 1, none⟩ : Addr)) A5c) = A5d at *
                generalize (if c6c = 1 then A6c else Option.map (fun x => (⟨x.block, x.off + 1, none⟩ : Addr)) A6c) = A6d at *
                have y0 := (HB6.out.cell (World.block_lt_of_cell? wo _ Hx0.out)).trans Hx0.out
                rw [HF0.out] at y0
                have HO3 := Aside0.mk (Kd.R_below HO.out HB6.out)
                have HB3 := Aside0.mk (HB.out.trans (HB6.out.mono HB.out.size))
                go_wp2_with (first
                  | ((with_reducible refine gate_builtin (b := .append) (xs := #[.tmp 123, .tmp 125]) rfl ?_); at_builtin; refine append_gotS (w0 := w) rfl (.tmp 123) (.tmp 125) rfl u7 out ⟨false, 0⟩ rfl rfl HO3.out HB3.out (by have := HL.out; omega) ?_; intro v4 w4 ho hb hg; have n0_ := Aside0.mk hb; have n1_ := Aside0.mk ho; have n2_ := Aside0.mk (cs_stays HO3.out hg HC5d.out HT5d.out); have n3_ := Aside0.mk (cs_stays HO3.out hg HC6d.out HT6d.out); clear ho hb hg))
                go_roundw
                case rel =>
                  refine ⟨k + 1, (x.f1, x.f2) :: l.dropLast, out ++ [⟨false, 0⟩], by omega, by go_num, ⟨by rw [List.length_append, HL.out]; rfl⟩, ⟨?_⟩, ⟨nodup_trim (nodup_new HN.out HG.out)⟩, ⟨by have := HZ.out; simp; omega⟩, ⟨⟨_, _, by rw [hl4.out], by rw [hl4.out]; exact Hc5d.out, by rw [hl4.out]; exact n2_.out.1, n2_.out.2⟩⟩, ⟨⟨_, _, by rw [hl4v.out], by rw [hl4v.out]; exact Hc6d.out, by rw [hl4v.out]; exact n3_.out.1, n3_.out.2⟩⟩, n1_, n0_⟩
                  rw [← HE.out, HD.out, List.append_assoc]
                  simp [runS, stepS, ansS, HG.out, HF0.out, htr]
                case measure => simp [intOf]; omega
              · have hroom : (ks3.length : Int) ≤ a0 := by omega
                have y0 := (HB6.out.cell (World.block_lt_of_cell? wo _ Hx0.out)).trans Hx0.out
                rw [HF0.out] at y0
                have HO3 := Aside0.mk (Kd.R_below HO.out HB6.out)
                have HB3 := Aside0.mk (HB.out.trans (HB6.out.mono HB.out.size))
                go_wp2_with (first
                  | ((with_reducible refine gate_builtin (b := .append) (xs := #[.tmp 123, .tmp 125]) rfl ?_); at_builtin; refine append_gotS (w0 := w) rfl (.tmp 123) (.tmp 125) rfl u7 out ⟨false, 0⟩ rfl rfl HO3.out HB3.out (by have := HL.out; omega) ?_; intro v4 w4 ho hb hg; have n0_ := Aside0.mk hb; have n1_ := Aside0.mk ho; have n2_ := Aside0.mk (cs_stays HO3.out hg HC5c.out HT5c.out); have n3_ := Aside0.mk (cs_stays HO3.out hg HC6c.out HT6c.out); clear ho hb hg))
                go_roundw
                case rel =>
                  refine ⟨k + 1, (x.f1, x.f2) :: l, out ++ [⟨false, 0⟩], by omega, by go_num, ⟨by rw [List.length_append, HL.out]; rfl⟩, ⟨?_⟩, ⟨nodup_new HN.out HG.out⟩, ⟨by have := HZ.out; simp; omega⟩, ⟨by rw [← hks3.out]; exact ⟨_, _, by first | rfl | rw [hk3], Hc5c.out, n2_.out⟩⟩, ⟨by rw [← hvs3.out]; exact ⟨_, _, by first | rfl | rw [hk3], Hc6c.out, n3_.out⟩⟩, n1_, n0_⟩
                  rw [← HE.out, HD.out, List.append_assoc]
                  simp [runS, stepS, ansS, HG.out, HF0.out, htr]
                case measure => simp [intOf]; omega
            · rw [hf0] at y0
              have HF0 := Aside0.mk hf0
              clear hf0
              have hroom : (ks.length : Int) ≤ a0 := by rw [HKS.out, keysR_len]; exact HZ.out.1
              clear y0 y1 gc0 gc1
              have y0 := (HB2.out.cell (World.block_lt_of_cell? wo _ Hx0.out)).trans Hx0.out
              rw [HF0.out] at y0
              have gc0 : W2.cell? ⟨gb, 0, none⟩ = some (.bool false) := by simp [World.cell?, HG2.out]
              have gc1 : W2.cell? ⟨gb, 1, none⟩ = some (.int .i64 0) := by simp [World.cell?, HG2.out]
              have HO3 := Aside0.mk (Kd.R_below HO.out HB2.out)
              have HB3 := Aside0.mk (HB.out.trans (HB2.out.mono HB.out.size))
              go_wp2_with (first
                | ((with_reducible refine gate_builtin (b := .append) (xs := #[.tmp 119, .tmp 121]) rfl ?_); at_builtin; refine append_gotS (w0 := w) rfl (.tmp 119) (.tmp 121) rfl u7 out ⟨false, 0⟩ rfl rfl HO3.out HB3.out (by have := HL.out; omega) ?_; intro v4 w4 ho hb hg; have n0_ := Aside0.mk hb; have n1_ := Aside0.mk ho; have n2_ := Aside0.mk (cs_stays HO3.out hg (Kd.C_below HC5.out HB2.out) (T_below HT5.out HB2.out)); have n3_ := Aside0.mk (cs_stays HO3.out hg (Kd.C_below HC6.out HB2.out) (T_below HT6.out HB2.out)); clear ho hb hg))
              go_roundw
              case rel =>
                refine ⟨k + 1, l, out ++ [⟨false, 0⟩], by omega, by go_num, ⟨by rw [List.length_append, HL.out]; rfl⟩, ⟨?_⟩, ⟨HN.out⟩, ⟨HZ.out.1, by have := HZ.out.2; omega⟩, ⟨by rw [← HKS.out]; exact ⟨_, _, by first | rfl | rw [hk3], Hc5.out, n2_.out⟩⟩, ⟨by rw [← HVS.out]; exact ⟨_, _, by first | rfl | rw [hk3], Hc6.out, n3_.out⟩⟩, n1_, n0_⟩
                rw [← HE.out, HD.out, List.append_assoc]
                simp [runS, stepS, ansS, HG.out, HF0.out]
              case measure => simp [intOf]; omega
    · obtain rfl : k = l1.length := by omega
      have hend := HE.out
      rw [List.drop_length] at hend
      simp only [runS, List.append_nil] at hend
      subst hend
      go_wp2
      go_ret
      exact ⟨_, rfl, HO.out, HB.out⟩

end Go.Proofs.Ytikjdoemkibadaa.PFnCache
