/- The machine side of laws.FnModelAdd: each function of this text answers what its Lean function answers (written for this claim by a program of this session over the kit's print; no condition beyond what each theorem says). -/
import Derived.Test.YtjglpjlbnmpdfaaGreatDoorOFnModelAddx0
namespace Go.Proofs.YtjglpjlbnmpdfaaGreatDoor.PFnModelAdd
open Go.RowKit Go.Proofs.YtjglpjlbnmpdfaaGreatDoorW.PrintWords Go.Proofs.YtjglpjlbnmpdfaaGreatDoorW.PrintLast Go.Proofs.YtjglpjlbnmpdfaaGreatDoorW.PrintMore
attribute [local go_sem] max2_int min2_int max_two min_two max_three min_three max_four min_four   -- for this text's walks alone
set_option linter.unusedVariables false
set_option linter.unusedSimpArgs false
theorem info9 : (Tryz.prog.info? 9).map (fun i => (i.zero, i.size, i.bytes)) = some (some (.string ⟨#[]⟩), 1, 16) := by kernel_rfl

/-! ### config_NewConfigFromText: function 72 -/
/-! A region that draws its order, by one invariant. -/
section
variable {P : Program} {ops : Array Oper} {Q : Exit → Act → World → Prop}
def unL : List Bool → Nat
  | [] => 0
  | b :: l => (if b = true then 0 else 1) + unL l
theorem unL_set : ∀ (l : List Bool) (i : Nat), l[i]? = some false → unL (l.set i true) + 1 = unL l
  | [], _, h => by simp at h
  | b :: l, 0, h => by
    simp at h
    subst h
    simp [unL]; omega
  | b :: l, i + 1, h => by
    have := unL_set l i (by simpa using h)
    simp only [List.set_cons_succ, unL]
    omega
theorem unL_zero : ∀ (l : List Bool) (i : Nat), unL l = 0 → l[i]? ≠ some false
  | [], _, _ => by simp
  | b :: l, 0, h => by
    intro e
    simp at e
    subst e
    simp [unL] at h
  | b :: l, i + 1, h => by
    simp only [List.getElem?_cons_succ]
    exact unL_zero l i (by unfold unL at h; omega)
theorem unL_le : ∀ (l : List Bool), unL l ≤ l.length
  | [] => Nat.le_refl _
  | b :: l => by
    have := unL_le l
    unfold unL
    simp only [List.length_cons]
    split <;> omega
/-- what has come up: number i -/
def hasL_ (l : Array Bool) (i : Nat) : Bool := l.getD i false
theorem hasL_set {l : Array Bool} {i : Nat} (hi : i < l.size) (j : Nat) : hasL_ (l.setIfInBounds i true) j = if j = i then true else hasL_ l j := by
  unfold hasL_
  simp only [Array.getD_eq_getD_getElem?, Array.getElem?_setIfInBounds]
  by_cases h : i = j
  · subst h; simp [hi]
  · rw [if_neg h, if_neg (fun e => h e.symm)]
theorem inv_any (J : Array Bool → Act → World → Prop) (T : List (List Nat))
    (hT : (List.range ops.size).map (fun i => match ops[i]? with | some o => o.after.toList.filterMap (fun e => if Region.binds .any e = true then some e.on else none) | none => []) = T)
    (hlow : (T.zipIdx.all fun p => p.1.all fun n => decide (n < p.2)) = true)
    (hstep : ∀ listed a w i, listed.size = ops.size → i < ops.size → hasL_ listed i = false → (∀ n ∈ T.getD i [], hasL_ listed n = true) → J listed a w → wpOp P ops Q i (J (listed.setIfInBounds i true)) a w)
    (hend : ∀ listed a w, listed.size = ops.size → (∀ i, i < ops.size → hasL_ listed i = true) → J listed a w → Q .normal a w) :
    ∀ (fuel : Nat) (listed : Array Bool) (a : Act) (w : World), listed.size = ops.size → unL listed.toList ≤ fuel → J listed a w → wpAny P .any ops Q fuel listed a w := by
  have hTi : ∀ i o, ops[i]? = some o → T.getD i [] = o.after.toList.filterMap (fun e => if Region.binds .any e = true then some e.on else none) := by
    intro i o ho
    have hi : i < ops.size := (Array.getElem?_eq_some_iff.1 ho).1
    rw [← hT, List.getD_eq_getElem?_getD, List.getElem?_map, List.getElem?_range hi]
    simp [ho]
  have hrd : ∀ (listed : Array Bool) (i : Nat), listed.size = ops.size → (i ∈ Region.ready .any ops listed ↔ i < ops.size ∧ hasL_ listed i = false ∧ ∀ n ∈ T.getD i [], hasL_ listed n = true) := by
    intro listed i hsz
    rw [mem_ready]
    constructor
    · rintro ⟨h1, o, ho, h2⟩
      have hi : i < ops.size := (Array.getElem?_eq_some_iff.1 ho).1
      refine ⟨hi, ?_, ?_⟩
      · unfold hasL_
        rw [Array.getD_eq_getD_getElem?] at h1 ⊢
        rw [Array.getElem?_eq_getElem (by omega)] at h1 ⊢
        exact h1
      · intro n hn
        rw [hTi i o ho, List.mem_filterMap] at hn
        obtain ⟨e, he, h3⟩ := hn
        by_cases hb : Region.binds .any e = true
        · rw [if_pos hb] at h3
          cases h3
          exact h2 e (by simpa using he) hb
        · rw [if_neg hb] at h3; cases h3
    · rintro ⟨hi, h1, h2⟩
      refine ⟨?_, ops[i], Array.getElem?_eq_getElem hi, ?_⟩
      · unfold hasL_ at h1
        rw [Array.getD_eq_getD_getElem?] at h1 ⊢
        rw [Array.getElem?_eq_getElem (by omega)] at h1 ⊢
        exact h1
      · intro e he hb
        refine h2 e.on ?_
        rw [hTi i _ (Array.getElem?_eq_getElem hi), List.mem_filterMap]
        exact ⟨e, by simpa using he, by rw [if_pos hb]⟩
  have hall : ∀ listed : Array Bool, listed.size = ops.size → Region.ready .any ops listed = [] → ∀ i, i < ops.size → hasL_ listed i = true := by
    intro listed hsz hr i
    induction i using Nat.strongRecOn with
    | ind i ih =>
      intro hi
      cases hb : hasL_ listed i with
      | true => rfl
      | false =>
        exfalso
        have : i ∈ Region.ready .any ops listed := by
          rw [hrd listed i hsz]
          refine ⟨hi, hb, fun n hn => ?_⟩
          have hlt : n < i := by
            have hlen : T.length = ops.size := by rw [← hT]; simp
            have h1 := List.all_eq_true.1 hlow (T.getD i [], i) (by
              rw [List.mem_zipIdx_iff_getElem?]
              simp only
              rw [List.getD_eq_getElem?_getD, List.getElem?_eq_getElem (by omega)]
              rfl)
            have h2 := List.all_eq_true.1 h1 n hn
            exact of_decide_eq_true h2
          exact ih n hlt (by omega)
        rw [hr] at this
        cases this
  intro fuel
  induction fuel with
  | zero =>
    intro listed a w hsz hun hJ
    have hd : ∀ i, i < ops.size → hasL_ listed i = true := by
      intro i hi
      cases hb : hasL_ listed i with
      | true => rfl
      | false =>
        exfalso
        refine unL_zero listed.toList i (by omega) ?_
        unfold hasL_ at hb
        rw [Array.getD_eq_getD_getElem?, Array.getElem?_eq_getElem (by omega)] at hb
        rw [Array.getElem?_toList, Array.getElem?_eq_getElem (by omega)]
        simpa using hb
    refine ⟨?_, hend listed a w hsz hd hJ⟩
    apply List.eq_nil_iff_forall_not_mem.2
    intro i hi
    obtain ⟨h1, h2, _⟩ := (hrd listed i hsz).1 hi
    rw [hd i h1] at h2
    cases h2
  | succ fuel ih =>
    intro listed a w hsz hun hJ
    refine ⟨fun hr => hend listed a w hsz (hall listed hsz hr) hJ, fun i hi => ?_⟩
    obtain ⟨h1, h2, h3⟩ := (hrd listed i hsz).1 hi
    refine wpOp_mono (fun a' w' hJ' => ih _ a' w' (by simp [hsz]) ?_ hJ') (hstep listed a w i hsz h1 h2 h3 hJ)
    have : listed.toList[i]? = some false := by
      unfold hasL_ at h2
      rw [Array.getD_eq_getD_getElem?, Array.getElem?_eq_getElem (by omega)] at h2
      rw [Array.getElem?_toList, Array.getElem?_eq_getElem (by omega)]
      simpa using h2
    have h4 := unL_set listed.toList i this
    rw [Array.toList_setIfInBounds]
    omega
/-- the region: what holds at first, what each operation that may come up leaves, what holds at the end -/
theorem region_inv {id : Nat} {a : Act} {w : World} (hm : P.follows .mixedOrders = true) (J : Array Bool → Act → World → Prop) (T : List (List Nat))
    (hT : (List.range ops.size).map (fun i => match ops[i]? with | some o => o.after.toList.filterMap (fun e => if Region.binds .any e = true then some e.on else none) | none => []) = T)
    (hlow : (T.zipIdx.all fun p => p.1.all fun n => decide (n < p.2)) = true)
    (h0 : J (Array.replicate ops.size false) a w.drew)
    (hstep : ∀ listed a w i, listed.size = ops.size → i < ops.size → hasL_ listed i = false → (∀ n ∈ T.getD i [], hasL_ listed n = true) → J listed a w → wpOp P ops Q i (J (listed.setIfInBounds i true)) a w)
    (hend : ∀ listed a w, listed.size = ops.size → (∀ i, i < ops.size → hasL_ listed i = true) → J listed a w → Q .normal a w) : (Code.region id ops true).wp P Q a w :=
  wp_region_any hm (inv_any J T hT hlow hstep hend ops.size _ a _ (by simp) (by have := unL_le (Array.replicate ops.size false).toList; simpa using this) h0)
end
/-! A region that draws its order, in which one operation calls, the last one comes last, and the others only read. -/
section
variable {P : Program} {ops : Array Oper} {Q : Exit → Act → World → Prop}
def updN (s : Nat → Value) (n : Nat) (v : Value) : Nat → Value := fun j => if j = n then v else s j
theorem updN_self (s : Nat → Value) (n : Nat) (v : Value) : updN s n v n = v := if_pos rfl
theorem updN_ne {s : Nat → Value} {n j : Nat} {v : Value} (h : j ≠ n) : updN s n v j = s j := if_neg h
def mkN (n : Nat) (d : List Deferred) (s : Nat → Value) : Act := { tmps := ((List.range n).map s).toArray, defers := d }
theorem mkN_eval {n : Nat} {d : List Deferred} (s : Nat → Value) (j : Nat) (h : j < n) : (mkN n d s).eval (.tmp j) = s j := by
  show (((List.range n).map s).toArray).getD j undef = s j
  rw [Array.getD_eq_getD_getElem?, List.getElem?_toArray, List.getElem?_map, List.getElem?_range h]
  rfl
theorem mkN_get {n : Nat} {d : List Deferred} (s : Nat → Value) (j : Nat) (h : j < n) : (mkN n d s).tmps[j]?.getD undef = s j := by
  show (((List.range n).map s).toArray)[j]?.getD undef = s j
  rw [List.getElem?_toArray, List.getElem?_map, List.getElem?_range h]
  rfl
theorem mkN_put {n : Nat} {d : List Deferred} (s : Nat → Value) (N : Nat) (v : Value) (h : N < n) : (mkN n d s).put (some N) v = mkN n d (updN s N v) := by
  show ({ tmps := (((List.range n).map s).toArray).setIfInBounds N v, defers := d } : Act) = { tmps := ((List.range n).map (updN s N v)).toArray, defers := d }
  congr 1
  apply Array.ext_getElem?
  intro j
  rw [Array.getElem?_setIfInBounds, List.getElem?_toArray, List.getElem?_toArray, List.getElem?_map, List.getElem?_map]
  by_cases hj : j < n
  · rw [List.getElem?_range hj]
    by_cases e : N = j
    · subst e; simp [updN, h]
    · have e2 : ¬ j = N := fun z => e z.symm
      simp [updN, e, e2]
  · rw [List.getElem?_eq_none (by simpa using hj)]
    have e : N ≠ j := by omega
    simp [e]
theorem at_mkN {n : Nat} {d : List Deferred} {c : Code} {a : Act} {w : World} (h1 : a.tmps.size = n) (h2 : a.defers = d) (h : Code.wp P c Q (mkN n d fun j => a.tmps.getD j undef) w) : Code.wp P c Q a w := by
  subst h2
  have e : a = mkN n a.defers fun j => a.tmps.getD j undef := by
    obtain ⟨tm, df⟩ := a
    simp only at h1
    unfold mkN
    congr 1
    apply Array.ext (by simpa using h1)
    intro i h3 h4
    simp [Array.getD_eq_getD_getElem?, h3]
  rw [e]
  exact h
/-- what an operation may rely on: what it waits for has come up; what it does not wait for, and what does not wait for it, has not been touched -/
structure Seen (D : List Nat) (V : Nat → Value) (T : List (List Nat)) (t : Nat → Value) (i : Nat) (s : Nat → Value) : Prop where
  got : ∀ k, k < D.length → k ∈ T.getD i [] → s (D.getD k 0) = V k
  old : ∀ j, (∀ k, k < D.length → D.getD k 0 = j → i ∈ T.getD k []) → s j = t j
theorem region_once {n id : Nat} {d : List Deferred} {t : Nat → Value} {w : World} (hm : P.follows .mixedOrders = true) (D : List Nat) (V : Nat → Value) (c : Nat) (Pw : World → Prop) (T : List (List Nat))
    (hT : (List.range ops.size).map (fun i => match ops[i]? with | some o => o.after.toList.filterMap (fun e => if Region.binds .any e = true then some e.on else none) | none => []) = T)
    (hlow : (T.zipIdx.all fun p => p.1.all fun n => decide (n < p.2)) = true)
    (hsz : ops.size = D.length + 1) (hD : ∀ i, i < D.length → ∀ k, k < D.length → D.getD i 0 = D.getD k 0 → i = k) (hfull : ∀ k, k < D.length → k ∈ T.getD D.length []) (hc : c < D.length) (hDn : ∀ k, k < D.length → D.getD k 0 < n)
    (hpure : ∀ i, i < D.length → i ≠ c → ∀ s W, (W = w.drew ∨ Pw W) → Seen D V T t i s → ∃ o, ops[i]? = some o ∧ o.dst = some (D.getD i 0) ∧ (∀ a : Act, Region.wanted o (yielded ops a.tmps) = true) ∧ (execOp (mkN n d s).eval o).run P W = .ok (.value (V i)) W)
    (hcall : ∀ s, Seen D V T t c s → ∀ K : Act → World → Prop, (∀ W, Pw W → K (mkN n d (updN s (D.getD c 0) (V c))) W) → wpOp P ops Q c K (mkN n d s) w.drew)
    (hlast : ∀ s W, Pw W → (∀ k, k < D.length → s (D.getD k 0) = V k) → (∀ j, j ∉ D → s j = t j) → wpOp P ops Q D.length (fun a W => Q .normal a W) (mkN n d s) W) :
    (Code.region id ops true).wp P Q (mkN n d t) w := by
  have hinj : ∀ i k, i < D.length → k < D.length → D.getD i 0 = D.getD k 0 → i = k := fun i k hi hk e => hD i hi k hk e
  let J : Array Bool → Act → World → Prop := fun L a W =>
    (hasL_ L D.length = true ∧ (∀ k, k < D.length → hasL_ L k = true) ∧ Q .normal a W) ∨
    (hasL_ L D.length = false ∧ ∃ s, a = mkN n d s ∧ (∀ k, k < D.length → hasL_ L k = true → s (D.getD k 0) = V k) ∧ (∀ j, (∀ k, k < D.length → D.getD k 0 = j → hasL_ L k = false) → s j = t j) ∧
      (hasL_ L c = false → W = w.drew) ∧ (hasL_ L c = true → Pw W) ∧ (∀ j k, k ∈ T.getD j [] → hasL_ L j = true → hasL_ L k = true))
  have hz : ∀ j, hasL_ (Array.replicate ops.size false) j = false := by
    intro j
    unfold hasL_
    rw [Array.getD_eq_getD_getElem?, Array.getElem?_replicate]
    split <;> rfl
  refine region_inv hm J T hT hlow ?_ ?_ ?_
  · refine .inr ⟨hz _, t, rfl, fun k _ h => ?_, fun _ _ => rfl, fun _ => rfl, fun h => ?_, fun j k _ h => ?_⟩ <;> (rw [hz] at h; cases h)
  · intro L a W i hL hi hn hneed hJ
    have hself : hasL_ (L.setIfInBounds i true) i = true := by rw [hasL_set (by omega), if_pos rfl]
    have hoth : ∀ j, j ≠ i → hasL_ (L.setIfInBounds i true) j = hasL_ L j := fun j hj => by rw [hasL_set (by omega), if_neg hj]
    rcases hJ with ⟨h1, h2, _⟩ | ⟨h1, s, rfl, hv, hf, hw0, hw1, hcl⟩
    · exfalso
      rcases Nat.lt_or_ge i D.length with g | g
      · rw [h2 i g] at hn; cases hn
      · obtain rfl : i = D.length := by omega
        rw [h1] at hn; cases hn
    · by_cases g : i = D.length
      · subst g
        have hall : ∀ k, k < D.length → hasL_ L k = true := fun k hk => hneed k (hfull k hk)
        refine wpOp_mono (fun a' W' hq => .inl ⟨hself, fun k hk => ?_, hq⟩) (hlast s W (hw1 (hall c hc)) (fun k hk => hv k hk (hall k hk)) (fun j hj => hf j (fun k hk e => ?_)))
        · rw [hoth k (by omega)]; exact hall k hk
        · exfalso
          apply hj
          rw [← e, List.getD_eq_getElem?_getD, List.getElem?_eq_getElem hk]
          exact List.getElem_mem hk
      · have hi2 : i < D.length := by omega
        have hseen : Seen D V T t i s := by
          refine ⟨fun k hk hkT => hv k hk (hneed k hkT), fun j hj => hf j (fun k hk e => ?_)⟩
          cases hb : hasL_ L k with
          | false => rfl
          | true => rw [hcl k i (hj k hk e) hb] at hn; cases hn
        have hnext : ∀ W', (hasL_ (L.setIfInBounds i true) c = false → W' = w.drew) → (hasL_ (L.setIfInBounds i true) c = true → Pw W') → J (L.setIfInBounds i true) (mkN n d (updN s (D.getD i 0) (V i))) W' := by
          intro W' z0 z1
          refine .inr ⟨by rw [hoth _ (fun e => g e.symm)]; exact h1, _, rfl, fun k hk hl => ?_, fun j hj => ?_, z0, z1, fun j k hk hl => ?_⟩
          · by_cases e : k = i
            · subst e; exact updN_self _ _ _
            · rw [updN_ne (fun z => e (hinj k i hk hi2 z))]
              rw [hoth k e] at hl
              exact hv k hk hl
          · have hne : j ≠ D.getD i 0 := by
              rintro rfl
              have := hj i hi2 rfl
              rw [hself] at this; cases this
            rw [updN_ne hne]
            refine hf j (fun k hk e => ?_)
            have h3 := hj k hk e
            by_cases e2 : k = i
            · subst e2; exact absurd e.symm hne
            · rwa [hoth k e2] at h3
          · by_cases e : k = i
            · rw [e]; exact hself
            · rw [hoth k e]
              by_cases e2 : j = i
              · rw [e2] at hk; exact hneed k hk
              · rw [hoth j e2] at hl; exact hcl j k hk hl
        by_cases hic : i = c
        · subst hic
          have hW := hw0 hn
          subst hW
          refine hcall s hseen _ (fun W' hP => hnext W' (fun z => ?_) (fun _ => hP))
          rw [hself] at z; cases z
        · have hci : c ≠ i := fun z => hic z.symm
          have hWc : W = w.drew ∨ Pw W := by
            cases hb : hasL_ L c with
            | false => exact .inl (hw0 hb)
            | true => exact .inr (hw1 hb)
          obtain ⟨o, ho, hod, how, hrun⟩ := hpure i hi2 hic s W hWc hseen
          refine YieldsIf.wpOp (S := fun x => x = W) ho (v := V i) (.inl ⟨how _, fun x hx => by rw [hx]; exact hrun⟩) rfl ?_
          rw [hod, mkN_put _ _ _ (hDn i hi2)]
          exact hnext W (fun z => hw0 (by rwa [hoth c hci] at z)) (fun z => hw1 (by rwa [hoth c hci] at z))
  · intro L a W hL hall hJ
    rcases hJ with ⟨_, _, hq⟩ | ⟨h1, _⟩
    · exact hq
    · rw [hall D.length (by omega)] at h1; cases h1
end
/-! Cells of a block. -/
section
open Go.Proofs
theorem cell_of {w : World} {g : Nat} {t : TypeId} {cs : Array Value} (h : w.heap[g]? = some (.cells cs t (0, 0))) {i : Nat} {v : Value} (e : cs[i]? = some v) : w.cell? ⟨g, i, none⟩ = some v := by simp [World.cell?, h, e]
theorem frozen_of {w : World} {g : Nat} {t : TypeId} {cs : Array Value} (h : w.heap[g]? = some (.cells cs t (0, 0))) (i : Nat) : w.frozen? ⟨g, i, none⟩ = false := by simp [World.frozen?, h]
end
/-! bufio.Reader over strings.Reader: what is still to be read. -/
section
open Go.Proofs
theorem gotlt {W : World} {g : Nat} {o : Obj} (h : W.heap[g]? = some o) : g < W.heap.size := by
  obtain ⟨h, _⟩ := Array.getElem?_eq_some_iff.1 h
  exact h
theorem run_copy_string_cut {P : Program} (w : World) (dT sT ty elem : TypeId) (g o dLen dCap : Nat) (s : ByteArray) (cur : Array Value) (t : TypeId)
    (hu : P.underlying dT = some (.slice elem)) (hs : (P.info? elem).map (·.size) = some 1) (hg : w.heap[g]? = some (.cells cur t (0, 0))) (hfit : o + dLen ≤ cur.size) :
    (Builtin.copy_ #[dT, sT] ty #[.slice (some ⟨g, o, none⟩) dLen dCap, .string s]).run P w =
      .ok (goInt (Nat.min s.size dLen)) (w.setRow g (cur.toList.take o ++ Lib.byteCells (s.data.toList.take (Nat.min s.size dLen)) ++ cur.toList.drop (o + Nat.min s.size dLen)).toArray) := by
  have hsz : s.data.toList.length = s.size := (Lib.size_eq s).symm
  have hk : Nat.min s.size dLen ≤ s.size := Nat.min_le_left ..
  have hk2 : Nat.min s.size dLen ≤ dLen := Nat.min_le_right ..
  have hlen : (Lib.byteCells (s.data.toList.take (Nat.min s.size dLen))).length = Nat.min s.size dLen := by
    rw [Lib.byteCells_length, List.length_take, hsz]; exact Nat.min_eq_left hk
  have hst := run_storeCells_at P g o t (Lib.byteCells (s.data.toList.take (Nat.min s.size dLen))) 0 cur w hg (by rw [hlen]; omega) (Lib.byteCells_one _)
  rw [hlen] at hst
  simp only [Nat.add_zero] at hst
  cases hq : P.info? elem with
  | none => simp [hq] at hs
  | some i =>
    have htk : List.take (Nat.min s.size dLen) (List.map (fun b : UInt8 => Value.int IntKind.u8 (b.toNat : Int)) s.data.toList) = Lib.byteCells (s.data.toList.take (Nat.min s.size dLen)) := by
      unfold Lib.byteCells
      rw [List.map_take]
    simp [Builtin.copy_, run_underlying hu, Builtin.lenOf, Builtin.firstCells, sizeOf, typeInfo, hq]
    rw [htk, hst]
    simp [Result.andThen]
def cellsOf (bs : List Int) : Array Value := (bs.map fun x => Value.int .u8 x).toArray
def numsOf (l : List UInt8) : List Int := l.map fun b => (b.toNat : Int)
theorem byteCells_nums (l : List UInt8) : Lib.byteCells l = (numsOf l).map fun x => Value.int .u8 x := by
  simp [Lib.byteCells, numsOf]
/-- a reader: the text s, read up to i; the block of bytes bs, of which those from r to n are still to be handed on -/
structure RD (W : World) (R B C : Nat) (s : ByteArray) (i : Nat) (bs : List Int) (r n : Nat) (err : Value) (lb lr : Int) : Prop where
  rd : ∃ p, W.heap[R]? = some (.cells #[.string s, .int .i64 (i : Int), .int .i64 p] 177 (0, 0))
  bf : W.heap[B]? = some (.cells #[.slice (some ⟨C, 0, none⟩) 4096 4096, .iface 148 (.pointer (some ⟨R, 0, none⟩)), .int .i64 (r : Int), .int .i64 (n : Int), err, .int .i64 lb, .int .i64 lr] 200 (0, 0))
  cs : W.heap[C]? = some (.cells (cellsOf bs) 5 (0, 0))
  len : bs.length = 4096
  rn : r ≤ n
  n4 : n ≤ 4096
  is : i ≤ s.size
  ss : s.size ≤ 2147483647
  rb : R ≠ B
  rc : R ≠ C
  bc : B ≠ C
/-- what a step may have turned: the blocks of a list, and new ones -/
structure Turn (L : List Nat) (w w' : World) : Prop where
  os : w'.os = w.os
  tape : w'.tape = w.tape
  output : w'.output = w.output
  size : w.heap.size ≤ w'.heap.size
  block : ∀ k, k < w.heap.size → k ∉ L → w'.heap[k]? = w.heap[k]?
theorem Turn.refl (L : List Nat) (w : World) : Turn L w w := ⟨rfl, rfl, rfl, Nat.le_refl _, fun _ _ _ => rfl⟩
theorem Turn.trans {L : List Nat} {a b c : World} (h : Turn L a b) (k : Turn L b c) : Turn L a c :=
  ⟨k.os.trans h.os, k.tape.trans h.tape, k.output.trans h.output, Nat.le_trans h.size k.size, fun i hi hL => (k.block i (Nat.lt_of_lt_of_le hi h.size) hL).trans (h.block i hi hL)⟩
theorem Turn.more {L M : List Nat} {a b : World} (h : Turn L a b) (hs : ∀ k ∈ L, k ∈ M) : Turn M a b := ⟨h.os, h.tape, h.output, h.size, fun i hi hM => h.block i hi (fun z => hM (hs i z))⟩
theorem Turn.drew {L : List Nat} {a b : World} (h : Turn L a b) : Turn L a b.drew := ⟨h.os, h.tape, h.output, h.size, h.block⟩
theorem Turn.drewN {L : List Nat} {a b : World} (h : Turn L a b) (q : Nat) : Turn L a (b.drewN q) := ⟨h.os, h.tape, h.output, h.size, h.block⟩
theorem Turn.setCell {L : List Nat} {a b : World} (h : Turn L a b) (p : Addr) (v : Value) (hp : p.block ∈ L) : Turn L a (b.setCell p v) :=
  ⟨h.os, h.tape, h.output, Nat.le_trans h.size (by simp [World.setCell]), fun i hi hL => (Below.heap_setCell _ _ _ _ (fun e => hL (by rw [e]; exact hp))).trans (h.block i hi hL)⟩
theorem heap_setRow_ne (w : World) (g k : Nat) (cs : Array Value) (h : k ≠ g) : (w.setRow g cs).heap[k]? = w.heap[k]? := by
  simp only [World.setRow, Array.getElem?_modify]
  rw [if_neg (fun e => h e.symm)]
theorem Turn.setRow {L : List Nat} {a b : World} (h : Turn L a b) (g : Nat) (cs : Array Value) (hp : g ∈ L) : Turn L a (b.setRow g cs) :=
  ⟨h.os, h.tape, h.output, Nat.le_trans h.size (by simp [World.setRow]), fun i hi hL => (heap_setRow_ne _ _ _ _ (fun e => hL (by rw [e]; exact hp))).trans (h.block i hi hL)⟩
theorem Turn.below {L : List Nat} {a b : World} {B : Nat} (h : Turn L a b) (hL : ∀ k ∈ L, B ≤ k) (hB : B ≤ a.heap.size) : Below B a b := ⟨h.os, h.tape, h.output, h.size, fun k hk => h.block k (Nat.lt_of_lt_of_le hk hB) (fun z => by have := hL k z; omega)⟩
theorem heap_put {w : World} {g : Nat} {t : TypeId} {cs cs' : Array Value} (h : w.heap[g]? = some (.cells cs t (0, 0))) (i : Nat) (u : Value) (e : cs.setIfInBounds i u = cs') : (w.setCell ⟨g, i, none⟩ u).heap[g]? = some (.cells cs' t (0, 0)) := blk_put h i u e
/-- what n bytes of a text from i on make of a block of bytes, from n on -/
def spliced (bs : List Int) (n k : Nat) (s : ByteArray) (i : Nat) : List Int := bs.take n ++ numsOf ((s.data.toList.drop i).take k) ++ bs.drop (n + k)
theorem extract_list (s : ByteArray) (i : Nat) : (s.extract i s.size).data.toList = s.data.toList.drop i := by
  have hsz : s.size = s.data.size := rfl
  rw [ByteArray.data_extract, Array.toList_extract, hsz]
  rw [List.extract_eq_take_drop]
  rw [List.take_of_length_le (by simp)]
set_option maxHeartbeats 4000000 in
set_option maxRecDepth 100000 in
theorem rd_read_eof (W : World) (R : Nat) (s : ByteArray) (i p : Int) (ev : Value) (hr : W.heap[R]? = some (.cells #[.string s, .int .i64 i, .int .i64 p] 177 (0, 0))) (hi : (s.size : Int) ≤ i) (hE : W.cell? ⟨2, 0, none⟩ = some ev) (a : Value) :
    Calls Tryz.prog 195 #[.pointer (some ⟨R, 0, none⟩), a] W fun e w' => e = .returned (.tuple #[.int .i64 0, ev]) ∧ ∃ q, w' = W.drewN q := by
  have c0 : W.cell? ⟨R, 0, none⟩ = some (.string s) := by simp [World.cell?, hr]
  have c1 : W.cell? ⟨R, 1, none⟩ = some (.int .i64 i) := by simp [World.cell?, hr]
  clear hr
  go_enter Tryz.func195, Tryz.ntmps195
  go_wp2
  go_region
  go_wp2
  go_region
  all_goals go_wp2
  all_goals go_ret2
  all_goals exact ⟨rfl, 2, rfl⟩
set_option maxHeartbeats 4000000 in
set_option maxRecDepth 100000 in
theorem rd_read (W : World) (R C : Nat) (s : ByteArray) (i n : Nat) (p : Int) (bs : List Int) (hr : W.heap[R]? = some (.cells #[.string s, .int .i64 (i : Int), .int .i64 p] 177 (0, 0))) (hi : i < s.size) (hs : s.size ≤ 2147483647)
    (hc : W.heap[C]? = some (.cells (cellsOf bs) 5 (0, 0))) (hl : bs.length = 4096) (hn : n < 4096) (hRC : R ≠ C) :
    Calls Tryz.prog 195 #[.pointer (some ⟨R, 0, none⟩), .slice (some ⟨C, n, none⟩) (4096 - n) (4096 - n)] W fun e w' => e = .returned (.tuple #[.int .i64 (Nat.min (s.size - i) (4096 - n) : Nat), .nilIface]) ∧
      w'.heap[R]? = some (.cells #[.string s, .int .i64 ((i + Nat.min (s.size - i) (4096 - n) : Nat) : Int), .int .i64 (-1)] 177 (0, 0)) ∧ w'.heap[C]? = some (.cells (cellsOf (spliced bs n (Nat.min (s.size - i) (4096 - n)) s i)) 5 (0, 0)) ∧ Turn [R, C] W w' := by
  have c0 : W.cell? ⟨R, 0, none⟩ = some (.string s) := by simp [World.cell?, hr]
  have c1 : W.cell? ⟨R, 1, none⟩ = some (.int .i64 (i : Int)) := by simp [World.cell?, hr]
  have c2 : W.cell? ⟨R, 2, none⟩ = some (.int .i64 p) := by simp [World.cell?, hr]
  have f1 : W.frozen? ⟨R, 1, none⟩ = false := by simp [World.frozen?, hr]
  have f2 : W.frozen? ⟨R, 2, none⟩ = false := by simp [World.frozen?, hr]
  have hr0 := Aside0.mk hr
  clear hr
  go_enter Tryz.func195, Tryz.ntmps195
  go_wp2
  go_region
  go_upto_region 4 with (fail)
  have hR1 : ((W.setCell ⟨R, 2, none⟩ (.int .i64 (-1))).drew).heap[R]? = some (.cells #[.string s, .int .i64 (i : Int), .int .i64 (-1)] 177 (0, 0)) := heap_put hr0.out 2 _ rfl
  have hC1 : ((W.setCell ⟨R, 2, none⟩ (.int .i64 (-1))).drew).heap[C]? = some (.cells (cellsOf bs) 5 (0, 0)) := (Below.heap_setCell W ⟨R, 2, none⟩ _ C (fun e => hRC e.symm)).trans hc
  have hT1 : Turn [R, C] W ((W.setCell ⟨R, 2, none⟩ (.int .i64 (-1))).drew) := ((Turn.refl _ W).setCell _ _ (by simp)).drew
  generalize (W.setCell ⟨R, 2, none⟩ (.int .i64 (-1))).drew = W1 at *
  clear c0 c1 c2 f1 f2
  have d0 := cell_of hR1 (i := 0) rfl
  have d1 := cell_of hR1 (i := 1) rfl
  have hsl : ∀ w : World, (Instr.slice 9 (.string s) (some (.int .i64 (i : Int))) none none).run Tryz.prog w = .ok (.string (s.extract i s.size)) w := by
    intro w
    rw [run_slice_string_from_if w _ _ _ _ Tryz.underlying9]
    simp
    omega
  have hx : (s.extract i s.size).size = s.size - i := by simp
  have hcp := run_copy_string_cut (P := Tryz.prog) W1.drew 121 9 3 5 C n (4096 - n) (4096 - n) (s.extract i s.size) (cellsOf bs) 5 Tryz.underlying121 (by kernel_rfl) hC1 (by simp [cellsOf, hl]; omega)
  have hnew : ((cellsOf bs).toList.take n ++ Lib.byteCells ((s.extract i s.size).data.toList.take (Nat.min (s.extract i s.size).size (4096 - n))) ++ (cellsOf bs).toList.drop (n + Nat.min (s.extract i s.size).size (4096 - n))).toArray = cellsOf (spliced bs n (Nat.min (s.size - i) (4096 - n)) s i) := by
    rw [hx, extract_list, byteCells_nums]
    simp [cellsOf, spliced, List.map_take, List.map_drop]
  rw [hnew, hx] at hcp
  have hC2 := setRow_heap W1.drew C (cellsOf bs) (cellsOf (spliced bs n (Nat.min (s.size - i) (4096 - n)) s i)) 5 (0, 0) hC1
  have hR2 : (W1.drew.setRow C (cellsOf (spliced bs n (Nat.min (s.size - i) (4096 - n)) s i))).heap[R]? = _ := (heap_setRow_ne _ _ _ _ hRC).trans hR1
  have hT2 := (hT1.drew).setRow C (cellsOf (spliced bs n (Nat.min (s.size - i) (4096 - n)) s i)) (by simp)
  clear hnew hx
  go_still_tail 10, (by kernel_rfl)
  change wpList _ _ _ _ _ W1.drew
  generalize hk : Nat.min (s.size - i) (4096 - n) = k at *
  have hk1 : k ≤ s.size - i := hk ▸ Nat.min_le_left ..
  generalize W1.drew.setRow C (cellsOf (spliced bs n k s i)) = W2 at *
  have e1 := cell_of hR2 (i := 1) rfl
  have e2 := frozen_of hR2 1
  clear d0 d1 hsl
  go_wp2
  go_ret2
  refine ⟨by rw [hk]; rfl, ?_, ?_, ?_⟩
  · rw [hk]
    exact heap_put hR2 1 _ (by simp)
  · rw [hk]
    exact (Below.heap_setCell W2 ⟨R, 1, none⟩ _ C (fun e => hRC e.symm)).trans hC2
  · exact hT2.setCell _ _ (by simp)
theorem numsOf_len (l : List UInt8) : (numsOf l).length = l.length := by simp [numsOf]
theorem spliced_len {bs : List Int} {n k : Nat} {s : ByteArray} {i : Nat} (hl : bs.length = 4096) (hn : n + k ≤ 4096) (hk : k ≤ s.size - i) : (spliced bs n k s i).length = 4096 := by
  have hsz : s.data.toList.length = s.size := (Lib.size_eq s).symm
  simp only [spliced, List.length_append, List.length_take, List.length_drop, numsOf_len, hsz, hl]
  omega
theorem spliced_take {bs : List Int} {n k : Nat} {s : ByteArray} {i : Nat} (hl : bs.length = 4096) (hn : n + k ≤ 4096) (hk : k ≤ s.size - i) : (spliced bs n k s i).take (n + k) = bs.take n ++ numsOf ((s.data.toList.drop i).take k) := by
  have hsz : s.data.toList.length = s.size := (Lib.size_eq s).symm
  have h1 : (bs.take n ++ numsOf ((s.data.toList.drop i).take k)).length = n + k := by
    simp only [List.length_append, List.length_take, List.length_drop, numsOf_len, hsz, hl]
    omega
  unfold spliced
  rw [List.take_append_of_le_length (by omega), List.take_of_length_le (by omega)]
theorem setCells_heap (b : Nat) (t : TypeId) : ∀ (vs : List Value) (o : Nat) (w : World) (cs : Array Value), w.heap[b]? = some (.cells cs t (0, 0)) → o + vs.length ≤ cs.size → (w.setCells b o vs).heap[b]? = some (.cells (cs.toList.take o ++ vs ++ cs.toList.drop (o + vs.length)).toArray t (0, 0))
  | [], o, w, cs, h, _ => by
    simp only [World.setCells, List.append_nil, List.length_nil, Nat.add_zero, List.take_append_drop]
    exact h
  | v :: r, o, w, cs, h, hl => by
    have h1 := heap_put h o v rfl
    have ih := setCells_heap b t r (o + 1) (w.setCell ⟨b, o, none⟩ v) _ h1 (by simp at hl ⊢; omega)
    simp only [World.setCells]
    rw [ih]
    simp only [List.length_cons] at hl
    have ho : o < cs.toList.length := by simp; omega
    congr 3
    rw [Array.toList_setIfInBounds, List.drop_set, if_pos (by omega), List.take_succ_eq_append_getElem (by simp; omega)]
    simp [List.take_set_of_le, Nat.add_comm, Nat.add_left_comm]
theorem setCells_ne (b k : Nat) (h : k ≠ b) : ∀ (vs : List Value) (o : Nat) (w : World), (w.setCells b o vs).heap[k]? = w.heap[k]?
  | [], _, _ => rfl
  | v :: r, o, w => (setCells_ne b k h r (o + 1) _).trans (Below.heap_setCell w ⟨b, o, none⟩ v k h)
theorem Turn.setCells {L : List Nat} (b : Nat) (hb : b ∈ L) : ∀ (vs : List Value) (o : Nat) {a w : World}, Turn L a w → Turn L a (w.setCells b o vs)
  | [], _, _, _, h => h
  | v :: r, o, _, _, h => Turn.setCells b hb r (o + 1) (h.setCell ⟨b, o, none⟩ v hb)
theorem cellsOf_get {bs : List Int} {j : Nat} (h : j < bs.length) : (cellsOf bs)[j]? = some (.int .u8 (bs.getD j 0)) := by
  simp [cellsOf, List.getD_eq_getElem?_getD, List.getElem?_eq_getElem h]
theorem reads_cells {W : World} {C : Nat} {bs : List Int} (h : W.heap[C]? = some (.cells (cellsOf bs) 5 (0, 0))) (hl : bs.length ≤ 9223372036854775807) : ReadsOf (Value.int .u8) (0 : Int) W (some ⟨C, 0, none⟩) bs.length bs := by
  refine ⟨rfl, hl, fun _ => ⟨_, rfl, fun j hj => ?_⟩⟩
  have e : (⟨C, 0, none⟩ : Addr).add j = ⟨C, j, none⟩ := by unfold Addr.add; split <;> simp_all
  rw [e]
  exact cell_of h (cellsOf_get hj)
set_option maxRecDepth 100000 in
/-- what the reader slides to the beginning -/
theorem slide (W : World) (C r n : Nat) (bs : List Int) (hC : W.heap[C]? = some (.cells (cellsOf bs) 5 (0, 0))) (hl : bs.length = 4096) (hrn : r ≤ n) (hn : n ≤ 4096) :
    ∃ A' W1, (∀ w : World, (Instr.slice 121 (.slice (some ⟨C, 0, none⟩) 4096 4096) (some (.int .i64 (r : Int))) (some (.int .i64 (n : Int))) none).run Tryz.prog w = .ok (.slice A' (n - r) (4096 - r)) w) ∧
      (Builtin.copy_ #[121, 121] 3 #[.slice (some ⟨C, 0, none⟩) 4096 4096, .slice A' (n - r) (4096 - r)]).run Tryz.prog W = .ok (goInt ((n - r : Nat) : Int)) W1 ∧
      W1.heap[C]? = some (.cells (cellsOf ((bs.take n).drop r ++ bs.drop (n - r))) 5 (0, 0)) ∧ (∀ k, k ≠ C → W1.heap[k]? = W.heap[k]?) ∧ Turn [C] W W1 := by
  obtain ⟨i0, hi0, _, hs0, _⟩ := info_parts (show (Tryz.prog.info? 5).map (fun i => (i.zero, i.size, i.bytes)) = some (some (.int .u8 0), 1, 1) from by kernel_rfl)
  obtain ⟨A', h1, h2, _⟩ := print_mid_of (P := Tryz.prog) (Value.int .u8) (0 : Int) 121 5 .i64 .i64 Tryz.underlying121 hi0 hs0 (some ⟨C, 0, none⟩) 4096 bs (r : Int) (n : Int) (by omega) (by omega) (by omega) (by omega)
  have hm : ((bs.take n).drop r).length = n - r := by rw [List.length_drop, List.length_take]; omega
  simp only [Int.toNat_natCast, hm, hl] at h1 h2
  have h3 := h2 W (hl ▸ reads_cells hC (by omega))
  rcases Nat.eq_zero_or_pos (n - r) with h0 | h0
  · refine ⟨A', W, h1, ?_, ?_, fun _ _ => rfl, Turn.refl _ _⟩
    · have := run_copy_none (P := Tryz.prog) W 121 121 3 5 (some ⟨C, 0, none⟩) A' 4096 4096 (n - r) (4096 - r) Tryz.underlying121 (by kernel_rfl) (by rw [h0]; rfl)
      rw [this, h0]
      rfl
    · have e : (bs.take n).drop r = [] := List.eq_nil_of_length_eq_zero (hm.trans h0)
      rw [e, h0]
      exact hC
  · obtain ⟨ad, rfl, hc⟩ := h3.2.2 h0
    have hlen : (((bs.take n).drop r).map fun x => Value.int .u8 x).length = n - r := by rw [List.length_map, hm]
    refine ⟨some ad, W.setCells C 0 (((bs.take n).drop r).map fun x => Value.int .u8 x), h1, ?_, ?_, fun k hk => setCells_ne C k hk _ _ _, Turn.setCells C (by simp) _ _ (Turn.refl _ _)⟩
    · have := run_copy_cells (P := Tryz.prog) W 121 121 3 5 C 0 4096 4096 ad (n - r) (4096 - r) (((bs.take n).drop r).map fun x => Value.int .u8 x) Tryz.underlying121 (by kernel_rfl) (by rw [hlen]; exact (Nat.min_eq_left (by omega)).symm)
        (fun j v hj => by
          obtain ⟨hjl, e⟩ := List.getElem?_eq_some_iff.1 hj
          rw [hlen] at hjl
          rw [hc j hjl, ← e, List.getElem_map]
          congr 2
          rw [List.getD_eq_getElem?_getD, List.getElem?_eq_getElem (by rw [hm]; exact hjl)]
          rfl)
        (fun j hj => by rw [Nat.zero_add, cell_of hC (cellsOf_get (by rw [hlen] at hj; omega))]; rfl) (fun j _ => by rw [Nat.zero_add]; exact frozen_of hC j) (fun v hv => by obtain ⟨x, _, rfl⟩ := List.mem_map.1 hv; rfl)
      rw [this, hlen]
    · have := setCells_heap C 5 (((bs.take n).drop r).map fun x => Value.int .u8 x) 0 W (cellsOf bs) hC (by rw [hlen]; simp [cellsOf, hl]; omega)
      rw [this, hlen]
      simp [cellsOf, List.map_drop, List.map_take]
end
theorem mk99_lit (s : Nat → Value) : mkN 99 [] s = { tmps := #[s 0, s 1, s 2, s 3, s 4, s 5, s 6, s 7, s 8, s 9, s 10, s 11, s 12, s 13, s 14, s 15, s 16, s 17, s 18, s 19, s 20, s 21, s 22, s 23, s 24, s 25, s 26, s 27, s 28, s 29, s 30, s 31, s 32, s 33, s 34, s 35, s 36, s 37, s 38, s 39, s 40, s 41, s 42, s 43, s 44, s 45, s 46, s 47, s 48, s 49, s 50, s 51, s 52, s 53, s 54, s 55, s 56, s 57, s 58, s 59, s 60, s 61, s 62, s 63, s 64, s 65, s 66, s 67, s 68, s 69, s 70, s 71, s 72, s 73, s 74, s 75, s 76, s 77, s 78, s 79, s 80, s 81, s 82, s 83, s 84, s 85, s 86, s 87, s 88, s 89, s 90, s 91, s 92, s 93, s 94, s 95, s 96, s 97, s 98], defers := [] } := rfl
def eofV (pe : Addr) : Value := .iface 179 (.pointer (some pe))
theorem run_slice_from (C m : Nat) (hm : m < 4096) (w : World) : (Instr.slice 121 (.slice (some ⟨C, 0, none⟩) 4096 4096) (some (.int .i64 (m : Int))) none none).run Tryz.prog w = .ok (.slice (some ⟨C, m, none⟩) (4096 - m) (4096 - m)) w := by
  have hu : Tryz.prog.underlying 121 = some (.slice (Tryz.prog.elem 121)) := by kernel_rfl
  rw [run_slice_l w 121 (some ⟨C, 0, none⟩) 4096 4096 hu .i64 (m : Int) (Int.natCast_nonneg _) (by omega)]
  have hsz : Tryz.prog.info? (Tryz.prog.elem 121) = Tryz.prog.info? 5 := by kernel_rfl
  obtain ⟨i0, hi0, _, hs0, _⟩ := info_parts (show (Tryz.prog.info? 5).map (fun i => (i.zero, i.size, i.bytes)) = some (some (.int .u8 0), 1, 1) from by kernel_rfl)
  simp [sizeOf, typeInfo, hsz, hi0, hs0, sliced, Result.andThen, Addr.add]
  rw [if_neg (show ¬ 4096 = m by omega)]
  split
  · subst m; rfl
  · rfl
set_option maxHeartbeats 8000000 in
set_option maxRecDepth 100000 in
theorem bu_fill (W : World) (R B C : Nat) (s : ByteArray) (i r n : Nat) (bs : List Int) (lb lr : Int) (pe : Addr) (h : RD W R B C s i bs r n .nilIface lb lr) (hroom : n - r < 4096) (hE : W.cell? ⟨2, 0, none⟩ = some (eofV pe)) (hg : 2 ≠ R ∧ 2 ≠ B ∧ 2 ≠ C) :
    Calls Tryz.prog 141 #[.pointer (some ⟨B, 0, none⟩)] W fun e w' => e = .returned (.tuple #[]) ∧ ∃ bs' k err', RD w' R B C s (i + k) bs' 0 (n - r + k) err' lb lr ∧
      bs'.take (n - r + k) = (bs.take n).drop r ++ numsOf ((s.data.toList.drop i).take k) ∧ (i < s.size → 0 < k ∧ err' = .nilIface) ∧ (i = s.size → k = 0 ∧ err' = eofV pe) ∧ Turn [R, B, C] W w' := by
  have h1 := h.rn; have h2 := h.n4; have h3 := h.is
  have H := Aside0.mk h
  clear h
  have b0 : W.cell? ⟨B, 0, none⟩ = some (.slice (some ⟨C, 0, none⟩) 4096 4096) := cell_of H.out.bf (i := 0) rfl
  have b1 : W.cell? ⟨B, 1, none⟩ = some (.iface 148 (.pointer (some ⟨R, 0, none⟩))) := cell_of H.out.bf (i := 1) rfl
  have b2 : W.cell? ⟨B, 2, none⟩ = some (.int .i64 (r : Int)) := cell_of H.out.bf (i := 2) rfl
  have b3 : W.cell? ⟨B, 3, none⟩ = some (.int .i64 (n : Int)) := cell_of H.out.bf (i := 3) rfl
  have b4 : W.cell? ⟨B, 4, none⟩ = some (.nilIface) := cell_of H.out.bf (i := 4) rfl
  have fb : ∀ j, W.frozen? ⟨B, j, none⟩ = false := frozen_of H.out.bf
  go_enter Tryz.func141, Tryz.ntmps141
  rcases Nat.eq_zero_or_pos r with hr | hr
  · subst hr
    have hm : (n : Int) < 4096 := by omega
    have hmn : n < 4096 := by omega
    have hmx : n - 0 = n := rfl
    have htk : bs.take n = (bs.take n).drop 0 := rfl
    have hT0 := Turn.refl [R, B, C] W
    have hEx := hE
    clear b2
    have b2 : W.cell? ⟨B, 2, none⟩ = some (.int .i64 0) := cell_of H.out.bf (i := 2) rfl
    go_upto_region 4 with (fail)
    go_region
    go_wp2
    go_loopw [2] (fun v2 wr => v2 = .int .i64 100 ∧ wr = W.drew) (fun _ _ => 0)
    case atStart => exact ⟨rfl, rfl⟩
    case round =>
      obtain ⟨rfl, rfl⟩ := hrel
      go_wp2
      by_cases hi : i < s.size
      · obtain ⟨p, hp⟩ := H.out.rd
        have hrd := rd_read W.drew.drew R C s i n p bs hp hi H.out.ss H.out.cs H.out.len (by omega) H.out.rc
        have hsl : ∀ w : World, (Instr.slice 121 (.slice (some ⟨C, 0, none⟩) 4096 4096) (some (.int .i64 (n : Int))) none none).run Tryz.prog w = .ok (.slice (some ⟨C, n, none⟩) (4096 - n) (4096 - n)) w := fun w => run_slice_from C n (by omega) w
        have hk0 : 0 < Nat.min (s.size - i) (4096 - n) := Nat.lt_min.2 ⟨by omega, by omega⟩
        have hk1 : Nat.min (s.size - i) (4096 - n) ≤ 4096 - n := Nat.min_le_right ..
        have hk2 : Nat.min (s.size - i) (4096 - n) ≤ s.size - i := Nat.min_le_left ..
        generalize hk : Nat.min (s.size - i) (4096 - n) = k at *
        let PW : World → Prop := fun w' => w'.heap[R]? = some (.cells #[.string s, .int .i64 ((i + k : Nat) : Int), .int .i64 (-1)] 177 (0, 0)) ∧ w'.heap[C]? = some (.cells (cellsOf (spliced bs n k s i)) 5 (0, 0)) ∧ Turn [R, C] W.drew.drew w'
        have hP0 : ∀ w', PW w' → w'.heap[B]? = W.heap[B]? := by
          rintro w' ⟨_, _, hT⟩
          exact hT.block B (gotlt H.out.bf) (by simp; exact ⟨fun e => H.out.rb e.symm, H.out.bc⟩)
        have hP1 : ∀ w', PW w' → w'.cell? ⟨B, 0, none⟩ = some (.slice (some ⟨C, 0, none⟩) 4096 4096) ∧ w'.cell? ⟨B, 1, none⟩ = some (.iface 148 (.pointer (some ⟨R, 0, none⟩))) ∧ w'.cell? ⟨B, 3, none⟩ = some (.int .i64 (n : Int)) := fun w' h => ⟨cell_of ((hP0 w' h).trans H.out.bf) (i := 0) rfl, cell_of ((hP0 w' h).trans H.out.bf) (i := 1) rfl, cell_of ((hP0 w' h).trans H.out.bf) (i := 3) rfl⟩
        refine at_mkN (n := 99) (d := []) rfl rfl ?_
        refine region_once (by kernel_rfl) [58, 59, 60, 61, 62, 63, 64, 65, 66, 67, 68, 69, 70, 71, 72, 73, 57, 74, 75, 3] (fun k_ => ([(.pointer (some ⟨B, 0, none⟩)), (.pointer (some ⟨B, 0, none⟩)), (.pointer (some ⟨B, 1, none⟩)), (.iface 148 (.pointer (some ⟨R, 0, none⟩))), (.pointer (some ⟨B, 0, none⟩)), (.pointer (some ⟨B, 0, none⟩)), (.pointer (some ⟨B, 0, none⟩)), (.slice (some ⟨C, 0, none⟩) 4096 4096), (.pointer (some ⟨B, 0, none⟩)), (.pointer (some ⟨B, 0, none⟩)), (.pointer (some ⟨B, 3, none⟩)), (.int .i64 (n : Int)), (.slice (some ⟨C, n, none⟩) (4096 - n) (4096 - n)), (.iface 148 (.pointer (some ⟨R, 0, none⟩))), (.iface 148 (.pointer (some ⟨R, 0, none⟩))), (.tuple #[.int .i64 (k : Int), .nilIface]), (.tuple #[.int .i64 (k : Int), .nilIface]), (.int .i64 (k : Int)), (.nilIface), (.int .i64 (k : Int))] : List Value).getD k_ undef) 15 (PW) [[], [0], [1], [2], [], [4], [5], [6], [], [8], [9], [10], [7, 11], [3], [3, 13], [14, 12], [15], [16], [16], [17, 15, 0, 1, 2, 3, 4, 5, 6, 7, 8, 9, 10, 11, 12, 13, 14, 15, 16, 17], [18, 19, 0, 1, 2, 3, 4, 5, 6, 7, 8, 9, 10, 11, 12, 13, 14, 15, 16, 17, 18, 19]] (by kernel_rfl) (by decide) rfl (by decide) (by decide) (by decide) (by decide) ?_ ?_ ?_
        · intro i_ hi_ hic_ s_ W_ hW_ hs_
          have z0_ : W_.cell? ⟨B, 0, none⟩ = some (.slice (some ⟨C, 0, none⟩) 4096 4096) := by rcases hW_ with rfl | h_ <;> first | exact b0 | exact (hP1 _ h_).1
          have z1_ : W_.cell? ⟨B, 1, none⟩ = some (.iface 148 (.pointer (some ⟨R, 0, none⟩))) := by rcases hW_ with rfl | h_ <;> first | exact b1 | exact (hP1 _ h_).2.1
          have z3_ : W_.cell? ⟨B, 3, none⟩ = some (.int .i64 (n : Int)) := by rcases hW_ with rfl | h_ <;> first | exact b3 | exact (hP1 _ h_).2.2
          clear hW_
          rcases (show i_ = 0 ∨ i_ = 1 ∨ i_ = 2 ∨ i_ = 3 ∨ i_ = 4 ∨ i_ = 5 ∨ i_ = 6 ∨ i_ = 7 ∨ i_ = 8 ∨ i_ = 9 ∨ i_ = 10 ∨ i_ = 11 ∨ i_ = 12 ∨ i_ = 13 ∨ i_ = 14 ∨ i_ = 15 ∨ i_ = 16 ∨ i_ = 17 ∨ i_ = 18 ∨ i_ = 19 from by have : i_ < 20 := hi_; omega) with rfl | rfl | rfl | rfl | rfl | rfl | rfl | rfl | rfl | rfl | rfl | rfl | rfl | rfl | rfl | rfl | rfl | rfl | rfl | rfl
          · refine ⟨_, rfl, rfl, fun _ => rfl, ?_⟩
            have g0_ : s_ 0 = _ := hs_.old 0 (by intro k hk e; first | exact absurd e (by revert k; decide) | (revert k; decide))
            clear hs_
            first | (simp [execOp, mkN_eval, Result.andThen, *]; done) | (go_simp; simp [mkN_get, Result.andThen, *]; done)
          · refine ⟨_, rfl, rfl, fun _ => rfl, ?_⟩
            have g58_ : s_ 58 = (.pointer (some ⟨B, 0, none⟩)) := hs_.got 0 (by decide) (by decide)
            clear hs_
            first | (simp [execOp, mkN_eval, Result.andThen, *]; done) | (go_simp; simp [mkN_get, Result.andThen, *]; done)
          · refine ⟨_, rfl, rfl, fun _ => rfl, ?_⟩
            have g59_ : s_ 59 = (.pointer (some ⟨B, 0, none⟩)) := hs_.got 1 (by decide) (by decide)
            clear hs_
            first | (simp [execOp, mkN_eval, Result.andThen, *]; done) | (go_simp; simp [mkN_get, Result.andThen, *]; done)
          · refine ⟨_, rfl, rfl, fun _ => rfl, ?_⟩
            have g60_ : s_ 60 = (.pointer (some ⟨B, 1, none⟩)) := hs_.got 2 (by decide) (by decide)
            clear hs_
            first | (simp [execOp, mkN_eval, Result.andThen, *]; done) | (go_simp; simp [mkN_get, Result.andThen, *]; done)
          · refine ⟨_, rfl, rfl, fun _ => rfl, ?_⟩
            have g0_ : s_ 0 = _ := hs_.old 0 (by intro k hk e; first | exact absurd e (by revert k; decide) | (revert k; decide))
            clear hs_
            first | (simp [execOp, mkN_eval, Result.andThen, *]; done) | (go_simp; simp [mkN_get, Result.andThen, *]; done)
          · refine ⟨_, rfl, rfl, fun _ => rfl, ?_⟩
            have g62_ : s_ 62 = (.pointer (some ⟨B, 0, none⟩)) := hs_.got 4 (by decide) (by decide)
            clear hs_
            first | (simp [execOp, mkN_eval, Result.andThen, *]; done) | (go_simp; simp [mkN_get, Result.andThen, *]; done)
          · refine ⟨_, rfl, rfl, fun _ => rfl, ?_⟩
            have g63_ : s_ 63 = (.pointer (some ⟨B, 0, none⟩)) := hs_.got 5 (by decide) (by decide)
            clear hs_
            first | (simp [execOp, mkN_eval, Result.andThen, *]; done) | (go_simp; simp [mkN_get, Result.andThen, *]; done)
          · refine ⟨_, rfl, rfl, fun _ => rfl, ?_⟩
            have g64_ : s_ 64 = (.pointer (some ⟨B, 0, none⟩)) := hs_.got 6 (by decide) (by decide)
            clear hs_
            first | (simp [execOp, mkN_eval, Result.andThen, *]; done) | (go_simp; simp [mkN_get, Result.andThen, *]; done)
          · refine ⟨_, rfl, rfl, fun _ => rfl, ?_⟩
            have g0_ : s_ 0 = _ := hs_.old 0 (by intro k hk e; first | exact absurd e (by revert k; decide) | (revert k; decide))
            clear hs_
            first | (simp [execOp, mkN_eval, Result.andThen, *]; done) | (go_simp; simp [mkN_get, Result.andThen, *]; done)
          · refine ⟨_, rfl, rfl, fun _ => rfl, ?_⟩
            have g66_ : s_ 66 = (.pointer (some ⟨B, 0, none⟩)) := hs_.got 8 (by decide) (by decide)
            clear hs_
            first | (simp [execOp, mkN_eval, Result.andThen, *]; done) | (go_simp; simp [mkN_get, Result.andThen, *]; done)
          · refine ⟨_, rfl, rfl, fun _ => rfl, ?_⟩
            have g67_ : s_ 67 = (.pointer (some ⟨B, 0, none⟩)) := hs_.got 9 (by decide) (by decide)
            clear hs_
            first | (simp [execOp, mkN_eval, Result.andThen, *]; done) | (go_simp; simp [mkN_get, Result.andThen, *]; done)
          · refine ⟨_, rfl, rfl, fun _ => rfl, ?_⟩
            have g68_ : s_ 68 = (.pointer (some ⟨B, 3, none⟩)) := hs_.got 10 (by decide) (by decide)
            clear hs_
            first | (simp [execOp, mkN_eval, Result.andThen, *]; done) | (go_simp; simp [mkN_get, Result.andThen, *]; done)
          · refine ⟨_, rfl, rfl, fun _ => rfl, ?_⟩
            have g65_ : s_ 65 = (.slice (some ⟨C, 0, none⟩) 4096 4096) := hs_.got 7 (by decide) (by decide)
            have g69_ : s_ 69 = (.int .i64 (n : Int)) := hs_.got 11 (by decide) (by decide)
            clear hs_
            first | (simp [execOp, mkN_eval, Result.andThen, *]; done) | (go_simp; simp [mkN_get, Result.andThen, *]; done)
          · refine ⟨_, rfl, rfl, fun _ => rfl, ?_⟩
            have g61_ : s_ 61 = (.iface 148 (.pointer (some ⟨R, 0, none⟩))) := hs_.got 3 (by decide) (by decide)
            clear hs_
            first | (simp [execOp, mkN_eval, Result.andThen, *]; done) | (go_simp; simp [mkN_get, Result.andThen, *]; done)
          · refine ⟨_, rfl, rfl, fun _ => rfl, ?_⟩
            have g61_ : s_ 61 = (.iface 148 (.pointer (some ⟨R, 0, none⟩))) := hs_.got 3 (by decide) (by decide)
            clear hs_
            first | (simp [execOp, mkN_eval, Result.andThen, *]; done) | (go_simp; simp [mkN_get, Result.andThen, *]; done)
          · exact absurd rfl hic_
          · refine ⟨_, rfl, rfl, fun _ => rfl, ?_⟩
            have g73_ : s_ 73 = (.tuple #[.int .i64 (k : Int), .nilIface]) := hs_.got 15 (by decide) (by decide)
            clear hs_
            first | (simp [execOp, mkN_eval, Result.andThen, *]; done) | (go_simp; simp [mkN_get, Result.andThen, *]; done)
          · refine ⟨_, rfl, rfl, fun _ => rfl, ?_⟩
            have g57_ : s_ 57 = (.tuple #[.int .i64 (k : Int), .nilIface]) := hs_.got 16 (by decide) (by decide)
            clear hs_
            first | (simp [execOp, mkN_eval, Result.andThen, *]; done) | (go_simp; simp [mkN_get, Result.andThen, *]; done)
          · refine ⟨_, rfl, rfl, fun _ => rfl, ?_⟩
            have g57_ : s_ 57 = (.tuple #[.int .i64 (k : Int), .nilIface]) := hs_.got 16 (by decide) (by decide)
            clear hs_
            first | (simp [execOp, mkN_eval, Result.andThen, *]; done) | (go_simp; simp [mkN_get, Result.andThen, *]; done)
          · refine ⟨_, rfl, rfl, fun _ => rfl, ?_⟩
            have g74_ : s_ 74 = (.int .i64 (k : Int)) := hs_.got 17 (by decide) (by decide)
            clear hs_
            first | (simp [execOp, mkN_eval, Result.andThen, *]; done) | (go_simp; simp [mkN_get, Result.andThen, *]; done)
        · intro s_ hs_ K_ hK_
          have g70_ : s_ 70 = (.slice (some ⟨C, n, none⟩) (4096 - n) (4096 - n)) := hs_.got 12 (by decide) (by decide)
          have g72_ : s_ 72 = (.iface 148 (.pointer (some ⟨R, 0, none⟩))) := hs_.got 14 (by decide) (by decide)
          clear hs_
          refine wpOp_step rfl (fun K' hK => ?_)
          go_simp
          simp [mkN_get, g70_, g72_]
          go_invoke
          go_wp2_with (go_at_call 195; refine hrd.mono ?_; rintro e w3 ⟨rfl, hPr⟩)
          exact hPr
        · intro s_ W_ hP_ hv_ ho_
          have e75_ : s_ 75 = .nilIface := hv_ 18 (by decide)
          have e3_ : s_ 3 = .int .i64 (k : Int) := hv_ 19 (by decide)
          have e0_ : s_ 0 = .pointer (some ⟨B, 0, none⟩) := ho_ 0 (by decide)
          clear hv_ ho_
          refine YieldsIf.wpOp (S := fun x => x = W_) (v := .nilIface) rfl (Or.inl ⟨rfl, fun x hx => by simp [execOp, mkN_eval, e75_]⟩) rfl ?_
          show Exit.then _ _ .normal ((mkN 99 [] s_).put (some 4) _) W_
          rw [mkN_put _ _ _ (by decide), mk99_lit]
          simp only [updN_self, updN_ne (show 0 ≠ 4 by decide), updN_ne (show 3 ≠ 4 by decide), e0_, e3_]
          have hB3 := (hP0 _ hP_).trans H.out.bf
          have y3 : W_.cell? ⟨B, 3, none⟩ = some (.int .i64 (n : Int)) := cell_of hB3 (i := 3) rfl
          have y4 : W_.cell? ⟨B, 4, none⟩ = some .nilIface := cell_of hB3 (i := 4) rfl
          have yf : ∀ j, W_.frozen? ⟨B, j, none⟩ = false := frozen_of hB3
          generalize updN s_ 4 (.nilIface) = t_
          have H3 := Aside0.mk hB3
          clear b0 b1 b2 b3 fb hrd hsl hP1 hP0 hB3
          obtain ⟨hR3, hC3, hT3⟩ := hP_
          have H4 := Aside0.mk (And.intro hR3 hC3)
          clear hR3 hC3
          go_wp2
          refine bodyPost_ret (results_none rfl _ _ _) rfl ?_
          refine ⟨rfl, spliced bs n k s i, k, .nilIface, ?_, ?_, fun _ => ⟨hk0, rfl⟩, fun e => absurd e (by omega), ?_⟩
          · exact { rd := ⟨-1, (Below.heap_setCell W_ ⟨B, 3, none⟩ _ R H.out.rb).trans H4.out.1⟩, bf := heap_put H3.out 3 _ (by simp <;> omega), cs := (Below.heap_setCell W_ ⟨B, 3, none⟩ _ C (fun e => H.out.bc e.symm)).trans H4.out.2, len := spliced_len H.out.len (by omega) hk2, rn := Nat.zero_le _, n4 := by omega, is := by omega, ss := H.out.ss, rb := H.out.rb, rc := H.out.rc, bc := H.out.bc }
          · rw [hmx]; rw [← htk, spliced_take H.out.len (by omega) hk2]
          · exact (hT0.trans (((Turn.refl _ _).drew.drew).trans (hT3.more (by simp)))).setCell _ _ (by simp)
      · obtain ⟨p, hp⟩ := H.out.rd
        have hie : (s.size : Int) ≤ (i : Int) := by omega
        have hrd := rd_read_eof W.drew.drew R s (i : Int) p (eofV pe) hp hie hEx (.slice (some ⟨C, n, none⟩) (4096 - n) (4096 - n))
        have hsl : ∀ w : World, (Instr.slice 121 (.slice (some ⟨C, 0, none⟩) 4096 4096) (some (.int .i64 (n : Int))) none none).run Tryz.prog w = .ok (.slice (some ⟨C, n, none⟩) (4096 - n) (4096 - n)) w := fun w => run_slice_from C n (by omega) w
        let PW : World → Prop := fun w' => ∃ q, w' = W.drew.drew.drewN q
        have hP0 : ∀ w', PW w' → w'.heap[B]? = W.heap[B]? := by
          rintro w' ⟨q, rfl⟩
          rfl
        have hP1 : ∀ w', PW w' → w'.cell? ⟨B, 0, none⟩ = some (.slice (some ⟨C, 0, none⟩) 4096 4096) ∧ w'.cell? ⟨B, 1, none⟩ = some (.iface 148 (.pointer (some ⟨R, 0, none⟩))) ∧ w'.cell? ⟨B, 3, none⟩ = some (.int .i64 (n : Int)) := fun w' h => ⟨cell_of ((hP0 w' h).trans H.out.bf) (i := 0) rfl, cell_of ((hP0 w' h).trans H.out.bf) (i := 1) rfl, cell_of ((hP0 w' h).trans H.out.bf) (i := 3) rfl⟩
        refine at_mkN (n := 99) (d := []) rfl rfl ?_
        refine region_once (by kernel_rfl) [58, 59, 60, 61, 62, 63, 64, 65, 66, 67, 68, 69, 70, 71, 72, 73, 57, 74, 75, 3] (fun k_ => ([(.pointer (some ⟨B, 0, none⟩)), (.pointer (some ⟨B, 0, none⟩)), (.pointer (some ⟨B, 1, none⟩)), (.iface 148 (.pointer (some ⟨R, 0, none⟩))), (.pointer (some ⟨B, 0, none⟩)), (.pointer (some ⟨B, 0, none⟩)), (.pointer (some ⟨B, 0, none⟩)), (.slice (some ⟨C, 0, none⟩) 4096 4096), (.pointer (some ⟨B, 0, none⟩)), (.pointer (some ⟨B, 0, none⟩)), (.pointer (some ⟨B, 3, none⟩)), (.int .i64 (n : Int)), (.slice (some ⟨C, n, none⟩) (4096 - n) (4096 - n)), (.iface 148 (.pointer (some ⟨R, 0, none⟩))), (.iface 148 (.pointer (some ⟨R, 0, none⟩))), (.tuple #[.int .i64 0, .iface 179 (.pointer (some pe))]), (.tuple #[.int .i64 0, .iface 179 (.pointer (some pe))]), (.int .i64 0), (.iface 179 (.pointer (some pe))), (.int .i64 0)] : List Value).getD k_ undef) 15 (PW) [[], [0], [1], [2], [], [4], [5], [6], [], [8], [9], [10], [7, 11], [3], [3, 13], [14, 12], [15], [16], [16], [17, 15, 0, 1, 2, 3, 4, 5, 6, 7, 8, 9, 10, 11, 12, 13, 14, 15, 16, 17], [18, 19, 0, 1, 2, 3, 4, 5, 6, 7, 8, 9, 10, 11, 12, 13, 14, 15, 16, 17, 18, 19]] (by kernel_rfl) (by decide) rfl (by decide) (by decide) (by decide) (by decide) ?_ ?_ ?_
        · intro i_ hi_ hic_ s_ W_ hW_ hs_
          have z0_ : W_.cell? ⟨B, 0, none⟩ = some (.slice (some ⟨C, 0, none⟩) 4096 4096) := by rcases hW_ with rfl | h_ <;> first | exact b0 | exact (hP1 _ h_).1
          have z1_ : W_.cell? ⟨B, 1, none⟩ = some (.iface 148 (.pointer (some ⟨R, 0, none⟩))) := by rcases hW_ with rfl | h_ <;> first | exact b1 | exact (hP1 _ h_).2.1
          have z3_ : W_.cell? ⟨B, 3, none⟩ = some (.int .i64 (n : Int)) := by rcases hW_ with rfl | h_ <;> first | exact b3 | exact (hP1 _ h_).2.2
          clear hW_
          rcases (show i_ = 0 ∨ i_ = 1 ∨ i_ = 2 ∨ i_ = 3 ∨ i_ = 4 ∨ i_ = 5 ∨ i_ = 6 ∨ i_ = 7 ∨ i_ = 8 ∨ i_ = 9 ∨ i_ = 10 ∨ i_ = 11 ∨ i_ = 12 ∨ i_ = 13 ∨ i_ = 14 ∨ i_ = 15 ∨ i_ = 16 ∨ i_ = 17 ∨ i_ = 18 ∨ i_ = 19 from by have : i_ < 20 := hi_; omega) with rfl | rfl | rfl | rfl | rfl | rfl | rfl | rfl | rfl | rfl | rfl | rfl | rfl | rfl | rfl | rfl | rfl | rfl | rfl | rfl
          · refine ⟨_, rfl, rfl, fun _ => rfl, ?_⟩
            have g0_ : s_ 0 = _ := hs_.old 0 (by intro k hk e; first | exact absurd e (by revert k; decide) | (revert k; decide))
            clear hs_
            first | (simp [execOp, mkN_eval, Result.andThen, *]; done) | (go_simp; simp [mkN_get, Result.andThen, *]; done)
          · refine ⟨_, rfl, rfl, fun _ => rfl, ?_⟩
            have g58_ : s_ 58 = (.pointer (some ⟨B, 0, none⟩)) := hs_.got 0 (by decide) (by decide)
            clear hs_
            first | (simp [execOp, mkN_eval, Result.andThen, *]; done) | (go_simp; simp [mkN_get, Result.andThen, *]; done)
          · refine ⟨_, rfl, rfl, fun _ => rfl, ?_⟩
            have g59_ : s_ 59 = (.pointer (some ⟨B, 0, none⟩)) := hs_.got 1 (by decide) (by decide)
            clear hs_
            first | (simp [execOp, mkN_eval, Result.andThen, *]; done) | (go_simp; simp [mkN_get, Result.andThen, *]; done)
          · refine ⟨_, rfl, rfl, fun _ => rfl, ?_⟩
            have g60_ : s_ 60 = (.pointer (some ⟨B, 1, none⟩)) := hs_.got 2 (by decide) (by decide)
            clear hs_
            first | (simp [execOp, mkN_eval, Result.andThen, *]; done) | (go_simp; simp [mkN_get, Result.andThen, *]; done)
          · refine ⟨_, rfl, rfl, fun _ => rfl, ?_⟩
            have g0_ : s_ 0 = _ := hs_.old 0 (by intro k hk e; first | exact absurd e (by revert k; decide) | (revert k; decide))
            clear hs_
            first | (simp [execOp, mkN_eval, Result.andThen, *]; done) | (go_simp; simp [mkN_get, Result.andThen, *]; done)
          · refine ⟨_, rfl, rfl, fun _ => rfl, ?_⟩
            have g62_ : s_ 62 = (.pointer (some ⟨B, 0, none⟩)) := hs_.got 4 (by decide) (by decide)
            clear hs_
            first | (simp [execOp, mkN_eval, Result.andThen, *]; done) | (go_simp; simp [mkN_get, Result.andThen, *]; done)
          · refine ⟨_, rfl, rfl, fun _ => rfl, ?_⟩
            have g63_ : s_ 63 = (.pointer (some ⟨B, 0, none⟩)) := hs_.got 5 (by decide) (by decide)
            clear hs_
            first | (simp [execOp, mkN_eval, Result.andThen, *]; done) | (go_simp; simp [mkN_get, Result.andThen, *]; done)
          · refine ⟨_, rfl, rfl, fun _ => rfl, ?_⟩
            have g64_ : s_ 64 = (.pointer (some ⟨B, 0, none⟩)) := hs_.got 6 (by decide) (by decide)
            clear hs_
            first | (simp [execOp, mkN_eval, Result.andThen, *]; done) | (go_simp; simp [mkN_get, Result.andThen, *]; done)
          · refine ⟨_, rfl, rfl, fun _ => rfl, ?_⟩
            have g0_ : s_ 0 = _ := hs_.old 0 (by intro k hk e; first | exact absurd e (by revert k; decide) | (revert k; decide))
            clear hs_
            first | (simp [execOp, mkN_eval, Result.andThen, *]; done) | (go_simp; simp [mkN_get, Result.andThen, *]; done)
          · refine ⟨_, rfl, rfl, fun _ => rfl, ?_⟩
            have g66_ : s_ 66 = (.pointer (some ⟨B, 0, none⟩)) := hs_.got 8 (by decide) (by decide)
            clear hs_
            first | (simp [execOp, mkN_eval, Result.andThen, *]; done) | (go_simp; simp [mkN_get, Result.andThen, *]; done)
          · refine ⟨_, rfl, rfl, fun _ => rfl, ?_⟩
            have g67_ : s_ 67 = (.pointer (some ⟨B, 0, none⟩)) := hs_.got 9 (by decide) (by decide)
            clear hs_
            first | (simp [execOp, mkN_eval, Result.andThen, *]; done) | (go_simp; simp [mkN_get, Result.andThen, *]; done)
          · refine ⟨_, rfl, rfl, fun _ => rfl, ?_⟩
            have g68_ : s_ 68 = (.pointer (some ⟨B, 3, none⟩)) := hs_.got 10 (by decide) (by decide)
            clear hs_
            first | (simp [execOp, mkN_eval, Result.andThen, *]; done) | (go_simp; simp [mkN_get, Result.andThen, *]; done)
          · refine ⟨_, rfl, rfl, fun _ => rfl, ?_⟩
            have g65_ : s_ 65 = (.slice (some ⟨C, 0, none⟩) 4096 4096) := hs_.got 7 (by decide) (by decide)
            have g69_ : s_ 69 = (.int .i64 (n : Int)) := hs_.got 11 (by decide) (by decide)
            clear hs_
            first | (simp [execOp, mkN_eval, Result.andThen, *]; done) | (go_simp; simp [mkN_get, Result.andThen, *]; done)
          · refine ⟨_, rfl, rfl, fun _ => rfl, ?_⟩
            have g61_ : s_ 61 = (.iface 148 (.pointer (some ⟨R, 0, none⟩))) := hs_.got 3 (by decide) (by decide)
            clear hs_
            first | (simp [execOp, mkN_eval, Result.andThen, *]; done) | (go_simp; simp [mkN_get, Result.andThen, *]; done)
          · refine ⟨_, rfl, rfl, fun _ => rfl, ?_⟩
            have g61_ : s_ 61 = (.iface 148 (.pointer (some ⟨R, 0, none⟩))) := hs_.got 3 (by decide) (by decide)
            clear hs_
            first | (simp [execOp, mkN_eval, Result.andThen, *]; done) | (go_simp; simp [mkN_get, Result.andThen, *]; done)
          · exact absurd rfl hic_
          · refine ⟨_, rfl, rfl, fun _ => rfl, ?_⟩
            have g73_ : s_ 73 = (.tuple #[.int .i64 0, .iface 179 (.pointer (some pe))]) := hs_.got 15 (by decide) (by decide)
            clear hs_
            first | (simp [execOp, mkN_eval, Result.andThen, *]; done) | (go_simp; simp [mkN_get, Result.andThen, *]; done)
          · refine ⟨_, rfl, rfl, fun _ => rfl, ?_⟩
            have g57_ : s_ 57 = (.tuple #[.int .i64 0, .iface 179 (.pointer (some pe))]) := hs_.got 16 (by decide) (by decide)
            clear hs_
            first | (simp [execOp, mkN_eval, Result.andThen, *]; done) | (go_simp; simp [mkN_get, Result.andThen, *]; done)
          · refine ⟨_, rfl, rfl, fun _ => rfl, ?_⟩
            have g57_ : s_ 57 = (.tuple #[.int .i64 0, .iface 179 (.pointer (some pe))]) := hs_.got 16 (by decide) (by decide)
            clear hs_
            first | (simp [execOp, mkN_eval, Result.andThen, *]; done) | (go_simp; simp [mkN_get, Result.andThen, *]; done)
          · refine ⟨_, rfl, rfl, fun _ => rfl, ?_⟩
            have g74_ : s_ 74 = (.int .i64 0) := hs_.got 17 (by decide) (by decide)
            clear hs_
            first | (simp [execOp, mkN_eval, Result.andThen, *]; done) | (go_simp; simp [mkN_get, Result.andThen, *]; done)
        · intro s_ hs_ K_ hK_
          have g70_ : s_ 70 = (.slice (some ⟨C, n, none⟩) (4096 - n) (4096 - n)) := hs_.got 12 (by decide) (by decide)
          have g72_ : s_ 72 = (.iface 148 (.pointer (some ⟨R, 0, none⟩))) := hs_.got 14 (by decide) (by decide)
          clear hs_
          refine wpOp_step rfl (fun K' hK => ?_)
          go_simp
          simp [mkN_get, g70_, g72_]
          go_invoke
          go_wp2_with (go_at_call 195; refine hrd.mono ?_; rintro e w3 ⟨rfl, hPr⟩)
          exact hPr
        · intro s_ W_ hP_ hv_ ho_
          have e75_ : s_ 75 = .iface 179 (.pointer (some pe)) := hv_ 18 (by decide)
          have e3_ : s_ 3 = .int .i64 0 := hv_ 19 (by decide)
          have e0_ : s_ 0 = .pointer (some ⟨B, 0, none⟩) := ho_ 0 (by decide)
          clear hv_ ho_
          refine YieldsIf.wpOp (S := fun x => x = W_) (v := .iface 179 (.pointer (some pe))) rfl (Or.inl ⟨rfl, fun x hx => by simp [execOp, mkN_eval, e75_]⟩) rfl ?_
          show Exit.then _ _ .normal ((mkN 99 [] s_).put (some 4) _) W_
          rw [mkN_put _ _ _ (by decide), mk99_lit]
          simp only [updN_self, updN_ne (show 0 ≠ 4 by decide), updN_ne (show 3 ≠ 4 by decide), e0_, e3_]
          have hB3 := (hP0 _ hP_).trans H.out.bf
          have y3 : W_.cell? ⟨B, 3, none⟩ = some (.int .i64 (n : Int)) := cell_of hB3 (i := 3) rfl
          have y4 : W_.cell? ⟨B, 4, none⟩ = some .nilIface := cell_of hB3 (i := 4) rfl
          have yf : ∀ j, W_.frozen? ⟨B, j, none⟩ = false := frozen_of hB3
          generalize updN s_ 4 (.iface 179 (.pointer (some pe))) = t_
          have H3 := Aside0.mk hB3
          clear b0 b1 b2 b3 fb hrd hsl hP1 hP0 hB3
          obtain ⟨q, hq⟩ := hP_
          have hT3 : Turn [R, B, C] W W_ := by rw [hq]; exact (((Turn.refl _ _).drew.drew).drewN q)
          have hR3 : ∃ p, W_.heap[R]? = some (.cells #[.string s, .int .i64 (i : Int), .int .i64 p] 177 (0, 0)) := ⟨p, by rw [hq]; exact hp⟩
          have hC3 : W_.heap[C]? = some (.cells (cellsOf bs) 5 (0, 0)) := by rw [hq]; exact H.out.cs
          clear hq
          have H4 := Aside0.mk (And.intro hR3 hC3)
          clear hR3 hC3
          go_wp2
          refine bodyPost_ret (results_none rfl _ _ _) rfl ?_
          refine ⟨rfl, bs, 0, eofV pe, ?_, ?_, fun e => absurd e (by omega), fun _ => ⟨rfl, rfl⟩, ?_⟩
          · obtain ⟨⟨p', hp'⟩, hC'⟩ := H4.out
            exact { rd := ⟨p', (Below.heap_setCell _ ⟨B, 4, none⟩ _ R H.out.rb).trans ((Below.heap_setCell _ ⟨B, 3, none⟩ _ R H.out.rb).trans hp')⟩, bf := heap_put (heap_put H3.out 3 _ rfl) 4 _ (by simp [eofV] <;> omega), cs := (Below.heap_setCell _ ⟨B, 4, none⟩ _ C (fun e => H.out.bc e.symm)).trans ((Below.heap_setCell _ ⟨B, 3, none⟩ _ C (fun e => H.out.bc e.symm)).trans hC'), len := H.out.len, rn := Nat.zero_le _, n4 := by omega, is := by omega, ss := H.out.ss, rb := H.out.rb, rc := H.out.rc, bc := H.out.bc }
          · rw [hmx]; first | (simp [numsOf]; done) | (simpa [numsOf] using htk)
          · exact ((hT0.trans hT3).setCell _ _ (by simp)).setCell _ _ (by simp)
  · obtain ⟨A', W1, hsl1, hcp1, hC1, hk1, hT1⟩ := slide W.drew C r n bs H.out.cs H.out.len h1 h2
    go_upto_region 1 with (fail)
    go_still_tail 17, (by kernel_rfl)
    change wpList _ _ _ _ _ W.drew
    have hB1 := (hk1 B H.out.bc).trans H.out.bf
    have c2 : W1.cell? ⟨B, 2, none⟩ = some (.int .i64 (r : Int)) := cell_of hB1 (i := 2) rfl
    have c3 : W1.cell? ⟨B, 3, none⟩ = some (.int .i64 (n : Int)) := cell_of hB1 (i := 3) rfl
    have cf : ∀ j, W1.frozen? ⟨B, j, none⟩ = false := frozen_of hB1
    clear b0 b1 b2 b3 b4 fb
    go_upto_region 2 with (fail)
    go_region
    go_upto_region 4 with (fail)
    obtain ⟨m, hm0⟩ : ∃ m, m = n - r := ⟨_, rfl⟩
    have hnr : (n : Int) - (r : Int) = (m : Int) := by omega
    rw [hnr]
    have hml : ((bs.take n).drop r).length = m := by rw [List.length_drop, List.length_take, H.out.len]; omega
    have hl2 : ((bs.take n).drop r ++ bs.drop (n - r)).length = 4096 := by rw [List.length_append, hml, List.length_drop, H.out.len]; omega
    have htk : ((bs.take n).drop r ++ bs.drop (n - r)).take m = (bs.take n).drop r := by rw [List.take_append_of_le_length (by omega), List.take_of_length_le (by omega)]
    have hT2 : Turn [R, B, C] W ((W1.setCell ⟨B, 3, none⟩ (.int .i64 (m : Int))).setCell ⟨B, 2, none⟩ (.int .i64 0)).drew := ((((Turn.refl _ _).drew.trans (hT1.more (by simp))).setCell _ _ (by simp)).setCell _ _ (by simp)).drew
    have H2 := Aside0.mk (show RD ((W1.setCell ⟨B, 3, none⟩ (.int .i64 (m : Int))).setCell ⟨B, 2, none⟩ (.int .i64 0)).drew R B C s i ((bs.take n).drop r ++ bs.drop (n - r)) 0 m .nilIface lb lr from
      { rd := by obtain ⟨p, hp⟩ := H.out.rd; exact ⟨p, (Below.heap_setCell _ ⟨B, 2, none⟩ _ R H.out.rb).trans ((Below.heap_setCell _ ⟨B, 3, none⟩ _ R H.out.rb).trans ((hk1 R H.out.rc).trans hp))⟩,
        bf := heap_put (heap_put hB1 3 _ rfl) 2 _ rfl, cs := (Below.heap_setCell _ ⟨B, 2, none⟩ _ C (fun e => H.out.bc e.symm)).trans ((Below.heap_setCell _ ⟨B, 3, none⟩ _ C (fun e => H.out.bc e.symm)).trans hC1), len := hl2, rn := Nat.zero_le _, n4 := by omega, is := h3, ss := H.out.ss, rb := H.out.rb, rc := H.out.rc, bc := H.out.bc })
    generalize ((W1.setCell ⟨B, 3, none⟩ (.int .i64 (m : Int))).setCell ⟨B, 2, none⟩ (.int .i64 0)).drew = W2 at *
    generalize (bs.take n).drop r ++ bs.drop (n - r) = bs2 at *
    have hEx : W2.cell? ⟨2, 0, none⟩ = some (eofV pe) := by
      have hb := hT2.block 2 (World.block_lt_of_cell? W _ hE) (by simp; exact hg)
      unfold World.cell? at hE ⊢
      rw [hb]; exact hE
    have hmn : m < 4096 := by omega
    have hm : (m : Int) < 4096 := by omega
    have hmx : n - r = m := hm0.symm
    clear c2 c3 cf hsl1 hcp1 hk1 hC1 hB1 hT1 hml hl2 hnr hm0
    rw [← hmx] at htk
    rw [hmx] at htk
    have b0 : W2.cell? ⟨B, 0, none⟩ = some (.slice (some ⟨C, 0, none⟩) 4096 4096) := cell_of H2.out.bf (i := 0) rfl
    have b1 : W2.cell? ⟨B, 1, none⟩ = some (.iface 148 (.pointer (some ⟨R, 0, none⟩))) := cell_of H2.out.bf (i := 1) rfl
    have b2 : W2.cell? ⟨B, 2, none⟩ = some (.int .i64 0) := cell_of H2.out.bf (i := 2) rfl
    have b3 : W2.cell? ⟨B, 3, none⟩ = some (.int .i64 (m : Int)) := cell_of H2.out.bf (i := 3) rfl
    have b4 : W2.cell? ⟨B, 4, none⟩ = some (.nilIface) := cell_of H2.out.bf (i := 4) rfl
    have fb : ∀ j, W2.frozen? ⟨B, j, none⟩ = false := frozen_of H2.out.bf
    go_upto_region 4 with (fail)
    go_region
    go_wp2
    go_loopw [2] (fun v2 wr => v2 = .int .i64 100 ∧ wr = W2.drew) (fun _ _ => 0)
    case atStart => exact ⟨rfl, rfl⟩
    case round =>
      obtain ⟨rfl, rfl⟩ := hrel
      go_wp2
      by_cases hi : i < s.size
      · obtain ⟨p, hp⟩ := H2.out.rd
        have hrd := rd_read W2.drew.drew R C s i m p bs2 hp hi H2.out.ss H2.out.cs H2.out.len (by omega) H2.out.rc
        have hsl : ∀ w : World, (Instr.slice 121 (.slice (some ⟨C, 0, none⟩) 4096 4096) (some (.int .i64 (m : Int))) none none).run Tryz.prog w = .ok (.slice (some ⟨C, m, none⟩) (4096 - m) (4096 - m)) w := fun w => run_slice_from C m (by omega) w
        have hk0 : 0 < Nat.min (s.size - i) (4096 - m) := Nat.lt_min.2 ⟨by omega, by omega⟩
        have hk1 : Nat.min (s.size - i) (4096 - m) ≤ 4096 - m := Nat.min_le_right ..
        have hk2 : Nat.min (s.size - i) (4096 - m) ≤ s.size - i := Nat.min_le_left ..
        generalize hk : Nat.min (s.size - i) (4096 - m) = k at *
        let PW : World → Prop := fun w' => w'.heap[R]? = some (.cells #[.string s, .int .i64 ((i + k : Nat) : Int), .int .i64 (-1)] 177 (0, 0)) ∧ w'.heap[C]? = some (.cells (cellsOf (spliced bs2 m k s i)) 5 (0, 0)) ∧ Turn [R, C] W2.drew.drew w'
        have hP0 : ∀ w', PW w' → w'.heap[B]? = W2.heap[B]? := by
          rintro w' ⟨_, _, hT⟩
          exact hT.block B (gotlt H2.out.bf) (by simp; exact ⟨fun e => H2.out.rb e.symm, H2.out.bc⟩)
        have hP1 : ∀ w', PW w' → w'.cell? ⟨B, 0, none⟩ = some (.slice (some ⟨C, 0, none⟩) 4096 4096) ∧ w'.cell? ⟨B, 1, none⟩ = some (.iface 148 (.pointer (some ⟨R, 0, none⟩))) ∧ w'.cell? ⟨B, 3, none⟩ = some (.int .i64 (m : Int)) := fun w' h => ⟨cell_of ((hP0 w' h).trans H2.out.bf) (i := 0) rfl, cell_of ((hP0 w' h).trans H2.out.bf) (i := 1) rfl, cell_of ((hP0 w' h).trans H2.out.bf) (i := 3) rfl⟩
        refine at_mkN (n := 99) (d := []) rfl rfl ?_
        refine region_once (by kernel_rfl) [58, 59, 60, 61, 62, 63, 64, 65, 66, 67, 68, 69, 70, 71, 72, 73, 57, 74, 75, 3] (fun k_ => ([(.pointer (some ⟨B, 0, none⟩)), (.pointer (some ⟨B, 0, none⟩)), (.pointer (some ⟨B, 1, none⟩)), (.iface 148 (.pointer (some ⟨R, 0, none⟩))), (.pointer (some ⟨B, 0, none⟩)), (.pointer (some ⟨B, 0, none⟩)), (.pointer (some ⟨B, 0, none⟩)), (.slice (some ⟨C, 0, none⟩) 4096 4096), (.pointer (some ⟨B, 0, none⟩)), (.pointer (some ⟨B, 0, none⟩)), (.pointer (some ⟨B, 3, none⟩)), (.int .i64 (m : Int)), (.slice (some ⟨C, m, none⟩) (4096 - m) (4096 - m)), (.iface 148 (.pointer (some ⟨R, 0, none⟩))), (.iface 148 (.pointer (some ⟨R, 0, none⟩))), (.tuple #[.int .i64 (k : Int), .nilIface]), (.tuple #[.int .i64 (k : Int), .nilIface]), (.int .i64 (k : Int)), (.nilIface), (.int .i64 (k : Int))] : List Value).getD k_ undef) 15 (PW) [[], [0], [1], [2], [], [4], [5], [6], [], [8], [9], [10], [7, 11], [3], [3, 13], [14, 12], [15], [16], [16], [17, 15, 0, 1, 2, 3, 4, 5, 6, 7, 8, 9, 10, 11, 12, 13, 14, 15, 16, 17], [18, 19, 0, 1, 2, 3, 4, 5, 6, 7, 8, 9, 10, 11, 12, 13, 14, 15, 16, 17, 18, 19]] (by kernel_rfl) (by decide) rfl (by decide) (by decide) (by decide) (by decide) ?_ ?_ ?_
        · intro i_ hi_ hic_ s_ W_ hW_ hs_
          have z0_ : W_.cell? ⟨B, 0, none⟩ = some (.slice (some ⟨C, 0, none⟩) 4096 4096) := by rcases hW_ with rfl | h_ <;> first | exact b0 | exact (hP1 _ h_).1
          have z1_ : W_.cell? ⟨B, 1, none⟩ = some (.iface 148 (.pointer (some ⟨R, 0, none⟩))) := by rcases hW_ with rfl | h_ <;> first | exact b1 | exact (hP1 _ h_).2.1
          have z3_ : W_.cell? ⟨B, 3, none⟩ = some (.int .i64 (m : Int)) := by rcases hW_ with rfl | h_ <;> first | exact b3 | exact (hP1 _ h_).2.2
          clear hW_
          rcases (show i_ = 0 ∨ i_ = 1 ∨ i_ = 2 ∨ i_ = 3 ∨ i_ = 4 ∨ i_ = 5 ∨ i_ = 6 ∨ i_ = 7 ∨ i_ = 8 ∨ i_ = 9 ∨ i_ = 10 ∨ i_ = 11 ∨ i_ = 12 ∨ i_ = 13 ∨ i_ = 14 ∨ i_ = 15 ∨ i_ = 16 ∨ i_ = 17 ∨ i_ = 18 ∨ i_ = 19 from by have : i_ < 20 := hi_; omega) with rfl | rfl | rfl | rfl | rfl | rfl | rfl | rfl | rfl | rfl | rfl | rfl | rfl | rfl | rfl | rfl | rfl | rfl | rfl | rfl
          · refine ⟨_, rfl, rfl, fun _ => rfl, ?_⟩
            have g0_ : s_ 0 = _ := hs_.old 0 (by intro k hk e; first | exact absurd e (by revert k; decide) | (revert k; decide))
            clear hs_
            first | (simp [execOp, mkN_eval, Result.andThen, *]; done) | (go_simp; simp [mkN_get, Result.andThen, *]; done)
          · refine ⟨_, rfl, rfl, fun _ => rfl, ?_⟩
            have g58_ : s_ 58 = (.pointer (some ⟨B, 0, none⟩)) := hs_.got 0 (by decide) (by decide)
            clear hs_
            first | (simp [execOp, mkN_eval, Result.andThen, *]; done) | (go_simp; simp [mkN_get, Result.andThen, *]; done)
          · refine ⟨_, rfl, rfl, fun _ => rfl, ?_⟩
            have g59_ : s_ 59 = (.pointer (some ⟨B, 0, none⟩)) := hs_.got 1 (by decide) (by decide)
            clear hs_
            first | (simp [execOp, mkN_eval, Result.andThen, *]; done) | (go_simp; simp [mkN_get, Result.andThen, *]; done)
          · refine ⟨_, rfl, rfl, fun _ => rfl, ?_⟩
            have g60_ : s_ 60 = (.pointer (some ⟨B, 1, none⟩)) := hs_.got 2 (by decide) (by decide)
            clear hs_
            first | (simp [execOp, mkN_eval, Result.andThen, *]; done) | (go_simp; simp [mkN_get, Result.andThen, *]; done)
          · refine ⟨_, rfl, rfl, fun _ => rfl, ?_⟩
            have g0_ : s_ 0 = _ := hs_.old 0 (by intro k hk e; first | exact absurd e (by revert k; decide) | (revert k; decide))
            clear hs_
            first | (simp [execOp, mkN_eval, Result.andThen, *]; done) | (go_simp; simp [mkN_get, Result.andThen, *]; done)
          · refine ⟨_, rfl, rfl, fun _ => rfl, ?_⟩
            have g62_ : s_ 62 = (.pointer (some ⟨B, 0, none⟩)) := hs_.got 4 (by decide) (by decide)
            clear hs_
            first | (simp [execOp, mkN_eval, Result.andThen, *]; done) | (go_simp; simp [mkN_get, Result.andThen, *]; done)
          · refine ⟨_, rfl, rfl, fun _ => rfl, ?_⟩
            have g63_ : s_ 63 = (.pointer (some ⟨B, 0, none⟩)) := hs_.got 5 (by decide) (by decide)
            clear hs_
            first | (simp [execOp, mkN_eval, Result.andThen, *]; done) | (go_simp; simp [mkN_get, Result.andThen, *]; done)
          · refine ⟨_, rfl, rfl, fun _ => rfl, ?_⟩
            have g64_ : s_ 64 = (.pointer (some ⟨B, 0, none⟩)) := hs_.got 6 (by decide) (by decide)
            clear hs_
            first | (simp [execOp, mkN_eval, Result.andThen, *]; done) | (go_simp; simp [mkN_get, Result.andThen, *]; done)
          · refine ⟨_, rfl, rfl, fun _ => rfl, ?_⟩
            have g0_ : s_ 0 = _ := hs_.old 0 (by intro k hk e; first | exact absurd e (by revert k; decide) | (revert k; decide))
            clear hs_
            first | (simp [execOp, mkN_eval, Result.andThen, *]; done) | (go_simp; simp [mkN_get, Result.andThen, *]; done)
          · refine ⟨_, rfl, rfl, fun _ => rfl, ?_⟩
            have g66_ : s_ 66 = (.pointer (some ⟨B, 0, none⟩)) := hs_.got 8 (by decide) (by decide)
            clear hs_
            first | (simp [execOp, mkN_eval, Result.andThen, *]; done) | (go_simp; simp [mkN_get, Result.andThen, *]; done)
          · refine ⟨_, rfl, rfl, fun _ => rfl, ?_⟩
            have g67_ : s_ 67 = (.pointer (some ⟨B, 0, none⟩)) := hs_.got 9 (by decide) (by decide)
            clear hs_
            first | (simp [execOp, mkN_eval, Result.andThen, *]; done) | (go_simp; simp [mkN_get, Result.andThen, *]; done)
          · refine ⟨_, rfl, rfl, fun _ => rfl, ?_⟩
            have g68_ : s_ 68 = (.pointer (some ⟨B, 3, none⟩)) := hs_.got 10 (by decide) (by decide)
            clear hs_
            first | (simp [execOp, mkN_eval, Result.andThen, *]; done) | (go_simp; simp [mkN_get, Result.andThen, *]; done)
          · refine ⟨_, rfl, rfl, fun _ => rfl, ?_⟩
            have g65_ : s_ 65 = (.slice (some ⟨C, 0, none⟩) 4096 4096) := hs_.got 7 (by decide) (by decide)
            have g69_ : s_ 69 = (.int .i64 (m : Int)) := hs_.got 11 (by decide) (by decide)
            clear hs_
            first | (simp [execOp, mkN_eval, Result.andThen, *]; done) | (go_simp; simp [mkN_get, Result.andThen, *]; done)
          · refine ⟨_, rfl, rfl, fun _ => rfl, ?_⟩
            have g61_ : s_ 61 = (.iface 148 (.pointer (some ⟨R, 0, none⟩))) := hs_.got 3 (by decide) (by decide)
            clear hs_
            first | (simp [execOp, mkN_eval, Result.andThen, *]; done) | (go_simp; simp [mkN_get, Result.andThen, *]; done)
          · refine ⟨_, rfl, rfl, fun _ => rfl, ?_⟩
            have g61_ : s_ 61 = (.iface 148 (.pointer (some ⟨R, 0, none⟩))) := hs_.got 3 (by decide) (by decide)
            clear hs_
            first | (simp [execOp, mkN_eval, Result.andThen, *]; done) | (go_simp; simp [mkN_get, Result.andThen, *]; done)
          · exact absurd rfl hic_
          · refine ⟨_, rfl, rfl, fun _ => rfl, ?_⟩
            have g73_ : s_ 73 = (.tuple #[.int .i64 (k : Int), .nilIface]) := hs_.got 15 (by decide) (by decide)
            clear hs_
            first | (simp [execOp, mkN_eval, Result.andThen, *]; done) | (go_simp; simp [mkN_get, Result.andThen, *]; done)
          · refine ⟨_, rfl, rfl, fun _ => rfl, ?_⟩
            have g57_ : s_ 57 = (.tuple #[.int .i64 (k : Int), .nilIface]) := hs_.got 16 (by decide) (by decide)
            clear hs_
            first | (simp [execOp, mkN_eval, Result.andThen, *]; done) | (go_simp; simp [mkN_get, Result.andThen, *]; done)
          · refine ⟨_, rfl, rfl, fun _ => rfl, ?_⟩
            have g57_ : s_ 57 = (.tuple #[.int .i64 (k : Int), .nilIface]) := hs_.got 16 (by decide) (by decide)
            clear hs_
            first | (simp [execOp, mkN_eval, Result.andThen, *]; done) | (go_simp; simp [mkN_get, Result.andThen, *]; done)
          · refine ⟨_, rfl, rfl, fun _ => rfl, ?_⟩
            have g74_ : s_ 74 = (.int .i64 (k : Int)) := hs_.got 17 (by decide) (by decide)
            clear hs_
            first | (simp [execOp, mkN_eval, Result.andThen, *]; done) | (go_simp; simp [mkN_get, Result.andThen, *]; done)
        · intro s_ hs_ K_ hK_
          have g70_ : s_ 70 = (.slice (some ⟨C, m, none⟩) (4096 - m) (4096 - m)) := hs_.got 12 (by decide) (by decide)
          have g72_ : s_ 72 = (.iface 148 (.pointer (some ⟨R, 0, none⟩))) := hs_.got 14 (by decide) (by decide)
          clear hs_
          refine wpOp_step rfl (fun K' hK => ?_)
          go_simp
          simp [mkN_get, g70_, g72_]
          go_invoke
          go_wp2_with (go_at_call 195; refine hrd.mono ?_; rintro e w3 ⟨rfl, hPr⟩)
          exact hPr
        · intro s_ W_ hP_ hv_ ho_
          have e75_ : s_ 75 = .nilIface := hv_ 18 (by decide)
          have e3_ : s_ 3 = .int .i64 (k : Int) := hv_ 19 (by decide)
          have e0_ : s_ 0 = .pointer (some ⟨B, 0, none⟩) := ho_ 0 (by decide)
          clear hv_ ho_
          refine YieldsIf.wpOp (S := fun x => x = W_) (v := .nilIface) rfl (Or.inl ⟨rfl, fun x hx => by simp [execOp, mkN_eval, e75_]⟩) rfl ?_
          show Exit.then _ _ .normal ((mkN 99 [] s_).put (some 4) _) W_
          rw [mkN_put _ _ _ (by decide), mk99_lit]
          simp only [updN_self, updN_ne (show 0 ≠ 4 by decide), updN_ne (show 3 ≠ 4 by decide), e0_, e3_]
          have hB3 := (hP0 _ hP_).trans H2.out.bf
          have y3 : W_.cell? ⟨B, 3, none⟩ = some (.int .i64 (m : Int)) := cell_of hB3 (i := 3) rfl
          have y4 : W_.cell? ⟨B, 4, none⟩ = some .nilIface := cell_of hB3 (i := 4) rfl
          have yf : ∀ j, W_.frozen? ⟨B, j, none⟩ = false := frozen_of hB3
          generalize updN s_ 4 (.nilIface) = t_
          have H3 := Aside0.mk hB3
          clear b0 b1 b2 b3 fb hrd hsl hP1 hP0 hB3
          obtain ⟨hR3, hC3, hT3⟩ := hP_
          have H4 := Aside0.mk (And.intro hR3 hC3)
          clear hR3 hC3
          go_wp2
          refine bodyPost_ret (results_none rfl _ _ _) rfl ?_
          refine ⟨rfl, spliced bs2 m k s i, k, .nilIface, ?_, ?_, fun _ => ⟨hk0, rfl⟩, fun e => absurd e (by omega), ?_⟩
          · exact { rd := ⟨-1, (Below.heap_setCell W_ ⟨B, 3, none⟩ _ R H2.out.rb).trans H4.out.1⟩, bf := heap_put H3.out 3 _ (by simp <;> omega), cs := (Below.heap_setCell W_ ⟨B, 3, none⟩ _ C (fun e => H2.out.bc e.symm)).trans H4.out.2, len := spliced_len H2.out.len (by omega) hk2, rn := Nat.zero_le _, n4 := by omega, is := by omega, ss := H2.out.ss, rb := H2.out.rb, rc := H2.out.rc, bc := H2.out.bc }
          · rw [hmx]; rw [← htk, spliced_take H2.out.len (by omega) hk2]
          · exact (hT2.trans (((Turn.refl _ _).drew.drew).trans (hT3.more (by simp)))).setCell _ _ (by simp)
      · obtain ⟨p, hp⟩ := H2.out.rd
        have hie : (s.size : Int) ≤ (i : Int) := by omega
        have hrd := rd_read_eof W2.drew.drew R s (i : Int) p (eofV pe) hp hie hEx (.slice (some ⟨C, m, none⟩) (4096 - m) (4096 - m))
        have hsl : ∀ w : World, (Instr.slice 121 (.slice (some ⟨C, 0, none⟩) 4096 4096) (some (.int .i64 (m : Int))) none none).run Tryz.prog w = .ok (.slice (some ⟨C, m, none⟩) (4096 - m) (4096 - m)) w := fun w => run_slice_from C m (by omega) w
        let PW : World → Prop := fun w' => ∃ q, w' = W2.drew.drew.drewN q
        have hP0 : ∀ w', PW w' → w'.heap[B]? = W2.heap[B]? := by
          rintro w' ⟨q, rfl⟩
          rfl
        have hP1 : ∀ w', PW w' → w'.cell? ⟨B, 0, none⟩ = some (.slice (some ⟨C, 0, none⟩) 4096 4096) ∧ w'.cell? ⟨B, 1, none⟩ = some (.iface 148 (.pointer (some ⟨R, 0, none⟩))) ∧ w'.cell? ⟨B, 3, none⟩ = some (.int .i64 (m : Int)) := fun w' h => ⟨cell_of ((hP0 w' h).trans H2.out.bf) (i := 0) rfl, cell_of ((hP0 w' h).trans H2.out.bf) (i := 1) rfl, cell_of ((hP0 w' h).trans H2.out.bf) (i := 3) rfl⟩
        refine at_mkN (n := 99) (d := []) rfl rfl ?_
        refine region_once (by kernel_rfl) [58, 59, 60, 61, 62, 63, 64, 65, 66, 67, 68, 69, 70, 71, 72, 73, 57, 74, 75, 3] (fun k_ => ([(.pointer (some ⟨B, 0, none⟩)), (.pointer (some ⟨B, 0, none⟩)), (.pointer (some ⟨B, 1, none⟩)), (.iface 148 (.pointer (some ⟨R, 0, none⟩))), (.pointer (some ⟨B, 0, none⟩)), (.pointer (some ⟨B, 0, none⟩)), (.pointer (some ⟨B, 0, none⟩)), (.slice (some ⟨C, 0, none⟩) 4096 4096), (.pointer (some ⟨B, 0, none⟩)), (.pointer (some ⟨B, 0, none⟩)), (.pointer (some ⟨B, 3, none⟩)), (.int .i64 (m : Int)), (.slice (some ⟨C, m, none⟩) (4096 - m) (4096 - m)), (.iface 148 (.pointer (some ⟨R, 0, none⟩))), (.iface 148 (.pointer (some ⟨R, 0, none⟩))), (.tuple #[.int .i64 0, .iface 179 (.pointer (some pe))]), (.tuple #[.int .i64 0, .iface 179 (.pointer (some pe))]), (.int .i64 0), (.iface 179 (.pointer (some pe))), (.int .i64 0)] : List Value).getD k_ undef) 15 (PW) [[], [0], [1], [2], [], [4], [5], [6], [], [8], [9], [10], [7, 11], [3], [3, 13], [14, 12], [15], [16], [16], [17, 15, 0, 1, 2, 3, 4, 5, 6, 7, 8, 9, 10, 11, 12, 13, 14, 15, 16, 17], [18, 19, 0, 1, 2, 3, 4, 5, 6, 7, 8, 9, 10, 11, 12, 13, 14, 15, 16, 17, 18, 19]] (by kernel_rfl) (by decide) rfl (by decide) (by decide) (by decide) (by decide) ?_ ?_ ?_
        · intro i_ hi_ hic_ s_ W_ hW_ hs_
          have z0_ : W_.cell? ⟨B, 0, none⟩ = some (.slice (some ⟨C, 0, none⟩) 4096 4096) := by rcases hW_ with rfl | h_ <;> first | exact b0 | exact (hP1 _ h_).1
          have z1_ : W_.cell? ⟨B, 1, none⟩ = some (.iface 148 (.pointer (some ⟨R, 0, none⟩))) := by rcases hW_ with rfl | h_ <;> first | exact b1 | exact (hP1 _ h_).2.1
          have z3_ : W_.cell? ⟨B, 3, none⟩ = some (.int .i64 (m : Int)) := by rcases hW_ with rfl | h_ <;> first | exact b3 | exact (hP1 _ h_).2.2
          clear hW_
          rcases (show i_ = 0 ∨ i_ = 1 ∨ i_ = 2 ∨ i_ = 3 ∨ i_ = 4 ∨ i_ = 5 ∨ i_ = 6 ∨ i_ = 7 ∨ i_ = 8 ∨ i_ = 9 ∨ i_ = 10 ∨ i_ = 11 ∨ i_ = 12 ∨ i_ = 13 ∨ i_ = 14 ∨ i_ = 15 ∨ i_ = 16 ∨ i_ = 17 ∨ i_ = 18 ∨ i_ = 19 from by have : i_ < 20 := hi_; omega) with rfl | rfl | rfl | rfl | rfl | rfl | rfl | rfl | rfl | rfl | rfl | rfl | rfl | rfl | rfl | rfl | rfl | rfl | rfl | rfl
          · refine ⟨_, rfl, rfl, fun _ => rfl, ?_⟩
            have g0_ : s_ 0 = _ := hs_.old 0 (by intro k hk e; first | exact absurd e (by revert k; decide) | (revert k; decide))
            clear hs_
            first | (simp [execOp, mkN_eval, Result.andThen, *]; done) | (go_simp; simp [mkN_get, Result.andThen, *]; done)
          · refine ⟨_, rfl, rfl, fun _ => rfl, ?_⟩
            have g58_ : s_ 58 = (.pointer (some ⟨B, 0, none⟩)) := hs_.got 0 (by decide) (by decide)
            clear hs_
            first | (simp [execOp, mkN_eval, Result.andThen, *]; done) | (go_simp; simp [mkN_get, Result.andThen, *]; done)
          · refine ⟨_, rfl, rfl, fun _ => rfl, ?_⟩
            have g59_ : s_ 59 = (.pointer (some ⟨B, 0, none⟩)) := hs_.got 1 (by decide) (by decide)
            clear hs_
            first | (simp [execOp, mkN_eval, Result.andThen, *]; done) | (go_simp; simp [mkN_get, Result.andThen, *]; done)
          · refine ⟨_, rfl, rfl, fun _ => rfl, ?_⟩
            have g60_ : s_ 60 = (.pointer (some ⟨B, 1, none⟩)) := hs_.got 2 (by decide) (by decide)
            clear hs_
            first | (simp [execOp, mkN_eval, Result.andThen, *]; done) | (go_simp; simp [mkN_get, Result.andThen, *]; done)
          · refine ⟨_, rfl, rfl, fun _ => rfl, ?_⟩
            have g0_ : s_ 0 = _ := hs_.old 0 (by intro k hk e; first | exact absurd e (by revert k; decide) | (revert k; decide))
            clear hs_
            first | (simp [execOp, mkN_eval, Result.andThen, *]; done) | (go_simp; simp [mkN_get, Result.andThen, *]; done)
          · refine ⟨_, rfl, rfl, fun _ => rfl, ?_⟩
            have g62_ : s_ 62 = (.pointer (some ⟨B, 0, none⟩)) := hs_.got 4 (by decide) (by decide)
            clear hs_
            first | (simp [execOp, mkN_eval, Result.andThen, *]; done) | (go_simp; simp [mkN_get, Result.andThen, *]; done)
          · refine ⟨_, rfl, rfl, fun _ => rfl, ?_⟩
            have g63_ : s_ 63 = (.pointer (some ⟨B, 0, none⟩)) := hs_.got 5 (by decide) (by decide)
            clear hs_
            first | (simp [execOp, mkN_eval, Result.andThen, *]; done) | (go_simp; simp [mkN_get, Result.andThen, *]; done)
          · refine ⟨_, rfl, rfl, fun _ => rfl, ?_⟩
            have g64_ : s_ 64 = (.pointer (some ⟨B, 0, none⟩)) := hs_.got 6 (by decide) (by decide)
            clear hs_
            first | (simp [execOp, mkN_eval, Result.andThen, *]; done) | (go_simp; simp [mkN_get, Result.andThen, *]; done)
          · refine ⟨_, rfl, rfl, fun _ => rfl, ?_⟩
            have g0_ : s_ 0 = _ := hs_.old 0 (by intro k hk e; first | exact absurd e (by revert k; decide) | (revert k; decide))
            clear hs_
            first | (simp [execOp, mkN_eval, Result.andThen, *]; done) | (go_simp; simp [mkN_get, Result.andThen, *]; done)
          · refine ⟨_, rfl, rfl, fun _ => rfl, ?_⟩
            have g66_ : s_ 66 = (.pointer (some ⟨B, 0, none⟩)) := hs_.got 8 (by decide) (by decide)
            clear hs_
            first | (simp [execOp, mkN_eval, Result.andThen, *]; done) | (go_simp; simp [mkN_get, Result.andThen, *]; done)
          · refine ⟨_, rfl, rfl, fun _ => rfl, ?_⟩
            have g67_ : s_ 67 = (.pointer (some ⟨B, 0, none⟩)) := hs_.got 9 (by decide) (by decide)
            clear hs_
            first | (simp [execOp, mkN_eval, Result.andThen, *]; done) | (go_simp; simp [mkN_get, Result.andThen, *]; done)
          · refine ⟨_, rfl, rfl, fun _ => rfl, ?_⟩
            have g68_ : s_ 68 = (.pointer (some ⟨B, 3, none⟩)) := hs_.got 10 (by decide) (by decide)
            clear hs_
            first | (simp [execOp, mkN_eval, Result.andThen, *]; done) | (go_simp; simp [mkN_get, Result.andThen, *]; done)
          · refine ⟨_, rfl, rfl, fun _ => rfl, ?_⟩
            have g65_ : s_ 65 = (.slice (some ⟨C, 0, none⟩) 4096 4096) := hs_.got 7 (by decide) (by decide)
            have g69_ : s_ 69 = (.int .i64 (m : Int)) := hs_.got 11 (by decide) (by decide)
            clear hs_
            first | (simp [execOp, mkN_eval, Result.andThen, *]; done) | (go_simp; simp [mkN_get, Result.andThen, *]; done)
          · refine ⟨_, rfl, rfl, fun _ => rfl, ?_⟩
            have g61_ : s_ 61 = (.iface 148 (.pointer (some ⟨R, 0, none⟩))) := hs_.got 3 (by decide) (by decide)
            clear hs_
            first | (simp [execOp, mkN_eval, Result.andThen, *]; done) | (go_simp; simp [mkN_get, Result.andThen, *]; done)
          · refine ⟨_, rfl, rfl, fun _ => rfl, ?_⟩
            have g61_ : s_ 61 = (.iface 148 (.pointer (some ⟨R, 0, none⟩))) := hs_.got 3 (by decide) (by decide)
            clear hs_
            first | (simp [execOp, mkN_eval, Result.andThen, *]; done) | (go_simp; simp [mkN_get, Result.andThen, *]; done)
          · exact absurd rfl hic_
          · refine ⟨_, rfl, rfl, fun _ => rfl, ?_⟩
            have g73_ : s_ 73 = (.tuple #[.int .i64 0, .iface 179 (.pointer (some pe))]) := hs_.got 15 (by decide) (by decide)
            clear hs_
            first | (simp [execOp, mkN_eval, Result.andThen, *]; done) | (go_simp; simp [mkN_get, Result.andThen, *]; done)
          · refine ⟨_, rfl, rfl, fun _ => rfl, ?_⟩
            have g57_ : s_ 57 = (.tuple #[.int .i64 0, .iface 179 (.pointer (some pe))]) := hs_.got 16 (by decide) (by decide)
            clear hs_
            first | (simp [execOp, mkN_eval, Result.andThen, *]; done) | (go_simp; simp [mkN_get, Result.andThen, *]; done)
          · refine ⟨_, rfl, rfl, fun _ => rfl, ?_⟩
            have g57_ : s_ 57 = (.tuple #[.int .i64 0, .iface 179 (.pointer (some pe))]) := hs_.got 16 (by decide) (by decide)
            clear hs_
            first | (simp [execOp, mkN_eval, Result.andThen, *]; done) | (go_simp; simp [mkN_get, Result.andThen, *]; done)
          · refine ⟨_, rfl, rfl, fun _ => rfl, ?_⟩
            have g74_ : s_ 74 = (.int .i64 0) := hs_.got 17 (by decide) (by decide)
            clear hs_
            first | (simp [execOp, mkN_eval, Result.andThen, *]; done) | (go_simp; simp [mkN_get, Result.andThen, *]; done)
        · intro s_ hs_ K_ hK_
          have g70_ : s_ 70 = (.slice (some ⟨C, m, none⟩) (4096 - m) (4096 - m)) := hs_.got 12 (by decide) (by decide)
          have g72_ : s_ 72 = (.iface 148 (.pointer (some ⟨R, 0, none⟩))) := hs_.got 14 (by decide) (by decide)
          clear hs_
          refine wpOp_step rfl (fun K' hK => ?_)
          go_simp
          simp [mkN_get, g70_, g72_]
          go_invoke
          go_wp2_with (go_at_call 195; refine hrd.mono ?_; rintro e w3 ⟨rfl, hPr⟩)
          exact hPr
        · intro s_ W_ hP_ hv_ ho_
          have e75_ : s_ 75 = .iface 179 (.pointer (some pe)) := hv_ 18 (by decide)
          have e3_ : s_ 3 = .int .i64 0 := hv_ 19 (by decide)
          have e0_ : s_ 0 = .pointer (some ⟨B, 0, none⟩) := ho_ 0 (by decide)
          clear hv_ ho_
          refine YieldsIf.wpOp (S := fun x => x = W_) (v := .iface 179 (.pointer (some pe))) rfl (Or.inl ⟨rfl, fun x hx => by simp [execOp, mkN_eval, e75_]⟩) rfl ?_
          show Exit.then _ _ .normal ((mkN 99 [] s_).put (some 4) _) W_
          rw [mkN_put _ _ _ (by decide), mk99_lit]
          simp only [updN_self, updN_ne (show 0 ≠ 4 by decide), updN_ne (show 3 ≠ 4 by decide), e0_, e3_]
          have hB3 := (hP0 _ hP_).trans H2.out.bf
          have y3 : W_.cell? ⟨B, 3, none⟩ = some (.int .i64 (m : Int)) := cell_of hB3 (i := 3) rfl
          have y4 : W_.cell? ⟨B, 4, none⟩ = some .nilIface := cell_of hB3 (i := 4) rfl
          have yf : ∀ j, W_.frozen? ⟨B, j, none⟩ = false := frozen_of hB3
          generalize updN s_ 4 (.iface 179 (.pointer (some pe))) = t_
          have H3 := Aside0.mk hB3
          clear b0 b1 b2 b3 fb hrd hsl hP1 hP0 hB3
          obtain ⟨q, hq⟩ := hP_
          have hT3 : Turn [R, B, C] W2 W_ := by rw [hq]; exact (((Turn.refl _ _).drew.drew).drewN q)
          have hR3 : ∃ p, W_.heap[R]? = some (.cells #[.string s, .int .i64 (i : Int), .int .i64 p] 177 (0, 0)) := ⟨p, by rw [hq]; exact hp⟩
          have hC3 : W_.heap[C]? = some (.cells (cellsOf bs2) 5 (0, 0)) := by rw [hq]; exact H2.out.cs
          clear hq
          have H4 := Aside0.mk (And.intro hR3 hC3)
          clear hR3 hC3
          go_wp2
          refine bodyPost_ret (results_none rfl _ _ _) rfl ?_
          refine ⟨rfl, bs2, 0, eofV pe, ?_, ?_, fun e => absurd e (by omega), fun _ => ⟨rfl, rfl⟩, ?_⟩
          · obtain ⟨⟨p', hp'⟩, hC'⟩ := H4.out
            exact { rd := ⟨p', (Below.heap_setCell _ ⟨B, 4, none⟩ _ R H2.out.rb).trans ((Below.heap_setCell _ ⟨B, 3, none⟩ _ R H2.out.rb).trans hp')⟩, bf := heap_put (heap_put H3.out 3 _ rfl) 4 _ (by simp [eofV] <;> omega), cs := (Below.heap_setCell _ ⟨B, 4, none⟩ _ C (fun e => H2.out.bc e.symm)).trans ((Below.heap_setCell _ ⟨B, 3, none⟩ _ C (fun e => H2.out.bc e.symm)).trans hC'), len := H2.out.len, rn := Nat.zero_le _, n4 := by omega, is := by omega, ss := H2.out.ss, rb := H2.out.rb, rc := H2.out.rc, bc := H2.out.bc }
          · rw [hmx]; first | (simp [numsOf]; done) | (simpa [numsOf] using htk)
          · exact ((hT2.trans hT3).setCell _ _ (by simp)).setCell _ _ (by simp)
section
open Go.Proofs
theorem w64e {x y : Int} (e : x = y) (h0 : 0 ≤ y) (h1 : y ≤ 1000000) : wrap64 x = y := by
  subst e
  unfold wrap64
  omega
theorem bu_buffered (W : World) (R B C : Nat) (s : ByteArray) (i r n : Nat) (bs : List Int) (err : Value) (lb lr : Int) (h : RD W R B C s i bs r n err lb lr) :
    Calls Tryz.prog 140 #[.pointer (some ⟨B, 0, none⟩)] W fun e w' => e = .returned (.int .i64 ((n - r : Nat) : Int)) ∧ ∃ q, w' = W.drewN q := by
  have b2 : W.cell? ⟨B, 2, none⟩ = some (.int .i64 (r : Int)) := cell_of h.bf (i := 2) rfl
  have b3 : W.cell? ⟨B, 3, none⟩ = some (.int .i64 (n : Int)) := cell_of h.bf (i := 3) rfl
  have h1 := h.rn; have h2 := h.n4
  have hnr : (n : Int) - (r : Int) = ((n - r : Nat) : Int) := by omega
  clear h
  go_enter Tryz.func140, Tryz.ntmps140
  go_wp2
  all_goals (try go_region)
  all_goals go_wp2
  all_goals go_ret
  all_goals exact ⟨by rw [← hnr]; rfl, 1, rfl⟩
theorem bu_readErr (W : World) (R B C : Nat) (s : ByteArray) (i r n : Nat) (bs : List Int) (err : Value) (lb lr : Int) (h : RD W R B C s i bs r n err lb lr) :
    Calls Tryz.prog 139 #[.pointer (some ⟨B, 0, none⟩)] W fun e w' => e = .returned err ∧ RD w' R B C s i bs r n .nilIface lb lr ∧ Turn [R, B, C] W w' := by
  have b4 : W.cell? ⟨B, 4, none⟩ = some err := cell_of h.bf (i := 4) rfl
  have fb : ∀ j, W.frozen? ⟨B, j, none⟩ = false := frozen_of h.bf
  have H := Aside0.mk h
  clear h
  go_enter Tryz.func139, Tryz.ntmps139
  go_wp2
  go_ret
  refine ⟨rfl, { H.out with rd := ?_, bf := heap_put H.out.bf 4 _ rfl, cs := (Below.heap_setCell _ ⟨B, 4, none⟩ _ C (fun e => H.out.bc e.symm)).trans H.out.cs }, (Turn.refl _ _).setCell _ _ (by simp)⟩
  obtain ⟨p, hp⟩ := H.out.rd
  exact ⟨p, (Below.heap_setCell _ ⟨B, 4, none⟩ _ R H.out.rb).trans hp⟩
theorem bytesOf_nums (l : List UInt8) : Lib.bytesOf (numsOf l) = l := by
  unfold Lib.bytesOf numsOf
  rw [List.map_map]
  conv => rhs; rw [← List.map_id l]
  exact List.map_congr_left (fun b _ => by simp)
theorem indexByte_cases (l : List UInt8) (c : UInt8) : (Lib.indexByte l c = -1 ∧ c ∉ l) ∨ ∃ j : Nat, Lib.indexByte l c = (j : Int) ∧ j < l.length ∧ l[j]? = some c ∧ c ∉ l.take j := by
  induction l with
  | nil => left; exact ⟨rfl, by simp⟩
  | cons b l ih =>
    unfold Lib.indexByte
    by_cases h : b = c
    · right
      exact ⟨0, by simp [h], by simp, by simp [h], by simp⟩
    · have hb : (b == c) = false := beq_eq_false_iff_ne.2 h
      rw [hb]
      simp only [Bool.false_eq_true, if_false]
      rcases ih with ⟨e, hn⟩ | ⟨j, e, hj, hc, hn⟩
      · left
        rw [e]
        exact ⟨rfl, by simp [hn]; exact fun z => h z.symm⟩
      · right
        refine ⟨j + 1, ?_, by simp; omega, by simpa using hc, by simp [hn]; exact fun z => h z.symm⟩
        rw [e, if_neg (by simp)]
        omega
/-- the slice of the block from a to b -/
theorem run_slice_mid (C a b : Nat) (hab : a ≤ b) (hb : b ≤ 4096) : ∃ p : Addr, (a < 4096 → p = ⟨C, a, none⟩) ∧ ∀ w : World, (Instr.slice 121 (.slice (some ⟨C, 0, none⟩) 4096 4096) (some (.int .i64 (a : Int))) (some (.int .i64 (b : Int))) none).run Tryz.prog w = .ok (.slice (some p) (b - a) (4096 - a)) w := by
  refine ⟨if 4096 = a then ⟨C, 0, none⟩ else ⟨C, a, none⟩, fun h => by rw [if_neg (by omega)], fun w => ?_⟩
  have hu : Tryz.prog.underlying 121 = some (.slice (Tryz.prog.elem 121)) := by kernel_rfl
  have hsz : Tryz.prog.info? (Tryz.prog.elem 121) = Tryz.prog.info? 5 := by kernel_rfl
  obtain ⟨i0, hi0, _, hs0, _⟩ := info_parts (show (Tryz.prog.info? 5).map (fun i => (i.zero, i.size, i.bytes)) = some (some (.int .u8 0), 1, 1) from by kernel_rfl)
  rw [run_slice_lh w 121 (some ⟨C, 0, none⟩) 4096 4096 hu .i64 .i64 (a : Int) (b : Int) (Int.natCast_nonneg _) (by omega) (by omega)]
  simp [sizeOf, typeInfo, hsz, hi0, hs0, sliced, Result.andThen, Addr.add]
  split
  · rfl
  · split
    · subst a; rfl
    · rfl
def RS (pe : Addr) (W : World) (R B C : Nat) (s : ByteArray) (L : List UInt8) (i : Nat) (bs : List Int) (r n : Nat) (err : Value) (lb lr : Int) (l1 : List UInt8) : Prop :=
  RD W R B C s i bs r n err lb lr ∧ (bs.take n).drop r = numsOf l1 ∧ l1 ++ s.data.toList.drop i = L ∧ (err = .nilIface ∨ err = eofV pe ∧ i = s.size)
theorem RD.of_heap {W W' : World} {R B C : Nat} {s : ByteArray} {i : Nat} {bs : List Int} {r n : Nat} {err : Value} {lb lr : Int} (e : W'.heap = W.heap) (h : RD W R B C s i bs r n err lb lr) : RD W' R B C s i bs r n err lb lr :=
  { rd := by rw [e]; exact h.rd, bf := by rw [e]; exact h.bf, cs := by rw [e]; exact h.cs, len := h.len, rn := h.rn, n4 := h.n4, is := h.is, ss := h.ss, rb := h.rb, rc := h.rc, bc := h.bc }
theorem RS.of_heap {pe : Addr} {W W' : World} {R B C : Nat} {s : ByteArray} {L : List UInt8} {i : Nat} {bs : List Int} {r n : Nat} {err : Value} {lb lr : Int} {l1 : List UInt8} (e : W'.heap = W.heap) (h : RS pe W R B C s L i bs r n err lb lr l1) : RS pe W' R B C s L i bs r n err lb lr l1 := ⟨h.1.of_heap e, h.2⟩
theorem RS.bytes {pe : Addr} {W : World} {R B C : Nat} {s : ByteArray} {L : List UInt8} {i : Nat} {bs : List Int} {r n : Nat} {err : Value} {lb lr : Int} {l1 : List UInt8} (h : RS pe W R B C s L i bs r n err lb lr l1) : l1.length = n - r ∧ ∀ j, j < n - r → W.cell? ⟨C, r + j, none⟩ = some (.int .u8 ((numsOf l1).getD j 0)) := by
  have h1 := h.1.rn; have h2 := h.1.n4
  have hlen : l1.length = n - r := by
    have := congrArg List.length h.2.1
    rw [numsOf_len, List.length_drop, List.length_take, h.1.len] at this
    omega
  refine ⟨hlen, fun j hj => ?_⟩
  rw [cell_of h.1.cs (cellsOf_get (by rw [h.1.len]; omega))]
  congr 2
  rw [← h.2.1]
  simp only [List.getD_eq_getElem?_getD, List.getElem?_drop]
  rw [List.getElem?_take_of_lt (by omega)]
theorem numsOf_drop (l : List UInt8) (k : Nat) : (numsOf l).drop k = numsOf (l.drop k) := by simp [numsOf, List.map_drop]
/-- a piece of the block of bytes that was handed on -/
def Piece (W : World) (C a : Nat) (l : List UInt8) : Prop := a + l.length ≤ 4096 ∧ ∀ j, j < l.length → W.cell? ⟨C, a + j, none⟩ = some (.int .u8 ((numsOf l).getD j 0))
theorem piece_of {W : World} {C r n : Nat} {bs : List Int} {l1 : List UInt8} (hC : W.heap[C]? = some (.cells (cellsOf bs) 5 (0, 0))) (hl : bs.length = 4096) (hrn : r ≤ n) (hn : n ≤ 4096) (h : (bs.take n).drop r = numsOf l1) (q : Nat) (hq : q ≤ l1.length) : Piece W C r (l1.take q) := by
  have hlen : l1.length = n - r := by
    have := congrArg List.length h
    rw [numsOf_len, List.length_drop, List.length_take, hl] at this
    omega
  have hq2 : (l1.take q).length = q := by rw [List.length_take]; omega
  refine ⟨by rw [hq2]; omega, fun j hj => ?_⟩
  rw [hq2] at hj
  rw [cell_of hC (cellsOf_get (by omega))]
  congr 2
  have e : numsOf (l1.take q) = (numsOf l1).take q := by simp [numsOf, List.map_take]
  rw [e, ← h]
  simp only [List.getD_eq_getElem?_getD]
  rw [List.getElem?_take_of_lt hj, List.getElem?_drop, List.getElem?_take_of_lt (by omega)]
theorem none_pure {l1 : List UInt8} {k : Nat} (h1 : 10 ∉ l1.take k) (h2 : 10 ∉ l1.drop k) : 10 ∉ l1 := by
  intro h
  rw [← List.take_append_drop k l1, List.mem_append] at h
  exact h.elim h1 h2
theorem room_of {l1 t L : List UInt8} (hL : l1 ++ t = L) (hno : 10 ∉ l1) (hs1 : ∀ j, L[j]? = some 10 → 10 ∉ L.take j → j < 4096) (hs2 : 10 ∉ L → L.length < 4096) : l1.length < 4096 := by
  subst hL
  rcases Nat.lt_or_ge l1.length 4096 with h | h
  · exact h
  · exfalso
    rcases indexByte_cases (l1 ++ t) 10 with ⟨_, hn⟩ | ⟨j, _, _, hc, hn⟩
    · have := hs2 hn
      rw [List.length_append] at this
      omega
    · have hj := hs1 j hc hn
      rw [List.getElem?_append_left (by omega)] at hc
      exact hno (List.mem_of_getElem? hc)
theorem numsOf_append (a b : List UInt8) : numsOf (a ++ b) = numsOf a ++ numsOf b := by simp [numsOf]
theorem found_pure {l1 t L : List UInt8} (hL : l1 ++ t = L) {k j : Nat} (hk : 10 ∉ l1.take k) (hj : j < (l1.drop k).length) (hc : (l1.drop k)[j]? = some 10) (hn : 10 ∉ (l1.drop k).take j) :
    L[j + k]? = some 10 ∧ 10 ∉ L.take (j + k) ∧ L.drop (j + k + 1) = l1.drop (j + k + 1) ++ t ∧ L.take (j + k + 1) = l1.take (j + k + 1) ∧ j + k + 1 ≤ l1.length := by
  rw [List.length_drop] at hj
  subst hL
  refine ⟨?_, ?_, ?_, ?_, by omega⟩
  · rw [List.getElem?_append_left (by omega)]
    rw [List.getElem?_drop] at hc
    rw [Nat.add_comm]; exact hc
  · rw [List.take_append_of_le_length (by omega), Nat.add_comm, List.take_add]
    simp [hk, hn]
  · rw [List.drop_append_of_le_length (by omega)]
  · rw [List.take_append_of_le_length (by omega)]
/-- what ReadSlice('\n') answers -/
def SlicePost (pe : Addr) (W : World) (R B C : Nat) (s : ByteArray) (L : List UInt8) (e : Ending) (w' : World) : Prop :=
  (∃ (j a i : Nat) (bs : List Int) (r n : Nat) (err : Value) (lb lr : Int) (l1 : List UInt8), L[j]? = some 10 ∧ 10 ∉ L.take j ∧ e = .returned (.tuple #[.slice (some ⟨C, a, none⟩) (j + 1) (4096 - a), .nilIface]) ∧ Piece w' C a (L.take (j + 1)) ∧ a + (j + 1) ≤ r ∧ RS pe w' R B C s (L.drop (j + 1)) i bs r n err lb lr l1 ∧ Turn [R, B, C] W w') ∨
  (10 ∉ L ∧ ∃ (p : Addr) (a c i : Nat) (bs : List Int) (r n : Nat) (lb lr : Int), (0 < L.length → p = ⟨C, a, none⟩ ∧ c = 4096 - a) ∧ L.length ≤ c ∧ e = .returned (.tuple #[.slice (some p) L.length c, eofV pe]) ∧ Piece w' C a L ∧ a + L.length ≤ r ∧ RS pe w' R B C s [] i bs r n .nilIface lb lr [] ∧ Turn [R, B, C] W w')
set_option maxHeartbeats 8000000 in
set_option maxRecDepth 100000 in
theorem bu_readSlice (pe : Addr) (W : World) (R B C : Nat) (s : ByteArray) (L : List UInt8) (i r n : Nat) (bs : List Int) (err : Value) (lb lr : Int) (l1 : List UInt8) (h : RS pe W R B C s L i bs r n err lb lr l1) (hE : W.cell? ⟨2, 0, none⟩ = some (eofV pe)) (hg : 2 ≠ R ∧ 2 ≠ B ∧ 2 ≠ C)
    (hs1 : ∀ j, L[j]? = some 10 → 10 ∉ L.take j → j < 4096) (hs2 : 10 ∉ L → L.length < 4096) :
    Calls Tryz.prog 130 #[.pointer (some ⟨B, 0, none⟩), .int .u8 10] W fun e w' => SlicePost pe W R B C s L e w' := by
  go_enter Tryz.func130, Tryz.ntmps130
  go_wp2
  go_loopw [5, 6] (fun v5 v6 wr => ∃ (k i : Nat) (bs : List Int) (r n : Nat) (err : Value) (l1 : List UInt8), v5 = .nilIface ∧ v6 = .int .i64 (k : Int) ∧ k ≤ n - r ∧ Aside0 (RS pe wr R B C s L i bs r n err lb lr l1) ∧ Aside0 (10 ∉ l1.take k) ∧ Aside0 (Turn [R, B, C] W wr))
    (fun _ _ wr => s.size - (intOf ((wr.cell? ⟨R, 1, none⟩).getD undef)).toNat + (match wr.cell? ⟨B, 4, none⟩ with | some .nilIface => 1 | _ => 0))
  case atStart => exact ⟨0, i, bs, r, n, err, l1, rfl, rfl, Nat.zero_le _, ⟨h⟩, ⟨by simp⟩, ⟨Turn.refl _ _⟩⟩
  case round =>
    clear h
    obtain ⟨k, i, bs, r, n, err, l1, rfl, rfl, hk, HS, HN, HT⟩ := hrel
    have h1 := HS.out.1.rn
    have h2 := HS.out.1.n4
    have b0 : wr.cell? ⟨B, 0, none⟩ = some (.slice (some ⟨C, 0, none⟩) 4096 4096) := cell_of HS.out.1.bf (i := 0) rfl
    have b2 : wr.cell? ⟨B, 2, none⟩ = some (.int .i64 (r : Int)) := cell_of HS.out.1.bf (i := 2) rfl
    have b3 : wr.cell? ⟨B, 3, none⟩ = some (.int .i64 (n : Int)) := cell_of HS.out.1.bf (i := 3) rfl
    have b4 : wr.cell? ⟨B, 4, none⟩ = some err := cell_of HS.out.1.bf (i := 4) rfl
    have fb : ∀ j, wr.frozen? ⟨B, j, none⟩ = false := frozen_of HS.out.1.bf
    obtain ⟨p, hp, hsl⟩ := run_slice_mid C (r + k) n (by omega) h2
    rw [show ((r + k : Nat) : Int) = (r : Int) + (k : Int) from by omega] at hsl
    have hrk : (r : Int) + (k : Int) ≤ 4096 := by omega
    have hrn2 : r + k ≤ n := by omega
    have hwr : IntKind.i64.wrap ((r : Int) + (k : Int)) = (r : Int) + (k : Int) := by rw [i64_w]; unfold wrap64; omega
    have hlen := HS.out.bytes.1
    have hby := HS.out.bytes.2
    have hix := Tryz.bytes_IndexByte_at p (n - (r + k)) (4096 - (r + k)) (numsOf (l1.drop k)) 10 wr.drew (by rw [numsOf_len, List.length_drop]; omega)
      (fun j hj => by
        have hr4 : r + k < 4096 := by omega
        rw [hp hr4]
        have e : (⟨C, r + k, none⟩ : Addr).add j = ⟨C, r + (k + j), none⟩ := by unfold Addr.add; split <;> simp_all <;> omega
        rw [e]
        show wr.cell? _ = _
        rw [hby (k + j) (by omega)]
        congr 2
        rw [← numsOf_drop]
        simp only [List.getD_eq_getElem?_getD, List.getElem?_drop])
    rw [bytesOf_nums] at hix
    have HBY := Aside0.mk (And.intro hlen hby)
    clear hby
    rcases indexByte_cases (l1.drop k) 10 with ⟨hi, hno⟩ | ⟨j, hi, hj, hjc, hjn⟩
    · have hi' : Lib.indexByte (l1.drop k) 10 = -1 := hi
      rcases HS.out.2.2.2 with he | ⟨he, hie⟩
      · subst he
        go_wp2
        go_still_tail 16, (by kernel_rfl)
        change wpList _ _ _ _ _ wr.drew
        go_wp2_with (go_at_call 138; refine hix.mono ?_; rintro e w3 ⟨rfl, rfl⟩)
        have hRD := Aside0.mk HS.out.1
        have hnl := Aside0.mk (none_pure HN.out hno)
        have hroom : n - r < 4096 := by have := room_of HS.out.2.2.1 hnl.out hs1 hs2; rw [hlen] at this; exact this
        have hroom2 : ((n - r : Nat) : Int) < 4096 := by omega
        have hbuf : ∀ q : Nat, Calls Tryz.prog 140 #[.pointer (some ⟨B, 0, none⟩)] (wr.drewN q) fun e w' => e = .returned (.int .i64 ((n - r : Nat) : Int)) ∧ ∃ q', w' = (wr.drewN q).drewN q' := fun q => bu_buffered (wr.drewN q) R B C s i r n bs .nilIface lb lr (RD.of_heap (W := wr) (W' := wr.drewN q) rfl hRD.out)
        go_region_with (go_at_call 140; refine (hbuf 2).mono ?_; rintro e w3 ⟨rfl, q, rfl⟩)
        all_goals go_wp2
        all_goals
          have HS2 := Aside0.mk (RS.of_heap (W := wr) (W' := wr.drewN (2 + q)) rfl HS.out)
          have HT2 := Aside0.mk (HT.out.drewN (2 + q))
          have hm0 := Aside0.mk (show (wr.drewN (2 + q)).cell? ⟨R, 1, none⟩ = wr.cell? ⟨R, 1, none⟩ ∧ (wr.drewN (2 + q)).cell? ⟨B, 4, none⟩ = wr.cell? ⟨B, 4, none⟩ from ⟨rfl, rfl⟩)
          clear b0 b2 b3 b4 fb hix hbuf hRD
          generalize wr.drewN (2 + q) = w2 at *
          have c2 : w2.cell? ⟨B, 2, none⟩ = some (.int .i64 (r : Int)) := cell_of HS2.out.1.bf (i := 2) rfl
          have c3 : w2.cell? ⟨B, 3, none⟩ = some (.int .i64 (n : Int)) := cell_of HS2.out.1.bf (i := 3) rfl
          have hnr : wrap64 ((n : Int) - (r : Int)) = ((n - r : Nat) : Int) := w64e (by omega) (by omega) (by omega)
          have hE2 : w2.drew.cell? ⟨2, 0, none⟩ = some (eofV pe) := by
            have hb := HT2.out.block 2 (World.block_lt_of_cell? W _ hE) (by simp; exact hg)
            show w2.cell? _ = _
            have hE' := hE
            unfold World.cell? at hE' ⊢
            rw [hb]; exact hE'
          have hfill := bu_fill w2.drew R B C s i r n bs lb lr pe (RD.of_heap (W := w2) (W' := w2.drew) rfl HS2.out.1) hroom hE2 hg
          have hE3 := Aside0.mk hE2
          clear hE2
          go_region
          all_goals go_wp2_with (go_at_call 141; refine hfill.mono ?_; rintro e w4 ⟨rfl, bs4, k4, err4, hRD4, htk4, hlt4, heq4, hT4⟩; have H4 := Aside0.mk (And.intro hRD4 (And.intro htk4 (And.intro hlt4 (And.intro heq4 hT4)))); clear hRD4 htk4 hlt4 heq4 hT4)
        all_goals
          clear hnr hfill hsl hp
          obtain ⟨hRD4, htk4, hlt4, heq4, hT4⟩ := H4.out
          obtain ⟨p4, hp4⟩ := hRD4.rd
          obtain ⟨p0, hp0⟩ := HS.out.1.rd
          have hi3 := HS.out.1.is
          have hsz : s.data.toList.length = s.size := (Lib.size_eq s).symm
          have m1 : w4.cell? ⟨R, 1, none⟩ = some (.int .i64 ((i + k4 : Nat) : Int)) := cell_of hp4 (i := 1) rfl
          have m2 : w4.cell? ⟨B, 4, none⟩ = some err4 := cell_of hRD4.bf (i := 4) rfl
          have m3 : wr.cell? ⟨R, 1, none⟩ = some (.int .i64 (i : Int)) := cell_of hp0 (i := 1) rfl
          have m4 : wr.cell? ⟨B, 4, none⟩ = some .nilIface := cell_of HS.out.1.bf (i := 4) rfl
          have hik := hRD4.is
          refine ⟨⟨n - r, i + k4, bs4, 0, n - r + k4, err4, l1 ++ (s.data.toList.drop i).take k4, rfl, by congr 1; omega, by omega, ⟨⟨hRD4, ?_, ?_, ?_⟩⟩, ⟨?_⟩, ⟨HT2.out.drew.trans hT4⟩⟩, ?_⟩
          · rw [List.drop_zero, htk4, HS.out.2.1, numsOf_append]
          · rw [List.append_assoc, ← HS.out.2.2.1]
            congr 1
            rw [← List.drop_drop, List.take_append_drop]
          · rcases Nat.lt_or_ge i s.size with h | h
            · exact .inl (hlt4 h).2
            · have hie : i = s.size := by omega
              exact .inr ⟨(heq4 hie).2, by rw [(heq4 hie).1, hie]; rfl⟩
          · rw [List.take_append_of_le_length (by omega), List.take_of_length_le (by omega)]
            exact hnl.out
          · rw [m1, m2, m3, m4]
            rcases Nat.lt_or_ge i s.size with h | h
            · obtain ⟨h5, rfl⟩ := hlt4 h
              simp [intOf]
              omega
            · have hie : i = s.size := by omega
              obtain ⟨h5, rfl⟩ := heq4 hie
              simp [intOf, eofV, h5]
      · subst he
        have hnl := Aside0.mk (none_pure HN.out hno)
        have hL : L = l1 := by
          rw [← HS.out.2.2.1, hie, List.drop_of_length_le (by rw [← Lib.size_eq s]; exact Nat.le_refl _), List.append_nil]
        have HLL := Aside0.mk hL
        clear hL
        unfold eofV at b4
        obtain ⟨p2, hp2, hsl2⟩ := run_slice_mid C r n h1 h2
        have HP2 := Aside0.mk hp2
        clear hp2
        go_wp2
        go_still_tail 16, (by kernel_rfl)
        change wpList _ _ _ _ _ wr.drew
        go_wp2_with (go_at_call 138; refine hix.mono ?_; rintro e w3 ⟨rfl, rfl⟩)
        have HS1 := Aside0.mk (RS.of_heap (W := wr) (W' := wr.drew) rfl HS.out)
        have HT1 := Aside0.mk HT.out.drew
        clear b0 b2 b3 b4 fb HS HT hix HBY HN
        generalize wr.drew = w1 at *
        have b0 : w1.cell? ⟨B, 0, none⟩ = some (.slice (some ⟨C, 0, none⟩) 4096 4096) := cell_of HS1.out.1.bf (i := 0) rfl
        have b2 : w1.cell? ⟨B, 2, none⟩ = some (.int .i64 (r : Int)) := cell_of HS1.out.1.bf (i := 2) rfl
        have b3 : w1.cell? ⟨B, 3, none⟩ = some (.int .i64 (n : Int)) := cell_of HS1.out.1.bf (i := 3) rfl
        have fb : ∀ j, w1.frozen? ⟨B, j, none⟩ = false := frozen_of HS1.out.1.bf
        go_upto_region 8 with (fail)
        go_still_tail 13, (by kernel_rfl)
        change wpList _ _ _ _ _ w1.drew
        go_upto_region 10 with (fail)
        have hR2 := Aside0.mk (show RD (w1.setCell ⟨B, 2, none⟩ (.int .i64 (n : Int))).drew R B C s i bs n n (eofV pe) lb lr from
          { rd := by obtain ⟨p, hp⟩ := HS1.out.1.rd; exact ⟨p, (Below.heap_setCell w1 ⟨B, 2, none⟩ _ R HS1.out.1.rb).trans hp⟩, bf := heap_put HS1.out.1.bf 2 _ rfl, cs := (Below.heap_setCell w1 ⟨B, 2, none⟩ _ C (fun e => HS1.out.1.bc e.symm)).trans HS1.out.1.cs, len := HS1.out.1.len, rn := Nat.le_refl _, n4 := h2, is := HS1.out.1.is, ss := HS1.out.1.ss, rb := HS1.out.1.rb, rc := HS1.out.1.rc, bc := HS1.out.1.bc })
        have hT2 := Aside0.mk ((HT1.out.setCell ⟨B, 2, none⟩ (.int .i64 (n : Int)) (by simp)).drew)
        clear b0 b2 b3 fb
        generalize (w1.setCell ⟨B, 2, none⟩ (.int .i64 (n : Int))).drew = w2 at *
        have hre := bu_readErr w2 R B C s i n n bs (eofV pe) lb lr hR2.out
        go_upto_region 17 with (go_at_call 139; refine hre.mono ?_; rintro e w3 ⟨rfl, hR3, hT3⟩; have H3 := Aside0.mk (And.intro hR3 hT3); clear hR3 hT3)
        clear hre hsl2 hsl
        have hpc := Aside0.mk (piece_of H3.out.1.cs H3.out.1.len h1 h2 HS1.out.2.1 l1.length (Nat.le_refl _))
        have hlm := Aside0.mk hlen
        have hT3 := Aside0.mk (hT2.out.trans H3.out.2)
        obtain ⟨m, hm⟩ : ∃ x, x = n - r := ⟨_, rfl⟩
        have HM := Aside0.mk hm
        rcases Nat.eq_zero_or_pos m with h0 | h0
        · have h00 : n - r = 0 := by omega
          rw [h00]
          clear hm
          go_wp2
          go_ret2
          have hl0 : l1 = [] := List.eq_nil_of_length_eq_zero (hlm.out.trans h00)
          have hLn : L = [] := HLL.out.trans hl0
          refine .inr ⟨by rw [HLL.out]; exact hnl.out, p2, r, 4096 - r, i, bs, n, n, lb, lr, fun h => absurd h (by rw [hLn]; simp), by rw [hLn]; exact Nat.zero_le _, by rw [hLn]; rfl, by rw [hLn]; exact ⟨by simp; omega, fun j hj => absurd hj (by simp)⟩, by rw [hLn]; simpa using h1, ⟨H3.out.1, ?_, ?_, .inl rfl⟩, hT3.out⟩
          · rw [List.drop_of_length_le (by rw [List.length_take, H3.out.1.len]; omega)]; rfl
          · rw [hie, List.nil_append, List.drop_of_length_le (by rw [← Lib.size_eq s]; exact Nat.le_refl _)]
        · rw [← hm]
          obtain rfl := HP2.out (by omega)
          have hml : m = l1.length := by omega
          obtain ⟨m1, hm1⟩ : ∃ x, x + 1 = m := ⟨m - 1, by omega⟩
          have hval := Aside0.mk (hpc.out.2 m1 (by rw [List.length_take]; omega))
          obtain ⟨y, hy⟩ : ∃ y, y = (numsOf (l1.take l1.length)).getD m1 0 := ⟨_, rfl⟩
          have hcl : w3.cell? ⟨C, r + m1, none⟩ = some (.int .u8 y) := by rw [hy]; exact hval.out
          have hcl2 : w3.cell? ((⟨C, r, none⟩ : Addr).add m1) = some (.int .u8 y) := by
            have e : (⟨C, r, none⟩ : Addr).add m1 = ⟨C, r + m1, none⟩ := by unfold Addr.add; split <;> simp_all
            rw [e]; exact hcl
          have y5 : w3.cell? ⟨B, 5, none⟩ = some (.int .i64 lb) := cell_of H3.out.1.bf (i := 5) rfl
          have y6 : w3.cell? ⟨B, 6, none⟩ = some (.int .i64 lr) := cell_of H3.out.1.bf (i := 6) rfl
          have yf : ∀ j, w3.frozen? ⟨B, j, none⟩ = false := frozen_of H3.out.1.bf
          have hmm : m1 < m := by omega
          have hHM := Aside0.mk (And.intro hm (And.intro hm1 hml))
          have hwm := Aside0.mk (show wrap64 ((m : Int) - 1) = (m1 : Int) from w64e (by omega) (by omega) (by omega))
          clear hm hm1 hml hy hwr
          have hw9 := hwm.out
          go_wp2
          go_ret2
          clear hw9 hcl hcl2 y5 y6 yf
          obtain ⟨hm, hm1, hml⟩ := hHM.out
          have hLl : L.length = m := by rw [HLL.out]; exact hml.symm
          have hC3 : ((w3.setCell ⟨B, 5, none⟩ (.int .i64 (wrap64 y))).setCell ⟨B, 6, none⟩ (.int .i64 (-1))).heap[C]? = some (.cells (cellsOf bs) 5 (0, 0)) := (Below.heap_setCell _ ⟨B, 6, none⟩ _ C (fun e => H3.out.1.bc e.symm)).trans ((Below.heap_setCell _ ⟨B, 5, none⟩ _ C (fun e => H3.out.1.bc e.symm)).trans H3.out.1.cs)
          refine .inr ⟨by rw [HLL.out]; exact hnl.out, ⟨C, r, none⟩, r, 4096 - r, i, bs, n, n, wrap64 y, -1, fun _ => ⟨rfl, rfl⟩, by rw [hLl]; omega, by rw [hLl]; rfl, ?_, by rw [hLl]; omega, ⟨?_, ?_, ?_, .inl rfl⟩, (hT3.out.setCell _ _ (by simp)).setCell _ _ (by simp)⟩
          · rw [HLL.out]
            have h7 := piece_of hC3 H3.out.1.len h1 h2 HS1.out.2.1 l1.length (Nat.le_refl _)
            rwa [List.take_of_length_le (Nat.le_refl _)] at h7
          · obtain ⟨p9, hp9⟩ := H3.out.1.rd
            exact { rd := ⟨p9, (Below.heap_setCell _ ⟨B, 6, none⟩ _ R H3.out.1.rb).trans ((Below.heap_setCell _ ⟨B, 5, none⟩ _ R H3.out.1.rb).trans hp9)⟩, bf := heap_put (heap_put H3.out.1.bf 5 _ rfl) 6 _ rfl, cs := hC3, len := H3.out.1.len, rn := Nat.le_refl _, n4 := h2, is := H3.out.1.is, ss := H3.out.1.ss, rb := H3.out.1.rb, rc := H3.out.1.rc, bc := H3.out.1.bc }
          · rw [List.drop_of_length_le (by rw [List.length_take, H3.out.1.len]; omega)]; rfl
          · rw [hie, List.nil_append, List.drop_of_length_le (by rw [← Lib.size_eq s]; exact Nat.le_refl _)]
    · obtain ⟨J, hJ⟩ : ∃ x, x = j + k := ⟨_, rfl⟩
      obtain ⟨M, hM⟩ : ∃ x, x = r + J := ⟨_, rfl⟩
      obtain ⟨E, hEE⟩ : ∃ x, x = r + J + 1 := ⟨_, rfl⟩
      obtain ⟨J1, hJ1⟩ : ∃ x, x = J + 1 := ⟨_, rfl⟩
      have hjl : j < (l1.drop k).length := hj
      rw [List.length_drop, hlen] at hjl
      have hJb : r + J + 1 ≤ n := by omega
      have HP := Aside0.mk (found_pure HS.out.2.2.1 HN.out hj hjc hjn)
      have hrE := Aside0.mk (show (r : Int) + ((J : Int) + 1) = (E : Int) from by omega)
      have hws := Aside0.mk (show wrap64 ((j : Int) + (k : Int)) = (J : Int) ∧ wrap64 ((r : Int) + (J : Int)) = (M : Int) ∧ wrap64 ((M : Int) + 1) = (E : Int) ∧ wrap64 ((J : Int) + 1) = (J1 : Int) ∧ wrap64 ((r : Int) + (J1 : Int)) = (E : Int) ∧ wrap64 ((J1 : Int) - 1) = (J : Int) from
        ⟨w64e (by omega) (by omega) (by omega), w64e (by omega) (by omega) (by omega), w64e (by omega) (by omega) (by omega), w64e (by omega) (by omega) (by omega), w64e (by omega) (by omega) (by omega), w64e (by omega) (by omega) (by omega)⟩)
      obtain ⟨p2, hp2, hsl2⟩ := run_slice_mid C r E (by omega) (by omega)
      obtain rfl := hp2 (by omega)
      rw [show E - r = J1 from by omega] at hsl2
      have HX := Aside0.mk (And.intro hjc (And.intro hjn (And.intro hJ (And.intro hM (And.intro hEE (And.intro hJ1 hjl))))))
      clear hjc hjn hj hJ hM hEE hJ1 hjl
      go_wp2
      go_still_tail 16, (by kernel_rfl)
      change wpList _ _ _ _ _ wr.drew
      obtain ⟨hw0, hw1, hw2, hw3, hw4, hw5⟩ := hws.out
      clear hws hwr
      go_wp2_with (go_at_call 138; refine hix.mono ?_; rintro e w3 ⟨rfl, rfl⟩)
      have HS1 := Aside0.mk (RS.of_heap (W := wr) (W' := wr.drew) rfl HS.out)
      have HT1 := Aside0.mk HT.out.drew
      clear b0 b2 b3 b4 fb HS HT hix HBY HN
      generalize wr.drew = w1 at *
      have b0 : w1.cell? ⟨B, 0, none⟩ = some (.slice (some ⟨C, 0, none⟩) 4096 4096) := cell_of HS1.out.1.bf (i := 0) rfl
      have b2 : w1.cell? ⟨B, 2, none⟩ = some (.int .i64 (r : Int)) := cell_of HS1.out.1.bf (i := 2) rfl
      have fb : ∀ j, w1.frozen? ⟨B, j, none⟩ = false := frozen_of HS1.out.1.bf
      have hv1 : IntKind.i64.wrap ((r : Int) + (J : Int)) = (M : Int) := by rw [i64_w]; exact hw1
      have hv2 : IntKind.i64.wrap ((M : Int) + 1) = (E : Int) := by rw [i64_w]; exact hw2
      go_still_tail 16, (by kernel_rfl)
      change wpList _ _ _ _ _ w1.drew
      clear hv1 hv2
      go_upto_region 19 with (fail)
      rw [hrE.out]
      have hbE := Aside0.mk (show (w1.setCell ⟨B, 2, none⟩ (.int .i64 (E : Int))).heap[B]? = some (.cells #[.slice (some ⟨C, 0, none⟩) 4096 4096, .iface 148 (.pointer (some ⟨R, 0, none⟩)), .int .i64 (E : Int), .int .i64 (n : Int), err, .int .i64 lb, .int .i64 lr] 200 (0, 0)) from heap_put HS1.out.1.bf 2 (.int .i64 (E : Int)) rfl)
      have hcE := Aside0.mk ((Below.heap_setCell w1 ⟨B, 2, none⟩ (.int .i64 (E : Int)) C (fun e => HS1.out.1.bc e.symm)).trans HS1.out.1.cs)
      have hdE := Aside0.mk (show ∃ p, (w1.setCell ⟨B, 2, none⟩ (.int .i64 (E : Int))).heap[R]? = some (.cells #[.string s, .int .i64 (i : Int), .int .i64 p] 177 (0, 0)) from by
        obtain ⟨p, hp⟩ := HS1.out.1.rd
        exact ⟨p, (Below.heap_setCell w1 ⟨B, 2, none⟩ _ R HS1.out.1.rb).trans hp⟩)
      have hTE := Aside0.mk ((HT1.out.setCell ⟨B, 2, none⟩ (.int .i64 (E : Int)) (by simp)).drew)
      clear b0 b2 fb
      generalize hw2 : (w1.setCell ⟨B, 2, none⟩ (.int .i64 (E : Int))).drew = w2 at *
      have hb2 := Aside0.mk (show w2.heap[B]? = some (.cells #[.slice (some ⟨C, 0, none⟩) 4096 4096, .iface 148 (.pointer (some ⟨R, 0, none⟩)), .int .i64 (E : Int), .int .i64 (n : Int), err, .int .i64 lb, .int .i64 lr] 200 (0, 0)) from by rw [← hw2]; exact hbE.out)
      have hc2 := Aside0.mk (show w2.heap[C]? = some (.cells (cellsOf bs) 5 (0, 0)) from by rw [← hw2]; exact hcE.out)
      have hd2 := Aside0.mk (show ∃ p, w2.heap[R]? = some (.cells #[.string s, .int .i64 (i : Int), .int .i64 p] 177 (0, 0)) from by rw [← hw2]; exact hdE.out)
      clear hw2 hbE hcE hdE
      have y5 : w2.cell? ⟨B, 5, none⟩ = some (.int .i64 lb) := cell_of hb2.out (i := 5) rfl
      have y6 : w2.cell? ⟨B, 6, none⟩ = some (.int .i64 lr) := cell_of hb2.out (i := 6) rfl
      have yf : ∀ j, w2.frozen? ⟨B, j, none⟩ = false := frozen_of hb2.out
      have hpc := Aside0.mk (piece_of hc2.out HS1.out.1.len h1 h2 HS1.out.2.1 (J + 1) (by have := HP.out.2.2.2.2; have := HX.out.2.2.1; clear hw0 hw1 hw2 hw3 hw4 hw5; omega))
      have hval : (numsOf (l1.take (J + 1))).getD J 0 = 10 := by
        have h3 := HP.out
        rw [← HX.out.2.2.1] at h3
        rw [← h3.2.2.2.1]
        simp [numsOf, List.getD_eq_getElem?_getD, List.getElem?_take_of_lt, h3.1]
      have hcl : w2.cell? ⟨C, r + J, none⟩ = some (.int .u8 10) := by
        have h4 := hpc.out.2 J (by rw [List.length_take]; have := HP.out.2.2.2.2; have := HX.out.2.2.1; clear hw0 hw1 hw2 hw3 hw4 hw5; omega)
        rw [hval] at h4; exact h4
      have hcl2 : w2.cell? ((⟨C, r, none⟩ : Addr).add J) = some (.int .u8 10) := by
        have e : (⟨C, r, none⟩ : Addr).add J = ⟨C, r + J, none⟩ := by unfold Addr.add; split <;> simp_all
        rw [e]; exact hcl
      have hJ1' := HX.out.2.2.2.2.2.1
      have hJJ : J < J1 := by clear hw0 hw1 hw2 hw3 hw4 hw5; omega
      clear hval hJ1'
      go_wp2
      go_ret2
      clear hw0 hw1 hw2 hw3 hw4 hw5 hcl hcl2 y5 y6 yf
      have h5 := HP.out
      rw [← HX.out.2.2.1] at h5
      have hE1 : E = r + J + 1 := HX.out.2.2.2.2.1
      have hJ2 : J1 = J + 1 := HX.out.2.2.2.2.2.1
      have hjn2 : J + 1 ≤ n - r := by have := h5.2.2.2.2; omega
      have hC3 : ((w2.setCell ⟨B, 5, none⟩ (.int .i64 10)).setCell ⟨B, 6, none⟩ (.int .i64 (-1))).heap[C]? = some (.cells (cellsOf bs) 5 (0, 0)) := (Below.heap_setCell _ ⟨B, 6, none⟩ _ C (fun e => HS1.out.1.bc e.symm)).trans ((Below.heap_setCell _ ⟨B, 5, none⟩ _ C (fun e => HS1.out.1.bc e.symm)).trans hc2.out)
      refine .inl ⟨J, r, i, bs, E, n, err, 10, -1, l1.drop (J + 1), h5.1, h5.2.1, by rw [← hJ2]; rfl, ?_, by omega, ⟨?_, ?_, ?_, HS1.out.2.2.2⟩, (hTE.out.setCell _ _ (by simp)).setCell _ _ (by simp)⟩
      · rw [h5.2.2.2.1]
        exact piece_of hC3 HS1.out.1.len h1 h2 HS1.out.2.1 (J + 1) h5.2.2.2.2
      · obtain ⟨p, hp⟩ := hd2.out
        exact { rd := ⟨p, (Below.heap_setCell _ ⟨B, 6, none⟩ _ R HS1.out.1.rb).trans ((Below.heap_setCell _ ⟨B, 5, none⟩ _ R HS1.out.1.rb).trans hp)⟩, bf := heap_put (heap_put hb2.out 5 _ rfl) 6 _ rfl, cs := hC3, len := HS1.out.1.len, rn := by omega, n4 := h2, is := HS1.out.1.is, ss := HS1.out.1.ss, rb := HS1.out.1.rb, rc := HS1.out.1.rc, bc := HS1.out.1.bc }
      · have h6 := HS1.out.2.1
        rw [← numsOf_drop, ← h6, List.drop_drop, hE1]
        congr 1
      · exact h5.2.2.1.symm
end
/-! What a configuration's text is read as: plain words. -/
section
abbrev Conf := List (ByteArray × List (ByteArray × ByteArray))
def putC {α : Type} (k : ByteArray) (v : α) : List (ByteArray × α) → List (ByteArray × α)
  | [] => [(k, v)]
  | p :: l => if k = p.1 then (p.1, v) :: l else p :: putC k v l
def getC {α : Type} (k : ByteArray) : List (ByteArray × α) → Option α
  | [] => none
  | p :: l => if k = p.1 then some p.2 else getC k l
def defaultB : ByteArray := ⟨#[100, 101, 102, 97, 117, 108, 116]⟩
def secB (s : ByteArray) : ByteArray := if s.toList = ([] : List UInt8) then defaultB else s
def addC (D : Conf) (s o v : ByteArray) : Conf := putC (secB s) (putC o v ((getC (secB s) D).getD [])) D
def lookC (D : Conf) (s o : ByteArray) : Option ByteArray := (getC s D).bind (getC o)
def cutAt (c : UInt8) : List UInt8 → Option (List UInt8 × List UInt8)
  | [] => none
  | b :: l => if b = c then some ([], l) else (cutAt c l).map fun p => (b :: p.1, p.2)
def stripCR (l : List UInt8) : List UInt8 := if l.getLast? = some 13 then l.dropLast else l
structure PS where
  sec : ByteArray
  buf : List UInt8
  cw : Bool
  D : Conf
def flushP (s : PS) : Option PS :=
  if s.buf = [] then some { s with cw := false } else (cutAt 61 s.buf).map fun p => { sec := s.sec, buf := [], cw := false, D := addC s.D s.sec ⟨(Lib.trimSpace p.1).toArray⟩ ⟨(Lib.trimSpace p.2).toArray⟩ }
def headP (s : PS) : Option PS := if s.cw then flushP s else some s
def noteCut (l : List UInt8) : List UInt8 := l.takeWhile fun b => b != 35 && b != 59
def bodyP (s : PS) (l : List UInt8) : Option PS :=
  if l = [] ∨ l.head? = some 59 ∨ l.head? = some 35 then some { s with cw := true }
  else if l.head? = some 91 ∧ l.getLast? = some 93 then (flushP s).map fun s => { s with sec := ⟨l.tail.dropLast.toArray⟩ }
  else if l.getLast? = some 92 then (if Lib.trimSpace l.dropLast = [] then none else some { s with buf := s.buf ++ noteCut (Lib.trimSpace l.dropLast ++ [32]) })
  else some { s with buf := s.buf ++ noteCut l, cw := true }
def stepP (s0 : PS) (line : List UInt8) : Option PS := (headP s0).bind fun s => bodyP s (Lib.trimSpace line)
def firstLine : List UInt8 → List UInt8
  | [] => []
  | b :: l => if b = 10 then [] else b :: firstLine l
def behindLine : List UInt8 → List UInt8
  | [] => []
  | b :: l => if b = 10 then l else behindLine l
theorem behindLine_le : ∀ l : List UInt8, (behindLine l).length ≤ l.length
  | [] => Nat.le_refl _
  | b :: l => by
    unfold behindLine
    split
    · simp
    · have := behindLine_le l
      simp
      omega
theorem behindLine_lt (b : UInt8) (l : List UInt8) : (behindLine (b :: l)).length < (b :: l).length := by
  unfold behindLine
  split
  · simp
  · have := behindLine_le l
    simp
    omega
/-- a text's lines, one by one -/
def runP (s : PS) : List UInt8 → Option PS
  | [] => some s
  | b :: l => (stepP s (firstLine (b :: l))).bind fun s' => runP s' (behindLine (b :: l))
termination_by l => l.length
decreasing_by exact behindLine_lt b l
def parseP (L : List UInt8) : Option Conf := ((runP ⟨⟨#[]⟩, [], false, []⟩ L).bind fun s => flushP s).map (·.D)
/-- no line is too long for the reader's block -/
def shortLines : List UInt8 → Bool
  | [] => true
  | b :: l => decide ((firstLine (b :: l)).length < 4096) && shortLines (behindLine (b :: l))
termination_by l => l.length
decreasing_by exact behindLine_lt b l
theorem line_found : ∀ (L : List UInt8) (j : Nat), L[j]? = some 10 → 10 ∉ L.take j → firstLine L = L.take j ∧ behindLine L = L.drop (j + 1)
  | [], _, h, _ => by simp at h
  | b :: l, 0, h, _ => by
    obtain rfl : b = 10 := by simpa using h
    simp [firstLine, behindLine]
  | b :: l, j + 1, h, hn => by
    have h1 : l[j]? = some 10 := by simpa using h
    have hb : b ≠ 10 := fun e => hn (by simp [e])
    have h2 : 10 ∉ l.take j := fun e => hn (by simp [e])
    obtain ⟨h3, h4⟩ := line_found l j h1 h2
    simp [firstLine, behindLine, hb, h3, h4]
theorem line_none : ∀ (L : List UInt8), 10 ∉ L → firstLine L = L ∧ behindLine L = []
  | [], _ => ⟨rfl, rfl⟩
  | b :: l, h => by
    have hb : b ≠ 10 := fun e => h (by simp [e])
    obtain ⟨h3, h4⟩ := line_none l (fun e => h (by simp [e]))
    simp [firstLine, behindLine, hb, h3, h4]
end
section
open Go.Proofs
/-- what ReadLine answers -/
def LinePost (pe : Addr) (W : World) (R B C : Nat) (s : ByteArray) (L : List UInt8) (e : Ending) (w' : World) : Prop :=
  (∃ (j a i : Nat) (bs : List Int) (r n : Nat) (err : Value) (lb lr : Int) (l1 : List UInt8), L[j]? = some 10 ∧ 10 ∉ L.take j ∧ e = .returned (.tuple #[.slice (some ⟨C, a, none⟩) (stripCR (L.take j)).length (4096 - a), .bool false, .nilIface]) ∧ Piece w' C a (stripCR (L.take j)) ∧ a + (j + 1) ≤ r ∧ RS pe w' R B C s (L.drop (j + 1)) i bs r n err lb lr l1 ∧ Turn [R, B, C] W w') ∨
  (∃ (a i : Nat) (bs : List Int) (r n : Nat) (lb lr : Int), 10 ∉ L ∧ RS pe w' R B C s [] i bs r n .nilIface lb lr [] ∧ Turn [R, B, C] W w' ∧
    ((0 < L.length ∧ e = .returned (.tuple #[.slice (some ⟨C, a, none⟩) L.length (4096 - a), .bool false, .nilIface]) ∧ Piece w' C a L ∧ a + L.length ≤ r) ∨ (L = [] ∧ e = .returned (.tuple #[.slice none 0 0, .bool false, eofV pe]))))
theorem Piece.take {W : World} {C a : Nat} {l : List UInt8} (h : Piece W C a l) (q : Nat) (hq : q ≤ l.length) : Piece W C a (l.take q) := by
  have hq2 : (l.take q).length = q := by rw [List.length_take]; omega
  refine ⟨by rw [hq2]; have := h.1; omega, fun j hj => ?_⟩
  rw [hq2] at hj
  rw [h.2 j (by omega)]
  congr 2
  simp [numsOf, List.getD_eq_getElem?_getD, List.getElem?_take_of_lt hj]
theorem errs_other {w : World} {pe pb : Addr} {ca cb : Array Value} {ta tb : TypeId} (hne : pe ≠ pb) (ha : w.heap[pe.block]? = some (.cells ca ta (0, 0))) (hb : w.heap[pb.block]? = some (.cells cb tb (0, 0))) :
    (binOp .eql 61 (.iface 179 (.pointer (some pe))) (.iface 179 (.pointer (some pb)))).run Tryz.prog w = .ok (.bool false) w := by
  obtain ⟨i, hi, hc⟩ := Option.map_eq_some_iff.1 (show (Tryz.prog.info? 179).map (·.comparable) = some true from by kernel_rfl)
  obtain ⟨j, hj, hs⟩ := Option.map_eq_some_iff.1 (show (Tryz.prog.info? 181).map (·.size) = some 1 from by kernel_rfl)
  have hs : j.size ≠ 0 := by omega
  exact run_eql_iface_ptr_other w Tryz.underlying61 Tryz.underlying179 hi hc hj hs hne ha hb
set_option maxHeartbeats 8000000 in
set_option maxRecDepth 100000 in
theorem bu_readLine (pe pb : Addr) (W : World) (R B C : Nat) (s : ByteArray) (L : List UInt8) (i r n : Nat) (bs : List Int) (err : Value) (lb lr : Int) (l1 : List UInt8) (h : RS pe W R B C s L i bs r n err lb lr l1) (hE : W.cell? ⟨2, 0, none⟩ = some (eofV pe)) (hg : 2 ≠ R ∧ 2 ≠ B ∧ 2 ≠ C)
    (hF : W.cell? ⟨3, 0, none⟩ = some (eofV pb)) (hgb : 3 ≠ R ∧ 3 ≠ B ∧ 3 ≠ C) (hne : pe ≠ pb) (hbe : ∃ ca ta, W.heap[pe.block]? = some (.cells ca ta (0, 0))) (hbb : ∃ ca ta, W.heap[pb.block]? = some (.cells ca ta (0, 0))) (hke : pe.block ∉ [R, B, C]) (hkb : pb.block ∉ [R, B, C])
    (hs1 : ∀ j, L[j]? = some 10 → 10 ∉ L.take j → j < 4096) (hs2 : 10 ∉ L → L.length < 4096) :
    Calls Tryz.prog 107 #[.pointer (some ⟨B, 0, none⟩)] W fun e w' => LinePost pe W R B C s L e w' := by
  go_enter Tryz.func107, Tryz.ntmps107
  have hrs := bu_readSlice pe W R B C s L i r n bs err lb lr l1 h hE hg hs1 hs2
  clear h
  go_wp2_with (fail)
  refine hrs.mono ?_
  clear hrs
  rintro e w3 (⟨j, a, i, bs, r, n, err, lb, lr, l1, hj, hjn, rfl, hP, har, hS, hT⟩ | ⟨hno, p, a, c, i, bs, r, n, lb, lr, hpc, hcl, rfl, hP, har, hS, hT⟩)
  · have hF3 : w3.cell? ⟨3, 0, none⟩ = some (eofV pb) := by
      have hb := hT.block 3 (World.block_lt_of_cell? W _ hF) (by simp; exact hgb)
      unfold World.cell? at hF ⊢
      rw [hb]; exact hF
    unfold eofV at hF3
    have hnb : ∀ w : World, (binOp .eql 61 .nilIface (.iface 179 (.pointer (some pb)))).run Tryz.prog w = .ok (.bool false) w := fun w => by kernel_rfl
    have H3 := Aside0.mk (And.intro hj (And.intro hjn (And.intro hP (And.intro har (And.intro hS hT)))))
    clear hj hjn hP har hS hT
    have hjl : j < L.length := (List.getElem?_eq_some_iff.1 H3.out.1).1
    have hcl : w3.cell? ⟨C, a + j, none⟩ = some (.int .u8 10) := by
      have h4 := H3.out.2.2.1.2 j (by rw [List.length_take]; omega)
      rw [h4]
      congr 2
      simp [numsOf, List.getD_eq_getElem?_getD, List.getElem?_take_of_lt, H3.out.1]
    have ha4 := Aside0.mk H3.out.2.2.1.1
    have hcl2 : w3.cell? ((⟨C, a, none⟩ : Addr).add j) = some (.int .u8 10) := by
      have e : (⟨C, a, none⟩ : Addr).add j = ⟨C, a + j, none⟩ := by unfold Addr.add; split <;> simp_all
      rw [e]; exact hcl
    have hj4 : (j : Int) < 4096 := by have := ha4.out; rw [List.length_take] at this; omega
    rcases Nat.eq_zero_or_pos j with h0 | h0
    · subst h0
      have hcl3 : w3.cell? ⟨C, a, none⟩ = some (.int .u8 10) := hcl
      go_wp2
      go_ret3
      obtain ⟨hj, hjn, hP, har, hS, hT⟩ := H3.out
      exact .inl ⟨0, a, i, bs, r, n, err, lb, lr, l1, hj, hjn, rfl, (hP.take 0 (Nat.zero_le _)), har, hS, hT⟩
    · obtain ⟨m, rfl⟩ : ∃ m, j = m + 1 := ⟨j - 1, by omega⟩
      have hbm : L[m]? = some (L[m]'(by omega)) := List.getElem?_eq_getElem (by omega)
      obtain ⟨b, hb⟩ : ∃ b, b = L[m]'(by omega) := ⟨_, rfl⟩
      rw [← hb] at hbm
      have hcm : w3.cell? ⟨C, a + m, none⟩ = some (.int .u8 (b.toNat : Int)) := by
        have h4 := H3.out.2.2.1.2 m (by rw [List.length_take]; omega)
        rw [h4]
        congr 2
        unfold numsOf
        rw [List.getD_eq_getElem?_getD, List.getElem?_map, List.getElem?_take_of_lt (by omega), hbm]
        rfl
      have HB := Aside0.mk hbm
      clear hb hbm
      have hma : m + 2 ≤ 4096 - a := by have := ha4.out; rw [List.length_take] at this; omega
      have hmb : m + 1 + 1 ≤ 4096 - a := hma
      have hmc : m ≤ 4096 - a := by omega
      have hmd : m + 1 ≤ 4096 - a := by omega
      have hlast : (L.take (m + 1)).getLast? = some b := by
        rw [List.getLast?_eq_getElem?, List.length_take, List.getElem?_take_of_lt (by omega), show min (m + 1) L.length - 1 = m from by omega]
        exact HB.out
      have HLs := Aside0.mk hlast
      clear hlast
      by_cases h13 : (b.toNat : Int) = 13
      · rw [h13] at hcm
        have hb13 : b = 13 := by
          apply UInt8.toNat_inj.1
          show b.toNat = 13
          omega
        have hst : stripCR (L.take (m + 1)) = L.take m := by
          unfold stripCR
          rw [HLs.out, hb13, if_pos rfl, List.dropLast_eq_take, List.length_take, List.take_take]
          congr 1
          omega
        have HST := Aside0.mk hst
        clear hst hb13
        go_wp2
        go_ret3
        obtain ⟨hj, hjn, hP, har, hS, hT⟩ := H3.out
        refine .inl ⟨m + 1, a, i, bs, r, n, err, lb, lr, l1, hj, hjn, ?_, ?_, har, hS, hT⟩
        · rw [HST.out, List.length_take, Nat.min_eq_left (by omega)]; rfl
        · rw [HST.out]
          have h7 := hP.take m (by rw [List.length_take]; omega)
          rwa [List.take_take, Nat.min_eq_left (by omega)] at h7
      · have hst : stripCR (L.take (m + 1)) = L.take (m + 1) := by
          unfold stripCR
          rw [HLs.out, if_neg]
          intro e
          have e2 := Option.some.inj e
          subst e2
          exact h13 rfl
        have HST := Aside0.mk hst
        clear hst
        go_wp2
        go_ret3
        obtain ⟨hj, hjn, hP, har, hS, hT⟩ := H3.out
        refine .inl ⟨m + 1, a, i, bs, r, n, err, lb, lr, l1, hj, hjn, ?_, ?_, har, hS, hT⟩
        · rw [HST.out, List.length_take, Nat.min_eq_left (by omega)]; rfl
        · rw [HST.out]
          have h7 := hP.take (m + 1) (by rw [List.length_take]; omega)
          rwa [List.take_take, Nat.min_eq_left (by omega)] at h7
  · have hF3 : w3.cell? ⟨3, 0, none⟩ = some (eofV pb) := by
      have hb := hT.block 3 (World.block_lt_of_cell? W _ hF) (by simp; exact hgb)
      unfold World.cell? at hF ⊢
      rw [hb]; exact hF
    unfold eofV at hF3
    obtain ⟨ca, ta, hce⟩ := hbe
    obtain ⟨cb, tb, hcb⟩ := hbb
    have hce3 : w3.heap[pe.block]? = some (.cells ca ta (0, 0)) := (hT.block _ (gotlt hce) hke).trans hce
    have hcb3 : w3.heap[pb.block]? = some (.cells cb tb (0, 0)) := (hT.block _ (gotlt hcb) hkb).trans hcb
    have hnb : (binOp .eql 61 (.iface 179 (.pointer (some pe))) (.iface 179 (.pointer (some pb)))).run Tryz.prog w3 = .ok (.bool false) w3 :=
      errs_other hne hce3 hcb3
    clear hce3 hcb3 hce hcb
    have H3 := Aside0.mk (And.intro hno (And.intro hP (And.intro har (And.intro hS hT))))
    clear hno hP har hS hT
    unfold eofV
    rcases Nat.eq_zero_or_pos L.length with h0 | h0
    · rw [h0]
      go_wp2
      go_ret3
      obtain ⟨hno, hP, har, hS, hT⟩ := H3.out
      exact .inr ⟨a, i, bs, r, n, lb, lr, hno, hS, hT, .inr ⟨List.eq_nil_of_length_eq_zero h0, rfl⟩⟩
    · obtain ⟨rfl, rfl⟩ := hpc h0
      obtain ⟨m, hm⟩ : ∃ m, L.length = m + 1 := ⟨L.length - 1, by omega⟩
      have hbm : L[m]? = some (L[m]'(by omega)) := List.getElem?_eq_getElem (by omega)
      obtain ⟨b, hb⟩ : ∃ b, b = L[m]'(by omega) := ⟨_, rfl⟩
      rw [← hb] at hbm
      have hb10 : ¬ ((b.toNat : Int) = 10) := by
        intro e
        have e2 : b = 10 := UInt8.toNat_inj.1 (by show b.toNat = 10; omega)
        subst e2
        exact H3.out.1 (List.mem_of_getElem? hbm)
      have hcm : w3.cell? ⟨C, a + m, none⟩ = some (.int .u8 (b.toNat : Int)) := by
        have h4 := H3.out.2.1.2 m (by omega)
        rw [h4]
        congr 2
        unfold numsOf
        rw [List.getD_eq_getElem?_getD, List.getElem?_map, hbm]
        rfl
      have hma : m + 1 ≤ 4096 - a := by have := H3.out.2.1.1; omega
      have hmb : m ≤ 4096 - a := by omega
      have HM := Aside0.mk (And.intro hm hbm)
      clear hb hbm h0 hcl hpc
      rw [hm]
      clear hm
      go_wp2
      go_ret3
      obtain ⟨hno, hP, har, hS, hT⟩ := H3.out
      have hm := HM.out.1
      exact .inr ⟨a, i, bs, r, n, lb, lr, hno, hS, hT, .inl ⟨by omega, by rw [hm]; rfl, hP, har⟩⟩
end
/-! Maps whose keys are strings: the list of their keys and values. -/
section
open Go.Proofs
def SMap (es : Array MapEntry) (st : List (ByteArray × Value)) : Prop := es.toList.map (fun e => (e.key, e.val)) = st.map (fun p => (Value.string p.1, p.2))
def lookS (k : ByteArray) : List (ByteArray × Value) → Nat → Option (Nat × Value)
  | [], _ => none
  | p :: l, i => if k = p.1 then some (i, p.2) else lookS k l (i + 1)
def putS (k : ByteArray) (v : Value) : List (ByteArray × Value) → List (ByteArray × Value)
  | [] => [(k, v)]
  | p :: l => if k = p.1 then (p.1, v) :: l else p :: putS k v l
def setO (w : World) (b : Nat) (o : Obj) : World := { w with heap := w.heap.setIfInBounds b o }
theorem smap_empty : SMap #[] [] := rfl
theorem findNow_str (k : ByteArray) : ∀ (es : List MapEntry) (st : List (ByteArray × Value)) (i : Nat), es.map (fun e => (e.key, e.val)) = st.map (fun p => (Value.string p.1, p.2)) → Instr.findNow .string (.string k) es i = some (lookS k st i)
  | [], [], _, _ => rfl
  | [], _ :: _, _, h => by simp at h
  | _ :: _, [], _, h => by simp at h
  | e :: es, p :: st, i, h => by
    simp only [List.map_cons, List.cons.injEq, Prod.mk.injEq] at h
    obtain ⟨⟨h1, h2⟩, h3⟩ := h
    have ih := findNow_str k es st (i + 1) h3
    unfold Instr.findNow lookS
    rw [h1]
    by_cases g : k = p.1
    · have gb : (k == p.1) = true := (MapKept.bytes_beq k p.1).2 g
      simp only [Instr.sameNow, gb, if_pos g, h2]
    · have gb : (k == p.1) = false := Bool.eq_false_iff.2 (fun e => g ((MapKept.bytes_beq k p.1).1 e))
      simp [Instr.sameNow, gb, g, ih]
theorem lookS_ge (k : ByteArray) : ∀ (st : List (ByteArray × Value)) (i j : Nat) (v : Value), lookS k st i = some (j, v) → i ≤ j ∧ st[j - i]? = some (k, v)
  | [], _, _, _, h => by cases h
  | p :: st, i, j, v, h => by
    unfold lookS at h
    split at h
    · rename_i g
      cases h
      subst g
      simp
    · obtain ⟨h1, h2⟩ := lookS_ge k st (i + 1) j v h
      refine ⟨by omega, ?_⟩
      rw [show j - i = (j - (i + 1)) + 1 from by omega]
      simpa using h2
theorem lookS_none (k : ByteArray) : ∀ (st : List (ByteArray × Value)) (i : Nat), lookS k st i = none ↔ ∀ p ∈ st, p.1 ≠ k
  | [], _ => by simp [lookS]
  | p :: st, i => by
    unfold lookS
    by_cases g : k = p.1
    · subst g
      simp
    · have g2 : ¬ p.1 = k := fun e => g e.symm
      simp [g, g2, lookS_none k st (i + 1)]
theorem putS_new (k : ByteArray) (v : Value) : ∀ (st : List (ByteArray × Value)), (∀ p ∈ st, p.1 ≠ k) → putS k v st = st ++ [(k, v)]
  | [], _ => rfl
  | p :: st, h => by
    unfold putS
    rw [if_neg (fun e => h p (List.mem_cons_self ..) e.symm), putS_new k v st (fun q hq => h q (List.mem_cons_of_mem _ hq))]
    rfl
theorem putS_at (k : ByteArray) (v : Value) : ∀ (st : List (ByteArray × Value)) (i j : Nat) (u : Value), lookS k st i = some (j, u) → putS k v st = st.modify (j - i) (fun _ => (k, v))
  | [], _, _, _, h => by cases h
  | p :: st, i, j, u, h => by
    unfold lookS at h
    unfold putS
    by_cases g : k = p.1
    · rw [if_pos g] at h ⊢
      cases h
      simp [g]
    · rw [if_neg g] at h ⊢
      obtain ⟨h1, _⟩ := lookS_ge k st (i + 1) j u h
      rw [putS_at k v st (i + 1) j u h, show j - i = (j - (i + 1)) + 1 from by omega]
      rfl
variable {P : Program} {T K E : TypeId}
theorem run_check_s (hK : P.underlying K = some .string) (em : Bool) (a : ByteArray) (w : World) : (Instr.checkKey em 10000 K (.string a)).run P w = .ok () w := by
  exact MapKept.run_checkKey (d := .string) hK (by unfold MapKept.IsKey; trivial) em 9999
theorem run_find_s (hK : P.underlying K = some .string) (k : ByteArray) (w : World) {es : Array MapEntry} {st : List (ByteArray × Value)} (h : SMap es st) : (Instr.findKey K (.string k) es.toList).run P w = .ok (lookS k st 0) w := by
  exact MapKept.run_findKey hK (findNow_str k es.toList st 0 h)
theorem run_look_s (hT : P.underlying T = some (.map K E)) (hK : P.underlying K = some .string) {w : World} {M : Nat} {es : Array MapEntry} {c : Nat} {st : List (ByteArray × Value)} (hb : w.heap[M]? = some (.map es c)) (h : SMap es st) {k : ByteArray} {j : Nat} {v : Value} (hl : lookS k st 0 = some (j, v)) (ok : Bool) :
    (Instr.lookup T (.map (some M)) (.string k) ok).run P w = .ok (if ok then .tuple #[v, .bool true] else v) w := by
  cases ok <;> simp [Instr.lookup, run_underlying hT, MapKept.run_getObj_map hb, run_check_s hK, run_find_s hK k w h, hl, Result.andThen]
theorem run_look_none_s (hT : P.underlying T = some (.map K E)) (hK : P.underlying K = some .string) {w : World} {M : Nat} {es : Array MapEntry} {c : Nat} {st : List (ByteArray × Value)} (hb : w.heap[M]? = some (.map es c)) (h : SMap es st) {k : ByteArray} (hl : lookS k st 0 = none) {z : Value} (hz : (zeroValue E).run P w = .ok z w) (ok : Bool) :
    (Instr.lookup T (.map (some M)) (.string k) ok).run P w = .ok (if ok then .tuple #[z, .bool false] else z) w := by
  cases ok <;> simp [Instr.lookup, run_underlying hT, MapKept.run_getObj_map hb, run_check_s hK, run_find_s hK k w h, hl, hz, Result.andThen]
theorem run_look_nil_s (hT : P.underlying T = some (.map K E)) (hK : P.underlying K = some .string) (w : World) (k : ByteArray) {z : Value} (hz : (zeroValue E).run P w = .ok z w) (ok : Bool) :
    (Instr.lookup T (.map none) (.string k) ok).run P w = .ok (if ok then .tuple #[z, .bool false] else z) w := by
  have hf := run_find_s hK k w (es := #[]) (st := []) rfl
  cases ok <;> simp [Instr.lookup, run_underlying hT, run_check_s hK, hf, lookS, hz, Result.andThen]
theorem run_put_s (hT : P.underlying T = some (.map K E)) (hK : P.underlying K = some .string) {w : World} {M : Nat} {es : Array MapEntry} {c : Nat} {st : List (ByteArray × Value)} (hb : w.heap[M]? = some (.map es c)) (h : SMap es st) (k : ByteArray) (v : Value) :
    ∃ es' c', SMap es' (putS k v st) ∧ (Instr.mapUpdate T (.map (some M)) (.string k) v).run P w = .ok () (setO w M (.map es' c')) := by
  cases hl : lookS k st 0 with
  | none =>
    refine ⟨es.push ⟨.string k, v, c⟩, c + 1, ?_, ?_⟩
    · unfold SMap at h ⊢
      rw [putS_new k v st ((lookS_none k st 0).1 hl)]
      simp [h]
    · simp [Instr.mapUpdate, run_underlying hT, MapKept.run_getObj_map hb, run_check_s hK, run_find_s hK k w h, hl, MapKept.run_setObj_map _ hb, Result.andThen, setO]
  | some ju =>
    obtain ⟨j, u⟩ := ju
    obtain ⟨_, hg⟩ := lookS_ge k st 0 j u hl
    simp only [Nat.sub_zero] at hg
    have hes : (es.toList.map (fun e => (e.key, e.val)))[j]? = some (.string k, u) := by rw [h, List.getElem?_map, hg]; rfl
    rw [List.getElem?_map] at hes
    obtain ⟨e, he, hkv⟩ := Option.map_eq_some_iff.1 hes
    have hek : e.key = .string k := congrArg Prod.fst hkv
    have he2 : es[j]? = some e := by simpa using he
    refine ⟨es.modify j fun e => { e with key := .string k, val := v }, c, ?_, ?_⟩
    · unfold SMap at h ⊢
      rw [putS_at k v st 0 j u hl, Array.toList_modify, Nat.sub_zero]
      apply List.ext_getElem?
      intro i
      have hi := congrArg (fun l => l[i]?) h
      simp only [List.getElem?_map, List.getElem?_modify] at hi ⊢
      by_cases hij : j = i
      · subst hij
        simp [he, hg]
      · simp only [hij, if_false]
        simpa using hi
    · have hst : (Instr.keyThatStays (.string k) (.string k)).run P w = .ok (.string k) w := MapKept.run_keyThatStays (d := .string) (by unfold MapKept.IsKey; trivial)
      simp [Instr.mapUpdate, run_underlying hT, MapKept.run_getObj_map hb, run_check_s hK, run_find_s hK k w h, hl, he2, hek, hst, MapKept.run_setObj_map _ hb, Result.andThen, setO]
theorem setO_same {w : World} {b : Nat} {o : Obj} (h : b < w.heap.size) : (setO w b o).heap[b]? = some o := by simp [setO, h]
theorem setO_ne {w : World} {b k : Nat} {o : Obj} (h : k ≠ b) : (setO w b o).heap[k]? = w.heap[k]? := by
  unfold setO
  simp only [Array.getElem?_setIfInBounds]
  rw [if_neg (fun e => h e.symm)]
theorem setO_size {w : World} {b : Nat} {o : Obj} : (setO w b o).heap.size = w.heap.size := by simp [setO]
end
/-! A configuration in memory: a map of maps behind a pointer; AddConfig. -/
section
open Go.Proofs
abbrev Secs := List (ByteArray × Nat × List (ByteArray × ByteArray))
def secVals (st : Secs) : List (ByteArray × Value) := st.map fun x => (x.1, .map (some x.2.1))
def optVals (l : List (ByteArray × ByteArray)) : List (ByteArray × Value) := l.map fun p => (p.1, .string p.2)
def confOf (st : Secs) : Conf := st.map fun x => (x.1, x.2.2)
structure ConfIs (w : World) (p m : Nat) (st : Secs) : Prop where
  ptr : w.heap[p]? = some (.cells #[.map (some m)] 144 (0, 0))
  top : ∃ es c, w.heap[m]? = some (.map es c) ∧ SMap es (secVals st)
  sub : ∀ x ∈ st, ∃ es c, w.heap[x.2.1]? = some (.map es c) ∧ SMap es (optVals x.2.2)
  nodup : (m :: st.map (·.2.1)).Nodup
theorem sec_some {k : ByteArray} {D : List (ByteArray × ByteArray)} : ∀ {st : Secs}, getC k (confOf st) = some D → ∃ A n B, st = A ++ (k, n, D) :: B ∧ ∀ x ∈ A, x.1 ≠ k
  | [], h => by cases h
  | x :: st, h => by
    obtain ⟨a, n, E⟩ := x
    unfold confOf getC at h
    by_cases g : k = a
    · subst g
      simp at h
      subst h
      exact ⟨[], n, st, rfl, by simp⟩
    · simp [g] at h
      obtain ⟨A, m, B, rfl, hA⟩ := sec_some (st := st) h
      refine ⟨(a, n, E) :: A, m, B, rfl, fun x hx => ?_⟩
      rcases List.mem_cons.1 hx with rfl | hx
      · exact fun e => g e.symm
      · exact hA x hx
theorem sec_none {k : ByteArray} : ∀ {st : Secs}, getC k (confOf st) = none → ∀ x ∈ st, x.1 ≠ k
  | [], _ => by simp
  | y :: st, h => by
    obtain ⟨a, n, E⟩ := y
    unfold confOf getC at h
    by_cases g : k = a
    · simp [g] at h
    · simp [g] at h
      intro x hx
      rcases List.mem_cons.1 hx with rfl | hx
      · exact fun e => g e.symm
      · exact sec_none (st := st) h x hx
theorem look_sec {k : ByteArray} {n : Nat} {D : List (ByteArray × ByteArray)} {B : Secs} : ∀ {A : Secs}, (∀ x ∈ A, x.1 ≠ k) → ∀ i, lookS k (secVals (A ++ (k, n, D) :: B)) i = some (i + A.length, .map (some n))
  | [], _, i => by simp [secVals, lookS]
  | x :: A, h, i => by
    have hx : ¬ k = x.1 := fun e => h x (List.mem_cons_self ..) e.symm
    have ih := look_sec (k := k) (n := n) (D := D) (B := B) (A := A) (fun y hy => h y (List.mem_cons_of_mem _ hy)) (i + 1)
    unfold secVals at ih ⊢
    simp only [List.cons_append, List.map_cons, lookS, if_neg hx, ih, List.length_cons]
    congr 2
    omega
theorem look_sec_none {k : ByteArray} {st : Secs} (h : ∀ x ∈ st, x.1 ≠ k) : lookS k (secVals st) 0 = none := by
  rw [lookS_none]
  intro p hp
  obtain ⟨x, hx, rfl⟩ := List.mem_map.1 hp
  exact h x hx
theorem look_opt {o : ByteArray} : ∀ {l : List (ByteArray × ByteArray)} (i : Nat), (∃ v j, getC o l = some v ∧ lookS o (optVals l) i = some (j, .string v)) ∨ (getC o l = none ∧ lookS o (optVals l) i = none)
  | [], _ => .inr ⟨rfl, rfl⟩
  | p :: l, i => by
    unfold getC optVals
    simp only [List.map_cons, lookS]
    by_cases g : o = p.1
    · exact .inl ⟨p.2, i, by simp [g], by simp [g]⟩
    · simp only [if_neg g]
      exact look_opt (o := o) (l := l) (i + 1)
theorem putS_opt (o v : ByteArray) : ∀ l : List (ByteArray × ByteArray), putS o (.string v) (optVals l) = optVals (putC o v l)
  | [] => rfl
  | p :: l => by
    have ih := putS_opt o v l
    unfold optVals at ih ⊢
    simp only [List.map_cons, putS, putC]
    split
    · rfl
    · simp only [List.map_cons, ih]
theorem putS_sec_new {k : ByteArray} {st : Secs} (h : ∀ x ∈ st, x.1 ≠ k) (n : Nat) : putS k (.map (some n)) (secVals st) = secVals (st ++ [(k, n, [])]) := by
  rw [putS_new]
  · simp [secVals]
  · intro p hp
    obtain ⟨x, hx, rfl⟩ := List.mem_map.1 hp
    exact h x hx
theorem putC_at {k : ByteArray} {n : Nat} {D E : List (ByteArray × ByteArray)} {B : Secs} : ∀ {A : Secs}, (∀ x ∈ A, x.1 ≠ k) → putC k E (confOf (A ++ (k, n, D) :: B)) = confOf (A ++ (k, n, E) :: B)
  | [], _ => by simp [confOf, putC]
  | x :: A, h => by
    have hx : ¬ k = x.1 := fun e => h x (List.mem_cons_self ..) e.symm
    have ih := putC_at (k := k) (n := n) (D := D) (E := E) (B := B) (A := A) (fun y hy => h y (List.mem_cons_of_mem _ hy))
    unfold confOf at ih ⊢
    simp only [List.cons_append, List.map_cons, putC, if_neg hx, ih]
theorem putC_new {k : ByteArray} {E : List (ByteArray × ByteArray)} {n : Nat} : ∀ {st : Secs}, (∀ x ∈ st, x.1 ≠ k) → putC k E (confOf st) = confOf (st ++ [(k, n, E)])
  | [], _ => rfl
  | x :: A, h => by
    have hx : ¬ k = x.1 := fun e => h x (List.mem_cons_self ..) e.symm
    have ih := putC_new (k := k) (n := n) (E := E) (st := A) (fun y hy => h y (List.mem_cons_of_mem _ hy))
    unfold confOf at ih ⊢
    simp only [List.cons_append, List.map_cons, putC, if_neg hx, ih]
/-- maps of a list alone have turned, and blocks are new -/
structure MTurn (bs : List Nat) (w w' : World) : Prop where
  os : w'.os = w.os
  tape : w'.tape = w.tape
  output : w'.output = w.output
  size : w.heap.size ≤ w'.heap.size
  block : ∀ k, k < w.heap.size → k ∉ bs → w'.heap[k]? = w.heap[k]?
  kind : ∀ (k : Nat) (o : Obj), w.heap[k]? = some o → (∀ (es : Array MapEntry) (c : Nat), o ≠ Obj.map es c) → w'.heap[k]? = some o
theorem MTurn.refl (bs : List Nat) (w : World) : MTurn bs w w := ⟨rfl, rfl, rfl, Nat.le_refl _, fun _ _ _ => rfl, fun _ _ h _ => h⟩
theorem MTurn.setO {bs : List Nat} {a w : World} (h : MTurn bs a w) {b : Nat} {es es' : Array MapEntry} {c c' : Nat} (hb : w.heap[b]? = some (.map es c)) (hm : b ∈ bs ∨ a.heap.size ≤ b) : MTurn bs a (setO w b (.map es' c')) :=
  ⟨h.os, h.tape, h.output, by rw [setO_size]; exact h.size, fun k hk hn => (setO_ne (fun e => by subst e; rcases hm with hm | hm; exact hn hm; omega)).trans (h.block k hk hn),
    fun k o hk ho => (setO_ne (fun e => by subst e; have := h.kind k o hk ho; rw [hb] at this; exact ho es c (Option.some.inj this).symm)).trans (h.kind k o hk ho)⟩
theorem MTurn.alloc {bs : List Nat} {a w : World} (h : MTurn bs a w) (o : Obj) : MTurn bs a (w.alloc o) :=
  ⟨h.os, h.tape, h.output, Nat.le_trans h.size (by simp), fun k hk hn => (Below.heap_alloc w o k (Nat.lt_of_lt_of_le hk h.size)).trans (h.block k hk hn), fun k p hk hp => by
    have h1 := h.kind k p hk hp
    exact (Below.heap_alloc w o k (Array.getElem?_eq_some_iff.1 h1).1).trans h1⟩
theorem MTurn.drewN {bs : List Nat} {a w : World} (h : MTurn bs a w) (q : Nat) : MTurn bs a (w.drewN q) := ⟨h.os, h.tape, h.output, h.size, h.block, h.kind⟩
theorem MTurn.trans {bs : List Nat} {a b c : World} (h : MTurn bs a b) (k : MTurn bs b c) : MTurn bs a c :=
  ⟨k.os.trans h.os, k.tape.trans h.tape, k.output.trans h.output, Nat.le_trans h.size k.size, fun i hi hL => (k.block i (Nat.lt_of_lt_of_le hi h.size) hL).trans (h.block i hi hL), fun i o hi ho => k.kind i o (h.kind i o hi ho) ho⟩
def AddPost (w : World) (p m : Nat) (st : Secs) (s o v : ByteArray) (e : Ending) (w' : World) : Prop :=
  ∃ (b : Bool) (st' : Secs), e = .returned (.bool b) ∧ ConfIs w' p m st' ∧ confOf st' = addC (confOf st) s o v ∧ (∀ n, n ∈ st'.map (·.2.1) → n ∈ st.map (·.2.1) ∨ n = w.heap.size) ∧ MTurn (m :: st.map (·.2.1)) w w'
theorem conf_move {w w' : World} {p m : Nat} {st : Secs} (h : ConfIs w p m st) (hp : w'.heap[p]? = w.heap[p]?) (hm : ∀ k, k ∈ m :: st.map (·.2.1) → w'.heap[k]? = w.heap[k]?) : ConfIs w' p m st where
  ptr := hp.trans h.ptr
  top := by obtain ⟨es, c, h1, h2⟩ := h.top; exact ⟨es, c, (hm m (List.mem_cons_self ..)).trans h1, h2⟩
  sub := fun x hx => by obtain ⟨es, c, h1, h2⟩ := h.sub x hx; exact ⟨es, c, (hm _ (List.mem_cons_of_mem _ (List.mem_map_of_mem hx))).trans h1, h2⟩
  nodup := h.nodup
/-- an option is written into a section's map -/
theorem conf_put {w w' : World} {p m n : Nat} {A B : Secs} {k : ByteArray} {D E : List (ByteArray × ByteArray)} {es : Array MapEntry} {c : Nat} (h : ConfIs w p m (A ++ (k, n, D) :: B)) (h1 : w'.heap[n]? = some (.map es c)) (h2 : SMap es (optVals E)) (h3 : ∀ j, j ≠ n → w'.heap[j]? = w.heap[j]?) (hpn : p ≠ n) : ConfIs w' p m (A ++ (k, n, E) :: B) where
  ptr := (h3 p hpn).trans h.ptr
  top := by
    obtain ⟨es, c, h4, h5⟩ := h.top
    have hmn : m ≠ n := fun e => by
      have := h.nodup
      simp [e] at this
    exact ⟨es, c, (h3 m hmn).trans h4, by simpa [secVals] using h5⟩
  sub := fun x hx => by
    rcases List.mem_append.1 hx with hx | hx
    · have hne : x.2.1 ≠ n := fun e => by
        have := h.nodup
        simp only [List.map_append, List.map_cons, List.nodup_cons] at this
        have h5 := (List.nodup_append.1 this.2).2.2 x.2.1 (List.mem_map_of_mem hx) n (List.mem_cons_self ..)
        exact h5 e
      obtain ⟨es, c, h4, h5⟩ := h.sub x (List.mem_append_left _ hx)
      exact ⟨es, c, (h3 _ hne).trans h4, h5⟩
    · rcases List.mem_cons.1 hx with rfl | hx
      · exact ⟨es, c, h1, h2⟩
      · have hne : x.2.1 ≠ n := fun e => by
          have := h.nodup
          simp only [List.map_append, List.map_cons, List.nodup_cons] at this
          have h5 := (List.nodup_append.1 this.2).2.1
          rw [List.nodup_cons] at h5
          exact h5.1 (by rw [← e]; exact List.mem_map_of_mem hx)
        obtain ⟨es, c, h4, h5⟩ := h.sub x (List.mem_append_right _ (List.mem_cons_of_mem _ hx))
        exact ⟨es, c, (h3 _ hne).trans h4, h5⟩
  nodup := by simpa using h.nodup
theorem conf_kinds {w : World} {p m : Nat} {st : Secs} (h : ConfIs w p m st) : p ∉ m :: st.map (·.2.1) := by
  intro hp
  have h1 := h.ptr
  rcases List.mem_cons.1 hp with e | hp
  · obtain ⟨es, c, h2, _⟩ := h.top
    rw [e, h2] at h1; cases h1
  · obtain ⟨x, hx, e⟩ := List.mem_map.1 hp
    obtain ⟨es, c, h2, _⟩ := h.sub x hx
    rw [← e, h2] at h1; cases h1
theorem uT1 : Tryz.prog.underlying 142 = some (.map 9 119) := by kernel_rfl
theorem uT2 : Tryz.prog.underlying 119 = some (.map 9 9) := by kernel_rfl
theorem uTs : Tryz.prog.underlying 9 = some .string := by kernel_rfl
theorem zT2 (w : World) : (zeroValue 119).run Tryz.prog w = .ok (.map none) w := by kernel_rfl
theorem zTs (w : World) : (zeroValue 9).run Tryz.prog w = .ok (.string ⟨#[]⟩) w := by kernel_rfl
/-- AddConfig's walk where the section is there -/
theorem add_old (p m n : Nat) (s k o v : ByteArray) (w w1 : World) (x : Value) (b : Bool) (hs : secB s = k) (c0 : w.cell? ⟨p, 0, none⟩ = some (.map (some m)))
    (l1 : ∀ ok, (Instr.lookup 142 (.map (some m)) (.string k) ok).run Tryz.prog w = .ok (if ok then .tuple #[.map (some n), .bool true] else .map (some n)) w)
    (l2 : (Instr.lookup 119 (.map (some n)) (.string o) true).run Tryz.prog w = .ok (.tuple #[x, .bool b]) w)
    (hu : (Instr.mapUpdate 119 (.map (some n)) (.string o) (.string v)).run Tryz.prog w = .ok () w1) :
    Calls Tryz.prog 128 #[.pointer (some ⟨p, 0, none⟩), .string s, .string o, .string v] w fun e w' => e = .returned (.bool (!b)) ∧ w' = w1 := by
  have l1t := l1 true
  have l1f := l1 false
  simp only [if_true] at l1t
  simp only [Bool.false_eq_true, if_false] at l1f
  clear l1
  unfold secB defaultB at hs
  by_cases hz : s.toList = ([] : List UInt8)
  · rw [if_pos hz] at hs
    subst hs
    go_enter Tryz.func128, Tryz.ntmps128
    go_wp2
    go_ret
    exact ⟨rfl, rfl⟩
  · rw [if_neg hz] at hs
    subst hs
    have hz2 : s.toList.isEmpty = false := by simpa using hz
    clear hz
    go_enter Tryz.func128, Tryz.ntmps128
    go_wp2
    go_ret
    exact ⟨rfl, rfl⟩
/-- and where it is not -/
theorem add_new (p m : Nat) (s k o v : ByteArray) (w w1 w2 : World) (x : Value) (hs : secB s = k) (c0 : w.cell? ⟨p, 0, none⟩ = some (.map (some m))) (c1 : (w.alloc (.map #[] 0)).cell? ⟨p, 0, none⟩ = some (.map (some m))) (c2 : w1.cell? ⟨p, 0, none⟩ = some (.map (some m)))
    (l1 : (Instr.lookup 142 (.map (some m)) (.string k) true).run Tryz.prog w = .ok (.tuple #[.map none, .bool false]) w)
    (hu1 : (Instr.mapUpdate 142 (.map (some m)) (.string k) (.map (some w.heap.size))).run Tryz.prog (w.alloc (.map #[] 0)) = .ok () w1)
    (l1f : (Instr.lookup 142 (.map (some m)) (.string k) false).run Tryz.prog w1 = .ok (.map (some w.heap.size)) w1)
    (l2 : (Instr.lookup 119 (.map (some w.heap.size)) (.string o) true).run Tryz.prog w1 = .ok (.tuple #[x, .bool false]) w1)
    (hu : (Instr.mapUpdate 119 (.map (some w.heap.size)) (.string o) (.string v)).run Tryz.prog w1 = .ok () w2) :
    Calls Tryz.prog 128 #[.pointer (some ⟨p, 0, none⟩), .string s, .string o, .string v] w fun e w' => e = .returned (.bool true) ∧ w' = w2 := by
  have hmm := @run_makeMap Tryz.prog
  unfold secB defaultB at hs
  by_cases hz : s.toList = ([] : List UInt8)
  · rw [if_pos hz] at hs
    subst hs
    go_enter Tryz.func128, Tryz.ntmps128
    go_wp2
    go_ret
    exact ⟨rfl, rfl⟩
  · rw [if_neg hz] at hs
    subst hs
    have hz2 : s.toList.isEmpty = false := by simpa using hz
    clear hz
    go_enter Tryz.func128, Tryz.ntmps128
    go_wp2
    go_ret
    exact ⟨rfl, rfl⟩
theorem conf_add {w : World} {p m : Nat} {st : Secs} (h : ConfIs w p m st) (s o v : ByteArray) :
    Calls Tryz.prog 128 #[.pointer (some ⟨p, 0, none⟩), .string s, .string o, .string v] w fun e w' => AddPost w p m st s o v e w' := by
  obtain ⟨es, c, ht, hS⟩ := h.top
  have c0 : w.cell? ⟨p, 0, none⟩ = some (.map (some m)) := cell_of h.ptr rfl
  cases hg : getC (secB s) (confOf st) with
  | some D =>
    obtain ⟨A, n, B, rfl, hA⟩ := sec_some hg
    have hk := look_sec (k := secB s) (n := n) (D := D) (B := B) hA 0
    have hn : n ∈ m :: (A ++ (secB s, n, D) :: B).map (·.2.1) := by simp
    have hpn : p ≠ n := fun e => conf_kinds h (e ▸ hn)
    obtain ⟨es2, c2, hb2, hS2⟩ := h.sub (secB s, n, D) (by simp)
    obtain ⟨es3, c3, hS3, hu⟩ := run_put_s uT2 uTs hb2 hS2 o (.string v)
    rw [putS_opt] at hS3
    have hlt : n < w.heap.size := (Array.getElem?_eq_some_iff.1 hb2).1
    obtain ⟨x, b, l2⟩ : ∃ x b, (Instr.lookup 119 (.map (some n)) (.string o) true).run Tryz.prog w = .ok (.tuple #[x, .bool b]) w := by
      rcases look_opt (o := o) (l := D) 0 with ⟨u, j, _, hl⟩ | ⟨_, hl⟩
      · exact ⟨_, _, run_look_s uT2 uTs hb2 hS2 hl true⟩
      · exact ⟨_, _, run_look_none_s uT2 uTs hb2 hS2 hl (zTs w) true⟩
    refine (add_old p m n s (secB s) o v w _ x b rfl c0 (fun ok => run_look_s uT1 uTs ht hS hk ok) l2 hu).mono ?_
    rintro e w' ⟨rfl, rfl⟩
    refine ⟨!b, A ++ (secB s, n, putC o v D) :: B, rfl, conf_put h (setO_same hlt) hS3 (fun j hj => setO_ne hj) hpn, ?_, fun k hk => .inl (by simpa using hk), (MTurn.refl _ w).setO hb2 (.inl hn)⟩
    unfold addC
    rw [hg]
    exact (putC_at hA).symm
  | none =>
    have hA := sec_none hg
    have hk := look_sec_none hA
    have hmlt : m < w.heap.size := (Array.getElem?_eq_some_iff.1 ht).1
    have hplt : p < w.heap.size := (Array.getElem?_eq_some_iff.1 h.ptr).1
    have ht1 : (w.alloc (.map #[] 0)).heap[m]? = some (.map es c) := (Below.heap_alloc w _ m hmlt).trans ht
    obtain ⟨es1, c1, hS1, hu1⟩ := run_put_s (P := Tryz.prog) uT1 uTs ht1 hS (secB s) (.map (some w.heap.size))
    rw [putS_sec_new hA] at hS1
    have hne : m ≠ w.heap.size := by omega
    have hb2 : (setO (w.alloc (.map #[] 0)) m (.map es1 c1)).heap[w.heap.size]? = some (.map #[] 0) := (setO_ne (fun e => hne e.symm)).trans (heap_alloc_new w _)
    have hb1 : (setO (w.alloc (.map #[] 0)) m (.map es1 c1)).heap[m]? = some (.map es1 c1) := setO_same (by simp; omega)
    have hk1 := look_sec (k := secB s) (n := w.heap.size) (D := []) (B := []) hA 0
    obtain ⟨es3, c3, hS3, hu⟩ := run_put_s (P := Tryz.prog) uT2 uTs hb2 smap_empty o (.string v)
    have hlo : lookS o ([] : List (ByteArray × Value)) 0 = none := rfl
    have hpm : p ≠ m := fun e => conf_kinds h (by simp [e])
    have hp1 : (setO (w.alloc (.map #[] 0)) m (.map es1 c1)).heap[p]? = some (.cells #[.map (some m)] 144 (0, 0)) := (setO_ne hpm).trans ((Below.heap_alloc w _ p hplt).trans h.ptr)
    refine (add_new p m s (secB s) o v w _ _ (.string ⟨#[]⟩) rfl c0 (cell_of ((Below.heap_alloc w _ p hplt).trans h.ptr) rfl) (cell_of hp1 rfl) (run_look_none_s uT1 uTs ht hS hk (zT2 w) true) hu1 (run_look_s uT1 uTs hb1 hS1 hk1 false) (run_look_none_s uT2 uTs hb2 smap_empty hlo (zTs _) true) hu).mono ?_
    rintro e w' ⟨rfl, rfl⟩
    have hc1 : ConfIs (setO (w.alloc (.map #[] 0)) m (.map es1 c1)) p m (st ++ [(secB s, w.heap.size, [])]) :=
      { ptr := hp1, top := ⟨_, _, hb1, hS1⟩, sub := fun x hx => by
          rcases List.mem_append.1 hx with hx | hx
          · obtain ⟨es4, c4, h4, h5⟩ := h.sub x hx
            have hxm : x.2.1 ≠ m := fun e => by
              have := h.nodup
              rw [List.nodup_cons] at this
              exact this.1 (by rw [← e]; exact List.mem_map_of_mem hx)
            exact ⟨es4, c4, (setO_ne hxm).trans ((Below.heap_alloc w _ _ (Array.getElem?_eq_some_iff.1 h4).1).trans h4), h5⟩
          · obtain rfl := List.mem_singleton.1 hx
            exact ⟨_, _, hb2, smap_empty⟩
        nodup := by
          have hn0 := h.nodup
          simp only [List.map_append, List.map_cons, List.map_nil, List.nodup_cons, List.mem_append, List.mem_singleton] at hn0 ⊢
          refine ⟨fun e => e.elim hn0.1 hne, List.nodup_append.2 ⟨hn0.2, by simp, fun a ha b hb e => ?_⟩⟩
          obtain rfl := List.mem_singleton.1 hb
          subst e
          obtain ⟨x, hx, e⟩ := List.mem_map.1 ha
          obtain ⟨es4, c4, h4, h5⟩ := h.sub x hx
          have := (Array.getElem?_eq_some_iff.1 h4).1
          omega }
    refine ⟨true, st ++ [(secB s, w.heap.size, putC o v [])], rfl, conf_put hc1 (setO_same (by rw [setO_size]; simp)) hS3 (fun j hj => setO_ne hj) (by omega), ?_, fun k hk => ?_, ((((MTurn.refl _ w).alloc _).setO ht1 (.inl (List.mem_cons_self ..))).setO hb2 (.inr (Nat.le_refl _)))⟩
    · unfold addC
      rw [hg]
      exact (putC_new hA).symm
    · simp only [List.map_append, List.map_cons, List.map_nil, List.mem_append, List.mem_singleton] at hk
      exact hk
end
/-! A new reader over a text. -/
section
open Go.Proofs
theorem bu_reset (W : World) (R B C : Nat) (hb : W.heap[B]? = some (.cells #[.slice none 0 0, .nilIface, .int .i64 0, .int .i64 0, .nilIface, .int .i64 0, .int .i64 0] 200 (0, 0))) :
    Calls Tryz.prog 134 #[.pointer (some ⟨B, 0, none⟩), .slice (some ⟨C, 0, none⟩) 4096 4096, .iface 148 (.pointer (some ⟨R, 0, none⟩))] W fun e w' => e = .returned (.tuple #[]) ∧
      w'.heap[B]? = some (.cells #[.slice (some ⟨C, 0, none⟩) 4096 4096, .iface 148 (.pointer (some ⟨R, 0, none⟩)), .int .i64 0, .int .i64 0, .nilIface, .int .i64 (-1), .int .i64 (-1)] 200 (0, 0)) ∧ Turn [B] W w' := by
  have c0 : W.cell? ⟨B, 0, none⟩ = some (.slice none 0 0) := cell_of hb rfl
  have c1 : W.cell? ⟨B, 1, none⟩ = some (.nilIface) := cell_of hb rfl
  have c2 : W.cell? ⟨B, 2, none⟩ = some (.int .i64 0) := cell_of hb rfl
  have c3 : W.cell? ⟨B, 3, none⟩ = some (.int .i64 0) := cell_of hb rfl
  have c4 : W.cell? ⟨B, 4, none⟩ = some (.nilIface) := cell_of hb rfl
  have c5 : W.cell? ⟨B, 5, none⟩ = some (.int .i64 0) := cell_of hb rfl
  have c6 : W.cell? ⟨B, 6, none⟩ = some (.int .i64 0) := cell_of hb rfl
  have fb : ∀ j, W.frozen? ⟨B, j, none⟩ = false := frozen_of hb
  have HB := Aside0.mk hb
  clear hb
  go_enter Tryz.func134, Tryz.ntmps134
  go_wp2
  go_end0
  refine ⟨rfl, heap_put (heap_put (heap_put (heap_put (heap_put (heap_put (heap_put HB.out 0 _ rfl) 1 _ rfl) 2 _ rfl) 3 _ rfl) 4 _ rfl) 5 _ rfl) 6 _ rfl, ?_⟩
  exact (((((((Turn.refl _ _).setCell _ _ (by simp)).setCell _ _ (by simp)).setCell _ _ (by simp)).setCell _ _ (by simp)).setCell _ _ (by simp)).setCell _ _ (by simp)).setCell _ _ (by simp)
theorem nr_new (s : ByteArray) (W : World) :
    Calls Tryz.prog 89 #[.string s] W fun e w' => e = .returned (.pointer (some ⟨W.heap.size, 0, none⟩)) ∧ w' = W.alloc (.cells #[.string s, .int .i64 0, .int .i64 (-1)] 177 (0, 0)) := by
  go_enter Tryz.func89, Tryz.ntmps89
  go_wp2
  go_ret
  exact ⟨rfl, rfl⟩
def zeros : List Int := List.replicate 4096 0
theorem zeros_len : zeros.length = 4096 := List.length_replicate ..
set_option maxRecDepth 100000 in
theorem bu_new (s : ByteArray) (R : Nat) (W : World) (hs : s.size ≤ 2147483647) (hR : ∃ p, W.heap[R]? = some (.cells #[.string s, .int .i64 0, .int .i64 p] 177 (0, 0))) :
    Calls Tryz.prog 114 #[.iface 148 (.pointer (some ⟨R, 0, none⟩)), .int .i64 4096] W fun e w' => ∃ (B C : Nat), e = .returned (.pointer (some ⟨B, 0, none⟩)) ∧ R < B ∧ B < C ∧ W.heap.size ≤ B ∧ C < w'.heap.size ∧ Turn [] W w' ∧
      RD w' R B C s 0 zeros 0 0 .nilIface (-1) (-1) := by
  obtain ⟨i0, hi, hz0, hz1, hz2⟩ := info_parts (show (Tryz.prog.info? 5).map (fun i => (i.zero, i.size, i.bytes)) = some (some (.int .u8 0), 1, 1) from by kernel_rfl)
  replace hi := Aside0.mk hi
  replace hz0 := Aside0.mk hz0
  replace hz1 := Aside0.mk hz1
  replace hz2 := Aside0.mk hz2
  have hRl : R < W.heap.size := by obtain ⟨p, hp⟩ := hR; exact gotlt hp
  replace hR := Aside0.mk hR
  have hta : ∀ w : World, (Instr.typeAssert (.iface 148 (.pointer (some ⟨R, 0, none⟩))) 174 146 true).run Tryz.prog w = .ok (.tuple #[.pointer none, .bool false]) w := fun w => by kernel_rfl
  go_enter Tryz.func114, Tryz.ntmps114
  go_upto_region 4 with (fail)
  go_upto_region 5 with (fail)
  have HB := Aside0.mk (heap_alloc_new W (.cells #[.slice none 0 0, .nilIface, .int .i64 0, .int .i64 0, .nilIface, .int .i64 0, .int .i64 0] 200))
  have hT0 := Aside0.mk (show Turn [] W (W.alloc (.cells #[.slice none 0 0, .nilIface, .int .i64 0, .int .i64 0, .nilIface, .int .i64 0, .int .i64 0] 200)) from ⟨rfl, rfl, rfl, by simp, fun k hk _ => Below.heap_alloc W _ k hk⟩)
  have hsz := Aside0.mk (show (W.alloc (.cells #[.slice none 0 0, .nilIface, .int .i64 0, .int .i64 0, .nilIface, .int .i64 0, .int .i64 0] 200)).heap.size = W.heap.size + 1 from by simp)
  go_wp2_with (first
    | (refine wpList_make_full _ rfl (.tmp 27) (.tmp 27) 121 rfl (W.heap.size + 1) 5 i0 (.int .u8 0) 1 Tryz.underlying121 hi.out hz0.out hz1.out .i64 .i64 4096 4096 4096 rfl rfl rfl rfl ?b2 ?b3 ?b4 ?_; (case b2 => rw [hz2.out]; omega); (case b3 => unfold maxLen; omega); (case b4 => rw [hsz.out]; exact Nat.le_refl _); intro w1 ho hg; have HO := Aside0.mk ho; have HG := Aside0.mk hg; clear ho hg)
    | (go_at_call 134; refine (bu_reset w1 R W.heap.size (W.heap.size + 1) ((HG.out.block _ (by rw [hsz.out]; omega) (by simp)).trans HB.out)).mono ?_; rintro e w2 ⟨rfl, hb2, hT2⟩; have H2 := Aside0.mk (And.intro hb2 hT2); clear hb2 hT2))
  go_ret
  obtain ⟨hl, hv⟩ := HO.out
  rcases hv with ⟨hv, _⟩ | ⟨g, cap, cur, hv, _, hcur, _, _, hsize, htake⟩
  · cases hv
  · injection hv with h1 h2 h3
    injection h1 with h1
    injection h1 with h1
    subst h1 h3
    have hcl : cur = cellsOf zeros := by
      rw [List.take_of_length_le (by rw [Array.length_toList, hsize]; omega)] at htake
      apply Array.ext'
      rw [htake]
      have := toList_madeCells_one (Value.int .u8 0) 4096
      refine (show (madeCells (Value.int .u8 0).cells (4096 * 1)).toList = (madeCells #[Value.int .u8 0] 4096).toList from rfl).trans (this.trans ?_)
      unfold cellsOf zeros
      rw [List.map_replicate]
    rw [hcl, hsz.out] at hcur
    have hn : W.heap.size + 1 < w1.heap.size := gotlt hcur
    have hRb := H2.out.2.block R (by omega) (by simp; omega)
    refine ⟨W.heap.size, W.heap.size + 1, rfl, hRl, by omega, Nat.le_refl _, Nat.lt_of_lt_of_le hn H2.out.2.size, ?_, ?_⟩
    · have hT1 : Turn [] W w1 := hT0.out.trans ⟨HG.out.os, HG.out.tape, HG.out.output, HG.out.size, fun k hk _ => HG.out.block k hk (by simp)⟩
      exact ⟨H2.out.2.os.trans hT1.os, H2.out.2.tape.trans hT1.tape, H2.out.2.output.trans hT1.output, Nat.le_trans hT1.size H2.out.2.size, fun k hk hL => (H2.out.2.block k (by omega) (by simp; omega)).trans (hT1.block k hk hL)⟩
    · exact { rd := by
                obtain ⟨p, hp⟩ := hR.out
                exact ⟨p, hRb.trans ((HG.out.block R (by rw [hsz.out]; omega) (by simp)).trans ((hT0.out.block R hRl (by simp)).trans hp))⟩
              bf := H2.out.1, cs := (H2.out.2.block _ hn (by simp)).trans hcur, len := zeros_len, rn := Nat.le_refl _, n4 := by omega, is := Nat.zero_le _, ss := hs, rb := by omega, rc := by omega, bc := by omega }
theorem bu_newReader (s : ByteArray) (R : Nat) (W : World) (hs : s.size ≤ 2147483647) (hR : ∃ p, W.heap[R]? = some (.cells #[.string s, .int .i64 0, .int .i64 p] 177 (0, 0))) :
    Calls Tryz.prog 88 #[.iface 148 (.pointer (some ⟨R, 0, none⟩))] W fun e w' => ∃ (B C : Nat), e = .returned (.pointer (some ⟨B, 0, none⟩)) ∧ R < B ∧ B < C ∧ W.heap.size ≤ B ∧ C < w'.heap.size ∧ Turn [] W w' ∧
      RD w' R B C s 0 zeros 0 0 .nilIface (-1) (-1) := by
  have hn := bu_new s R W hs hR
  clear hR
  go_enter Tryz.func88, Tryz.ntmps88
  go_wp2_with (go_at_call 114; refine hn.mono ?_; rintro e w2 ⟨B, C, rfl, h1, h2, h3, h4, h5, h6⟩; have H2 := Aside0.mk (And.intro h1 (And.intro h2 (And.intro h3 (And.intro h4 (And.intro h5 h6))))); clear h1 h2 h3 h4 h5 h6)
  go_ret
  exact ⟨B, C, rfl, H2.out⟩
end
/-! write: what the buffer holds becomes an option. -/
section
open Go.Proofs
theorem cutAt_some {c : UInt8} : ∀ {l a b : List UInt8}, cutAt c l = some (a, b) → l = a ++ c :: b ∧ c ∉ a
  | [], _, _, h => by cases h
  | x :: l, a, b, h => by
    unfold cutAt at h
    by_cases g : x = c
    · rw [if_pos g] at h
      cases h
      simp [g]
    · rw [if_neg g] at h
      obtain ⟨⟨a', b'⟩, h1, h2⟩ := Option.map_eq_some_iff.1 h
      cases h2
      obtain ⟨h3, h4⟩ := cutAt_some h1
      refine ⟨by simp [h3], ?_⟩
      simp only [List.mem_cons, not_or]
      exact ⟨fun e => g e.symm, h4⟩
theorem run_from_any (g k n cap : Nat) (hk : k ≤ n) (hn : n ≤ cap) (hc : cap ≤ 9223372036854775807) : ∃ o : Nat, (k < cap → o = k) ∧ ∀ w : World, (Instr.slice 121 (.slice (some ⟨g, 0, none⟩) n cap) (some (.int .i64 (k : Int))) none none).run Tryz.prog w = .ok (.slice (some ⟨g, o, none⟩) (n - k) (cap - k)) w := by
  refine ⟨if cap = k then 0 else k, fun h => by rw [if_neg (by omega)], fun w => ?_⟩
  have hu : Tryz.prog.underlying 121 = some (.slice (Tryz.prog.elem 121)) := by kernel_rfl
  have hsz : Tryz.prog.info? (Tryz.prog.elem 121) = Tryz.prog.info? 5 := by kernel_rfl
  obtain ⟨i0, hi0, _, hs0, _⟩ := info_parts (show (Tryz.prog.info? 5).map (fun i => (i.zero, i.size, i.bytes)) = some (some (.int .u8 0), 1, 1) from by kernel_rfl)
  rw [run_slice_l w 121 (some ⟨g, 0, none⟩) n cap hu .i64 (k : Int) (Int.natCast_nonneg _) (by omega)]
  simp [sizeOf, typeInfo, hsz, hi0, hs0, sliced, Result.andThen, Addr.add]
  split
  · rfl
  · split
    · subst k; rfl
    · rfl
def SplitPost (g cap : Nat) (a b : List UInt8) (W : World) (e : Ending) (w' : World) : Prop :=
  ∃ (o : Nat) (N : Nat), e = .returned (.slice (some ⟨N, 0, none⟩) 2 2) ∧ w'.heap[N]? = some (.cells #[.slice (some ⟨g, 0, none⟩) a.length cap, .slice (some ⟨g, o, none⟩) b.length (cap - (a.length + 1))] 121 (0, 0)) ∧ (0 < b.length → o = a.length + 1) ∧ Below W.heap.size W w' ∧ W.heap.size ≤ N
set_option maxHeartbeats 4000000 in
set_option maxRecDepth 100000 in
theorem split_two (g cap : Nat) (l a b : List UInt8) (W : World) (hc : ∀ j, j < l.length → W.cell? ⟨g, j, none⟩ = some (.int .u8 ((numsOf l).getD j 0))) (hlen : l.length ≤ cap) (hcm : cap ≤ 9223372036854775807) (hcut : cutAt 61 l = some (a, b)) :
    Calls Tryz.prog 126 #[.slice (some ⟨g, 0, none⟩) l.length cap, .int .u8 61] W fun e w' => SplitPost g cap a b W e w' := by
  obtain ⟨hl, hna⟩ := cutAt_some hcut
  have hll : a.length + 1 + b.length = l.length := by rw [hl]; simp; omega
  have hcells := hc
  have hat : ∀ k, k < a.length → (numsOf l).getD k 0 ≠ 61 := fun k hk e => by
    rw [hl] at e
    simp only [numsOf, List.getD_eq_getElem?_getD, List.getElem?_map, List.getElem?_append_left hk, List.getElem?_eq_getElem hk] at e
    simp only [Option.map_some, Option.getD_some] at e
    have e2 : a[k] = 61 := UInt8.toNat_inj.1 (by show a[k].toNat = 61; omega)
    exact hna (by rw [← e2]; exact List.getElem_mem hk)
  have hend : (numsOf l).getD a.length 0 = 61 := by
    rw [hl]
    simp [numsOf, List.getD_eq_getElem?_getD]
  have HC := Aside0.mk (And.intro hcells (And.intro hat (And.intro hend hll)))
  have hln : l.length ≤ 9223372036854775807 := by omega
  obtain ⟨n, hn⟩ : ∃ n, n = l.length := ⟨_, rfl⟩
  have HN := Aside0.mk hn
  rw [← hn] at hln hlen ⊢
  have hll2 : a.length + 1 + b.length = n := by omega
  clear hat hend hc hcells hl hcut hn hll
  go_enter Tryz.func126, Tryz.ntmps126
  go_wp2
  go_loop [5] (fun v5 => ∃ k : Nat, v5 = .int .i64 (k : Int) ∧ k ≤ a.length) (fun v5 => (a.length - (intOf v5).toNat))
  case atStart => exact ⟨0, rfl, Nat.zero_le _⟩
  case round =>
    obtain ⟨k, rfl, hk⟩ := hrel
    have hkn : k < n := by omega
    have hcell := HC.out.1 k (by have := HN.out; omega)
    rcases Nat.lt_or_ge k a.length with hlt | hge
    · have hne := HC.out.2.1 k hlt
      obtain ⟨y, hy⟩ : ∃ y, y = (numsOf l).getD k 0 := ⟨_, rfl⟩
      rw [← hy] at hne hcell
      clear hy
      go_wp2
      go_round
      case rel => exact ⟨k + 1, by go_num, by omega⟩
      case measure => simp [intOf]; omega
    · obtain rfl : k = a.length := by omega
      rw [HC.out.2.2.1] at hcell
      obtain ⟨p, hp, hsl⟩ := run_from_any g (a.length + 1) n cap (by omega) hlen hcm
      have hsl2 : ∀ w : World, (Instr.slice 121 (.slice (some ⟨g, 0, none⟩) n cap) (some (.int .i64 ((a.length : Int) + 1))) none none).run Tryz.prog w = .ok (.slice (some ⟨g, p, none⟩) (n - (a.length + 1)) (cap - (a.length + 1))) w := hsl
      clear hsl
      have hwr : IntKind.i64.wrap ((a.length : Int) + 1) = (a.length : Int) + 1 := by rw [i64_w]; unfold wrap64; omega
      go_wp2
      go_region
      all_goals go_wp2
      all_goals go_ret
      all_goals
        refine ⟨p, W.heap.size, rfl, ?_, fun h => hp (by omega), ?_, Nat.le_refl _⟩
        · rw [show b.length = n - (a.length + 1) from by omega]
          exact heap_alloc_new W _
        · exact ((Below.refl _ _).alloc (Nat.le_refl _) _).drew
theorem trim_prefix (l : List UInt8) : Lib.trimSpace l <+: l.dropWhile Lib.isSp := by
  unfold Lib.trimSpace
  have h := List.dropWhile_suffix Lib.isSp (l := (l.dropWhile Lib.isSp).reverse)
  have := List.reverse_prefix.2 h
  simpa using this
theorem dropWhile_nil {α : Type} (p : α → Bool) : ∀ l : List α, l.dropWhile p = [] → ∀ y ∈ l, p y = true
  | [], _, y, hy => by cases hy
  | x :: l, h, y, hy => by
    cases hp : p x with
    | false => simp [List.dropWhile_cons, hp] at h
    | true =>
      rw [List.dropWhile_cons, hp, if_pos rfl] at h
      rcases List.mem_cons.1 hy with rfl | hy
      · exact hp
      · exact dropWhile_nil p l h y hy
theorem trim_at (l : List UInt8) : ∃ lo, lo + (Lib.trimSpace l).length ≤ l.length ∧ (∀ j, j < (Lib.trimSpace l).length → (Lib.trimSpace l)[j]? = l[lo + j]?) ∧ ∀ b o c, Lib.bytesTrimSpace b o c l = if Lib.trimSpace l = [] then .slice none 0 0 else .slice (some ⟨b, o + lo, none⟩) (Lib.trimSpace l).length (c - lo) := by
  have hs := List.dropWhile_suffix Lib.isSp (l := l)
  obtain ⟨t1, ht1⟩ := hs
  obtain ⟨t2, ht2⟩ := trim_prefix l
  have hlo : Lib.spLo l = t1.length := by
    unfold Lib.spLo
    have := congrArg List.length ht1
    rw [List.length_append] at this
    omega
  have hl : l = t1 ++ (Lib.trimSpace l ++ t2) := by rw [ht2, ht1]
  refine ⟨Lib.spLo l, ?_, fun j hj => ?_, fun b o c => ?_⟩
  · have := congrArg List.length hl
    simp only [List.length_append] at this
    omega
  · rw [hlo]
    conv => rhs; rw [hl]
    rw [List.getElem?_append_right (by omega), List.getElem?_append_left (by omega)]
    congr 1
    omega
  · unfold Lib.bytesTrimSpace
    by_cases h : l.dropWhile Lib.isSp = []
    · rw [if_pos h, if_pos]
      unfold Lib.trimSpace
      rw [h]; rfl
    · rw [if_neg h, if_neg]
      intro e
      have e2 : (l.dropWhile Lib.isSp).reverse.dropWhile Lib.isSp = [] := by
        unfold Lib.trimSpace at e
        exact List.reverse_eq_nil_iff.1 e
      obtain ⟨x, r, hx⟩ := List.exists_cons_of_ne_nil h
      have h3 : ∀ y ∈ (l.dropWhile Lib.isSp).reverse, Lib.isSp y = true := dropWhile_nil Lib.isSp _ e2
      have h4 := h3 x (by rw [hx]; simp)
      have h5 := List.head_dropWhile_not Lib.isSp (l := l) h
      simp only [hx, List.head_cons] at h5
      rw [h4] at h5
      cases h5
theorem strOfNums_numsOf (l : List UInt8) : strOfNums (numsOf l) = ⟨l.toArray⟩ := by
  have := bytesOf_nums l
  rw [← Lib.strOfNums_toList, ByteArray.toList_eq] at this
  generalize strOfNums (numsOf l) = x at this ⊢
  rw [← this]
theorem numsOf_getD {l l2 : List UInt8} {i j : Nat} (h : l[i]? = l2[j]?) : (numsOf l).getD i 0 = (numsOf l2).getD j 0 := by
  unfold numsOf
  simp only [List.getD_eq_getElem?_getD, List.getElem?_map, h]
/-- a piece of bytes somewhere -/
def Bytes (W : World) (g o : Nat) (l : List UInt8) : Prop := ∀ j, j < l.length → W.cell? ⟨g, o + j, none⟩ = some (.int .u8 ((numsOf l).getD j 0))
theorem Bytes.trim {W : World} {g o : Nat} {l : List UInt8} (h : Bytes W g o l) : ∃ lo, lo + (Lib.trimSpace l).length ≤ l.length ∧ Bytes W g (o + lo) (Lib.trimSpace l) ∧ ∀ c, Lib.bytesTrimSpace g o c l = if Lib.trimSpace l = [] then .slice none 0 0 else .slice (some ⟨g, o + lo, none⟩) (Lib.trimSpace l).length (c - lo) := by
  obtain ⟨lo, h1, h2, h3⟩ := trim_at l
  refine ⟨lo, h1, fun j hj => ?_, fun c => h3 g o c⟩
  rw [Nat.add_assoc, h (lo + j) (by omega), numsOf_getD (h2 j hj)]
theorem Bytes.conv {W : World} {g o : Nat} {l : List UInt8} (h : Bytes W g o l) (c : Nat) : (convert 121 9 (.slice (some ⟨g, o, none⟩) l.length c)).run Tryz.prog W = .ok (.string ⟨l.toArray⟩) W := by
  have hb : Lib.BytesIn W (some ⟨g, o, none⟩) l.length (numsOf l) := fun _ => ⟨g, o, rfl, h⟩
  rw [← strOfNums_numsOf]
  exact hb.convert (numsOf_len l) c _ _ _ Tryz.underlying121 Tryz.underlying5 Tryz.underlying9
theorem Bytes.conv_trim {W : World} {g o : Nat} {l : List UInt8} (h : Bytes W g o l) (c : Nat) : (convert 121 9 (Lib.bytesTrimSpace g o c l)).run Tryz.prog W = .ok (.string ⟨(Lib.trimSpace l).toArray⟩) W := by
  obtain ⟨lo, _, h2, h3⟩ := h.trim
  rw [h3]
  split
  · rename_i e
    rw [e]
    exact (Lib.BytesIn.nil W none []).convert rfl 0 _ _ _ Tryz.underlying121 Tryz.underlying5 Tryz.underlying9
  · exact h2.conv _
theorem Bytes.of_heap {W W' : World} {g o : Nat} {l : List UInt8} (h : Bytes W g o l) (e : W'.heap[g]? = W.heap[g]?) : Bytes W' g o l := fun j hj => by
  have := h j hj
  unfold World.cell? at this ⊢
  rw [e]; exact this
abbrev SpaceTab (w : World) : Prop := Lib.TabIs Tryz.prog w "bytes.asciiSpace" .u8 Lib.asciiSpaceTab
theorem tab_of_heap {w w' : World} (h : SpaceTab w) (hb : w'.heap[4]? = w.heap[4]?) : SpaceTab w' := by
  have hgn : Tryz.prog.globalNamed "bytes.asciiSpace" = some 4 := by kernel_rfl
  unfold SpaceTab Lib.TabIs World.var? at h ⊢
  rw [hgn] at h ⊢
  simp only [Option.bind_some] at h ⊢
  rw [hb]
  exact h
theorem nums_ascii {l : List UInt8} (h : ∀ b ∈ l, b.toNat < 128) : ∀ i, i < l.length → 0 ≤ (numsOf l).getD i 0 ∧ (numsOf l).getD i 0 < 128 := fun i hi => by
  have e : (numsOf l).getD i 0 = ((l[i]'hi).toNat : Int) := by simp [numsOf, List.getD_eq_getElem?_getD, List.getElem?_eq_getElem hi]
  have := h _ (List.getElem_mem hi)
  rw [e]
  omega
theorem Bytes.trims {W : World} {g o n c : Nat} {l : List UInt8} (h : Bytes W g o l) (hn : n = l.length) (hc : n ≤ c) (hm : c ≤ 9223372036854775807) (ha : ∀ b ∈ l, b.toNat < 128) (htab : SpaceTab W) :
    Calls Tryz.prog 109 #[.slice (some ⟨g, o, none⟩) n c] W fun e w' => e = .returned (Lib.bytesTrimSpace g o c l) ∧ w' = W := by
  have := Tryz.bytes_TrimSpace g o n c (numsOf l) W (by rw [numsOf_len, hn]) hc (by omega) (fun i hi => h i (by omega)) (fun i hi => nums_ascii ha i (by omega)) htab
  rwa [bytesOf_nums] at this
/-- what has turned in a world below a buffer, but for one block -/
structure FrU (U m : Nat) (w w' : World) : Prop where
  os : w'.os = w.os
  tape : w'.tape = w.tape
  output : w'.output = w.output
  size : w.heap.size ≤ w'.heap.size
  block : ∀ k, k < U → k ≠ m → w'.heap[k]? = w.heap[k]?
theorem FrU.refl (U m : Nat) (w : World) : FrU U m w w := ⟨rfl, rfl, rfl, Nat.le_refl _, fun _ _ _ => rfl⟩
theorem FrU.trans {U m : Nat} {a b c : World} (h : FrU U m a b) (k : FrU U m b c) : FrU U m a c := ⟨k.os.trans h.os, k.tape.trans h.tape, k.output.trans h.output, Nat.le_trans h.size k.size, fun i hi hm => (k.block i hi hm).trans (h.block i hi hm)⟩
theorem FrU.drewN {U m : Nat} {a b : World} (h : FrU U m a b) (q : Nat) : FrU U m a (b.drewN q) := ⟨h.os, h.tape, h.output, h.size, h.block⟩
theorem FrU.below {U m : Nat} {a b : World} (h : Below U a b) : FrU U m a b := ⟨h.os, h.tape, h.output, h.size, fun k hk _ => h.block k hk⟩
theorem FrU.new {U m : Nat} {a b : World} (h : Below a.heap.size a b) (hU : U ≤ a.heap.size) : FrU U m a b := ⟨h.os, h.tape, h.output, h.size, fun k hk _ => h.block k (Nat.lt_of_lt_of_le hk hU)⟩
abbrev Buf (U : Nat) (l : List UInt8) (w : World) : Prop := Lib.IsBuffer 164 5 U U (Lib.byteCells l) w
theorem Buf.keep {U : Nat} {l : List UInt8} {w w' : World} (h : Buf U l w) (hk : ∀ k cs t, w.heap[k]? = some (.cells cs t (0, 0)) → U ≤ k → w'.heap[k]? = some (.cells cs t (0, 0))) : Buf U l w' := by
  obtain ⟨hB, v, lr, hbk, hown, hne⟩ := h
  refine ⟨hB, v, lr, hk _ _ _ hbk (Nat.le_refl _), ⟨hown.1, ?_⟩, hne⟩
  rcases hown.2 with hn | ⟨g, cap, cur, hv, hbg, hg, rest⟩
  · exact .inl hn
  · exact .inr ⟨g, cap, cur, hv, hbg, hk _ _ _ hg hbg, rest⟩
theorem Buf.mturn {U : Nat} {l : List UInt8} {w w' : World} {bs : List Nat} (h : Buf U l w) (hm : MTurn bs w w') : Buf U l w' := h.keep (fun k cs t hk _ => hm.kind k _ hk (fun _ _ e => by cases e))
theorem conf_old {w w' : World} {p m : Nat} {st : Secs} (h : ConfIs w p m st) (hb : ∀ k, k < w.heap.size → w'.heap[k]? = w.heap[k]?) : ConfIs w' p m st := by
  refine conf_move h (hb _ (Array.getElem?_eq_some_iff.1 h.ptr).1) (fun k hk => hb k ?_)
  rcases List.mem_cons.1 hk with rfl | hk
  · obtain ⟨es, c, h1, _⟩ := h.top
    exact (Array.getElem?_eq_some_iff.1 h1).1
  · obtain ⟨x, hx, rfl⟩ := List.mem_map.1 hk
    obtain ⟨es, c, h1, _⟩ := h.sub x hx
    exact (Array.getElem?_eq_some_iff.1 h1).1
/-- blocks of maps stay where the buffer is written -/
theorem conf_others {w w' : World} {p m U : Nat} {st : Secs} (h : ConfIs w p m st) (hp : p < U) (hb : Below U w w') (ho : Lib.OthersKept 5 (some U) w w') (hU : ∃ cs t, w.heap[U]? = some (.cells cs t (0, 0))) : ConfIs w' p m st := by
  obtain ⟨cs, t, hU⟩ := hU
  have key : ∀ (k : Nat) (es : Array MapEntry) (c : Nat), w.heap[k]? = some (Obj.map es c) → w'.heap[k]? = w.heap[k]? := fun k es c hk => by
    have hne : k ≠ U := fun e => by rw [e, hU] at hk; cases hk
    rw [ho k _ hk (fun e => hne (Option.some.inj e)) (fun _ _ e => by cases e), hk]
  refine conf_move h (hb.block p hp) (fun k hk => ?_)
  rcases List.mem_cons.1 hk with rfl | hk
  · obtain ⟨es, c, h1, _⟩ := h.top
    exact key _ _ _ h1
  · obtain ⟨x, hx, rfl⟩ := List.mem_map.1 hk
    obtain ⟨es, c, h1, _⟩ := h.sub x hx
    exact key _ _ _ h1
theorem byteCells_len (l : List UInt8) : (Lib.byteCells l).length = l.length := Lib.byteCells_length l
/-- the bytes that a buffer hands out -/
theorem row_bytes {w : World} {B : Nat} {v : Value} {l : List UInt8} (h : w.ownsRow B 5 1 v (Lib.byteCells l).length (Lib.byteCells l)) (hl : l ≠ []) : ∃ g cap, v = .slice (some ⟨g, 0, none⟩) l.length cap ∧ Bytes w g 0 l ∧ l.length ≤ cap ∧ cap ≤ 9223372036854775807 ∧ B ≤ g := by
  obtain ⟨h1, h2⟩ := h
  rcases h2 with ⟨_, h2⟩ | ⟨g, cap, cur, rfl, hg, hb, hn, hm, hs, ht⟩
  · rw [byteCells_len] at h2
    exact absurd (List.eq_nil_of_length_eq_zero h2) hl
  · rw [byteCells_len] at hn ht ⊢
    refine ⟨g, cap, rfl, fun j hj => ?_, hn, by unfold maxLen at hm; exact hm, hg⟩
    have e := congrArg (fun l => l[j]?) ht
    simp only [Nat.mul_one, List.getElem?_take_of_lt hj] at e
    unfold World.cell?
    rw [Nat.zero_add, hb]
    simp only []
    rw [Array.getElem?_toList] at e
    rw [e]
    simp [Lib.byteCells, numsOf, List.getD_eq_getElem?_getD, List.getElem?_eq_getElem hj]
theorem write_mid {w w3 : World} {p m U g o : Nat} {st : Secs} {buf a b : List UInt8} (hB : Buf U buf w) (hC : ConfIs w p m st) (htab : SpaceTab w) (htU : 4 < U) (hbe : buf = a ++ 61 :: b) (hy : Bytes w g 0 buf) (ho : 0 < b.length → o = a.length + 1) (hk : ∀ k, k < w.heap.size → w3.heap[k]? = w.heap[k]?) :
    Bytes w3 g 0 a ∧ Bytes w3 g o b ∧ SpaceTab w3 ∧ ConfIs w3 p m st ∧ Buf U buf w3 := by
  have hg : g < w.heap.size := World.block_lt_of_cell? w _ (hy 0 (by rw [hbe]; simp only [List.length_append, List.length_cons]; omega))
  have hUl := hB.lt
  refine ⟨Bytes.of_heap (W := w) (fun j hj => ?_) (hk g hg), Bytes.of_heap (W := w) (fun j hj => ?_) (hk g hg), tab_of_heap htab (hk _ (by omega)), conf_old hC hk, hB.keep (fun k cs t h1 _ => (hk k (gotlt h1)).trans h1)⟩
  · rw [hy j (by rw [hbe]; simp; omega)]
    congr 2
    exact numsOf_getD (by rw [hbe, List.getElem?_append_left hj])
  · rw [ho (by omega), show a.length + 1 + j = 0 + (a.length + 1 + j) from by omega, hy _ (by rw [hbe]; simp; omega)]
    congr 2
    refine numsOf_getD ?_
    rw [hbe, List.getElem?_append_right (by omega), show a.length + 1 + j - a.length = j + 1 from by omega]
    rfl
def WritePost (w : World) (p m U : Nat) (st : Secs) (D : Conf) (e : Ending) (w' : World) : Prop :=
  ∃ st', e = .returned .nilIface ∧ ConfIs w' p m st' ∧ confOf st' = D ∧ Buf U [] w' ∧ (∀ n, n ∈ st'.map (·.2.1) → n ∈ st.map (·.2.1) ∨ U ≤ n) ∧ FrU U m w w'
set_option maxHeartbeats 4000000 in
set_option maxRecDepth 100000 in
theorem write_empty (p m U : Nat) (sec : ByteArray) (n : Int) (st : Secs) (w : World) (hC : ConfIs w p m st) (hB : Buf U [] w) :
    Calls Tryz.prog 106 #[.pointer (some ⟨p, 0, none⟩), .string sec, .int .i64 n, .pointer (some ⟨U, 0, none⟩)] w fun e w' => WritePost w p m U st (confOf st) e w' := by
  have hlen := Tryz.Buffer_Len U U _ w hB
  have HB := Aside0.mk hB
  have HC := Aside0.mk hC
  clear hB hC
  go_enter Tryz.func106, Tryz.ntmps106
  go_wp2_with (go_at_call 108; refine hlen.mono ?_; rintro e w' ⟨rfl, q, rfl⟩)
  go_ret
  exact ⟨st, rfl, conf_old HC.out (fun _ _ => rfl), rfl, HB.out, fun n hn => .inl hn, (FrU.refl _ _ _).drewN _⟩
set_option maxHeartbeats 4000000 in
set_option maxRecDepth 100000 in
theorem write_some (p m U : Nat) (sec : ByteArray) (n : Int) (st : Secs) (buf a b : List UInt8) (w : World) (hC : ConfIs w p m st) (hB : Buf U buf w) (hcut : cutAt 61 buf = some (a, b)) (hbl : buf.length ≤ 1000000) (ha : ∀ b ∈ buf, b.toNat < 128) (htab : SpaceTab w) (htU : 4 < U) (hpU : p < U) (hmU : m < U) (hstU : ∀ n, n ∈ st.map (·.2.1) → U ≤ n) :
    Calls Tryz.prog 106 #[.pointer (some ⟨p, 0, none⟩), .string sec, .int .i64 n, .pointer (some ⟨U, 0, none⟩)] w fun e w' => WritePost w p m U st (addC (confOf st) sec ⟨(Lib.trimSpace a).toArray⟩ ⟨(Lib.trimSpace b).toArray⟩) e w' := by
  obtain ⟨hbe, _⟩ := cutAt_some hcut
  have hb0 : buf ≠ [] := by rw [hbe]; simp
  have hlen := Tryz.Buffer_Len U U _ w hB
  rw [byteCells_len] at hlen
  have hpos : 0 < buf.length := List.length_pos_iff.2 hb0
  have HX := Aside0.mk (And.intro hB (And.intro hC (And.intro hcut (And.intro ha (And.intro htab (And.intro htU (And.intro hpU (And.intro hmU (And.intro hstU hbe)))))))))
  have hby := fun q => Tryz.Buffer_Bytes U U _ (w.drewN q) (hB.drewN q)
  clear hB hC hcut ha htab htU hpU hmU hstU hbe
  go_enter Tryz.func106, Tryz.ntmps106
  go_upto_region 6 with (first
    | (go_at_call 108; refine hlen.mono ?_; rintro e w' ⟨rfl, q, rfl⟩)
    | (go_at_call 127; refine (hby _).mono ?_; rintro e w' ⟨v, rfl, ho, q2, rfl⟩; have HY := Aside0.mk (row_bytes (w := w) ho hb0); clear ho; obtain ⟨g, cap, rfl, hy⟩ := HY.out; have HY2 := Aside0.mk hy; clear hy HY)
    | (go_at_call 126; refine (split_two g cap buf a b _ (fun j hj => by have := HY2.out.1 j hj; rwa [Nat.zero_add] at this) HY2.out.2.1 HY2.out.2.2.1 HX.out.2.2.1).mono ?_; rintro e w3 ⟨o, N, rfl, hN, ho, hBel, hNU⟩; have HB3 := Aside0.mk (show Below w.heap.size w w3 from ⟨hBel.os, hBel.tape, hBel.output, hBel.size, hBel.block⟩); have HM := Aside0.mk (write_mid HX.out.1 HX.out.2.1 HX.out.2.2.2.2.1 HX.out.2.2.2.2.2.1 HX.out.2.2.2.2.2.2.2.2.2 HY2.out.1 ho (fun k hk => hBel.block k hk)); have HN := Aside0.mk hN; have n0 : w3.cell? ⟨N, 0, none⟩ = some _ := cell_of HN.out (i := 0) rfl; have n1 : w3.cell? ⟨N, 1, none⟩ = some _ := cell_of HN.out (i := 1) rfl; clear ho hBel hNU hN))
  clear hby hlen
  have hl1 : a.length + 1 + b.length = buf.length := by rw [HX.out.2.2.2.2.2.2.2.2.2]; simp; omega
  have HCAP := Aside0.mk (show a.length ≤ cap ∧ b.length ≤ cap - (a.length + 1) from by have := HY2.out.2.1; omega)
  have HASC := Aside0.mk (show (∀ x ∈ a, x.toNat < 128) ∧ ∀ x ∈ b, x.toNat < 128 from by
    have h1 := HX.out.2.2.2.1
    rw [HX.out.2.2.2.2.2.2.2.2.2] at h1
    exact ⟨fun x hx => h1 x (by simp [hx]), fun x hx => h1 x (by simp [hx])⟩)
  have t1 := Aside0.mk (HM.out.1.trims rfl HCAP.out.1 HY2.out.2.2.1 HASC.out.1 HM.out.2.2.1)
  have t2 := Aside0.mk (HM.out.2.1.trims rfl HCAP.out.2 (by have := HY2.out.2.2.1; omega) HASC.out.2 HM.out.2.2.1)
  have v1 := HM.out.1.conv_trim cap
  have v2 := HM.out.2.1.conv_trim (cap - (a.length + 1))
  clear hl1
  go_upto_region 7 with (go_at_call 109; refine t1.out.mono ?_; rintro e w4 ⟨rfl, rfl⟩)
  go_upto_region 8 with (go_at_call 109; refine t2.out.mono ?_; rintro e w5 ⟨rfl, rfl⟩)
  have hadd := Aside0.mk (conf_add HM.out.2.2.2.1 sec ⟨(Lib.trimSpace a).toArray⟩ ⟨(Lib.trimSpace b).toArray⟩)
  clear n0 n1 t1 t2
  go_wp2_with (first
    | (go_at_call 128; refine hadd.out.mono ?_; rintro e w6 ⟨bb, st', rfl, hC6, hD6, hbl6, hT6⟩; have H6 := Aside0.mk (And.intro hC6 (And.intro hD6 (And.intro hbl6 hT6))); clear hC6 hD6 hbl6 hT6; have hres := Tryz.Buffer_Reset_kept U U _ w6 (Buf.mturn HM.out.2.2.2.2 H6.out.2.2.2))
    | (go_at_call 129; refine hres.mono ?_; rintro e w7 ⟨rfl, hB7, hb7, ho7⟩; have H7 := Aside0.mk (And.intro hB7 (And.intro hb7 ho7)); clear hB7 hb7 ho7 hres))
  go_ret
  obtain ⟨hC6, hD6, hbl6, hT6⟩ := H6.out
  obtain ⟨hB7, hb7, ho7⟩ := H7.out
  have hB6 := Buf.mturn HM.out.2.2.2.2 hT6
  have hpU := HX.out.2.2.2.2.2.2.1
  have hmU := HX.out.2.2.2.2.2.2.2.1
  have hstU := HX.out.2.2.2.2.2.2.2.2.1
  have hUw := HX.out.1.lt
  have hU5 := HM.out.2.2.2.2.lt
  refine ⟨st', rfl, ?_, hD6, hB7, fun n hn => ?_, ?_⟩
  · refine conf_others hC6 hpU hb7 ho7 ?_
    obtain ⟨_, v, lr, h, _⟩ := hB6
    exact ⟨_, _, h⟩
  · rcases hbl6 n hn with h | h
    · exact .inl h
    · exact .inr (by omega)
  · refine (FrU.new HB3.out (by omega)).trans (FrU.trans ⟨hT6.os, hT6.tape, hT6.output, hT6.size, fun k hk hm => hT6.block k (by omega) (fun h => ?_)⟩ (FrU.below hb7))
    rcases List.mem_cons.1 h with h | h
    · exact hm h
    · have := hstU k h
      omega
end
/-! parseBuffer: what holds at each line. -/
section
open Go.Proofs
theorem dropWhile_snoc {α : Type} (p : α → Bool) (c : α) (hc : p c = true) : ∀ l : List α, (l ++ [c]).dropWhile p = if l.dropWhile p = [] then [] else l.dropWhile p ++ [c]
  | [] => by simp [List.dropWhile_cons, hc]
  | x :: l => by
    have ih := dropWhile_snoc p c hc l
    cases hx : p x with
    | true => simp [List.dropWhile_cons, hx, ih]
    | false => simp [List.dropWhile_cons, hx]
theorem trim_snoc (l : List UInt8) (c : UInt8) (hc : Lib.isSp c = true) : Lib.trimSpace (l ++ [c]) = Lib.trimSpace l := by
  unfold Lib.trimSpace
  rw [dropWhile_snoc _ _ hc]
  split
  · rename_i h
    rw [h]
  · rw [List.reverse_append]
    simp [List.dropWhile_cons, hc]
theorem trim_stripCR (l : List UInt8) : Lib.trimSpace (stripCR l) = Lib.trimSpace l := by
  unfold stripCR
  split
  · rename_i h
    have hne : l ≠ [] := by rintro rfl; simp at h
    have h2 : l = l.dropLast ++ [13] := by
      conv => lhs; rw [← List.dropLast_concat_getLast hne]
      congr 2
      rw [List.getLast?_eq_some_getLast hne] at h
      exact Option.some.inj h
    conv => rhs; rw [h2]
    rw [trim_snoc _ _ (by decide)]
  · rfl
theorem trim_mem {l : List UInt8} {b : UInt8} (h : b ∈ Lib.trimSpace l) : b ∈ l := by
  have h1 := (trim_prefix l).subset h
  exact (List.dropWhile_suffix Lib.isSp).subset h1
theorem stripCR_mem {l : List UInt8} {b : UInt8} (h : b ∈ stripCR l) : b ∈ l := by
  unfold stripCR at h
  split at h
  · exact List.dropLast_subset l h
  · exact h
theorem firstLine_mem {b : UInt8} : ∀ {l : List UInt8}, b ∈ firstLine l → b ∈ l
  | [], h => h
  | x :: l, h => by
    unfold firstLine at h
    split at h
    · cases h
    · rcases List.mem_cons.1 h with rfl | h
      · exact List.mem_cons_self ..
      · exact List.mem_cons_of_mem _ (firstLine_mem h)
theorem behindLine_mem {b : UInt8} : ∀ {l : List UInt8}, b ∈ behindLine l → b ∈ l
  | [], h => h
  | x :: l, h => by
    unfold behindLine at h
    split at h
    · exact List.mem_cons_of_mem _ h
    · exact List.mem_cons_of_mem _ (behindLine_mem h)
theorem lines_len : ∀ {l : List UInt8}, l ≠ [] → (firstLine l).length + (behindLine l).length ≤ l.length
  | [], h => absurd rfl h
  | x :: l, _ => by
    unfold firstLine behindLine
    split
    · simp
    · by_cases hl : l = []
      · subst hl; simp [firstLine, behindLine]
      · have := lines_len hl
        simp
        omega
theorem lines_lt {l : List UInt8} (h : l ≠ []) : (behindLine l).length < l.length := by
  obtain ⟨b, r, rfl⟩ := List.exists_cons_of_ne_nil h
  exact behindLine_lt b r
theorem short_first {l : List UInt8} (h : l ≠ []) (hs : shortLines l = true) : (firstLine l).length < 4096 ∧ shortLines (behindLine l) = true := by
  obtain ⟨b, r, rfl⟩ := List.exists_cons_of_ne_nil h
  unfold shortLines at hs
  simpa using hs
theorem runP_cons {s s1 : PS} {l : List UInt8} (h : l ≠ []) (hr : runP s l = some s1) : ∃ s2, stepP s (firstLine l) = some s2 ∧ runP s2 (behindLine l) = some s1 := by
  obtain ⟨b, r, rfl⟩ := List.exists_cons_of_ne_nil h
  unfold runP at hr
  exact Option.bind_eq_some_iff.1 hr
/-- the library's two errors and its table lie as they are laid -/
structure Globs (pe pb : Addr) (w : World) : Prop where
  eof : w.cell? ⟨2, 0, none⟩ = some (eofV pe)
  full : w.cell? ⟨3, 0, none⟩ = some (eofV pb)
  be : ∃ ca ta, w.heap[pe.block]? = some (.cells ca ta (0, 0))
  bb : ∃ ca ta, w.heap[pb.block]? = some (.cells ca ta (0, 0))
  tab : SpaceTab w
/-- the blocks stand in order -/
structure Ord (pe pb : Addr) (m p R B C U : Nat) : Prop where
  ne : pe ≠ pb
  g0 : 2 < m
  g1 : 3 < m
  g2 : 4 < m
  ge : pe.block < m
  gb : pb.block < m
  mp : m < p
  pR : p < R
  RB : R < B
  BC : B < C
  CU : C < U
theorem Globs.keep {pe pb : Addr} {w w' : World} {m : Nat} (h : Globs pe pb w) (g0 : 2 < m) (g1 : 3 < m) (g2 : 4 < m) (ge : pe.block < m) (gb : pb.block < m) (hk : ∀ k, k < m → w'.heap[k]? = w.heap[k]?) : Globs pe pb w' where
  eof := by have := h.eof; unfold World.cell? at this ⊢; rw [hk _ g0]; exact this
  full := by have := h.full; unfold World.cell? at this ⊢; rw [hk _ g1]; exact this
  be := by obtain ⟨ca, ta, h1⟩ := h.be; exact ⟨ca, ta, (hk _ ge).trans h1⟩
  bb := by obtain ⟨ca, ta, h1⟩ := h.bb; exact ⟨ca, ta, (hk _ gb).trans h1⟩
  tab := tab_of_heap h.tab (hk _ g2)
structure PInv (pe pb : Addr) (m p R B C U : Nat) (s : ByteArray) (w : World) (st : Secs) (L buf : List UInt8) : Prop where
  rs : ∃ i bs r n err lb lr l1, RS pe w R B C s L i bs r n err lb lr l1
  bf : Buf U buf w
  cf : ConfIs w p m st
  stU : ∀ n, n ∈ st.map (·.2.1) → U ≤ n
  gl : Globs pe pb w
theorem RS.keep {pe : Addr} {W W' : World} {R B C : Nat} {s : ByteArray} {L : List UInt8} {i : Nat} {bs : List Int} {r n : Nat} {err : Value} {lb lr : Int} {l1 : List UInt8} (h : RS pe W R B C s L i bs r n err lb lr l1) (hR : W'.heap[R]? = W.heap[R]?) (hB : W'.heap[B]? = W.heap[B]?) (hC : W'.heap[C]? = W.heap[C]?) : RS pe W' R B C s L i bs r n err lb lr l1 :=
  ⟨{ h.1 with rd := by obtain ⟨p, hp⟩ := h.1.rd; exact ⟨p, hR.trans hp⟩, bf := hB.trans h.1.bf, cs := hC.trans h.1.cs }, h.2⟩
theorem RS.lts {pe : Addr} {W : World} {R B C : Nat} {s : ByteArray} {L : List UInt8} {i : Nat} {bs : List Int} {r n : Nat} {err : Value} {lb lr : Int} {l1 : List UInt8} (h : RS pe W R B C s L i bs r n err lb lr l1) : R < W.heap.size ∧ B < W.heap.size ∧ C < W.heap.size := by
  obtain ⟨p, hp⟩ := h.1.rd
  exact ⟨gotlt hp, gotlt h.1.bf, gotlt h.1.cs⟩
theorem PInv.old {pe pb : Addr} {m p R B C U : Nat} {s : ByteArray} {w w' : World} {st : Secs} {L buf : List UInt8} (h : PInv pe pb m p R B C U s w st L buf) (o : Ord pe pb m p R B C U) (hk : ∀ k, k < w.heap.size → w'.heap[k]? = w.heap[k]?) : PInv pe pb m p R B C U s w' st L buf := by
  obtain ⟨i, bs, r, n, err, lb, lr, l1, hr⟩ := h.rs
  obtain ⟨h1, h2, h3⟩ := hr.lts
  have hU := h.bf.lt
  have := o.mp; have := o.pR; have := o.RB; have := o.BC; have := o.CU
  exact ⟨⟨i, bs, r, n, err, lb, lr, l1, hr.keep (hk _ h1) (hk _ h2) (hk _ h3)⟩, h.bf.keep (fun k cs t h1 _ => (hk k (gotlt h1)).trans h1), conf_old h.cf hk, h.stU, h.gl.keep o.g0 o.g1 o.g2 o.ge o.gb (fun k hk2 => hk k (by omega))⟩
/-- the reader alone has turned -/
theorem PInv.turn {pe pb : Addr} {m p R B C U : Nat} {s : ByteArray} {w w' : World} {st : Secs} {L L' buf : List UInt8} (h : PInv pe pb m p R B C U s w st L buf) (o : Ord pe pb m p R B C U) (hT : Turn [R, B, C] w w') (hr : ∃ i bs r n err lb lr l1, RS pe w' R B C s L' i bs r n err lb lr l1) : PInv pe pb m p R B C U s w' st L' buf := by
  have := o.mp; have := o.pR; have := o.RB; have := o.BC; have := o.CU
  have hU := h.bf.lt
  refine ⟨hr, h.bf.keep (fun k cs t h1 h2 => (hT.block k (gotlt h1) (by simp; omega)).trans h1), conf_move h.cf (hT.block p (by omega) (by simp; omega)) (fun k hk => ?_), h.stU, h.gl.keep o.g0 o.g1 o.g2 o.ge o.gb (fun k hk2 => hT.block k (by omega) (by simp; omega))⟩
  rcases List.mem_cons.1 hk with rfl | hk
  · exact hT.block _ (by omega) (by simp; omega)
  · have h1 := h.stU k hk
    obtain ⟨x, hx, rfl⟩ := List.mem_map.1 hk
    obtain ⟨es, c, h2, _⟩ := h.cf.sub x hx
    exact hT.block _ (gotlt h2) (by simp; omega)
/-- the buffer has been written -/
theorem PInv.wrote {pe pb : Addr} {m p R B C U : Nat} {s : ByteArray} {w w' : World} {st : Secs} {L buf buf' : List UInt8} (h : PInv pe pb m p R B C U s w st L buf) (o : Ord pe pb m p R B C U) (hB : Buf U buf' w') (hb : Below U w w') (ho : Lib.OthersKept 5 (some U) w w') : PInv pe pb m p R B C U s w' st L buf' := by
  have := o.mp; have := o.pR; have := o.RB; have := o.BC; have := o.CU
  obtain ⟨i, bs, r, n, err, lb, lr, l1, hr⟩ := h.rs
  refine ⟨⟨i, bs, r, n, err, lb, lr, l1, hr.keep (hb.block _ (by omega)) (hb.block _ (by omega)) (hb.block _ (by omega))⟩, hB, conf_others h.cf (by omega) hb ho ?_, h.stU, h.gl.keep o.g0 o.g1 o.g2 o.ge o.gb (fun k hk2 => hb.block k (by omega))⟩
  obtain ⟨_, v, lr, h, _⟩ := h.bf
  exact ⟨_, _, h⟩
/-- an option has been written -/
theorem PInv.flushed {pe pb : Addr} {m p R B C U : Nat} {s : ByteArray} {w w' : World} {st st' : Secs} {L buf : List UInt8} (h : PInv pe pb m p R B C U s w st L buf) (o : Ord pe pb m p R B C U) (hC : ConfIs w' p m st') (hB : Buf U [] w') (hst : ∀ n, n ∈ st'.map (·.2.1) → n ∈ st.map (·.2.1) ∨ U ≤ n) (hF : FrU U m w w') : PInv pe pb m p R B C U s w' st' L [] := by
  have := o.mp; have := o.pR; have := o.RB; have := o.BC; have := o.CU
  obtain ⟨i, bs, r, n, err, lb, lr, l1, hr⟩ := h.rs
  exact ⟨⟨i, bs, r, n, err, lb, lr, l1, hr.keep (hF.block _ (by omega) (by omega)) (hF.block _ (by omega) (by omega)) (hF.block _ (by omega) (by omega))⟩, hB, hC, fun n hn => (hst n hn).elim (h.stU n) id, h.gl.keep o.g0 o.g1 o.g2 o.ge o.gb (fun k hk2 => hF.block k (by omega) (by omega))⟩
/-- a byte of the block that was handed on is turned -/
theorem RS.poke {pe : Addr} {W : World} {R B C : Nat} {s : ByteArray} {L : List UInt8} {i : Nat} {bs : List Int} {r n : Nat} {err : Value} {lb lr : Int} {l1 : List UInt8} (h : RS pe W R B C s L i bs r n err lb lr l1) (j : Nat) (hj : j < r) (x : Int) : RS pe (W.setCell ⟨C, j, none⟩ (.int .u8 x)) R B C s L i (bs.set j x) r n err lb lr l1 := by
  have h1 := h.1.rn; have h2 := h.1.n4
  refine ⟨{ h.1 with rd := ?_, bf := (Below.heap_setCell _ ⟨C, j, none⟩ _ B h.1.bc).trans h.1.bf, cs := ?_, len := by rw [List.length_set]; exact h.1.len }, ?_, h.2.2⟩
  · obtain ⟨p, hp⟩ := h.1.rd
    exact ⟨p, (Below.heap_setCell _ ⟨C, j, none⟩ _ R h.1.rc).trans hp⟩
  · refine heap_put h.1.cs j _ ?_
    unfold cellsOf
    rw [List.map_set]
    simp
  · rw [← h.2.1]
    rw [List.take_set, List.drop_set_of_lt hj]
end
/-! One line: what ReadLine hands on, and what is asked of it. -/
section
open Go.Proofs
def LineGot (pe pb : Addr) (m p R B C U : Nat) (s : ByteArray) (W : World) (st : Secs) (L buf : List UInt8) (e : Ending) (w' : World) : Prop :=
  ∃ (a : Nat) (ln : List UInt8), e = .returned (.tuple #[.slice (some ⟨C, a, none⟩) ln.length (4096 - a), .bool false, .nilIface]) ∧ Bytes w' C a ln ∧ ln.length ≤ 4096 - a ∧ Lib.trimSpace ln = Lib.trimSpace (firstLine L) ∧ (∀ b ∈ ln, b ∈ L) ∧ ln.length ≤ (firstLine L).length ∧
    PInv pe pb m p R B C U s w' st (behindLine L) buf ∧ (∃ i bs r n err lb lr l1, RS pe w' R B C s (behindLine L) i bs r n err lb lr l1 ∧ a + ln.length ≤ r) ∧ Turn [R, B, C] W w'
theorem stripCR_le (l : List UInt8) : (stripCR l).length ≤ l.length := by
  unfold stripCR
  split
  · simp
  · exact Nat.le_refl _
theorem line_got {pe pb : Addr} {m p R B C U : Nat} {s : ByteArray} {W : World} {st : Secs} {L buf : List UInt8} (h : PInv pe pb m p R B C U s W st L buf) (o : Ord pe pb m p R B C U) (hL : L ≠ []) (hs : shortLines L = true) :
    Calls Tryz.prog 107 #[.pointer (some ⟨B, 0, none⟩)] W fun e w' => LineGot pe pb m p R B C U s W st L buf e w' := by
  obtain ⟨i, bs, r, n, err, lb, lr, l1, hr⟩ := h.rs
  have := o.mp; have := o.pR; have := o.RB; have := o.BC; have := o.CU; have := o.g0; have := o.g1; have := o.ge; have := o.gb
  obtain ⟨hs1, _⟩ := short_first hL hs
  refine (bu_readLine pe pb W R B C s L i r n bs err lb lr l1 hr h.gl.eof ⟨by omega, by omega, by omega⟩ h.gl.full ⟨by omega, by omega, by omega⟩ o.ne h.gl.be h.gl.bb (by simp; omega) (by simp; omega) (fun j hj hn => ?_) (fun hn => ?_)).mono ?_
  · obtain ⟨h1, _⟩ := line_found L j hj hn
    have hjl := (List.getElem?_eq_some_iff.1 hj).1
    rw [h1, List.length_take] at hs1
    omega
  · rw [(line_none L hn).1] at hs1
    exact hs1
  · rintro e w' (⟨j, a, i, bs, r, n, err, lb, lr, l1, hj, hjn, rfl, hP, har, hS, hT⟩ | ⟨a, i, bs, r, n, lb, lr, hno, hS, hT, ⟨hpos, rfl, hP, har⟩ | ⟨rfl, _⟩⟩)
    · obtain ⟨h1, h2⟩ := line_found L j hj hjn
      have hjl := (List.getElem?_eq_some_iff.1 hj).1
      have h3 := stripCR_le (L.take j)
      have h4 : (L.take j).length = j := by rw [List.length_take]; omega
      refine ⟨a, stripCR (L.take j), rfl, hP.2, by have := hP.1; omega, by rw [h1, trim_stripCR], fun b hb => List.mem_of_mem_take (stripCR_mem hb), by rw [h1]; exact h3, h.turn o hT ⟨i, bs, r, n, err, lb, lr, l1, by rw [h2]; exact hS⟩, ⟨i, bs, r, n, err, lb, lr, l1, by rw [h2]; exact hS, by omega⟩, hT⟩
    · obtain ⟨h1, h2⟩ := line_none L hno
      refine ⟨a, L, rfl, hP.2, by have := hP.1; omega, by rw [h1], fun b hb => hb, by rw [h1]; exact Nat.le_refl _, h.turn o hT ⟨i, bs, r, n, .nilIface, lb, lr, [], by rw [h2]; exact hS⟩, ⟨i, bs, r, n, .nilIface, lb, lr, [], by rw [h2]; exact hS, har⟩, hT⟩
    · exact absurd rfl hL
theorem line_end {pe pb : Addr} {m p R B C U : Nat} {s : ByteArray} {W : World} {st : Secs} {buf : List UInt8} (h : PInv pe pb m p R B C U s W st [] buf) (o : Ord pe pb m p R B C U) :
    Calls Tryz.prog 107 #[.pointer (some ⟨B, 0, none⟩)] W fun e w' => e = .returned (.tuple #[.slice none 0 0, .bool false, eofV pe]) ∧ PInv pe pb m p R B C U s w' st [] buf ∧ Turn [R, B, C] W w' := by
  obtain ⟨i, bs, r, n, err, lb, lr, l1, hr⟩ := h.rs
  have := o.mp; have := o.pR; have := o.RB; have := o.BC; have := o.CU; have := o.g0; have := o.g1; have := o.ge; have := o.gb
  refine (bu_readLine pe pb W R B C s [] i r n bs err lb lr l1 hr h.gl.eof ⟨by omega, by omega, by omega⟩ h.gl.full ⟨by omega, by omega, by omega⟩ o.ne h.gl.be h.gl.bb (by simp; omega) (by simp; omega) (fun j hj hn => by simp at hj) (fun hn => by simp)).mono ?_
  rintro e w' (⟨j, a, i, bs, r, n, err, lb, lr, l1, hj, hjn, rfl, hP, har, hS, hT⟩ | ⟨a, i, bs, r, n, lb, lr, hno, hS, hT, ⟨hpos, rfl, hP, har⟩ | ⟨_, rfl⟩⟩)
  · simp at hj
  · simp at hpos
  · exact ⟨rfl, h.turn o hT ⟨i, bs, r, n, .nilIface, lb, lr, [], hS⟩, hT⟩
/-- a slice of bytes, nil where there is none -/
def SlOf (W : World) (C : Nat) (l : List UInt8) (o c : Nat) (v : Value) : Prop := Bytes W C o l ∧ l.length ≤ c ∧ c ≤ 4096 ∧ v = if l = [] then .slice none 0 0 else .slice (some ⟨C, o, none⟩) l.length c
theorem eq_none (W : World) (d : Nat) : Calls Tryz.prog 110 #[.slice none 0 0, .slice (some ⟨W.heap.size, 0, none⟩) 0 d] (W.alloc (.cells #[] 5)) fun e w' => e = .returned (.bool true) ∧ Below W.heap.size W w' := by
  refine (Tryz.bytes_Equal_all none (some ⟨W.heap.size, 0, none⟩) 0 0 0 d [] [] _ rfl rfl (Lib.BytesIn.nil _ _ _) (Lib.BytesIn.nil _ _ _)).mono ?_
  rintro e w' ⟨rfl, rfl⟩
  exact ⟨rfl, (Below.refl _ _).alloc (Nat.le_refl _) _⟩
theorem Bytes.new {W : World} {C o : Nat} {l : List UInt8} (h : Bytes W C o l) (x : Obj) : Bytes (W.alloc x) C o l := fun j hj => by
  have h1 := h j hj
  have hlt := World.block_lt_of_cell? W _ h1
  unfold World.cell? at h1 ⊢
  rw [Below.heap_alloc W x C hlt]
  exact h1
theorem eq_some {W : World} {C o c : Nat} {l : List UInt8} (h : Bytes W C o l) (hl : l ≠ []) (d : Nat) : Calls Tryz.prog 110 #[.slice (some ⟨C, o, none⟩) l.length c, .slice (some ⟨W.heap.size, 0, none⟩) 0 d] (W.alloc (.cells #[] 5)) fun e w' => e = .returned (.bool false) ∧ Below W.heap.size W w' := by
  refine (Tryz.bytes_Equal_all (some ⟨C, o, none⟩) (some ⟨W.heap.size, 0, none⟩) l.length c 0 d (numsOf l) [] _ (numsOf_len l) rfl (fun _ => ⟨C, o, rfl, h.new _⟩) (Lib.BytesIn.nil _ _ _)).mono ?_
  rintro e w' ⟨rfl, rfl⟩
  refine ⟨?_, (Below.refl _ _).alloc (Nat.le_refl _) _⟩
  rw [bytesOf_nums]
  obtain ⟨b, r, rfl⟩ := List.exists_cons_of_ne_nil hl
  rfl
theorem one_new (W : World) (x : UInt8) : Lib.BytesIn (W.alloc (.cells #[.int .u8 (x.toNat : Int)] 5)) (some ⟨W.heap.size, 0, none⟩) 1 (numsOf [x]) := fun _ => by
  refine ⟨W.heap.size, 0, rfl, fun i hi => ?_⟩
  obtain rfl : i = 0 := by omega
  exact cell_of (heap_alloc_new W _) rfl
theorem hasPrefix_one (l : List UInt8) (x : UInt8) : Lib.hasPrefix l [x] = decide (l.head? = some x) := by
  cases l with
  | nil => rfl
  | cons b l => 
    rw [Bool.eq_iff_iff]
    simp [Lib.hasPrefix, List.isPrefixOf]
    exact eq_comm
theorem pre_one {W : World} {C o c : Nat} {l : List UInt8} (h : Bytes W C o l) (hc : l.length ≤ c) (x : UInt8) (b : Bool) (hb : decide (l.head? = some x) = b) : Calls Tryz.prog 111 #[.slice (some ⟨C, o, none⟩) l.length c, .slice (some ⟨W.heap.size, 0, none⟩) 1 1] (W.alloc (.cells #[.int .u8 (x.toNat : Int)] 5)) fun e w' => e = .returned (.bool b) ∧ Below W.heap.size W w' := by
  refine (Tryz.bytes_HasPrefix_all (some ⟨C, o, none⟩) (some ⟨W.heap.size, 0, none⟩) l.length c 1 1 (numsOf l) (numsOf [x]) _ (numsOf_len l) rfl hc (fun _ => ⟨C, o, rfl, h.new _⟩) (one_new W x)).mono ?_
  rintro e w' ⟨rfl, rfl⟩
  refine ⟨?_, (Below.refl _ _).alloc (Nat.le_refl _) _⟩
  rw [bytesOf_nums, bytesOf_nums, hasPrefix_one, hb]
theorem hasSuffix_one (l : List UInt8) (x : UInt8) : Lib.hasSuffix l [x] = decide (l.getLast? = some x) := by
  rcases List.eq_nil_or_concat l with rfl | ⟨r, b, rfl⟩
  · rfl
  · rw [Bool.eq_iff_iff]
    simp [Lib.hasSuffix, List.isSuffixOf, List.isPrefixOf]
    exact eq_comm
theorem suf_one {W : World} {C o c : Nat} {l : List UInt8} (h : Bytes W C o l) (hc : l.length ≤ c) (hm : c ≤ 4096) (x : UInt8) (b : Bool) (hb : decide (l.getLast? = some x) = b) : Calls Tryz.prog 112 #[.slice (some ⟨C, o, none⟩) l.length c, .slice (some ⟨W.heap.size, 0, none⟩) 1 1] (W.alloc (.cells #[.int .u8 (x.toNat : Int)] 5)) fun e w' => e = .returned (.bool b) ∧ Below W.heap.size W w' := by
  refine (Tryz.bytes_HasSuffix_all (some ⟨C, o, none⟩) (some ⟨W.heap.size, 0, none⟩) l.length c 1 1 (numsOf l) (numsOf [x]) _ (numsOf_len l) rfl hc (by omega) (fun _ => ⟨C, o, rfl, h.new _⟩) (one_new W x)).mono ?_
  rintro e w' ⟨rfl, rfl⟩
  refine ⟨?_, (Below.refl _ _).alloc (Nat.le_refl _) _⟩
  rw [bytesOf_nums, bytesOf_nums, hasSuffix_one, hb]
end
section
open Go.Proofs
/-- while a line is looked at -/
structure LS (pe pb : Addr) (m p R B C U : Nat) (s : ByteArray) (W : World) (st : Secs) (L' buf l : List UInt8) (A c : Nat) (w : World) : Prop where
  inv : PInv pe pb m p R B C U s w st L' buf
  fr : FrU R m W w
  by_ : Bytes w C A l
  cap : l.length ≤ c
  c4 : c ≤ 4096
  rs : ∃ i bs r n err lb lr l1, RS pe w R B C s L' i bs r n err lb lr l1 ∧ A + l.length ≤ r
theorem LS.next {pe pb : Addr} {m p R B C U : Nat} {s : ByteArray} {W : World} {st : Secs} {L' buf l : List UInt8} {A c : Nat} {w w' : World} (h : LS pe pb m p R B C U s W st L' buf l A c w) (o : Ord pe pb m p R B C U) (hb : Below w.heap.size w w') : LS pe pb m p R B C U s W st L' buf l A c w' := by
  obtain ⟨i, bs, r, n, err, lb, lr, l1, hr, hA⟩ := h.rs
  obtain ⟨h1, h2, h3⟩ := hr.lts
  exact ⟨h.inv.old o (fun k hk => hb.block k hk), h.fr.trans (FrU.new hb (by omega)), h.by_.of_heap (hb.block _ h3), h.cap, h.c4, ⟨i, bs, r, n, err, lb, lr, l1, hr.keep (hb.block _ h1) (hb.block _ h2) (hb.block _ h3), hA⟩⟩
theorem LS.drewN {pe pb : Addr} {m p R B C U : Nat} {s : ByteArray} {W : World} {st : Secs} {L' buf l : List UInt8} {A c : Nat} {w : World} (h : LS pe pb m p R B C U s W st L' buf l A c w) (o : Ord pe pb m p R B C U) (q : Nat) : LS pe pb m p R B C U s W st L' buf l A c (w.drewN q) := h.next o ⟨rfl, rfl, rfl, Nat.le_refl _, fun _ _ => rfl⟩
end
/-! What is still to be done, line by line. -/
section
open Go.Proofs
structure Todo (D : Conf) (sec : ByteArray) (buf : List UInt8) (cw : Bool) (st : Secs) (L : List UInt8) : Prop where
  run : ∃ s1, runP ⟨sec, buf, cw, confOf st⟩ L = some s1 ∧ (flushP s1).map (·.D) = some D
  short : shortLines L = true
  asc : ∀ b ∈ L, b.toNat < 128
  bsc : ∀ b ∈ buf, b.toNat < 128
  len : buf.length + L.length ≤ 500000
def Flush (D2 : Conf) (sec : ByteArray) (buf : List UInt8) (st : Secs) : Prop := (buf = [] ∧ D2 = confOf st) ∨ (∃ a b, cutAt 61 buf = some (a, b) ∧ D2 = addC (confOf st) sec ⟨(Lib.trimSpace a).toArray⟩ ⟨(Lib.trimSpace b).toArray⟩)
theorem flush_of {sec : ByteArray} {buf : List UInt8} {cw : Bool} {st : Secs} {s2 : PS} (h : flushP ⟨sec, buf, cw, confOf st⟩ = some s2) : Flush s2.D sec buf st ∧ s2 = ⟨sec, [], false, s2.D⟩ := by
  unfold flushP at h
  by_cases hb : buf = []
  · subst hb
    simp only [if_true] at h
    cases h
    exact ⟨.inl ⟨rfl, rfl⟩, rfl⟩
  · simp only [if_neg hb] at h
    obtain ⟨⟨a, b⟩, h1, rfl⟩ := Option.map_eq_some_iff.1 h
    exact ⟨.inr ⟨a, b, h1, rfl⟩, rfl⟩
theorem Todo.head {D : Conf} {sec : ByteArray} {buf : List UInt8} {st : Secs} {L : List UInt8} (h : Todo D sec buf true st L) : ∃ D2, Flush D2 sec buf st ∧ ∀ st', confOf st' = D2 → Todo D sec [] false st' L := by
  obtain ⟨s1, h1, h2⟩ := h.run
  have hl := h.len
  by_cases hL : L = []
  · subst hL
    unfold runP at h1
    cases h1
    obtain ⟨s2, h3, h4⟩ := Option.map_eq_some_iff.1 h2
    obtain ⟨hf, he⟩ := flush_of h3
    refine ⟨s2.D, hf, fun st' hst => ⟨⟨⟨sec, [], false, confOf st'⟩, by unfold runP; rfl, ?_⟩, h.short, h.asc, by simp, by simp⟩⟩
    simp only [flushP, if_true, Option.map_some]
    rw [hst, h4]
  · obtain ⟨s3, h3, h4⟩ := runP_cons hL h1
    unfold stepP at h3
    obtain ⟨s2, h5, h6⟩ := Option.bind_eq_some_iff.1 h3
    simp only [headP, if_true] at h5
    obtain ⟨hf, he⟩ := flush_of h5
    refine ⟨s2.D, hf, fun st' hst => ⟨⟨s1, ?_, h2⟩, h.short, h.asc, by simp, by simp; omega⟩⟩
    obtain ⟨b, r, rfl⟩ := List.exists_cons_of_ne_nil hL
    unfold runP
    refine Option.bind_eq_some_iff.2 ⟨s3, ?_, h4⟩
    unfold stepP
    refine Option.bind_eq_some_iff.2 ⟨s2, ?_, h6⟩
    simp only [headP, Bool.false_eq_true, if_false]
    rw [he, hst]
theorem noteCut_mem {l : List UInt8} {b : UInt8} (h : b ∈ noteCut l) : b ∈ l := (List.takeWhile_prefix _).subset h
theorem noteCut_le (l : List UInt8) : (noteCut l).length ≤ l.length := (List.takeWhile_prefix _).length_le
theorem trim_le (l : List UInt8) : (Lib.trimSpace l).length ≤ l.length := by
  obtain ⟨lo, h, _⟩ := trim_at l
  omega
inductive Line (D : Conf) (sec : ByteArray) (buf : List UInt8) (st : Secs) (L l : List UInt8) : Prop
  | note (h : l = [] ∨ l.head? = some 59 ∨ l.head? = some 35) (t : Todo D sec buf true st (behindLine L))
  | sect (h0 : l ≠ []) (h1 : l.head? = some 91) (h2 : l.getLast? = some 93) (D2 : Conf) (hf : Flush D2 sec buf st) (t : ∀ st', confOf st' = D2 → Todo D ⟨l.tail.dropLast.toArray⟩ [] false st' (behindLine L))
  | other (h0 : l ≠ []) (h1 : l.head? ≠ some 59) (h2 : l.head? ≠ some 35) (h3 : ¬ (l.head? = some 91 ∧ l.getLast? = some 93)) (q : List UInt8) (cwb : Bool) (hq : (l.getLast? = some 92 ∧ cwb = false ∧ Lib.trimSpace l.dropLast ≠ [] ∧ q = Lib.trimSpace l.dropLast ++ [32]) ∨ (l.getLast? ≠ some 92 ∧ cwb = true ∧ q = l)) (t : Todo D sec (buf ++ noteCut q) cwb st (behindLine L))
theorem Todo.line {D : Conf} {sec : ByteArray} {buf : List UInt8} {st : Secs} {L : List UInt8} (h : Todo D sec buf false st L) (hL : L ≠ []) : Line D sec buf st L (Lib.trimSpace (firstLine L)) := by
  obtain ⟨s1, h1, h2⟩ := h.run
  have hlen := h.len
  obtain ⟨s3, h3, h4⟩ := runP_cons hL h1
  have hll := lines_len hL
  obtain ⟨_, hsh⟩ := short_first hL h.short
  have hasc : ∀ b ∈ behindLine L, b.toNat < 128 := fun b hb => h.asc b (behindLine_mem hb)
  have hlt := trim_le (firstLine L)
  have hmem : ∀ b ∈ Lib.trimSpace (firstLine L), b.toNat < 128 := fun b hb => h.asc b (firstLine_mem (trim_mem hb))
  simp only [stepP, headP, Bool.false_eq_true, if_false, Option.bind_some] at h3
  unfold bodyP at h3
  generalize Lib.trimSpace (firstLine L) = l at h3 hlt hmem ⊢
  by_cases c1 : l = [] ∨ l.head? = some 59 ∨ l.head? = some 35
  · rw [if_pos c1] at h3
    cases h3
    exact .note c1 ⟨⟨s1, h4, h2⟩, hsh, hasc, h.bsc, by omega⟩
  · rw [if_neg c1] at h3
    have d0 : l ≠ [] := fun e => c1 (.inl e)
    have d1 : l.head? ≠ some 59 := fun e => c1 (.inr (.inl e))
    have d2 : l.head? ≠ some 35 := fun e => c1 (.inr (.inr e))
    by_cases c2 : l.head? = some 91 ∧ l.getLast? = some 93
    · rw [if_pos c2] at h3
      obtain ⟨s2, h5, rfl⟩ := Option.map_eq_some_iff.1 h3
      obtain ⟨hf, he⟩ := flush_of h5
      refine .sect d0 c2.1 c2.2 s2.D hf (fun st' hst => ⟨⟨s1, ?_, h2⟩, hsh, hasc, by simp, by simp; omega⟩)
      rw [he] at h4
      rw [hst]
      exact h4
    · rw [if_neg c2] at h3
      by_cases c3 : l.getLast? = some 92
      · rw [if_pos c3] at h3
        by_cases c4 : Lib.trimSpace l.dropLast = []
        · rw [if_pos c4] at h3; cases h3
        · rw [if_neg c4] at h3
          cases h3
          have hq := noteCut_le (Lib.trimSpace l.dropLast ++ [32])
          have hq2 := trim_le l.dropLast
          have hq3 : 0 < l.length := List.length_pos_iff.2 d0
          simp only [List.length_append, List.length_cons, List.length_nil, List.length_dropLast] at hq hq2
          refine .other d0 d1 d2 c2 _ _ (.inl ⟨c3, rfl, c4, rfl⟩) ⟨⟨s1, h4, h2⟩, hsh, hasc, fun b hb => ?_, by simp only [List.length_append]; omega⟩
          rcases List.mem_append.1 hb with hb | hb
          · exact h.bsc b hb
          · rcases List.mem_append.1 (noteCut_mem hb) with hb | hb
            · exact hmem b (List.dropLast_subset l (trim_mem hb))
            · obtain rfl := List.mem_singleton.1 hb
              decide
      · rw [if_neg c3] at h3
        cases h3
        have hq := noteCut_le l
        refine .other d0 d1 d2 c2 _ _ (.inr ⟨c3, rfl, rfl⟩) ⟨⟨s1, h4, h2⟩, hsh, hasc, fun b hb => ?_, by simp only [List.length_append]; omega⟩
        rcases List.mem_append.1 hb with hb | hb
        · exact h.bsc b hb
        · exact hmem b (noteCut_mem hb)
theorem Todo.end_ {D : Conf} {sec : ByteArray} {buf : List UInt8} {st : Secs} (h : Todo D sec buf false st []) : Flush D sec buf st := by
  obtain ⟨s1, h1, h2⟩ := h.run
  unfold runP at h1
  cases h1
  obtain ⟨s2, h3, h4⟩ := Option.map_eq_some_iff.1 h2
  rw [← h4]
  exact (flush_of h3).1
theorem FrU.less {U V m : Nat} {a b : World} (h : FrU U m a b) (hv : V ≤ U) : FrU V m a b := ⟨h.os, h.tape, h.output, h.size, fun k hk hm => h.block k (by omega) hm⟩
theorem FrU.turn {R B C m : Nat} {a b : World} (h : Turn [R, B, C] a b) (h1 : R < B) (h2 : B < C) (hC : R ≤ a.heap.size) : FrU R m a b := ⟨h.os, h.tape, h.output, h.size, fun k hk hm => h.block k (by omega) (by simp; omega)⟩
def WroteTo (pe pb : Addr) (m p R B C U : Nat) (s : ByteArray) (w : World) (D2 : Conf) (L : List UInt8) (e : Ending) (w' : World) : Prop :=
  ∃ st', e = .returned .nilIface ∧ PInv pe pb m p R B C U s w' st' L [] ∧ confOf st' = D2 ∧ FrU U m w w'
theorem write_any {pe pb : Addr} {m p R B C U : Nat} {s : ByteArray} {w : World} {st : Secs} {L buf : List UInt8} (h : PInv pe pb m p R B C U s w st L buf) (o : Ord pe pb m p R B C U) (sec : ByteArray) (n : Int) {D2 : Conf} (hf : Flush D2 sec buf st) (hl : buf.length ≤ 500000) (hb : ∀ b ∈ buf, b.toNat < 128) :
    Calls Tryz.prog 106 #[.pointer (some ⟨p, 0, none⟩), .string sec, .int .i64 n, .pointer (some ⟨U, 0, none⟩)] w fun e w' => WroteTo pe pb m p R B C U s w D2 L e w' := by
  have := o.mp; have := o.pR; have := o.RB; have := o.BC; have := o.CU; have := o.g2
  rcases hf with ⟨rfl, rfl⟩ | ⟨a, b, hcut, rfl⟩
  · refine (write_empty p m U sec n st w h.cf h.bf).mono ?_
    rintro e w' ⟨st', rfl, hC, hD, hB, hst, hF⟩
    exact ⟨st', rfl, h.flushed o hC hB hst hF, hD, hF⟩
  · refine (write_some p m U sec n st buf a b w h.cf h.bf hcut (by omega) hb h.gl.tab (by omega) (by omega) (by omega) h.stU).mono ?_
    rintro e w' ⟨st', rfl, hC, hD, hB, hst, hF⟩
    exact ⟨st', rfl, h.flushed o hC hB hst hF, hD, hF⟩
def leftOf (s : ByteArray) (R B : Nat) (w : World) : Nat := s.size - (intOf ((w.cell? ⟨R, 1, none⟩).getD undef)).toNat + ((intOf ((w.cell? ⟨B, 3, none⟩).getD undef)).toNat - (intOf ((w.cell? ⟨B, 2, none⟩).getD undef)).toNat)
theorem RS.left {pe : Addr} {W : World} {R B C : Nat} {s : ByteArray} {L : List UInt8} {i : Nat} {bs : List Int} {r n : Nat} {err : Value} {lb lr : Int} {l1 : List UInt8} (h : RS pe W R B C s L i bs r n err lb lr l1) : leftOf s R B W = L.length := by
  obtain ⟨p, hp⟩ := h.1.rd
  have b2 : W.cell? ⟨B, 2, none⟩ = some (.int .i64 (r : Int)) := cell_of h.1.bf (i := 2) rfl
  have b3 : W.cell? ⟨B, 3, none⟩ = some (.int .i64 (n : Int)) := cell_of h.1.bf (i := 3) rfl
  have r1 : W.cell? ⟨R, 1, none⟩ = some (.int .i64 (i : Int)) := cell_of hp (i := 1) rfl
  have hl := h.bytes.1
  have hsz : s.data.toList.length = s.size := (Lib.size_eq s).symm
  unfold leftOf
  rw [b2, b3, r1]
  simp only [Option.getD_some, intOf, Int.toNat_natCast]
  rw [← h.2.2.1, List.length_append, List.length_drop, hl, hsz]
  omega
theorem PInv.left {pe pb : Addr} {m p R B C U : Nat} {s : ByteArray} {w : World} {st : Secs} {L buf : List UInt8} (h : PInv pe pb m p R B C U s w st L buf) : leftOf s R B w = L.length := by
  obtain ⟨i, bs, r, n, err, lb, lr, l1, hr⟩ := h.rs
  exact hr.left
theorem Ord.RU {pe pb : Addr} {m p R B C U : Nat} (o : Ord pe pb m p R B C U) : R ≤ U := by have := o.RB; have := o.BC; have := o.CU; omega
theorem LS.wrote {pe pb : Addr} {m p R B C U : Nat} {s : ByteArray} {W : World} {st st' : Secs} {L' buf l : List UInt8} {A c : Nat} {w w' : World} (h : LS pe pb m p R B C U s W st L' buf l A c w) (o : Ord pe pb m p R B C U) (hP : PInv pe pb m p R B C U s w' st' L' []) (hF : FrU U m w w') : LS pe pb m p R B C U s W st' L' [] l A c w' := by
  obtain ⟨i, bs, r, n, err, lb, lr, l1, hr, hA⟩ := h.rs
  have := o.mp; have := o.pR; have := o.RB; have := o.BC; have := o.CU
  exact ⟨hP, h.fr.trans (hF.less o.RU), h.by_.of_heap (hF.block _ (by omega) (by omega)), h.cap, h.c4, ⟨i, bs, r, n, err, lb, lr, l1, hr.keep (hF.block _ (by omega) (by omega)) (hF.block _ (by omega) (by omega)) (hF.block _ (by omega) (by omega)), hA⟩⟩
/-- a section's name, out of its line -/
theorem mid_name {w : World} {C A c k : Nat} {l : List UInt8} (h : Bytes w C A l) (hk : l.length = k + 2) : (convert 121 9 (.slice (some ⟨C, A + 1, none⟩) k (c - 1))).run Tryz.prog w = .ok (.string ⟨l.tail.dropLast.toArray⟩) w := by
  have hl : l.tail.dropLast.length = k := by simp; omega
  have hb : Bytes w C (A + 1) l.tail.dropLast := fun j hj => by
    rw [Nat.add_assoc, h (1 + j) (by omega)]
    congr 2
    refine numsOf_getD ?_
    rw [List.getElem?_dropLast, if_pos (by simp; omega), List.getElem?_tail, Nat.add_comm]
  have := hb.conv (c - 1)
  rwa [hl] at this
theorem run_append_room_at {P : Program} (w : World) (t u ty e : TypeId) (i : TypeInfo) (ht : P.underlying t = some (.slice e)) (hu : P.underlying u = some .string) (hi : P.info? e = some i) (hs1 : i.size = 1)
    (g A sLen sCap : Nat) (cur : Array Value) (hg : w.heap[g]? = some (.cells cur e (0, 0))) (s : ByteArray)
    (hroom : sLen + s.size ≤ sCap) (hfit : A + sLen + s.size ≤ cur.size) :
    (Builtin.append_ #[t, u] ty #[.slice (some ⟨g, A, none⟩) sLen sCap, .string s]).run P w =
      .ok (.slice (some ⟨g, A, none⟩) (sLen + s.size) sCap) (w.setRow g (cur.toList.take (A + sLen) ++ Lib.strCells s ++ cur.toList.drop (A + sLen + s.size)).toArray) := by
  have hf := Lib.run_firstCells_string (P := P) w 1 s
  have hst := run_storeCells_at P g (A + sLen) e (Lib.strCells s) 0 cur w hg (by simpa [Lib.strCells_length] using hfit) (Lib.strCells_oneCell s)
  simp only [Nat.add_zero, Lib.strCells_length] at hst
  simp [Builtin.append_, run_underlying ht, run_underlying hu, sizeOf, typeInfo, hi, hs1, Builtin.lenOf, hroom, hf, Addr.add_lit, hst]
theorem set_eq (l : List Value) (J : Nat) (v : Value) (h : J < l.length) : l.take J ++ [v] ++ l.drop (J + 1) = l.set J v := by
  apply List.ext_getElem?
  intro i
  rw [List.getElem?_set]
  rcases Nat.lt_trichotomy i J with hi | hi | hi
  · rw [List.append_assoc, List.getElem?_append_left (by simp; omega), List.getElem?_take_of_lt hi, if_neg (by omega)]
  · subst hi
    rw [List.append_assoc, List.getElem?_append_right (by rw [List.length_take]; omega), List.length_take, Nat.min_eq_left (by omega)]
    simp [h]
  · rw [List.getElem?_append_right (by simp; omega), List.getElem?_drop, if_neg (by omega)]
    congr 1
    simp
    omega
set_option maxRecDepth 100000 in
/-- a blank behind what was trimmed, in the place of what was cut -/
theorem LS.blank {pe pb : Addr} {m p R B C U : Nat} {s : ByteArray} {W : World} {st : Secs} {L' buf t : List UInt8} {A c : Nat} {w : World} (h : LS pe pb m p R B C U s W st L' buf t A c w) (o : Ord pe pb m p R B C U) (hc : t.length + 1 ≤ c) (hr : ∃ i bs r n err lb lr l1, RS pe w R B C s L' i bs r n err lb lr l1 ∧ A + (t.length + 1) ≤ r) :
    ∃ w', (Builtin.append_ #[121, 9] 121 #[.slice (some ⟨C, A, none⟩) t.length c, .string ⟨#[32]⟩]).run Tryz.prog w = .ok (.slice (some ⟨C, A, none⟩) (t.length + 1) c) w' ∧ LS pe pb m p R B C U s W st L' buf (t ++ [32]) A c w' := by
  obtain ⟨i, bs, r, n, err, lb, lr, l1, hr, hA⟩ := hr
  have h1 := hr.1.rn; have h2 := hr.1.n4; have h3 := hr.1.len
  have hcs := hr.1.cs
  obtain ⟨i0, hi0, _, hs0, _⟩ := info_parts (show (Tryz.prog.info? 5).map (fun i => (i.zero, i.size, i.bytes)) = some (some (.int .u8 0), 1, 1) from by kernel_rfl)
  have hsz : (cellsOf bs).size = 4096 := by simp [cellsOf, h3]
  have hcl : (cellsOf bs).toList.length = 4096 := by rw [Array.length_toList]; exact hsz
  have happ := run_append_room_at w 121 9 121 5 i0 Tryz.underlying121 Tryz.underlying9 hi0 hs0 C A t.length c (cellsOf bs) hcs ⟨#[32]⟩ hc (by rw [hsz]; show A + t.length + 1 ≤ 4096; omega)
  have hrow : ((cellsOf bs).toList.take (A + t.length) ++ Lib.strCells ⟨#[32]⟩ ++ (cellsOf bs).toList.drop (A + t.length + (⟨#[32]⟩ : ByteArray).size)).toArray = cellsOf (bs.set (A + t.length) 32) := by
    have e1 : Lib.strCells ⟨#[32]⟩ = [.int .u8 32] := rfl
    have e2 : (⟨#[32]⟩ : ByteArray).size = 1 := rfl
    rw [e1, e2, set_eq _ _ _ (by rw [hcl]; omega)]
    unfold cellsOf
    rw [List.map_set]
  rw [hrow] at happ
  have hC' := setRow_heap w C (cellsOf bs) (cellsOf (bs.set (A + t.length) 32)) 5 (0, 0) hcs
  have hT : Turn [R, B, C] w (w.setRow C (cellsOf (bs.set (A + t.length) 32))) := (Turn.refl _ _).setRow C _ (by simp)
  have hrs : RS pe (w.setRow C (cellsOf (bs.set (A + t.length) 32))) R B C s L' i (bs.set (A + t.length) 32) r n err lb lr l1 := by
    refine ⟨{ hr.1 with rd := ?_, bf := (heap_setRow_ne _ _ _ _ hr.1.bc).trans hr.1.bf, cs := hC', len := by rw [List.length_set]; exact h3 }, ?_, hr.2.2⟩
    · obtain ⟨p, hp⟩ := hr.1.rd
      exact ⟨p, (heap_setRow_ne _ _ _ _ hr.1.rc).trans hp⟩
    · rw [← hr.2.1, List.take_set, List.drop_set_of_lt (by omega)]
  refine ⟨_, happ, h.inv.turn o hT ⟨_, _, _, _, _, _, _, _, hrs⟩, h.fr.trans (FrU.turn hT o.RB o.BC (by have := hr.lts; omega)), fun j hj => ?_, by simpa using hc, h.c4, ⟨_, _, _, _, _, _, _, _, hrs, by simpa using hA⟩⟩
  rw [List.length_append, List.length_singleton] at hj
  have e : (bs.set (A + t.length) 32).length = 4096 := by rw [List.length_set]; exact h3
  rw [cell_of hC' (cellsOf_get (by rw [e]; omega))]
  congr 2
  rcases Nat.lt_or_ge j t.length with hjt | hjt
  · have h4 := h.by_ j hjt
    rw [cell_of hcs (cellsOf_get (by rw [h3]; omega))] at h4
    have h5 : bs.getD (A + j) 0 = (numsOf t).getD j 0 := by injection h4 with h4; injection h4
    rw [List.getD_eq_getElem?_getD, List.getElem?_set, if_neg (by omega), ← List.getD_eq_getElem?_getD, h5]
    exact numsOf_getD (List.getElem?_append_left hjt).symm
  · obtain rfl : j = t.length := by omega
    rw [List.getD_eq_getElem?_getD, List.getElem?_set, if_pos rfl, if_pos (by rw [h3]; omega), List.getD_eq_getElem?_getD]
    unfold numsOf
    rw [List.getElem?_map, List.getElem?_append_right (Nat.le_refl _), Nat.sub_self]
    rfl
theorem noteCut_at : ∀ {q : List UInt8} {k : Nat}, k < (noteCut q).length → ∃ b, q[k]? = some b ∧ b ≠ 35 ∧ b ≠ 59
  | [], k, hk => by simp [noteCut] at hk
  | x :: q, k, hk => by
    unfold noteCut at hk
    by_cases hx : (x != 35 && x != 59) = true
    · simp only [List.takeWhile_cons, hx, if_true, List.length_cons] at hk
      cases k with
      | zero => exact ⟨x, rfl, by simpa using hx⟩
      | succ k =>
        obtain ⟨b, h1, h2⟩ := noteCut_at (q := q) (k := k) (by unfold noteCut; omega)
        exact ⟨b, by simpa using h1, h2⟩
    · simp only [List.takeWhile_cons, hx] at hk
      simp at hk
theorem noteCut_end : ∀ {q : List UInt8}, (noteCut q).length < q.length → ∃ b, q[(noteCut q).length]? = some b ∧ (b = 35 ∨ b = 59)
  | [], h => by simp [noteCut] at h
  | x :: q, h => by
    unfold noteCut at h ⊢
    by_cases hx : (x != 35 && x != 59) = true
    · simp only [List.takeWhile_cons, hx, if_true, List.length_cons] at h ⊢
      obtain ⟨b, h1, h2⟩ := noteCut_end (q := q) (by unfold noteCut; omega)
      exact ⟨b, by simpa [noteCut] using h1, h2⟩
    · simp only [List.takeWhile_cons, hx] at h ⊢
      refine ⟨x, by simp, ?_⟩
      simp only [Bool.and_eq_true, bne_iff_ne, ne_eq, not_and, Decidable.not_not] at hx
      by_cases h35 : x = 35
      · exact .inl h35
      · exact .inr (hx h35)
theorem noteCut_prefix (q : List UInt8) {j : Nat} (hj : j < (noteCut q).length) : (noteCut q)[j]? = q[j]? := by
  have h1 := List.takeWhile_prefix (l := q) (fun b : UInt8 => b != 35 && b != 59)
  obtain ⟨r, hr⟩ := h1
  conv => rhs; rw [← hr]
  exact (List.getElem?_append_left hj).symm
theorem wpList_append_run {P : Program} (w w' : World) (v : Value) {ops : Array Oper} {rest : List Oper} {o : Oper} {a : Act} {Q : Exit → Act → World → Prop} (hgd : o.guard = none) (sl x : Operand) (t u : TypeId)
    (ho : o.op = .call { callee := .builtin .append, args := #[sl, x], argTypes := #[t, u] })
    (hr : (Builtin.append_ #[t, u] o.type #[a.eval sl, a.eval x]).run P w = .ok v w') (h : wpList P ops Q rest (a.put o.dst v) w') : wpList P ops Q (o :: rest) a w := by
  refine wpList_plain hgd fun K hK => ?_
  unfold Oper.wp execOp
  simp only [ho, resolve, invoke, builtin, Sem.run_bind, Sem.run_pure, Result.andThen_ok, List.map_toArray, List.map_cons, List.map_nil, hr]
  exact hK _ _ h
theorem byteCells_append (a b : List UInt8) : Lib.byteCells (a ++ b) = Lib.byteCells a ++ Lib.byteCells b := by simp [Lib.byteCells]
end
/-! parseBuffer. -/
section
open Go.Proofs
theorem errs_same (pe : Addr) (w : World) : (binOp .eql 61 (.iface 179 (.pointer (some pe))) (.iface 179 (.pointer (some pe)))).run Tryz.prog w = .ok (.bool true) w := by
  obtain ⟨i, hi, hc⟩ := Option.map_eq_some_iff.1 (show (Tryz.prog.info? 179).map (·.comparable) = some true from by kernel_rfl)
  obtain ⟨j, hj, hs⟩ := Option.map_eq_some_iff.1 (show (Tryz.prog.info? 181).map (·.size) = some 1 from by kernel_rfl)
  exact run_eql_iface_ptr_same w pe Tryz.underlying61 Tryz.underlying179 hi hc hj
def ParsePost (p m U : Nat) (R : Nat) (W : World) (D : Conf) (e : Ending) (w' : World) : Prop :=
  ∃ st', e = .returned .nilIface ∧ ConfIs w' p m st' ∧ confOf st' = D ∧ (∀ n, n ∈ st'.map (·.2.1) → U ≤ n) ∧ FrU R m W w'
set_option maxHeartbeats 8000000 in
set_option maxRecDepth 100000 in
theorem parse_buffer {pe pb : Addr} {m p R B C : Nat} {s : ByteArray} {W : World} {L : List UInt8} {D : Conf} (hU : C < W.heap.size) (o : Ord pe pb m p R B C W.heap.size) (hr : ∃ i bs r n err lb lr l1, RS pe W R B C s L i bs r n err lb lr l1) (hC : ConfIs W p m []) (hg : Globs pe pb W) (ht : Todo D ⟨#[]⟩ [] false [] L) :
    Calls Tryz.prog 87 #[.pointer (some ⟨p, 0, none⟩), .pointer (some ⟨B, 0, none⟩)] W fun e w' => ParsePost p m W.heap.size R W D e w' := by
  have HP0 := Aside0.mk (show PInv pe pb m p R B C W.heap.size s (W.alloc (.cells #[.slice none 0 0, .int .i64 0, .int .i8 0] 164)) [] L [] from by
    have := o.mp; have := o.pR; have := o.RB; have := o.BC; have := o.CU
    obtain ⟨i, bs, r, n, err, lb, lr, l1, hr⟩ := hr
    have hk := fun k (h : k < W.heap.size) => Below.heap_alloc W (.cells #[.slice none 0 0, .int .i64 0, .int .i8 0] 164) k h
    exact ⟨⟨i, bs, r, n, err, lb, lr, l1, hr.keep (hk _ (by omega)) (hk _ (by omega)) (hk _ (by omega))⟩, Lib.fresh_isBuffer _ _ W, conf_old hC hk, by simp, hg.keep o.g0 o.g1 o.g2 o.ge o.gb (fun k h => hk k (by omega))⟩)
  have HF0 := Aside0.mk (show FrU R m W (W.alloc (.cells #[.slice none 0 0, .int .i64 0, .int .i8 0] 164)) from FrU.new ((Below.refl _ _).alloc (Nat.le_refl _) _) (by have := o.RB; have := o.BC; omega))
  have HT0 := Aside0.mk ht
  have heq : ∀ w : World, (binOp .eql 61 (.iface 179 (.pointer (some pe))) (.iface 179 (.pointer (some pe)))).run Tryz.prog w = .ok (.bool true) w := errs_same pe
  have hne : ∀ w : World, (binOp .eql 61 .nilIface (.iface 179 (.pointer (some pe)))).run Tryz.prog w = .ok (.bool false) w := fun w => by kernel_rfl
  have hnn : ∀ w : World, (binOp .neq 61 .nilIface .nilIface).run Tryz.prog w = .ok (.bool false) w := fun w => by kernel_rfl
  clear hr hC hg ht hU
  obtain ⟨U, hU⟩ : ∃ x, x = W.heap.size := ⟨_, rfl⟩
  have HU := Aside0.mk hU
  have HO := Aside0.mk (show Ord pe pb m p R B C U from by rw [hU]; exact o)
  clear o
  rw [← hU] at HP0
  clear hU
  go_enter Tryz.func87, Tryz.ntmps87
  go_wp2
  rw [← HU.out]
  go_loopw [5, 6, 8] (fun v5 v6 v8 wr => ∃ (sec : ByteArray) (n : Int) (cw : Bool) (buf : List UInt8) (st : Secs) (L : List UInt8), v5 = .string sec ∧ v6 = .int .i64 n ∧ v8 = .bool cw ∧ Aside0 (PInv pe pb m p R B C U s wr st L buf) ∧ Aside0 (FrU R m W wr) ∧ Aside0 (Todo D sec buf cw st L))
    (fun _ _ _ wr => leftOf s R B wr)
  case atStart => exact ⟨_, _, _, [], [], L, rfl, rfl, rfl, HP0, HF0, HT0⟩
  case round =>
    clear HP0 HF0 HT0
    obtain ⟨sec, n, cw, buf, st, L, rfl, rfl, rfl, HP, HF, HT⟩ := hrel
    have HLE := Aside0.mk HP.out.left
    go_upto_if 20 with (fail)
    go_cut [8, 9] from 20 to 125 (fun v8 v9 wc => ∃ (buf2 : List UInt8) (st2 : Secs), v8 = .bool false ∧ Aside0 (PInv pe pb m p R B C U s wc st2 L buf2) ∧ Aside0 (FrU R m W wc) ∧ Aside0 (Todo D sec buf2 false st2 L))
    case first =>
      cases cw with
      | true =>
        obtain ⟨D2, hf, hD2⟩ := HT.out.head
        have hw := Aside0.mk (write_any HP.out HO.out sec n hf (by have := HT.out.len; omega) HT.out.bsc)
        have HD2 := Aside0.mk hD2
        clear hf hD2
        go_wp2_with (go_at_call 106; refine hw.out.mono ?_; rintro e w2 ⟨st2, rfl, hP2, hS2, hF2⟩; have HP2 := Aside0.mk hP2; have HF2 := Aside0.mk (HF.out.trans (hF2.less HO.out.RU)); have HT2 := Aside0.mk (HD2.out st2 hS2); clear hP2 hS2 hF2)
        go_meet
        case rel => exact ⟨[], st2, rfl, HP2, HF2, HT2⟩
      | false =>
        go_wp2
        go_meet
        case rel => exact ⟨buf, st, rfl, HP, HF, HT⟩
    case rest =>
      clear HP HF HT
      obtain ⟨buf, st, rfl, HP, HF, HT⟩ := hcut
      by_cases hL : L = []
      · subst hL
        have hline := Aside0.mk (line_end HP.out HO.out)
        have hres := Aside0.mk HT.out.end_
        unfold eofV at hline
        go_upto_region 12 with (go_at_call 107; refine hline.out.mono ?_; rintro e w3 ⟨rfl, hP3, hT3⟩; have HP3 := Aside0.mk hP3; have HF3 := Aside0.mk (HF.out.trans (FrU.turn hT3 HO.out.RB HO.out.BC (by have := HP.out.bf.lt; have := HO.out.RB; have := HO.out.BC; have := HO.out.CU; omega))); clear hP3 hT3)
        have heof := HP3.out.gl.eof
        unfold eofV at heof
        have hlen := Tryz.Buffer_Len U U _ w3 HP3.out.bf
        rw [byteCells_len] at hlen
        by_cases hb : buf = []
        · subst hb
          go_wp2_with (go_at_call 108; refine hlen.mono ?_; rintro e w4 ⟨rfl, q, rfl⟩)
          go_ret
          have hD : confOf st = D := by
            rcases hres.out with ⟨_, h⟩ | ⟨a, b, h, _⟩
            · exact h.symm
            · cases h
          exact ⟨st, rfl, conf_old HP3.out.cf (fun _ _ => rfl), hD, fun n hn => by rw [← HU.out]; exact HP3.out.stU n hn, HF3.out.drewN q⟩
        · have hbp : 0 < buf.length := List.length_pos_iff.2 hb
          have hw := Aside0.mk (fun q => write_any (HP3.out.old (w' := w3.drewN q) HO.out (fun _ _ => rfl)) HO.out sec (wrap64 (n + 1)) hres.out (by have := HT.out.len; omega) HT.out.bsc)
          go_wp2_with (first
            | (go_at_call 108; refine hlen.mono ?_; rintro e w4 ⟨rfl, q, rfl⟩)
            | (go_at_call 106; refine (hw.out q).mono ?_; rintro e w5 ⟨st5, rfl, hP5, hD5, hF5⟩; have HP5 := Aside0.mk hP5; have HD5 := Aside0.mk hD5; have HF5 := Aside0.mk (show FrU R m W w5 from (HF3.out.drewN q).trans (hF5.less HO.out.RU)); clear hP5 hD5 hF5))
          go_ret
          exact ⟨st5, rfl, HP5.out.cf, HD5.out, fun n hn => by rw [← HU.out]; exact HP5.out.stU n hn, HF5.out⟩
      · have hline := Aside0.mk (line_got HP.out HO.out hL HT.out.short)
        have hcase := Aside0.mk (HT.out.line hL)
        have HL := Aside0.mk hL
        have HLB := Aside0.mk (And.intro HT.out.bsc (show buf.length ≤ 500000 from by have := HT.out.len; omega))
        have HA := Aside0.mk HT.out.asc
        go_upto_region 12 with (go_at_call 107; refine hline.out.mono ?_; rintro e w3 ⟨a, ln, rfl, hB3, hln, htr, hmem, hlen, hP3, hR3, hT3⟩; have HP3 := Aside0.mk hP3; have HF3 := Aside0.mk (HF.out.trans (FrU.turn hT3 HO.out.RB HO.out.BC (by have := HP.out.bf.lt; have := HO.out.RB; have := HO.out.BC; have := HO.out.CU; omega))); have HB3 := Aside0.mk hB3; have HTR := Aside0.mk htr; have HLN := Aside0.mk (And.intro hln (And.intro hmem hlen)); have HR3 := Aside0.mk hR3; clear hB3 hln htr hmem hlen hP3 hR3 hT3)
        clear hline hL
        have heof := HP3.out.gl.eof
        unfold eofV at heof
        have htrim := Aside0.mk (HB3.out.trims (c := 4096 - a) rfl HLN.out.1 (by omega) (fun b hb => HA.out b (HLN.out.2.1 b hb)) HP3.out.gl.tab)
        obtain ⟨lo, hlo1, hlo2, hlo3⟩ := HB3.out.trim
        replace hlo3 := Aside0.mk (hlo3 (4096 - a))
        replace hlo2 := Aside0.mk hlo2
        rw [HTR.out] at hlo1 hlo2 hlo3
        replace hlo1 := Aside0.mk hlo1
        go_upto_region 36 with (go_at_call 109; refine htrim.out.mono ?_; rintro e w4 ⟨rfl, rfl⟩)
        rw [hlo3.out]
        clear heof htrim
        have HLM := Aside0.mk (show ∀ b ∈ Lib.trimSpace (firstLine L), b ∈ L from fun b hb => firstLine_mem (trim_mem hb))
        generalize Lib.trimSpace (firstLine L) = l at *
        have HS := Aside0.mk (show LS pe pb m p R B C U s W st (behindLine L) buf l (a + lo) (4096 - a - lo) w4 from ⟨HP3.out, HF3.out, hlo2.out, by have := hlo1.out; have := HLN.out.1; omega, by omega, by
          obtain ⟨i, bs, r, n, err, lb, lr, l1, h1, h2⟩ := HR3.out
          exact ⟨i, bs, r, n, err, lb, lr, l1, h1, by have := hlo1.out; omega⟩⟩)
        have HLT := Aside0.mk (lines_lt HL.out)
        clear HP3 HF3 HB3 HR3 hlo2 hlo1 hlo3 HLN HTR HP HF HT
        generalize a + lo = A at *
        generalize 4096 - a - lo = c at *
        cases hcase.out with
        | note h t =>
          have HT := Aside0.mk t
          by_cases hl : l = []
          · rw [if_pos hl]
            go_wp2_with (go_at_call 110; refine (eq_none _ _).mono ?_; rintro e w5 ⟨rfl, hb⟩; have HS5 := Aside0.mk (HS.out.next HO.out hb); clear hb)
            go_roundw
            case rel => exact ⟨sec, _, true, buf, st, behindLine L, rfl, rfl, rfl, ⟨HS5.out.inv⟩, ⟨HS5.out.fr⟩, HT⟩
            case measure => rw [HLE.out, HS5.out.inv.left]; exact HLT.out
          · rw [if_neg hl]
            have H0 := Aside0.mk (eq_some (c := c) HS.out.by_ hl 0)
            go_upto_region 37 with (go_at_call 110; refine H0.out.mono ?_; rintro e w5 ⟨rfl, hb⟩; have HS5 := Aside0.mk (HS.out.next HO.out hb); clear hb)
            by_cases h59 : l.head? = some 59
            · have H1 := Aside0.mk (pre_one HS5.out.by_ HS5.out.cap 59 true (by rw [h59]; rfl))
              clear h59 h
              go_wp2_with (go_at_call 111; refine H1.out.mono ?_; rintro e w6 ⟨rfl, hb⟩; have HS6 := Aside0.mk (HS5.out.next HO.out hb); clear hb)
              go_roundw
              case rel => exact ⟨sec, _, true, buf, st, behindLine L, rfl, rfl, rfl, ⟨HS6.out.inv⟩, ⟨HS6.out.fr⟩, HT⟩
              case measure => rw [HLE.out, HS6.out.inv.left]; exact HLT.out
            · have h35 : l.head? = some 35 := by
                rcases h with h | h | h
                · exact absurd h hl
                · exact absurd h h59
                · exact h
              have H1 := Aside0.mk (pre_one HS5.out.by_ HS5.out.cap 59 false (by rw [h35]; rfl))
              go_upto_region 38 with (go_at_call 111; refine H1.out.mono ?_; rintro e w6 ⟨rfl, hb⟩; have HS6 := Aside0.mk (HS5.out.next HO.out hb); clear hb)
              have H2 := Aside0.mk (pre_one HS6.out.by_ HS6.out.cap 35 true (by rw [h35]; rfl))
              clear h59 h h35
              go_wp2_with (go_at_call 111; refine H2.out.mono ?_; rintro e w7 ⟨rfl, hb⟩; have HS7 := Aside0.mk (HS6.out.next HO.out hb); clear hb)
              go_roundw
              case rel => exact ⟨sec, _, true, buf, st, behindLine L, rfl, rfl, rfl, ⟨HS7.out.inv⟩, ⟨HS7.out.fr⟩, HT⟩
              case measure => rw [HLE.out, HS7.out.inv.left]; exact HLT.out
        | sect h0 h1 h2 D2 hf t =>
          rw [if_neg h0]
          obtain ⟨k, hk⟩ : ∃ k, l.length = k + 2 := by
            match l, h0, h1, h2 with
            | [x], _, h1, h2 => simp at h1 h2; rw [h1] at h2; cases h2
            | x :: y :: r, _, _, _ => exact ⟨r.length, rfl⟩
          have HK := Aside0.mk hk
          clear hk
          have HC := Aside0.mk HS.out.cap
          have HT := Aside0.mk t
          have HFL := Aside0.mk hf
          have H0 := Aside0.mk (eq_some (c := c) HS.out.by_ h0 0)
          go_upto_region 37 with (go_at_call 110; refine H0.out.mono ?_; rintro e w5 ⟨rfl, hb⟩; have HS5 := Aside0.mk (HS.out.next HO.out hb); clear hb)
          have H1 := Aside0.mk (pre_one HS5.out.by_ HS5.out.cap 59 false (by rw [h1]; rfl))
          go_upto_region 38 with (go_at_call 111; refine H1.out.mono ?_; rintro e w6 ⟨rfl, hb⟩; have HS6 := Aside0.mk (HS5.out.next HO.out hb); clear hb)
          have H2 := Aside0.mk (pre_one HS6.out.by_ HS6.out.cap 35 false (by rw [h1]; rfl))
          go_upto_region 40 with (go_at_call 111; refine H2.out.mono ?_; rintro e w7 ⟨rfl, hb⟩; have HS7 := Aside0.mk (HS6.out.next HO.out hb); clear hb)
          have H3 := Aside0.mk (pre_one HS7.out.by_ HS7.out.cap 91 true (by rw [h1]; rfl))
          have H4 := Aside0.mk (fun w (h : LS pe pb m p R B C U s W st (behindLine L) buf l A c w) => suf_one h.by_ h.cap h.c4 93 true (by rw [h2]; rfl))
          clear h0 h1 h2 hf t
          go_upto_region 41 with (first
            | (go_at_call 111; refine H3.out.mono ?_; rintro e w8 ⟨rfl, hb⟩; have HS8 := Aside0.mk (HS7.out.next HO.out hb); clear hb)
            | (go_at_call 112; refine (H4.out _ HS8.out).mono ?_; rintro e w9 ⟨rfl, hb⟩; have HS9 := Aside0.mk (HS8.out.next HO.out hb); clear hb))
          clear H0 H1 H2 H3 H4 HS HS5 HS6 HS7 HS8
          have hlen := Tryz.Buffer_Len U U _ w9 HS9.out.inv.bf
          rw [byteCells_len] at hlen
          by_cases hbf : buf = []
          · subst hbf
            have hD : confOf st = D2 := by
              rcases HFL.out with ⟨_, h⟩ | ⟨a, b, h, _⟩
              · exact h.symm
              · cases h
            have HD := Aside0.mk hD
            clear hD
            go_upto_region 46 with (go_at_call 108; refine hlen.mono ?_; rintro e w10 ⟨rfl, q, rfl⟩; have HS10 := Aside0.mk (HS9.out.drewN HO.out q))
            have hs2 := mid_name (c := c) HS10.out.by_ HK.out
            have hkc : k + 2 ≤ c := by have := HC.out; have := HK.out; omega
            have hc4 : c ≤ 4096 := HS10.out.c4
            have hwk : wrap64 ((k : Int) + 2 - 1) = (k : Int) + 1 := w64e (by omega) (by omega) (by omega)
            rw [HK.out]
            go_wp2
            go_roundw
            case rel => exact ⟨_, _, false, [], st, behindLine L, rfl, rfl, rfl, ⟨HS10.out.inv⟩, ⟨HS10.out.fr⟩, ⟨HT.out st HD.out⟩⟩
            case measure => rw [HLE.out, HS10.out.inv.left]; exact HLT.out
          · have hbp : 0 < buf.length := List.length_pos_iff.2 hbf
            have hw := Aside0.mk (fun q => write_any (HS9.out.inv.old (w' := w9.drewN q) HO.out (fun _ _ => rfl)) HO.out sec (wrap64 (n + 1)) HFL.out (by have := HLB.out.2; omega) HLB.out.1)
            go_upto_region 46 with (first
              | (go_at_call 108; refine hlen.mono ?_; rintro e w10 ⟨rfl, q, rfl⟩)
              | (go_at_call 106; refine (hw.out q).mono ?_; rintro e w11 ⟨st5, rfl, hP5, hD5, hF5⟩; have HS10 := Aside0.mk ((HS9.out.drewN HO.out q).wrote HO.out hP5 hF5); have HD := Aside0.mk hD5; clear hP5 hD5 hF5))
            have hs2 := mid_name (c := c) HS10.out.by_ HK.out
            have hkc : k + 2 ≤ c := by have := HC.out; have := HK.out; omega
            have hc4 : c ≤ 4096 := HS10.out.c4
            have hwk : wrap64 ((k : Int) + 2 - 1) = (k : Int) + 1 := w64e (by omega) (by omega) (by omega)
            rw [HK.out]
            go_wp2
            go_roundw
            case rel => exact ⟨_, _, false, [], st5, behindLine L, rfl, rfl, rfl, ⟨HS10.out.inv⟩, ⟨HS10.out.fr⟩, ⟨HT.out st5 HD.out⟩⟩
            case measure => rw [HLE.out, HS10.out.inv.left]; exact HLT.out
        | other h0 h1 h2 h3 q cwb hq t =>
          rw [if_neg h0]
          have HT := Aside0.mk t
          have HQ := Aside0.mk hq
          have H0 := Aside0.mk (eq_some (c := c) HS.out.by_ h0 0)
          have HN := Aside0.mk (And.intro h0 (And.intro h1 (And.intro h2 h3)))
          clear t hq h0 h1 h2 h3
          go_upto_region 37 with (go_at_call 110; refine H0.out.mono ?_; rintro e w5 ⟨rfl, hb⟩; have HS5 := Aside0.mk (HS.out.next HO.out hb); clear hb)
          have H1 := Aside0.mk (pre_one HS5.out.by_ HS5.out.cap 59 false (decide_eq_false HN.out.2.1))
          go_upto_region 38 with (go_at_call 111; refine H1.out.mono ?_; rintro e w6 ⟨rfl, hb⟩; have HS6 := Aside0.mk (HS5.out.next HO.out hb); clear hb)
          have H2 := Aside0.mk (pre_one HS6.out.by_ HS6.out.cap 35 false (decide_eq_false HN.out.2.2.1))
          go_upto_region 40 with (go_at_call 111; refine H2.out.mono ?_; rintro e w7 ⟨rfl, hb⟩; have HS7 := Aside0.mk (HS6.out.next HO.out hb); clear hb)
          clear H0 H1 H2
          go_cut [102] from 103 to 110 (fun v102 wx => v102 = .bool false ∧ Aside0 (LS pe pb m p R B C U s W st (behindLine L) buf l A c wx))
          case first =>
            by_cases h91 : l.head? = some 91
            · have H3 := Aside0.mk (pre_one HS7.out.by_ HS7.out.cap 91 true (decide_eq_true h91))
              have H4 := Aside0.mk (fun w (h : LS pe pb m p R B C U s W st (behindLine L) buf l A c w) => suf_one h.by_ h.cap h.c4 93 false (decide_eq_false (fun e => HN.out.2.2.2 ⟨h91, e⟩)))
              clear h91
              go_wp2_with (first
                | (go_at_call 111; refine H3.out.mono ?_; rintro e w8 ⟨rfl, hb⟩; have HS8 := Aside0.mk (HS7.out.next HO.out hb); clear hb)
                | (go_at_call 112; refine (H4.out _ HS8.out).mono ?_; rintro e w9 ⟨rfl, hb⟩; have HS9 := Aside0.mk (HS8.out.next HO.out hb); clear hb))
              go_meet
              case rel => exact ⟨rfl, HS9⟩
            · have H3 := Aside0.mk (pre_one HS7.out.by_ HS7.out.cap 91 false (decide_eq_false h91))
              clear h91
              go_wp2_with (go_at_call 111; refine H3.out.mono ?_; rintro e w8 ⟨rfl, hb⟩; have HS8 := Aside0.mk (HS7.out.next HO.out hb); clear hb)
              go_meet
              case rel => exact ⟨rfl, HS8⟩
          case rest =>
            clear HS HS5 HS6 HS7
            obtain ⟨rfl, HS⟩ := hcut
            obtain ⟨bb, hbb⟩ : ∃ bb, decide (l.getLast? = some 92) = bb := ⟨_, rfl⟩
            have H4 := Aside0.mk (suf_one HS.out.by_ HS.out.cap HS.out.c4 92 bb hbb)
            have HBB := Aside0.mk hbb
            clear hbb
            go_upto_if 55 with (go_at_call 112; refine H4.out.mono ?_; rintro e w8 ⟨rfl, hb⟩; have HS8 := Aside0.mk (HS.out.next HO.out hb); clear hb)
            clear H4 HS
            go_cut [8, 14] from 53 to 64 (fun v8 v14 wx => ∃ (A2 c2 : Nat), v8 = .bool cwb ∧ v14 = .slice (some ⟨C, A2, none⟩) q.length c2 ∧ Aside0 (LS pe pb m p R B C U s W st (behindLine L) buf q A2 c2 wx))
            case first =>
              rcases HQ.out with ⟨h92, rfl, htn, hqe⟩ | ⟨h92, rfl, rfl⟩
              · have hbt : bb = true := by rw [← HBB.out]; exact decide_eq_true h92
                subst hbt
                obtain ⟨k, hk⟩ : ∃ k, l.length = k + 1 := ⟨l.length - 1, by have := List.length_pos_iff.2 HN.out.1; omega⟩
                have hdl : l.dropLast.length = k := by rw [List.length_dropLast]; omega
                have HD := Aside0.mk (show Bytes w8 C A l.dropLast from fun j hj => by
                  rw [HS8.out.by_ j (by rw [hdl] at hj; omega)]
                  congr 2
                  refine (numsOf_getD ?_).symm
                  rw [List.getElem?_dropLast, if_pos (by rw [hdl] at hj; omega)])
                have hkc : k + 1 ≤ c := by have := HS8.out.cap; omega
                have hc4 : c ≤ 4096 := HS8.out.c4
                have htr := Aside0.mk (HD.out.trims (n := k) (c := c) hdl.symm (by omega) (by omega) (fun b hb => HA.out b (HLM.out b (List.dropLast_subset l hb))) HS8.out.inv.gl.tab)
                obtain ⟨lo2, hl1, hl2, hl30⟩ := HD.out.trim
                have hl3 := hl30 c
                clear hl30
                rw [if_neg htn] at hl3
                rw [hdl] at hl1
                have HTL := Aside0.mk (show LS pe pb m p R B C U s W st (behindLine L) buf (Lib.trimSpace l.dropLast) (A + lo2) (c - lo2) w8 from ⟨HS8.out.inv, HS8.out.fr, hl2, by omega, by omega, by
                  obtain ⟨i, bs, r, n, err, lb, lr, l1, h1, h2⟩ := HS8.out.rs
                  exact ⟨i, bs, r, n, err, lb, lr, l1, h1, by omega⟩⟩)
                obtain ⟨w9, happ, hLS9⟩ := HTL.out.blank HO.out (by omega) (by
                  obtain ⟨i, bs, r, n, err, lb, lr, l1, h1, h2⟩ := HS8.out.rs
                  exact ⟨i, bs, r, n, err, lb, lr, l1, h1, by omega⟩)
                rw [← hqe] at hLS9
                rw [show (Lib.trimSpace l.dropLast).length + 1 = q.length from by rw [hqe]; simp] at happ
                have HS9 := Aside0.mk hLS9
                clear hqe
                have hwk : wrap64 ((k : Int) + 1 - 1) = (k : Int) := w64e (by omega) (by omega) (by omega)
                have HK := Aside0.mk hk
                have HL3 := Aside0.mk hl3
                clear hLS9 hk hl3 hl2 hl1 htn h92 hdl
                rw [HK.out]
                go_upto_region 23 with (go_at_call 109; refine htr.out.mono ?_; rintro e w10 ⟨rfl, rfl⟩)
                rw [HL3.out]
                have HAP := Aside0.mk happ
                clear happ
                go_wp2_with ((with_reducible refine gate_builtin (b := .append) (xs := #[.tmp 62, .const (.string ⟨#[32]⟩)]) rfl ?_); at_builtin; refine wpList_append_run _ w9 (.slice (some ⟨C, A + lo2, none⟩) q.length (c - lo2)) rfl (.tmp 62) (.const (.string ⟨#[32]⟩)) 121 9 rfl HAP.out ?_)
                rw [← HK.out]
                go_meet
                case rel => exact ⟨A + lo2, c - lo2, rfl, rfl, HS9⟩
              · have hbt : bb = false := by rw [← HBB.out]; exact decide_eq_false h92
                subst hbt
                go_wp2
                go_meet
                case rel => exact ⟨A, c, rfl, rfl, HS8⟩
            case rest =>
              clear HS8 HQ HN hcase HBB
              obtain ⟨A2, c2, rfl, rfl, HS⟩ := hcut
              go_upto_region 27 with (fail)
              go_upto_block 3 with (fail)
              go_cut [15, 16, 17] from 69 to 81 (fun v15 v16 v17 wx => v15 = .int .i64 ((noteCut q).length : Int) ∧ wx = wc)
              case first =>
                have hq4 : q.length ≤ 4096 := by have := HS.out.cap; have := HS.out.c4; omega
                have hnl := noteCut_le q
                go_wp2
                go_loop [15, 69] (fun v15 v69 => ∃ k : Nat, v69 = .int .i64 (k : Int) ∧ v15 = .int .i64 (q.length : Int) ∧ k ≤ (noteCut q).length) (fun _ v69 => (q.length - (intOf v69).toNat))
                case atStart => exact ⟨0, rfl, rfl, Nat.zero_le _⟩
                case round =>
                  obtain ⟨k, rfl, rfl, hk⟩ := hrel
                  rcases Nat.lt_or_ge k (noteCut q).length with hlt | hge
                  · obtain ⟨b, hb1, hb2, hb3⟩ := noteCut_at hlt
                    have hcell : wc.cell? ⟨C, A2 + k, none⟩ = some (.int .u8 (b.toNat : Int)) := by
                      rw [HS.out.by_ k (by omega)]
                      congr 2
                      simp [numsOf, List.getD_eq_getElem?_getD, hb1]
                    have hb35 : ¬ ((b.toNat : Int) = 35) := fun e => hb2 (UInt8.toNat_inj.1 (by show b.toNat = 35; omega))
                    have hb59 : ¬ ((b.toNat : Int) = 59) := fun e => hb3 (UInt8.toNat_inj.1 (by show b.toNat = 59; omega))
                    have hkq : k < q.length := by omega
                    have hbb35 : ((b.toNat : Int) == 35) = false := by simpa using hb35
                    have hbb59 : ((b.toNat : Int) == 59) = false := by simpa using hb59
                    clear hb1 hb2 hb3
                    go_wp2
                    go_round
                    case rel => exact ⟨k + 1, by go_num, rfl, by omega⟩
                    case measure => simp [intOf]; omega
                  · obtain rfl : k = (noteCut q).length := by omega
                    rcases Nat.lt_or_ge (noteCut q).length q.length with hkq | hkq
                    · obtain ⟨b, hb1, hb2⟩ := noteCut_end hkq
                      have hcell : wc.cell? ⟨C, A2 + (noteCut q).length, none⟩ = some (.int .u8 (b.toNat : Int)) := by
                        rw [HS.out.by_ _ hkq]
                        congr 2
                        simp [numsOf, List.getD_eq_getElem?_getD, hb1]
                      rcases hb2 with rfl | rfl
                      · clear hb1
                        go_wp2
                        go_meet
                        case rel => exact ⟨rfl, rfl⟩
                      · clear hb1
                        go_wp2
                        go_meet
                        case rel => exact ⟨rfl, rfl⟩
                    · have hkq2 : (noteCut q).length = q.length := by omega
                      have HKQ := Aside0.mk hkq2
                      have hnlt : ¬ ((noteCut q).length < q.length) := by omega
                      clear hkq2
                      go_wp2
                      go_meet
                      case rel => exact ⟨by rw [HKQ.out], rfl⟩
              case rest =>
                obtain ⟨rfl, rfl⟩ := hcut
                have hnq := noteCut_le q
                have hqc : (noteCut q).length ≤ c2 := by have := HS.out.cap; omega
                have HW := Aside0.mk (Tryz.Buffer_Write_kept U U (Lib.byteCells buf) (Lib.byteCells (noteCut q)) ⟨C, A2, none⟩ (noteCut q).length c2 wc HS.out.inv.bf (Nat.le_of_lt HS.out.inv.bf.lt) (Lib.byteCells_one _) (byteCells_len _) HO.out.CU (fun j v hj => by
                  have hjl : j < (noteCut q).length := by
                    have := (List.getElem?_eq_some_iff.1 hj).1
                    rwa [byteCells_len] at this
                  rw [Lib.addr_add, HS.out.by_ j (by omega), numsOf_getD (noteCut_prefix q hjl).symm]
                  rw [← hj]
                  simp [Lib.byteCells, numsOf, List.getD_eq_getElem?_getD, List.getElem?_eq_getElem hjl]) (Lib.byteCells_one _) (by rw [byteCells_len]; have := HLB.out.2; have := HS.out.cap; have := HS.out.c4; omega))
                have HB := Aside0.mk hqc
                go_wp2_with (go_at_call 113; refine HW.out.mono ?_; rintro e w10 ⟨rfl, hB10, hb10, ho10⟩; rw [← byteCells_append] at hB10; have HP10 := Aside0.mk (HS.out.inv.wrote HO.out hB10 hb10 ho10); have HF10 := Aside0.mk (HS.out.fr.trans ((FrU.below hb10).less HO.out.RU)); clear hB10 hb10 ho10)
                go_roundw
                case rel => exact ⟨sec, _, cwb, buf ++ noteCut q, st, behindLine L, rfl, rfl, rfl, HP10, HF10, HT⟩
                case measure => rw [HLE.out, HP10.out.left]; exact HLT.out
end
/-! A text's parts between separators: plain words. -/
section
def findSub (sub : List UInt8) : List UInt8 → Option Nat
  | [] => if sub = [] then some 0 else none
  | b :: l => if sub.isPrefixOf (b :: l) then some 0 else (findSub sub l).map (· + 1)
def splitB (sep : ByteArray) : Nat → ByteArray → List ByteArray
  | 0, s => [s]
  | n + 1, s => match findSub sep.data.toList s.data.toList with
    | none => [s]
    | some i => s.extract 0 i :: splitB sep n (s.extract (i + sep.size) s.size)
/-- no place below k -/
def NoSub (sub l : List UInt8) (k : Nat) : Prop := ∀ j, j < k → sub.isPrefixOf (l.drop j) = false
theorem noSub_zero (sub l : List UInt8) : NoSub sub l 0 := fun j hj => by omega
theorem findSub_at (sub : List UInt8) : ∀ (l : List UInt8) (k : Nat), NoSub sub l k → sub.isPrefixOf (l.drop k) = true → k ≤ l.length → findSub sub l = some k
  | [], k, _, h, hk => by
    obtain rfl : k = 0 := by simpa using hk
    cases sub with
    | nil => rfl
    | cons a b => simp [List.isPrefixOf] at h
  | b :: l, 0, _, h, _ => by
    unfold findSub
    simp only [List.drop_zero] at h
    rw [if_pos h]
  | b :: l, k + 1, hn, h, hk => by
    unfold findSub
    have h0 := hn 0 (by omega)
    simp only [List.drop_zero] at h0
    rw [if_neg (by rw [h0]; simp), findSub_at sub l k (fun j hj => by have := hn (j + 1) (by omega); simpa using this) (by simpa using h) (by simpa using hk)]
    rfl
theorem findSub_none (sub : List UInt8) (hs : sub ≠ []) : ∀ (l : List UInt8), (∀ j, j < l.length → sub.isPrefixOf (l.drop j) = false) → findSub sub l = none
  | [], _ => by unfold findSub; rw [if_neg hs]
  | b :: l, h => by
    unfold findSub
    have h0 := h 0 (by simp)
    simp only [List.drop_zero] at h0
    rw [if_neg (by rw [h0]; simp), findSub_none sub hs l (fun j hj => by have := h (j + 1) (by simp; omega); simpa using this)]
    rfl
theorem findSub_le (sub : List UInt8) : ∀ (l : List UInt8) (i : Nat), findSub sub l = some i → i + sub.length ≤ l.length
  | [], i, h => by
    unfold findSub at h
    split at h
    · rename_i hs; cases h; simp [hs]
    · cases h
  | b :: l, i, h => by
    unfold findSub at h
    split at h
    · rename_i hp
      cases h
      have := (List.isPrefixOf_iff_prefix.1 hp).length_le
      omega
    · obtain ⟨j, hj, rfl⟩ := Option.map_eq_some_iff.1 h
      have := findSub_le sub l j hj
      simp
      omega
theorem prefix_take {sub l : List UInt8} (h : sub.length ≤ l.length) : sub.isPrefixOf l = decide (l.take sub.length = sub) := by
  rw [Bool.eq_iff_iff, List.isPrefixOf_iff_prefix, decide_eq_true_iff]
  constructor
  · intro hp; exact (List.prefix_iff_eq_take.1 hp).symm
  · intro e; rw [← e]; exact List.take_prefix _ _
theorem prefix_long {sub l : List UInt8} (h : l.length < sub.length) : sub.isPrefixOf l = false := by
  rw [Bool.eq_false_iff]
  intro hp
  have := (List.isPrefixOf_iff_prefix.1 hp).length_le
  omega
theorem ba_list (s : ByteArray) : s.data.toList.length = s.size := rfl
theorem ba_extract (s : ByteArray) (i j : Nat) : (s.extract i j).data.toList = (s.data.toList.drop i).take (j - i) := by
  rw [ByteArray.data_extract, Array.toList_extract, List.extract_eq_take_drop]
theorem ba_ext {a b : ByteArray} (h : a.data.toList = b.data.toList) : a = b := by
  cases a; cases b; congr; exact Array.ext' h
theorem splitB_le (sep : ByteArray) : ∀ (n : Nat) (s : ByteArray), (splitB sep n s).length ≤ n + 1
  | 0, _ => by simp [splitB]
  | n + 1, s => by
    unfold splitB
    cases findSub sep.data.toList s.data.toList with
    | none => simp
    | some i =>
      have := splitB_le sep n (s.extract (i + sep.size) s.size)
      simp
      exact this
def idxV : Option Nat → Int | some i => (i : Int) | none => -1
end
/-! zzIndex. -/
section
open Go.Proofs
set_option maxHeartbeats 4000000 in
set_option maxRecDepth 100000 in
theorem zz_index (s sub : ByteArray) (w : World) (hs : s.size ≤ 1000000) (hb : sub.size ≤ 1000000) (hpos : 0 < sub.size) :
    Calls Tryz.prog 183 #[.string s, .string sub] w fun e w' => e = .returned (.int .i64 (idxV (findSub sub.data.toList s.data.toList))) ∧ w' = w := by
  go_enter Tryz.func183, Tryz.ntmps183
  go_wp2
  go_loop [5] (fun v3 => ∃ k : Nat, v3 = .int .i64 (k : Int) ∧ k ≤ s.size ∧ Aside0 (NoSub sub.data.toList s.data.toList k)) (fun v3 => s.size - (intOf v3).toNat)
  case atStart => exact ⟨0, rfl, Nat.zero_le _, ⟨noSub_zero _ _⟩⟩
  case round =>
    obtain ⟨k, rfl, hk, HN⟩ := hrel
    by_cases hlt : k + sub.size ≤ s.size
    · obtain ⟨x, hx⟩ : ∃ x, x = s.extract k (k + sub.size) := ⟨_, rfl⟩
      have hsl : ∀ w : World, (Instr.slice 9 (.string s) (some (.int .i64 (k : Int))) (some (.int .i64 ((k : Int) + (sub.size : Int)))) none).run Tryz.prog w = .ok (.string x) w := by
        intro w
        rw [hx, show (k : Int) + (sub.size : Int) = ((k + sub.size : Nat) : Int) from by omega, run_slice_string w 9 s .i64 .i64 (k : Int) ((k + sub.size : Nat) : Int) Tryz.underlying9 (by omega) (by omega) (by omega), Int.toNat_natCast, Int.toNat_natCast]
      have HX := Aside0.mk hx
      clear hx
      have hpre : sub.data.toList.isPrefixOf (s.data.toList.drop k) = decide (x = sub) := by
        rw [prefix_take (by rw [List.length_drop, ba_list, ba_list]; omega), HX.out, ba_list]
        refine decide_eq_decide.2 ⟨fun e => ba_ext (by rw [ba_extract, Nat.add_sub_cancel_left]; exact e), fun e => ?_⟩
        have := congrArg (fun z : ByteArray => z.data.toList) e
        rw [ba_extract, Nat.add_sub_cancel_left] at this
        exact this
      have HP := Aside0.mk hpre
      clear hpre
      by_cases hxs : x = sub
      · have HXS := Aside0.mk hxs
        have hb1 : (x.toList == sub.toList) = true := by rw [hxs]; simp
        clear hxs
        go_wp2
        go_ret
        refine ⟨?_, rfl⟩
        have h1 := HP.out
        rw [HXS.out, decide_eq_true rfl] at h1
        rw [findSub_at _ _ k HN.out h1 (by rw [ba_list]; omega)]
        rfl
      · have HXS := Aside0.mk hxs
        have hb1 : (x.toList == sub.toList) = false := by
          rw [beq_eq_false_iff_ne]
          intro e
          rw [ByteArray.toList_eq, ByteArray.toList_eq] at e
          exact hxs (ba_ext e)
        clear hxs
        go_wp2
        go_round
        case rel =>
          refine ⟨k + 1, by go_num, by omega, ⟨fun j hj => ?_⟩⟩
          rcases Nat.lt_or_ge j k with h | h
          · exact HN.out j h
          · obtain rfl : j = k := by omega
            rw [HP.out, decide_eq_false HXS.out]
        case measure => simp [intOf]; omega
    · have hlt2 : ¬ ((k : Int) + (sub.size : Int) ≤ (s.size : Int)) := by omega
      go_wp2
      go_ret
      refine ⟨?_, rfl⟩
      rw [findSub_none]
      · rfl
      · intro e; have := congrArg List.length e; rw [ba_list, List.length_nil] at this; omega
      · intro j hj
        rcases Nat.lt_or_ge j k with h | h
        · exact HN.out j h
        · refine prefix_long ?_
          rw [ba_list] at hj
          rw [List.length_drop, ba_list, ba_list]
          omega
end
/-! zzSplit. -/
section
open Go.Proofs
set_option maxHeartbeats 4000000 in
set_option maxRecDepth 100000 in
theorem zz_split (s sep : ByteArray) (w : World) (hs : s.size ≤ 1000000) (hb : sep.size ≤ 1000000) (hpos : 0 < sep.size) :
    Calls Tryz.prog 181 #[.string s, .string sep] w fun e w' => ∃ v0_ : Value, e = .returned (v0_) ∧ Kd.R Kd.string 9 w' w.heap.size (fun _ => True) v0_ (splitB sep s.size s) ∧ Below w.heap.size w w' := by
  have hpi : ¬ ((sep.size : Int) = 0) := by omega
  have hpb : ((sep.size : Int) == 0) = false := by simpa using hpi
  go_enter Tryz.func181, Tryz.ntmps181
  go_wp2
  go_loopw [0, 5] (fun v0 v5 wr => ∃ (x : ByteArray) (n : Nat) (out : List ByteArray), v0 = .string x ∧ x.size ≤ n ∧ n ≤ s.size ∧ out.length + n ≤ s.size ∧ Aside0 (out ++ splitB sep n x = splitB sep s.size s) ∧ Aside0 (Kd.R Kd.string 9 wr w.heap.size (fun _ => True) v5 out) ∧ Aside0 (Below w.heap.size w wr))
    (fun v0 _ _ => match v0 with | .string x => x.size | _ => 0)
  case atStart => exact ⟨s, s.size, [], rfl, Nat.le_refl _, Nat.le_refl _, by simp, ⟨rfl⟩, ⟨Kd.R_nil _ _ _ _ _⟩, ⟨Below.refl _ _⟩⟩
  case round =>
    obtain ⟨x, n, out, rfl, hx, hn, hol, HE, HO, HB⟩ := hrel
    have hidx := Aside0.mk (zz_index x sep wr (by omega) hb hpos)
    cases hf : findSub sep.data.toList x.data.toList with
    | none =>
      have HF := Aside0.mk hf
      rw [hf] at hidx
      unfold idxV at hidx
      clear hf
      go_wp2_with (first
        | (go_at_call 183; refine hidx.out.mono ?_; rintro e w3 ⟨rfl, rfl⟩)
        | ((with_reducible refine gate_builtin (b := .append) (xs := #[.tmp 42, .tmp 44]) rfl ?_); at_builtin; refine Kd.R_append Kd.string (w0 := w) w.heap.size rfl (.tmp 42) (.tmp 44) 25 9 (.string ⟨#[]⟩) 16 rfl Tryz.underlying25 info9 rfl (by decide) (by omega) u5 out x [.string x] (fun _ => True) (fun _ => False) rfl ?aX ?aP (fun _ hk => hk.elim) ?aF ?aO ?aB ?aS ?aL ?_; (case aX => rfl); (case aP => exact rfl); (case aB => exact HB.out); (case aF => exact (fun _ _ => trivial)); (case aO => exact HO.out); (case aS => exact below_size HB.out); (case aL => omega); intro v2 w2 ho hb2 hg hat; have HO2 := Aside0.mk ho; have HB2 := Aside0.mk hb2; clear ho hb2 hg hat))
      go_ret
      refine ⟨_, rfl, ?_, HB2.out⟩
      rw [← HE.out]
      have e : splitB sep n x = [x] := by
        cases n with
        | zero => rfl
        | succ n => unfold splitB; rw [HF.out]
      rw [e]
      exact HO2.out
    | some i =>
      have HF := Aside0.mk hf
      rw [hf] at hidx
      unfold idxV at hidx
      have hle := findSub_le _ _ _ hf
      rw [ba_list, ba_list] at hle
      clear hf
      obtain ⟨y, hy⟩ : ∃ y, y = x.extract 0 i := ⟨_, rfl⟩
      obtain ⟨z, hz⟩ : ∃ z, z = x.extract (i + sep.size) x.size := ⟨_, rfl⟩
      have hs1 : ∀ w : World, (Instr.slice 9 (.string x) none (some (.int .i64 (i : Int))) none).run Tryz.prog w = .ok (.string y) w := by
        intro w
        rw [run_slice_string_to_if w 9 x .i64 (i : Int) Tryz.underlying9, hy]
        simp
        omega
      have hs2 : ∀ w : World, (Instr.slice 9 (.string x) (some (.int .i64 ((i : Int) + (sep.size : Int)))) none none).run Tryz.prog w = .ok (.string z) w := by
        intro w
        rw [show (i : Int) + (sep.size : Int) = ((i + sep.size : Nat) : Int) from by omega, run_slice_string_from_if w 9 x .i64 ((i + sep.size : Nat) : Int) Tryz.underlying9, hz]
        generalize i + sep.size = E at hle
        simp
        omega
      have hzs : z.size = x.size - (i + sep.size) := by rw [hz]; simp
      have HY := Aside0.mk (And.intro hy (And.intro hz hzs))
      clear hy hz hzs
      go_wp2_with (first
        | (go_at_call 183; refine hidx.out.mono ?_; rintro e w3 ⟨rfl, rfl⟩)
        | ((with_reducible refine gate_builtin (b := .append) (xs := #[.tmp 46, .tmp 50]) rfl ?_); at_builtin; refine Kd.R_append Kd.string (w0 := w) w.heap.size rfl (.tmp 46) (.tmp 50) 25 9 (.string ⟨#[]⟩) 16 rfl Tryz.underlying25 info9 rfl (by decide) (by omega) u5 out y [.string y] (fun _ => True) (fun _ => False) rfl ?aX ?aP (fun _ hk => hk.elim) ?aF ?aO ?aB ?aS ?aL ?_; (case aX => rfl); (case aP => exact rfl); (case aB => exact HB.out); (case aF => exact (fun _ _ => trivial)); (case aO => exact HO.out); (case aS => exact below_size HB.out); (case aL => omega); intro v2 w2 ho hb2 hg hat; have HO2 := Aside0.mk ho; have HB2 := Aside0.mk hb2; clear ho hb2 hg hat))
      go_roundw
      case rel =>
        have h3 := HY.out.2.2
        obtain ⟨n, rfl⟩ : ∃ k, n = k + 1 := ⟨n - 1, by omega⟩
        refine ⟨z, n, out ++ [y], rfl, by omega, by omega, by simp; omega, ⟨?_⟩, HO2, HB2⟩
        rw [← HE.out]
        conv => rhs; unfold splitB
        rw [HF.out]
        simp only []
        rw [List.append_assoc, HY.out.1, HY.out.2.1]
        rfl
      case measure =>
        have h3 := HY.out.2.2
        simp only []
        omega
end
/-! What is asked of a configuration: plain words. -/
section
def colons : ByteArray := ⟨#[58, 58]⟩
def keyParts (key : ByteArray) : ByteArray × ByteArray :=
  match splitB colons key.size key with
  | a :: b :: _ => (a, b)
  | a :: [] => (defaultB, a)
  | [] => (defaultB, ⟨#[]⟩)
def getConf (D : Conf) (key : ByteArray) : ByteArray := (lookC D (keyParts key).1 (keyParts key).2).getD ⟨#[]⟩
/-- a key that is small, as asked -/
def lowKey (key : ByteArray) : Bool := key.data.toList.all (fun b => decide (b.toNat < 65) || decide (90 < b.toNat) && decide (b.toNat < 128)) && decide (key.size ≤ 1000)
def goodText (s : ByteArray) : Bool := decide (s.size ≤ 400000) && shortLines s.data.toList && s.data.toList.all (fun b => decide (b.toNat < 128))
end
/-! get; NewConfigFromText; ConfigString. -/
section
open Go.Proofs
theorem toLower_low {key : ByteArray} (h : lowKey key = true) : (⟨(Lib.toLowerA key.data.toList).toArray⟩ : ByteArray) = key := by
  apply ba_ext
  unfold lowKey at h
  rw [Bool.and_eq_true] at h
  have h1 := List.all_eq_true.1 h.1
  show Lib.toLowerA key.data.toList = key.data.toList
  unfold Lib.toLowerA
  conv => rhs; rw [← List.map_id key.data.toList]
  refine List.map_congr_left (fun b hb => ?_)
  have h2 := h1 b hb
  simp only [Bool.or_eq_true, Bool.and_eq_true, decide_eq_true_iff] at h2
  unfold Lib.lowerB
  rw [if_neg]
  · rfl
  · unfold Lib.isUpperB
    simp only [Bool.and_eq_true, decide_eq_true_iff, UInt8.le_iff_toNat_le, not_and]
    intro h3 h4
    have h5 : (65 : UInt8).toNat = 65 := rfl
    have h6 : (90 : UInt8).toNat = 90 := rfl
    omega
theorem own_strs {e : Nat} {w : World} {base : Nat} {ok : Nat → Prop} {v : Value} {xs : List ByteArray} (h : Kd.R Kd.string e w base ok v xs) (hx : xs ≠ []) : ∃ g cap, v = .slice (some ⟨g, 0, none⟩) xs.length cap ∧ ∀ (i : Nat) (x : ByteArray), xs[i]? = some x → w.cell? ⟨g, i, none⟩ = some (.string x) := by
  obtain ⟨hl, hv⟩ := Kd.own_of_R h
  rcases hv with ⟨_, h0⟩ | ⟨g, cap, cur, rfl, _⟩
  · exact absurd (List.eq_nil_of_length_eq_zero h0) hx
  · refine ⟨g, cap, rfl, fun i x hi => ?_⟩
    have hil := (List.getElem?_eq_some_iff.1 hi).1
    have := (Kd.R_cell ByteArray.empty h (i : Int) (by omega) (by omega)).1
    rw [Int.toNat_natCast] at this
    rw [this]
    simp [rdOf, List.getD_eq_getElem?_getD, hi]
theorem look_conf {w : World} {p m : Nat} {st : Secs} (h : ConfIs w p m st) (sec opt : ByteArray) :
    ∃ inner x b, (Instr.lookup 142 (.map (some m)) (.string sec) false).run Tryz.prog w = .ok inner w ∧ (Instr.lookup 119 inner (.string opt) true).run Tryz.prog w = .ok (.tuple #[.string x, .bool b]) w ∧
      (lookC (confOf st) sec opt).getD ⟨#[]⟩ = (if b then x else ⟨#[]⟩) := by
  obtain ⟨es, c, ht, hS⟩ := h.top
  unfold lookC
  cases hg : getC sec (confOf st) with
  | none =>
    have hk := look_sec_none (sec_none hg)
    exact ⟨.map none, ⟨#[]⟩, false, run_look_none_s uT1 uTs ht hS hk (zT2 w) false, run_look_nil_s uT2 uTs w opt (zTs w) true, rfl⟩
  | some D =>
    obtain ⟨A, n, B, rfl, hA⟩ := sec_some hg
    have hk := look_sec (k := sec) (n := n) (D := D) (B := B) hA 0
    obtain ⟨es2, c2, hb2, hS2⟩ := h.sub (sec, n, D) (by simp)
    rcases look_opt (o := opt) (l := D) 0 with ⟨u, j, hgu, hl⟩ | ⟨hgu, hl⟩
    · exact ⟨.map (some n), u, true, run_look_s uT1 uTs ht hS hk false, run_look_s uT2 uTs hb2 hS2 hl true, by simp [hgu]⟩
    · exact ⟨.map (some n), ⟨#[]⟩, false, run_look_s uT1 uTs ht hS hk false, run_look_none_s uT2 uTs hb2 hS2 hl (zTs w) true, by simp [hgu]⟩
theorem conf_below {w w' : World} {p m : Nat} {st : Secs} (h : ConfIs w p m st) (hb : Below w.heap.size w w') : ConfIs w' p m st := conf_old h (fun k hk => hb.block k hk)
set_option maxHeartbeats 4000000 in
set_option maxRecDepth 100000 in
theorem conf_get {w : World} {p m : Nat} {st : Secs} (h : ConfIs w p m st) (key : ByteArray) (hk : lowKey key = true) :
    Calls Tryz.prog 180 #[.pointer (some ⟨p, 0, none⟩), .string key] w fun e w' => e = .returned (.string (getConf (confOf st) key)) ∧ Below w.heap.size w w' := by
  have hks : key.size ≤ 1000 := by unfold lowKey at hk; simp only [Bool.and_eq_true, decide_eq_true_iff] at hk; exact hk.2
  have hlow := Tryz.strings_ToLower_ascii key w (by omega) (fun j b hb => by
    unfold lowKey at hk
    simp only [Bool.and_eq_true, List.all_eq_true, Bool.or_eq_true, decide_eq_true_iff] at hk
    have := hk.1 b (List.mem_of_getElem? hb)
    omega)
  rw [toLower_low hk] at hlow
  have hsp := fun w' => zz_split key colons w' (by omega) (by decide) (by decide)
  have HP := Aside0.mk h
  clear h hk
  cases hq : splitB colons key.size key with
  | nil =>
    exfalso
    have : splitB colons key.size key ≠ [] := by
      cases key.size with
      | zero => simp [splitB]
      | succ n => unfold splitB; split <;> simp
    exact this hq
  | cons a r =>
    cases r with
    | nil =>
      have hkp : keyParts key = (defaultB, a) := by unfold keyParts; rw [hq]
      rw [hq] at hsp
      have HK := Aside0.mk hkp
      clear hkp hq
      go_enter Tryz.func180, Tryz.ntmps180
      go_upto_region 4 with (first
        | (go_at_call 182; refine hlow.mono ?_; rintro e w2 ⟨rfl, hb⟩; have HB2 := Aside0.mk hb; clear hb)
        | (go_at_call 181; refine (hsp _).mono ?_; rintro e w3 ⟨v0, rfl, hR, hb⟩; have HR3 := Aside0.mk hR; have HB3 := Aside0.mk hb; clear hb hR))
      obtain ⟨g, cap, rfl, hcells⟩ := own_strs HR3.out (by simp)
      have k0 := hcells 0 a rfl
      have HC3 := Aside0.mk (conf_below (conf_below HP.out HB2.out) HB3.out)
      obtain ⟨inner, x, b, hl1, hl2, hres⟩ := look_conf HC3.out defaultB a
      have c0 : w3.cell? ⟨p, 0, none⟩ = some (.map (some m)) := cell_of HC3.out.ptr rfl
      unfold defaultB at hl1
      have HRES := Aside0.mk hres
      have hlen1 : ([a] : List ByteArray).length = 1 := rfl
      clear hres hcells
      rw [hlen1]
      have HF := Aside0.mk (show Below w.heap.size w w3 from HB2.out.trans (HB3.out.mono HB2.out.size))
      cases b with
      | true =>
        go_wp2
        go_ret
        refine ⟨?_, HF.out⟩
        unfold getConf
        rw [HK.out, HRES.out]
        rfl
      | false =>
        go_wp2
        go_ret
        refine ⟨?_, HF.out⟩
        unfold getConf
        rw [HK.out, HRES.out]
        rfl
    | cons b r =>
      have hkp : keyParts key = (a, b) := by unfold keyParts; rw [hq]
      rw [hq] at hsp
      have HK := Aside0.mk hkp
      clear hkp hq
      go_enter Tryz.func180, Tryz.ntmps180
      go_upto_region 4 with (first
        | (go_at_call 182; refine hlow.mono ?_; rintro e w2 ⟨rfl, hb⟩; have HB2 := Aside0.mk hb; clear hb)
        | (go_at_call 181; refine (hsp _).mono ?_; rintro e w3 ⟨v0, rfl, hR, hb⟩; have HR3 := Aside0.mk hR; have HB3 := Aside0.mk hb; clear hb hR))
      obtain ⟨g, cap, rfl, hcells⟩ := own_strs HR3.out (by simp)
      have k0 := hcells 0 a rfl
      have k1 := hcells 1 b rfl
      have HC3 := Aside0.mk (conf_below (conf_below HP.out HB2.out) HB3.out)
      obtain ⟨inner, x, bb, hl1, hl2, hres⟩ := look_conf HC3.out a b
      have c0 : w3.cell? ⟨p, 0, none⟩ = some (.map (some m)) := cell_of HC3.out.ptr rfl
      have HRES := Aside0.mk hres
      obtain ⟨n, hn⟩ : ∃ n, n = r.length := ⟨_, rfl⟩
      have hlen1 : (a :: b :: r : List ByteArray).length = n + 2 := by rw [hn]; rfl
      have hg2 : ((n : Int) + 2 ≥ 2) := by omega
      clear hres hcells hn
      rw [hlen1]
      clear hlen1
      have HF := Aside0.mk (show Below w.heap.size w w3 from HB2.out.trans (HB3.out.mono HB2.out.size))
      cases bb with
      | true =>
        go_wp2
        go_ret
        refine ⟨?_, HF.out⟩
        unfold getConf
        rw [HK.out, HRES.out]
        rfl
      | false =>
        go_wp2
        go_ret
        refine ⟨?_, HF.out⟩
        unfold getConf
        rw [HK.out, HRES.out]
        rfl
/-- a configuration that was read: new blocks alone -/
def ConfPost (W : World) (D : Conf) (e : Ending) (w' : World) : Prop :=
  ∃ (p m : Nat) (st : Secs), e = .returned (.tuple #[.iface 141 (.pointer (some ⟨p, 0, none⟩)), .nilIface]) ∧ ConfIs w' p m st ∧ confOf st = D ∧ (W.heap.size ≤ p ∧ W.heap.size ≤ m ∧ ∀ n, n ∈ st.map (·.2.1) → W.heap.size ≤ n) ∧ Below W.heap.size W w'
structure GlobsIn (pe pb : Addr) (w : World) : Prop where
  gl : Globs pe pb w
  ne : pe ≠ pb
theorem Globs.lts {pe pb : Addr} {w : World} (h : Globs pe pb w) : 2 < w.heap.size ∧ 3 < w.heap.size ∧ 4 < w.heap.size ∧ pe.block < w.heap.size ∧ pb.block < w.heap.size := by
  refine ⟨World.block_lt_of_cell? w _ h.eof, World.block_lt_of_cell? w _ h.full, ?_, ?_, ?_⟩
  · have ht := h.tab
    have hgn : Tryz.prog.globalNamed "bytes.asciiSpace" = some 4 := by kernel_rfl
    unfold SpaceTab Lib.TabIs World.var? at ht
    rw [hgn] at ht
    simp only [Option.bind_some] at ht
    rcases Nat.lt_or_ge 4 w.heap.size with h' | h'
    · exact h'
    · rw [Array.getElem?_eq_none h'] at ht; cases ht
  · obtain ⟨ca, ta, hx⟩ := h.be; exact gotlt hx
  · obtain ⟨ca, ta, hx⟩ := h.bb; exact gotlt hx
theorem todo_start {s : ByteArray} {D : Conf} (hg : goodText s = true) (hp : parseP s.data.toList = some D) : Todo D ⟨#[]⟩ [] false [] s.data.toList := by
  unfold goodText at hg
  simp only [Bool.and_eq_true, decide_eq_true_iff, List.all_eq_true] at hg
  unfold parseP at hp
  obtain ⟨s2, h1, h2⟩ := Option.map_eq_some_iff.1 hp
  obtain ⟨s1, h3, h4⟩ := Option.bind_eq_some_iff.1 h1
  exact ⟨⟨s1, h3, by rw [h4, Option.map_some, h2]⟩, hg.1.2, hg.2, by simp, by rw [ba_list]; simp; omega⟩
theorem conf_below4 {W W2 w4 : World} {o : Obj} (hb : Below W.heap.size W W2) (hT : Turn [] (W2.alloc o) w4) : Below W.heap.size W w4 := by
  have h1 := hb.size
  have h2 := hb.alloc hb.size o
  exact ⟨hT.os.trans h2.os, hT.tape.trans h2.tape, hT.output.trans h2.output, Nat.le_trans h2.size hT.size, fun k hk => (hT.block k (by simp; omega) (by simp)).trans (h2.block k hk)⟩
theorem conf_parse {pe pb : Addr} {W W2 w4 : World} {B C : Nat} {s : ByteArray} {D : Conf} {o : Obj} (hG : GlobsIn pe pb W) (hl : 2 < W.heap.size ∧ 3 < W.heap.size ∧ 4 < W.heap.size ∧ pe.block < W.heap.size ∧ pb.block < W.heap.size) (e2 : W2.heap.size = W.heap.size + 2) (hb : Below W.heap.size W W2) (hC : ConfIs W2 (W.heap.size + 1) W.heap.size []) (e3 : (W2.alloc o).heap.size = W2.heap.size + 1)
    (h4 : W2.heap.size < B ∧ B < C ∧ (W2.alloc o).heap.size ≤ B ∧ C < w4.heap.size ∧ Turn [] (W2.alloc o) w4 ∧ RD w4 W2.heap.size B C s 0 zeros 0 0 .nilIface (-1) (-1)) (ht : Todo D ⟨#[]⟩ [] false [] s.data.toList) :
    Calls Tryz.prog 87 #[.pointer (some ⟨W.heap.size + 1, 0, none⟩), .pointer (some ⟨B, 0, none⟩)] w4 fun e w' => ParsePost (W.heap.size + 1) W.heap.size w4.heap.size W2.heap.size w4 D e w' := by
  obtain ⟨h1, h2, h3, h4, h5, h6⟩ := h4
  obtain ⟨g0, g1, g2, g3, g4⟩ := hl
  have hb4 := conf_below4 hb h5
  refine parse_buffer (pe := pe) (pb := pb) (s := s) (L := s.data.toList) h4 ⟨hG.ne, g0, g1, g2, g3, g4, by omega, by omega, h1, h2, h4⟩ ⟨0, zeros, 0, 0, .nilIface, -1, -1, [], h6, by simp [numsOf], by simp, .inl rfl⟩ ?_ (hG.gl.keep g0 g1 g2 g3 g4 (fun k hk => hb4.block k hk)) ht
  exact conf_old hC (fun k hk => (h5.block k (by omega) (by simp)).trans (Below.heap_alloc _ _ _ hk))
set_option maxHeartbeats 4000000 in
set_option maxRecDepth 100000 in
theorem new_config {pe pb : Addr} {W : World} (hG : GlobsIn pe pb W) (s : ByteArray) (D : Conf) (hg : goodText s = true) (hp : parseP s.data.toList = some D) :
    Calls Tryz.prog 72 #[.string s] W fun e w' => ConfPost W D e w' := by
  have hmm := @run_makeMap Tryz.prog
  have HT := Aside0.mk (todo_start hg hp)
  have hsz : s.size ≤ 2147483647 := by
    unfold goodText at hg
    simp only [Bool.and_eq_true, decide_eq_true_iff] at hg
    omega
  have HG := Aside0.mk hG
  have HLT := Aside0.mk hG.gl.lts
  clear hG hg hp
  go_enter Tryz.func72, Tryz.ntmps72
  go_upto_region 2 with (fail)
  obtain ⟨W2, hW2⟩ : ∃ x, x = (W.alloc (.map #[] 0)).alloc (.cells #[.map (some W.heap.size)] 144) := ⟨_, rfl⟩
  have HS2 := Aside0.mk (show W2.heap.size = W.heap.size + 2 from by rw [hW2]; simp)
  have HB2 := Aside0.mk (show Below W.heap.size W W2 from by rw [hW2]; exact ((Below.refl _ _).alloc (Nat.le_refl _) _).alloc (by simp) _)
  have HC2 := Aside0.mk (show ConfIs W2 (W.heap.size + 1) W.heap.size [] from by
    rw [hW2]
    have e1 : (W.alloc (.map #[] 0)).heap.size = W.heap.size + 1 := by simp
    refine ⟨?_, ⟨#[], 0, ?_, rfl⟩, by simp, by simp⟩
    · rw [← e1]; exact heap_alloc_new _ _
    · exact (Below.heap_alloc _ _ _ (by simp)).trans (heap_alloc_new W _))
  rw [← hW2]
  clear hW2
  have hnr := Aside0.mk (nr_new s W2)
  have HS3 := Aside0.mk (show (W2.alloc (.cells #[.string s, .int .i64 0, .int .i64 (-1)] 177)).heap.size = W2.heap.size + 1 from by simp)
  have hbr := Aside0.mk (bu_newReader s W2.heap.size (W2.alloc (.cells #[.string s, .int .i64 0, .int .i64 (-1)] 177)) hsz ⟨-1, heap_alloc_new W2 _⟩)
  go_upto_region 3 with (first
    | (go_at_call 89; refine hnr.out.mono ?_; rintro e w3 ⟨rfl, rfl⟩)
    | (go_at_call 88; refine hbr.out.mono ?_; rintro e w4 ⟨B, C, rfl, h1, h2, h3, h4, h5, h6⟩; have H4 := Aside0.mk (And.intro h1 (And.intro h2 (And.intro h3 (And.intro h4 (And.intro h5 h6))))); clear h1 h2 h3 h4 h5 h6; have HPB := Aside0.mk (conf_parse HG.out HLT.out HS2.out HB2.out HC2.out HS3.out H4.out HT.out))
    | (go_at_call 87; refine HPB.out.mono ?_; rintro e w5 ⟨st, rfl, hC5, hD5, hst5, hF5⟩; have H5 := Aside0.mk (And.intro hC5 (And.intro hD5 (And.intro hst5 hF5))); clear hC5 hD5 hst5 hF5))
  go_wp2
  go_ret2
  obtain ⟨hC5, hD5, hst5, hF5⟩ := H5.out
  obtain ⟨h1, h2, h3, h4, h5, h6⟩ := H4.out
  have e2 := HS2.out
  have e3 := HS3.out
  refine ⟨W.heap.size + 1, W.heap.size, st, rfl, hC5, hD5, ⟨by omega, Nat.le_refl _, fun n hn => by have := hst5 n hn; omega⟩, ?_⟩
  have hb4 := conf_below4 HB2.out h5
  exact ⟨hF5.os.trans hb4.os, hF5.tape.trans hb4.tape, hF5.output.trans hb4.output, Nat.le_trans hb4.size hF5.size, fun k hk => (hF5.block k (by omega) (by omega)).trans (hb4.block k hk)⟩
end
/-! String. -/
section
open Go.Proofs
theorem conf_String {w : World} {p m : Nat} {st : Secs} (h : ConfIs w p m st) (key : ByteArray) (hk : lowKey key = true) :
    Calls Tryz.prog 178 #[.pointer (some ⟨p, 0, none⟩), .string key] w fun e w' => e = .returned (.string (getConf (confOf st) key)) ∧ Below w.heap.size w w' := by
  have hg := conf_get h key hk
  clear h hk
  go_enter Tryz.func178, Tryz.ntmps178
  go_wp2_with (go_at_call 180; refine hg.mono ?_; rintro e w2 ⟨rfl, hb⟩; have HB2 := Aside0.mk hb; clear hb)
  go_ret
  exact ⟨rfl, HB2.out⟩
end

end Go.Proofs.YtjglpjlbnmpdfaaGreatDoor.PFnModelAdd
