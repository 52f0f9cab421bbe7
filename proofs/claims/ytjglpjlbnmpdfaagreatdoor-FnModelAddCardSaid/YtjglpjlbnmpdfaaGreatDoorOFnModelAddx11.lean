/- The machine side of laws.FnModelAdd: each function of this text answers what its Lean function answers (written for this claim by a program of this session over the kit's print; no condition beyond what each theorem says). -/
import Derived.Test.YtjglpjlbnmpdfaaGreatDoorOFnModelAddx0
import Derived.Test.YtjglpjlbnmpdfaaGreatDoorOFnModelAddx6
import Derived.Test.YtjglpjlbnmpdfaaGreatDoorOFnModelAddx7
import Derived.Test.YtjglpjlbnmpdfaaGreatDoorOFnModelAddx9
namespace Go.Proofs.YtjglpjlbnmpdfaaGreatDoor.PFnModelAdd
open Go.RowKit Go.Proofs.YtjglpjlbnmpdfaaGreatDoorW.PrintWords Go.Proofs.YtjglpjlbnmpdfaaGreatDoorW.PrintLast Go.Proofs.YtjglpjlbnmpdfaaGreatDoorW.PrintMore
attribute [local go_sem] max2_int min2_int max_two min_two max_three min_three max_four min_four   -- for this text's walks alone
set_option linter.unusedVariables false
set_option linter.unusedSimpArgs false

/-! ### impl_ModelAdd: function 16 -/
/-! A region that draws its order: some operations that only read (D), then a chain, each link behind the one ahead (C: calls, memory), the last one last. -/
section
variable {P : Program} {ops : Array Oper} {Q : Exit → Act → World → Prop}
def sinks_ (T : List (List Nat)) (h : Nat) (late : Nat → Bool) : Bool := (List.range h).all fun i => late i || (List.range (h + 1)).any fun j => decide (i < j) && (decide (j = h) || !late j) && (T.getD j []).contains i
theorem sinks_all {T : List (List Nat)} {h : Nat} {late : Nat → Bool} (hs : sinks_ T h late = true) {L : Array Bool} (hcl : ∀ j k, k ∈ T.getD j [] → hasL_ L j = true → hasL_ L k = true) (hh : hasL_ L h = true) : ∀ (d i : Nat), h - i = d → i < h → late i = false → hasL_ L i = true := by
 intro d
 induction d using Nat.strongRecOn with
 | _ d ih =>
  intro i hd hi hl
  have h1 := List.all_eq_true.1 hs i (List.mem_range.2 hi)
  rw [hl, Bool.false_or] at h1
  obtain ⟨j, hj, hj2⟩ := List.any_eq_true.1 h1
  simp only [Bool.and_eq_true, Bool.or_eq_true, decide_eq_true_eq, List.contains_iff_mem, Bool.not_eq_true'] at hj2
  obtain ⟨⟨hij, hjl⟩, hmem⟩ := hj2
  have hjh : j ≤ h := by have := List.mem_range.1 hj; omega
  refine hcl j i hmem ?_
  rcases hjl with rfl | hjl
  ·exact hh
  ·by_cases e : j = h
   ·rw [e]; exact hh
   ·exact ih (h - j) (by omega) j rfl (by omega) hjl
theorem region_chain {n id : Nat} {d : List Deferred} {t : Nat → Value} {w : World} (hm : P.follows .mixedOrders = true) (D C : List Nat) (V : Nat → Value) (Z : Nat → (Nat → Value) → World → Prop) (T : List (List Nat)) (late : Nat → Bool)
  (hT : (List.range ops.size).map (fun i => match ops[i]? with | some o => o.after.toList.filterMap (fun e => if Region.binds .any e = true then some e.on else none) | none => []) = T)
  (hlow : (T.zipIdx.all fun p => p.1.all fun n => decide (n < p.2)) = true)
  (hsz : ops.size = D.length + C.length + 1) (hnd : (D ++ C).Nodup) (hDn : ∀ k ∈ D ++ C, k < n) (h0 : 0 < C.length)
  (hchain : ∀ i, i < C.length → D.length + i ∈ T.getD (D.length + i + 1) []) (hfull : ∀ k, k < D.length → k ∈ T.getD (D.length + C.length) []) (hsink : sinks_ T D.length late = true)
  (hpure : ∀ i, i < D.length → ∀ s W, (late i = false → W = w.drew) → (∀ k, k < D.length → k ∈ T.getD i [] → s (D.getD k 0) = V k) → (∀ j, j ∉ D ++ C → s j = t j) → ∃ o, ops[i]? = some o ∧ o.dst = some (D.getD i 0) ∧ (∀ a : Act, Region.wanted o (yielded ops a.tmps) = true) ∧ (execOp (mkN n d s).eval o).run P W = .ok (.value (V i)) W)
  (hz0 : Z 0 t w.drew) (hzw : ∀ s W, Z 0 s W → W = w.drew) (hstab : ∀ i s x v W, (∀ j, j < C.length → C.getD j 0 ≠ x) → Z i s W → Z i (updN s x v) W)
  (hstep : ∀ i, i < C.length → ∀ s W, (∀ k, k < D.length → k ∈ T.getD (D.length + i) [] → s (D.getD k 0) = V k) → (∀ j, j ∉ D ++ C → s j = t j) → Z i s W → ∀ K : Act → World → Prop, (∀ v W', Z (i + 1) (updN s (C.getD i 0) v) W' → K (mkN n d (updN s (C.getD i 0) v)) W') → wpOp P ops Q (D.length + i) K (mkN n d s) W)
  (hlast : ∀ s W, Z C.length s W → (∀ k, k < D.length → s (D.getD k 0) = V k) → (∀ j, j ∉ D ++ C → s j = t j) → wpOp P ops Q (D.length + C.length) (fun a W => Q .normal a W) (mkN n d s) W) :
  (Code.region id ops true).wp P Q (mkN n d t) w := by
 have hget : ∀ {l : List Nat} {k : Nat}, k < l.length → l.getD k 0 ∈ l := fun {l k} hk => by
  rw [List.getD_eq_getElem?_getD, List.getElem?_eq_getElem hk]
  exact List.getElem_mem hk
 have hDm : ∀ k, k < D.length → D.getD k 0 ∈ D ++ C := fun k hk => List.mem_append_left _ (hget hk)
 have hCm : ∀ k, k < C.length → C.getD k 0 ∈ D ++ C := fun k hk => List.mem_append_right _ (hget hk)
 have hnd2 := List.nodup_append.1 hnd
 have hDC : ∀ i k, i < D.length → k < C.length → D.getD i 0 ≠ C.getD k 0 := fun i k hi hk => hnd2.2.2 _ (hget hi) _ (hget hk)
 have hinj : ∀ i k, i < D.length → k < D.length → D.getD i 0 = D.getD k 0 → i = k := fun i k hi hk e => by
  rw [List.getD_eq_getElem?_getD, List.getD_eq_getElem?_getD, List.getElem?_eq_getElem hi, List.getElem?_eq_getElem hk] at e
  exact (List.getElem_inj hnd2.1).1 e
 let J : Array Bool → Act → World → Prop := fun L a W =>
  (hasL_ L (D.length + C.length) = true ∧ (∀ k, k < D.length + C.length → hasL_ L k = true) ∧ Q .normal a W) ∨
  (hasL_ L (D.length + C.length) = false ∧ ∃ s i, a = mkN n d s ∧ i ≤ C.length ∧ (∀ k, k < C.length → hasL_ L (D.length + k) = decide (k < i)) ∧ Z i s W ∧ (∀ k, k < D.length → hasL_ L k = true → s (D.getD k 0) = V k) ∧ (∀ j, j ∉ D ++ C → s j = t j) ∧ (∀ j k, k ∈ T.getD j [] → hasL_ L j = true → hasL_ L k = true))
 have hz : ∀ j, hasL_ (Array.replicate ops.size false) j = false := by
  intro j
  unfold hasL_
  rw [Array.getD_eq_getD_getElem?, Array.getElem?_replicate]
  split <;> rfl
 refine region_inv hm J T hT hlow ?_ ?_ ?_
 ·refine .inr ⟨hz _, t, 0, rfl, Nat.zero_le _, fun k _ => by rw [hz, decide_eq_false (by omega)], hz0, fun k _ h => ?_, fun _ _ => rfl, fun j k _ h => ?_⟩ <;> (rw [hz] at h; cases h)
 ·intro L a W i hL hi hn hneed hJ
  have hself : hasL_ (L.setIfInBounds i true) i = true := by rw [hasL_set (by omega), if_pos rfl]
  have hoth : ∀ j, j ≠ i → hasL_ (L.setIfInBounds i true) j = hasL_ L j := fun j hj => by rw [hasL_set (by omega), if_neg hj]
  rcases hJ with ⟨h1, h2, _⟩ | ⟨h1, s, q, rfl, hq, hst, hZ, hv, hold, hcl⟩
  ·exfalso
   rcases Nat.lt_or_ge i (D.length + C.length) with g | g
   ·rw [h2 i g] at hn; cases hn
   ·obtain rfl : i = D.length + C.length := by omega
    rw [h1] at hn; cases hn
  ·have hcl' : ∀ j k, k ∈ T.getD j [] → hasL_ (L.setIfInBounds i true) j = true → hasL_ (L.setIfInBounds i true) k = true := fun j k hk hl => by
    by_cases e : k = i
    ·rw [e]; exact hself
    ·rw [hoth k e]
     by_cases e2 : j = i
     ·rw [e2] at hk; exact hneed k hk
     ·rw [hoth j e2] at hl; exact hcl j k hk hl
   by_cases g : i = D.length + C.length
   ·subst g
    have hall : ∀ k, k < D.length → hasL_ L k = true := fun k hk => hneed k (hfull k hk)
    have hlst : hasL_ L (D.length + (C.length - 1)) = true := hneed _ (by have := hchain (C.length - 1) (by omega); rwa [show D.length + (C.length - 1) + 1 = D.length + C.length from by omega] at this)
    have hqm : q = C.length := by
     rw [hst _ (by omega)] at hlst
     have := of_decide_eq_true hlst
     omega
    subst hqm
    refine wpOp_mono (fun a' W' hq2 => .inl ⟨hself, fun k hk => ?_, hq2⟩) (hlast s W hZ (fun k hk => hv k hk (hall k hk)) hold)
    rw [hoth k (by omega)]
    rcases Nat.lt_or_ge k D.length with e | e
    ·exact hall k e
    ·have := hst (k - D.length) (by omega)
     rw [show D.length + (k - D.length) = k from by omega] at this
     rw [this]
     exact decide_eq_true (by omega)
   ·have hlast0 : hasL_ (L.setIfInBounds i true) (D.length + C.length) = false := by rw [hoth _ (fun e => g e.symm)]; exact h1
    rcases Nat.lt_or_ge i D.length with hiD | hiD
    ·have hW : late i = false → W = w.drew := fun hl => by
      have hh : hasL_ L D.length = false := by
       cases hb : hasL_ L D.length with
       | false => rfl
       | true =>
        rw [sinks_all hsink hcl hb _ i rfl hiD hl] at hn
        cases hn
      have := hst 0 h0
      rw [Nat.add_zero, hh] at this
      obtain rfl : q = 0 := by
       have := of_decide_eq_false this.symm
       omega
      exact hzw s W hZ
     obtain ⟨o, ho, hod, how, hrun⟩ := hpure i hiD s W hW (fun k hk hkT => hv k hk (hneed k hkT)) hold
     refine YieldsIf.wpOp (S := fun x => x = W) ho (v := V i) (.inl ⟨how _, fun x hx => by rw [hx]; exact hrun⟩) rfl ?_
     rw [hod, mkN_put _ _ _ (hDn _ (hDm i hiD))]
     refine .inr ⟨hlast0, _, q, rfl, hq, fun k hk => ?_, hstab _ _ _ _ _ (fun j hj e => hDC i j hiD hj e.symm) hZ, fun k hk hl => ?_, fun j hj => ?_, hcl'⟩
     ·rw [hoth _ (by omega)]; exact hst k hk
     ·by_cases e : k = i
      ·subst e; exact updN_self _ _ _
      ·rw [updN_ne (fun z => e (hinj k i hk hiD z))]
       rw [hoth k e] at hl
       exact hv k hk hl
     ·rw [updN_ne (fun e => hj (by rw [e]; exact hDm i hiD))]
      exact hold j hj
    ·obtain ⟨r, rfl⟩ : ∃ r, i = D.length + r := ⟨i - D.length, by omega⟩
     have hr : r < C.length := by omega
     have hqr : q = r := by
      have h2 := hst r hr
      rw [hn] at h2
      have h3 := of_decide_eq_false h2.symm
      rcases Nat.eq_zero_or_pos r with e | e
      ·omega
      ·have h4 := hneed (D.length + (r - 1)) (by have := hchain (r - 1) (by omega); rwa [show D.length + (r - 1) + 1 = D.length + r from by omega] at this)
       rw [hst _ (by omega)] at h4
       have := of_decide_eq_true h4
       omega
     subst hqr
     refine hstep q hr s W (fun k hk hkT => hv k hk (hneed k hkT)) hold hZ _ (fun v W' hZ' => ?_)
     refine .inr ⟨hlast0, _, q + 1, rfl, by omega, fun k hk => ?_, hZ', fun k hk hl => ?_, fun j hj => ?_, hcl'⟩
     ·by_cases e : k = q
      ·subst e; rw [hself, decide_eq_true (by omega)]
      ·rw [hoth _ (by omega), hst k hk]
       by_cases e2 : k < q
       ·rw [decide_eq_true e2, decide_eq_true (by omega)]
       ·rw [decide_eq_false e2, decide_eq_false (by omega)]
     ·rw [updN_ne (hDC k q hk hr)]
      rw [hoth k (by omega)] at hl
      exact hv k hk hl
     ·rw [updN_ne (fun e => hj (by rw [e]; exact hCm q hr))]
      exact hold j hj
 ·intro L a W hL hall hJ
  rcases hJ with ⟨_, _, hq⟩ | ⟨h1, _⟩
  ·exact hq
  ·rw [hall _ (by omega)] at h1; cases h1
end
/-! ModelAdd: assertions are added one by one. (DRAFT: the plain side and the frame build; the walk is not written.) -/
section
open Go.Proofs
theorem mk37_lit (s : Nat → Value) : mkN 37 [] s = { tmps := #[s 0, s 1, s 2, s 3, s 4, s 5, s 6, s 7, s 8, s 9, s 10, s 11, s 12, s 13, s 14, s 15, s 16, s 17, s 18, s 19, s 20, s 21, s 22, s 23, s 24, s 25, s 26, s 27, s 28, s 29, s 30, s 31, s 32, s 33, s 34, s 35, s 36], defers := [] } := rfl
theorem posw_ {u : Int} (h0 : 0 ≤ u) (h1 : u < 9223372036854775808) : wrap64 u = u := by unfold wrap64; omega
theorem run_at_def (ad : Addr) (len cap i : Nat) (hi : i < len) (W : World) : (Instr.indexAt 22 (.slice (some ad) len cap) (.int .i64 (i : Int))).run Tryz.prog W = .ok (.pointer (some (ad.add (i * 3)))) W := by
 have hu : Tryz.prog.underlying 22 = some (.slice (Tryz.prog.elem 22)) := by kernel_rfl
 rw [run_indexAt_slice W 22 ad len cap .i64 (i : Int) hu, if_pos ⟨by omega, by omega⟩]
 have hsz : Tryz.prog.info? (Tryz.prog.elem 22) = Tryz.prog.info? 28 := by kernel_rfl
 obtain ⟨i0, hi0, _, hs0, _⟩ := info_parts info28
 simp [sizeOf, typeInfo, hsz, hi0, hs0, Result.andThen]
def addStep (k : Nat) (ab : Ab) (d : Def) : Option (Bool × Ab) := if d.f2.size = 0 then some (false, ab) else (cook k d.f0 d.f1 d.f2).map fun x => (true, putD ab d.f0 d.f1 x)
def addsAb (k : Nat) : Ab → List Def → Option (List Bool × Ab)
 | ab, [] => some ([], ab)
 | ab, d :: l => (addStep k ab d).bind fun p => (addsAb k p.2 l).map fun q => (p.1 :: q.1, q.2)
def impl_ModelAdd.f (k : Nat) (l : List Def) : Option (List Bool × List Def) :=
 if l.length ≤ 1000000 then (addsAb k ab0 l).bind fun q => if (defsAb q.2).length ≤ 1000000 then some (q.1, defsAb q.2) else none else none
theorem addStep_mono (k : Nat) (ab : Ab) (d : Def) : LeO (addStep k ab d) (addStep (k + 1) ab d) := by
 unfold addStep
 refine LeO.ite (LeO.refl _) ?_
 intro r h
 obtain ⟨x, hx, rfl⟩ := Option.map_eq_some_iff.1 h
 rw [cook_mono _ _ _ _ _ hx]; rfl
theorem addsAb_mono (k : Nat) : ∀ (l : List Def) (ab : Ab), LeO (addsAb k ab l) (addsAb (k + 1) ab l)
 | [], _ => LeO.refl _
 | d :: l, ab => by
  unfold addsAb
  refine LeO.bind (addStep_mono k ab d) (fun p => ?_)
  intro r h
  obtain ⟨y, hy, rfl⟩ := Option.map_eq_some_iff.1 h
  rw [addsAb_mono k l p.2 _ hy]; rfl
theorem impl_ModelAdd.mono : ∀ a0 k, LeO (impl_ModelAdd.f k a0) (impl_ModelAdd.f (k + 1) a0) := by
 intro l k
 unfold impl_ModelAdd.f
 exact LeO.ite (LeO.bind (addsAb_mono k l ab0) (fun q => LeO.refl _)) (LeO.refl _)
/-- cells of assertions and of texts lie as they did: so does what a model says -/
theorem AsrV.kept2 {w w' : World} {a : Nat} {x : Asr} (h : AsrV w a x) (hk : ∀ (g : Nat) (cs : Array Value) (t : TypeId), t = 109 ∨ t = 9 → w.heap[g]? = some (.cells cs t (0, 0)) → w'.heap[g]? = w.heap[g]?) : AsrV w' a x := by
 obtain ⟨cs, v, h1, h2, h3, h4⟩ := h
 exact ⟨cs, v, (hk _ _ _ (.inl rfl) h1).trans h1, h2, h3, h4.keep (fun g cur hg => hk g cur _ (.inr rfl) hg)⟩
theorem AbOf.kept2 {w w' : World} (hk : ∀ (g : Nat) (cs : Array Value) (t : TypeId), t = 109 ∨ t = 9 → w.heap[g]? = some (.cells cs t (0, 0)) → w'.heap[g]? = w.heap[g]?) {st : MSt} {ab : Ab} (h : AbOf w st ab) : AbOf w' st ab :=
 Two.imp (fun _ _ h1 => ⟨h1.1, Two.imp (fun _ _ h2 => ⟨h2.1, h2.2.kept2 hk⟩) h1.2⟩) h
/-- only a block of bools turns, or none that was there: the model lies as it did -/
theorem MAb.grown {w w' : World} {M : Nat} {st : MSt} {ab : Ab} (h : MAb w M st ab) {ob : Option Nat} (hg : ∀ k, k < w.heap.size → some k ≠ ob → w'.heap[k]? = w.heap[k]?) (ho : ∀ k, ob = some k → ∃ cs, w.heap[k]? = some (.cells cs 4 (0, 0))) : MAb w' M st ab := by
 have key : ∀ k, k < w.heap.size → (∀ cs, w.heap[k]? ≠ some (.cells cs 4 (0, 0))) → w'.heap[k]? = w.heap[k]? := fun k hk hn => hg k hk (fun e => by
  obtain ⟨cs, hc⟩ := ho k e.symm
  exact hn cs hc)
 have hsm : ∀ {m : Nat} {l : List (ByteArray × Value)}, SM w m l → SM w' m l := fun {m l} hm => hm.keep (key m hm.lt (fun cs hc => hm.cell _ _ _ hc))
 refine ⟨⟨hsm h.mm.top, fun x hx => hsm (h.mm.sub x hx), h.mm.nodup⟩, h.ab.kept2 (fun g cs t ht hc => key g (Array.getElem?_eq_some_iff.1 hc).1 (fun cs2 hc2 => ?_))⟩
 rw [hc] at hc2
 injection hc2 with e
 injection e with _ e2
 rcases ht with rfl | rfl <;> exact absurd e2 (by decide)
theorem bools_turn {w w' : World} {bs : List Nat} {n : Nat} {v : Value} {l : List Bool} (h : Kd.R Kd.bool 4 w n (fun _ => True) v l) (hm : MTurn bs w w') (hb : ∀ m ∈ bs, ∃ es c, w.heap[m]? = some (.map es c)) : Kd.R Kd.bool 4 w' n (fun _ => True) v l :=
 Kd.R_mono (Kd.R_move (Kd.R_bound h) (fun k hk2 => by
  obtain ⟨_, _, _, q, hq, cs, hc⟩ := hk2
  refine hm.block k (Array.getElem?_eq_some_iff.1 hc).1 (fun hx => ?_)
  obtain ⟨es, c, h2⟩ := hb k hx
  rw [hc] at h2
  cases h2)) (fun _ _ => trivial)
theorem mab_maps {w : World} {M : Nat} {st : MSt} {ab : Ab} (h : MAb w M st ab) : ∀ m ∈ M :: blks st, ∃ es c, w.heap[m]? = some (.map es c) := by
 intro m hm
 rcases List.mem_cons.1 hm with rfl | hm
 ·obtain ⟨es, c, h1, _⟩ := h.mm.top
  exact ⟨es, c, h1⟩
 ·obtain ⟨x, hx, rfl⟩ := List.mem_map.1 hm
  obtain ⟨es, c, h1, _⟩ := h.mm.sub x hx
  exact ⟨es, c, h1⟩
theorem infoB_ : (Tryz.prog.info? 4).map (fun i => (i.zero, i.size, i.bytes)) = some (some (.bool false), 1, 1) := by kernel_rfl
theorem add_step (k : Nat) {W : World} {M : Nat} {st : MSt} {ab ab2 : Ab} {d : Def} {b : Bool} (hM : MAb W M st ab) (htab : StrTab W) (h : addStep k ab d = some (b, ab2)) :
  Calls Tryz.prog 32 #[.map (some M), .string d.f0, .string d.f1, .string d.f2] W fun e w' => e = .returned (.bool b) ∧ ∃ st', MAb w' M st' ab2 ∧ (∀ n ∈ blks st', n ∈ blks st ∨ W.heap.size ≤ n) ∧ MTurn (M :: blks st) W w' := by
 unfold addStep at h
 by_cases hz : d.f2.size = 0
 ·rw [if_pos hz] at h
  obtain ⟨rfl, rfl⟩ : false = b ∧ ab = ab2 := by
   have := Option.some.inj h
   injection this with e1 e2
   exact ⟨e1, e2⟩
  have e : d.f2 = ⟨#[]⟩ := by
   cases hd : d.f2 with
   | mk x =>
    rw [hd] at hz
    congr 1
    exact Array.eq_empty_of_size_eq_zero hz
  rw [e]
  refine (def_none M d.f0 d.f1 W).mono ?_
  rintro e w' ⟨he, rfl⟩
  exact ⟨he, st, hM, fun n hn => .inl hn, MTurn.ofBelow (Below.refl _ _)⟩
 ·rw [if_neg hz] at h
  obtain ⟨x, hx, hq⟩ := Option.map_eq_some_iff.1 h
  injection hq with e1 e2
  subst e1
  subst e2
  refine (add_any k hM.mm htab d.f0 d.f1 d.f2 x hx).mono ?_
  intro e w' hd
  exact hM.def_ hd
set_option maxHeartbeats 4000000 in
set_option maxRecDepth 100000 in
theorem model_add (k : Nat) {w : World} (htab : StrTab w) (a : Option Addr) (c : Nat) (l : List Def) (ha : Kd.C k28 w a l.length l) (hc : l.length ≤ c) (bF : List Bool) (abF : Ab) (hl : l.length ≤ 1000000) (hA : addsAb k ab0 l = some (bF, abF)) (hF : (defsAb abF).length ≤ 1000000) :
  Calls Tryz.prog 16 #[.slice a l.length c] w fun e w' => ∃ v u, e = .returned (.tuple #[v, u]) ∧ Kd.R Kd.bool 4 w' w.heap.size (fun _ => True) v bF ∧ (∃ m, m.Perm (defsAb abF) ∧ Kd.R k28 28 w' w.heap.size (fun _ => True) u m) ∧ Below w.heap.size w w' := by
 have hnm := Aside0.mk (new_model w)
 have HC := Aside0.mk ha
 have HA0 := Aside0.mk hA
 have HF := Aside0.mk hF
 have HT := Aside0.mk htab
 have HLN := Aside0.mk hl
 clear ha hA hF htab hl
 go_enter Tryz.func16, Tryz.ntmps16
 go_wp2_with (go_at_call 31; refine hnm.out.mono ?_; rintro e w2 ⟨rfl, ⟨st, hM, hbl⟩, hb⟩; have HB2 := Aside0.mk hb; have HBL := Aside0.mk hbl; have HM := Aside0.mk hM; clear hM hbl hb)
 go_loopw [5, 6] (fun v5 v6 wr => ∃ (p q : List Def) (ab : Ab) (st : MSt) (dn rest : List Bool), v6 = .int .i64 (p.length : Int) ∧ Aside0 (l = p ++ q) ∧ Aside0 (addsAb k ab q = some (rest, abF)) ∧ Aside0 (bF = dn ++ rest) ∧ Aside0 (dn.length = p.length) ∧ Aside0 (MAb wr w.heap.size st ab) ∧ Aside0 (∀ n ∈ w.heap.size :: blks st, w.heap.size ≤ n) ∧ Aside0 (Kd.R Kd.bool 4 wr w.heap.size (fun _ => True) v5 dn) ∧ Aside0 (Below w.heap.size w wr)) (fun _ v6 _ => l.length - (intOf v6).toNat)
 case atStart => exact ⟨[], l, ab0, st, [], bF, rfl, ⟨rfl⟩, HA0, ⟨rfl⟩, ⟨rfl⟩, HM, HBL, ⟨Kd.R_nil _ _ _ _ _⟩, HB2⟩
 case round =>
  clear HM HBL HB2
  obtain ⟨p, q, ab, st, dn, rest, rfl, HL, HA, HD, HDN, HM, HBL, HO, HB⟩ := hrel
  cases q with
  | nil =>
   have hrest : rest = [] ∧ ab = abF := by
    have := HA.out
    unfold addsAb at this
    have := Option.some.inj this
    injection this with e1 e2
    exact ⟨e1.symm, e2⟩
   obtain ⟨rfl, rfl⟩ := hrest
   have hlen : ¬ ((p.length : Int) < (l.length : Int)) := by rw [HL.out]; simp
   have HDF := Aside0.mk (model_defs HM.out HF.out)
   go_wp2_with (go_at_call 26; refine HDF.out.mono ?_; rintro e w3 ⟨v, m, rfl, hl, hR, hb⟩; have HM3 := Aside0.mk hl; have HR := Aside0.mk hR; have HB3 := Aside0.mk hb; clear hl hR hb)
   go_ret2
   have hd := HD.out
   rw [List.append_nil] at hd
   subst hd
   exact ⟨_, v, rfl, Kd.R_below HO.out HB3.out, ⟨m, HM3.out, Kd.R_lower HR.out HB.out.size⟩, HB.out.trans (HB3.out.mono HB.out.size)⟩
  | cons d q =>
   obtain ⟨⟨b, ab2⟩, hs, h2⟩ := Option.bind_eq_some_iff.1 (show (addStep k ab d).bind (fun p => (addsAb k p.2 q).map fun q => (p.1 :: q.1, q.2)) = some (rest, abF) from HA.out)
   obtain ⟨⟨rest2, abE⟩, h3, h4⟩ := Option.map_eq_some_iff.1 h2
   obtain ⟨rfl, rfl⟩ : b :: rest2 = rest ∧ abE = abF := by
    injection h4 with e1 e2
    exact ⟨e1, e2⟩
   have HA2 := Aside0.mk h3
   have HAD := Aside0.mk (fun (W : World) (hM : MAb W w.heap.size st ab) (hT : StrTab W) => add_step k hM hT hs)
   clear hs h2 h3 h4 HA
   have hpl := congrArg List.length HL.out
   rw [List.length_append, List.length_cons] at hpl
   have hlen : (p.length : Int) < (l.length : Int) := by omega
   have hp0 : 0 ≤ (p.length : Int) := by omega
   obtain ⟨ad, hsl, hx0, hx1, hx2⟩ := at_T28 HC.out (p.length : Int) hp0 hlen
   have hrd : rd_T28 l (p.length : Int) = d := by rw [HL.out]; exact (show (p ++ d :: q).getD ((p.length : Int)).toNat _ = d from by simp [List.getD])
   rw [hrd] at hx0 hx1 hx2
   subst hsl
   replace hx0 := (HB.out.cell (World.block_lt_of_cell? w _ hx0)).trans hx0
   replace hx1 := (HB.out.cell (World.block_lt_of_cell? w _ hx1)).trans hx1
   replace hx2 := (HB.out.cell (World.block_lt_of_cell? w _ hx2)).trans hx2
   have HPL := Aside0.mk hpl
   clear hpl hrd
   rw [Int.toNat_natCast] at hx0 hx1 hx2
   have hlb : decide ((p.length : Int) < (l.length : Int)) = true := decide_eq_true hlen
   replace hp0 := eq_true hp0
   replace hlen := eq_true hlen
   go_upto_region 6 with (fail)
   have HMD := Aside0.mk (show MAb wr.drew w.heap.size st ab from ⟨⟨HM.out.mm.top, HM.out.mm.sub, HM.out.mm.nodup⟩, HM.out.ab.kept (fun _ _ _ _ => rfl)⟩)
   have HBD := Aside0.mk (show Below w.heap.size w wr.drew from ⟨HB.out.os, HB.out.tape, HB.out.output, HB.out.size, HB.out.block⟩)
   have HOD := Aside0.mk (show Kd.R Kd.bool 4 wr.drew w.heap.size (fun _ => True) u5 dn from Kd.R_drew HO.out)
   have HTD := Aside0.mk (show StrTab wr.drew from strtab_below HT.out ⟨HBD.out.os, HBD.out.tape, HBD.out.output, HBD.out.size, HBD.out.block⟩)
   have HLT := Aside0.mk (show (dn.length + 1) * 1 ≤ 140737488355328 from by have := HDN.out; have := HPL.out; have := HLN.out; omega)
   have hix := run_at_def ad l.length c p.length (by have := HPL.out; omega)
   let PA_ : World → Prop := fun w' => ∃ st', MAb w' w.heap.size st' ab2 ∧ (∀ n ∈ blks st', n ∈ blks st ∨ wr.drew.heap.size ≤ n) ∧ Kd.R Kd.bool 4 w' w.heap.size (fun _ => True) u5 dn ∧ Below w.heap.size w w' ∧ wr.drew.heap.size ≤ w'.heap.size
   let PB_ : Value → World → Prop := fun v w' => ∃ st', MAb w' w.heap.size st' ab2 ∧ (∀ n ∈ blks st', n ∈ blks st ∨ wr.drew.heap.size ≤ n) ∧ Kd.R Kd.bool 4 w' w.heap.size (fun _ => True) v (dn ++ [b]) ∧ Below w.heap.size w w'
   refine at_mkN (n := 37) (d := []) rfl rfl ?_
   refine region_chain (by kernel_rfl) [14, 15, 16, 17, 18, 19, 20, 21, 22, 23, 24, 25, 26, 27, 28, 29, 30] [31, 32, 33] (fun k_ => ([u5, (.map (some w.heap.size)), (.slice (some ad) l.length c), (.int .i64 (p.length : Int)), (.pointer (some (ad.add (p.length * 3)))), (.pointer (some (ad.add (p.length * 3)))), (.string d.f0), (.slice (some ad) l.length c), (.int .i64 (p.length : Int)), (.pointer (some (ad.add (p.length * 3)))), (.pointer (some ⟨(ad.add (p.length * 3)).block, (ad.add (p.length * 3)).off + 1, none⟩)), (.string d.f1), (.slice (some ad) l.length c), (.int .i64 (p.length : Int)), (.pointer (some (ad.add (p.length * 3)))), (.pointer (some ⟨(ad.add (p.length * 3)).block, (ad.add (p.length * 3)).off + 2, none⟩)), (.string d.f2)] : List Value).getD k_ undef) (fun i_ s_ W_ => match i_ with | 0 => W_ = wr.drew | 1 => s_ 31 = .bool b ∧ PA_ W_ | 2 => ∃ W0, PA_ W0 ∧ s_ 32 = .slice (some ⟨W0.heap.size, 0, none⟩) 1 1 ∧ W_ = W0.alloc (.cells #[.bool b] 4) | _ => PB_ (s_ 33) W_) [[], [], [], [], [2, 3], [4], [5], [], [], [7, 8], [9], [10], [], [], [12, 13], [14], [15], [1, 6, 11, 16], [17], [0, 18, 17], [19, 19, 0, 1, 2, 3, 4, 5, 6, 7, 8, 9, 10, 11, 12, 13, 14, 15, 16, 17, 18, 19]] (fun i_ => decide (i_ = 0)) (by kernel_rfl) (by decide) rfl (by decide) (by decide) (by decide) (by decide) (by decide) (by decide) ?_ ?_ ?_ ?_ ?_ ?_
   ·intro i_ hi_ s_ W_ hW_ hg_ ho_
    rcases (show i_ = 0 ∨ i_ = 1 ∨ i_ = 2 ∨ i_ = 3 ∨ i_ = 4 ∨ i_ = 5 ∨ i_ = 6 ∨ i_ = 7 ∨ i_ = 8 ∨ i_ = 9 ∨ i_ = 10 ∨ i_ = 11 ∨ i_ = 12 ∨ i_ = 13 ∨ i_ = 14 ∨ i_ = 15 ∨ i_ = 16 from by have : i_ < 17 := hi_; omega) with rfl | rfl | rfl | rfl | rfl | rfl | rfl | rfl | rfl | rfl | rfl | rfl | rfl | rfl | rfl | rfl | rfl
    ·refine ⟨_, rfl, rfl, fun _ => rfl, ?_⟩
     have g5_ : s_ 5 = _ := ho_ 5 (by decide)
     clear hg_ ho_
     first | (simp [execOp, mkN_eval, Result.andThen, *]; done) | (go_simp; simp [mkN_get, Result.andThen, *]; done)
    ·refine ⟨_, rfl, rfl, fun _ => rfl, ?_⟩
     have g4_ : s_ 4 = _ := ho_ 4 (by decide)
     obtain rfl := hW_ rfl
     clear hg_ ho_
     first | (simp [execOp, mkN_eval, Result.andThen, *]; done) | (go_simp; simp [mkN_get, Result.andThen, *]; done)
    ·refine ⟨_, rfl, rfl, fun _ => rfl, ?_⟩
     have g0_ : s_ 0 = _ := ho_ 0 (by decide)
     obtain rfl := hW_ rfl
     clear hg_ ho_
     first | (simp [execOp, mkN_eval, Result.andThen, *]; done) | (go_simp; simp [mkN_get, Result.andThen, *]; done)
    ·refine ⟨_, rfl, rfl, fun _ => rfl, ?_⟩
     have g6_ : s_ 6 = _ := ho_ 6 (by decide)
     obtain rfl := hW_ rfl
     clear hg_ ho_
     first | (simp [execOp, mkN_eval, Result.andThen, *]; done) | (go_simp; simp [mkN_get, Result.andThen, *]; done)
    ·refine ⟨_, rfl, rfl, fun _ => rfl, ?_⟩
     have g16_ : s_ 16 = (.slice (some ad) l.length c) := hg_ 2 (by decide) (by decide)
     have g17_ : s_ 17 = (.int .i64 (p.length : Int)) := hg_ 3 (by decide) (by decide)
     obtain rfl := hW_ rfl
     clear hg_ ho_
     first | (simp [execOp, mkN_eval, Result.andThen, *]; done) | (go_simp; simp [mkN_get, Result.andThen, *]; done)
    ·refine ⟨_, rfl, rfl, fun _ => rfl, ?_⟩
     have g18_ : s_ 18 = (.pointer (some (ad.add (p.length * 3)))) := hg_ 4 (by decide) (by decide)
     obtain rfl := hW_ rfl
     clear hg_ ho_
     first | (simp [execOp, mkN_eval, Result.andThen, *]; done) | (go_simp; simp [mkN_get, Result.andThen, *]; done)
    ·refine ⟨_, rfl, rfl, fun _ => rfl, ?_⟩
     have g19_ : s_ 19 = (.pointer (some (ad.add (p.length * 3)))) := hg_ 5 (by decide) (by decide)
     obtain rfl := hW_ rfl
     have := hx0
     clear hg_ ho_
     first | (simp [execOp, mkN_eval, Result.andThen, *]; done) | (go_simp; simp [mkN_get, Result.andThen, *]; done)
    ·refine ⟨_, rfl, rfl, fun _ => rfl, ?_⟩
     have g0_ : s_ 0 = _ := ho_ 0 (by decide)
     obtain rfl := hW_ rfl
     clear hg_ ho_
     first | (simp [execOp, mkN_eval, Result.andThen, *]; done) | (go_simp; simp [mkN_get, Result.andThen, *]; done)
    ·refine ⟨_, rfl, rfl, fun _ => rfl, ?_⟩
     have g6_ : s_ 6 = _ := ho_ 6 (by decide)
     obtain rfl := hW_ rfl
     clear hg_ ho_
     first | (simp [execOp, mkN_eval, Result.andThen, *]; done) | (go_simp; simp [mkN_get, Result.andThen, *]; done)
    ·refine ⟨_, rfl, rfl, fun _ => rfl, ?_⟩
     have g21_ : s_ 21 = (.slice (some ad) l.length c) := hg_ 7 (by decide) (by decide)
     have g22_ : s_ 22 = (.int .i64 (p.length : Int)) := hg_ 8 (by decide) (by decide)
     obtain rfl := hW_ rfl
     clear hg_ ho_
     first | (simp [execOp, mkN_eval, Result.andThen, *]; done) | (go_simp; simp [mkN_get, Result.andThen, *]; done)
    ·refine ⟨_, rfl, rfl, fun _ => rfl, ?_⟩
     have g23_ : s_ 23 = (.pointer (some (ad.add (p.length * 3)))) := hg_ 9 (by decide) (by decide)
     obtain rfl := hW_ rfl
     clear hg_ ho_
     first | (simp [execOp, mkN_eval, Result.andThen, *]; done) | (go_simp; simp [mkN_get, Result.andThen, *]; done)
    ·refine ⟨_, rfl, rfl, fun _ => rfl, ?_⟩
     have g24_ : s_ 24 = (.pointer (some ⟨(ad.add (p.length * 3)).block, (ad.add (p.length * 3)).off + 1, none⟩)) := hg_ 10 (by decide) (by decide)
     obtain rfl := hW_ rfl
     have := hx1
     clear hg_ ho_
     first | (simp [execOp, mkN_eval, Result.andThen, *]; done) | (go_simp; simp [mkN_get, Result.andThen, *]; done)
    ·refine ⟨_, rfl, rfl, fun _ => rfl, ?_⟩
     have g0_ : s_ 0 = _ := ho_ 0 (by decide)
     obtain rfl := hW_ rfl
     clear hg_ ho_
     first | (simp [execOp, mkN_eval, Result.andThen, *]; done) | (go_simp; simp [mkN_get, Result.andThen, *]; done)
    ·refine ⟨_, rfl, rfl, fun _ => rfl, ?_⟩
     have g6_ : s_ 6 = _ := ho_ 6 (by decide)
     obtain rfl := hW_ rfl
     clear hg_ ho_
     first | (simp [execOp, mkN_eval, Result.andThen, *]; done) | (go_simp; simp [mkN_get, Result.andThen, *]; done)
    ·refine ⟨_, rfl, rfl, fun _ => rfl, ?_⟩
     have g26_ : s_ 26 = (.slice (some ad) l.length c) := hg_ 12 (by decide) (by decide)
     have g27_ : s_ 27 = (.int .i64 (p.length : Int)) := hg_ 13 (by decide) (by decide)
     obtain rfl := hW_ rfl
     clear hg_ ho_
     first | (simp [execOp, mkN_eval, Result.andThen, *]; done) | (go_simp; simp [mkN_get, Result.andThen, *]; done)
    ·refine ⟨_, rfl, rfl, fun _ => rfl, ?_⟩
     have g28_ : s_ 28 = (.pointer (some (ad.add (p.length * 3)))) := hg_ 14 (by decide) (by decide)
     obtain rfl := hW_ rfl
     clear hg_ ho_
     first | (simp [execOp, mkN_eval, Result.andThen, *]; done) | (go_simp; simp [mkN_get, Result.andThen, *]; done)
    ·refine ⟨_, rfl, rfl, fun _ => rfl, ?_⟩
     have g29_ : s_ 29 = (.pointer (some ⟨(ad.add (p.length * 3)).block, (ad.add (p.length * 3)).off + 2, none⟩)) := hg_ 15 (by decide) (by decide)
     obtain rfl := hW_ rfl
     have := hx2
     clear hg_ ho_
     first | (simp [execOp, mkN_eval, Result.andThen, *]; done) | (go_simp; simp [mkN_get, Result.andThen, *]; done)
   ·exact rfl
   ·exact fun _ _ h => h
   ·intro i_ s_ x_ v_ W_ hx_ hZ_
    have e31_ : updN s_ x_ v_ 31 = s_ 31 := updN_ne (hx_ 0 (by decide))
    have e32_ : updN s_ x_ v_ 32 = s_ 32 := updN_ne (hx_ 1 (by decide))
    have e33_ : updN s_ x_ v_ 33 = s_ 33 := updN_ne (hx_ 2 (by decide))
    rcases (show i_ = 0 ∨ i_ = 1 ∨ i_ = 2 ∨ ∃ q_, i_ = q_ + 3 from by by_cases h : 3 ≤ i_; exact .inr (.inr (.inr (⟨i_ - 3, by omega⟩))); omega) with rfl | rfl | rfl | ⟨q_, rfl⟩
    ·exact hZ_
    ·simpa only [e31_, e32_, e33_] using hZ_
    ·simpa only [e31_, e32_, e33_] using hZ_
    ·simpa only [e31_, e32_, e33_] using hZ_
   ·intro i_ hi_ s_ W_ hg_ ho_ hZ_ K_ hK_
    rcases (show i_ = 0 ∨ i_ = 1 ∨ i_ = 2 from by have : i_ < 3 := hi_; omega) with rfl | rfl | rfl
    ·have g15_ : s_ 15 = (.map (some w.heap.size)) := hg_ 1 (by decide) (by decide)
     have g20_ : s_ 20 = (.string d.f0) := hg_ 6 (by decide) (by decide)
     have g25_ : s_ 25 = (.string d.f1) := hg_ 11 (by decide) (by decide)
     have g30_ : s_ 30 = (.string d.f2) := hg_ 16 (by decide) (by decide)
     obtain rfl : W_ = wr.drew := hZ_
     clear hg_ ho_
     refine wpOp_step rfl (fun K' hK => ?_)
     go_simp
     simp [mkN_get, g15_, g20_, g25_, g30_]
     go_wp2_with (go_at_call 32; refine (HAD.out wr.drew HMD.out HTD.out).mono ?_; rintro e w3 ⟨rfl, st2, hM3, hb3, ht3⟩)
     exact ⟨updN_self _ _ _, st2, hM3, hb3, bools_turn HOD.out ht3 (mab_maps HMD.out), ht3.toBelow HBD.out HBL.out, ht3.size⟩
    ·skip
     obtain ⟨g31_, hPA⟩ := (show s_ 31 = .bool b ∧ PA_ W_ from hZ_)
     clear hg_ ho_
     refine wpOp_step rfl (fun K' hK => ?_)
     go_simp
     simp [mkN_get, g31_]
     refine hK _ _ ?_
     show K_ ((mkN 37 [] s_).put (some 32) (.slice (some ⟨W_.heap.size, 0, none⟩) 1 1)) (W_.alloc (.cells #[.bool b] 4))
     rw [mkN_put _ _ _ (by decide)]
     exact hK_ _ _ ⟨W_, hPA, updN_self _ _ _, rfl⟩
    ·have g14_ : s_ 14 = u5 := hg_ 0 (by decide) (by decide)
     obtain ⟨W0, hPA, g32_, rfl⟩ := (show ∃ W0, PA_ W0 ∧ s_ 32 = .slice (some ⟨W0.heap.size, 0, none⟩) 1 1 ∧ W_ = W0.alloc (.cells #[.bool b] 4) from hZ_)
     obtain ⟨st2, hM3, hb3, hO3, hB3, hsz3⟩ := hPA
     clear hg_ ho_
     refine wpOp_step rfl (fun K' hK => ?_)
     refine Kd.R_append_step Kd.bool (w0 := w) w.heap.size rfl (.tmp 14) (.tmp 32) 37 4 (.bool false) 1 rfl Tryz.underlying37 infoB_ rfl (by decide) (by omega) u5 dn b [.bool b] (fun _ => True) (fun _ => False) ?aV ?aX ?aP (fun _ hk => hk.elim) ?aF ?aO ?aB ?aS ?aL ?_
     case aV => exact (mkN_eval s_ 14 (by decide)).trans g14_
     case aX => exact (mkN_eval s_ 32 (by decide)).trans g32_
     case aP => exact rfl
     case aF => exact fun _ _ => trivial
     case aO => exact hO3
     case aB => exact hB3
     case aS => exact below_size hB3
     case aL => exact HLT.out
     intro v2 w4 hR4 hB4 hG4 hat4
     refine hK _ _ ?_
     show K_ ((mkN 37 [] s_).put (some 33) v2) w4
     rw [mkN_put _ _ _ (by decide)]
     refine hK_ _ _ ?_
     show PB_ (updN s_ 33 v2 33) w4
     rw [updN_self]
     exact ⟨st2, hM3.grown (fun k hk hne => hG4.block k hk hne) (fun k hk => by
      obtain ⟨_, _, _, q, hq, cs, hc⟩ := (Kd.R_bound hO3).1 k hk
      rcases List.mem_cons.1 hq with rfl | hq
      ·exact ⟨cs, hc⟩
      ·cases hq), hb3, hR4, hB4⟩
   ·intro s_ W_ hZ_ hv_ ho_
    have HPB := Aside0.mk (show PB_ (s_ 33) W_ from hZ_)
    refine wpOp_step rfl (fun K' hK => ?_)
    go_simp
    simp [mkN_get]
    show K' ((mkN 37 [] s_).put (some 5) (s_ 33)) W_
    rw [mkN_put _ _ _ (by decide)]
    refine hK _ _ ?_
    rw [mk37_lit, updN_self]
    repeat rw [updN_ne (by decide)]
    rw [ho_ 0 (by decide), ho_ 1 (by decide), ho_ 2 (by decide), ho_ 3 (by decide), ho_ 4 (by decide), ho_ 6 (by decide), ho_ 7 (by decide), ho_ 8 (by decide), ho_ 9 (by decide), ho_ 10 (by decide), ho_ 11 (by decide), ho_ 12 (by decide), ho_ 13 (by decide), ho_ 34 (by decide), ho_ 35 (by decide), ho_ 36 (by decide)]
    simp only [Array.getD_eq_getD_getElem?, List.getElem?_toArray, List.getElem?_cons_zero, List.getElem?_cons_succ, Option.getD_some]
    clear ho_ hv_ hK hZ_ hix hx0 hx1 hx2
    generalize s_ 33 = v33_ at *
    obtain ⟨st2, hM3, hb3, hR3, hB3⟩ := HPB.out
    have HM3 := Aside0.mk hM3
    have HBL3 := Aside0.mk (show ∀ n ∈ w.heap.size :: blks st2, w.heap.size ≤ n from fun n hn => by
     rcases List.mem_cons.1 hn with rfl | hn
     ·exact Nat.le_refl _
     ·rcases hb3 n hn with h | h
      ·exact HBL.out n (List.mem_cons_of_mem _ h)
      ·exact Nat.le_trans HBD.out.size h)
    have HR3 := Aside0.mk hR3
    have HB3 := Aside0.mk hB3
    clear hM3 hb3 hR3 hB3 HPB
    clear PA_ PB_
    go_wp2
    go_roundw
    case rel => exact ⟨p ++ [d], q, ab2, st2, dn ++ [b], rest2, by have h1 := HPL.out; have h2 := HLN.out; rw [List.length_append, List.length_singleton, posw_ (by omega) (by omega)]; simp, ⟨by rw [HL.out]; simp⟩, HA2, ⟨by rw [HD.out]; simp⟩, ⟨by have := HDN.out; simp; exact this⟩, HM3, HBL3, HR3, HB3⟩
    case measure =>
     have h1 := HPL.out
     have h2 := HLN.out
     rw [posw_ (by omega) (by omega)]
     simp only [intOf]
     omega
end
theorem impl_ModelAdd.calls (k : Nat) (A0 : Option Addr) (c0 : Nat) (a0 : List Def) (r0 : List Bool) (r1 : List Def) (w : World) (hprem : Prem w) (hr0 : Kd.C k28 w A0 a0.length a0) (hc0 : a0.length ≤ c0) (h : impl_ModelAdd.f k a0 = some (r0, r1)) :
  Calls Tryz.prog 16 #[.slice A0 a0.length c0] w fun e w' => ∃ v0_ v1_, e = .returned (.tuple #[v0_, v1_]) ∧ Kd.R Kd.bool 4 w' w.heap.size (fun _ => True) v0_ r0 ∧ (∃ l, l.Perm r1 ∧ Kd.R k28 28 w' w.heap.size (fun _ => True) v1_ l) ∧ Below w.heap.size w w' := by
 unfold impl_ModelAdd.f at h
 by_cases hl : a0.length ≤ 1000000
 ·rw [if_pos hl] at h
  obtain ⟨⟨b, ab⟩, h1, h2⟩ := Option.bind_eq_some_iff.1 h
  by_cases hF : (defsAb ab).length ≤ 1000000
  ·simp only [if_pos hF] at h2
   injection Option.some.inj h2 with e1 e2
   subst e1
   subst e2
   exact model_add k hprem.2 A0 c0 a0 hr0 hc0 b ab hl h1 hF
  ·simp only [if_neg hF] at h2
   cases h2
 ·rw [if_neg hl] at h
  cases h

end Go.Proofs.YtjglpjlbnmpdfaaGreatDoor.PFnModelAdd
