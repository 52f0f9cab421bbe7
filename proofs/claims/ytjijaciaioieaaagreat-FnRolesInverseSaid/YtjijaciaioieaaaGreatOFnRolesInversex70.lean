/- The machine side of laws.FnRolesInverse: the law itself answers what its Lean function answers. No condition beyond what each theorem says. -/
import Derived.Test.YtjijaciaioieaaaGreatOFnRolesOrderx1
import Derived.Test.YtjijaciaioieaaaGreatOFnRolesOrderx2
import Derived.Test.YtjijaciaioieaaaGreatOFnRolesOrderx85
import Derived.Test.YtjijaciaioieaaaGreatOFnRolesOrderx95
import Derived.Test.YtjijaciaioieaaaGreatOFnRolesOrderx96
import Derived.Test.YtjijaciaioieaaaGreatBase
namespace Go.Proofs.YtjijaciaioieaaaGreat.PFnRolesOrder
open Go.RowKit Go.Proofs.YtjijaciaioieaaaGreatW.PrintWords Go.Proofs.YtjijaciaioieaaaGreatW.PrintLast Go.Proofs.YtjijaciaioieaaaGreatW.PrintMore
attribute [local go_sem] max2_int min2_int max_two min_two max_three min_three max_four min_four   -- for this text's walks alone
set_option linter.unusedVariables false
set_option linter.unusedSimpArgs false
def inverse_rest.T (b : Bool) (D : List S54) (a c d : ByteArray) : Bool :=
 ((decide (c ∈ rolesE (deedsE b (fun _ => []) D (kd b d)) a) == decide (a ∈ usersE (deedsE b (fun _ => []) D (kd b d)) c)) && (decide (c ∈ impl (rolesE (deedsE b (fun _ => []) D (kd b d))) 20 a) == decide (a ∈ impl (usersE (deedsE b (fun _ => []) D (kd b d))) 20 c)))
def inverse_rest.f (k : Nat) (b : Bool) (l : List S28) (a c d : ByteArray) : Option Bool := (laws_added.f k l).bind fun D => if (okRun D && inverse_rest.T b D a c d) = true then some true else none
theorem inverse_rest.mono : ∀ b l a c d k, LeO (inverse_rest.f k b l a c d) (inverse_rest.f (k + 1) b l a c d) := fun b l a c d k r h => by
 unfold inverse_rest.f at h ⊢
 obtain ⟨D, h1, h2⟩ := Option.bind_eq_some_iff.1 h
 rw [laws_added.mono l k _ h1]
 exact h2
/-! As region_mix2; a read may be guarded. operations that only read (rd: where they stand, their slots), and a chain wherever it stands (ch), the last one last. -/
section
variable {P : Program} {ops : Array Oper} {Q : Exit → Act → World → Prop}
theorem region_mix3 {n id : Nat} {d : List Deferred} {t : Nat → Value} {w : World} (hm : P.follows .mixedOrders = true) (rd : List (Nat × Nat)) (ch : List Nat) (Cs : Nat → Option Nat) (V : Nat → Value) (Z : Nat → (Nat → Value) → World → Prop) (T : List (List Nat))
  (hT : (List.range ops.size).map (fun i => match ops[i]? with | some o => o.after.toList.filterMap (fun e => if Region.binds .any e = true then some e.on else none) | none => []) = T)
  (hlow : (T.zipIdx.all fun p => p.1.all fun n => decide (n < p.2)) = true)
  (hsz : ops.size = rd.length + ch.length + 1) (hcov : ∀ i, i < rd.length + ch.length → (∃ k, k < rd.length ∧ (rd.getD k (0, 0)).1 = i) ∨ ∃ k, k < ch.length ∧ ch.getD k 0 = i)
  (hnr : (rd.map (·.1)).Nodup) (hns : (rd.map (·.2)).Nodup) (hnc : ch.Nodup) (hrc : ∀ k, k < rd.length → ∀ j, j < ch.length → (rd.getD k (0, 0)).1 ≠ ch.getD j 0) (hcs : ∀ k, k < rd.length → ∀ j, j < ch.length → Cs j ≠ some (rd.getD k (0, 0)).2)
  (hrl : ∀ k, k < rd.length → (rd.getD k (0, 0)).1 < rd.length + ch.length) (hcl : ∀ k, k < ch.length → ch.getD k 0 < rd.length + ch.length) (hDn : ∀ k, k < rd.length → (rd.getD k (0, 0)).2 < n)
  (hchain : ∀ i, i < ch.length - 1 → ch.getD i 0 ∈ T.getD (ch.getD (i + 1) 0) [] ∨ ∃ m ∈ T.getD (ch.getD (i + 1) 0) [], ch.getD i 0 ∈ T.getD m []) (hfull : ∀ k, k < rd.length + ch.length → k ∈ T.getD (rd.length + ch.length) [])
  (hpure : ∀ i, i < rd.length → ∀ s W q, q ≤ ch.length → Z q s W → (∀ r, r < q → (rd.getD i (0, 0)).1 ∉ T.getD (ch.getD r 0) []) → (∀ r, r < ch.length → ch.getD r 0 ∈ T.getD (rd.getD i (0, 0)).1 [] → r < q) → (∀ k, k < rd.length → (rd.getD k (0, 0)).1 ∈ T.getD (rd.getD i (0, 0)).1 [] → s (rd.getD k (0, 0)).2 = V (rd.getD k (0, 0)).1) → (∀ j, j ∉ rd.map (·.2) → (∀ k, k < ch.length → Cs k ≠ some j) → s j = t j) →
   ∃ o, ops[(rd.getD i (0, 0)).1]? = some o ∧ o.dst = some (rd.getD i (0, 0)).2 ∧ Region.wanted o (yielded ops (mkN n d s).tmps) = true ∧ (execOp (mkN n d s).eval o).run P W = .ok (.value (V (rd.getD i (0, 0)).1)) W)
  (hz0 : Z 0 t w.drew) (hstab : ∀ q s x v W, x ∈ rd.map (·.2) → Z q s W → Z q (updN s x v) W)
  (hstep : ∀ i, i < ch.length → ∀ s W, (∀ k, k < rd.length → (rd.getD k (0, 0)).1 ∈ T.getD (ch.getD i 0) [] → s (rd.getD k (0, 0)).2 = V (rd.getD k (0, 0)).1) → (∀ j, j ∉ rd.map (·.2) → (∀ k, k < ch.length → Cs k ≠ some j) → s j = t j) → Z i s W → ∀ K : Act → World → Prop, (∀ s' W', Z (i + 1) s' W' → (∀ j, Cs i ≠ some j → s' j = s j) → K (mkN n d s') W') → wpOp P ops Q (ch.getD i 0) K (mkN n d s) W)
  (hlast : ∀ s W, Z ch.length s W → (∀ k, k < rd.length → s (rd.getD k (0, 0)).2 = V (rd.getD k (0, 0)).1) → (∀ j, j ∉ rd.map (·.2) → (∀ k, k < ch.length → Cs k ≠ some j) → s j = t j) → wpOp P ops Q (rd.length + ch.length) (fun a W => Q .normal a W) (mkN n d s) W) :
  (Code.region id ops true).wp P Q (mkN n d t) w := by
 have hmem2 : ∀ k, k < rd.length → (rd.getD k (0, 0)).2 ∈ rd.map (·.2) := fun k hk => by
  rw [List.getD_eq_getElem?_getD, List.getElem?_eq_getElem hk]
  exact List.mem_map_of_mem (List.getElem_mem hk)
 have hinjR : ∀ i k, i < rd.length → k < rd.length → (rd.getD i (0, 0)).2 = (rd.getD k (0, 0)).2 → i = k := fun i k hi hk e => by
  have h1 : (rd.map (·.2))[i]'(by simpa using hi) = (rd.map (·.2))[k]'(by simpa using hk) := by
   rw [List.getD_eq_getElem?_getD, List.getD_eq_getElem?_getD, List.getElem?_eq_getElem hi, List.getElem?_eq_getElem hk] at e
   simpa using e
  exact (List.getElem_inj hns).1 h1
 have hinjC : ∀ i k, i < ch.length → k < ch.length → ch.getD i 0 = ch.getD k 0 → i = k := fun i k hi hk e => by
  rw [List.getD_eq_getElem?_getD, List.getD_eq_getElem?_getD, List.getElem?_eq_getElem hi, List.getElem?_eq_getElem hk] at e
  exact (List.getElem_inj hnc).1 e
 have hinjP : ∀ i k, i < rd.length → k < rd.length → (rd.getD i (0, 0)).1 = (rd.getD k (0, 0)).1 → i = k := fun i k hi hk e => by
  have h1 : (rd.map (·.1))[i]'(by simpa using hi) = (rd.map (·.1))[k]'(by simpa using hk) := by
   rw [List.getD_eq_getElem?_getD, List.getD_eq_getElem?_getD, List.getElem?_eq_getElem hi, List.getElem?_eq_getElem hk] at e
   simpa using e
  exact (List.getElem_inj hnr).1 h1
 let J : Array Bool → Act → World → Prop := fun L a W =>
  (hasL_ L (rd.length + ch.length) = true ∧ (∀ k, k < rd.length + ch.length → hasL_ L k = true) ∧ Q .normal a W) ∨
  (hasL_ L (rd.length + ch.length) = false ∧ ∃ s q, a = mkN n d s ∧ q ≤ ch.length ∧ (∀ k, k < ch.length → hasL_ L (ch.getD k 0) = decide (k < q)) ∧ Z q s W ∧ (∀ k, k < rd.length → hasL_ L (rd.getD k (0, 0)).1 = true → s (rd.getD k (0, 0)).2 = V (rd.getD k (0, 0)).1) ∧ (∀ j, j ∉ rd.map (·.2) → (∀ k, k < ch.length → Cs k ≠ some j) → s j = t j) ∧ (∀ j k, k ∈ T.getD j [] → hasL_ L j = true → hasL_ L k = true))
 have hz : ∀ j, hasL_ (Array.replicate ops.size false) j = false := by
  intro j
  unfold hasL_
  rw [Array.getD_eq_getD_getElem?, Array.getElem?_replicate]
  split <;> rfl
 refine region_inv hm J T hT hlow ?_ ?_ ?_
 ·refine .inr ⟨hz _, t, 0, rfl, Nat.zero_le _, fun k _ => by rw [hz, decide_eq_false (by omega)], hz0, fun k _ h => ?_, fun _ _ _ => rfl, fun j k _ h => ?_⟩ <;> (rw [hz] at h; cases h)
 ·intro L a W i hL hi hn hneed hJ
  have hself : hasL_ (L.setIfInBounds i true) i = true := by rw [hasL_set (by omega), if_pos rfl]
  have hoth : ∀ j, j ≠ i → hasL_ (L.setIfInBounds i true) j = hasL_ L j := fun j hj => by rw [hasL_set (by omega), if_neg hj]
  rcases hJ with ⟨h1, h2, _⟩ | ⟨h1, s, q, rfl, hq, hst, hZ, hv, hold, hcl2⟩
  ·exfalso
   rcases Nat.lt_or_ge i (rd.length + ch.length) with g | g
   ·rw [h2 i g] at hn; cases hn
   ·obtain rfl : i = rd.length + ch.length := by omega
    rw [h1] at hn; cases hn
  ·have hcl' : ∀ j k, k ∈ T.getD j [] → hasL_ (L.setIfInBounds i true) j = true → hasL_ (L.setIfInBounds i true) k = true := fun j k hk hl => by
    by_cases e : k = i
    ·rw [e]; exact hself
    ·rw [hoth k e]
     by_cases e2 : j = i
     ·rw [e2] at hk; exact hneed k hk
     ·rw [hoth j e2] at hl; exact hcl2 j k hk hl
   by_cases g : i = rd.length + ch.length
   ·subst g
    have hall : ∀ k, k < rd.length + ch.length → hasL_ L k = true := fun k hk => hneed k (hfull k hk)
    have hqm : q = ch.length := by
     rcases Nat.eq_or_lt_of_le hq with e | e
     ·exact e
     ·have h3 := hst q e
      rw [hall _ (hcl q e)] at h3
      have := of_decide_eq_true h3.symm
      omega
    subst hqm
    refine wpOp_mono (fun a' W' hq2 => .inl ⟨hself, fun k hk => ?_, hq2⟩) (hlast s W hZ (fun k hk => hv k hk (hall _ (hrl k hk))) hold)
    rw [hoth k (by omega)]
    exact hall k hk
   ·have hlast0 : hasL_ (L.setIfInBounds i true) (rd.length + ch.length) = false := by rw [hoth _ (fun e => g e.symm)]; exact h1
    rcases hcov i (by omega) with ⟨r, hr, rfl⟩ | ⟨r, hr, rfl⟩
    ·obtain ⟨o, ho, hod, how, hrun⟩ := hpure r hr s W q hq hZ (fun z hz2 hmem => by
      have h5 := hcl2 _ _ hmem (by rw [hst z (by omega)]; exact decide_eq_true hz2)
      rw [hn] at h5; cases h5) (fun z hz2 hzT => of_decide_eq_true ((hst z hz2).symm.trans (hneed _ hzT))) (fun k hk hkT => hv k hk (hneed _ hkT)) hold
     refine YieldsIf.wpOp (S := fun x => x = W) ho (v := V (rd.getD r (0, 0)).1) (.inl ⟨how, fun x hx => by rw [hx]; exact hrun⟩) rfl ?_
     rw [hod, mkN_put _ _ _ (hDn r hr)]
     refine .inr ⟨hlast0, _, q, rfl, hq, fun k hk => ?_, hstab _ _ _ _ _ (hmem2 r hr) hZ, fun k hk hl => ?_, fun j hj hj2 => ?_, hcl'⟩
     ·rw [hoth _ (fun e => hrc r hr k hk e.symm)]; exact hst k hk
     ·by_cases e : k = r
      ·subst e; exact updN_self _ _ _
      ·rw [updN_ne (fun z => e (hinjR k r hk hr z))]
       rw [hoth _ (fun z => e (hinjP k r hk hr z))] at hl
       exact hv k hk hl
     ·rw [updN_ne (fun e => hj (by rw [e]; exact hmem2 r hr))]
      exact hold j hj hj2
    ·have hqr : q = r := by
      have h2 := hst r hr
      rw [hn] at h2
      have h3 := of_decide_eq_false h2.symm
      rcases Nat.eq_zero_or_pos r with e | e
      ·omega
      ·have h4 : hasL_ L (ch.getD (r - 1) 0) = true := by
        have h5 := hchain (r - 1) (by omega)
        rw [show r - 1 + 1 = r from by omega] at h5
        rcases h5 with h6 | ⟨m, hm1, hm2⟩
        ·exact hneed _ h6
        ·exact hcl2 m _ hm2 (hneed m hm1)
       rw [hst _ (by omega)] at h4
       have := of_decide_eq_true h4
       omega
     subst hqr
     refine hstep q hr s W (fun k hk hkT => hv k hk (hneed _ hkT)) hold hZ _ (fun s' W' hZ' hs' => ?_)
     refine .inr ⟨hlast0, s', q + 1, rfl, by omega, fun k hk => ?_, hZ', fun k hk hl => ?_, fun j hj hj2 => ?_, hcl'⟩
     ·by_cases e : k = q
      ·subst e; rw [hself, decide_eq_true (by omega)]
      ·rw [hoth _ (fun z => e (hinjC k q hk hr z)), hst k hk]
       by_cases e2 : k < q
       ·rw [decide_eq_true e2, decide_eq_true (by omega)]
       ·rw [decide_eq_false e2, decide_eq_false (by omega)]
     ·rw [hs' _ (fun e => hcs k hk q hr e)]
      rw [hoth _ (fun z => hrc k hk q hr z)] at hl
      exact hv k hk hl
     ·rw [hs' _ (hj2 q hr)]
      exact hold j hj hj2
 ·intro L a W hL hall hJ
  rcases hJ with ⟨_, _, hq⟩ | ⟨h1, _⟩
  ·exact hq
  ·rw [hall _ (by omega)] at h1; cases h1
end
/-! As region_mix2, with one operation more that has an effect and may come up anywhere (fr, its slot Fs). operations that only read (rd: where they stand, their slots), and a chain wherever it stands (ch), the last one last. -/
section
variable {P : Program} {ops : Array Oper} {Q : Exit → Act → World → Prop}
theorem region_mixA {n id : Nat} {d : List Deferred} {t : Nat → Value} {w : World} (hm : P.follows .mixedOrders = true) (rd : List (Nat × Nat)) (ch : List Nat) (fr Fs : Nat) (Cs : Nat → Option Nat) (V : Nat → Value) (Z : Nat → Bool → (Nat → Value) → World → Prop) (T : List (List Nat))
  (hT : (List.range ops.size).map (fun i => match ops[i]? with | some o => o.after.toList.filterMap (fun e => if Region.binds .any e = true then some e.on else none) | none => []) = T)
  (hlow : (T.zipIdx.all fun p => p.1.all fun n => decide (n < p.2)) = true)
  (hsz : ops.size = rd.length + ch.length + 1 + 1) (hcov : ∀ i, i < rd.length + ch.length + 1 → (∃ k, k < rd.length ∧ (rd.getD k (0, 0)).1 = i) ∨ (∃ k, k < ch.length ∧ ch.getD k 0 = i) ∨ i = fr)
  (hfl : fr < rd.length + ch.length + 1) (hfr : ∀ k, k < rd.length → (rd.getD k (0, 0)).1 ≠ fr) (hfc : ∀ k, k < ch.length → ch.getD k 0 ≠ fr) (hfs : ∀ k, k < rd.length → (rd.getD k (0, 0)).2 ≠ Fs) (hfd : ∀ k, k < ch.length → Cs k ≠ some Fs)
  (hnr : (rd.map (·.1)).Nodup) (hns : (rd.map (·.2)).Nodup) (hnc : ch.Nodup) (hrc : ∀ k, k < rd.length → ∀ j, j < ch.length → (rd.getD k (0, 0)).1 ≠ ch.getD j 0) (hcs : ∀ k, k < rd.length → ∀ j, j < ch.length → Cs j ≠ some (rd.getD k (0, 0)).2)
  (hrl : ∀ k, k < rd.length → (rd.getD k (0, 0)).1 < rd.length + ch.length + 1) (hcl : ∀ k, k < ch.length → ch.getD k 0 < rd.length + ch.length + 1) (hDn : ∀ k, k < rd.length → (rd.getD k (0, 0)).2 < n)
  (hchain : ∀ i, i < ch.length - 1 → ch.getD i 0 ∈ T.getD (ch.getD (i + 1) 0) []) (hfull : ∀ k, k < rd.length + ch.length + 1 → k ∈ T.getD (rd.length + ch.length + 1) [])
  (hpure : ∀ i, i < rd.length → ∀ s W q b, q ≤ ch.length → Z q b s W → (∀ r, r < q → (rd.getD i (0, 0)).1 ∉ T.getD (ch.getD r 0) []) → (∀ r, r < ch.length → ch.getD r 0 ∈ T.getD (rd.getD i (0, 0)).1 [] → r < q) → (∀ k, k < rd.length → (rd.getD k (0, 0)).1 ∈ T.getD (rd.getD i (0, 0)).1 [] → s (rd.getD k (0, 0)).2 = V (rd.getD k (0, 0)).1) → (∀ j, j ∉ rd.map (·.2) → (∀ k, k < ch.length → Cs k ≠ some j) → j ≠ Fs → s j = t j) →
   ∃ o, ops[(rd.getD i (0, 0)).1]? = some o ∧ o.dst = some (rd.getD i (0, 0)).2 ∧ (∀ a : Act, Region.wanted o (yielded ops a.tmps) = true) ∧ (execOp (mkN n d s).eval o).run P W = .ok (.value (V (rd.getD i (0, 0)).1)) W)
  (hz0 : Z 0 false t w.drew) (hstab : ∀ q b s x v W, x ∈ rd.map (·.2) → Z q b s W → Z q b (updN s x v) W)
  (hfree : ∀ q s W, q ≤ ch.length → Z q false s W → (∀ r, r < q → fr ∉ T.getD (ch.getD r 0) []) → ∀ K : Act → World → Prop, (∀ s' W', Z q true s' W' → (∀ j, j ≠ Fs → s' j = s j) → K (mkN n d s') W') → wpOp P ops Q fr K (mkN n d s) W)
  (hstep : ∀ i, i < ch.length → ∀ b s W, (fr ∈ T.getD (ch.getD i 0) [] → b = true) → (∀ k, k < rd.length → (rd.getD k (0, 0)).1 ∈ T.getD (ch.getD i 0) [] → s (rd.getD k (0, 0)).2 = V (rd.getD k (0, 0)).1) → (∀ j, j ∉ rd.map (·.2) → (∀ k, k < ch.length → Cs k ≠ some j) → j ≠ Fs → s j = t j) → Z i b s W → ∀ K : Act → World → Prop, (∀ s' W', Z (i + 1) b s' W' → (∀ j, Cs i ≠ some j → s' j = s j) → K (mkN n d s') W') → wpOp P ops Q (ch.getD i 0) K (mkN n d s) W)
  (hlast : ∀ s W, Z ch.length true s W → (∀ k, k < rd.length → s (rd.getD k (0, 0)).2 = V (rd.getD k (0, 0)).1) → (∀ j, j ∉ rd.map (·.2) → (∀ k, k < ch.length → Cs k ≠ some j) → j ≠ Fs → s j = t j) → wpOp P ops Q (rd.length + ch.length + 1) (fun a W => Q .normal a W) (mkN n d s) W) :
  (Code.region id ops true).wp P Q (mkN n d t) w := by
 have hmem2 : ∀ k, k < rd.length → (rd.getD k (0, 0)).2 ∈ rd.map (·.2) := fun k hk => by
  rw [List.getD_eq_getElem?_getD, List.getElem?_eq_getElem hk]
  exact List.mem_map_of_mem (List.getElem_mem hk)
 have hinjR : ∀ i k, i < rd.length → k < rd.length → (rd.getD i (0, 0)).2 = (rd.getD k (0, 0)).2 → i = k := fun i k hi hk e => by
  have h1 : (rd.map (·.2))[i]'(by simpa using hi) = (rd.map (·.2))[k]'(by simpa using hk) := by
   rw [List.getD_eq_getElem?_getD, List.getD_eq_getElem?_getD, List.getElem?_eq_getElem hi, List.getElem?_eq_getElem hk] at e
   simpa using e
  exact (List.getElem_inj hns).1 h1
 have hinjC : ∀ i k, i < ch.length → k < ch.length → ch.getD i 0 = ch.getD k 0 → i = k := fun i k hi hk e => by
  rw [List.getD_eq_getElem?_getD, List.getD_eq_getElem?_getD, List.getElem?_eq_getElem hi, List.getElem?_eq_getElem hk] at e
  exact (List.getElem_inj hnc).1 e
 have hinjP : ∀ i k, i < rd.length → k < rd.length → (rd.getD i (0, 0)).1 = (rd.getD k (0, 0)).1 → i = k := fun i k hi hk e => by
  have h1 : (rd.map (·.1))[i]'(by simpa using hi) = (rd.map (·.1))[k]'(by simpa using hk) := by
   rw [List.getD_eq_getElem?_getD, List.getD_eq_getElem?_getD, List.getElem?_eq_getElem hi, List.getElem?_eq_getElem hk] at e
   simpa using e
  exact (List.getElem_inj hnr).1 h1
 let J : Array Bool → Act → World → Prop := fun L a W =>
  (hasL_ L (rd.length + ch.length + 1) = true ∧ (∀ k, k < rd.length + ch.length + 1 → hasL_ L k = true) ∧ Q .normal a W) ∨
  (hasL_ L (rd.length + ch.length + 1) = false ∧ ∃ s q b, a = mkN n d s ∧ q ≤ ch.length ∧ hasL_ L fr = b ∧ (∀ k, k < ch.length → hasL_ L (ch.getD k 0) = decide (k < q)) ∧ Z q b s W ∧ (∀ k, k < rd.length → hasL_ L (rd.getD k (0, 0)).1 = true → s (rd.getD k (0, 0)).2 = V (rd.getD k (0, 0)).1) ∧ (∀ j, j ∉ rd.map (·.2) → (∀ k, k < ch.length → Cs k ≠ some j) → j ≠ Fs → s j = t j) ∧ (∀ j k, k ∈ T.getD j [] → hasL_ L j = true → hasL_ L k = true))
 have hz : ∀ j, hasL_ (Array.replicate ops.size false) j = false := by
  intro j
  unfold hasL_
  rw [Array.getD_eq_getD_getElem?, Array.getElem?_replicate]
  split <;> rfl
 refine region_inv hm J T hT hlow ?_ ?_ ?_
 ·refine .inr ⟨hz _, t, 0, false, rfl, Nat.zero_le _, hz _, fun k _ => by rw [hz, decide_eq_false (by omega)], hz0, fun k _ h => ?_, fun _ _ _ _ => rfl, fun j k _ h => ?_⟩ <;> (rw [hz] at h; cases h)
 ·intro L a W i hL hi hn hneed hJ
  have hself : hasL_ (L.setIfInBounds i true) i = true := by rw [hasL_set (by omega), if_pos rfl]
  have hoth : ∀ j, j ≠ i → hasL_ (L.setIfInBounds i true) j = hasL_ L j := fun j hj => by rw [hasL_set (by omega), if_neg hj]
  rcases hJ with ⟨h1, h2, _⟩ | ⟨h1, s, q, b, rfl, hq, hfb, hst, hZ, hv, hold, hcl2⟩
  ·exfalso
   rcases Nat.lt_or_ge i (rd.length + ch.length + 1) with g | g
   ·rw [h2 i g] at hn; cases hn
   ·obtain rfl : i = rd.length + ch.length + 1 := by omega
    rw [h1] at hn; cases hn
  ·have hcl' : ∀ j k, k ∈ T.getD j [] → hasL_ (L.setIfInBounds i true) j = true → hasL_ (L.setIfInBounds i true) k = true := fun j k hk hl => by
    by_cases e : k = i
    ·rw [e]; exact hself
    ·rw [hoth k e]
     by_cases e2 : j = i
     ·rw [e2] at hk; exact hneed k hk
     ·rw [hoth j e2] at hl; exact hcl2 j k hk hl
   by_cases g : i = rd.length + ch.length + 1
   ·subst g
    have hall : ∀ k, k < rd.length + ch.length + 1 → hasL_ L k = true := fun k hk => hneed k (hfull k hk)
    have hqm : q = ch.length := by
     rcases Nat.eq_or_lt_of_le hq with e | e
     ·exact e
     ·have h3 := hst q e
      rw [hall _ (hcl q e)] at h3
      have := of_decide_eq_true h3.symm
      omega
    subst hqm
    have hbt : b = true := by rw [← hfb]; exact hall fr hfl
    subst hbt
    refine wpOp_mono (fun a' W' hq2 => .inl ⟨hself, fun k hk => ?_, hq2⟩) (hlast s W hZ (fun k hk => hv k hk (hall _ (hrl k hk))) hold)
    rw [hoth k (by omega)]
    exact hall k hk
   ·have hlast0 : hasL_ (L.setIfInBounds i true) (rd.length + ch.length + 1) = false := by rw [hoth _ (fun e => g e.symm)]; exact h1
    rcases hcov i (by omega) with ⟨r, hr, rfl⟩ | ⟨r, hr, rfl⟩ | rfl
    ·obtain ⟨o, ho, hod, how, hrun⟩ := hpure r hr s W q b hq hZ (fun z hz2 hmem => by
      have h5 := hcl2 _ _ hmem (by rw [hst z (by omega)]; exact decide_eq_true hz2)
      rw [hn] at h5; cases h5) (fun z hz2 hzT => of_decide_eq_true ((hst z hz2).symm.trans (hneed _ hzT))) (fun k hk hkT => hv k hk (hneed _ hkT)) hold
     refine YieldsIf.wpOp (S := fun x => x = W) ho (v := V (rd.getD r (0, 0)).1) (.inl ⟨how _, fun x hx => by rw [hx]; exact hrun⟩) rfl ?_
     rw [hod, mkN_put _ _ _ (hDn r hr)]
     refine .inr ⟨hlast0, _, q, b, rfl, hq, by rw [hoth _ (fun e => hfr r hr e.symm)]; exact hfb, fun k hk => ?_, hstab _ _ _ _ _ _ (hmem2 r hr) hZ, fun k hk hl => ?_, fun j hj hj2 hj3 => ?_, hcl'⟩
     ·rw [hoth _ (fun e => hrc r hr k hk e.symm)]; exact hst k hk
     ·by_cases e : k = r
      ·subst e; exact updN_self _ _ _
      ·rw [updN_ne (fun z => e (hinjR k r hk hr z))]
       rw [hoth _ (fun z => e (hinjP k r hk hr z))] at hl
       exact hv k hk hl
     ·rw [updN_ne (fun e => hj (by rw [e]; exact hmem2 r hr))]
      exact hold j hj hj2 hj3
    ·have hqr : q = r := by
      have h2 := hst r hr
      rw [hn] at h2
      have h3 := of_decide_eq_false h2.symm
      rcases Nat.eq_zero_or_pos r with e | e
      ·omega
      ·have h4 := hneed (ch.getD (r - 1) 0) (by have := hchain (r - 1) (by omega); rwa [show r - 1 + 1 = r from by omega] at this)
       rw [hst _ (by omega)] at h4
       have := of_decide_eq_true h4
       omega
     subst hqr
     refine hstep q hr b s W (fun hm => by rw [← hfb]; exact hneed _ hm) (fun k hk hkT => hv k hk (hneed _ hkT)) hold hZ _ (fun s' W' hZ' hs' => ?_)
     refine .inr ⟨hlast0, s', q + 1, b, rfl, by omega, by rw [hoth _ (fun e => hfc q hr e.symm)]; exact hfb, fun k hk => ?_, hZ', fun k hk hl => ?_, fun j hj hj2 hj3 => ?_, hcl'⟩
     ·by_cases e : k = q
      ·subst e; rw [hself, decide_eq_true (by omega)]
      ·rw [hoth _ (fun z => e (hinjC k q hk hr z)), hst k hk]
       by_cases e2 : k < q
       ·rw [decide_eq_true e2, decide_eq_true (by omega)]
       ·rw [decide_eq_false e2, decide_eq_false (by omega)]
     ·rw [hs' _ (fun e => hcs k hk q hr e)]
      rw [hoth _ (fun z => hrc k hk q hr z)] at hl
      exact hv k hk hl
     ·rw [hs' _ (hj2 q hr)]
      exact hold j hj hj2 hj3
    ·have hbf : b = false := by rw [← hfb]; exact hn
     subst hbf
     refine hfree q s W hq hZ (fun z hz2 hmem => by
      have h5 := hcl2 _ _ hmem (by rw [hst z (by omega)]; exact decide_eq_true hz2)
      rw [hn] at h5; cases h5) _ (fun s' W' hZ' hs' => ?_)
     refine .inr ⟨hlast0, s', q, true, rfl, hq, hself, fun k hk => ?_, hZ', fun k hk hl => ?_, fun j hj hj2 hj3 => ?_, hcl'⟩
     ·rw [hoth _ (hfc k hk)]; exact hst k hk
     ·rw [hs' _ (hfs k hk)]
      rw [hoth _ (hfr k hk)] at hl
      exact hv k hk hl
     ·rw [hs' _ hj3]; exact hold j hj hj2 hj3
 ·intro L a W hL hall hJ
  rcases hJ with ⟨_, _, hq⟩ | ⟨h1, _⟩
  ·exact hq
  ·rw [hall _ (by omega)] at h1; cases h1
end
theorem mkN_wanted {ops : Array Oper} {o : Oper} {n m j : Nat} {d : List Deferred} {s : Nat → Value} {b : Bool} (hg : o.guard = some (j, b)) (hd : (ops[j]?).bind (·.dst) = some m) (hm : m < n) (hs : s m = .bool b) : Region.wanted o (yielded ops (mkN n d s).tmps) = true := by
 have h1 : (mkN n d s).tmps[m]? = some (s m) := by
  show (((List.range n).map s).toArray)[m]? = _
  rw [List.getElem?_toArray, List.getElem?_map, List.getElem?_range hm]; rfl
 unfold Region.wanted
 rw [hg]
 show (yielded ops (mkN n d s).tmps j == some b) = true
 unfold yielded
 rw [hd, Option.bind_some, h1, hs]
 simp
theorem mk112_lit (d : List Deferred) (s : Nat → Value) : mkN 112 d s = { tmps := #[s 0, s 1, s 2, s 3, s 4, s 5, s 6, s 7, s 8, s 9, s 10, s 11, s 12, s 13, s 14, s 15, s 16, s 17, s 18, s 19, s 20, s 21, s 22, s 23, s 24, s 25, s 26, s 27, s 28, s 29, s 30, s 31, s 32, s 33, s 34, s 35, s 36, s 37, s 38, s 39, s 40, s 41, s 42, s 43, s 44, s 45, s 46, s 47, s 48, s 49, s 50, s 51, s 52, s 53, s 54, s 55, s 56, s 57, s 58, s 59, s 60, s 61, s 62, s 63, s 64, s 65, s 66, s 67, s 68, s 69, s 70, s 71, s 72, s 73, s 74, s 75, s 76, s 77, s 78, s 79, s 80, s 81, s 82, s 83, s 84, s 85, s 86, s 87, s 88, s 89, s 90, s 91, s 92, s 93, s 94, s 95, s 96, s 97, s 98, s 99, s 100, s 101, s 102, s 103, s 104, s 105, s 106, s 107, s 108, s 109, s 110, s 111], defers := d } := rfl
theorem run_store3 {w : World} {g t : Nat} {a b c : Value} (h : w.heap[g]? = some (.cells #[a, b, c] t (0, 0))) (n : Int) (B : Bool) (A : Option Addr) (k cp : Nat) : (storeCells ⟨g, 0, none⟩ [.int .i64 n, .bool B, .slice A k cp]).run Tryz.prog w = .ok () (((w.setCell ⟨g, 0, none⟩ (.int .i64 n)).setCell ⟨g, 1, none⟩ (.bool B)).setCell ⟨g, 2, none⟩ (.slice A k cp)) := by
 have h1 : (w.setCell ⟨g, 0, none⟩ (.int .i64 n)).heap[g]? = some (.cells #[.int .i64 n, b, c] t (0, 0)) := blk_put h 0 _ rfl
 have h2 : ((w.setCell ⟨g, 0, none⟩ (.int .i64 n)).setCell ⟨g, 1, none⟩ (.bool B)).heap[g]? = some (.cells #[.int .i64 n, .bool B, c] t (0, 0)) := blk_put h1 1 _ rfl
 have a0 : Addr.add ⟨g, 0, none⟩ 0 = ⟨g, 0, none⟩ := rfl
 have a1 : Addr.add ⟨g, 0, none⟩ 1 = ⟨g, 1, none⟩ := rfl
 have a2 : Addr.add ⟨g, 0, none⟩ 2 = ⟨g, 2, none⟩ := rfl
 have k0 := (blk_cell h 0).trans (show _ = some a from rfl)
 have k1 := (blk_cell h1 1).trans (show _ = some b from rfl)
 have k2 := (blk_cell h2 2).trans (show _ = some c from rfl)
 have f0 := blk_frozen h 0
 have f1 := blk_frozen h1 1
 have f2 := blk_frozen h2 2
 simp [storeCells, a0, a1, a2, run_store Tryz.prog _ _ (.int .i64 n) _ rfl, run_store Tryz.prog _ _ (.bool B) _ rfl, run_store Tryz.prog _ _ (.slice A k cp) _ rfl, stored, k0, k1, k2, f0, f1, f2, Result.andThen]
/-- what four questions told, in an array; B: its block -/
structure InvAt (w wr : World) (B : Nat) (a2 a3 a4 : ByteArray) (nms : Nat → List ByteArray) (i : Nat) (v : Nat → Value) : Prop where
 o : wr.heap[B]? = some (.cells #[.int .i64 0, .bool false, v 0, .int .i64 0, .bool false, v 1, .int .i64 0, .bool false, v 2, .int .i64 0, .bool false, v 3] 47 (0, 0))
 q : wr.heap[B + 1]? = some (.cells #[.int .i64 1, .string a2, .string ⟨#[]⟩, .string a4, .int .i64 2, .string a3, .string ⟨#[]⟩, .string a4, .int .i64 3, .string a2, .string ⟨#[]⟩, .string a4, .int .i64 4, .string a3, .string ⟨#[]⟩, .string a4] 44 (0, 0))
 b : Below w.heap.size w wr
 ge : w.heap.size ≤ B
 r : ∀ j, j < i → ∃ l, l.Perm (nms j) ∧ Kd.V Kd.string 9 wr 0 (fun k => B < k) (v j) l
def InvAB (W0 W : World) (al : Bool) (v : Value) (Bt : Nat) : Prop := al = true → v = .pointer (some ⟨Bt, 0, none⟩) ∧ W0.heap.size ≤ Bt ∧ W.heap[Bt]? = some (.cells #[.int .i64 0, .bool false, .slice none 0 0] 40 (0, 0))
def InvNV (B : Nat) (W : World) (al : Bool) (Bt : Nat) (nm : List ByteArray) (v2 : Value) : Prop := ∃ l, l.Perm nm ∧ Kd.V Kd.string 9 W 0 (fun k => B < k ∧ (al = true → k ≠ Bt)) v2 l
def InvDV (D : List S54) (W : World) (v : Value) : Prop := ∃ A c, v = .slice A D.length c ∧ D.length ≤ c ∧ Kd.C k54 W A D.length D
abbrev invT (v2 : Value) : Value := .tuple #[.agg #[.int .i64 0, .bool false, v2], .bool true]
def InvZ (B : Nat) (W0 : World) (D : List S54) (nm : List ByteArray) : Nat → Bool → (Nat → Value) → World → Prop
 | 0, al, s, W => Below W0.heap.size W0 W ∧ ∃ Bt, InvAB W0 W al (s 14) Bt
 | 1, al, s, W => Below W0.heap.size W0 W ∧ InvDV D W (s 72) ∧ ∃ Bt, InvAB W0 W al (s 14) Bt
 | 2, al, s, W => Below W0.heap.size W0 W ∧ ∃ v2 Bt, s 77 = invT v2 ∧ InvNV B W al Bt nm v2 ∧ InvAB W0 W al (s 14) Bt
 | 3, al, s, W => Below W0.heap.size W0 W ∧ ∃ v2 Bt, s 69 = invT v2 ∧ InvNV B W al Bt nm v2 ∧ InvAB W0 W al (s 14) Bt
 | 4, al, s, W => Below W0.heap.size W0 W ∧ ∃ v2 Bt, s 69 = invT v2 ∧ s 78 = .agg #[.int .i64 0, .bool false, v2] ∧ InvNV B W al Bt nm v2 ∧ InvAB W0 W al (s 14) Bt
 | _, _, s, W => Below W0.heap.size W0 W ∧ ∃ v2 Bt, s 69 = invT v2 ∧ s 14 = .pointer (some ⟨Bt, 0, none⟩) ∧ W0.heap.size ≤ Bt ∧ W.heap[Bt]? = some (.cells #[.int .i64 0, .bool false, v2] 40 (0, 0)) ∧ InvNV B W true Bt nm v2
theorem InvZ.below {B : Nat} {W0 W : World} {D : List S54} {nm : List ByteArray} {q : Nat} {al : Bool} {s : Nat → Value} (h : InvZ B W0 D nm q al s W) : Below W0.heap.size W0 W := by
 match q, h with
 | 0, h => exact h.1
 | 1, h => exact h.1
 | 2, h => exact h.1
 | 3, h => exact h.1
 | 4, h => exact h.1
 | _ + 5, h => exact h.1
theorem InvZ.t69 {B : Nat} {W0 W : World} {D : List S54} {nm : List ByteArray} {q : Nat} {al : Bool} {s : Nat → Value} (hq : 2 < q) (h : InvZ B W0 D nm q al s W) : ∃ v2, s 69 = invT v2 := by
 match q, hq, h with
 | 3, _, h => obtain ⟨_, v, _, e, _⟩ := h; exact ⟨v, e⟩
 | 4, _, h => obtain ⟨_, v, _, e, _⟩ := h; exact ⟨v, e⟩
 | _ + 5, _, h => obtain ⟨_, v, _, e, _⟩ := h; exact ⟨v, e⟩
theorem InvZ.keep {B : Nat} {W0 W : World} {D : List S54} {nm : List ByteArray} {q : Nat} {al : Bool} {s s' : Nat → Value} (h : InvZ B W0 D nm q al s W) (h1 : s' 14 = s 14) (h2 : s' 69 = s 69) (h3 : s' 72 = s 72) (h4 : s' 77 = s 77) (h5 : s' 78 = s 78) : InvZ B W0 D nm q al s' W := by
 match q, h with
 | 0, h => simpa only [InvZ, h1, h2, h3, h4, h5] using h
 | 1, h => simpa only [InvZ, h1, h2, h3, h4, h5] using h
 | 2, h => simpa only [InvZ, h1, h2, h3, h4, h5] using h
 | 3, h => simpa only [InvZ, h1, h2, h3, h4, h5] using h
 | 4, h => simpa only [InvZ, h1, h2, h3, h4, h5] using h
 | _ + 5, h => simpa only [InvZ, h1, h2, h3, h4, h5] using h
theorem InvNV.made {B : Nat} {W : World} {Bt : Nat} {nm : List ByteArray} {v2 : Value} (o : Obj) (h : InvNV B W false Bt nm v2) : InvNV B (W.alloc o) true W.heap.size nm v2 := by
 obtain ⟨l, hl, hv⟩ := h
 exact ⟨l, hl, Kd.V_mono (Kd.V_alloc (Kd.V_bound hv) o) (fun k hk => ⟨hk.1.1, fun _ e => by have := hk.2; omega⟩)⟩
theorem InvAB.made (W0 W : World) (v : Value) (h : W0.heap.size ≤ W.heap.size) (hv : v = .pointer (some ⟨W.heap.size, 0, none⟩)) : InvAB W0 (W.alloc (.cells #[.int .i64 0, .bool false, .slice none 0 0] 40)) true v W.heap.size := fun _ => ⟨hv, h, heap_alloc_new _ _⟩
/-- the room for an answer is made, wherever that is done -/
theorem InvZ.made {B : Nat} {W0 W : World} {D : List S54} {nm : List ByteArray} {q : Nat} {s s' : Nat → Value} (hq : q ≤ 4) (h : InvZ B W0 D nm q false s W) (h1 : s' 14 = .pointer (some ⟨W.heap.size, 0, none⟩)) (h2 : s' 69 = s 69) (h3 : s' 72 = s 72) (h4 : s' 77 = s 77) (h5 : s' 78 = s 78) : InvZ B W0 D nm q true s' (W.alloc (.cells #[.int .i64 0, .bool false, .slice none 0 0] 40)) := by
 have hb : Below W0.heap.size W0 (W.alloc (.cells #[.int .i64 0, .bool false, .slice none 0 0] 40)) := h.below.alloc h.below.size _
 have ha : InvAB W0 (W.alloc (.cells #[.int .i64 0, .bool false, .slice none 0 0] 40)) true (s' 14) W.heap.size := .made W0 W _ h.below.size h1
 match q, hq, h with
 | 0, _, _ => exact ⟨hb, _, ha⟩
 | 1, _, ⟨_, ⟨A, c, e, hc, hC⟩, _⟩ => exact ⟨hb, ⟨A, c, by rw [h3]; exact e, hc, Kd.C_below hC ((Below.refl _ _).alloc (Nat.le_refl _) _)⟩, _, ha⟩
 | 2, _, ⟨_, v2, Bt, e, hn, _⟩ => exact ⟨hb, v2, _, by rw [h4]; exact e, hn.made _, ha⟩
 | 3, _, ⟨_, v2, Bt, e, hn, _⟩ => exact ⟨hb, v2, _, by rw [h2]; exact e, hn.made _, ha⟩
 | 4, _, ⟨_, v2, Bt, e, e2, hn, _⟩ => exact ⟨hb, v2, _, by rw [h2]; exact e, by rw [h5]; exact e2, hn.made _, ha⟩
theorem InvAB.below {W0 W W' : World} {al : Bool} {v : Value} {Bt : Nat} (h : InvAB W0 W al v Bt) (hb : Below W.heap.size W W') : InvAB W0 W' al v Bt := fun e => ⟨(h e).1, (h e).2.1, blk_below (h e).2.2 hb⟩
theorem InvAt.ask {w wr W : World} {B : Nat} {a2 a3 a4 : ByteArray} {nms : Nat → List ByteArray} {i : Nat} {v : Nat → Value} (h : InvAt w wr B a2 a3 a4 nms i v) (hb : Below wr.heap.size wr W) : W.heap[B + 1]? = some (.cells #[.int .i64 1, .string a2, .string ⟨#[]⟩, .string a4, .int .i64 2, .string a3, .string ⟨#[]⟩, .string a4, .int .i64 3, .string a2, .string ⟨#[]⟩, .string a4, .int .i64 4, .string a3, .string ⟨#[]⟩, .string a4] 44 (0, 0)) := blk_below h.q hb
theorem V_later {W W' : World} {B : Nat} {v : Value} {l : List ByteArray} (h : Kd.V Kd.string 9 W 0 (fun k => B < k) v l) (hk : ∀ k, B < k → k < W.heap.size → W'.heap[k]? = W.heap[k]?) : Kd.V Kd.string 9 W' 0 (fun k => B < k) v l := Kd.V_step h (fun k h1 h2 => hk k h1 h2)
/-- one round more -/
theorem InvAt.next {w wr W Wf : World} {B : Nat} {a2 a3 a4 : ByteArray} {nms : Nat → List ByteArray} {i : Nat} {v v' : Nat → Value} (h : InvAt w wr B a2 a3 a4 nms i v) (hb : Below wr.heap.size wr W) {Bt : Nat} {al : Bool} {v2 : Value} (hn : InvNV B W al Bt (nms i) v2) (hf : ∀ k, k ≠ B → k < W.heap.size → Wf.heap[k]? = W.heap[k]?) (hz : W.heap.size = Wf.heap.size) (hos : Wf.os = W.os ∧ Wf.tape = W.tape ∧ Wf.output = W.output) (ho : Wf.heap[B]? = some (.cells #[.int .i64 0, .bool false, v' 0, .int .i64 0, .bool false, v' 1, .int .i64 0, .bool false, v' 2, .int .i64 0, .bool false, v' 3] 47 (0, 0))) (hv : ∀ j, v' j = if j = i then v2 else v j) : InvAt w Wf B a2 a3 a4 nms (i + 1) v' := by
 have hlt : B + 1 < wr.heap.size := blk_lt h.q
 have hsz := hb.size
 refine ⟨ho, (hf _ (by omega) (by omega)).trans (h.ask hb), ?_, h.ge, fun j hj => ?_⟩
 ·have h1 := h.b.trans (hb.mono h.b.size)
  exact ⟨hos.1.trans h1.os, hos.2.1.trans h1.tape, hos.2.2.trans h1.output, by have := h1.size; omega, fun k hk => (hf k (by have := h.ge; omega) (by have := h1.size; omega)).trans (h1.block k hk)⟩
 ·rw [hv]
  by_cases e : j = i
  ·subst e
   rw [if_pos rfl]
   obtain ⟨l, hl, hV⟩ := hn
   exact ⟨l, hl, V_later (Kd.V_mono hV (fun k hk => hk.1)) (fun k h1 h2 => hf k (by omega) h2)⟩
  ·rw [if_neg e]
   obtain ⟨l, hl, hV⟩ := h.r j (by omega)
   exact ⟨l, hl, V_later hV (fun k h1 h2 => (hf k (by omega) (by omega)).trans (hb.block k h2))⟩
/-! ### laws_FnRolesInverse: function 4 -/
mutual
def laws_FnRolesInverse.j0 : Nat → Bool → List (S28) → ByteArray → ByteArray → ByteArray → Bool → Option (Bool)
 | 0, _, _, _, _, _, _ => none
 | k + 1, x0, x1, x2, x3, x4, x33 => if x33 = true then (some true) else ((laws_links.f k x1 x0).bind fun t151 => (if t151 = true then ((laws_named.f k x2 x3 x4 x0).bind fun t152 => (if t152 = true then (laws_FnRolesInverse.j1 k x0 x1 x2 x3 x4 (x2.toList == x3.toList)) else (laws_FnRolesInverse.j1 k x0 x1 x2 x3 x4 true))) else (laws_FnRolesInverse.j1 k x0 x1 x2 x3 x4 true)))
def laws_FnRolesInverse.j1 : Nat → Bool → List (S28) → ByteArray → ByteArray → ByteArray → Bool → Option (Bool)
 | 0, _, _, _, _, _, _ => none
 | k + 1, x0, x1, x2, x3, x4, x50 => if x50 = true then ((laws_awakeRoles.f k).bind fun t153 => (some t153)) else ((inverse_rest.f k x0 x1 x2 x3 x4).bind fun t154 => (some t154))
end
def laws_FnRolesInverse.f (k : Nat) (a0 : Bool) (l1 : List (S28)) (a2 : ByteArray) (a3 : ByteArray) (a4 : ByteArray) : Option (Bool) := (laws_zzFits25.f k l1).bind fun t150 => (if t150 = true then (if (a2.size : Int) > 2147483647 then (laws_FnRolesInverse.j0 k a0 l1 a2 a3 a4 true) else (if (a3.size : Int) > 2147483647 then (laws_FnRolesInverse.j0 k a0 l1 a2 a3 a4 true) else (laws_FnRolesInverse.j0 k a0 l1 a2 a3 a4 (decide ((a4.size : Int) > 2147483647))))) else (laws_FnRolesInverse.j0 k a0 l1 a2 a3 a4 true))
theorem laws_FnRolesInverse.mono_l : ∀ k, (∀ y0 y1 y2 y3 y4 y5, LeO (laws_FnRolesInverse.j0 k y0 y1 y2 y3 y4 y5) (laws_FnRolesInverse.j0 (k + 1) y0 y1 y2 y3 y4 y5)) ∧ (∀ y0 y1 y2 y3 y4 y5, LeO (laws_FnRolesInverse.j1 k y0 y1 y2 y3 y4 y5) (laws_FnRolesInverse.j1 (k + 1) y0 y1 y2 y3 y4 y5))
 | 0 => ⟨fun _ _ _ _ _ _ r h => by simp [laws_FnRolesInverse.j0] at h, fun _ _ _ _ _ _ r h => by simp [laws_FnRolesInverse.j1] at h⟩
 | k + 1 => by
  obtain ⟨ih0, ih1⟩ := laws_FnRolesInverse.mono_l k
  refine ⟨?_, ?_⟩
  ·intro y0 y1 y2 y3 y4 y5
   unfold laws_FnRolesInverse.j0
   repeat' first
   | (with_reducible exact ih0 _ _ _ _ _ _)
   | (with_reducible exact ih1 _ _ _ _ _ _)
   | (with_reducible exact inverse_rest.mono _ _ _ _ _ _)
   | (with_reducible exact laws_awakeRoles.mono _)
   | (with_reducible exact laws_links.mono _ _ _)
   | (with_reducible exact laws_named.mono _ _ _ _ _)
   | (with_reducible exact laws_zzFits25.mono _ _)
   | (with_reducible exact LeO.refl _)
   | (with_reducible exact LeO.none _)
   | (with_reducible refine LeO.ite ?_ ?_)
   | (with_reducible refine LeO.bind ?_ (fun _ => ?_))
   | exact ih0 _ _ _ _ _ _
   | exact ih1 _ _ _ _ _ _
   | exact inverse_rest.mono _ _ _ _ _ _
   | exact laws_awakeRoles.mono _
   | exact laws_links.mono _ _ _
   | exact laws_named.mono _ _ _ _ _
   | exact laws_zzFits25.mono _ _
   | exact LeO.none _
   | refine LeO.ite ?_ ?_
   | refine LeO.bind ?_ (fun _ => ?_)
  ·intro y0 y1 y2 y3 y4 y5
   unfold laws_FnRolesInverse.j1
   repeat' first
   | (with_reducible exact ih0 _ _ _ _ _ _)
   | (with_reducible exact ih1 _ _ _ _ _ _)
   | (with_reducible exact inverse_rest.mono _ _ _ _ _ _)
   | (with_reducible exact laws_awakeRoles.mono _)
   | (with_reducible exact laws_links.mono _ _ _)
   | (with_reducible exact laws_named.mono _ _ _ _ _)
   | (with_reducible exact laws_zzFits25.mono _ _)
   | (with_reducible exact LeO.refl _)
   | (with_reducible exact LeO.none _)
   | (with_reducible refine LeO.ite ?_ ?_)
   | (with_reducible refine LeO.bind ?_ (fun _ => ?_))
   | exact ih0 _ _ _ _ _ _
   | exact ih1 _ _ _ _ _ _
   | exact inverse_rest.mono _ _ _ _ _ _
   | exact laws_awakeRoles.mono _
   | exact laws_links.mono _ _ _
   | exact laws_named.mono _ _ _ _ _
   | exact laws_zzFits25.mono _ _
   | exact LeO.none _
   | refine LeO.ite ?_ ?_
   | refine LeO.bind ?_ (fun _ => ?_)
theorem laws_FnRolesInverse.mono : ∀ a0 a1 a2 a3 a4 k, LeO (laws_FnRolesInverse.f k a0 a1 a2 a3 a4) (laws_FnRolesInverse.f (k + 1) a0 a1 a2 a3 a4) := by
 intro a0 a1 a2 a3 a4 k
 obtain ⟨ih0, ih1⟩ := laws_FnRolesInverse.mono_l k
 unfold laws_FnRolesInverse.f
 repeat' first
   | (with_reducible exact ih0 _ _ _ _ _ _)
   | (with_reducible exact ih1 _ _ _ _ _ _)
   | (with_reducible exact inverse_rest.mono _ _ _ _ _ _)
   | (with_reducible exact laws_awakeRoles.mono _)
   | (with_reducible exact laws_links.mono _ _ _)
   | (with_reducible exact laws_named.mono _ _ _ _ _)
   | (with_reducible exact laws_zzFits25.mono _ _)
   | (with_reducible exact LeO.refl _)
   | (with_reducible exact LeO.none _)
   | (with_reducible refine LeO.ite ?_ ?_)
   | (with_reducible refine LeO.bind ?_ (fun _ => ?_))
   | exact ih0 _ _ _ _ _ _
   | exact ih1 _ _ _ _ _ _
   | exact inverse_rest.mono _ _ _ _ _ _
   | exact laws_awakeRoles.mono _
   | exact laws_links.mono _ _ _
   | exact laws_named.mono _ _ _ _ _
   | exact laws_zzFits25.mono _ _
   | exact LeO.none _
   | refine LeO.ite ?_ ?_
   | refine LeO.bind ?_ (fun _ => ?_)
set_option maxHeartbeats 8000000 in
set_option maxRecDepth 100000 in
theorem laws_FnRolesInverse.calls (k : Nat) (a0 : Bool) (A1 : Option Addr) (c1 : Nat) (l1 : List (S28)) (a2 : ByteArray) (a3 : ByteArray) (a4 : ByteArray) (r : Bool) (w : World) (hr1 : Kd.C k28 w A1 l1.length l1) (hc1 : l1.length ≤ c1) (h : laws_FnRolesInverse.f k a0 l1 a2 a3 a4 = some r) :
  Calls Tryz.prog 4 #[.bool a0, .slice A1 l1.length c1, .string a2, .string a3, .string a4] w fun e w' => e = .returned (.bool r) ∧ Below w.heap.size w w' := by
 have HR1 := Aside0.mk hr1
 have HC1 := Aside0.mk hc1
 clear hr1 hc1
 have HB := Aside0.mk (Below.refl w.heap.size w)
 have H : ((laws_zzFits25.f k l1).bind fun t150 => (if t150 = true then (if (a2.size : Int) > 2147483647 then (laws_FnRolesInverse.j0 k a0 l1 a2 a3 a4 true) else (if (a3.size : Int) > 2147483647 then (laws_FnRolesInverse.j0 k a0 l1 a2 a3 a4 true) else (laws_FnRolesInverse.j0 k a0 l1 a2 a3 a4 (decide ((a4.size : Int) > 2147483647))))) else (laws_FnRolesInverse.j0 k a0 l1 a2 a3 a4 true))) = some r := h
 clear h
 have HC6 := Aside0.mk H
 clear H
 go_enter Tryz.func4, Tryz.ntmps4
 go_upto_region 1 with (fail)
 go_cut [33] (fun v33 wc => ∃ (kq : Nat) (x33_5 : Bool), v33 = .bool x33_5 ∧ Aside0 (laws_FnRolesInverse.j0 kq a0 l1 a2 a3 a4 x33_5 = some r) ∧ Aside0 (kq ≤ k) ∧ Aside0 (Below w.heap.size w wc))
 case first =>
  have H := HC6.out
  clear HC6
  replace H := Option.bind_eq_some_iff.mp H
  obtain ⟨t150, A70, H⟩ := H
  replace H : (if t150 = true then (if (a2.size : Int) > 2147483647 then (laws_FnRolesInverse.j0 k a0 l1 a2 a3 a4 true) else (if (a3.size : Int) > 2147483647 then (laws_FnRolesInverse.j0 k a0 l1 a2 a3 a4 true) else (laws_FnRolesInverse.j0 k a0 l1 a2 a3 a4 (decide ((a4.size : Int) > 2147483647))))) else (laws_FnRolesInverse.j0 k a0 l1 a2 a3 a4 true)) = some r := H
  have A7 := Aside0.mk A70
  clear A70
  by_cases c8 : t150 = true
  ·subst c8
   have H1 : (if (a2.size : Int) > 2147483647 then (laws_FnRolesInverse.j0 k a0 l1 a2 a3 a4 true) else (if (a3.size : Int) > 2147483647 then (laws_FnRolesInverse.j0 k a0 l1 a2 a3 a4 true) else (laws_FnRolesInverse.j0 k a0 l1 a2 a3 a4 (decide ((a4.size : Int) > 2147483647))))) = some r := by rw [if_pos rfl] at H; exact H
   clear H
   have H := H1
   clear H1
   by_cases c9 : (a2.size : Int) > 2147483647
   ·rw [if_pos c9] at H
    have c9b0 : decide (2147483647 < (a2.size : Int)) = true := decide_eq_true c9
    have c9b1 : decide (2147483647 < a2.size) = true := decide_eq_true (by omega)
    clear c9
    (first | rw [c9b0] | (simp only [i64_w, i32_w]; rw [c9b0]) | skip)
    have H' := Aside0.mk H
    clear H
    go_wp2_with (first | ((with_reducible refine gate_callee (f := 9) rfl ?_); refine goesL_ (some 17) rfl rfl Tryz.func9 (by kernel_rfl) rfl #[.slice A1 l1.length c1] rfl (by (try simp only [List.map_toArray, List.map_cons, List.map_nil]); first | done | rfl | (simp only [List.length_drop, List.length_take]; rfl)) ?_; (with_reducible refine (laws_zzFits25.calls k _ _ l1 true _ ?side1 ?side2 A7.out).mono ?_); (case side1 => repeat (first | exact (Kd.C_below HR1.out HB.out) | (with_reducible refine Kd.C_alloc ?_ _) | (with_reducible refine Kd.C_drewN ?_ _) | (with_reducible refine Kd.C_drew ?_))); (case side2 => exact HC1.out); rintro e w10 ⟨rfl, hb⟩; refine ⟨_, rfl, ?_⟩; have n0_ := Aside0.mk (below_step (by repeat (first | (with_reducible first | exact HB.out | apply below_alloc | apply pw_below_drewN | apply below_drew1) | exact HB.out)) hb); clear HB; have HB := n0_; clear n0_; (try clear hb); (try clear hb2); (try clear hk); (try clear hi)))
    go_meet
    case rel => exact ⟨_, (true), (by first | rfl | (simp; done) | (simp [*]; done)), H', ⟨by first | omega | exact Nat.le_refl _⟩, ⟨by repeat (first | (with_reducible first | exact HB.out | apply below_alloc | apply pw_below_drewN | apply below_drew1) | exact HB.out)⟩⟩
   ·rw [if_neg c9] at H
    have c9b0 : decide (2147483647 < (a2.size : Int)) = false := decide_eq_false c9
    have c9b1 : decide (2147483647 < a2.size) = false := decide_eq_false (by omega)
    clear c9
    (first | rw [c9b0] | (simp only [i64_w, i32_w]; rw [c9b0]) | skip)
    by_cases c11 : (a3.size : Int) > 2147483647
    ·rw [if_pos c11] at H
     have c11b0 : decide (2147483647 < (a3.size : Int)) = true := decide_eq_true c11
     have c11b1 : decide (2147483647 < a3.size) = true := decide_eq_true (by omega)
     clear c11
     have H' := Aside0.mk H
     clear H
     go_wp2_with (first | ((with_reducible refine gate_callee (f := 9) rfl ?_); refine goesL_ (some 17) rfl rfl Tryz.func9 (by kernel_rfl) rfl #[.slice A1 l1.length c1] rfl (by (try simp only [List.map_toArray, List.map_cons, List.map_nil]); first | done | rfl | (simp only [List.length_drop, List.length_take]; rfl)) ?_; (with_reducible refine (laws_zzFits25.calls k _ _ l1 true _ ?side1 ?side2 A7.out).mono ?_); (case side1 => repeat (first | exact (Kd.C_below HR1.out HB.out) | (with_reducible refine Kd.C_alloc ?_ _) | (with_reducible refine Kd.C_drewN ?_ _) | (with_reducible refine Kd.C_drew ?_))); (case side2 => exact HC1.out); rintro e w12 ⟨rfl, hb⟩; refine ⟨_, rfl, ?_⟩; have n0_ := Aside0.mk (below_step (by repeat (first | (with_reducible first | exact HB.out | apply below_alloc | apply pw_below_drewN | apply below_drew1) | exact HB.out)) hb); clear HB; have HB := n0_; clear n0_; (try clear hb); (try clear hb2); (try clear hk); (try clear hi)))
     go_meet
     case rel => exact ⟨_, (true), (by first | rfl | (simp; done) | (simp [*]; done)), H', ⟨by first | omega | exact Nat.le_refl _⟩, ⟨by repeat (first | (with_reducible first | exact HB.out | apply below_alloc | apply pw_below_drewN | apply below_drew1) | exact HB.out)⟩⟩
    ·rw [if_neg c11] at H
     have c11b0 : decide (2147483647 < (a3.size : Int)) = false := decide_eq_false c11
     have c11b1 : decide (2147483647 < a3.size) = false := decide_eq_false (by omega)
     clear c11
     have H' := Aside0.mk H
     clear H
     go_wp2_with (first | ((with_reducible refine gate_callee (f := 9) rfl ?_); refine goesL_ (some 17) rfl rfl Tryz.func9 (by kernel_rfl) rfl #[.slice A1 l1.length c1] rfl (by (try simp only [List.map_toArray, List.map_cons, List.map_nil]); first | done | rfl | (simp only [List.length_drop, List.length_take]; rfl)) ?_; (with_reducible refine (laws_zzFits25.calls k _ _ l1 true _ ?side1 ?side2 A7.out).mono ?_); (case side1 => repeat (first | exact (Kd.C_below HR1.out HB.out) | (with_reducible refine Kd.C_alloc ?_ _) | (with_reducible refine Kd.C_drewN ?_ _) | (with_reducible refine Kd.C_drew ?_))); (case side2 => exact HC1.out); rintro e w13 ⟨rfl, hb⟩; refine ⟨_, rfl, ?_⟩; have n0_ := Aside0.mk (below_step (by repeat (first | (with_reducible first | exact HB.out | apply below_alloc | apply pw_below_drewN | apply below_drew1) | exact HB.out)) hb); clear HB; have HB := n0_; clear n0_; (try clear hb); (try clear hb2); (try clear hk); (try clear hi)))
     go_meet
     case rel => exact ⟨_, (decide ((a4.size : Int) > 2147483647)), (by first | rfl | (simp; done) | (simp [*]; done)), H', ⟨by first | omega | exact Nat.le_refl _⟩, ⟨by repeat (first | (with_reducible first | exact HB.out | apply below_alloc | apply pw_below_drewN | apply below_drew1) | exact HB.out)⟩⟩
  ·replace c8 := Bool.eq_false_iff.mpr c8
   subst c8
   have H1 : (laws_FnRolesInverse.j0 k a0 l1 a2 a3 a4 true) = some r := by rw [if_neg (show ¬ (false = true) by decide)] at H; exact H
   clear H
   have H := H1
   clear H1
   have H' := Aside0.mk H
   clear H
   go_wp2_with (first | ((with_reducible refine gate_callee (f := 9) rfl ?_); refine goesL_ (some 17) rfl rfl Tryz.func9 (by kernel_rfl) rfl #[.slice A1 l1.length c1] rfl (by (try simp only [List.map_toArray, List.map_cons, List.map_nil]); first | done | rfl | (simp only [List.length_drop, List.length_take]; rfl)) ?_; (with_reducible refine (laws_zzFits25.calls k _ _ l1 false _ ?side1 ?side2 A7.out).mono ?_); (case side1 => repeat (first | exact (Kd.C_below HR1.out HB.out) | (with_reducible refine Kd.C_alloc ?_ _) | (with_reducible refine Kd.C_drewN ?_ _) | (with_reducible refine Kd.C_drew ?_))); (case side2 => exact HC1.out); rintro e w14 ⟨rfl, hb⟩; refine ⟨_, rfl, ?_⟩; have n0_ := Aside0.mk (below_step (by repeat (first | (with_reducible first | exact HB.out | apply below_alloc | apply pw_below_drewN | apply below_drew1) | exact HB.out)) hb); clear HB; have HB := n0_; clear n0_; (try clear hb); (try clear hb2); (try clear hk); (try clear hi)))
   go_meet
   case rel => exact ⟨_, (true), (by first | rfl | (simp; done) | (simp [*]; done)), H', ⟨by first | omega | exact Nat.le_refl _⟩, ⟨by repeat (first | (with_reducible first | exact HB.out | apply below_alloc | apply pw_below_drewN | apply below_drew1) | exact HB.out)⟩⟩
 case rest =>
  clear HC6
  try clear c1
  try clear p2
  try clear c4
  try clear c8
  try clear c9
  try clear c9b0
  try clear c9b1
  try clear c11
  try clear c11b0
  try clear c11b1
  obtain ⟨kq, x33_5, rfl, HA, HJ5, HB⟩ := hcut
  cases kq with
  | zero => exact absurd HA.out (by simp [laws_FnRolesInverse.j0])
  | succ kj5 =>
   have H := HA.out
   clear HA
   simp only [laws_FnRolesInverse.j0] at H
   by_cases c15 : x33_5 = true
   ·subst c15
    have H1 : (some true) = some r := by rw [if_pos rfl] at H; exact H
    clear H
    have H := H1
    clear H1
    obtain rfl := Option.some.inj H
    go_wp2
    go_ret
    exact ⟨by first | rfl | (simp [errW_none, errW_some] <;> rfl) | (simp [*, errW_none, errW_some] <;> rfl), by repeat (first | (with_reducible first | exact HB.out | apply below_alloc | apply pw_below_drewN | apply below_drew1) | exact HB.out)⟩
   ·replace c15 := Bool.eq_false_iff.mpr c15
    subst c15
    have H1 : ((laws_links.f kj5 l1 a0).bind fun t151 => (if t151 = true then ((laws_named.f kj5 a2 a3 a4 a0).bind fun t152 => (if t152 = true then (laws_FnRolesInverse.j1 kj5 a0 l1 a2 a3 a4 (a2.toList == a3.toList)) else (laws_FnRolesInverse.j1 kj5 a0 l1 a2 a3 a4 true))) else (laws_FnRolesInverse.j1 kj5 a0 l1 a2 a3 a4 true))) = some r := by rw [if_neg (show ¬ (false = true) by decide)] at H; exact H
    clear H
    have H := H1
    clear H1
    have HC16 := Aside0.mk H
    clear H
    go_upto_region 3 with (fail)
    go_cut [50] (fun v50 wc => ∃ (kq : Nat) (x50_15 : Bool), v50 = .bool x50_15 ∧ Aside0 (laws_FnRolesInverse.j1 kq a0 l1 a2 a3 a4 x50_15 = some r) ∧ Aside0 (kq ≤ kj5) ∧ Aside0 (Below w.heap.size w wc))
    case first =>
     have H := HC16.out
     clear HC16
     replace H := Option.bind_eq_some_iff.mp H
     obtain ⟨t151, A170, H⟩ := H
     replace H : (if t151 = true then ((laws_named.f kj5 a2 a3 a4 a0).bind fun t152 => (if t152 = true then (laws_FnRolesInverse.j1 kj5 a0 l1 a2 a3 a4 (a2.toList == a3.toList)) else (laws_FnRolesInverse.j1 kj5 a0 l1 a2 a3 a4 true))) else (laws_FnRolesInverse.j1 kj5 a0 l1 a2 a3 a4 true)) = some r := H
     have A17 := Aside0.mk A170
     clear A170
     by_cases c18 : t151 = true
     ·subst c18
      have H1 : ((laws_named.f kj5 a2 a3 a4 a0).bind fun t152 => (if t152 = true then (laws_FnRolesInverse.j1 kj5 a0 l1 a2 a3 a4 (a2.toList == a3.toList)) else (laws_FnRolesInverse.j1 kj5 a0 l1 a2 a3 a4 true))) = some r := by rw [if_pos rfl] at H; exact H
      clear H
      have H := H1
      clear H1
      replace H := Option.bind_eq_some_iff.mp H
      obtain ⟨t152, A190, H⟩ := H
      replace H : (if t152 = true then (laws_FnRolesInverse.j1 kj5 a0 l1 a2 a3 a4 (a2.toList == a3.toList)) else (laws_FnRolesInverse.j1 kj5 a0 l1 a2 a3 a4 true)) = some r := H
      have A19 := Aside0.mk A190
      clear A190
      by_cases c20 : t152 = true
      ·subst c20
       have H1 : (laws_FnRolesInverse.j1 kj5 a0 l1 a2 a3 a4 (a2.toList == a3.toList)) = some r := by rw [if_pos rfl] at H; exact H
       clear H
       have H := H1
       clear H1
       have H' := Aside0.mk H
       clear H
       go_wp2_with (first | ((with_reducible refine gate_callee (f := 10) rfl ?_); refine goesL_ (some 36) rfl rfl Tryz.func10 (by kernel_rfl) rfl #[.slice A1 l1.length c1, .bool a0] rfl (by (try simp only [List.map_toArray, List.map_cons, List.map_nil]); first | done | rfl | (simp only [List.length_drop, List.length_take]; rfl)) ?_; (with_reducible refine (laws_links.calls kj5 _ _ l1 a0 true _ ?side1 ?side2 A17.out).mono ?_); (case side1 => repeat (first | exact (Kd.C_below HR1.out HB.out) | (with_reducible refine Kd.C_alloc ?_ _) | (with_reducible refine Kd.C_drewN ?_ _) | (with_reducible refine Kd.C_drew ?_))); (case side2 => exact HC1.out); rintro e w' ⟨rfl, ⟨nd, rfl⟩⟩; refine ⟨_, rfl, ?_⟩) | (go_at_call 11; (with_reducible refine (laws_named.calls kj5 a2 a3 a4 a0 true _ A19.out).mono ?_); rintro e w' ⟨rfl, ⟨nd, rfl⟩⟩))
       go_meet
       case rel => exact ⟨_, ((a2.toList == a3.toList)), (by first | rfl | (simp; done) | (simp [*]; done)), H', ⟨by have := HJ5.out; first | omega | exact Nat.le_refl _⟩, ⟨by repeat (first | (with_reducible first | exact HB.out | apply below_alloc | apply pw_below_drewN | apply below_drew1) | exact HB.out)⟩⟩
      ·replace c20 := Bool.eq_false_iff.mpr c20
       subst c20
       have H1 : (laws_FnRolesInverse.j1 kj5 a0 l1 a2 a3 a4 true) = some r := by rw [if_neg (show ¬ (false = true) by decide)] at H; exact H
       clear H
       have H := H1
       clear H1
       have H' := Aside0.mk H
       clear H
       go_wp2_with (first | ((with_reducible refine gate_callee (f := 10) rfl ?_); refine goesL_ (some 36) rfl rfl Tryz.func10 (by kernel_rfl) rfl #[.slice A1 l1.length c1, .bool a0] rfl (by (try simp only [List.map_toArray, List.map_cons, List.map_nil]); first | done | rfl | (simp only [List.length_drop, List.length_take]; rfl)) ?_; (with_reducible refine (laws_links.calls kj5 _ _ l1 a0 true _ ?side1 ?side2 A17.out).mono ?_); (case side1 => repeat (first | exact (Kd.C_below HR1.out HB.out) | (with_reducible refine Kd.C_alloc ?_ _) | (with_reducible refine Kd.C_drewN ?_ _) | (with_reducible refine Kd.C_drew ?_))); (case side2 => exact HC1.out); rintro e w' ⟨rfl, ⟨nd, rfl⟩⟩; refine ⟨_, rfl, ?_⟩) | (go_at_call 11; (with_reducible refine (laws_named.calls kj5 a2 a3 a4 a0 false _ A19.out).mono ?_); rintro e w' ⟨rfl, ⟨nd, rfl⟩⟩))
       go_meet
       case rel => exact ⟨_, (true), (by first | rfl | (simp; done) | (simp [*]; done)), H', ⟨by have := HJ5.out; first | omega | exact Nat.le_refl _⟩, ⟨by repeat (first | (with_reducible first | exact HB.out | apply below_alloc | apply pw_below_drewN | apply below_drew1) | exact HB.out)⟩⟩
     ·replace c18 := Bool.eq_false_iff.mpr c18
      subst c18
      have H1 : (laws_FnRolesInverse.j1 kj5 a0 l1 a2 a3 a4 true) = some r := by rw [if_neg (show ¬ (false = true) by decide)] at H; exact H
      clear H
      have H := H1
      clear H1
      have H' := Aside0.mk H
      clear H
      go_wp2_with (first | ((with_reducible refine gate_callee (f := 10) rfl ?_); refine goesL_ (some 36) rfl rfl Tryz.func10 (by kernel_rfl) rfl #[.slice A1 l1.length c1, .bool a0] rfl (by (try simp only [List.map_toArray, List.map_cons, List.map_nil]); first | done | rfl | (simp only [List.length_drop, List.length_take]; rfl)) ?_; (with_reducible refine (laws_links.calls kj5 _ _ l1 a0 false _ ?side1 ?side2 A17.out).mono ?_); (case side1 => repeat (first | exact (Kd.C_below HR1.out HB.out) | (with_reducible refine Kd.C_alloc ?_ _) | (with_reducible refine Kd.C_drewN ?_ _) | (with_reducible refine Kd.C_drew ?_))); (case side2 => exact HC1.out); rintro e w' ⟨rfl, ⟨nd, rfl⟩⟩; refine ⟨_, rfl, ?_⟩))
      go_meet
      case rel => exact ⟨_, (true), (by first | rfl | (simp; done) | (simp [*]; done)), H', ⟨by have := HJ5.out; first | omega | exact Nat.le_refl _⟩, ⟨by repeat (first | (with_reducible first | exact HB.out | apply below_alloc | apply pw_below_drewN | apply below_drew1) | exact HB.out)⟩⟩
    case rest =>
     clear HC16
     try clear c1
     try clear c2
     try clear p2
     try clear c4
     try clear c8
     try clear c9
     try clear c9b0
     try clear c9b1
     try clear c10
     try clear c11
     try clear c11b0
     try clear c11b1
     try clear c15
     try clear c18
     try clear c20
     try clear p2
     obtain ⟨kq, x50_15, rfl, HA, HJ15, HB⟩ := hcut
     cases kq with
     | zero => exact absurd HA.out (by simp [laws_FnRolesInverse.j1])
     | succ kj15 =>
      have H := HA.out
      clear HA
      simp only [laws_FnRolesInverse.j1] at H
      by_cases c21 : x50_15 = true
      ·subst c21
       have H1 : ((laws_awakeRoles.f kj15).bind fun t153 => (some t153)) = some r := by rw [if_pos rfl] at H; exact H
       clear H
       have H := H1
       clear H1
       replace H := Option.bind_eq_some_iff.mp H
       obtain ⟨t153, A220, H⟩ := H
       replace H : (some t153) = some r := H
       have A22 := Aside0.mk A220
       clear A220
       obtain rfl := Option.some.inj H
       go_wp2_with (first | ((with_reducible refine gate_callee (f := 12) rfl ?_); refine goesL_ (some 51) rfl rfl Tryz.func12 (by kernel_rfl) rfl #[] rfl (by (try simp only [List.map_toArray, List.map_cons, List.map_nil]); first | done | rfl | (simp only [List.length_drop, List.length_take]; rfl)) ?_; (with_reducible refine (laws_awakeRoles.calls kj15  t153 _ A22.out).mono ?_); rintro e w23 ⟨rfl, hb⟩; refine ⟨_, rfl, ?_⟩; have n0_ := Aside0.mk (below_step (by repeat (first | (with_reducible first | exact HB.out | apply below_alloc | apply pw_below_drewN | apply below_drew1) | exact HB.out)) hb); clear HB; have HB := n0_; clear n0_; (try clear hb); (try clear hb2); (try clear hk); (try clear hi)))
       go_ret
       exact ⟨by first | rfl | (simp [errW_none, errW_some] <;> rfl) | (simp [*, errW_none, errW_some] <;> rfl), by repeat (first | (with_reducible first | exact HB.out | apply below_alloc | apply pw_below_drewN | apply below_drew1) | exact HB.out)⟩
      ·replace c21 := Bool.eq_false_iff.mpr c21
       subst c21
       have H1 : ((inverse_rest.f kj15 a0 l1 a2 a3 a4).bind fun t154 => (some t154)) = some r := by rw [if_neg (show ¬ (false = true) by decide)] at H; exact H
       clear H
       have H := H1
       clear H1
       replace H := Option.bind_eq_some_iff.mp H
       obtain ⟨t154, A240, H⟩ := H
       replace H : (some t154) = some r := H
       have A24 := Aside0.mk A240
       clear A240
       obtain rfl := Option.some.inj H
       clear H
       have hu28 := Tryz.underlying28
       have hu40 := Tryz.underlying40
       have hu44 := Tryz.underlying44
       obtain ⟨D, hAD, hD⟩ := Option.bind_eq_some_iff.1 (show ((laws_added.f kj15 l1).bind fun D => if (okRun D && inverse_rest.T a0 D a2 a3 a4) = true then some true else none) = some t154 from A24.out)
       split at hD
       case isFalse => cases hD
       case isTrue hok =>
       obtain rfl := Option.some.inj hD
       rw [Bool.and_eq_true] at hok
       obtain ⟨nms, hnms⟩ : ∃ nms : Nat → List ByteArray, nms = fun j => (ansR 20 a0 (deedsE a0 (fun _ => []) D) (match j with | 0 => ⟨1, a2, ⟨#[]⟩, a4⟩ | 1 => ⟨2, a3, ⟨#[]⟩, a4⟩ | 2 => ⟨3, a2, ⟨#[]⟩, a4⟩ | _ => ⟨4, a3, ⟨#[]⟩, a4⟩)).f2 := ⟨_, rfl⟩
       have HNM := Aside0.mk hnms
       have HAD := Aside0.mk hAD
       have HOK := Aside0.mk hok
       have HQS := Aside0.mk (show ∀ j, j < 4 → ∀ (W : World) (A : Option Addr) (c : Nat), Kd.C k54 W A D.length D → D.length ≤ c → Calls Tryz.prog 17 #[.int .i64 20, .bool a0, .slice A D.length c, .agg (match j with | 0 => #[.int .i64 1, .string a2, .string ⟨#[]⟩, .string a4] | 1 => #[.int .i64 2, .string a3, .string ⟨#[]⟩, .string a4] | 2 => #[.int .i64 3, .string a2, .string ⟨#[]⟩, .string a4] | _ => #[.int .i64 4, .string a3, .string ⟨#[]⟩, .string a4])] W fun e w' => ∃ v2 l, e = .returned (invT v2) ∧ l.Perm (nms j) ∧ Kd.V Kd.string 9 w' W.heap.size (fun k_ => W.heap.size ≤ k_) v2 l ∧ Below W.heap.size W w' from by
        intro j hj W A c h1 h2
        have key : ∀ (op : Int) (x : ByteArray) (nm : List ByteArray), (ansR 20 a0 (deedsE a0 (fun _ => []) D) ⟨op, x, ⟨#[]⟩, a4⟩) = ⟨0, false, nm⟩ → 0 ≤ op ∧ op ≤ 4 → Calls Tryz.prog 17 #[.int .i64 20, .bool a0, .slice A D.length c, .agg #[.int .i64 op, .string x, .string ⟨#[]⟩, .string a4]] W fun e w' => ∃ v2 l, e = .returned (invT v2) ∧ l.Perm nm ∧ Kd.V Kd.string 9 w' W.heap.size (fun k_ => W.heap.size ≤ k_) v2 l ∧ Below W.heap.size W w' := fun op x nm he hop => by
         have hq := question_yes kj15 20 a0 D op x ⟨#[]⟩ a4 (by decide) (by decide) hok.1 hop
         rw [he] at hq
         refine (laws_question.calls kj15 20 a0 A c D op x ⟨#[]⟩ a4 0 false nm true W h1 h2 hq).mono ?_
         rintro e w' ⟨v2, rfl, ⟨l, hl, hv⟩, hb⟩
         exact ⟨v2, l, rfl, hl, hv, hb⟩
        rw [hnms]
        match j, hj with
        | 0, _ => exact key 1 a2 _ rfl (by decide)
        | 1, _ => exact key 2 a3 _ rfl (by decide)
        | 2, _ => exact key 3 a2 _ rfl (by decide)
        | 3, _ => exact key 4 a3 _ rfl (by decide))
       clear hnms hok hAD A24 hD
       go_wp2
       obtain ⟨W6, hW6⟩ : ∃ W6, W6 = (wc.alloc (Obj.cells #[.int .i64 0, .bool false, .slice none 0 0, .int .i64 0, .bool false, .slice none 0 0, .int .i64 0, .bool false, .slice none 0 0, .int .i64 0, .bool false, .slice none 0 0] 47)).alloc (Obj.cells #[.int .i64 1, .string a2, .string ⟨#[]⟩, .string a4, .int .i64 2, .string a3, .string ⟨#[]⟩, .string a4, .int .i64 3, .string a2, .string ⟨#[]⟩, .string a4, .int .i64 4, .string a3, .string ⟨#[]⟩, .string a4] 44) := ⟨_, rfl⟩
       rw [← hW6]
       have HI0 := Aside0.mk (show InvAt w W6 wc.heap.size a2 a3 a4 nms 0 (fun _ => .slice none 0 0) from by
        refine ⟨?_, ?_, ?_, HB.out.size, fun j hj => by omega⟩
        ·rw [hW6, heap_alloc_old _ _ (by simp)]
         exact heap_alloc_new _ _
        ·rw [hW6]
         have := heap_alloc_new (wc.alloc (Obj.cells #[.int .i64 0, .bool false, .slice none 0 0, .int .i64 0, .bool false, .slice none 0 0, .int .i64 0, .bool false, .slice none 0 0, .int .i64 0, .bool false, .slice none 0 0] 47)) (Obj.cells #[.int .i64 1, .string a2, .string ⟨#[]⟩, .string a4, .int .i64 2, .string a3, .string ⟨#[]⟩, .string a4, .int .i64 3, .string a2, .string ⟨#[]⟩, .string a4, .int .i64 4, .string a3, .string ⟨#[]⟩, .string a4] 44)
         simpa using this
        ·rw [hW6]
         exact (HB.out.alloc HB.out.size _).alloc (by have := HB.out.size; simp; omega) _)
       clear hW6
       go_loopw [13] (fun v13 wr => ∃ (i : Nat) (v : Nat → Value), v13 = .int .i64 (i : Int) ∧ i ≤ 4 ∧ Aside0 (InvAt w wr wc.heap.size a2 a3 a4 nms i v)) (fun v13 _ => 4 - (intOf v13).toNat)
       case atStart => exact ⟨0, _, rfl, by decide, HI0⟩
       case round =>
        clear HI0
        obtain ⟨i, v, rfl, hi, HI⟩ := hrel
        rcases (show i = 0 ∨ i = 1 ∨ i = 2 ∨ i = 3 ∨ i = 4 from by omega) with rfl | rfl | rfl | rfl | rfl
        ·go_upto_region 10 with (fail)
         refine at_mkN (n := 112) (d := _) rfl rfl ?_
         refine region_mixA (by kernel_rfl) [(0, 70), (1, 71), (3, 73), (4, 74), (5, 75), (6, 76), (10, 79)] [2, 7, 8, 9, 12] 11 14 (fun k_ => match k_ with | 0 => some 72 | 1 => some 77 | 2 => some 69 | 3 => some 78 | 4 => none | _ => none) (fun k_ => match k_ with | 0 => .bool a0 | 1 => .slice A1 l1.length c1 | 3 => .slice (some ⟨wc.heap.size + 1, 0, none⟩) 4 4 | 4 => .int .i64 0 | 5 => .pointer (some ⟨wc.heap.size + 1, 0, none⟩) | 6 => .agg #[.int .i64 1, .string a2, .string ⟨#[]⟩, .string a4] | 10 => .bool true | _ => undef) (InvZ wc.heap.size wr D (nms 0)) [[], [], [1], [], [], [3, 4], [5], [0, 2, 6, 2], [7], [8], [8], [], [11, 9, 7, 0, 1, 2, 3, 4, 5, 6, 7, 8, 9, 11], [10, 12, 0, 1, 2, 3, 4, 5, 6, 7, 8, 9, 10, 11, 12]] (by kernel_rfl) (by decide) rfl (by decide) (by decide) (by decide) (by decide) (by decide) (by decide) (by decide) (by decide) (by decide) (by decide) (by decide) (by decide) (by decide) (by decide) (by decide) (by decide) ?_ ?_ ?_ ?_ ?_ ?_
         ·intro i_ hi_ s_ W_ q_ b_ hq_ hz_ hno_ hcb_ hg_ ho_
          rcases (show i_ = 0 ∨ i_ = 1 ∨ i_ = 2 ∨ i_ = 3 ∨ i_ = 4 ∨ i_ = 5 ∨ i_ = 6 from by have : i_ < 7 := hi_; omega) with rfl | rfl | rfl | rfl | rfl | rfl | rfl
          ·refine ⟨_, rfl, rfl, fun _ => rfl, ?_⟩
           have g0_ : s_ 0 = _ := ho_ 0 (by decide) (by decide) (by decide)
           clear hg_ ho_ hno_ hz_ hq_ hcb_
           first | (simp [execOp, mkN_eval, Result.andThen, *]; done) | (go_simp; simp [mkN_get, Result.andThen, *]; done)
          ·refine ⟨_, rfl, rfl, fun _ => rfl, ?_⟩
           have g1_ : s_ 1 = _ := ho_ 1 (by decide) (by decide) (by decide)
           clear hg_ ho_ hno_ hz_ hq_ hcb_
           first | (simp [execOp, mkN_eval, Result.andThen, *]; done) | (go_simp; simp [mkN_get, Result.andThen, *]; done)
          ·refine ⟨_, rfl, rfl, fun _ => rfl, ?_⟩
           have g12_ : s_ 12 = _ := ho_ 12 (by decide) (by decide) (by decide)
           clear hg_ ho_ hno_ hz_ hq_ hcb_
           first | (simp [execOp, mkN_eval, Result.andThen, *]; done) | (go_simp; simp [mkN_get, Result.andThen, *]; done)
          ·refine ⟨_, rfl, rfl, fun _ => rfl, ?_⟩
           have g13_ : s_ 13 = _ := ho_ 13 (by decide) (by decide) (by decide)
           clear hg_ ho_ hno_ hz_ hq_ hcb_
           first | (simp [execOp, mkN_eval, Result.andThen, *]; done) | (go_simp; simp [mkN_get, Result.andThen, *]; done)
          ·refine ⟨_, rfl, rfl, fun _ => rfl, ?_⟩
           have g73_ : s_ 73 = .slice (some ⟨wc.heap.size + 1, 0, none⟩) 4 4 := hg_ 2 (by decide) (by decide)
           have g74_ : s_ 74 = .int .i64 0 := hg_ 3 (by decide) (by decide)
           have hix_ : (Instr.indexAt 35 (.slice (some ⟨wc.heap.size + 1, 0, none⟩) 4 4) (.int .i64 0)).run Tryz.prog W_ = .ok (.pointer (some ⟨wc.heap.size + 1, 0, none⟩)) W_ := by kernel_rfl
           clear hg_ ho_ hno_ hz_ hq_ hcb_
           first | (simp [execOp, mkN_eval, Result.andThen, *]; done) | (go_simp; simp [mkN_get, Result.andThen, *]; done)
          ·refine ⟨_, rfl, rfl, fun _ => rfl, ?_⟩
           have g75_ : s_ 75 = .pointer (some ⟨wc.heap.size + 1, 0, none⟩) := hg_ 4 (by decide) (by decide)
           have hbk_ := HI.out.ask hz_.below
           have hc0_ := (blk_cell hbk_ 0).trans (show _ = some (.int .i64 1) from rfl)
           have hc1_ := (blk_cell hbk_ 1).trans (show _ = some (.string a2) from rfl)
           have hc2_ := (blk_cell hbk_ 2).trans (show _ = some (.string ⟨#[]⟩) from rfl)
           have hc3_ := (blk_cell hbk_ 3).trans (show _ = some (.string a4) from rfl)
           clear hbk_
           clear hg_ ho_ hno_ hz_ hq_ hcb_
           first | (simp [execOp, mkN_eval, Result.andThen, *]; done) | (go_simp; simp [mkN_get, Result.andThen, *]; done)
          ·refine ⟨_, rfl, rfl, fun _ => rfl, ?_⟩
           obtain ⟨v2_, g69_⟩ := hz_.t69 (hcb_ 2 (by decide) (by decide))
           clear hg_ ho_ hno_ hz_ hq_ hcb_
           first | (simp [execOp, mkN_eval, Result.andThen, *]; done) | (go_simp; simp [mkN_get, Result.andThen, *]; done)
         ·exact ⟨below_drew0 wr, 0, fun e => by cases e⟩
         ·intro q_ b_ s_ x_ v_ W_ hx_ hZ_
          have hne_ : ∀ u, u ∉ ([(0, 70), (1, 71), (3, 73), (4, 74), (5, 75), (6, 76), (10, 79)].map (·.2) : List Nat) → updN s_ x_ v_ u = s_ u := fun u hu => updN_ne (fun e => hu (by rw [e]; exact hx_))
          exact hZ_.keep (hne_ 14 (by decide)) (hne_ 69 (by decide)) (hne_ 72 (by decide)) (hne_ 77 (by decide)) (hne_ 78 (by decide))
         ·intro q_ s_ W_ hq_ hZ_ hno_ K_ hK_
          have hq4_ : q_ ≤ 4 := by rcases Nat.lt_or_ge 4 q_ with h | h; exact absurd (by decide) (hno_ 4 h); exact h
          refine wpOp_step rfl (fun K' hK => ?_)
          go_simp
          refine hK _ _ ?_
          show K_ ((mkN 112 _ s_).put (some 14) (.pointer (some ⟨W_.heap.size, 0, none⟩))) (W_.alloc (.cells #[.int .i64 0, .bool false, .slice none 0 0] 40))
          rw [mkN_put _ _ _ (by decide)]
          exact hK_ _ _ (hZ_.made hq4_ (updN_self _ _ _) (updN_ne (by decide)) (updN_ne (by decide)) (updN_ne (by decide)) (updN_ne (by decide))) (fun j hj => updN_ne hj)
         ·intro i_ hi_ b_ s_ W_ hfr_ hg_ ho_ hZ_ K_ hK_
          rcases (show i_ = 0 ∨ i_ = 1 ∨ i_ = 2 ∨ i_ = 3 ∨ i_ = 4 from by have : i_ < 5 := hi_; omega) with rfl | rfl | rfl | rfl | rfl
          ·have g71_ : s_ 71 = .slice A1 l1.length c1 := hg_ 1 (by decide) (by decide)
           obtain ⟨hb_, Bt_, ha_⟩ := hZ_
           clear hg_ ho_ hfr_
           refine wpOp_step rfl (fun K' hK => ?_)
           go_simp
           simp [mkN_get, g71_]
           go_wp2_with (go_at_call 14; refine (laws_added.calls kj15 _ _ l1 D _ (Kd.C_below HR1.out (HI.out.b.trans (hb_.mono HI.out.b.size))) HC1.out HAD.out).mono ?_; rintro e w4 ⟨v4_, rfl, hr4_, hb4_⟩)
           obtain ⟨A4_, c4_, e4_⟩ := Kd.R_slice hr4_
           subst e4_
           show K_ ((mkN 112 _ s_).put (some 72) (.slice A4_ D.length c4_)) w4
           rw [mkN_put _ _ _ (by decide)]
           exact hK_ _ _ ⟨hb_.trans (hb4_.mono hb_.size), ⟨A4_, c4_, updN_self _ _ _, (Kd.R_reads' hr4_).2.1, (Kd.R_reads' hr4_).2.2⟩, Bt_, by rw [updN_ne (show 14 ≠ 72 by decide)]; exact ha_.below hb4_⟩ (fun j hj => updN_ne (fun e => hj (by subst e; rfl)))
          ·have g70_ : s_ 70 = .bool a0 := hg_ 0 (by decide) (by decide)
           have g76_ : s_ 76 = .agg #[.int .i64 1, .string a2, .string ⟨#[]⟩, .string a4] := hg_ 5 (by decide) (by decide)
           obtain ⟨hb_, ⟨A4_, c4_, e4_, hc4_, hC4_⟩, Bt_, ha_⟩ := hZ_
           clear ho_ hfr_ hg_
           refine wpOp_step rfl (fun K' hK => ?_)
           go_simp
           simp [mkN_get, g70_, g76_, e4_]
           go_wp2_with (go_at_call 17; refine (HQS.out 0 (by decide) W_ A4_ c4_ hC4_ hc4_).mono ?_; rintro e w5 ⟨v2_, l2_, rfl, hl2_, hv2_, hb5_⟩)
           show K_ ((mkN 112 _ s_).put (some 77) (invT v2_)) w5
           rw [mkN_put _ _ _ (by decide)]
           exact hK_ _ _ ⟨hb_.trans (hb5_.mono hb_.size), v2_, Bt_, updN_self _ _ _, ⟨l2_, hl2_, Kd.V_mono hv2_ (fun k hk => ⟨by have h1 := blk_lt HI.out.q; have h2 := hb_.size; omega, fun e => by have h1 := blk_lt (ha_ e).2.2; omega⟩)⟩, by rw [updN_ne (show 14 ≠ 77 by decide)]; exact ha_.below hb5_⟩ (fun j hj => updN_ne (fun e => hj (by subst e; rfl)))
          ·obtain ⟨hb_, v2_, Bt_, e2_, hn_, ha_⟩ := hZ_
           clear ho_ hfr_ hg_
           refine wpOp_step rfl (fun K' hK => ?_)
           go_simp
           simp [mkN_get, e2_]
           refine hK _ _ ?_
           show K_ ((mkN 112 _ s_).put (some 69) (invT v2_)) W_
           rw [mkN_put _ _ _ (by decide)]
           exact hK_ _ _ ⟨hb_, v2_, Bt_, updN_self _ _ _, hn_, by rw [updN_ne (show 14 ≠ 69 by decide)]; exact ha_⟩ (fun j hj => updN_ne (fun e => hj (by subst e; rfl)))
          ·obtain ⟨hb_, v2_, Bt_, e2_, hn_, ha_⟩ := hZ_
           clear ho_ hfr_ hg_
           refine wpOp_step rfl (fun K' hK => ?_)
           go_simp
           simp [mkN_get, e2_]
           refine hK _ _ ?_
           show K_ ((mkN 112 _ s_).put (some 78) (.agg #[.int .i64 0, .bool false, v2_])) W_
           rw [mkN_put _ _ _ (by decide)]
           exact hK_ _ _ ⟨hb_, v2_, Bt_, by rw [updN_ne (show 69 ≠ 78 by decide)]; exact e2_, updN_self _ _ _, hn_, by rw [updN_ne (show 14 ≠ 78 by decide)]; exact ha_⟩ (fun j hj => updN_ne (fun e => hj (by subst e; rfl)))
          ·obtain ⟨hb_, v2_, Bt_, e2_, e3_, hn_, ha_⟩ := hZ_
           obtain rfl := hfr_ (by decide)
           clear ho_ hfr_ hg_
           obtain ⟨e14_, hge_, hbt_⟩ := ha_ rfl
           obtain ⟨l2_, hl2_, hV2_⟩ := hn_
           obtain ⟨A2_, c2_, e5_⟩ := Kd.V_slice hV2_
           subst e5_
           refine wpOp_step rfl (fun K' hK => ?_)
           go_simp
           simp [mkN_get, e14_, e3_, run_store3 hbt_ 0 false A2_ l2_.length c2_]
           refine hK _ _ ?_
           refine hK_ _ _ ⟨((hb_.setCell hge_ _).setCell hge_ _).setCell hge_ _, .slice A2_ l2_.length c2_, Bt_, e2_, e14_, hge_, ?_, l2_, hl2_, Kd.V_far (Kd.V_far (Kd.V_far hV2_ (fun k hk => hk.2 rfl) _) (fun k hk => hk.2 rfl) _) (fun k hk => hk.2 rfl) _⟩ (fun j hj => rfl)
           exact blk_put (cs := #[.int .i64 0, .bool false, .slice none 0 0]) (blk_put (cs := #[.int .i64 0, .bool false, .slice none 0 0]) (blk_put hbt_ 0 _ rfl) 1 _ rfl) 2 _ rfl
         ·intro s_ W_ hZ_ hv_ ho_
          have g79_ : s_ 79 = .bool true := hv_ 6 (by decide)
          obtain ⟨hb_, v2_, Bt_, _, g14_, hge_, hbt_, hn_⟩ := hZ_
          refine YieldsIf.wpOp (S := fun x => x = W_) (v := .bool true) rfl (Or.inl ⟨rfl, fun x hx => by simp [execOp, mkN_eval, g79_]⟩) rfl ?_
          show Exit.then _ _ .normal ((mkN 112 _ s_).put (some 15) _) W_
          rw [mkN_put _ _ _ (by decide), mk112_lit]
          have hk_ : ∀ k, k ∉ ([(0, 70), (1, 71), (3, 73), (4, 74), (5, 75), (6, 76), (10, 79)].map (·.2) : List Nat) → (∀ j, j < [2, 7, 8, 9, 12].length → (fun k_ => match k_ with | 0 => some 72 | 1 => some 77 | 2 => some 69 | 3 => some 78 | 4 => none | _ => none) j ≠ some k) → k ≠ 14 → k ≠ 15 → updN s_ 15 (.bool true) k = _ := fun k h1 h2 h3 h4 => (updN_ne h4).trans (ho_ k h1 h2 h3)
          rw [hk_ 0 (by decide) (by decide) (by decide) (by decide), hk_ 1 (by decide) (by decide) (by decide) (by decide), hk_ 2 (by decide) (by decide) (by decide) (by decide), hk_ 3 (by decide) (by decide) (by decide) (by decide), hk_ 4 (by decide) (by decide) (by decide) (by decide), hk_ 5 (by decide) (by decide) (by decide) (by decide), hk_ 6 (by decide) (by decide) (by decide) (by decide), hk_ 7 (by decide) (by decide) (by decide) (by decide), hk_ 8 (by decide) (by decide) (by decide) (by decide), hk_ 9 (by decide) (by decide) (by decide) (by decide), hk_ 10 (by decide) (by decide) (by decide) (by decide), hk_ 11 (by decide) (by decide) (by decide) (by decide), hk_ 12 (by decide) (by decide) (by decide) (by decide), hk_ 13 (by decide) (by decide) (by decide) (by decide), hk_ 16 (by decide) (by decide) (by decide) (by decide), hk_ 17 (by decide) (by decide) (by decide) (by decide), hk_ 18 (by decide) (by decide) (by decide) (by decide), hk_ 19 (by decide) (by decide) (by decide) (by decide), hk_ 20 (by decide) (by decide) (by decide) (by decide), hk_ 21 (by decide) (by decide) (by decide) (by decide), hk_ 22 (by decide) (by decide) (by decide) (by decide), hk_ 23 (by decide) (by decide) (by decide) (by decide), hk_ 24 (by decide) (by decide) (by decide) (by decide), hk_ 25 (by decide) (by decide) (by decide) (by decide), hk_ 26 (by decide) (by decide) (by decide) (by decide), hk_ 27 (by decide) (by decide) (by decide) (by decide), hk_ 28 (by decide) (by decide) (by decide) (by decide), hk_ 29 (by decide) (by decide) (by decide) (by decide), hk_ 30 (by decide) (by decide) (by decide) (by decide), hk_ 31 (by decide) (by decide) (by decide) (by decide), hk_ 32 (by decide) (by decide) (by decide) (by decide), hk_ 33 (by decide) (by decide) (by decide) (by decide), hk_ 34 (by decide) (by decide) (by decide) (by decide), hk_ 35 (by decide) (by decide) (by decide) (by decide), hk_ 36 (by decide) (by decide) (by decide) (by decide), hk_ 37 (by decide) (by decide) (by decide) (by decide), hk_ 38 (by decide) (by decide) (by decide) (by decide), hk_ 39 (by decide) (by decide) (by decide) (by decide), hk_ 40 (by decide) (by decide) (by decide) (by decide), hk_ 41 (by decide) (by decide) (by decide) (by decide), hk_ 42 (by decide) (by decide) (by decide) (by decide), hk_ 43 (by decide) (by decide) (by decide) (by decide), hk_ 44 (by decide) (by decide) (by decide) (by decide), hk_ 45 (by decide) (by decide) (by decide) (by decide), hk_ 46 (by decide) (by decide) (by decide) (by decide), hk_ 47 (by decide) (by decide) (by decide) (by decide), hk_ 48 (by decide) (by decide) (by decide) (by decide), hk_ 49 (by decide) (by decide) (by decide) (by decide), hk_ 50 (by decide) (by decide) (by decide) (by decide), hk_ 51 (by decide) (by decide) (by decide) (by decide), hk_ 52 (by decide) (by decide) (by decide) (by decide), hk_ 53 (by decide) (by decide) (by decide) (by decide), hk_ 54 (by decide) (by decide) (by decide) (by decide), hk_ 55 (by decide) (by decide) (by decide) (by decide), hk_ 56 (by decide) (by decide) (by decide) (by decide), hk_ 57 (by decide) (by decide) (by decide) (by decide), hk_ 58 (by decide) (by decide) (by decide) (by decide), hk_ 59 (by decide) (by decide) (by decide) (by decide), hk_ 60 (by decide) (by decide) (by decide) (by decide), hk_ 61 (by decide) (by decide) (by decide) (by decide), hk_ 62 (by decide) (by decide) (by decide) (by decide), hk_ 63 (by decide) (by decide) (by decide) (by decide), hk_ 64 (by decide) (by decide) (by decide) (by decide), hk_ 65 (by decide) (by decide) (by decide) (by decide), hk_ 66 (by decide) (by decide) (by decide) (by decide), hk_ 67 (by decide) (by decide) (by decide) (by decide), hk_ 68 (by decide) (by decide) (by decide) (by decide), hk_ 80 (by decide) (by decide) (by decide) (by decide), hk_ 81 (by decide) (by decide) (by decide) (by decide), hk_ 82 (by decide) (by decide) (by decide) (by decide), hk_ 83 (by decide) (by decide) (by decide) (by decide), hk_ 84 (by decide) (by decide) (by decide) (by decide), hk_ 85 (by decide) (by decide) (by decide) (by decide), hk_ 86 (by decide) (by decide) (by decide) (by decide), hk_ 87 (by decide) (by decide) (by decide) (by decide), hk_ 88 (by decide) (by decide) (by decide) (by decide), hk_ 89 (by decide) (by decide) (by decide) (by decide), hk_ 90 (by decide) (by decide) (by decide) (by decide), hk_ 91 (by decide) (by decide) (by decide) (by decide), hk_ 92 (by decide) (by decide) (by decide) (by decide), hk_ 93 (by decide) (by decide) (by decide) (by decide), hk_ 94 (by decide) (by decide) (by decide) (by decide), hk_ 95 (by decide) (by decide) (by decide) (by decide), hk_ 96 (by decide) (by decide) (by decide) (by decide), hk_ 97 (by decide) (by decide) (by decide) (by decide), hk_ 98 (by decide) (by decide) (by decide) (by decide), hk_ 99 (by decide) (by decide) (by decide) (by decide), hk_ 100 (by decide) (by decide) (by decide) (by decide), hk_ 101 (by decide) (by decide) (by decide) (by decide), hk_ 102 (by decide) (by decide) (by decide) (by decide), hk_ 103 (by decide) (by decide) (by decide) (by decide), hk_ 104 (by decide) (by decide) (by decide) (by decide), hk_ 105 (by decide) (by decide) (by decide) (by decide), hk_ 106 (by decide) (by decide) (by decide) (by decide), hk_ 107 (by decide) (by decide) (by decide) (by decide), hk_ 108 (by decide) (by decide) (by decide) (by decide), hk_ 109 (by decide) (by decide) (by decide) (by decide), hk_ 110 (by decide) (by decide) (by decide) (by decide), hk_ 111 (by decide) (by decide) (by decide) (by decide), updN_self, updN_ne (show 14 ≠ 15 by decide), g14_]
          simp only [Array.getD_eq_getD_getElem?, List.getElem?_toArray, List.getElem?_cons_zero, List.getElem?_cons_succ, Option.getD_some]
          clear hk_ hv_ ho_ g14_ g79_
          generalize updN s_ 15 (.bool true) = t_
          obtain ⟨l2_, hl2_, hV2_⟩ := hn_
          obtain ⟨A2_, c2_, e5_⟩ := Kd.V_slice hV2_
          subst e5_
          have hob_ := blk_below HI.out.o hb_
          have ht0_ := (blk_cell hbt_ 0).trans (show _ = some (.int .i64 0) from rfl)
          have ht1_ := (blk_cell hbt_ 1).trans (show _ = some (.bool false) from rfl)
          have ht2_ := (blk_cell hbt_ 2).trans (show _ = some (.slice A2_ l2_.length c2_) from rfl)
          have hc0_ := (blk_cell hob_ 0).trans (show _ = some (.int .i64 0) from rfl)
          have hc1_ := (blk_cell hob_ 1).trans (show _ = some (.bool false) from rfl)
          have hc2_ := (blk_cell hob_ 2).trans (show _ = some (v 0) from rfl)
          have hf0_ := blk_frozen hob_ 0
          have hf1_ := blk_frozen hob_ 1
          have hf2_ := blk_frozen hob_ 2
          have HOB := Aside0.mk hob_
          have HBB := Aside0.mk hb_
          have HNV := Aside0.mk (show InvNV wc.heap.size W_ true Bt_ (nms 0) (.slice A2_ l2_.length c2_) from ⟨l2_, hl2_, hV2_⟩)
          clear hob_ hbt_ hb_ hV2_ hl2_ hge_
          go_wp2
          go_roundw
          case rel =>
           refine ⟨1, fun j => if j = 0 then .slice A2_ l2_.length c2_ else v j, rfl, by decide, ⟨HI.out.next HBB.out HNV.out (fun k hk _ => ?_) (by simp [World.setCell]) ⟨rfl, rfl, rfl⟩ ?_ (fun j => rfl)⟩⟩
           ·exact (Below.heap_setCell _ _ _ _ hk).trans ((Below.heap_setCell _ _ _ _ hk).trans (Below.heap_setCell _ _ _ _ hk))
           ·exact blk_put (blk_put (blk_put HOB.out 0 _ rfl) 1 _ rfl) 2 _ rfl
          case measure => simp [intOf]
        ·go_upto_region 10 with (fail)
         refine at_mkN (n := 112) (d := _) rfl rfl ?_
         refine region_mixA (by kernel_rfl) [(0, 70), (1, 71), (3, 73), (4, 74), (5, 75), (6, 76), (10, 79)] [2, 7, 8, 9, 12] 11 14 (fun k_ => match k_ with | 0 => some 72 | 1 => some 77 | 2 => some 69 | 3 => some 78 | 4 => none | _ => none) (fun k_ => match k_ with | 0 => .bool a0 | 1 => .slice A1 l1.length c1 | 3 => .slice (some ⟨wc.heap.size + 1, 0, none⟩) 4 4 | 4 => .int .i64 1 | 5 => .pointer (some ⟨wc.heap.size + 1, 4, none⟩) | 6 => .agg #[.int .i64 2, .string a3, .string ⟨#[]⟩, .string a4] | 10 => .bool true | _ => undef) (InvZ wc.heap.size wr D (nms 1)) [[], [], [1], [], [], [3, 4], [5], [0, 2, 6, 2], [7], [8], [8], [], [11, 9, 7, 0, 1, 2, 3, 4, 5, 6, 7, 8, 9, 11], [10, 12, 0, 1, 2, 3, 4, 5, 6, 7, 8, 9, 10, 11, 12]] (by kernel_rfl) (by decide) rfl (by decide) (by decide) (by decide) (by decide) (by decide) (by decide) (by decide) (by decide) (by decide) (by decide) (by decide) (by decide) (by decide) (by decide) (by decide) (by decide) ?_ ?_ ?_ ?_ ?_ ?_
         ·intro i_ hi_ s_ W_ q_ b_ hq_ hz_ hno_ hcb_ hg_ ho_
          rcases (show i_ = 0 ∨ i_ = 1 ∨ i_ = 2 ∨ i_ = 3 ∨ i_ = 4 ∨ i_ = 5 ∨ i_ = 6 from by have : i_ < 7 := hi_; omega) with rfl | rfl | rfl | rfl | rfl | rfl | rfl
          ·refine ⟨_, rfl, rfl, fun _ => rfl, ?_⟩
           have g0_ : s_ 0 = _ := ho_ 0 (by decide) (by decide) (by decide)
           clear hg_ ho_ hno_ hz_ hq_ hcb_
           first | (simp [execOp, mkN_eval, Result.andThen, *]; done) | (go_simp; simp [mkN_get, Result.andThen, *]; done)
          ·refine ⟨_, rfl, rfl, fun _ => rfl, ?_⟩
           have g1_ : s_ 1 = _ := ho_ 1 (by decide) (by decide) (by decide)
           clear hg_ ho_ hno_ hz_ hq_ hcb_
           first | (simp [execOp, mkN_eval, Result.andThen, *]; done) | (go_simp; simp [mkN_get, Result.andThen, *]; done)
          ·refine ⟨_, rfl, rfl, fun _ => rfl, ?_⟩
           have g12_ : s_ 12 = _ := ho_ 12 (by decide) (by decide) (by decide)
           clear hg_ ho_ hno_ hz_ hq_ hcb_
           first | (simp [execOp, mkN_eval, Result.andThen, *]; done) | (go_simp; simp [mkN_get, Result.andThen, *]; done)
          ·refine ⟨_, rfl, rfl, fun _ => rfl, ?_⟩
           have g13_ : s_ 13 = _ := ho_ 13 (by decide) (by decide) (by decide)
           clear hg_ ho_ hno_ hz_ hq_ hcb_
           first | (simp [execOp, mkN_eval, Result.andThen, *]; done) | (go_simp; simp [mkN_get, Result.andThen, *]; done)
          ·refine ⟨_, rfl, rfl, fun _ => rfl, ?_⟩
           have g73_ : s_ 73 = .slice (some ⟨wc.heap.size + 1, 0, none⟩) 4 4 := hg_ 2 (by decide) (by decide)
           have g74_ : s_ 74 = .int .i64 1 := hg_ 3 (by decide) (by decide)
           have hix_ : (Instr.indexAt 35 (.slice (some ⟨wc.heap.size + 1, 0, none⟩) 4 4) (.int .i64 1)).run Tryz.prog W_ = .ok (.pointer (some ⟨wc.heap.size + 1, 4, none⟩)) W_ := by kernel_rfl
           clear hg_ ho_ hno_ hz_ hq_ hcb_
           first | (simp [execOp, mkN_eval, Result.andThen, *]; done) | (go_simp; simp [mkN_get, Result.andThen, *]; done)
          ·refine ⟨_, rfl, rfl, fun _ => rfl, ?_⟩
           have g75_ : s_ 75 = .pointer (some ⟨wc.heap.size + 1, 4, none⟩) := hg_ 4 (by decide) (by decide)
           have hbk_ := HI.out.ask hz_.below
           have hc0_ := (blk_cell hbk_ 4).trans (show _ = some (.int .i64 2) from rfl)
           have hc1_ := (blk_cell hbk_ 5).trans (show _ = some (.string a3) from rfl)
           have hc2_ := (blk_cell hbk_ 6).trans (show _ = some (.string ⟨#[]⟩) from rfl)
           have hc3_ := (blk_cell hbk_ 7).trans (show _ = some (.string a4) from rfl)
           clear hbk_
           clear hg_ ho_ hno_ hz_ hq_ hcb_
           first | (simp [execOp, mkN_eval, Result.andThen, *]; done) | (go_simp; simp [mkN_get, Result.andThen, *]; done)
          ·refine ⟨_, rfl, rfl, fun _ => rfl, ?_⟩
           obtain ⟨v2_, g69_⟩ := hz_.t69 (hcb_ 2 (by decide) (by decide))
           clear hg_ ho_ hno_ hz_ hq_ hcb_
           first | (simp [execOp, mkN_eval, Result.andThen, *]; done) | (go_simp; simp [mkN_get, Result.andThen, *]; done)
         ·exact ⟨below_drew0 wr, 0, fun e => by cases e⟩
         ·intro q_ b_ s_ x_ v_ W_ hx_ hZ_
          have hne_ : ∀ u, u ∉ ([(0, 70), (1, 71), (3, 73), (4, 74), (5, 75), (6, 76), (10, 79)].map (·.2) : List Nat) → updN s_ x_ v_ u = s_ u := fun u hu => updN_ne (fun e => hu (by rw [e]; exact hx_))
          exact hZ_.keep (hne_ 14 (by decide)) (hne_ 69 (by decide)) (hne_ 72 (by decide)) (hne_ 77 (by decide)) (hne_ 78 (by decide))
         ·intro q_ s_ W_ hq_ hZ_ hno_ K_ hK_
          have hq4_ : q_ ≤ 4 := by rcases Nat.lt_or_ge 4 q_ with h | h; exact absurd (by decide) (hno_ 4 h); exact h
          refine wpOp_step rfl (fun K' hK => ?_)
          go_simp
          refine hK _ _ ?_
          show K_ ((mkN 112 _ s_).put (some 14) (.pointer (some ⟨W_.heap.size, 0, none⟩))) (W_.alloc (.cells #[.int .i64 0, .bool false, .slice none 0 0] 40))
          rw [mkN_put _ _ _ (by decide)]
          exact hK_ _ _ (hZ_.made hq4_ (updN_self _ _ _) (updN_ne (by decide)) (updN_ne (by decide)) (updN_ne (by decide)) (updN_ne (by decide))) (fun j hj => updN_ne hj)
         ·intro i_ hi_ b_ s_ W_ hfr_ hg_ ho_ hZ_ K_ hK_
          rcases (show i_ = 0 ∨ i_ = 1 ∨ i_ = 2 ∨ i_ = 3 ∨ i_ = 4 from by have : i_ < 5 := hi_; omega) with rfl | rfl | rfl | rfl | rfl
          ·have g71_ : s_ 71 = .slice A1 l1.length c1 := hg_ 1 (by decide) (by decide)
           obtain ⟨hb_, Bt_, ha_⟩ := hZ_
           clear hg_ ho_ hfr_
           refine wpOp_step rfl (fun K' hK => ?_)
           go_simp
           simp [mkN_get, g71_]
           go_wp2_with (go_at_call 14; refine (laws_added.calls kj15 _ _ l1 D _ (Kd.C_below HR1.out (HI.out.b.trans (hb_.mono HI.out.b.size))) HC1.out HAD.out).mono ?_; rintro e w4 ⟨v4_, rfl, hr4_, hb4_⟩)
           obtain ⟨A4_, c4_, e4_⟩ := Kd.R_slice hr4_
           subst e4_
           show K_ ((mkN 112 _ s_).put (some 72) (.slice A4_ D.length c4_)) w4
           rw [mkN_put _ _ _ (by decide)]
           exact hK_ _ _ ⟨hb_.trans (hb4_.mono hb_.size), ⟨A4_, c4_, updN_self _ _ _, (Kd.R_reads' hr4_).2.1, (Kd.R_reads' hr4_).2.2⟩, Bt_, by rw [updN_ne (show 14 ≠ 72 by decide)]; exact ha_.below hb4_⟩ (fun j hj => updN_ne (fun e => hj (by subst e; rfl)))
          ·have g70_ : s_ 70 = .bool a0 := hg_ 0 (by decide) (by decide)
           have g76_ : s_ 76 = .agg #[.int .i64 2, .string a3, .string ⟨#[]⟩, .string a4] := hg_ 5 (by decide) (by decide)
           obtain ⟨hb_, ⟨A4_, c4_, e4_, hc4_, hC4_⟩, Bt_, ha_⟩ := hZ_
           clear ho_ hfr_ hg_
           refine wpOp_step rfl (fun K' hK => ?_)
           go_simp
           simp [mkN_get, g70_, g76_, e4_]
           go_wp2_with (go_at_call 17; refine (HQS.out 1 (by decide) W_ A4_ c4_ hC4_ hc4_).mono ?_; rintro e w5 ⟨v2_, l2_, rfl, hl2_, hv2_, hb5_⟩)
           show K_ ((mkN 112 _ s_).put (some 77) (invT v2_)) w5
           rw [mkN_put _ _ _ (by decide)]
           exact hK_ _ _ ⟨hb_.trans (hb5_.mono hb_.size), v2_, Bt_, updN_self _ _ _, ⟨l2_, hl2_, Kd.V_mono hv2_ (fun k hk => ⟨by have h1 := blk_lt HI.out.q; have h2 := hb_.size; omega, fun e => by have h1 := blk_lt (ha_ e).2.2; omega⟩)⟩, by rw [updN_ne (show 14 ≠ 77 by decide)]; exact ha_.below hb5_⟩ (fun j hj => updN_ne (fun e => hj (by subst e; rfl)))
          ·obtain ⟨hb_, v2_, Bt_, e2_, hn_, ha_⟩ := hZ_
           clear ho_ hfr_ hg_
           refine wpOp_step rfl (fun K' hK => ?_)
           go_simp
           simp [mkN_get, e2_]
           refine hK _ _ ?_
           show K_ ((mkN 112 _ s_).put (some 69) (invT v2_)) W_
           rw [mkN_put _ _ _ (by decide)]
           exact hK_ _ _ ⟨hb_, v2_, Bt_, updN_self _ _ _, hn_, by rw [updN_ne (show 14 ≠ 69 by decide)]; exact ha_⟩ (fun j hj => updN_ne (fun e => hj (by subst e; rfl)))
          ·obtain ⟨hb_, v2_, Bt_, e2_, hn_, ha_⟩ := hZ_
           clear ho_ hfr_ hg_
           refine wpOp_step rfl (fun K' hK => ?_)
           go_simp
           simp [mkN_get, e2_]
           refine hK _ _ ?_
           show K_ ((mkN 112 _ s_).put (some 78) (.agg #[.int .i64 0, .bool false, v2_])) W_
           rw [mkN_put _ _ _ (by decide)]
           exact hK_ _ _ ⟨hb_, v2_, Bt_, by rw [updN_ne (show 69 ≠ 78 by decide)]; exact e2_, updN_self _ _ _, hn_, by rw [updN_ne (show 14 ≠ 78 by decide)]; exact ha_⟩ (fun j hj => updN_ne (fun e => hj (by subst e; rfl)))
          ·obtain ⟨hb_, v2_, Bt_, e2_, e3_, hn_, ha_⟩ := hZ_
           obtain rfl := hfr_ (by decide)
           clear ho_ hfr_ hg_
           obtain ⟨e14_, hge_, hbt_⟩ := ha_ rfl
           obtain ⟨l2_, hl2_, hV2_⟩ := hn_
           obtain ⟨A2_, c2_, e5_⟩ := Kd.V_slice hV2_
           subst e5_
           refine wpOp_step rfl (fun K' hK => ?_)
           go_simp
           simp [mkN_get, e14_, e3_, run_store3 hbt_ 0 false A2_ l2_.length c2_]
           refine hK _ _ ?_
           refine hK_ _ _ ⟨((hb_.setCell hge_ _).setCell hge_ _).setCell hge_ _, .slice A2_ l2_.length c2_, Bt_, e2_, e14_, hge_, ?_, l2_, hl2_, Kd.V_far (Kd.V_far (Kd.V_far hV2_ (fun k hk => hk.2 rfl) _) (fun k hk => hk.2 rfl) _) (fun k hk => hk.2 rfl) _⟩ (fun j hj => rfl)
           exact blk_put (cs := #[.int .i64 0, .bool false, .slice none 0 0]) (blk_put (cs := #[.int .i64 0, .bool false, .slice none 0 0]) (blk_put hbt_ 0 _ rfl) 1 _ rfl) 2 _ rfl
         ·intro s_ W_ hZ_ hv_ ho_
          have g79_ : s_ 79 = .bool true := hv_ 6 (by decide)
          obtain ⟨hb_, v2_, Bt_, _, g14_, hge_, hbt_, hn_⟩ := hZ_
          refine YieldsIf.wpOp (S := fun x => x = W_) (v := .bool true) rfl (Or.inl ⟨rfl, fun x hx => by simp [execOp, mkN_eval, g79_]⟩) rfl ?_
          show Exit.then _ _ .normal ((mkN 112 _ s_).put (some 15) _) W_
          rw [mkN_put _ _ _ (by decide), mk112_lit]
          have hk_ : ∀ k, k ∉ ([(0, 70), (1, 71), (3, 73), (4, 74), (5, 75), (6, 76), (10, 79)].map (·.2) : List Nat) → (∀ j, j < [2, 7, 8, 9, 12].length → (fun k_ => match k_ with | 0 => some 72 | 1 => some 77 | 2 => some 69 | 3 => some 78 | 4 => none | _ => none) j ≠ some k) → k ≠ 14 → k ≠ 15 → updN s_ 15 (.bool true) k = _ := fun k h1 h2 h3 h4 => (updN_ne h4).trans (ho_ k h1 h2 h3)
          rw [hk_ 0 (by decide) (by decide) (by decide) (by decide), hk_ 1 (by decide) (by decide) (by decide) (by decide), hk_ 2 (by decide) (by decide) (by decide) (by decide), hk_ 3 (by decide) (by decide) (by decide) (by decide), hk_ 4 (by decide) (by decide) (by decide) (by decide), hk_ 5 (by decide) (by decide) (by decide) (by decide), hk_ 6 (by decide) (by decide) (by decide) (by decide), hk_ 7 (by decide) (by decide) (by decide) (by decide), hk_ 8 (by decide) (by decide) (by decide) (by decide), hk_ 9 (by decide) (by decide) (by decide) (by decide), hk_ 10 (by decide) (by decide) (by decide) (by decide), hk_ 11 (by decide) (by decide) (by decide) (by decide), hk_ 12 (by decide) (by decide) (by decide) (by decide), hk_ 13 (by decide) (by decide) (by decide) (by decide), hk_ 16 (by decide) (by decide) (by decide) (by decide), hk_ 17 (by decide) (by decide) (by decide) (by decide), hk_ 18 (by decide) (by decide) (by decide) (by decide), hk_ 19 (by decide) (by decide) (by decide) (by decide), hk_ 20 (by decide) (by decide) (by decide) (by decide), hk_ 21 (by decide) (by decide) (by decide) (by decide), hk_ 22 (by decide) (by decide) (by decide) (by decide), hk_ 23 (by decide) (by decide) (by decide) (by decide), hk_ 24 (by decide) (by decide) (by decide) (by decide), hk_ 25 (by decide) (by decide) (by decide) (by decide), hk_ 26 (by decide) (by decide) (by decide) (by decide), hk_ 27 (by decide) (by decide) (by decide) (by decide), hk_ 28 (by decide) (by decide) (by decide) (by decide), hk_ 29 (by decide) (by decide) (by decide) (by decide), hk_ 30 (by decide) (by decide) (by decide) (by decide), hk_ 31 (by decide) (by decide) (by decide) (by decide), hk_ 32 (by decide) (by decide) (by decide) (by decide), hk_ 33 (by decide) (by decide) (by decide) (by decide), hk_ 34 (by decide) (by decide) (by decide) (by decide), hk_ 35 (by decide) (by decide) (by decide) (by decide), hk_ 36 (by decide) (by decide) (by decide) (by decide), hk_ 37 (by decide) (by decide) (by decide) (by decide), hk_ 38 (by decide) (by decide) (by decide) (by decide), hk_ 39 (by decide) (by decide) (by decide) (by decide), hk_ 40 (by decide) (by decide) (by decide) (by decide), hk_ 41 (by decide) (by decide) (by decide) (by decide), hk_ 42 (by decide) (by decide) (by decide) (by decide), hk_ 43 (by decide) (by decide) (by decide) (by decide), hk_ 44 (by decide) (by decide) (by decide) (by decide), hk_ 45 (by decide) (by decide) (by decide) (by decide), hk_ 46 (by decide) (by decide) (by decide) (by decide), hk_ 47 (by decide) (by decide) (by decide) (by decide), hk_ 48 (by decide) (by decide) (by decide) (by decide), hk_ 49 (by decide) (by decide) (by decide) (by decide), hk_ 50 (by decide) (by decide) (by decide) (by decide), hk_ 51 (by decide) (by decide) (by decide) (by decide), hk_ 52 (by decide) (by decide) (by decide) (by decide), hk_ 53 (by decide) (by decide) (by decide) (by decide), hk_ 54 (by decide) (by decide) (by decide) (by decide), hk_ 55 (by decide) (by decide) (by decide) (by decide), hk_ 56 (by decide) (by decide) (by decide) (by decide), hk_ 57 (by decide) (by decide) (by decide) (by decide), hk_ 58 (by decide) (by decide) (by decide) (by decide), hk_ 59 (by decide) (by decide) (by decide) (by decide), hk_ 60 (by decide) (by decide) (by decide) (by decide), hk_ 61 (by decide) (by decide) (by decide) (by decide), hk_ 62 (by decide) (by decide) (by decide) (by decide), hk_ 63 (by decide) (by decide) (by decide) (by decide), hk_ 64 (by decide) (by decide) (by decide) (by decide), hk_ 65 (by decide) (by decide) (by decide) (by decide), hk_ 66 (by decide) (by decide) (by decide) (by decide), hk_ 67 (by decide) (by decide) (by decide) (by decide), hk_ 68 (by decide) (by decide) (by decide) (by decide), hk_ 80 (by decide) (by decide) (by decide) (by decide), hk_ 81 (by decide) (by decide) (by decide) (by decide), hk_ 82 (by decide) (by decide) (by decide) (by decide), hk_ 83 (by decide) (by decide) (by decide) (by decide), hk_ 84 (by decide) (by decide) (by decide) (by decide), hk_ 85 (by decide) (by decide) (by decide) (by decide), hk_ 86 (by decide) (by decide) (by decide) (by decide), hk_ 87 (by decide) (by decide) (by decide) (by decide), hk_ 88 (by decide) (by decide) (by decide) (by decide), hk_ 89 (by decide) (by decide) (by decide) (by decide), hk_ 90 (by decide) (by decide) (by decide) (by decide), hk_ 91 (by decide) (by decide) (by decide) (by decide), hk_ 92 (by decide) (by decide) (by decide) (by decide), hk_ 93 (by decide) (by decide) (by decide) (by decide), hk_ 94 (by decide) (by decide) (by decide) (by decide), hk_ 95 (by decide) (by decide) (by decide) (by decide), hk_ 96 (by decide) (by decide) (by decide) (by decide), hk_ 97 (by decide) (by decide) (by decide) (by decide), hk_ 98 (by decide) (by decide) (by decide) (by decide), hk_ 99 (by decide) (by decide) (by decide) (by decide), hk_ 100 (by decide) (by decide) (by decide) (by decide), hk_ 101 (by decide) (by decide) (by decide) (by decide), hk_ 102 (by decide) (by decide) (by decide) (by decide), hk_ 103 (by decide) (by decide) (by decide) (by decide), hk_ 104 (by decide) (by decide) (by decide) (by decide), hk_ 105 (by decide) (by decide) (by decide) (by decide), hk_ 106 (by decide) (by decide) (by decide) (by decide), hk_ 107 (by decide) (by decide) (by decide) (by decide), hk_ 108 (by decide) (by decide) (by decide) (by decide), hk_ 109 (by decide) (by decide) (by decide) (by decide), hk_ 110 (by decide) (by decide) (by decide) (by decide), hk_ 111 (by decide) (by decide) (by decide) (by decide), updN_self, updN_ne (show 14 ≠ 15 by decide), g14_]
          simp only [Array.getD_eq_getD_getElem?, List.getElem?_toArray, List.getElem?_cons_zero, List.getElem?_cons_succ, Option.getD_some]
          clear hk_ hv_ ho_ g14_ g79_
          generalize updN s_ 15 (.bool true) = t_
          obtain ⟨l2_, hl2_, hV2_⟩ := hn_
          obtain ⟨A2_, c2_, e5_⟩ := Kd.V_slice hV2_
          subst e5_
          have hob_ := blk_below HI.out.o hb_
          have ht0_ := (blk_cell hbt_ 0).trans (show _ = some (.int .i64 0) from rfl)
          have ht1_ := (blk_cell hbt_ 1).trans (show _ = some (.bool false) from rfl)
          have ht2_ := (blk_cell hbt_ 2).trans (show _ = some (.slice A2_ l2_.length c2_) from rfl)
          have hc0_ := (blk_cell hob_ 3).trans (show _ = some (.int .i64 0) from rfl)
          have hc1_ := (blk_cell hob_ 4).trans (show _ = some (.bool false) from rfl)
          have hc2_ := (blk_cell hob_ 5).trans (show _ = some (v 1) from rfl)
          have hf0_ := blk_frozen hob_ 3
          have hf1_ := blk_frozen hob_ 4
          have hf2_ := blk_frozen hob_ 5
          have HOB := Aside0.mk hob_
          have HBB := Aside0.mk hb_
          have HNV := Aside0.mk (show InvNV wc.heap.size W_ true Bt_ (nms 1) (.slice A2_ l2_.length c2_) from ⟨l2_, hl2_, hV2_⟩)
          clear hob_ hbt_ hb_ hV2_ hl2_ hge_
          go_wp2
          go_roundw
          case rel =>
           refine ⟨2, fun j => if j = 1 then .slice A2_ l2_.length c2_ else v j, rfl, by decide, ⟨HI.out.next HBB.out HNV.out (fun k hk _ => ?_) (by simp [World.setCell]) ⟨rfl, rfl, rfl⟩ ?_ (fun j => rfl)⟩⟩
           ·exact (Below.heap_setCell _ _ _ _ hk).trans ((Below.heap_setCell _ _ _ _ hk).trans (Below.heap_setCell _ _ _ _ hk))
           ·exact blk_put (blk_put (blk_put HOB.out 3 _ rfl) 4 _ rfl) 5 _ rfl
          case measure => simp [intOf]
        ·go_upto_region 10 with (fail)
         refine at_mkN (n := 112) (d := _) rfl rfl ?_
         refine region_mixA (by kernel_rfl) [(0, 70), (1, 71), (3, 73), (4, 74), (5, 75), (6, 76), (10, 79)] [2, 7, 8, 9, 12] 11 14 (fun k_ => match k_ with | 0 => some 72 | 1 => some 77 | 2 => some 69 | 3 => some 78 | 4 => none | _ => none) (fun k_ => match k_ with | 0 => .bool a0 | 1 => .slice A1 l1.length c1 | 3 => .slice (some ⟨wc.heap.size + 1, 0, none⟩) 4 4 | 4 => .int .i64 2 | 5 => .pointer (some ⟨wc.heap.size + 1, 8, none⟩) | 6 => .agg #[.int .i64 3, .string a2, .string ⟨#[]⟩, .string a4] | 10 => .bool true | _ => undef) (InvZ wc.heap.size wr D (nms 2)) [[], [], [1], [], [], [3, 4], [5], [0, 2, 6, 2], [7], [8], [8], [], [11, 9, 7, 0, 1, 2, 3, 4, 5, 6, 7, 8, 9, 11], [10, 12, 0, 1, 2, 3, 4, 5, 6, 7, 8, 9, 10, 11, 12]] (by kernel_rfl) (by decide) rfl (by decide) (by decide) (by decide) (by decide) (by decide) (by decide) (by decide) (by decide) (by decide) (by decide) (by decide) (by decide) (by decide) (by decide) (by decide) (by decide) ?_ ?_ ?_ ?_ ?_ ?_
         ·intro i_ hi_ s_ W_ q_ b_ hq_ hz_ hno_ hcb_ hg_ ho_
          rcases (show i_ = 0 ∨ i_ = 1 ∨ i_ = 2 ∨ i_ = 3 ∨ i_ = 4 ∨ i_ = 5 ∨ i_ = 6 from by have : i_ < 7 := hi_; omega) with rfl | rfl | rfl | rfl | rfl | rfl | rfl
          ·refine ⟨_, rfl, rfl, fun _ => rfl, ?_⟩
           have g0_ : s_ 0 = _ := ho_ 0 (by decide) (by decide) (by decide)
           clear hg_ ho_ hno_ hz_ hq_ hcb_
           first | (simp [execOp, mkN_eval, Result.andThen, *]; done) | (go_simp; simp [mkN_get, Result.andThen, *]; done)
          ·refine ⟨_, rfl, rfl, fun _ => rfl, ?_⟩
           have g1_ : s_ 1 = _ := ho_ 1 (by decide) (by decide) (by decide)
           clear hg_ ho_ hno_ hz_ hq_ hcb_
           first | (simp [execOp, mkN_eval, Result.andThen, *]; done) | (go_simp; simp [mkN_get, Result.andThen, *]; done)
          ·refine ⟨_, rfl, rfl, fun _ => rfl, ?_⟩
           have g12_ : s_ 12 = _ := ho_ 12 (by decide) (by decide) (by decide)
           clear hg_ ho_ hno_ hz_ hq_ hcb_
           first | (simp [execOp, mkN_eval, Result.andThen, *]; done) | (go_simp; simp [mkN_get, Result.andThen, *]; done)
          ·refine ⟨_, rfl, rfl, fun _ => rfl, ?_⟩
           have g13_ : s_ 13 = _ := ho_ 13 (by decide) (by decide) (by decide)
           clear hg_ ho_ hno_ hz_ hq_ hcb_
           first | (simp [execOp, mkN_eval, Result.andThen, *]; done) | (go_simp; simp [mkN_get, Result.andThen, *]; done)
          ·refine ⟨_, rfl, rfl, fun _ => rfl, ?_⟩
           have g73_ : s_ 73 = .slice (some ⟨wc.heap.size + 1, 0, none⟩) 4 4 := hg_ 2 (by decide) (by decide)
           have g74_ : s_ 74 = .int .i64 2 := hg_ 3 (by decide) (by decide)
           have hix_ : (Instr.indexAt 35 (.slice (some ⟨wc.heap.size + 1, 0, none⟩) 4 4) (.int .i64 2)).run Tryz.prog W_ = .ok (.pointer (some ⟨wc.heap.size + 1, 8, none⟩)) W_ := by kernel_rfl
           clear hg_ ho_ hno_ hz_ hq_ hcb_
           first | (simp [execOp, mkN_eval, Result.andThen, *]; done) | (go_simp; simp [mkN_get, Result.andThen, *]; done)
          ·refine ⟨_, rfl, rfl, fun _ => rfl, ?_⟩
           have g75_ : s_ 75 = .pointer (some ⟨wc.heap.size + 1, 8, none⟩) := hg_ 4 (by decide) (by decide)
           have hbk_ := HI.out.ask hz_.below
           have hc0_ := (blk_cell hbk_ 8).trans (show _ = some (.int .i64 3) from rfl)
           have hc1_ := (blk_cell hbk_ 9).trans (show _ = some (.string a2) from rfl)
           have hc2_ := (blk_cell hbk_ 10).trans (show _ = some (.string ⟨#[]⟩) from rfl)
           have hc3_ := (blk_cell hbk_ 11).trans (show _ = some (.string a4) from rfl)
           clear hbk_
           clear hg_ ho_ hno_ hz_ hq_ hcb_
           first | (simp [execOp, mkN_eval, Result.andThen, *]; done) | (go_simp; simp [mkN_get, Result.andThen, *]; done)
          ·refine ⟨_, rfl, rfl, fun _ => rfl, ?_⟩
           obtain ⟨v2_, g69_⟩ := hz_.t69 (hcb_ 2 (by decide) (by decide))
           clear hg_ ho_ hno_ hz_ hq_ hcb_
           first | (simp [execOp, mkN_eval, Result.andThen, *]; done) | (go_simp; simp [mkN_get, Result.andThen, *]; done)
         ·exact ⟨below_drew0 wr, 0, fun e => by cases e⟩
         ·intro q_ b_ s_ x_ v_ W_ hx_ hZ_
          have hne_ : ∀ u, u ∉ ([(0, 70), (1, 71), (3, 73), (4, 74), (5, 75), (6, 76), (10, 79)].map (·.2) : List Nat) → updN s_ x_ v_ u = s_ u := fun u hu => updN_ne (fun e => hu (by rw [e]; exact hx_))
          exact hZ_.keep (hne_ 14 (by decide)) (hne_ 69 (by decide)) (hne_ 72 (by decide)) (hne_ 77 (by decide)) (hne_ 78 (by decide))
         ·intro q_ s_ W_ hq_ hZ_ hno_ K_ hK_
          have hq4_ : q_ ≤ 4 := by rcases Nat.lt_or_ge 4 q_ with h | h; exact absurd (by decide) (hno_ 4 h); exact h
          refine wpOp_step rfl (fun K' hK => ?_)
          go_simp
          refine hK _ _ ?_
          show K_ ((mkN 112 _ s_).put (some 14) (.pointer (some ⟨W_.heap.size, 0, none⟩))) (W_.alloc (.cells #[.int .i64 0, .bool false, .slice none 0 0] 40))
          rw [mkN_put _ _ _ (by decide)]
          exact hK_ _ _ (hZ_.made hq4_ (updN_self _ _ _) (updN_ne (by decide)) (updN_ne (by decide)) (updN_ne (by decide)) (updN_ne (by decide))) (fun j hj => updN_ne hj)
         ·intro i_ hi_ b_ s_ W_ hfr_ hg_ ho_ hZ_ K_ hK_
          rcases (show i_ = 0 ∨ i_ = 1 ∨ i_ = 2 ∨ i_ = 3 ∨ i_ = 4 from by have : i_ < 5 := hi_; omega) with rfl | rfl | rfl | rfl | rfl
          ·have g71_ : s_ 71 = .slice A1 l1.length c1 := hg_ 1 (by decide) (by decide)
           obtain ⟨hb_, Bt_, ha_⟩ := hZ_
           clear hg_ ho_ hfr_
           refine wpOp_step rfl (fun K' hK => ?_)
           go_simp
           simp [mkN_get, g71_]
           go_wp2_with (go_at_call 14; refine (laws_added.calls kj15 _ _ l1 D _ (Kd.C_below HR1.out (HI.out.b.trans (hb_.mono HI.out.b.size))) HC1.out HAD.out).mono ?_; rintro e w4 ⟨v4_, rfl, hr4_, hb4_⟩)
           obtain ⟨A4_, c4_, e4_⟩ := Kd.R_slice hr4_
           subst e4_
           show K_ ((mkN 112 _ s_).put (some 72) (.slice A4_ D.length c4_)) w4
           rw [mkN_put _ _ _ (by decide)]
           exact hK_ _ _ ⟨hb_.trans (hb4_.mono hb_.size), ⟨A4_, c4_, updN_self _ _ _, (Kd.R_reads' hr4_).2.1, (Kd.R_reads' hr4_).2.2⟩, Bt_, by rw [updN_ne (show 14 ≠ 72 by decide)]; exact ha_.below hb4_⟩ (fun j hj => updN_ne (fun e => hj (by subst e; rfl)))
          ·have g70_ : s_ 70 = .bool a0 := hg_ 0 (by decide) (by decide)
           have g76_ : s_ 76 = .agg #[.int .i64 3, .string a2, .string ⟨#[]⟩, .string a4] := hg_ 5 (by decide) (by decide)
           obtain ⟨hb_, ⟨A4_, c4_, e4_, hc4_, hC4_⟩, Bt_, ha_⟩ := hZ_
           clear ho_ hfr_ hg_
           refine wpOp_step rfl (fun K' hK => ?_)
           go_simp
           simp [mkN_get, g70_, g76_, e4_]
           go_wp2_with (go_at_call 17; refine (HQS.out 2 (by decide) W_ A4_ c4_ hC4_ hc4_).mono ?_; rintro e w5 ⟨v2_, l2_, rfl, hl2_, hv2_, hb5_⟩)
           show K_ ((mkN 112 _ s_).put (some 77) (invT v2_)) w5
           rw [mkN_put _ _ _ (by decide)]
           exact hK_ _ _ ⟨hb_.trans (hb5_.mono hb_.size), v2_, Bt_, updN_self _ _ _, ⟨l2_, hl2_, Kd.V_mono hv2_ (fun k hk => ⟨by have h1 := blk_lt HI.out.q; have h2 := hb_.size; omega, fun e => by have h1 := blk_lt (ha_ e).2.2; omega⟩)⟩, by rw [updN_ne (show 14 ≠ 77 by decide)]; exact ha_.below hb5_⟩ (fun j hj => updN_ne (fun e => hj (by subst e; rfl)))
          ·obtain ⟨hb_, v2_, Bt_, e2_, hn_, ha_⟩ := hZ_
           clear ho_ hfr_ hg_
           refine wpOp_step rfl (fun K' hK => ?_)
           go_simp
           simp [mkN_get, e2_]
           refine hK _ _ ?_
           show K_ ((mkN 112 _ s_).put (some 69) (invT v2_)) W_
           rw [mkN_put _ _ _ (by decide)]
           exact hK_ _ _ ⟨hb_, v2_, Bt_, updN_self _ _ _, hn_, by rw [updN_ne (show 14 ≠ 69 by decide)]; exact ha_⟩ (fun j hj => updN_ne (fun e => hj (by subst e; rfl)))
          ·obtain ⟨hb_, v2_, Bt_, e2_, hn_, ha_⟩ := hZ_
           clear ho_ hfr_ hg_
           refine wpOp_step rfl (fun K' hK => ?_)
           go_simp
           simp [mkN_get, e2_]
           refine hK _ _ ?_
           show K_ ((mkN 112 _ s_).put (some 78) (.agg #[.int .i64 0, .bool false, v2_])) W_
           rw [mkN_put _ _ _ (by decide)]
           exact hK_ _ _ ⟨hb_, v2_, Bt_, by rw [updN_ne (show 69 ≠ 78 by decide)]; exact e2_, updN_self _ _ _, hn_, by rw [updN_ne (show 14 ≠ 78 by decide)]; exact ha_⟩ (fun j hj => updN_ne (fun e => hj (by subst e; rfl)))
          ·obtain ⟨hb_, v2_, Bt_, e2_, e3_, hn_, ha_⟩ := hZ_
           obtain rfl := hfr_ (by decide)
           clear ho_ hfr_ hg_
           obtain ⟨e14_, hge_, hbt_⟩ := ha_ rfl
           obtain ⟨l2_, hl2_, hV2_⟩ := hn_
           obtain ⟨A2_, c2_, e5_⟩ := Kd.V_slice hV2_
           subst e5_
           refine wpOp_step rfl (fun K' hK => ?_)
           go_simp
           simp [mkN_get, e14_, e3_, run_store3 hbt_ 0 false A2_ l2_.length c2_]
           refine hK _ _ ?_
           refine hK_ _ _ ⟨((hb_.setCell hge_ _).setCell hge_ _).setCell hge_ _, .slice A2_ l2_.length c2_, Bt_, e2_, e14_, hge_, ?_, l2_, hl2_, Kd.V_far (Kd.V_far (Kd.V_far hV2_ (fun k hk => hk.2 rfl) _) (fun k hk => hk.2 rfl) _) (fun k hk => hk.2 rfl) _⟩ (fun j hj => rfl)
           exact blk_put (cs := #[.int .i64 0, .bool false, .slice none 0 0]) (blk_put (cs := #[.int .i64 0, .bool false, .slice none 0 0]) (blk_put hbt_ 0 _ rfl) 1 _ rfl) 2 _ rfl
         ·intro s_ W_ hZ_ hv_ ho_
          have g79_ : s_ 79 = .bool true := hv_ 6 (by decide)
          obtain ⟨hb_, v2_, Bt_, _, g14_, hge_, hbt_, hn_⟩ := hZ_
          refine YieldsIf.wpOp (S := fun x => x = W_) (v := .bool true) rfl (Or.inl ⟨rfl, fun x hx => by simp [execOp, mkN_eval, g79_]⟩) rfl ?_
          show Exit.then _ _ .normal ((mkN 112 _ s_).put (some 15) _) W_
          rw [mkN_put _ _ _ (by decide), mk112_lit]
          have hk_ : ∀ k, k ∉ ([(0, 70), (1, 71), (3, 73), (4, 74), (5, 75), (6, 76), (10, 79)].map (·.2) : List Nat) → (∀ j, j < [2, 7, 8, 9, 12].length → (fun k_ => match k_ with | 0 => some 72 | 1 => some 77 | 2 => some 69 | 3 => some 78 | 4 => none | _ => none) j ≠ some k) → k ≠ 14 → k ≠ 15 → updN s_ 15 (.bool true) k = _ := fun k h1 h2 h3 h4 => (updN_ne h4).trans (ho_ k h1 h2 h3)
          rw [hk_ 0 (by decide) (by decide) (by decide) (by decide), hk_ 1 (by decide) (by decide) (by decide) (by decide), hk_ 2 (by decide) (by decide) (by decide) (by decide), hk_ 3 (by decide) (by decide) (by decide) (by decide), hk_ 4 (by decide) (by decide) (by decide) (by decide), hk_ 5 (by decide) (by decide) (by decide) (by decide), hk_ 6 (by decide) (by decide) (by decide) (by decide), hk_ 7 (by decide) (by decide) (by decide) (by decide), hk_ 8 (by decide) (by decide) (by decide) (by decide), hk_ 9 (by decide) (by decide) (by decide) (by decide), hk_ 10 (by decide) (by decide) (by decide) (by decide), hk_ 11 (by decide) (by decide) (by decide) (by decide), hk_ 12 (by decide) (by decide) (by decide) (by decide), hk_ 13 (by decide) (by decide) (by decide) (by decide), hk_ 16 (by decide) (by decide) (by decide) (by decide), hk_ 17 (by decide) (by decide) (by decide) (by decide), hk_ 18 (by decide) (by decide) (by decide) (by decide), hk_ 19 (by decide) (by decide) (by decide) (by decide), hk_ 20 (by decide) (by decide) (by decide) (by decide), hk_ 21 (by decide) (by decide) (by decide) (by decide), hk_ 22 (by decide) (by decide) (by decide) (by decide), hk_ 23 (by decide) (by decide) (by decide) (by decide), hk_ 24 (by decide) (by decide) (by decide) (by decide), hk_ 25 (by decide) (by decide) (by decide) (by decide), hk_ 26 (by decide) (by decide) (by decide) (by decide), hk_ 27 (by decide) (by decide) (by decide) (by decide), hk_ 28 (by decide) (by decide) (by decide) (by decide), hk_ 29 (by decide) (by decide) (by decide) (by decide), hk_ 30 (by decide) (by decide) (by decide) (by decide), hk_ 31 (by decide) (by decide) (by decide) (by decide), hk_ 32 (by decide) (by decide) (by decide) (by decide), hk_ 33 (by decide) (by decide) (by decide) (by decide), hk_ 34 (by decide) (by decide) (by decide) (by decide), hk_ 35 (by decide) (by decide) (by decide) (by decide), hk_ 36 (by decide) (by decide) (by decide) (by decide), hk_ 37 (by decide) (by decide) (by decide) (by decide), hk_ 38 (by decide) (by decide) (by decide) (by decide), hk_ 39 (by decide) (by decide) (by decide) (by decide), hk_ 40 (by decide) (by decide) (by decide) (by decide), hk_ 41 (by decide) (by decide) (by decide) (by decide), hk_ 42 (by decide) (by decide) (by decide) (by decide), hk_ 43 (by decide) (by decide) (by decide) (by decide), hk_ 44 (by decide) (by decide) (by decide) (by decide), hk_ 45 (by decide) (by decide) (by decide) (by decide), hk_ 46 (by decide) (by decide) (by decide) (by decide), hk_ 47 (by decide) (by decide) (by decide) (by decide), hk_ 48 (by decide) (by decide) (by decide) (by decide), hk_ 49 (by decide) (by decide) (by decide) (by decide), hk_ 50 (by decide) (by decide) (by decide) (by decide), hk_ 51 (by decide) (by decide) (by decide) (by decide), hk_ 52 (by decide) (by decide) (by decide) (by decide), hk_ 53 (by decide) (by decide) (by decide) (by decide), hk_ 54 (by decide) (by decide) (by decide) (by decide), hk_ 55 (by decide) (by decide) (by decide) (by decide), hk_ 56 (by decide) (by decide) (by decide) (by decide), hk_ 57 (by decide) (by decide) (by decide) (by decide), hk_ 58 (by decide) (by decide) (by decide) (by decide), hk_ 59 (by decide) (by decide) (by decide) (by decide), hk_ 60 (by decide) (by decide) (by decide) (by decide), hk_ 61 (by decide) (by decide) (by decide) (by decide), hk_ 62 (by decide) (by decide) (by decide) (by decide), hk_ 63 (by decide) (by decide) (by decide) (by decide), hk_ 64 (by decide) (by decide) (by decide) (by decide), hk_ 65 (by decide) (by decide) (by decide) (by decide), hk_ 66 (by decide) (by decide) (by decide) (by decide), hk_ 67 (by decide) (by decide) (by decide) (by decide), hk_ 68 (by decide) (by decide) (by decide) (by decide), hk_ 80 (by decide) (by decide) (by decide) (by decide), hk_ 81 (by decide) (by decide) (by decide) (by decide), hk_ 82 (by decide) (by decide) (by decide) (by decide), hk_ 83 (by decide) (by decide) (by decide) (by decide), hk_ 84 (by decide) (by decide) (by decide) (by decide), hk_ 85 (by decide) (by decide) (by decide) (by decide), hk_ 86 (by decide) (by decide) (by decide) (by decide), hk_ 87 (by decide) (by decide) (by decide) (by decide), hk_ 88 (by decide) (by decide) (by decide) (by decide), hk_ 89 (by decide) (by decide) (by decide) (by decide), hk_ 90 (by decide) (by decide) (by decide) (by decide), hk_ 91 (by decide) (by decide) (by decide) (by decide), hk_ 92 (by decide) (by decide) (by decide) (by decide), hk_ 93 (by decide) (by decide) (by decide) (by decide), hk_ 94 (by decide) (by decide) (by decide) (by decide), hk_ 95 (by decide) (by decide) (by decide) (by decide), hk_ 96 (by decide) (by decide) (by decide) (by decide), hk_ 97 (by decide) (by decide) (by decide) (by decide), hk_ 98 (by decide) (by decide) (by decide) (by decide), hk_ 99 (by decide) (by decide) (by decide) (by decide), hk_ 100 (by decide) (by decide) (by decide) (by decide), hk_ 101 (by decide) (by decide) (by decide) (by decide), hk_ 102 (by decide) (by decide) (by decide) (by decide), hk_ 103 (by decide) (by decide) (by decide) (by decide), hk_ 104 (by decide) (by decide) (by decide) (by decide), hk_ 105 (by decide) (by decide) (by decide) (by decide), hk_ 106 (by decide) (by decide) (by decide) (by decide), hk_ 107 (by decide) (by decide) (by decide) (by decide), hk_ 108 (by decide) (by decide) (by decide) (by decide), hk_ 109 (by decide) (by decide) (by decide) (by decide), hk_ 110 (by decide) (by decide) (by decide) (by decide), hk_ 111 (by decide) (by decide) (by decide) (by decide), updN_self, updN_ne (show 14 ≠ 15 by decide), g14_]
          simp only [Array.getD_eq_getD_getElem?, List.getElem?_toArray, List.getElem?_cons_zero, List.getElem?_cons_succ, Option.getD_some]
          clear hk_ hv_ ho_ g14_ g79_
          generalize updN s_ 15 (.bool true) = t_
          obtain ⟨l2_, hl2_, hV2_⟩ := hn_
          obtain ⟨A2_, c2_, e5_⟩ := Kd.V_slice hV2_
          subst e5_
          have hob_ := blk_below HI.out.o hb_
          have ht0_ := (blk_cell hbt_ 0).trans (show _ = some (.int .i64 0) from rfl)
          have ht1_ := (blk_cell hbt_ 1).trans (show _ = some (.bool false) from rfl)
          have ht2_ := (blk_cell hbt_ 2).trans (show _ = some (.slice A2_ l2_.length c2_) from rfl)
          have hc0_ := (blk_cell hob_ 6).trans (show _ = some (.int .i64 0) from rfl)
          have hc1_ := (blk_cell hob_ 7).trans (show _ = some (.bool false) from rfl)
          have hc2_ := (blk_cell hob_ 8).trans (show _ = some (v 2) from rfl)
          have hf0_ := blk_frozen hob_ 6
          have hf1_ := blk_frozen hob_ 7
          have hf2_ := blk_frozen hob_ 8
          have HOB := Aside0.mk hob_
          have HBB := Aside0.mk hb_
          have HNV := Aside0.mk (show InvNV wc.heap.size W_ true Bt_ (nms 2) (.slice A2_ l2_.length c2_) from ⟨l2_, hl2_, hV2_⟩)
          clear hob_ hbt_ hb_ hV2_ hl2_ hge_
          go_wp2
          go_roundw
          case rel =>
           refine ⟨3, fun j => if j = 2 then .slice A2_ l2_.length c2_ else v j, rfl, by decide, ⟨HI.out.next HBB.out HNV.out (fun k hk _ => ?_) (by simp [World.setCell]) ⟨rfl, rfl, rfl⟩ ?_ (fun j => rfl)⟩⟩
           ·exact (Below.heap_setCell _ _ _ _ hk).trans ((Below.heap_setCell _ _ _ _ hk).trans (Below.heap_setCell _ _ _ _ hk))
           ·exact blk_put (blk_put (blk_put HOB.out 6 _ rfl) 7 _ rfl) 8 _ rfl
          case measure => simp [intOf]
        ·go_upto_region 10 with (fail)
         refine at_mkN (n := 112) (d := _) rfl rfl ?_
         refine region_mixA (by kernel_rfl) [(0, 70), (1, 71), (3, 73), (4, 74), (5, 75), (6, 76), (10, 79)] [2, 7, 8, 9, 12] 11 14 (fun k_ => match k_ with | 0 => some 72 | 1 => some 77 | 2 => some 69 | 3 => some 78 | 4 => none | _ => none) (fun k_ => match k_ with | 0 => .bool a0 | 1 => .slice A1 l1.length c1 | 3 => .slice (some ⟨wc.heap.size + 1, 0, none⟩) 4 4 | 4 => .int .i64 3 | 5 => .pointer (some ⟨wc.heap.size + 1, 12, none⟩) | 6 => .agg #[.int .i64 4, .string a3, .string ⟨#[]⟩, .string a4] | 10 => .bool true | _ => undef) (InvZ wc.heap.size wr D (nms 3)) [[], [], [1], [], [], [3, 4], [5], [0, 2, 6, 2], [7], [8], [8], [], [11, 9, 7, 0, 1, 2, 3, 4, 5, 6, 7, 8, 9, 11], [10, 12, 0, 1, 2, 3, 4, 5, 6, 7, 8, 9, 10, 11, 12]] (by kernel_rfl) (by decide) rfl (by decide) (by decide) (by decide) (by decide) (by decide) (by decide) (by decide) (by decide) (by decide) (by decide) (by decide) (by decide) (by decide) (by decide) (by decide) (by decide) ?_ ?_ ?_ ?_ ?_ ?_
         ·intro i_ hi_ s_ W_ q_ b_ hq_ hz_ hno_ hcb_ hg_ ho_
          rcases (show i_ = 0 ∨ i_ = 1 ∨ i_ = 2 ∨ i_ = 3 ∨ i_ = 4 ∨ i_ = 5 ∨ i_ = 6 from by have : i_ < 7 := hi_; omega) with rfl | rfl | rfl | rfl | rfl | rfl | rfl
          ·refine ⟨_, rfl, rfl, fun _ => rfl, ?_⟩
           have g0_ : s_ 0 = _ := ho_ 0 (by decide) (by decide) (by decide)
           clear hg_ ho_ hno_ hz_ hq_ hcb_
           first | (simp [execOp, mkN_eval, Result.andThen, *]; done) | (go_simp; simp [mkN_get, Result.andThen, *]; done)
          ·refine ⟨_, rfl, rfl, fun _ => rfl, ?_⟩
           have g1_ : s_ 1 = _ := ho_ 1 (by decide) (by decide) (by decide)
           clear hg_ ho_ hno_ hz_ hq_ hcb_
           first | (simp [execOp, mkN_eval, Result.andThen, *]; done) | (go_simp; simp [mkN_get, Result.andThen, *]; done)
          ·refine ⟨_, rfl, rfl, fun _ => rfl, ?_⟩
           have g12_ : s_ 12 = _ := ho_ 12 (by decide) (by decide) (by decide)
           clear hg_ ho_ hno_ hz_ hq_ hcb_
           first | (simp [execOp, mkN_eval, Result.andThen, *]; done) | (go_simp; simp [mkN_get, Result.andThen, *]; done)
          ·refine ⟨_, rfl, rfl, fun _ => rfl, ?_⟩
           have g13_ : s_ 13 = _ := ho_ 13 (by decide) (by decide) (by decide)
           clear hg_ ho_ hno_ hz_ hq_ hcb_
           first | (simp [execOp, mkN_eval, Result.andThen, *]; done) | (go_simp; simp [mkN_get, Result.andThen, *]; done)
          ·refine ⟨_, rfl, rfl, fun _ => rfl, ?_⟩
           have g73_ : s_ 73 = .slice (some ⟨wc.heap.size + 1, 0, none⟩) 4 4 := hg_ 2 (by decide) (by decide)
           have g74_ : s_ 74 = .int .i64 3 := hg_ 3 (by decide) (by decide)
           have hix_ : (Instr.indexAt 35 (.slice (some ⟨wc.heap.size + 1, 0, none⟩) 4 4) (.int .i64 3)).run Tryz.prog W_ = .ok (.pointer (some ⟨wc.heap.size + 1, 12, none⟩)) W_ := by kernel_rfl
           clear hg_ ho_ hno_ hz_ hq_ hcb_
           first | (simp [execOp, mkN_eval, Result.andThen, *]; done) | (go_simp; simp [mkN_get, Result.andThen, *]; done)
          ·refine ⟨_, rfl, rfl, fun _ => rfl, ?_⟩
           have g75_ : s_ 75 = .pointer (some ⟨wc.heap.size + 1, 12, none⟩) := hg_ 4 (by decide) (by decide)
           have hbk_ := HI.out.ask hz_.below
           have hc0_ := (blk_cell hbk_ 12).trans (show _ = some (.int .i64 4) from rfl)
           have hc1_ := (blk_cell hbk_ 13).trans (show _ = some (.string a3) from rfl)
           have hc2_ := (blk_cell hbk_ 14).trans (show _ = some (.string ⟨#[]⟩) from rfl)
           have hc3_ := (blk_cell hbk_ 15).trans (show _ = some (.string a4) from rfl)
           clear hbk_
           clear hg_ ho_ hno_ hz_ hq_ hcb_
           first | (simp [execOp, mkN_eval, Result.andThen, *]; done) | (go_simp; simp [mkN_get, Result.andThen, *]; done)
          ·refine ⟨_, rfl, rfl, fun _ => rfl, ?_⟩
           obtain ⟨v2_, g69_⟩ := hz_.t69 (hcb_ 2 (by decide) (by decide))
           clear hg_ ho_ hno_ hz_ hq_ hcb_
           first | (simp [execOp, mkN_eval, Result.andThen, *]; done) | (go_simp; simp [mkN_get, Result.andThen, *]; done)
         ·exact ⟨below_drew0 wr, 0, fun e => by cases e⟩
         ·intro q_ b_ s_ x_ v_ W_ hx_ hZ_
          have hne_ : ∀ u, u ∉ ([(0, 70), (1, 71), (3, 73), (4, 74), (5, 75), (6, 76), (10, 79)].map (·.2) : List Nat) → updN s_ x_ v_ u = s_ u := fun u hu => updN_ne (fun e => hu (by rw [e]; exact hx_))
          exact hZ_.keep (hne_ 14 (by decide)) (hne_ 69 (by decide)) (hne_ 72 (by decide)) (hne_ 77 (by decide)) (hne_ 78 (by decide))
         ·intro q_ s_ W_ hq_ hZ_ hno_ K_ hK_
          have hq4_ : q_ ≤ 4 := by rcases Nat.lt_or_ge 4 q_ with h | h; exact absurd (by decide) (hno_ 4 h); exact h
          refine wpOp_step rfl (fun K' hK => ?_)
          go_simp
          refine hK _ _ ?_
          show K_ ((mkN 112 _ s_).put (some 14) (.pointer (some ⟨W_.heap.size, 0, none⟩))) (W_.alloc (.cells #[.int .i64 0, .bool false, .slice none 0 0] 40))
          rw [mkN_put _ _ _ (by decide)]
          exact hK_ _ _ (hZ_.made hq4_ (updN_self _ _ _) (updN_ne (by decide)) (updN_ne (by decide)) (updN_ne (by decide)) (updN_ne (by decide))) (fun j hj => updN_ne hj)
         ·intro i_ hi_ b_ s_ W_ hfr_ hg_ ho_ hZ_ K_ hK_
          rcases (show i_ = 0 ∨ i_ = 1 ∨ i_ = 2 ∨ i_ = 3 ∨ i_ = 4 from by have : i_ < 5 := hi_; omega) with rfl | rfl | rfl | rfl | rfl
          ·have g71_ : s_ 71 = .slice A1 l1.length c1 := hg_ 1 (by decide) (by decide)
           obtain ⟨hb_, Bt_, ha_⟩ := hZ_
           clear hg_ ho_ hfr_
           refine wpOp_step rfl (fun K' hK => ?_)
           go_simp
           simp [mkN_get, g71_]
           go_wp2_with (go_at_call 14; refine (laws_added.calls kj15 _ _ l1 D _ (Kd.C_below HR1.out (HI.out.b.trans (hb_.mono HI.out.b.size))) HC1.out HAD.out).mono ?_; rintro e w4 ⟨v4_, rfl, hr4_, hb4_⟩)
           obtain ⟨A4_, c4_, e4_⟩ := Kd.R_slice hr4_
           subst e4_
           show K_ ((mkN 112 _ s_).put (some 72) (.slice A4_ D.length c4_)) w4
           rw [mkN_put _ _ _ (by decide)]
           exact hK_ _ _ ⟨hb_.trans (hb4_.mono hb_.size), ⟨A4_, c4_, updN_self _ _ _, (Kd.R_reads' hr4_).2.1, (Kd.R_reads' hr4_).2.2⟩, Bt_, by rw [updN_ne (show 14 ≠ 72 by decide)]; exact ha_.below hb4_⟩ (fun j hj => updN_ne (fun e => hj (by subst e; rfl)))
          ·have g70_ : s_ 70 = .bool a0 := hg_ 0 (by decide) (by decide)
           have g76_ : s_ 76 = .agg #[.int .i64 4, .string a3, .string ⟨#[]⟩, .string a4] := hg_ 5 (by decide) (by decide)
           obtain ⟨hb_, ⟨A4_, c4_, e4_, hc4_, hC4_⟩, Bt_, ha_⟩ := hZ_
           clear ho_ hfr_ hg_
           refine wpOp_step rfl (fun K' hK => ?_)
           go_simp
           simp [mkN_get, g70_, g76_, e4_]
           go_wp2_with (go_at_call 17; refine (HQS.out 3 (by decide) W_ A4_ c4_ hC4_ hc4_).mono ?_; rintro e w5 ⟨v2_, l2_, rfl, hl2_, hv2_, hb5_⟩)
           show K_ ((mkN 112 _ s_).put (some 77) (invT v2_)) w5
           rw [mkN_put _ _ _ (by decide)]
           exact hK_ _ _ ⟨hb_.trans (hb5_.mono hb_.size), v2_, Bt_, updN_self _ _ _, ⟨l2_, hl2_, Kd.V_mono hv2_ (fun k hk => ⟨by have h1 := blk_lt HI.out.q; have h2 := hb_.size; omega, fun e => by have h1 := blk_lt (ha_ e).2.2; omega⟩)⟩, by rw [updN_ne (show 14 ≠ 77 by decide)]; exact ha_.below hb5_⟩ (fun j hj => updN_ne (fun e => hj (by subst e; rfl)))
          ·obtain ⟨hb_, v2_, Bt_, e2_, hn_, ha_⟩ := hZ_
           clear ho_ hfr_ hg_
           refine wpOp_step rfl (fun K' hK => ?_)
           go_simp
           simp [mkN_get, e2_]
           refine hK _ _ ?_
           show K_ ((mkN 112 _ s_).put (some 69) (invT v2_)) W_
           rw [mkN_put _ _ _ (by decide)]
           exact hK_ _ _ ⟨hb_, v2_, Bt_, updN_self _ _ _, hn_, by rw [updN_ne (show 14 ≠ 69 by decide)]; exact ha_⟩ (fun j hj => updN_ne (fun e => hj (by subst e; rfl)))
          ·obtain ⟨hb_, v2_, Bt_, e2_, hn_, ha_⟩ := hZ_
           clear ho_ hfr_ hg_
           refine wpOp_step rfl (fun K' hK => ?_)
           go_simp
           simp [mkN_get, e2_]
           refine hK _ _ ?_
           show K_ ((mkN 112 _ s_).put (some 78) (.agg #[.int .i64 0, .bool false, v2_])) W_
           rw [mkN_put _ _ _ (by decide)]
           exact hK_ _ _ ⟨hb_, v2_, Bt_, by rw [updN_ne (show 69 ≠ 78 by decide)]; exact e2_, updN_self _ _ _, hn_, by rw [updN_ne (show 14 ≠ 78 by decide)]; exact ha_⟩ (fun j hj => updN_ne (fun e => hj (by subst e; rfl)))
          ·obtain ⟨hb_, v2_, Bt_, e2_, e3_, hn_, ha_⟩ := hZ_
           obtain rfl := hfr_ (by decide)
           clear ho_ hfr_ hg_
           obtain ⟨e14_, hge_, hbt_⟩ := ha_ rfl
           obtain ⟨l2_, hl2_, hV2_⟩ := hn_
           obtain ⟨A2_, c2_, e5_⟩ := Kd.V_slice hV2_
           subst e5_
           refine wpOp_step rfl (fun K' hK => ?_)
           go_simp
           simp [mkN_get, e14_, e3_, run_store3 hbt_ 0 false A2_ l2_.length c2_]
           refine hK _ _ ?_
           refine hK_ _ _ ⟨((hb_.setCell hge_ _).setCell hge_ _).setCell hge_ _, .slice A2_ l2_.length c2_, Bt_, e2_, e14_, hge_, ?_, l2_, hl2_, Kd.V_far (Kd.V_far (Kd.V_far hV2_ (fun k hk => hk.2 rfl) _) (fun k hk => hk.2 rfl) _) (fun k hk => hk.2 rfl) _⟩ (fun j hj => rfl)
           exact blk_put (cs := #[.int .i64 0, .bool false, .slice none 0 0]) (blk_put (cs := #[.int .i64 0, .bool false, .slice none 0 0]) (blk_put hbt_ 0 _ rfl) 1 _ rfl) 2 _ rfl
         ·intro s_ W_ hZ_ hv_ ho_
          have g79_ : s_ 79 = .bool true := hv_ 6 (by decide)
          obtain ⟨hb_, v2_, Bt_, _, g14_, hge_, hbt_, hn_⟩ := hZ_
          refine YieldsIf.wpOp (S := fun x => x = W_) (v := .bool true) rfl (Or.inl ⟨rfl, fun x hx => by simp [execOp, mkN_eval, g79_]⟩) rfl ?_
          show Exit.then _ _ .normal ((mkN 112 _ s_).put (some 15) _) W_
          rw [mkN_put _ _ _ (by decide), mk112_lit]
          have hk_ : ∀ k, k ∉ ([(0, 70), (1, 71), (3, 73), (4, 74), (5, 75), (6, 76), (10, 79)].map (·.2) : List Nat) → (∀ j, j < [2, 7, 8, 9, 12].length → (fun k_ => match k_ with | 0 => some 72 | 1 => some 77 | 2 => some 69 | 3 => some 78 | 4 => none | _ => none) j ≠ some k) → k ≠ 14 → k ≠ 15 → updN s_ 15 (.bool true) k = _ := fun k h1 h2 h3 h4 => (updN_ne h4).trans (ho_ k h1 h2 h3)
          rw [hk_ 0 (by decide) (by decide) (by decide) (by decide), hk_ 1 (by decide) (by decide) (by decide) (by decide), hk_ 2 (by decide) (by decide) (by decide) (by decide), hk_ 3 (by decide) (by decide) (by decide) (by decide), hk_ 4 (by decide) (by decide) (by decide) (by decide), hk_ 5 (by decide) (by decide) (by decide) (by decide), hk_ 6 (by decide) (by decide) (by decide) (by decide), hk_ 7 (by decide) (by decide) (by decide) (by decide), hk_ 8 (by decide) (by decide) (by decide) (by decide), hk_ 9 (by decide) (by decide) (by decide) (by decide), hk_ 10 (by decide) (by decide) (by decide) (by decide), hk_ 11 (by decide) (by decide) (by decide) (by decide), hk_ 12 (by decide) (by decide) (by decide) (by decide), hk_ 13 (by decide) (by decide) (by decide) (by decide), hk_ 16 (by decide) (by decide) (by decide) (by decide), hk_ 17 (by decide) (by decide) (by decide) (by decide), hk_ 18 (by decide) (by decide) (by decide) (by decide), hk_ 19 (by decide) (by decide) (by decide) (by decide), hk_ 20 (by decide) (by decide) (by decide) (by decide), hk_ 21 (by decide) (by decide) (by decide) (by decide), hk_ 22 (by decide) (by decide) (by decide) (by decide), hk_ 23 (by decide) (by decide) (by decide) (by decide), hk_ 24 (by decide) (by decide) (by decide) (by decide), hk_ 25 (by decide) (by decide) (by decide) (by decide), hk_ 26 (by decide) (by decide) (by decide) (by decide), hk_ 27 (by decide) (by decide) (by decide) (by decide), hk_ 28 (by decide) (by decide) (by decide) (by decide), hk_ 29 (by decide) (by decide) (by decide) (by decide), hk_ 30 (by decide) (by decide) (by decide) (by decide), hk_ 31 (by decide) (by decide) (by decide) (by decide), hk_ 32 (by decide) (by decide) (by decide) (by decide), hk_ 33 (by decide) (by decide) (by decide) (by decide), hk_ 34 (by decide) (by decide) (by decide) (by decide), hk_ 35 (by decide) (by decide) (by decide) (by decide), hk_ 36 (by decide) (by decide) (by decide) (by decide), hk_ 37 (by decide) (by decide) (by decide) (by decide), hk_ 38 (by decide) (by decide) (by decide) (by decide), hk_ 39 (by decide) (by decide) (by decide) (by decide), hk_ 40 (by decide) (by decide) (by decide) (by decide), hk_ 41 (by decide) (by decide) (by decide) (by decide), hk_ 42 (by decide) (by decide) (by decide) (by decide), hk_ 43 (by decide) (by decide) (by decide) (by decide), hk_ 44 (by decide) (by decide) (by decide) (by decide), hk_ 45 (by decide) (by decide) (by decide) (by decide), hk_ 46 (by decide) (by decide) (by decide) (by decide), hk_ 47 (by decide) (by decide) (by decide) (by decide), hk_ 48 (by decide) (by decide) (by decide) (by decide), hk_ 49 (by decide) (by decide) (by decide) (by decide), hk_ 50 (by decide) (by decide) (by decide) (by decide), hk_ 51 (by decide) (by decide) (by decide) (by decide), hk_ 52 (by decide) (by decide) (by decide) (by decide), hk_ 53 (by decide) (by decide) (by decide) (by decide), hk_ 54 (by decide) (by decide) (by decide) (by decide), hk_ 55 (by decide) (by decide) (by decide) (by decide), hk_ 56 (by decide) (by decide) (by decide) (by decide), hk_ 57 (by decide) (by decide) (by decide) (by decide), hk_ 58 (by decide) (by decide) (by decide) (by decide), hk_ 59 (by decide) (by decide) (by decide) (by decide), hk_ 60 (by decide) (by decide) (by decide) (by decide), hk_ 61 (by decide) (by decide) (by decide) (by decide), hk_ 62 (by decide) (by decide) (by decide) (by decide), hk_ 63 (by decide) (by decide) (by decide) (by decide), hk_ 64 (by decide) (by decide) (by decide) (by decide), hk_ 65 (by decide) (by decide) (by decide) (by decide), hk_ 66 (by decide) (by decide) (by decide) (by decide), hk_ 67 (by decide) (by decide) (by decide) (by decide), hk_ 68 (by decide) (by decide) (by decide) (by decide), hk_ 80 (by decide) (by decide) (by decide) (by decide), hk_ 81 (by decide) (by decide) (by decide) (by decide), hk_ 82 (by decide) (by decide) (by decide) (by decide), hk_ 83 (by decide) (by decide) (by decide) (by decide), hk_ 84 (by decide) (by decide) (by decide) (by decide), hk_ 85 (by decide) (by decide) (by decide) (by decide), hk_ 86 (by decide) (by decide) (by decide) (by decide), hk_ 87 (by decide) (by decide) (by decide) (by decide), hk_ 88 (by decide) (by decide) (by decide) (by decide), hk_ 89 (by decide) (by decide) (by decide) (by decide), hk_ 90 (by decide) (by decide) (by decide) (by decide), hk_ 91 (by decide) (by decide) (by decide) (by decide), hk_ 92 (by decide) (by decide) (by decide) (by decide), hk_ 93 (by decide) (by decide) (by decide) (by decide), hk_ 94 (by decide) (by decide) (by decide) (by decide), hk_ 95 (by decide) (by decide) (by decide) (by decide), hk_ 96 (by decide) (by decide) (by decide) (by decide), hk_ 97 (by decide) (by decide) (by decide) (by decide), hk_ 98 (by decide) (by decide) (by decide) (by decide), hk_ 99 (by decide) (by decide) (by decide) (by decide), hk_ 100 (by decide) (by decide) (by decide) (by decide), hk_ 101 (by decide) (by decide) (by decide) (by decide), hk_ 102 (by decide) (by decide) (by decide) (by decide), hk_ 103 (by decide) (by decide) (by decide) (by decide), hk_ 104 (by decide) (by decide) (by decide) (by decide), hk_ 105 (by decide) (by decide) (by decide) (by decide), hk_ 106 (by decide) (by decide) (by decide) (by decide), hk_ 107 (by decide) (by decide) (by decide) (by decide), hk_ 108 (by decide) (by decide) (by decide) (by decide), hk_ 109 (by decide) (by decide) (by decide) (by decide), hk_ 110 (by decide) (by decide) (by decide) (by decide), hk_ 111 (by decide) (by decide) (by decide) (by decide), updN_self, updN_ne (show 14 ≠ 15 by decide), g14_]
          simp only [Array.getD_eq_getD_getElem?, List.getElem?_toArray, List.getElem?_cons_zero, List.getElem?_cons_succ, Option.getD_some]
          clear hk_ hv_ ho_ g14_ g79_
          generalize updN s_ 15 (.bool true) = t_
          obtain ⟨l2_, hl2_, hV2_⟩ := hn_
          obtain ⟨A2_, c2_, e5_⟩ := Kd.V_slice hV2_
          subst e5_
          have hob_ := blk_below HI.out.o hb_
          have ht0_ := (blk_cell hbt_ 0).trans (show _ = some (.int .i64 0) from rfl)
          have ht1_ := (blk_cell hbt_ 1).trans (show _ = some (.bool false) from rfl)
          have ht2_ := (blk_cell hbt_ 2).trans (show _ = some (.slice A2_ l2_.length c2_) from rfl)
          have hc0_ := (blk_cell hob_ 9).trans (show _ = some (.int .i64 0) from rfl)
          have hc1_ := (blk_cell hob_ 10).trans (show _ = some (.bool false) from rfl)
          have hc2_ := (blk_cell hob_ 11).trans (show _ = some (v 3) from rfl)
          have hf0_ := blk_frozen hob_ 9
          have hf1_ := blk_frozen hob_ 10
          have hf2_ := blk_frozen hob_ 11
          have HOB := Aside0.mk hob_
          have HBB := Aside0.mk hb_
          have HNV := Aside0.mk (show InvNV wc.heap.size W_ true Bt_ (nms 3) (.slice A2_ l2_.length c2_) from ⟨l2_, hl2_, hV2_⟩)
          clear hob_ hbt_ hb_ hV2_ hl2_ hge_
          go_wp2
          go_roundw
          case rel =>
           refine ⟨4, fun j => if j = 3 then .slice A2_ l2_.length c2_ else v j, rfl, by decide, ⟨HI.out.next HBB.out HNV.out (fun k hk _ => ?_) (by simp [World.setCell]) ⟨rfl, rfl, rfl⟩ ?_ (fun j => rfl)⟩⟩
           ·exact (Below.heap_setCell _ _ _ _ hk).trans ((Below.heap_setCell _ _ _ _ hk).trans (Below.heap_setCell _ _ _ _ hk))
           ·exact blk_put (blk_put (blk_put HOB.out 9 _ rfl) 10 _ rfl) 11 _ rfl
          case measure => simp [intOf]
        ·go_upto_region 14 with (fail)
         obtain ⟨l0_, p0_, V0_⟩ := HI.out.r 0 (by decide)
         obtain ⟨A0_, c0_, e0_⟩ := Kd.V_slice V0_
         obtain ⟨l1_, p1_, V1_⟩ := HI.out.r 1 (by decide)
         obtain ⟨A1_, c1_, e1_⟩ := Kd.V_slice V1_
         obtain ⟨l2_, p2_, V2_⟩ := HI.out.r 2 (by decide)
         obtain ⟨A2_, c2_, e2_⟩ := Kd.V_slice V2_
         obtain ⟨l3_, p3_, V3_⟩ := HI.out.r 3 (by decide)
         obtain ⟨A3_, c3_, e3_⟩ := Kd.V_slice V3_
         have HOB := Aside0.mk (show wr.heap[wc.heap.size]? = some (.cells #[.int .i64 0, .bool false, .slice A0_ l0_.length c0_, .int .i64 0, .bool false, .slice A1_ l1_.length c1_, .int .i64 0, .bool false, .slice A2_ l2_.length c2_, .int .i64 0, .bool false, .slice A3_ l3_.length c3_] 47 (0, 0)) from by rw [← e0_, ← e1_, ← e2_, ← e3_]; exact HI.out.o)
         have hlen : ∀ j, j < 4 → (nms j).length < 9223372036854775807 := fun j hj => by
          rw [HNM.out]
          match j, hj with
          | 0, _ => exact question_few (k := kj15) (lv := 20) (b := a0) (D := D) (op := 1) (a := a2) (c := ⟨#[]⟩) (d := a4) (by decide) (by decide) (by decide) (question_yes kj15 20 a0 D 1 a2 ⟨#[]⟩ a4 (by decide) (by decide) HOK.out.1 (by decide))
          | 1, _ => exact question_few (k := kj15) (lv := 20) (b := a0) (D := D) (op := 2) (a := a3) (c := ⟨#[]⟩) (d := a4) (by decide) (by decide) (by decide) (question_yes kj15 20 a0 D 2 a3 ⟨#[]⟩ a4 (by decide) (by decide) HOK.out.1 (by decide))
          | 2, _ => exact question_few (k := kj15) (lv := 20) (b := a0) (D := D) (op := 3) (a := a2) (c := ⟨#[]⟩) (d := a4) (by decide) (by decide) (by decide) (question_yes kj15 20 a0 D 3 a2 ⟨#[]⟩ a4 (by decide) (by decide) HOK.out.1 (by decide))
          | 3, _ => exact question_few (k := kj15) (lv := 20) (b := a0) (D := D) (op := 4) (a := a3) (c := ⟨#[]⟩) (d := a4) (by decide) (by decide) (by decide) (question_yes kj15 20 a0 D 4 a3 ⟨#[]⟩ a4 (by decide) (by decide) HOK.out.1 (by decide))
         have hT := HOK.out.2
         unfold inverse_rest.T at hT
         rw [Bool.and_eq_true, beq_iff_eq, beq_iff_eq] at hT
         have d0_ : decide (a3 ∈ l0_) = decide (a3 ∈ nms 0) := by rw [decide_eq_decide]; exact p0_.mem_iff
         have d1_ : decide (a2 ∈ l1_) = decide (a2 ∈ nms 1) := by rw [decide_eq_decide]; exact p1_.mem_iff
         have d2_ : decide (a3 ∈ l2_) = decide (a3 ∈ nms 2) := by rw [decide_eq_decide]; exact p2_.mem_iff
         have d3_ : decide (a2 ∈ l3_) = decide (a2 ∈ nms 3) := by rw [decide_eq_decide]; exact p3_.mem_iff
         rw [HNM.out] at d0_ d1_ d2_ d3_
         obtain ⟨B1, hB1⟩ : ∃ B1, B1 = decide (a3 ∈ l0_) := ⟨_, rfl⟩
         obtain ⟨B2, hB2⟩ : ∃ B2, B2 = decide (a3 ∈ l2_) := ⟨_, rfl⟩
         have t1_ : decide (a2 ∈ l1_) = B1 := by rw [hB1, d0_, d1_]; exact hT.1.symm
         have t3_ : decide (a2 ∈ l3_) = B2 := by rw [hB2, d2_, d3_]; exact hT.2.symm
         have HH0 := Aside0.mk (show ∀ W, Below wr.heap.size wr W → Calls Tryz.prog 18 #[.slice A0_ l0_.length c0_, .string a3] W fun e w' => e = .returned (.bool B1) ∧ Drawn0 W w' from fun W hb => by
          rw [e0_] at V0_
          have h1 := Kd.V_reads' V0_
          obtain ⟨kk, hk⟩ := (has_any l0_ a3 (by rw [p0_.length_eq]; exact hlen 0 (by decide))).rounds
          rw [← hB1] at hk
          exact laws_has.calls kk A0_ c0_ l0_ a3 B1 W (Kd.C_below h1.2.2 hb) h1.2.1 hk)
         have HH1 := Aside0.mk (show ∀ W, Below wr.heap.size wr W → Calls Tryz.prog 18 #[.slice A1_ l1_.length c1_, .string a2] W fun e w' => e = .returned (.bool B1) ∧ Drawn0 W w' from fun W hb => by
          rw [e1_] at V1_
          have h1 := Kd.V_reads' V1_
          obtain ⟨kk, hk⟩ := (has_any l1_ a2 (by rw [p1_.length_eq]; exact hlen 1 (by decide))).rounds
          rw [t1_] at hk
          exact laws_has.calls kk A1_ c1_ l1_ a2 B1 W (Kd.C_below h1.2.2 hb) h1.2.1 hk)
         have HH2 := Aside0.mk (show ∀ W, Below wr.heap.size wr W → Calls Tryz.prog 18 #[.slice A2_ l2_.length c2_, .string a3] W fun e w' => e = .returned (.bool B2) ∧ Drawn0 W w' from fun W hb => by
          rw [e2_] at V2_
          have h1 := Kd.V_reads' V2_
          obtain ⟨kk, hk⟩ := (has_any l2_ a3 (by rw [p2_.length_eq]; exact hlen 2 (by decide))).rounds
          rw [← hB2] at hk
          exact laws_has.calls kk A2_ c2_ l2_ a3 B2 W (Kd.C_below h1.2.2 hb) h1.2.1 hk)
         have HH3 := Aside0.mk (show ∀ W, Below wr.heap.size wr W → Calls Tryz.prog 18 #[.slice A3_ l3_.length c3_, .string a2] W fun e w' => e = .returned (.bool B2) ∧ Drawn0 W w' from fun W hb => by
          rw [e3_] at V3_
          have h1 := Kd.V_reads' V3_
          obtain ⟨kk, hk⟩ := (has_any l3_ a2 (by rw [p3_.length_eq]; exact hlen 3 (by decide))).rounds
          rw [t3_] at hk
          exact laws_has.calls kk A3_ c3_ l3_ a2 B2 W (Kd.C_below h1.2.2 hb) h1.2.1 hk)
         have HAW := Aside0.mk (show ∀ W, Calls Tryz.prog 12 #[] W fun e w' => e = .returned (.bool true) ∧ Below W.heap.size W w' from fun W => laws_awakeRoles.calls 5 true W (by decide +kernel))
         clear V0_ V1_ V2_ V3_ p0_ p1_ p2_ p3_ e0_ e1_ e2_ e3_ d0_ d1_ d2_ d3_ hT hlen hB1 hB2 t1_ t3_
         refine at_mkN (n := 112) (d := _) rfl rfl ?_
         refine region_mix3 (by kernel_rfl) [(0, 85), (1, 86), (2, 87), (3, 88), (5, 90), (6, 91), (7, 92), (8, 93), (10, 95), (11, 96), (12, 97), (13, 98), (14, 99), (15, 100), (17, 102), (18, 103), (19, 104), (20, 105), (22, 107), (23, 108), (24, 109), (26, 111)] [4, 9, 16, 21, 25] (fun k_ => match k_ with | 0 => some 89 | 1 => some 94 | 2 => some 101 | 3 => some 106 | 4 => some 110 | _ => none) (fun k_ => match k_ with | 0 => .pointer (some ⟨wc.heap.size, 0, none⟩) | 1 => .pointer (some ⟨wc.heap.size, 2, none⟩) | 2 => .slice A0_ l0_.length c0_ | 3 => .string a3 | 5 => .pointer (some ⟨wc.heap.size, 3, none⟩) | 6 => .pointer (some ⟨wc.heap.size, 5, none⟩) | 7 => .slice A1_ l1_.length c1_ | 8 => .string a2 | 10 => .bool true | 11 => .bool true | 12 => .pointer (some ⟨wc.heap.size, 6, none⟩) | 13 => .pointer (some ⟨wc.heap.size, 8, none⟩) | 14 => .slice A2_ l2_.length c2_ | 15 => .string a3 | 17 => .pointer (some ⟨wc.heap.size, 9, none⟩) | 18 => .pointer (some ⟨wc.heap.size, 11, none⟩) | 19 => .slice A3_ l3_.length c3_ | 20 => .string a2 | 22 => .bool true | 23 => .bool true | 24 => .bool true | 26 => .bool true | _ => undef) (fun i_ s_ W_ => Below wr.heap.size wr W_ ∧ (1 ≤ i_ → s_ 89 = .bool B1) ∧ (2 ≤ i_ → s_ 94 = .bool B1) ∧ (3 ≤ i_ → s_ 101 = .bool B2) ∧ (4 ≤ i_ → s_ 106 = .bool B2) ∧ (5 ≤ i_ → s_ 110 = .bool true)) [[], [0], [1], [], [2, 3], [], [5], [6], [], [7, 8, 4], [4, 9], [10, 9], [11], [12, 11], [13, 11], [11], [14, 15, 11, 11], [11], [17, 11], [18, 11], [11], [19, 20, 16, 11], [16, 21, 11], [11, 22], [23, 21], [24, 24], [24, 25], [26, 25, 0, 1, 2, 3, 4, 5, 6, 7, 8, 9, 10, 11, 12, 13, 14, 15, 16, 17, 18, 19, 20, 21, 22, 23, 24, 25, 26]] (by kernel_rfl) (by decide) rfl (by decide) (by decide) (by decide) (by decide) (by decide) (by decide) (by decide) (by decide) (by decide) (by decide) (by decide) ?_ ?_ ?_ ?_ ?_
         ·intro i_ hi_ s_ W_ q_ hq_ hz_ hno_ hcb_ hg_ ho_
          rcases (show i_ = 0 ∨ i_ = 1 ∨ i_ = 2 ∨ i_ = 3 ∨ i_ = 4 ∨ i_ = 5 ∨ i_ = 6 ∨ i_ = 7 ∨ i_ = 8 ∨ i_ = 9 ∨ i_ = 10 ∨ i_ = 11 ∨ i_ = 12 ∨ i_ = 13 ∨ i_ = 14 ∨ i_ = 15 ∨ i_ = 16 ∨ i_ = 17 ∨ i_ = 18 ∨ i_ = 19 ∨ i_ = 20 ∨ i_ = 21 from by have : i_ < 22 := hi_; omega) with rfl | rfl | rfl | rfl | rfl | rfl | rfl | rfl | rfl | rfl | rfl | rfl | rfl | rfl | rfl | rfl | rfl | rfl | rfl | rfl | rfl | rfl
          ·refine ⟨_, rfl, rfl, rfl, ?_⟩
           have g11_ : s_ 11 = _ := ho_ 11 (by decide) (by decide)
           have hix_ : (Instr.indexAt 47 (.pointer (some ⟨wc.heap.size, 0, none⟩)) (.int .i64 0)).run Tryz.prog W_ = .ok (.pointer (some ⟨wc.heap.size, 0, none⟩)) W_ := by kernel_rfl
           clear hg_ ho_ hno_ hz_ hq_ hcb_
           first | (simp [execOp, mkN_eval, Result.andThen, *]; done) | (go_simp; simp [mkN_get, Result.andThen, *]; done)
          ·refine ⟨_, rfl, rfl, rfl, ?_⟩
           have g85_ : s_ 85 = .pointer (some ⟨wc.heap.size, 0, none⟩) := hg_ 0 (by decide) (by decide)
           clear hg_ ho_ hno_ hz_ hq_ hcb_
           first | (simp [execOp, mkN_eval, Result.andThen, *]; done) | (go_simp; simp [mkN_get, Result.andThen, *]; done)
          ·refine ⟨_, rfl, rfl, rfl, ?_⟩
           have g86_ : s_ 86 = .pointer (some ⟨wc.heap.size, 2, none⟩) := hg_ 1 (by decide) (by decide)
           have hc_ := (blk_cell (blk_below HOB.out hz_.1) 2).trans (show _ = some (.slice A0_ l0_.length c0_) from rfl)
           clear hg_ ho_ hno_ hz_ hq_ hcb_
           first | (simp [execOp, mkN_eval, Result.andThen, *]; done) | (go_simp; simp [mkN_get, Result.andThen, *]; done)
          ·refine ⟨_, rfl, rfl, rfl, ?_⟩
           have g3_ : s_ 3 = _ := ho_ 3 (by decide) (by decide)
           clear hg_ ho_ hno_ hz_ hq_ hcb_
           first | (simp [execOp, mkN_eval, Result.andThen, *]; done) | (go_simp; simp [mkN_get, Result.andThen, *]; done)
          ·refine ⟨_, rfl, rfl, rfl, ?_⟩
           have g11_ : s_ 11 = _ := ho_ 11 (by decide) (by decide)
           have hix_ : (Instr.indexAt 47 (.pointer (some ⟨wc.heap.size, 0, none⟩)) (.int .i64 1)).run Tryz.prog W_ = .ok (.pointer (some ⟨wc.heap.size, 3, none⟩)) W_ := by kernel_rfl
           clear hg_ ho_ hno_ hz_ hq_ hcb_
           first | (simp [execOp, mkN_eval, Result.andThen, *]; done) | (go_simp; simp [mkN_get, Result.andThen, *]; done)
          ·refine ⟨_, rfl, rfl, rfl, ?_⟩
           have g90_ : s_ 90 = .pointer (some ⟨wc.heap.size, 3, none⟩) := hg_ 4 (by decide) (by decide)
           clear hg_ ho_ hno_ hz_ hq_ hcb_
           first | (simp [execOp, mkN_eval, Result.andThen, *]; done) | (go_simp; simp [mkN_get, Result.andThen, *]; done)
          ·refine ⟨_, rfl, rfl, rfl, ?_⟩
           have g91_ : s_ 91 = .pointer (some ⟨wc.heap.size, 5, none⟩) := hg_ 5 (by decide) (by decide)
           have hc_ := (blk_cell (blk_below HOB.out hz_.1) 5).trans (show _ = some (.slice A1_ l1_.length c1_) from rfl)
           clear hg_ ho_ hno_ hz_ hq_ hcb_
           first | (simp [execOp, mkN_eval, Result.andThen, *]; done) | (go_simp; simp [mkN_get, Result.andThen, *]; done)
          ·refine ⟨_, rfl, rfl, rfl, ?_⟩
           have g2_ : s_ 2 = _ := ho_ 2 (by decide) (by decide)
           clear hg_ ho_ hno_ hz_ hq_ hcb_
           first | (simp [execOp, mkN_eval, Result.andThen, *]; done) | (go_simp; simp [mkN_get, Result.andThen, *]; done)
          ·refine ⟨_, rfl, rfl, rfl, ?_⟩
           have g89_ : s_ 89 = .bool B1 := hz_.2.1 (Nat.succ_le_of_lt (hcb_ 0 (by decide) (by decide)))
           have g94_ : s_ 94 = .bool B1 := hz_.2.2.1 (Nat.succ_le_of_lt (hcb_ 1 (by decide) (by decide)))
           have he1_ : (eqGuard BinOp.eql 4 (Operand.tmp 89) (Operand.tmp 94) (.bool B1) (.bool B1)).run Tryz.prog W_ = .ok () W_ := by cases B1 <;> kernel_rfl
           have he2_ : (binOp BinOp.eql 4 (.bool B1) (.bool B1)).run Tryz.prog W_ = .ok (.bool true) W_ := by cases B1 <;> kernel_rfl
           clear hg_ ho_ hno_ hz_ hq_ hcb_
           first | (simp [execOp, mkN_eval, Result.andThen, *]; done) | (go_simp; simp [mkN_get, Result.andThen, *]; done)
          ·refine ⟨_, rfl, rfl, rfl, ?_⟩
           have g95_ : s_ 95 = .bool true := hg_ 8 (by decide) (by decide)
           clear hg_ ho_ hno_ hz_ hq_ hcb_
           first | (simp [execOp, mkN_eval, Result.andThen, *]; done) | (go_simp; simp [mkN_get, Result.andThen, *]; done)
          ·refine ⟨_, rfl, rfl, (mkN_wanted rfl rfl (by decide) (show s_ 96 = .bool true from hg_ 9 (by decide) (by decide))), ?_⟩
           have g11_ : s_ 11 = _ := ho_ 11 (by decide) (by decide)
           have hix_ : (Instr.indexAt 47 (.pointer (some ⟨wc.heap.size, 0, none⟩)) (.int .i64 2)).run Tryz.prog W_ = .ok (.pointer (some ⟨wc.heap.size, 6, none⟩)) W_ := by kernel_rfl
           clear hg_ ho_ hno_ hz_ hq_ hcb_
           first | (simp [execOp, mkN_eval, Result.andThen, *]; done) | (go_simp; simp [mkN_get, Result.andThen, *]; done)
          ·refine ⟨_, rfl, rfl, (mkN_wanted rfl rfl (by decide) (show s_ 96 = .bool true from hg_ 9 (by decide) (by decide))), ?_⟩
           have g97_ : s_ 97 = .pointer (some ⟨wc.heap.size, 6, none⟩) := hg_ 10 (by decide) (by decide)
           clear hg_ ho_ hno_ hz_ hq_ hcb_
           first | (simp [execOp, mkN_eval, Result.andThen, *]; done) | (go_simp; simp [mkN_get, Result.andThen, *]; done)
          ·refine ⟨_, rfl, rfl, (mkN_wanted rfl rfl (by decide) (show s_ 96 = .bool true from hg_ 9 (by decide) (by decide))), ?_⟩
           have g98_ : s_ 98 = .pointer (some ⟨wc.heap.size, 8, none⟩) := hg_ 11 (by decide) (by decide)
           have hc_ := (blk_cell (blk_below HOB.out hz_.1) 8).trans (show _ = some (.slice A2_ l2_.length c2_) from rfl)
           clear hg_ ho_ hno_ hz_ hq_ hcb_
           first | (simp [execOp, mkN_eval, Result.andThen, *]; done) | (go_simp; simp [mkN_get, Result.andThen, *]; done)
          ·refine ⟨_, rfl, rfl, (mkN_wanted rfl rfl (by decide) (show s_ 96 = .bool true from hg_ 9 (by decide) (by decide))), ?_⟩
           have g3_ : s_ 3 = _ := ho_ 3 (by decide) (by decide)
           clear hg_ ho_ hno_ hz_ hq_ hcb_
           first | (simp [execOp, mkN_eval, Result.andThen, *]; done) | (go_simp; simp [mkN_get, Result.andThen, *]; done)
          ·refine ⟨_, rfl, rfl, (mkN_wanted rfl rfl (by decide) (show s_ 96 = .bool true from hg_ 9 (by decide) (by decide))), ?_⟩
           have g11_ : s_ 11 = _ := ho_ 11 (by decide) (by decide)
           have hix_ : (Instr.indexAt 47 (.pointer (some ⟨wc.heap.size, 0, none⟩)) (.int .i64 3)).run Tryz.prog W_ = .ok (.pointer (some ⟨wc.heap.size, 9, none⟩)) W_ := by kernel_rfl
           clear hg_ ho_ hno_ hz_ hq_ hcb_
           first | (simp [execOp, mkN_eval, Result.andThen, *]; done) | (go_simp; simp [mkN_get, Result.andThen, *]; done)
          ·refine ⟨_, rfl, rfl, (mkN_wanted rfl rfl (by decide) (show s_ 96 = .bool true from hg_ 9 (by decide) (by decide))), ?_⟩
           have g102_ : s_ 102 = .pointer (some ⟨wc.heap.size, 9, none⟩) := hg_ 14 (by decide) (by decide)
           clear hg_ ho_ hno_ hz_ hq_ hcb_
           first | (simp [execOp, mkN_eval, Result.andThen, *]; done) | (go_simp; simp [mkN_get, Result.andThen, *]; done)
          ·refine ⟨_, rfl, rfl, (mkN_wanted rfl rfl (by decide) (show s_ 96 = .bool true from hg_ 9 (by decide) (by decide))), ?_⟩
           have g103_ : s_ 103 = .pointer (some ⟨wc.heap.size, 11, none⟩) := hg_ 15 (by decide) (by decide)
           have hc_ := (blk_cell (blk_below HOB.out hz_.1) 11).trans (show _ = some (.slice A3_ l3_.length c3_) from rfl)
           clear hg_ ho_ hno_ hz_ hq_ hcb_
           first | (simp [execOp, mkN_eval, Result.andThen, *]; done) | (go_simp; simp [mkN_get, Result.andThen, *]; done)
          ·refine ⟨_, rfl, rfl, (mkN_wanted rfl rfl (by decide) (show s_ 96 = .bool true from hg_ 9 (by decide) (by decide))), ?_⟩
           have g2_ : s_ 2 = _ := ho_ 2 (by decide) (by decide)
           clear hg_ ho_ hno_ hz_ hq_ hcb_
           first | (simp [execOp, mkN_eval, Result.andThen, *]; done) | (go_simp; simp [mkN_get, Result.andThen, *]; done)
          ·refine ⟨_, rfl, rfl, (mkN_wanted rfl rfl (by decide) (show s_ 96 = .bool true from hg_ 9 (by decide) (by decide))), ?_⟩
           have g101_ : s_ 101 = .bool B2 := hz_.2.2.2.1 (Nat.succ_le_of_lt (hcb_ 2 (by decide) (by decide)))
           have g106_ : s_ 106 = .bool B2 := hz_.2.2.2.2.1 (Nat.succ_le_of_lt (hcb_ 3 (by decide) (by decide)))
           have he1_ : (eqGuard BinOp.eql 4 (Operand.tmp 101) (Operand.tmp 106) (.bool B2) (.bool B2)).run Tryz.prog W_ = .ok () W_ := by cases B2 <;> kernel_rfl
           have he2_ : (binOp BinOp.eql 4 (.bool B2) (.bool B2)).run Tryz.prog W_ = .ok (.bool true) W_ := by cases B2 <;> kernel_rfl
           clear hg_ ho_ hno_ hz_ hq_ hcb_
           first | (simp [execOp, mkN_eval, Result.andThen, *]; done) | (go_simp; simp [mkN_get, Result.andThen, *]; done)
          ·refine ⟨_, rfl, rfl, rfl, ?_⟩
           have g96_ : s_ 96 = .bool true := hg_ 9 (by decide) (by decide)
           have g107_ : s_ 107 = .bool true := hg_ 18 (by decide) (by decide)
           clear hg_ ho_ hno_ hz_ hq_ hcb_
           first | (simp [execOp, mkN_eval, Result.andThen, *]; done) | (go_simp; simp [mkN_get, Result.andThen, *]; done)
          ·refine ⟨_, rfl, rfl, rfl, ?_⟩
           have g108_ : s_ 108 = .bool true := hg_ 19 (by decide) (by decide)
           clear hg_ ho_ hno_ hz_ hq_ hcb_
           first | (simp [execOp, mkN_eval, Result.andThen, *]; done) | (go_simp; simp [mkN_get, Result.andThen, *]; done)
          ·refine ⟨_, rfl, rfl, rfl, ?_⟩
           have g109_ : s_ 109 = .bool true := hg_ 20 (by decide) (by decide)
           have g110_ : s_ 110 = .bool true := hz_.2.2.2.2.2 (Nat.succ_le_of_lt (hcb_ 4 (by decide) (by decide)))
           clear hg_ ho_ hno_ hz_ hq_ hcb_
           first | (simp [execOp, mkN_eval, Result.andThen, *]; done) | (go_simp; simp [mkN_get, Result.andThen, *]; done)
         ·exact ⟨below_drew0 wr, fun h => absurd h (by decide), fun h => absurd h (by decide), fun h => absurd h (by decide), fun h => absurd h (by decide), fun h => absurd h (by decide)⟩
         ·intro q_ s_ x_ v_ W_ hx_ hZ_
          have hne_ : ∀ u, u ∉ ([(0, 85), (1, 86), (2, 87), (3, 88), (5, 90), (6, 91), (7, 92), (8, 93), (10, 95), (11, 96), (12, 97), (13, 98), (14, 99), (15, 100), (17, 102), (18, 103), (19, 104), (20, 105), (22, 107), (23, 108), (24, 109), (26, 111)].map (·.2) : List Nat) → updN s_ x_ v_ u = s_ u := fun u hu => updN_ne (fun e => hu (by rw [e]; exact hx_))
          simpa only [hne_ 89 (by decide), hne_ 94 (by decide), hne_ 101 (by decide), hne_ 106 (by decide), hne_ 110 (by decide)] using hZ_
         ·intro i_ hi_ s_ W_ hg_ ho_ hZ_ K_ hK_
          rcases (show i_ = 0 ∨ i_ = 1 ∨ i_ = 2 ∨ i_ = 3 ∨ i_ = 4 from by have : i_ < 5 := hi_; omega) with rfl | rfl | rfl | rfl | rfl
          ·have g87_ : s_ 87 = .slice A0_ l0_.length c0_ := hg_ 2 (by decide) (by decide)
           have g88_ : s_ 88 = .string a3 := hg_ 3 (by decide) (by decide)
           clear hg_ ho_
           refine wpOp_step rfl (fun K' hK => ?_)
           skip
           go_simp
           try simp [mkN_get, g87_, g88_]
           go_wp2_with (go_at_call 18; refine (HH0.out W_ hZ_.1).mono ?_; rintro e w5 ⟨rfl, hb5_⟩)
           show K_ ((mkN 112 _ s_).put (some 89) (.bool B1)) w5
           rw [mkN_put _ _ _ (by decide)]
           exact hK_ _ _ ⟨hZ_.1.trans (hb5_.below.mono hZ_.1.size), fun _ => updN_self _ _ _, fun h => absurd h (by decide), fun h => absurd h (by decide), fun h => absurd h (by decide), fun h => absurd h (by decide)⟩ (fun j hj => updN_ne (fun e => hj (by subst e; rfl)))
          ·have g92_ : s_ 92 = .slice A1_ l1_.length c1_ := hg_ 6 (by decide) (by decide)
           have g93_ : s_ 93 = .string a2 := hg_ 7 (by decide) (by decide)
           clear hg_ ho_
           refine wpOp_step rfl (fun K' hK => ?_)
           skip
           go_simp
           try simp [mkN_get, g92_, g93_]
           go_wp2_with (go_at_call 18; refine (HH1.out W_ hZ_.1).mono ?_; rintro e w5 ⟨rfl, hb5_⟩)
           show K_ ((mkN 112 _ s_).put (some 94) (.bool B1)) w5
           rw [mkN_put _ _ _ (by decide)]
           exact hK_ _ _ ⟨hZ_.1.trans (hb5_.below.mono hZ_.1.size), fun _ => by rw [updN_ne (show 89 ≠ 94 by decide)]; exact hZ_.2.1 (by decide), fun _ => updN_self _ _ _, fun h => absurd h (by decide), fun h => absurd h (by decide), fun h => absurd h (by decide)⟩ (fun j hj => updN_ne (fun e => hj (by subst e; rfl)))
          ·have g99_ : s_ 99 = .slice A2_ l2_.length c2_ := hg_ 12 (by decide) (by decide)
           have g100_ : s_ 100 = .string a3 := hg_ 13 (by decide) (by decide)
           have gw_ : s_ 96 = .bool true := hg_ 9 (by decide) (by decide)
           clear hg_ ho_
           refine wpOp_step rfl (fun K' hK => ?_)
           rw [if_pos (mkN_wanted rfl rfl (by decide) gw_)]
           go_simp
           try simp [mkN_get, g99_, g100_]
           go_wp2_with (go_at_call 18; refine (HH2.out W_ hZ_.1).mono ?_; rintro e w5 ⟨rfl, hb5_⟩)
           show K_ ((mkN 112 _ s_).put (some 101) (.bool B2)) w5
           rw [mkN_put _ _ _ (by decide)]
           exact hK_ _ _ ⟨hZ_.1.trans (hb5_.below.mono hZ_.1.size), fun _ => by rw [updN_ne (show 89 ≠ 101 by decide)]; exact hZ_.2.1 (by decide), fun _ => by rw [updN_ne (show 94 ≠ 101 by decide)]; exact hZ_.2.2.1 (by decide), fun _ => updN_self _ _ _, fun h => absurd h (by decide), fun h => absurd h (by decide)⟩ (fun j hj => updN_ne (fun e => hj (by subst e; rfl)))
          ·have g104_ : s_ 104 = .slice A3_ l3_.length c3_ := hg_ 16 (by decide) (by decide)
           have g105_ : s_ 105 = .string a2 := hg_ 17 (by decide) (by decide)
           have gw_ : s_ 96 = .bool true := hg_ 9 (by decide) (by decide)
           clear hg_ ho_
           refine wpOp_step rfl (fun K' hK => ?_)
           rw [if_pos (mkN_wanted rfl rfl (by decide) gw_)]
           go_simp
           try simp [mkN_get, g104_, g105_]
           go_wp2_with (go_at_call 18; refine (HH3.out W_ hZ_.1).mono ?_; rintro e w5 ⟨rfl, hb5_⟩)
           show K_ ((mkN 112 _ s_).put (some 106) (.bool B2)) w5
           rw [mkN_put _ _ _ (by decide)]
           exact hK_ _ _ ⟨hZ_.1.trans (hb5_.below.mono hZ_.1.size), fun _ => by rw [updN_ne (show 89 ≠ 106 by decide)]; exact hZ_.2.1 (by decide), fun _ => by rw [updN_ne (show 94 ≠ 106 by decide)]; exact hZ_.2.2.1 (by decide), fun _ => by rw [updN_ne (show 101 ≠ 106 by decide)]; exact hZ_.2.2.2.1 (by decide), fun _ => updN_self _ _ _, fun h => absurd h (by decide)⟩ (fun j hj => updN_ne (fun e => hj (by subst e; rfl)))
          ·have gw_ : s_ 109 = .bool true := hg_ 20 (by decide) (by decide)
           clear hg_ ho_
           refine wpOp_step rfl (fun K' hK => ?_)
           rw [if_pos (mkN_wanted rfl rfl (by decide) gw_)]
           go_simp
           try simp [mkN_get]
           go_wp2_with (go_at_call 12; refine (HAW.out W_).mono ?_; rintro e w5 ⟨rfl, hb5_⟩)
           show K_ ((mkN 112 _ s_).put (some 110) (.bool true)) w5
           rw [mkN_put _ _ _ (by decide)]
           exact hK_ _ _ ⟨hZ_.1.trans (hb5_.mono hZ_.1.size), fun _ => by rw [updN_ne (show 89 ≠ 110 by decide)]; exact hZ_.2.1 (by decide), fun _ => by rw [updN_ne (show 94 ≠ 110 by decide)]; exact hZ_.2.2.1 (by decide), fun _ => by rw [updN_ne (show 101 ≠ 110 by decide)]; exact hZ_.2.2.2.1 (by decide), fun _ => by rw [updN_ne (show 106 ≠ 110 by decide)]; exact hZ_.2.2.2.2.1 (by decide), fun _ => updN_self _ _ _⟩ (fun j hj => updN_ne (fun e => hj (by subst e; rfl)))
         ·intro s_ W_ hZ_ hv_ ho_
          have gl_ : s_ 111 = .bool true := hv_ 21 (by decide)
          have HBL := Aside0.mk hZ_.1
          refine YieldsIf.wpOp (S := fun x => x = W_) (v := .bool true) rfl (Or.inl ⟨rfl, fun x hx => by simp [execOp, mkN_eval, gl_]⟩) rfl ?_
          show Exit.then _ _ .normal ((mkN 112 _ s_).put (some 10) _) W_
          rw [mkN_put _ _ _ (by decide), mk112_lit, updN_self]
          clear hv_ ho_ gl_ hZ_
          generalize updN s_ 10 _ = t_
          go_wp2
          go_ret
          exact ⟨rfl, HI.out.b.trans (HBL.out.mono HI.out.b.size)⟩
end Go.Proofs.YtjijaciaioieaaaGreat.PFnRolesOrder
