/- For every input (each string and slice within the form's own reach) laws.FnRolesUndone returns true and its arguments read afterwards as before: the given statement FnRolesUndoneSaid. No further condition. -/
import Derived.Test.YtjijaciaioieaaaGreatRows
import Derived.Test.YtjijaciaioieaaaGreatOpens
import Derived.Test.YtjijaciaioieaaaGreatPureFnRolesUndone
import Derived.WalkKit
import Derived.ProofKit
import Derived.OpenShut
import Derived.ShutString
import Derived.ChangeOld
import Derived.Below
import Derived.SizedLaws
namespace Go.Proofs.YtjijaciaioieaaaGreat.fnRolesUndone
open Go.ChangeShapes Go.WideShapes Go.ChangeAt Go.RowKit Go.Proofs.YtjijaciaioieaaaGreatW.PrintWords Go.Proofs.YtjijaciaioieaaaGreat.Opens
open Go.ChangeMaps (open_string shut_string)
set_option linter.unusedVariables false
theorem own : ownKnob Tryz.prog.godebug = none := by kernel_rfl
theorem laidOut : laidOutB Tryz.prog = true := by kernel_rfl
set_option maxRecDepth 100000 in
theorem lifted (os : Os) (started : os.Started) (H : Type) (enc : TypeId × Value → H) :
    ReturnsInHanded {} Tryz.checked os 8 .any (Rows.fnRolesUndoneSpec.pre6 enc Tryz.prog Tryz.f8 Rows.fnRolesUndoneRow.domain false) (Rows.fnRolesUndoneSpec.post enc Tryz.prog Tryz.f8 false true false false) := by
  refine returnsInHanded_of_change_sized (C := Tryz.checked) own started (by kernel_rfl) Tryz.func8
    (ChangeSpec.witness6 (enc := enc) (C := Tryz.checked) false ⟨#[], #[.int .i64 0, .bool false, .slice none 0 0, .slice none 0 0, .string ByteArray.empty, .string ByteArray.empty, .string ByteArray.empty], []⟩ 8 (by kernel_rfl) (by kernel_rfl) (by kernel_rfl) (by kernel_rfl)) ?_
  intro W base args ds gs before hval0 hW hcnd hsz0 _
  have hsz : (DataW.weightsEach Tryz.prog (Tryz.f8.params.toList ++ Rows.fnRolesUndoneSpec.plain.varTypes Tryz.prog) (ds ++ gs)).all (· ≤ reachBytes) = true := hsz0
  have hval : ∀ (j : Nat) t v, Tryz.f8.params[j]? = some t → args[j]? = some v → Value.okWide Tryz.prog W .any base t v := hval0
  have hW' := hW
  obtain ⟨p, q, hA0, hV, rfl, hfz, hnd⟩ := hW
  have hA : DataW.TrodAll enc Tryz.prog W 0 (fun _ => true) true Tryz.f8.params.toList args.toList ds p := hA0
  rw [Tryz.params8] at hA hval hsz
  obtain ⟨v0, vs0, d0, ds0, p0, q0, hargs, rfl, rfl, h0, r0⟩ := trodAll_cons hA
  obtain ⟨v1, vs1, d1, ds1, p1, q1, rfl, rfl, rfl, h1, r1⟩ := trodAll_cons r0
  obtain ⟨v2, vs2, d2, ds2, p2, q2, rfl, rfl, rfl, h2, r2⟩ := trodAll_cons r1
  obtain ⟨v3, vs3, d3, ds3, p3, q3, rfl, rfl, rfl, h3, r3⟩ := trodAll_cons r2
  obtain ⟨v4, vs4, d4, ds4, p4, q4, rfl, rfl, rfl, h4, r4⟩ := trodAll_cons r3
  obtain ⟨v5, vs5, d5, ds5, p5, q5, rfl, rfl, rfl, h5, r5⟩ := trodAll_cons r4
  obtain ⟨v6, vs6, d6, ds6, p6, q6, rfl, rfl, rfl, h6, r6⟩ := trodAll_cons r5
  obtain ⟨rfl, rfl, rfl⟩ := trodAll_nil r6
  obtain rfl : args = #[v0, v1, v2, v3, v4, v5, v6] := by cases args; simp_all
  obtain ⟨rfl, rfl⟩ := trodVars_none hV
  obtain ⟨a0, rfl, rfl, rfl, w0⟩ := open_int Tryz.underlying3 (hval 0 3 v0 rfl rfl) h0
  obtain ⟨a1, rfl, rfl, rfl⟩ := open_bool Tryz.underlying4 (hval 1 4 v1 rfl rfl) h1
  obtain ⟨a2, len2, cap2, rfl⟩ := okWide_slice Tryz.underlying22 (hval 2 22 v2 rfl rfl)
  have k2 := h2
  have lt2 : ∀ x ∈ p2, x.block < W.heap.size := by obtain ⟨m, hm⟩ := k2; exact DataW.trod_lt m _ _ _ hm
  obtain ⟨l2, rfl, hc2, hC2, hq2⟩ := Opens.arg (opens_slice Tryz.underlying22 (by kernel_rfl) Pure.opens_T28) h2
  obtain ⟨a3, len3, cap3, rfl⟩ := okWide_slice Tryz.underlying22 (hval 3 22 v3 rfl rfl)
  have k3 := h3
  have lt3 : ∀ x ∈ p3, x.block < W.heap.size := by obtain ⟨m, hm⟩ := k3; exact DataW.trod_lt m _ _ _ hm
  obtain ⟨l3, rfl, hc3, hC3, hq3⟩ := Opens.arg (opens_slice Tryz.underlying22 (by kernel_rfl) Pure.opens_T28) h3
  obtain ⟨a4, rfl, rfl, rfl, y4⟩ := open_string Tryz.underlying9 (hval 4 9 v4 rfl rfl) h4
  have w4 : a4.size ≤ 140737488351232 := by
    have z := sized_string hsz (j := 4) (t := 9) rfl rfl
    rw [Array.length_toList] at z
    exact z
  obtain ⟨a5, rfl, rfl, rfl, y5⟩ := open_string Tryz.underlying9 (hval 5 9 v5 rfl rfl) h5
  have w5 : a5.size ≤ 140737488351232 := by
    have z := sized_string hsz (j := 5) (t := 9) rfl rfl
    rw [Array.length_toList] at z
    exact z
  obtain ⟨a6, rfl, rfl, rfl, y6⟩ := open_string Tryz.underlying9 (hval 6 9 v6 rfl rfl) h6
  have w6 : a6.size ≤ 140737488351232 := by
    have z := sized_string hsz (j := 6) (t := 9) rfl rfl
    rw [Array.length_toList] at z
    exact z
  clear hA0 hval0 hsz0 hsz
  obtain ⟨k, hk⟩ := Pure.FnRolesUndone a0 a1 l2 l3 a4 a5 a6 w0 (Kd.C_max hC2) hq2 (Kd.C_max hC3) hq3 w4 w5 w6
  refine (PFnRolesOrder.laws_FnRolesUndone.calls k a0 a1 a2 cap2 l2 a3 cap3 l3 a4 a5 a6 true W hC2 hc2 hC3 hc3 hk).mono fun e W' ⟨he, bel0⟩ => ?_
  have bel : Below W.heap.size W W' := by first | exact bel0 | exact Drawn0.below bel0
  subst he
  exact ⟨_, rfl, _, _, _, [], _, [], hW', trodAll_mk1 (shut_bool Tryz.underlying4 _), (trodAll_cons_mk (shut_int Tryz.underlying3 w0) (trodAll_cons_mk (shut_bool Tryz.underlying4 _) (trodAll_cons_mk (Below.trod laidOut (by kernel_rfl) (of_decide_eq_true (by kernel_rfl)) k2 bel lt2) (trodAll_cons_mk (Below.trod laidOut (by kernel_rfl) (of_decide_eq_true (by kernel_rfl)) k3 bel lt3) (trodAll_cons_mk (shut_string Tryz.underlying9 y4) (trodAll_cons_mk (shut_string Tryz.underlying9 y5) (trodAll_cons_mk (shut_string Tryz.underlying9 y6) trodAll_mk0))))))), rfl, bel.frame _, fun h => by cases h⟩
theorem over : Rows.fnRolesUndoneRow.holds Tryz.pinned (OpenSpec.ofChange Rows.fnRolesUndoneSpec) :=
  OpenClaim.holds_of_wide 8 Tryz.f8 rfl rfl rfl rfl rfl rfl rfl ⟨rfl, rfl, rfl, rfl, rfl⟩ rfl rfl rfl rfl rfl (by kernel_rfl) Tryz.func8 (by kernel_rfl)
    (of_decide_eq_true (by kernel_rfl)) (by unfold Func.isWrapper; first | (rw [if_pos (by decide +kernel)]; kernel_rfl) | (rw [if_neg (by decide +kernel)]; exact ⟨rfl, rfl⟩))
    (fun os started H enc _ => lifted os started H enc)
theorem proved : Rows.FnRolesUndoneSaid := over
#print axioms proved
end Go.Proofs.YtjijaciaioieaaaGreat.fnRolesUndone
namespace Go.Proofs.YtjijaciaioieaaaGreat
/-- The row, under a short name, for the claim. -/
theorem fnRolesUndone_holds : Rows.FnRolesUndoneSaid := fnRolesUndone.proved
end Go.Proofs.YtjijaciaioieaaaGreat
