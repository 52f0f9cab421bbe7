/- For every input (each string and slice within the form's own reach) laws.FnModelAdd returns true and its arguments read afterwards as before, the listed variables of the library lying as they are laid: the given row FnModelAddSaid and, by the given tie, the given card FnModelAddCardSaid. No further condition. -/
import Derived.Test.YtjglpjlbnmpdfaaGreatDoorRows
import Derived.Test.YtjglpjlbnmpdfaaGreatDoorCards
import Derived.Test.YtjglpjlbnmpdfaaGreatDoorTie
import Derived.Test.YtjglpjlbnmpdfaaGreatDoorOpens
import Derived.Test.YtjglpjlbnmpdfaaGreatDoorPureFnModelAdd
import Derived.WalkKit
import Derived.ProofKit
import Derived.OpenShut
import Derived.ShutString
import Derived.ChangeOld
import Derived.Below
import Derived.SizedLaws
import Derived.LaidMore
import Derived.Lay
import Derived.SevenTiedAt
import Derived.Stop.Joined
import Derived.Stop.LaidErr
import Derived.Lib.LaidTab
import Derived.LaidLaws
namespace Go.Proofs.YtjglpjlbnmpdfaaGreatDoor.fnModelAdd
open Go.ChangeShapes Go.WideShapes Go.ChangeAt Go.RowKit Go.Proofs.YtjglpjlbnmpdfaaGreatDoorW.PrintWords Go.Proofs.YtjglpjlbnmpdfaaGreatDoor.Opens
open Go.ChangeMaps (open_string shut_string)
set_option linter.unusedVariables false
theorem own : ownKnob Tryz.prog.godebug = none := by kernel_rfl
theorem laidOut : laidOutB Tryz.prog = true := by kernel_rfl
/-- what the row lists of the library's variables -/
abbrev laidL : List (String × DataW Unit) := Rows.fnModelAddRow.laid
theorem errType : ∀ u, Tryz.prog.typeName? 3 u = some "*errors.errorString" → u = 179 := by
  intro u hu
  exact typeName_ptr_named (nm := "errors.errorString") (by kernel_rfl) (by kernel_rfl) (by decide) u (hu.trans (congrArg some (by decide)))
set_option maxRecDepth 100000 in
/-- a listed error: its cell, and the block behind it -/
theorem err_of {n : String} {text : List UInt8} {r : List (String × DataW Unit)} {W : World} {g : Nat} (h : laidMet Tryz.prog ((n, .iface "*errors.errorString" (.ptr (.agg [.lit (.string text)]))) :: r) W)
    (hg : Tryz.prog.globalNamed n = some g) (ht : (Tryz.prog.globals[g]?).map (·.type) = some 61) :
    ∃ (a : Addr) (s : ByteArray), W.cell? ⟨g, 0, none⟩ = some (PFnModelAdd.eofV a) ∧ W.cell? a = some (.string s) ∧ s.data.toList = text ∧ ∃ ca ta, W.heap[a.block]? = some (.cells ca ta (0, 0)) := by
  obtain ⟨ps, ⟨g0, t0, cs0, f0, p0, q0, hg0, ht0, hv0, hd0, _, e0⟩, _, hrows⟩ := h
  obtain rfl := Option.some.inj (hg.symm.trans hg0)
  obtain rfl := Option.some.inj (ht.symm.trans ht0)
  subst e0
  obtain ⟨l0⟩ := cs0
  have ok0 : ∀ u v, l0 = [.iface u v] → Value.okWide Tryz.prog W .any 0 u v := fun u v e => by
    subst e
    exact (hrows g 0 (by simp [MemPlace.row])).2 u v (by simpa using World.var?_cell hg0 hv0 0)
  obtain ⟨a0, s0, rfl, hc0, hs0, hz0, hp0⟩ := errorString_of_trod Tryz.underlying61 errType Tryz.underlying179 Tryz.underlying181 rfl rfl Tryz.underlying9 (by kernel_rfl) (by kernel_rfl) hd0 ok0
  refine ⟨a0, s0, by unfold PFnModelAdd.eofV; simpa using World.var?_cell hg0 hv0 0, hc0, hs0, ?_⟩
  exact (hrows a0.block a0.off (by rw [hp0]; simp [MemPlace.row])).1
set_option maxRecDepth 100000 in
theorem prem_of {W : World} (h0 : laidMetH Tryz.prog laidL W) : PFnModelAdd.Prem W := by
  rw [MakeChecks.laidMetH_plain _ _ _ (by kernel_rfl)] at h0
  have h : laidMet Tryz.prog laidL W := h0
  have h1 := h.tail
  have h2 := h.tail.tail.tail.tail.tail.tail.tail
  have h3 := h.tail.tail.tail.tail.tail
  obtain ⟨pe, se, c1, d1, e1, b1⟩ := err_of (g := 2) h1 (by kernel_rfl) (by kernel_rfl)
  obtain ⟨pb, sb, c2, d2, e2, b2⟩ := err_of (g := 3) h2 (by kernel_rfl) (by kernel_rfl)
  refine ⟨⟨pe, pb, ⟨c1, c2, b1, b2, ?_⟩, fun e => ?_⟩, ?_⟩
  · exact Lib.tabIs_of_head (g := 4) (t := 134) (e := 5) (n := 256) (by kernel_rfl) (by kernel_rfl) (by kernel_rfl) (by kernel_rfl) (by kernel_rfl) (by kernel_rfl) (show laidMet Tryz.prog (("bytes.asciiSpace", Lib.tabData .u8 Lib.asciiSpaceTab) :: _) W from by
      have e : (Rows.laid_bytes_asciiSpace : DataW Unit) = Lib.tabData .u8 Lib.asciiSpaceTab := by kernel_rfl
      rw [← e]; exact h3)
  · subst e
    obtain rfl : se = sb := by
      have q := Option.some.inj (d1.symm.trans d2)
      injection q
    exact absurd (congrArg List.length (e1.symm.trans e2)) (by decide)
  · have h4 := h.tail.tail.tail.tail.tail.tail
    exact Lib.tabIs_of_head (g := 0) (t := 134) (e := 5) (n := 256) (by kernel_rfl) (by kernel_rfl) (by kernel_rfl) (by kernel_rfl) (by kernel_rfl) (by kernel_rfl) (show laidMet Tryz.prog (("strings.asciiSpace", Lib.tabData .u8 Lib.asciiSpaceTab) :: _) W from by
      have e : (Rows.laid_strings_asciiSpace : DataW Unit) = Lib.tabData .u8 Lib.asciiSpaceTab := by kernel_rfl
      rw [← e]; exact h4)
set_option maxRecDepth 100000 in
theorem lifted (os : Os) (started : os.Started) (H : Type) (enc : TypeId × Value → H) :
    ReturnsInHanded {} Tryz.checked os 5 .any (fun w args => (Rows.fnModelAddSpec.pre enc Tryz.prog Tryz.f5 Rows.fnModelAddRow.domain false w args ∧ laidMetH Tryz.prog laidL w) ∧ sizedMet enc Tryz.prog Tryz.f5 (OpenSpec.ofChange Rows.fnModelAddSpec) false w args)
      (Rows.fnModelAddSpec.post enc Tryz.prog Tryz.f5 false true false false) := by
  refine returnsInHanded_of_change_and (C := Tryz.checked) (X := fun w _ => laidMetH Tryz.prog laidL w) (fun _ _ _ hh h => h.of_heap hh) own started (by kernel_rfl) Tryz.func5
    (ChangeSpec.witness_shaped (enc := enc) (C := Tryz.checked) (os := os) (X := fun w _ => laidMetH Tryz.prog laidL w) false (World.laidAll Tryz.prog os laidL) #[.slice none 0 0, .int .i64 0] 8 (World.laidAll_os _ _ _)
      (World.shaped_of_ZipB (by kernel_rfl) (by kernel_rfl)) (by kernel_rfl) (by kernel_rfl) (by kernel_rfl)
      (by rw [MakeChecks.laidMetH_plain _ _ _ (by kernel_rfl)]; exact laidMet_laidAll _ (by kernel_rfl) (by kernel_rfl))) ?_
  intro W base args ds gs before hval0 hW hcnd hsz0 hL _
  have hsz : (DataW.weightsEach Tryz.prog (Tryz.f5.params.toList ++ Rows.fnModelAddSpec.plain.varTypes Tryz.prog) (ds ++ gs)).all (· ≤ reachBytes) = true := hsz0
  have hval : ∀ (j : Nat) t v, Tryz.f5.params[j]? = some t → args[j]? = some v → Value.okWide Tryz.prog W .any base t v := hval0
  have hW' := hW
  obtain ⟨p, q, hA0, hV, rfl, hfz, hnd⟩ := hW
  have hA : DataW.TrodAll enc Tryz.prog W 0 (fun _ => true) true Tryz.f5.params.toList args.toList ds p := hA0
  rw [Tryz.params5] at hA hval hsz
  obtain ⟨v0, vs0, d0, ds0, p0, q0, hargs, rfl, rfl, h0, r0⟩ := trodAll_cons hA
  obtain ⟨v1, vs1, d1, ds1, p1, q1, rfl, rfl, rfl, h1, r1⟩ := trodAll_cons r0
  obtain ⟨rfl, rfl, rfl⟩ := trodAll_nil r1
  obtain rfl : args = #[v0, v1] := by cases args; simp_all
  obtain ⟨rfl, rfl⟩ := trodVars_none hV
  obtain ⟨a0, len0, cap0, rfl⟩ := okWide_slice Tryz.underlying22 (hval 0 22 v0 rfl rfl)
  have k0 := h0
  have lt0 : ∀ x ∈ p0, x.block < W.heap.size := by obtain ⟨m, hm⟩ := k0; exact DataW.trod_lt m _ _ _ hm
  obtain ⟨l0, rfl, hc0, hC0, hq0⟩ := Opens.arg (opens_slice Tryz.underlying22 (by kernel_rfl) Pure.opens_T28) h0
  obtain ⟨a1, rfl, rfl, rfl, w1⟩ := open_int Tryz.underlying3 (hval 1 3 v1 rfl rfl) h1
  clear hA0 hval0 hsz0 hsz
  obtain ⟨k, hk⟩ := Pure.FnModelAdd l0 a1 (Kd.C_max hC0) hq0 w1
  refine (PFnModelAdd.laws_FnModelAdd.calls k a0 cap0 l0 a1 true W (prem_of hL) hC0 hc0 hk).mono fun e W' ⟨he, bel0⟩ => ?_
  have bel : Below W.heap.size W W' := by first | exact bel0 | exact Drawn0.below bel0
  subst he
  exact ⟨_, rfl, _, _, _, [], _, [], hW', trodAll_mk1 (shut_bool Tryz.underlying4 _), (trodAll_cons_mk (Below.trod laidOut (by kernel_rfl) (of_decide_eq_true (by kernel_rfl)) k0 bel lt0) (trodAll_cons_mk (shut_int Tryz.underlying3 w1) trodAll_mk0)), rfl, bel.frame _, fun h => by cases h⟩
theorem over : Rows.FnModelAddSaid :=
  OpenClaim.holds_of_wide 5 Tryz.f5 rfl rfl rfl rfl rfl rfl rfl ⟨rfl, rfl, rfl, rfl, rfl⟩ rfl rfl rfl rfl rfl (by kernel_rfl) Tryz.func5 (by kernel_rfl)
    (of_decide_eq_true (by kernel_rfl)) (by unfold Func.isWrapper; first | (rw [if_pos (by decide +kernel)]; kernel_rfl) | (rw [if_neg (by decide +kernel)]; exact ⟨rfl, rfl⟩))
    (fun os started H enc _ => lifted os started H enc)
theorem proved : Rows.FnModelAddCardSaid :=
  Claim7.holds_tied_plain_at .later [] [.data, .sentinel, .sentinel, .listed, .sentinel, .data, .data, .sentinel, .sentinel, .pinned] true (true, "4a17abe8c7edac88a0ef975974be7eb33aa631e976a318712f501856e0713e60") true over (fun _ h => by cases h) (by kernel_rfl) (fun _ h => by cases h) fnModelAdd_row_tie rfl ⟨rfl, rfl⟩ (by kernel_rfl) rfl
    (fun f fn hf hfn => by
      obtain rfl : f = 5 := Option.some.inj ((show Tryz.prog.funcNamed "pub-gatewarden/laws.FnModelAdd" = some 5 by kernel_rfl).symm.trans hf) |>.symm
      obtain rfl : fn = Tryz.f5 := (Option.some.inj (Tryz.func5.symm.trans hfn)).symm
      exact ⟨by kernel_rfl, fun j t ht => by
        rw [Tryz.params5] at ht
        have hm : t ∈ [22, 3] := by simpa using Array.mem_of_getElem? ht
        have hall : (([22, 3] : List Nat).all fun u => !Tryz.prog.wantsStandIn u) = true := by kernel_rfl
        exact (show Tryz.prog.wantsStandIn t = false by simpa using List.all_eq_true.1 hall t hm)⟩)
    (by kernel_rfl)
#print axioms proved
end Go.Proofs.YtjglpjlbnmpdfaaGreatDoor.fnModelAdd
namespace Go.Proofs.YtjglpjlbnmpdfaaGreatDoor
/-- The card, under a short name, for the claim. -/
theorem fnModelAdd_holds : Rows.FnModelAddCardSaid := fnModelAdd.proved
end Go.Proofs.YtjglpjlbnmpdfaaGreatDoor
