/- The machine side of laws.FnSubtract: each function of this text answers what its Lean function answers (written for this claim by a program of this session over the kit's print; no condition beyond what each theorem says). -/
import Derived.Test.YtnbcohabllkneaaOFnSubtractx0
import Derived.Test.YtnbcohabllkneaaOFnSubtractx1
import Derived.Test.YtnbcohabllkneaaOFnSubtractx3
namespace Go.Proofs.Ytnbcohabllkneaa.PFnSubtract
open Go.RowKit Go.Proofs.YtnbcohabllkneaaW.PrintWords Go.Proofs.YtnbcohabllkneaaW.PrintLast Go.Proofs.YtnbcohabllkneaaW.PrintMore
attribute [local go_sem] max2_int min2_int max_two min_two max_three min_three max_four min_four   -- for this text's walks alone
set_option linter.unusedVariables false
set_option linter.unusedSimpArgs false

/-! ### util_SetSubtract: function 43 -/
/-- a set of texts, as its map reads -/
def txt (s : ByteArray) : Lit := .string s.data.toList
theorem txt_key (s : ByteArray) : WideAt.IsKeyLit (txt s) := trivial
theorem txt_same (s t : ByteArray) : (txt s).sameKey (txt t) = decide (s = t) := by
  rw [Bool.eq_iff_iff, decide_eq_true_eq]
  constructor
  · intro h
    have h : s.data.toList = t.data.toList := by simpa [txt, Lit.sameKey] using h
    exact WideShapes.bytes_inj h
  · rintro rfl
    simp [txt, Lit.sameKey]
/-- whether a list has a text -/
def hasT (l : List ByteArray) (s : ByteArray) : Bool := l.any fun t => decide (t = s)
theorem hasT_iff (l : List ByteArray) (s : ByteArray) : hasT l s = true ↔ s ∈ l := by
  simp [hasT]
def textSet (l : List ByteArray) : DataW Unit := Maps.setOf (.agg []) (l.map txt)
theorem textSet_nil : textSet [] = .map [] := rfl
theorem textSet_snoc (l : List ByteArray) (s : ByteArray) : textSet (l ++ [s]) = (textSet l).put (txt s) (.agg []) := by
  unfold textSet
  rw [List.map_append]
  exact Maps.setOf_snoc _ _ _
theorem textSet_has (l : List ByteArray) (s : ByteArray) : Maps.has (textSet l) (txt s) = hasT l s := by
  unfold textSet
  rw [Maps.has_setOf _ _ _ (fun x hx => by obtain ⟨y, _, rfl⟩ := List.mem_map.1 hx; exact txt_key y), List.any_map, Bool.eq_iff_iff, hasT_iff, List.any_eq_true]
  constructor
  · rintro ⟨x, hx, h⟩
    have h : (txt x).sameKey (txt s) = true := h
    rw [txt_same, decide_eq_true_eq] at h
    subst h
    exact hx
  · intro h
    refine ⟨s, h, ?_⟩
    show (txt s).sameKey (txt s) = true
    rw [txt_same]
    simp
theorem law9 : Maps.Keyed Try.prog 9 := Maps.string_keyed Try.underlying9
theorem zero49 (w : World) : (zeroValue 49).run Try.prog w = .ok (.agg #[]) w := by kernel_rfl
/-- a map's block is not a row's -/
theorem map_ne_row {α : Type} {d : Kd α} {e : Nat} {P : Program} {K : TypeId} {Rd : Value → Option (DataW Unit × List MemPlace)} {w : World} {b n base : Nat} {D : DataW Unit} {ok : Nat → Prop} {v : Value} {xs : List α} (hm : w.ownsMap P K Rd b n D) (h : d.R e w base ok v xs) : some b ≠ v.ownBlock := by
  intro he
  obtain ⟨es, clock, hb, _⟩ := hm
  obtain ⟨inner, ho⟩ := Kd.R_own h
  obtain ⟨cells, hc⟩ := own_typed ho b he.symm
  rw [hb] at hc
  cases hc
theorem make48 (n : Int) (w : World) : (Instr.makeMap 48 (some (.int .i64 n))).run Try.prog w = .ok (.map (some w.heap.size)) (w.alloc (.map #[] 0)) := by kernel_rfl

/-- the texts of a list that another one has not -/
def util_SetSubtract.f (l0 : List ByteArray) (l1 : List ByteArray) : Option (List ByteArray) :=
  if l0.length < 8796093022208 ∧ (∀ s ∈ l0, s.size ≤ maxLen) ∧ (∀ s ∈ l1, s.size ≤ maxLen) then some (l0.filter fun s => !hasT l1 s) else none
set_option maxHeartbeats 4000000 in
set_option maxRecDepth 100000 in
theorem util_SetSubtract.calls (A0 : Option Addr) (c0 : Nat) (l0 : List ByteArray) (A1 : Option Addr) (c1 : Nat) (l1 : List ByteArray) (r : List ByteArray) (w : World) (hr0 : Kd.C Kd.string w A0 l0.length l0) (hc0 : l0.length ≤ c0) (hr1 : Kd.C Kd.string w A1 l1.length l1) (hc1 : l1.length ≤ c1) (h : util_SetSubtract.f l0 l1 = some r) :
    Calls Try.prog 43 #[.slice A0 l0.length c0, .slice A1 l1.length c1] w fun e w' => ∃ v0_ : Value, e = .returned (v0_) ∧ Kd.R Kd.string 9 w' w.heap.size (fun _ => True) v0_ r ∧ Below w.heap.size w w' := by
  unfold util_SetSubtract.f at h
  have hg : l0.length < 8796093022208 ∧ (∀ s ∈ l0, s.size ≤ maxLen) ∧ (∀ s ∈ l1, s.size ≤ maxLen) := by
    by_cases hg : l0.length < 8796093022208 ∧ (∀ s ∈ l0, s.size ≤ maxLen) ∧ (∀ s ∈ l1, s.size ≤ maxLen)
    · exact hg
    · rw [if_neg hg] at h; cases h
  rw [if_pos hg] at h
  obtain ⟨hl0, hs0, hs1⟩ := hg
  obtain rfl := Option.some.inj h
  clear h hc0 hc1
  have HS0 := Aside0.mk hs0
  have HS1 := Aside0.mk hs1
  have hm1 := Kd.C_max hr1
  have HR0 := Aside0.mk hr0
  have HR1 := Aside0.mk hr1
  clear hs0 hs1 hr0 hr1
  have hmk := make48
  go_enter Try.func43, Try.ntmps43
  go_wp2
  clear hmk
  go_loopw [18] (fun v wr => ∃ k : Nat, k ≤ l1.length ∧ v = .int .i64 k ∧ Aside0 (wr.ownsMap Try.prog 9 unitElem w.heap.size k (textSet (l1.take k))) ∧ Aside0 (Below w.heap.size w wr) ∧ w.heap.size + 1 ≤ wr.heap.size)
    (fun v _ => l1.length - (intOf v).toNat)
  case atStart => exact ⟨0, Nat.zero_le _, rfl, ⟨World.ownsMap_made _ _ _ _⟩, ⟨(Below.refl _ _).alloc (Nat.le_refl _) _⟩, by simp⟩
  case round =>
    obtain ⟨k, hk, rfl, HM, HB, hsz⟩ := hrel
    by_cases hlt : k < l1.length
    · obtain ⟨ad, e1, hx⟩ := Kd.at_string HR1.out (k : Int) (by omega) (by omega)
      cases e1
      replace hx := (HB.out.cell (World.block_lt_of_cell? w _ hx)).trans hx
      rw [show ((k : Int)).toNat = k from by omega, show rdOf ByteArray.empty l1 (k : Int) = l1[k] from by simp [rdOf, List.getD, hlt]] at hx
      have hkey := Aside0.mk (WideMaps.keyOf_string_mk (k := 9) Try.underlying9 (HS1.out l1[k] (by simp)))
      go_wp2_with (first
        | (at_mapUpdate; refine wpList_mapUpdate_own _ rfl _ _ _ 48 rfl 9 49 law9 Try.underlying48 (unitElem (H := Unit)) w.heap.size k _ rfl HM.out (by unfold maxLen; omega) _ _ _ rfl rfl hkey.out _ [] unitElem_mk ?_; intro w1 hown1 hgrow1; replace hown1 := Aside0.mk hown1; replace hgrow1 := Aside0.mk hgrow1))
      go_roundw
      case rel =>
        refine ⟨k + 1, by omega, by go_num, ⟨?_⟩, ⟨HB.out.grown hgrow1.out (by omega) (fun j hj => by cases hj; exact Nat.le_refl _)⟩, by have := hgrow1.out.size; omega⟩
        rw [List.take_succ_eq_append_getElem hlt, textSet_snoc]
        exact hown1.out
      case measure => simp [intOf]; omega
    · obtain rfl : k = l1.length := by omega
      rw [List.take_length] at HM
      go_wp2
      have hsz2 := hsz
      clear hsz hlt hk
      go_loopw [8, 28] (fun v5 v wr2 => ∃ k : Nat, k ≤ l0.length ∧ v = .int .i64 k ∧ Aside0 (wr2.ownsMap Try.prog 9 unitElem w.heap.size l1.length (textSet l1)) ∧ Aside0 (Kd.R Kd.string 9 wr2 w.heap.size (fun _ => True) v5 ((l0.take k).filter fun s => !hasT l1 s)) ∧ Aside0 (Below w.heap.size w wr2))
        (fun _ v _ => l0.length - (intOf v).toNat)
      case atStart => exact ⟨0, Nat.zero_le _, rfl, HM, ⟨by rw [List.take_zero]; exact Kd.R_nil _ _ _ _ _⟩, HB⟩
      case round =>
        clear HM HB
        obtain ⟨k, hk, rfl, HM, HO, HB⟩ := hrel
        by_cases hlt : k < l0.length
        · obtain ⟨ad, e1, hx⟩ := Kd.at_string HR0.out (k : Int) (by omega) (by omega)
          cases e1
          replace hx := (HB.out.cell (World.block_lt_of_cell? w _ hx)).trans hx
          rw [show ((k : Int)).toNat = k from by omega, show rdOf ByteArray.empty l0 (k : Int) = l0[k] from by simp [rdOf, List.getD, hlt]] at hx
          have hkey := Aside0.mk (WideMaps.keyOf_string_mk (k := 9) Try.underlying9 (HS0.out l0[k] (by simp)))
          have hfl : ((l0.take k).filter fun s => !hasT l1 s).length ≤ k := Nat.le_trans (List.length_filter_le _ _) (List.length_take_le _ _)
          have hTK := Aside0.mk (List.take_succ_eq_append_getElem hlt)
          cases hin : hasT l1 l0[k] with
          | true =>
            have HH := Aside0.mk ((textSet_has l1 l0[k]).trans hin)
            replace hin := Aside0.mk hin
            go_wp2_with (first
              | (at_lookup; refine wpList_lookup_own_unit _ rfl _ _ 48 rfl 9 49 law9 Try.underlying48 (zero49 _) w.heap.size _ _ rfl HM.out _ _ rfl hkey.out ?_; rw [show Maps.has (textSet l1) (Lit.string l0[k].data.toList) = true from HH.out]))
            go_roundw
            case rel =>
              refine ⟨k + 1, by omega, by go_num, ⟨HM.out.alloc _⟩, ⟨?_⟩, ⟨below_alloc HB.out _⟩⟩
              rw [hTK.out, List.filter_append, show [l0[k]].filter (fun s => !hasT l1 s) = [] from by simp [hin.out], List.append_nil]
              exact Kd.R_alloc HO.out _
            case measure => simp [intOf]; omega
          | false =>
            have HH := Aside0.mk ((textSet_has l1 l0[k]).trans hin)
            replace hin := Aside0.mk hin
            obtain ⟨ys, hys⟩ : ∃ y_ : List ByteArray, y_ = (l0.take k).filter fun s => !hasT l1 s := ⟨_, rfl⟩
            rw [← hys] at HO hfl
            have Hys := Aside0.mk hys
            clear hys
            go_wp2_with (first
              | (at_lookup; refine wpList_lookup_own_unit _ rfl _ _ 48 rfl 9 49 law9 Try.underlying48 (zero49 _) w.heap.size _ _ rfl HM.out _ _ rfl hkey.out ?_; rw [show Maps.has (textSet l1) (Lit.string l0[k].data.toList) = false from HH.out])
              | ((with_reducible refine gate_builtin (b := .append) (xs := #[.tmp 40, .tmp 42]) rfl ?_); at_builtin; refine Kd.R_append Kd.string (w0 := w) w.heap.size rfl (.tmp 40) (.tmp 42) 22 9 (.string ⟨#[]⟩) 16 rfl Try.underlying22 info9 rfl (by decide) (by omega) u8 ys l0[k] [.string l0[k]] (fun _ => True) (fun _ => False) rfl ?aX ?aP (fun _ hk => hk.elim) ?aF ?aO ?aB ?aS ?aL ?_; (case aX => exact congrArg (fun n => Value.slice (some ⟨n, 0, none⟩) 1 1) (World.size_alloc _ _).symm); (case aP => exact rfl); (case aB => exact (by repeat (first | (with_reducible first | exact HB.out | apply below_alloc | apply pw_below_drewN | apply below_drew1) | exact HB.out))); (case aF => exact (fun _ _ => trivial)); (case aO => exact (by (with_reducible repeat (first | apply Kd.R_alloc | apply Kd.R_drewN | apply Kd.R_drew)); exact HO.out)); (case aS => exact (below_size (by repeat (first | (with_reducible first | exact HB.out | apply below_alloc | apply pw_below_drewN | apply below_drew1) | exact HB.out)))); (case aL => omega); intro v140 w8 ho hb hg hat; have n0_ := Aside0.mk hb; have n1_ := Aside0.mk ho; have n2_ := Aside0.mk hg; clear ho hb hg hat))
            go_roundw
            case rel =>
              refine ⟨k + 1, by omega, by go_num, ⟨?_⟩, ⟨?_⟩, n0_⟩
              · refine (HM.out.alloc _).kept n2_.out ?_
                exact map_ne_row HM.out HO.out
              · rw [hTK.out, List.filter_append, show [l0[k]].filter (fun s => !hasT l1 s) = [l0[k]] from by simp [hin.out], ← Hys.out]
                exact n1_.out
            case measure => simp [intOf]; omega
        · obtain rfl : k = l0.length := by omega
          rw [List.take_length] at HO
          go_wp2
          go_ret
          exact ⟨_, rfl, HO.out, HB.out⟩

/-! ### impl_SetSubtract: function 21 -/
def impl_SetSubtract.f (l0 : List ByteArray) (l1 : List ByteArray) : Option (List ByteArray) := (util_SetSubtract.f l0 l1).bind fun t132 => (some t132)
set_option maxHeartbeats 8000000 in
set_option maxRecDepth 100000 in
theorem impl_SetSubtract.calls (A0 : Option Addr) (c0 : Nat) (l0 : List ByteArray) (A1 : Option Addr) (c1 : Nat) (l1 : List ByteArray) (r : List ByteArray) (w : World) (hr0 : Kd.C Kd.string w A0 l0.length l0) (hc0 : l0.length ≤ c0) (hr1 : Kd.C Kd.string w A1 l1.length l1) (hc1 : l1.length ≤ c1) (h : impl_SetSubtract.f l0 l1 = some r) :
    Calls Try.prog 21 #[.slice A0 l0.length c0, .slice A1 l1.length c1] w fun e w' => ∃ v0_ : Value, e = .returned (v0_) ∧ Kd.R Kd.string 9 w' w.heap.size (fun _ => True) v0_ r ∧ Below w.heap.size w w' := by
  have HR0 := Aside0.mk hr0
  have HC0 := Aside0.mk hc0
  clear hr0 hc0
  have HR1 := Aside0.mk hr1
  have HC1 := Aside0.mk hc1
  clear hr1 hc1
  have HB := Aside0.mk (Below.refl w.heap.size w)
  have H : ((util_SetSubtract.f l0 l1).bind fun t132 => (some t132)) = some r := h
  clear h
  replace H := Option.bind_eq_some_iff.mp H
  obtain ⟨t132, A30, H⟩ := H
  replace H : (some t132) = some r := H
  have A3 := Aside0.mk A30
  clear A30
  obtain rfl := Option.some.inj H
  go_enter Try.func21, Try.ntmps21
  go_wp2_with (first | ((with_reducible refine gate_callee (f := 43) rfl ?_); refine goesL_ (some 7) rfl rfl Try.func43 (by kernel_rfl) rfl #[.slice A0 l0.length c0, .slice A1 l1.length c1] rfl (by (try simp only [List.map_toArray, List.map_cons, List.map_nil]); first | done | rfl | (simp only [List.length_drop, List.length_take]; rfl)) ?_; (with_reducible refine (util_SetSubtract.calls _ _ l0 _ _ l1 t132 _ ?side1 ?side2 ?side3 ?side4 A3.out).mono ?_); (case side1 => repeat (first | exact HR0.out | (with_reducible refine Kd.C_alloc ?_ _) | (with_reducible refine Kd.C_drewN ?_ _) | (with_reducible refine Kd.C_drew ?_))); (case side2 => exact HC0.out); (case side3 => repeat (first | exact HR1.out | (with_reducible refine Kd.C_alloc ?_ _) | (with_reducible refine Kd.C_drewN ?_ _) | (with_reducible refine Kd.C_drew ?_))); (case side4 => exact HC1.out); rintro e w4 ⟨v133, rfl, ho0, hb⟩; refine ⟨_, rfl, ?_⟩; have n0_ := Aside0.mk (Kd.R_lower ho0 (below_size (by repeat (first | (with_reducible first | exact HB.out | apply below_alloc | apply pw_below_drewN | apply below_drew1) | exact HB.out)))); have n1_ := Aside0.mk (below_step (by repeat (first | (with_reducible first | exact HB.out | apply below_alloc | apply pw_below_drewN | apply below_drew1) | exact HB.out)) hb); clear HB; have HO134 := n0_; have HB := n1_; clear n0_ n1_; (try clear hb); (try clear hb2); (try clear hk); (try clear hi); (try clear ho0)))
  go_ret
  exact ⟨_, by first | rfl | (simp [errW_none, errW_some] <;> rfl) | (simp [*, errW_none, errW_some] <;> rfl), by (with_reducible repeat (first | apply Kd.R_alloc | apply Kd.R_drewN | apply Kd.R_drew)); exact HO134.out, by repeat (first | (with_reducible first | exact HB.out | apply below_alloc | apply pw_below_drewN | apply below_drew1) | exact HB.out)⟩

/-! ### spec_Often: function 44 -/
def spec_Often.l0 : Nat → List ByteArray → ByteArray → Int → Int → Option (Int)
  | 0, _, _, _, _ => none
  | k + 1, x0, x1, x5, x6 => if x6 < (x0.length : Int) then (if 0 ≤ x6 then (if (rdOf ByteArray.empty x0 x6).toList = x1.toList then (spec_Often.l0 k x0 x1 (wrap64 (x5 + 1)) (wrap64 (x6 + 1))) else (spec_Often.l0 k x0 x1 x5 (wrap64 (x6 + 1)))) else (none)) else (some x5)
def spec_Often.f (k : Nat) (l0 : List ByteArray) (a1 : ByteArray) : Option (Int) := spec_Often.l0 k l0 a1 0 0
theorem spec_Often.mono_l : ∀ k, (∀ y0 y1 y2 y3, LeO (spec_Often.l0 k y0 y1 y2 y3) (spec_Often.l0 (k + 1) y0 y1 y2 y3))
  | 0 => fun _ _ _ _ r h => by simp [spec_Often.l0] at h
  | k + 1 => by
    have ih0 := spec_Often.mono_l k
    · intro y0 y1 y2 y3
      unfold spec_Often.l0
      repeat' first
      | (with_reducible exact ih0 _ _ _ _)
      | (with_reducible exact LeO.refl _)
      | (with_reducible exact LeO.none _)
      | (with_reducible refine LeO.ite ?_ ?_)
      | (with_reducible refine LeO.bind ?_ (fun _ => ?_))
      | exact ih0 _ _ _ _
      | exact LeO.none _
      | refine LeO.ite ?_ ?_
      | refine LeO.bind ?_ (fun _ => ?_)
theorem spec_Often.mono : ∀ a0 a1 k, LeO (spec_Often.f k a0 a1) (spec_Often.f (k + 1) a0 a1) := by
  intro a0 a1 k
  have ih0 := spec_Often.mono_l k
  unfold spec_Often.f
  repeat' first
      | (with_reducible exact ih0 _ _ _ _)
      | (with_reducible exact LeO.refl _)
      | (with_reducible exact LeO.none _)
      | (with_reducible refine LeO.ite ?_ ?_)
      | (with_reducible refine LeO.bind ?_ (fun _ => ?_))
      | exact ih0 _ _ _ _
      | exact LeO.none _
      | refine LeO.ite ?_ ?_
      | refine LeO.bind ?_ (fun _ => ?_)
set_option maxHeartbeats 8000000 in
set_option maxRecDepth 100000 in
theorem spec_Often.calls (k : Nat) (A0 : Option Addr) (c0 : Nat) (l0 : List ByteArray) (a1 : ByteArray) (r : Int) (w : World) (hr0 : Kd.C Kd.string w A0 l0.length l0) (hc0 : l0.length ≤ c0) (h : spec_Often.f k l0 a1 = some r) :
    Calls Try.prog 44 #[.slice A0 l0.length c0, .string a1] w fun e w' => e = .returned (.int .i64 r) ∧ Drawn0 w w' := by
  have HR0 := Aside0.mk hr0
  have HC0 := Aside0.mk hc0
  clear hr0 hc0
  have H : (spec_Often.l0 k l0 a1 0 0) = some r := h
  clear h
  have H' := Aside0.mk H
  clear H
  go_enter Try.func44, Try.ntmps44
  go_wp2
  go_loopg [5, 6] k (fun kq v5 v6 w' => ∃ (x5_1 : Int) (x6_1 : Int), v5 = .int .i64 x5_1 ∧ v6 = .int .i64 x6_1 ∧ Aside0 (spec_Often.l0 kq l0 a1 x5_1 x6_1 = some r) ∧ Aside0 (kq ≤ k) ∧ Drawn0 w w')
  case atStart => exact ⟨(0), (0), (by first | rfl | (simp; done) | (simp [*]; done)), (by first | rfl | (simp; done) | (simp [*]; done)), H', ⟨Nat.le_refl _⟩, by repeat (first | exact Drawn0.refl _ | apply Drawn0.step)⟩
  case round =>
    clear H'
    try clear p2
    obtain ⟨x5_1, x6_1, rfl, rfl, HA, HK1, ⟨m1, rfl⟩⟩ := hrel
    cases gk with
    | zero => exact absurd HA.out (by simp [spec_Often.l0])
    | succ k1 =>
      have H := HA.out
      clear HA
      simp only [spec_Often.l0] at H
      by_cases c3 : x6_1 < (l0.length : Int)
      · rw [if_pos c3] at H
        have c3b0 : decide (x6_1 < (l0.length : Int)) = true := decide_eq_true c3
        clear c3
        by_cases c4 : 0 ≤ x6_1
        · rw [if_pos c4] at H
          have c4b0 : decide (0 ≤ x6_1) = true := decide_eq_true c4
          clear c4
          by_cases c5 : (rdOf ByteArray.empty l0 x6_1).toList = a1.toList
          · rw [if_pos c5] at H
            have c5b0 : ((rdOf ByteArray.empty l0 x6_1).toList == a1.toList) = true := beq_iff_eq.mpr c5
            have c5b1 : ((rdOf ByteArray.empty l0 x6_1).toList != a1.toList) = false := bne_eq_false_iff_eq.mpr c5
            clear c5
            have H' := Aside0.mk H
            clear H
            have p135 : 0 ≤ (x6_1 : Int) := of_decide_eq_true (by first | (with_reducible assumption) | assumption)
            have q135 : x6_1 < (l0.length : Int) := of_decide_eq_true (by first | (with_reducible assumption) | assumption)
            obtain ⟨ad135, e135, hx135_0⟩ := Kd.at_string HR0.out x6_1 p135 q135
            cases e135
            replace p135 := eq_true p135
            replace q135 := eq_true q135
            go_wp2
            go_roundg k1
            case measure => have := HK1.out; omega
            case rel => exact ⟨(wrap64 (x5_1 + 1)), (wrap64 (x6_1 + 1)), (by first | rfl | (simp; done) | (simp [*]; done)), (by first | rfl | (simp; done) | (simp [*]; done)), H', ⟨by have := HK1.out; omega⟩, by repeat (first | exact Drawn0.refl _ | apply Drawn0.step)⟩
          · rw [if_neg c5] at H
            have c5b0 : ((rdOf ByteArray.empty l0 x6_1).toList == a1.toList) = false := beq_eq_false_iff_ne.mpr c5
            have c5b1 : ((rdOf ByteArray.empty l0 x6_1).toList != a1.toList) = true := bne_iff_ne.mpr c5
            have H' := Aside0.mk H
            clear H
            have p135 : 0 ≤ (x6_1 : Int) := of_decide_eq_true (by first | (with_reducible assumption) | assumption)
            have q135 : x6_1 < (l0.length : Int) := of_decide_eq_true (by first | (with_reducible assumption) | assumption)
            obtain ⟨ad135, e135, hx135_0⟩ := Kd.at_string HR0.out x6_1 p135 q135
            cases e135
            replace p135 := eq_true p135
            replace q135 := eq_true q135
            go_wp2
            go_roundg k1
            case measure => have := HK1.out; omega
            case rel => exact ⟨(x5_1), (wrap64 (x6_1 + 1)), (by first | rfl | (simp; done) | (simp [*]; done)), (by first | rfl | (simp; done) | (simp [*]; done)), H', ⟨by have := HK1.out; omega⟩, by repeat (first | exact Drawn0.refl _ | apply Drawn0.step)⟩
        · rw [if_neg c4] at H
          exact absurd H (by simp)
      · rw [if_neg c3] at H
        have c3b0 : decide (x6_1 < (l0.length : Int)) = false := decide_eq_false c3
        clear c3
        obtain rfl := Option.some.inj H
        go_wp2
        go_ret
        exact ⟨by first | rfl | (simp; done) | (simp [*]; done), by repeat (first | exact Drawn0.refl _ | apply Drawn0.step)⟩

/-! ### spec_Less: function 22 -/
def spec_Less.l0 : Nat → List ByteArray → List ByteArray → List ByteArray → Int → Option (List ByteArray)
  | 0, _, _, _, _ => none
  | k + 1, x0, x1, x5, x6 => if x6 < (x0.length : Int) then (if 0 ≤ x6 then ((spec_Often.f k x1 (rdOf ByteArray.empty x0 x6)).bind fun t137 => (if t137 = 0 then (if x5.length < 8796093022208 then (spec_Less.l0 k x0 x1 (x5 ++ [rdOf ByteArray.empty x0 x6]) (wrap64 (x6 + 1))) else (none)) else (spec_Less.l0 k x0 x1 x5 (wrap64 (x6 + 1))))) else (none)) else (some x5)
def spec_Less.f (k : Nat) (l0 : List ByteArray) (l1 : List ByteArray) : Option (List ByteArray) := spec_Less.l0 k l0 l1 ([] : List ByteArray) 0
theorem spec_Less.mono_l : ∀ k, (∀ y0 y1 y2 y3, LeO (spec_Less.l0 k y0 y1 y2 y3) (spec_Less.l0 (k + 1) y0 y1 y2 y3))
  | 0 => fun _ _ _ _ r h => by simp [spec_Less.l0] at h
  | k + 1 => by
    have ih0 := spec_Less.mono_l k
    · intro y0 y1 y2 y3
      unfold spec_Less.l0
      repeat' first
      | (with_reducible exact ih0 _ _ _ _)
      | (with_reducible exact spec_Often.mono _ _ _)
      | (with_reducible exact LeO.refl _)
      | (with_reducible exact LeO.none _)
      | (with_reducible refine LeO.ite ?_ ?_)
      | (with_reducible refine LeO.bind ?_ (fun _ => ?_))
      | exact ih0 _ _ _ _
      | exact spec_Often.mono _ _ _
      | exact LeO.none _
      | refine LeO.ite ?_ ?_
      | refine LeO.bind ?_ (fun _ => ?_)
theorem spec_Less.mono : ∀ a0 a1 k, LeO (spec_Less.f k a0 a1) (spec_Less.f (k + 1) a0 a1) := by
  intro a0 a1 k
  have ih0 := spec_Less.mono_l k
  unfold spec_Less.f
  repeat' first
      | (with_reducible exact ih0 _ _ _ _)
      | (with_reducible exact spec_Often.mono _ _ _)
      | (with_reducible exact LeO.refl _)
      | (with_reducible exact LeO.none _)
      | (with_reducible refine LeO.ite ?_ ?_)
      | (with_reducible refine LeO.bind ?_ (fun _ => ?_))
      | exact ih0 _ _ _ _
      | exact spec_Often.mono _ _ _
      | exact LeO.none _
      | refine LeO.ite ?_ ?_
      | refine LeO.bind ?_ (fun _ => ?_)
set_option maxHeartbeats 8000000 in
set_option maxRecDepth 100000 in
theorem spec_Less.calls (k : Nat) (A0 : Option Addr) (c0 : Nat) (l0 : List ByteArray) (A1 : Option Addr) (c1 : Nat) (l1 : List ByteArray) (r : List ByteArray) (w : World) (hr0 : Kd.C Kd.string w A0 l0.length l0) (hc0 : l0.length ≤ c0) (hr1 : Kd.C Kd.string w A1 l1.length l1) (hc1 : l1.length ≤ c1) (h : spec_Less.f k l0 l1 = some r) :
    Calls Try.prog 22 #[.slice A0 l0.length c0, .slice A1 l1.length c1] w fun e w' => ∃ v0_ : Value, e = .returned (v0_) ∧ Kd.R Kd.string 9 w' w.heap.size (fun _ => True) v0_ r ∧ Below w.heap.size w w' := by
  have HR0 := Aside0.mk hr0
  have HC0 := Aside0.mk hc0
  clear hr0 hc0
  have HR1 := Aside0.mk hr1
  have HC1 := Aside0.mk hc1
  clear hr1 hc1
  have HB := Aside0.mk (Below.refl w.heap.size w)
  have H : (spec_Less.l0 k l0 l1 ([] : List ByteArray) 0) = some r := h
  clear h
  have H' := Aside0.mk H
  clear H
  go_enter Try.func22, Try.ntmps22
  go_wp2
  go_loopg [5, 6] k (fun kq v5 v6 w' => ∃ (x5_1 : List ByteArray) (x6_1 : Int), v6 = .int .i64 x6_1 ∧ Aside0 (spec_Less.l0 kq l0 l1 x5_1 x6_1 = some r) ∧ Aside0 (kq ≤ k) ∧ Aside0 (Kd.R Kd.string 9 w' w.heap.size (fun _ => True) v5 x5_1) ∧ Aside0 (Below w.heap.size w w'))
  case atStart => exact ⟨(([] : List ByteArray)), (0), (by first | rfl | (simp; done) | (simp [*]; done)), H', ⟨Nat.le_refl _⟩, ⟨by first | exact Kd.R_nil _ _ _ _ _ | exact Kd.N_nil _ _ _ _ _ | exact Kd.V_nil _ _ _ _ _ | exact Kd.Q_nil _ _ _ _ _ | exact Kd.S_nil _ _ _ _ _⟩, ⟨by repeat (first | (with_reducible first | exact HB.out | apply below_alloc | apply pw_below_drewN | apply below_drew1) | exact HB.out)⟩⟩
  case round =>
    clear H'
    try clear c1
    try clear c2
    try clear p2
    obtain ⟨x5_1, x6_1, rfl, HA, HK1, HO_5, HB⟩ := hrel
    cases gk with
    | zero => exact absurd HA.out (by simp [spec_Less.l0])
    | succ k1 =>
      have H := HA.out
      clear HA
      simp only [spec_Less.l0] at H
      by_cases c3 : x6_1 < (l0.length : Int)
      · rw [if_pos c3] at H
        have c3b0 : decide (x6_1 < (l0.length : Int)) = true := decide_eq_true c3
        clear c3
        by_cases c4 : 0 ≤ x6_1
        · rw [if_pos c4] at H
          have c4b0 : decide (0 ≤ x6_1) = true := decide_eq_true c4
          clear c4
          replace H := Option.bind_eq_some_iff.mp H
          obtain ⟨t137, A50, H⟩ := H
          replace H : (if t137 = 0 then (if x5_1.length < 8796093022208 then (spec_Less.l0 k1 l0 l1 (x5_1 ++ [rdOf ByteArray.empty l0 x6_1]) (wrap64 (x6_1 + 1))) else (none)) else (spec_Less.l0 k1 l0 l1 x5_1 (wrap64 (x6_1 + 1)))) = some r := H
          have A5 := Aside0.mk A50
          clear A50
          by_cases c6 : t137 = 0
          · rw [if_pos c6] at H
            have c6b0 : (t137 == 0) = true := beq_iff_eq.mpr c6
            have c6b1 : (t137 != 0) = false := bne_eq_false_iff_eq.mpr c6
            clear c6
            by_cases c7 : x5_1.length < 8796093022208
            · rw [if_pos c7] at H
              have LMc7 := Aside0.mk c7
              clear c7
              obtain ⟨y139, hy139⟩ : ∃ y_ : List ByteArray, y_ = (x5_1 ++ [rdOf ByteArray.empty l0 x6_1]) := ⟨_, rfl⟩
              replace H : (spec_Less.l0 k1 l0 l1 y139 (wrap64 (x6_1 + 1))) = some r := by first | (rw [hy139]; with_reducible exact H) | (have H2_ := (Option.bind_some _ _).symm.trans H; rw [hy139]; with_reducible exact H2_) | (have H2_ := (Option.bind_some _ _).symm.trans H; with_reducible exact H2_) | with_reducible exact H | (rw [hy139]; exact H) | exact H
              have Ny139 := Aside0.mk hy139
              clear hy139
              have H' := Aside0.mk H
              clear H
              have p136 : 0 ≤ (x6_1 : Int) := of_decide_eq_true (by first | (with_reducible assumption) | assumption)
              have q136 : x6_1 < (l0.length : Int) := of_decide_eq_true (by first | (with_reducible assumption) | assumption)
              obtain ⟨ad136, e136, hx136_0⟩ := Kd.at_string HR0.out x6_1 p136 q136
              cases e136
              replace hx136_0 := (HB.out.cell (World.block_lt_of_cell? w _ hx136_0)).trans hx136_0
              replace p136 := eq_true p136
              replace q136 := eq_true q136
              go_wp2_with (first | ((with_reducible refine gate_callee (f := 44) rfl ?_); refine goesL_ (some 18) rfl rfl Try.func44 (by kernel_rfl) rfl #[.slice A1 l1.length c1, .string (rdOf ByteArray.empty l0 x6_1)] rfl (by (try simp only [List.map_toArray, List.map_cons, List.map_nil]); first | done | rfl | (simp only [List.length_drop, List.length_take]; rfl)) ?_; (with_reducible refine (spec_Often.calls k1 _ _ l1 (rdOf ByteArray.empty l0 x6_1) t137 _ ?side1 ?side2 A5.out).mono ?_); (case side1 => repeat (first | exact (Kd.C_below HR1.out HB.out) | (with_reducible refine Kd.C_alloc ?_ _) | (with_reducible refine Kd.C_drewN ?_ _) | (with_reducible refine Kd.C_drew ?_))); (case side2 => exact HC1.out); rintro e w' ⟨rfl, ⟨nd, rfl⟩⟩; refine ⟨_, rfl, ?_⟩; have p138 : 0 ≤ (x6_1 : Int) := of_decide_eq_true (by first | (with_reducible assumption) | assumption); have q138 : x6_1 < (l0.length : Int) := of_decide_eq_true (by first | (with_reducible assumption) | assumption); obtain ⟨ad138, e138, hx138_0⟩ := Kd.at_string HR0.out x6_1 p138 q138; obtain rfl : ad136 = ad138 := (by injection e138); replace hx138_0 := (HB.out.cell (World.block_lt_of_cell? w _ hx138_0)).trans hx138_0; replace p138 := eq_true p138; replace q138 := eq_true q138) | ((with_reducible refine gate_builtin (b := .append) (xs := #[.tmp 20, .tmp 25]) rfl ?_); at_builtin; refine Kd.R_append Kd.string (w0 := w) w.heap.size rfl (.tmp 20) (.tmp 25) 22 9 (.string ⟨#[]⟩) 16 rfl Try.underlying22 info9 rfl (by decide) (by omega) u5 x5_1 (rdOf ByteArray.empty l0 x6_1) [.string (rdOf ByteArray.empty l0 x6_1)] (fun _ => True) (fun _ => False) rfl rfl ?aP (fun _ hk => hk.elim) ?aF ?aO ?aB ?aS ?aL ?_; (case aP => exact rfl); (case aB => exact (by repeat (first | (with_reducible first | exact HB.out | apply below_alloc | apply pw_below_drewN | apply below_drew1) | exact HB.out))); (case aF => exact (fun _ _ => trivial)); (case aO => exact (by (with_reducible repeat (first | apply Kd.R_alloc | apply Kd.R_drewN | apply Kd.R_drew)); exact HO_5.out)); (case aS => exact (below_size (by repeat (first | (with_reducible first | exact HB.out | apply below_alloc | apply pw_below_drewN | apply below_drew1) | exact HB.out)))); (case aL => have := LMc7.out; omega); intro v140 w8 ho hb hg hat; rw [← Ny139.out] at ho; have n0_ := Aside0.mk (hb); have n1_ := Aside0.mk (ho); clear HB; clear HO_5; have HB := n0_; have HO141 := n1_; clear n0_ n1_; clear ho hb hg hat))
              go_roundg k1
              case measure => have := HK1.out; omega
              case rel => exact ⟨(y139), (wrap64 (x6_1 + 1)), (by first | rfl | (simp; done) | (simp [*]; done)), H', ⟨by have := HK1.out; omega⟩, ⟨by (with_reducible repeat (first | apply Kd.R_alloc | apply Kd.R_drewN | apply Kd.R_drew)); exact HO141.out⟩, ⟨by repeat (first | (with_reducible first | exact HB.out | apply below_alloc | apply pw_below_drewN | apply below_drew1) | exact HB.out)⟩⟩
            · rw [if_neg c7] at H
              exact absurd H (by simp)
          · rw [if_neg c6] at H
            have c6b0 : (t137 == 0) = false := beq_eq_false_iff_ne.mpr c6
            have c6b1 : (t137 != 0) = true := bne_iff_ne.mpr c6
            have H' := Aside0.mk H
            clear H
            have p136 : 0 ≤ (x6_1 : Int) := of_decide_eq_true (by first | (with_reducible assumption) | assumption)
            have q136 : x6_1 < (l0.length : Int) := of_decide_eq_true (by first | (with_reducible assumption) | assumption)
            obtain ⟨ad136, e136, hx136_0⟩ := Kd.at_string HR0.out x6_1 p136 q136
            cases e136
            replace hx136_0 := (HB.out.cell (World.block_lt_of_cell? w _ hx136_0)).trans hx136_0
            replace p136 := eq_true p136
            replace q136 := eq_true q136
            go_wp2_with (first | ((with_reducible refine gate_callee (f := 44) rfl ?_); refine goesL_ (some 18) rfl rfl Try.func44 (by kernel_rfl) rfl #[.slice A1 l1.length c1, .string (rdOf ByteArray.empty l0 x6_1)] rfl (by (try simp only [List.map_toArray, List.map_cons, List.map_nil]); first | done | rfl | (simp only [List.length_drop, List.length_take]; rfl)) ?_; (with_reducible refine (spec_Often.calls k1 _ _ l1 (rdOf ByteArray.empty l0 x6_1) t137 _ ?side1 ?side2 A5.out).mono ?_); (case side1 => repeat (first | exact (Kd.C_below HR1.out HB.out) | (with_reducible refine Kd.C_alloc ?_ _) | (with_reducible refine Kd.C_drewN ?_ _) | (with_reducible refine Kd.C_drew ?_))); (case side2 => exact HC1.out); rintro e w' ⟨rfl, ⟨nd, rfl⟩⟩; refine ⟨_, rfl, ?_⟩))
            go_roundg k1
            case measure => have := HK1.out; omega
            case rel => exact ⟨(x5_1), (wrap64 (x6_1 + 1)), (by first | rfl | (simp; done) | (simp [*]; done)), H', ⟨by have := HK1.out; omega⟩, ⟨by (with_reducible repeat (first | apply Kd.R_alloc | apply Kd.R_drewN | apply Kd.R_drew)); exact HO_5.out⟩, ⟨by repeat (first | (with_reducible first | exact HB.out | apply below_alloc | apply pw_below_drewN | apply below_drew1) | exact HB.out)⟩⟩
        · rw [if_neg c4] at H
          exact absurd H (by simp)
      · rw [if_neg c3] at H
        have c3b0 : decide (x6_1 < (l0.length : Int)) = false := decide_eq_false c3
        clear c3
        obtain rfl := Option.some.inj H
        go_wp2
        go_ret
        exact ⟨_, by first | rfl | (simp [errW_none, errW_some] <;> rfl) | (simp [*, errW_none, errW_some] <;> rfl), by (with_reducible repeat (first | apply Kd.R_alloc | apply Kd.R_drewN | apply Kd.R_drew)); exact HO_5.out, by repeat (first | (with_reducible first | exact HB.out | apply below_alloc | apply pw_below_drewN | apply below_drew1) | exact HB.out)⟩

/-! ### laws_FnSubtract: function 4 -/
mutual
def laws_FnSubtract.j0 : Nat → List ByteArray → List ByteArray → Bool → Option (Bool)
  | 0, _, _, _ => none
  | k + 1, x0, x1, x12 => if x12 = true then (some true) else ((laws_texts.f x0).bind fun t144 => (if t144 = true then ((laws_texts.f x1).bind fun t145 => (laws_FnSubtract.j1 k x0 x1 (!t145))) else (laws_FnSubtract.j1 k x0 x1 true)))
def laws_FnSubtract.j1 : Nat → List ByteArray → List ByteArray → Bool → Option (Bool)
  | 0, _, _, _ => none
  | k + 1, x0, x1, x20 => if x20 = true then ((laws_awakeUtil.f k).bind fun t146 => (some t146)) else ((laws_copied.f x0).bind fun t147 => ((laws_copied.f x1).bind fun t150 => ((impl_SetSubtract.f t147 t150).bind fun t153 => ((spec_Less.f k x0 x1).bind fun t156 => ((spec_SameList.f k t153 t156).bind fun t159 => (if t159 = true then ((laws_awakeUtil.f k).bind fun t160 => (some t160)) else (some false)))))))
end
def laws_FnSubtract.f (k : Nat) (l0 : List ByteArray) (l1 : List ByteArray) : Option (Bool) := (laws_zzFits10.f k l0).bind fun t142 => (if t142 = true then ((laws_zzFits10.f k l1).bind fun t143 => (laws_FnSubtract.j0 k l0 l1 (!t143))) else (laws_FnSubtract.j0 k l0 l1 true))
theorem laws_FnSubtract.mono_l : ∀ k, (∀ y0 y1 y2, LeO (laws_FnSubtract.j0 k y0 y1 y2) (laws_FnSubtract.j0 (k + 1) y0 y1 y2)) ∧ (∀ y0 y1 y2, LeO (laws_FnSubtract.j1 k y0 y1 y2) (laws_FnSubtract.j1 (k + 1) y0 y1 y2))
  | 0 => ⟨fun _ _ _ r h => by simp [laws_FnSubtract.j0] at h, fun _ _ _ r h => by simp [laws_FnSubtract.j1] at h⟩
  | k + 1 => by
    obtain ⟨ih0, ih1⟩ := laws_FnSubtract.mono_l k
    refine ⟨?_, ?_⟩
    · intro y0 y1 y2
      unfold laws_FnSubtract.j0
      repeat' first
      | (with_reducible exact ih0 _ _ _)
      | (with_reducible exact ih1 _ _ _)
      | (with_reducible exact laws_awakeUtil.mono _)
      | (with_reducible exact laws_zzFits10.mono _ _)
      | (with_reducible exact spec_Less.mono _ _ _)
      | (with_reducible exact spec_SameList.mono _ _ _)
      | (with_reducible exact LeO.refl _)
      | (with_reducible exact LeO.none _)
      | (with_reducible refine LeO.ite ?_ ?_)
      | (with_reducible refine LeO.bind ?_ (fun _ => ?_))
      | exact ih0 _ _ _
      | exact ih1 _ _ _
      | exact laws_awakeUtil.mono _
      | exact laws_zzFits10.mono _ _
      | exact spec_Less.mono _ _ _
      | exact spec_SameList.mono _ _ _
      | exact LeO.none _
      | refine LeO.ite ?_ ?_
      | refine LeO.bind ?_ (fun _ => ?_)
    · intro y0 y1 y2
      unfold laws_FnSubtract.j1
      repeat' first
      | (with_reducible exact ih0 _ _ _)
      | (with_reducible exact ih1 _ _ _)
      | (with_reducible exact laws_awakeUtil.mono _)
      | (with_reducible exact laws_zzFits10.mono _ _)
      | (with_reducible exact spec_Less.mono _ _ _)
      | (with_reducible exact spec_SameList.mono _ _ _)
      | (with_reducible exact LeO.refl _)
      | (with_reducible exact LeO.none _)
      | (with_reducible refine LeO.ite ?_ ?_)
      | (with_reducible refine LeO.bind ?_ (fun _ => ?_))
      | exact ih0 _ _ _
      | exact ih1 _ _ _
      | exact laws_awakeUtil.mono _
      | exact laws_zzFits10.mono _ _
      | exact spec_Less.mono _ _ _
      | exact spec_SameList.mono _ _ _
      | exact LeO.none _
      | refine LeO.ite ?_ ?_
      | refine LeO.bind ?_ (fun _ => ?_)
theorem laws_FnSubtract.mono : ∀ a0 a1 k, LeO (laws_FnSubtract.f k a0 a1) (laws_FnSubtract.f (k + 1) a0 a1) := by
  intro a0 a1 k
  obtain ⟨ih0, ih1⟩ := laws_FnSubtract.mono_l k
  unfold laws_FnSubtract.f
  repeat' first
      | (with_reducible exact ih0 _ _ _)
      | (with_reducible exact ih1 _ _ _)
      | (with_reducible exact laws_awakeUtil.mono _)
      | (with_reducible exact laws_zzFits10.mono _ _)
      | (with_reducible exact spec_Less.mono _ _ _)
      | (with_reducible exact spec_SameList.mono _ _ _)
      | (with_reducible exact LeO.refl _)
      | (with_reducible exact LeO.none _)
      | (with_reducible refine LeO.ite ?_ ?_)
      | (with_reducible refine LeO.bind ?_ (fun _ => ?_))
      | exact ih0 _ _ _
      | exact ih1 _ _ _
      | exact laws_awakeUtil.mono _
      | exact laws_zzFits10.mono _ _
      | exact spec_Less.mono _ _ _
      | exact spec_SameList.mono _ _ _
      | exact LeO.none _
      | refine LeO.ite ?_ ?_
      | refine LeO.bind ?_ (fun _ => ?_)
set_option maxHeartbeats 8000000 in
set_option maxRecDepth 100000 in
theorem laws_FnSubtract.calls (k : Nat) (A0 : Option Addr) (c0 : Nat) (l0 : List ByteArray) (A1 : Option Addr) (c1 : Nat) (l1 : List ByteArray) (r : Bool) (w : World) (hr0 : Kd.C Kd.string w A0 l0.length l0) (hc0 : l0.length ≤ c0) (hr1 : Kd.C Kd.string w A1 l1.length l1) (hc1 : l1.length ≤ c1) (h : laws_FnSubtract.f k l0 l1 = some r) :
    Calls Try.prog 4 #[.slice A0 l0.length c0, .slice A1 l1.length c1] w fun e w' => e = .returned (.bool r) ∧ Below w.heap.size w w' := by
  have HR0 := Aside0.mk hr0
  have HC0 := Aside0.mk hc0
  clear hr0 hc0
  have HR1 := Aside0.mk hr1
  have HC1 := Aside0.mk hc1
  clear hr1 hc1
  have HB := Aside0.mk (Below.refl w.heap.size w)
  have H : ((laws_zzFits10.f k l0).bind fun t142 => (if t142 = true then ((laws_zzFits10.f k l1).bind fun t143 => (laws_FnSubtract.j0 k l0 l1 (!t143))) else (laws_FnSubtract.j0 k l0 l1 true))) = some r := h
  clear h
  have HC3 := Aside0.mk H
  clear H
  go_enter Try.func4, Try.ntmps4
  go_upto_region 1 with (fail)
  go_cut [12] (fun v12 wc => ∃ (kq : Nat) (x12_2 : Bool), v12 = .bool x12_2 ∧ Aside0 (laws_FnSubtract.j0 kq l0 l1 x12_2 = some r) ∧ Aside0 (kq ≤ k) ∧ Aside0 (Below w.heap.size w wc))
  case first =>
    have H := HC3.out
    clear HC3
    replace H := Option.bind_eq_some_iff.mp H
    obtain ⟨t142, A40, H⟩ := H
    replace H : (if t142 = true then ((laws_zzFits10.f k l1).bind fun t143 => (laws_FnSubtract.j0 k l0 l1 (!t143))) else (laws_FnSubtract.j0 k l0 l1 true)) = some r := H
    have A4 := Aside0.mk A40
    clear A40
    by_cases c5 : t142 = true
    · subst c5
      have H1 : ((laws_zzFits10.f k l1).bind fun t143 => (laws_FnSubtract.j0 k l0 l1 (!t143))) = some r := by rw [if_pos rfl] at H; exact H
      clear H
      have H := H1
      clear H1
      replace H := Option.bind_eq_some_iff.mp H
      obtain ⟨t143, A60, H⟩ := H
      replace H : (laws_FnSubtract.j0 k l0 l1 (!t143)) = some r := H
      have A6 := Aside0.mk A60
      clear A60
      have H' := Aside0.mk H
      clear H
      go_wp2_with (first | ((with_reducible refine gate_callee (f := 10) rfl ?_); refine goesL_ (some 6) rfl rfl Try.func10 (by kernel_rfl) rfl #[.slice A0 l0.length c0] rfl (by (try simp only [List.map_toArray, List.map_cons, List.map_nil]); first | done | rfl | (simp only [List.length_drop, List.length_take]; rfl)) ?_; (with_reducible refine (laws_zzFits10.calls k _ _ l0 true _ ?side1 ?side2 A4.out).mono ?_); (case side1 => repeat (first | exact (Kd.C_below HR0.out HB.out) | (with_reducible refine Kd.C_alloc ?_ _) | (with_reducible refine Kd.C_drewN ?_ _) | (with_reducible refine Kd.C_drew ?_))); (case side2 => exact HC0.out); rintro e w' ⟨rfl, ⟨nd, rfl⟩⟩; refine ⟨_, rfl, ?_⟩) | (go_at_call 10; (with_reducible refine (laws_zzFits10.calls k _ _ l1 t143 _ ?side1 ?side2 A6.out).mono ?_); (case side1 => repeat (first | exact (Kd.C_below HR1.out (by repeat (first | (with_reducible first | exact HB.out | apply below_alloc | apply pw_below_drewN | apply below_drew1) | exact HB.out))) | (with_reducible refine Kd.C_alloc ?_ _) | (with_reducible refine Kd.C_drewN ?_ _) | (with_reducible refine Kd.C_drew ?_))); (case side2 => exact HC1.out); rintro e w' ⟨rfl, ⟨nd, rfl⟩⟩))
      go_meet
      case rel => exact ⟨_, (!t143), (by first | rfl | (simp; done) | (simp [*]; done)), H', ⟨by first | omega | exact Nat.le_refl _⟩, ⟨by repeat (first | (with_reducible first | exact HB.out | apply below_alloc | apply pw_below_drewN | apply below_drew1) | exact HB.out)⟩⟩
    · replace c5 := Bool.eq_false_iff.mpr c5
      subst c5
      have H1 : (laws_FnSubtract.j0 k l0 l1 true) = some r := by rw [if_neg (show ¬ (false = true) by decide)] at H; exact H
      clear H
      have H := H1
      clear H1
      have H' := Aside0.mk H
      clear H
      go_wp2_with (first | ((with_reducible refine gate_callee (f := 10) rfl ?_); refine goesL_ (some 6) rfl rfl Try.func10 (by kernel_rfl) rfl #[.slice A0 l0.length c0] rfl (by (try simp only [List.map_toArray, List.map_cons, List.map_nil]); first | done | rfl | (simp only [List.length_drop, List.length_take]; rfl)) ?_; (with_reducible refine (laws_zzFits10.calls k _ _ l0 false _ ?side1 ?side2 A4.out).mono ?_); (case side1 => repeat (first | exact (Kd.C_below HR0.out HB.out) | (with_reducible refine Kd.C_alloc ?_ _) | (with_reducible refine Kd.C_drewN ?_ _) | (with_reducible refine Kd.C_drew ?_))); (case side2 => exact HC0.out); rintro e w' ⟨rfl, ⟨nd, rfl⟩⟩; refine ⟨_, rfl, ?_⟩))
      go_meet
      case rel => exact ⟨_, (true), (by first | rfl | (simp; done) | (simp [*]; done)), H', ⟨by first | omega | exact Nat.le_refl _⟩, ⟨by repeat (first | (with_reducible first | exact HB.out | apply below_alloc | apply pw_below_drewN | apply below_drew1) | exact HB.out)⟩⟩
  case rest =>
    clear HC3
    try clear c1
    try clear p2
    try clear c4
    try clear c5
    obtain ⟨kq, x12_2, rfl, HA, HJ2, HB⟩ := hcut
    cases kq with
    | zero => exact absurd HA.out (by simp [laws_FnSubtract.j0])
    | succ kj2 =>
      have H := HA.out
      clear HA
      simp only [laws_FnSubtract.j0] at H
      by_cases c7 : x12_2 = true
      · subst c7
        have H1 : (some true) = some r := by rw [if_pos rfl] at H; exact H
        clear H
        have H := H1
        clear H1
        obtain rfl := Option.some.inj H
        go_wp2
        go_ret
        exact ⟨by first | rfl | (simp [errW_none, errW_some] <;> rfl) | (simp [*, errW_none, errW_some] <;> rfl), by repeat (first | (with_reducible first | exact HB.out | apply below_alloc | apply pw_below_drewN | apply below_drew1) | exact HB.out)⟩
      · replace c7 := Bool.eq_false_iff.mpr c7
        subst c7
        have H1 : ((laws_texts.f l0).bind fun t144 => (if t144 = true then ((laws_texts.f l1).bind fun t145 => (laws_FnSubtract.j1 kj2 l0 l1 (!t145))) else (laws_FnSubtract.j1 kj2 l0 l1 true))) = some r := by rw [if_neg (show ¬ (false = true) by decide)] at H; exact H
        clear H
        have H := H1
        clear H1
        have HC8 := Aside0.mk H
        clear H
        go_upto_region 3 with (fail)
        go_cut [20] (fun v20 wc => ∃ (kq : Nat) (x20_7 : Bool), v20 = .bool x20_7 ∧ Aside0 (laws_FnSubtract.j1 kq l0 l1 x20_7 = some r) ∧ Aside0 (kq ≤ kj2) ∧ Aside0 (Below w.heap.size w wc))
        case first =>
          have H := HC8.out
          clear HC8
          replace H := Option.bind_eq_some_iff.mp H
          obtain ⟨t144, A90, H⟩ := H
          replace H : (if t144 = true then ((laws_texts.f l1).bind fun t145 => (laws_FnSubtract.j1 kj2 l0 l1 (!t145))) else (laws_FnSubtract.j1 kj2 l0 l1 true)) = some r := H
          have A9 := Aside0.mk A90
          clear A90
          by_cases c10 : t144 = true
          · subst c10
            have H1 : ((laws_texts.f l1).bind fun t145 => (laws_FnSubtract.j1 kj2 l0 l1 (!t145))) = some r := by rw [if_pos rfl] at H; exact H
            clear H
            have H := H1
            clear H1
            replace H := Option.bind_eq_some_iff.mp H
            obtain ⟨t145, A110, H⟩ := H
            replace H : (laws_FnSubtract.j1 kj2 l0 l1 (!t145)) = some r := H
            have A11 := Aside0.mk A110
            clear A110
            have H' := Aside0.mk H
            clear H
            go_wp2_with (first | ((with_reducible refine gate_callee (f := 12) rfl ?_); refine goesL_ (some 14) rfl rfl Try.func12 (by kernel_rfl) rfl #[.slice A0 l0.length c0] rfl (by (try simp only [List.map_toArray, List.map_cons, List.map_nil]); first | done | rfl | (simp only [List.length_drop, List.length_take]; rfl)) ?_; (with_reducible refine (laws_texts.calls _ _ l0 true _ ?side1 ?side2 A9.out).mono ?_); (case side1 => repeat (first | exact (Kd.C_below HR0.out HB.out) | (with_reducible refine Kd.C_alloc ?_ _) | (with_reducible refine Kd.C_drewN ?_ _) | (with_reducible refine Kd.C_drew ?_))); (case side2 => exact HC0.out); rintro e w' ⟨rfl, ⟨nd, rfl⟩⟩; refine ⟨_, rfl, ?_⟩) | (go_at_call 12; (with_reducible refine (laws_texts.calls _ _ l1 t145 _ ?side1 ?side2 A11.out).mono ?_); (case side1 => repeat (first | exact (Kd.C_below HR1.out (by repeat (first | (with_reducible first | exact HB.out | apply below_alloc | apply pw_below_drewN | apply below_drew1) | exact HB.out))) | (with_reducible refine Kd.C_alloc ?_ _) | (with_reducible refine Kd.C_drewN ?_ _) | (with_reducible refine Kd.C_drew ?_))); (case side2 => exact HC1.out); rintro e w' ⟨rfl, ⟨nd, rfl⟩⟩))
            go_meet
            case rel => exact ⟨_, (!t145), (by first | rfl | (simp; done) | (simp [*]; done)), H', ⟨by have := HJ2.out; first | omega | exact Nat.le_refl _⟩, ⟨by repeat (first | (with_reducible first | exact HB.out | apply below_alloc | apply pw_below_drewN | apply below_drew1) | exact HB.out)⟩⟩
          · replace c10 := Bool.eq_false_iff.mpr c10
            subst c10
            have H1 : (laws_FnSubtract.j1 kj2 l0 l1 true) = some r := by rw [if_neg (show ¬ (false = true) by decide)] at H; exact H
            clear H
            have H := H1
            clear H1
            have H' := Aside0.mk H
            clear H
            go_wp2_with (first | ((with_reducible refine gate_callee (f := 12) rfl ?_); refine goesL_ (some 14) rfl rfl Try.func12 (by kernel_rfl) rfl #[.slice A0 l0.length c0] rfl (by (try simp only [List.map_toArray, List.map_cons, List.map_nil]); first | done | rfl | (simp only [List.length_drop, List.length_take]; rfl)) ?_; (with_reducible refine (laws_texts.calls _ _ l0 false _ ?side1 ?side2 A9.out).mono ?_); (case side1 => repeat (first | exact (Kd.C_below HR0.out HB.out) | (with_reducible refine Kd.C_alloc ?_ _) | (with_reducible refine Kd.C_drewN ?_ _) | (with_reducible refine Kd.C_drew ?_))); (case side2 => exact HC0.out); rintro e w' ⟨rfl, ⟨nd, rfl⟩⟩; refine ⟨_, rfl, ?_⟩))
            go_meet
            case rel => exact ⟨_, (true), (by first | rfl | (simp; done) | (simp [*]; done)), H', ⟨by have := HJ2.out; first | omega | exact Nat.le_refl _⟩, ⟨by repeat (first | (with_reducible first | exact HB.out | apply below_alloc | apply pw_below_drewN | apply below_drew1) | exact HB.out)⟩⟩
        case rest =>
          clear HC8
          try clear c1
          try clear p2
          try clear c4
          try clear c5
          try clear c7
          try clear c10
          try clear p2
          obtain ⟨kq, x20_7, rfl, HA, HJ7, HB⟩ := hcut
          cases kq with
          | zero => exact absurd HA.out (by simp [laws_FnSubtract.j1])
          | succ kj7 =>
            have H := HA.out
            clear HA
            simp only [laws_FnSubtract.j1] at H
            by_cases c12 : x20_7 = true
            · subst c12
              have H1 : ((laws_awakeUtil.f kj7).bind fun t146 => (some t146)) = some r := by rw [if_pos rfl] at H; exact H
              clear H
              have H := H1
              clear H1
              replace H := Option.bind_eq_some_iff.mp H
              obtain ⟨t146, A130, H⟩ := H
              replace H : (some t146) = some r := H
              have A13 := Aside0.mk A130
              clear A130
              obtain rfl := Option.some.inj H
              go_wp2_with (first | ((with_reducible refine gate_callee (f := 14) rfl ?_); refine goesL_ (some 21) rfl rfl Try.func14 (by kernel_rfl) rfl #[] rfl (by (try simp only [List.map_toArray, List.map_cons, List.map_nil]); first | done | rfl | (simp only [List.length_drop, List.length_take]; rfl)) ?_; (with_reducible refine (laws_awakeUtil.calls kj7  t146 _ A13.out).mono ?_); rintro e w14 ⟨rfl, hb⟩; refine ⟨_, rfl, ?_⟩; have n0_ := Aside0.mk (below_step (by repeat (first | (with_reducible first | exact HB.out | apply below_alloc | apply pw_below_drewN | apply below_drew1) | exact HB.out)) hb); clear HB; have HB := n0_; clear n0_; (try clear hb); (try clear hb2); (try clear hk); (try clear hi)))
              go_ret
              exact ⟨by first | rfl | (simp [errW_none, errW_some] <;> rfl) | (simp [*, errW_none, errW_some] <;> rfl), by repeat (first | (with_reducible first | exact HB.out | apply below_alloc | apply pw_below_drewN | apply below_drew1) | exact HB.out)⟩
            · replace c12 := Bool.eq_false_iff.mpr c12
              subst c12
              have H1 : ((laws_copied.f l0).bind fun t147 => ((laws_copied.f l1).bind fun t150 => ((impl_SetSubtract.f t147 t150).bind fun t153 => ((spec_Less.f kj7 l0 l1).bind fun t156 => ((spec_SameList.f kj7 t153 t156).bind fun t159 => (if t159 = true then ((laws_awakeUtil.f kj7).bind fun t160 => (some t160)) else (some false))))))) = some r := by rw [if_neg (show ¬ (false = true) by decide)] at H; exact H
              clear H
              have H := H1
              clear H1
              replace H := Option.bind_eq_some_iff.mp H
              obtain ⟨t147, A150, H⟩ := H
              replace H : ((laws_copied.f l1).bind fun t150 => ((impl_SetSubtract.f t147 t150).bind fun t153 => ((spec_Less.f kj7 l0 l1).bind fun t156 => ((spec_SameList.f kj7 t153 t156).bind fun t159 => (if t159 = true then ((laws_awakeUtil.f kj7).bind fun t160 => (some t160)) else (some false)))))) = some r := H
              have A15 := Aside0.mk A150
              clear A150
              replace H := Option.bind_eq_some_iff.mp H
              obtain ⟨t150, A160, H⟩ := H
              replace H : ((impl_SetSubtract.f t147 t150).bind fun t153 => ((spec_Less.f kj7 l0 l1).bind fun t156 => ((spec_SameList.f kj7 t153 t156).bind fun t159 => (if t159 = true then ((laws_awakeUtil.f kj7).bind fun t160 => (some t160)) else (some false))))) = some r := H
              have A16 := Aside0.mk A160
              clear A160
              replace H := Option.bind_eq_some_iff.mp H
              obtain ⟨t153, A170, H⟩ := H
              replace H : ((spec_Less.f kj7 l0 l1).bind fun t156 => ((spec_SameList.f kj7 t153 t156).bind fun t159 => (if t159 = true then ((laws_awakeUtil.f kj7).bind fun t160 => (some t160)) else (some false)))) = some r := H
              have A17 := Aside0.mk A170
              clear A170
              replace H := Option.bind_eq_some_iff.mp H
              obtain ⟨t156, A180, H⟩ := H
              replace H : ((spec_SameList.f kj7 t153 t156).bind fun t159 => (if t159 = true then ((laws_awakeUtil.f kj7).bind fun t160 => (some t160)) else (some false))) = some r := H
              have A18 := Aside0.mk A180
              clear A180
              replace H := Option.bind_eq_some_iff.mp H
              obtain ⟨t159, A190, H⟩ := H
              replace H : (if t159 = true then ((laws_awakeUtil.f kj7).bind fun t160 => (some t160)) else (some false)) = some r := H
              have A19 := Aside0.mk A190
              clear A190
              by_cases c20 : t159 = true
              · subst c20
                have H1 : ((laws_awakeUtil.f kj7).bind fun t160 => (some t160)) = some r := by rw [if_pos rfl] at H; exact H
                clear H
                have H := H1
                clear H1
                replace H := Option.bind_eq_some_iff.mp H
                obtain ⟨t160, A210, H⟩ := H
                replace H : (some t160) = some r := H
                have A21 := Aside0.mk A210
                clear A210
                obtain rfl := Option.some.inj H
                go_wp2_with (first | ((with_reducible refine gate_callee (f := 16) rfl ?_); refine goesL_ (some 23) rfl rfl Try.func16 (by kernel_rfl) rfl #[.slice A0 l0.length c0] rfl (by (try simp only [List.map_toArray, List.map_cons, List.map_nil]); first | done | rfl | (simp only [List.length_drop, List.length_take]; rfl)) ?_; (with_reducible refine (laws_copied.calls _ _ l0 t147 _ ?side1 ?side2 A15.out).mono ?_); (case side1 => repeat (first | exact (Kd.C_below HR0.out HB.out) | (with_reducible refine Kd.C_alloc ?_ _) | (with_reducible refine Kd.C_drewN ?_ _) | (with_reducible refine Kd.C_drew ?_))); (case side2 => exact HC0.out); rintro e w22 ⟨v148, rfl, ho0, hb⟩; refine ⟨_, rfl, ?_⟩; have n0_ := Aside0.mk (Kd.R_lower ho0 (below_size (by repeat (first | (with_reducible first | exact HB.out | apply below_alloc | apply pw_below_drewN | apply below_drew1) | exact HB.out)))); have n1_ := Aside0.mk (below_step (by repeat (first | (with_reducible first | exact HB.out | apply below_alloc | apply pw_below_drewN | apply below_drew1) | exact HB.out)) hb); clear HB; have HO149 := n0_; have HB := n1_; clear n0_ n1_; (try clear hb); (try clear hb2); (try clear hk); (try clear hi); (try clear ho0)) | ((with_reducible refine gate_callee (f := 16) rfl ?_); refine goesL_ (some 25) rfl rfl Try.func16 (by kernel_rfl) rfl #[.slice A1 l1.length c1] rfl (by (try simp only [List.map_toArray, List.map_cons, List.map_nil]); first | done | rfl | (simp only [List.length_drop, List.length_take]; rfl)) ?_; (with_reducible refine (laws_copied.calls _ _ l1 t150 _ ?side1 ?side2 A16.out).mono ?_); (case side1 => repeat (first | exact (Kd.C_below HR1.out HB.out) | (with_reducible refine Kd.C_alloc ?_ _) | (with_reducible refine Kd.C_drewN ?_ _) | (with_reducible refine Kd.C_drew ?_))); (case side2 => exact HC1.out); rintro e w23 ⟨v151, rfl, ho0, hb⟩; refine ⟨_, rfl, ?_⟩; have n0_ := Aside0.mk (Kd.R_elder' (by (with_reducible repeat (first | apply Kd.R_alloc | apply Kd.R_drewN | apply Kd.R_drew)); exact HO149.out) (Kd.R_base ho0) hb); have n1_ := Aside0.mk (Kd.R_lower (Kd.R_new' ho0 (Kd.R_lt (by (with_reducible repeat (first | apply Kd.R_alloc | apply Kd.R_drewN | apply Kd.R_drew)); exact HO149.out))) (below_size (by repeat (first | (with_reducible first | exact HB.out | apply below_alloc | apply pw_below_drewN | apply below_drew1) | exact HB.out)))); have n2_ := Aside0.mk (below_step (by repeat (first | (with_reducible first | exact HB.out | apply below_alloc | apply pw_below_drewN | apply below_drew1) | exact HB.out)) hb); clear HO149; clear HB; have HO149 := n0_; have HO152 := n1_; have HB := n2_; clear n0_ n1_ n2_; (try clear hb); (try clear hb2); (try clear hk); (try clear hi); (try clear ho0); obtain ⟨Ao24, co24, eo24⟩ := Kd.R_slice HO149.out; subst eo24; obtain ⟨Ao25, co25, eo25⟩ := Kd.R_slice HO152.out; subst eo25) | ((with_reducible refine gate_callee (f := 21) rfl ?_); refine goesL_ (some 26) rfl rfl Try.func21 (by kernel_rfl) rfl #[.slice Ao24 t147.length co24, .slice Ao25 t150.length co25] rfl (by (try simp only [List.map_toArray, List.map_cons, List.map_nil]); first | done | rfl | (simp only [List.length_drop, List.length_take]; rfl)) ?_; (with_reducible refine (impl_SetSubtract.calls _ _ t147 _ _ t150 t153 _ ?side1 ?side2 ?side3 ?side4 A17.out).mono ?_); (case side1 => repeat (first | exact (Kd.R_reads' HO149.out).2.2 | (with_reducible refine Kd.C_alloc ?_ _) | (with_reducible refine Kd.C_drewN ?_ _) | (with_reducible refine Kd.C_drew ?_))); (case side2 => exact (Kd.R_reads' HO149.out).2.1); (case side3 => repeat (first | exact (Kd.R_reads' HO152.out).2.2 | (with_reducible refine Kd.C_alloc ?_ _) | (with_reducible refine Kd.C_drewN ?_ _) | (with_reducible refine Kd.C_drew ?_))); (case side4 => exact (Kd.R_reads' HO152.out).2.1); rintro e w26 ⟨v154, rfl, ho0, hb⟩; refine ⟨_, rfl, ?_⟩; have n0_ := Aside0.mk (Kd.R_elder' (by (with_reducible repeat (first | apply Kd.R_alloc | apply Kd.R_drewN | apply Kd.R_drew)); exact HO149.out) (Kd.R_base ho0) hb); have n1_ := Aside0.mk (Kd.R_elder' (by (with_reducible repeat (first | apply Kd.R_alloc | apply Kd.R_drewN | apply Kd.R_drew)); exact HO152.out) (Kd.R_base ho0) hb); have n2_ := Aside0.mk (Kd.R_lower (Kd.R_new' (Kd.R_new' ho0 (Kd.R_lt (by (with_reducible repeat (first | apply Kd.R_alloc | apply Kd.R_drewN | apply Kd.R_drew)); exact HO149.out))) (Kd.R_lt (by (with_reducible repeat (first | apply Kd.R_alloc | apply Kd.R_drewN | apply Kd.R_drew)); exact HO152.out))) (below_size (by repeat (first | (with_reducible first | exact HB.out | apply below_alloc | apply pw_below_drewN | apply below_drew1) | exact HB.out)))); have n3_ := Aside0.mk (below_step (by repeat (first | (with_reducible first | exact HB.out | apply below_alloc | apply pw_below_drewN | apply below_drew1) | exact HB.out)) hb); clear HO149; clear HO152; clear HB; have HO149 := n0_; have HO152 := n1_; have HO155 := n2_; have HB := n3_; clear n0_ n1_ n2_ n3_; (try clear hb); (try clear hb2); (try clear hk); (try clear hi); (try clear ho0)) | ((with_reducible refine gate_callee (f := 22) rfl ?_); refine goesL_ (some 29) rfl rfl Try.func22 (by kernel_rfl) rfl #[.slice A0 l0.length c0, .slice A1 l1.length c1] rfl (by (try simp only [List.map_toArray, List.map_cons, List.map_nil]); first | done | rfl | (simp only [List.length_drop, List.length_take]; rfl)) ?_; (with_reducible refine (spec_Less.calls kj7 _ _ l0 _ _ l1 t156 _ ?side1 ?side2 ?side3 ?side4 A18.out).mono ?_); (case side1 => repeat (first | exact (Kd.C_below HR0.out HB.out) | (with_reducible refine Kd.C_alloc ?_ _) | (with_reducible refine Kd.C_drewN ?_ _) | (with_reducible refine Kd.C_drew ?_))); (case side2 => exact HC0.out); (case side3 => repeat (first | exact (Kd.C_below HR1.out HB.out) | (with_reducible refine Kd.C_alloc ?_ _) | (with_reducible refine Kd.C_drewN ?_ _) | (with_reducible refine Kd.C_drew ?_))); (case side4 => exact HC1.out); rintro e w27 ⟨v157, rfl, ho0, hb⟩; refine ⟨_, rfl, ?_⟩; have n0_ := Aside0.mk (Kd.R_elder' (by (with_reducible repeat (first | apply Kd.R_alloc | apply Kd.R_drewN | apply Kd.R_drew)); exact HO149.out) (Kd.R_base ho0) hb); have n1_ := Aside0.mk (Kd.R_elder' (by (with_reducible repeat (first | apply Kd.R_alloc | apply Kd.R_drewN | apply Kd.R_drew)); exact HO152.out) (Kd.R_base ho0) hb); have n2_ := Aside0.mk (Kd.R_elder' (by (with_reducible repeat (first | apply Kd.R_alloc | apply Kd.R_drewN | apply Kd.R_drew)); exact HO155.out) (Kd.R_base ho0) hb); have n3_ := Aside0.mk (Kd.R_lower (Kd.R_new' (Kd.R_new' (Kd.R_new' ho0 (Kd.R_lt (by (with_reducible repeat (first | apply Kd.R_alloc | apply Kd.R_drewN | apply Kd.R_drew)); exact HO149.out))) (Kd.R_lt (by (with_reducible repeat (first | apply Kd.R_alloc | apply Kd.R_drewN | apply Kd.R_drew)); exact HO152.out))) (Kd.R_lt (by (with_reducible repeat (first | apply Kd.R_alloc | apply Kd.R_drewN | apply Kd.R_drew)); exact HO155.out))) (below_size (by repeat (first | (with_reducible first | exact HB.out | apply below_alloc | apply pw_below_drewN | apply below_drew1) | exact HB.out)))); have n4_ := Aside0.mk (below_step (by repeat (first | (with_reducible first | exact HB.out | apply below_alloc | apply pw_below_drewN | apply below_drew1) | exact HB.out)) hb); clear HO149; clear HO152; clear HO155; clear HB; have HO149 := n0_; have HO152 := n1_; have HO155 := n2_; have HO158 := n3_; have HB := n4_; clear n0_ n1_ n2_ n3_ n4_; (try clear hb); (try clear hb2); (try clear hk); (try clear hi); (try clear ho0); obtain ⟨Ao28, co28, eo28⟩ := Kd.R_slice HO155.out; subst eo28; obtain ⟨Ao29, co29, eo29⟩ := Kd.R_slice HO158.out; subst eo29) | ((with_reducible refine gate_callee (f := 17) rfl ?_); refine goesL_ (some 30) rfl rfl Try.func17 (by kernel_rfl) rfl #[.slice Ao28 t153.length co28, .slice Ao29 t156.length co29] rfl (by (try simp only [List.map_toArray, List.map_cons, List.map_nil]); first | done | rfl | (simp only [List.length_drop, List.length_take]; rfl)) ?_; (with_reducible refine (spec_SameList.calls kj7 _ _ t153 _ _ t156 true _ ?side1 ?side2 ?side3 ?side4 A19.out).mono ?_); (case side1 => repeat (first | exact (Kd.R_reads' HO155.out).2.2 | (with_reducible refine Kd.C_alloc ?_ _) | (with_reducible refine Kd.C_drewN ?_ _) | (with_reducible refine Kd.C_drew ?_))); (case side2 => exact (Kd.R_reads' HO155.out).2.1); (case side3 => repeat (first | exact (Kd.R_reads' HO158.out).2.2 | (with_reducible refine Kd.C_alloc ?_ _) | (with_reducible refine Kd.C_drewN ?_ _) | (with_reducible refine Kd.C_drew ?_))); (case side4 => exact (Kd.R_reads' HO158.out).2.1); rintro e w' ⟨rfl, ⟨nd, rfl⟩⟩; refine ⟨_, rfl, ?_⟩) | (go_at_call 14; (with_reducible refine (laws_awakeUtil.calls kj7  t160 _ A21.out).mono ?_); rintro e w30 ⟨rfl, hb⟩; have n0_ := Aside0.mk (Kd.R_below (by (with_reducible repeat (first | apply Kd.R_alloc | apply Kd.R_drewN | apply Kd.R_drew)); exact HO149.out) hb); have n1_ := Aside0.mk (Kd.R_below (by (with_reducible repeat (first | apply Kd.R_alloc | apply Kd.R_drewN | apply Kd.R_drew)); exact HO152.out) hb); have n2_ := Aside0.mk (Kd.R_below (by (with_reducible repeat (first | apply Kd.R_alloc | apply Kd.R_drewN | apply Kd.R_drew)); exact HO155.out) hb); have n3_ := Aside0.mk (Kd.R_below (by (with_reducible repeat (first | apply Kd.R_alloc | apply Kd.R_drewN | apply Kd.R_drew)); exact HO158.out) hb); have n4_ := Aside0.mk (below_step (by repeat (first | (with_reducible first | exact HB.out | apply below_alloc | apply pw_below_drewN | apply below_drew1) | exact HB.out)) hb); clear HO149; clear HO152; clear HO155; clear HO158; clear HB; have HO149 := n0_; have HO152 := n1_; have HO155 := n2_; have HO158 := n3_; have HB := n4_; clear n0_ n1_ n2_ n3_ n4_; (try clear hb); (try clear hb2); (try clear hk); (try clear hi)))
                go_ret
                exact ⟨by first | rfl | (simp [errW_none, errW_some] <;> rfl) | (simp [*, errW_none, errW_some] <;> rfl), by repeat (first | (with_reducible first | exact HB.out | apply below_alloc | apply pw_below_drewN | apply below_drew1) | exact HB.out)⟩
              · replace c20 := Bool.eq_false_iff.mpr c20
                subst c20
                have H1 : (some false) = some r := by rw [if_neg (show ¬ (false = true) by decide)] at H; exact H
                clear H
                have H := H1
                clear H1
                obtain rfl := Option.some.inj H
                go_wp2_with (first | ((with_reducible refine gate_callee (f := 16) rfl ?_); refine goesL_ (some 23) rfl rfl Try.func16 (by kernel_rfl) rfl #[.slice A0 l0.length c0] rfl (by (try simp only [List.map_toArray, List.map_cons, List.map_nil]); first | done | rfl | (simp only [List.length_drop, List.length_take]; rfl)) ?_; (with_reducible refine (laws_copied.calls _ _ l0 t147 _ ?side1 ?side2 A15.out).mono ?_); (case side1 => repeat (first | exact (Kd.C_below HR0.out HB.out) | (with_reducible refine Kd.C_alloc ?_ _) | (with_reducible refine Kd.C_drewN ?_ _) | (with_reducible refine Kd.C_drew ?_))); (case side2 => exact HC0.out); rintro e w31 ⟨v148, rfl, ho0, hb⟩; refine ⟨_, rfl, ?_⟩; have n0_ := Aside0.mk (Kd.R_lower ho0 (below_size (by repeat (first | (with_reducible first | exact HB.out | apply below_alloc | apply pw_below_drewN | apply below_drew1) | exact HB.out)))); have n1_ := Aside0.mk (below_step (by repeat (first | (with_reducible first | exact HB.out | apply below_alloc | apply pw_below_drewN | apply below_drew1) | exact HB.out)) hb); clear HB; have HO149 := n0_; have HB := n1_; clear n0_ n1_; (try clear hb); (try clear hb2); (try clear hk); (try clear hi); (try clear ho0)) | ((with_reducible refine gate_callee (f := 16) rfl ?_); refine goesL_ (some 25) rfl rfl Try.func16 (by kernel_rfl) rfl #[.slice A1 l1.length c1] rfl (by (try simp only [List.map_toArray, List.map_cons, List.map_nil]); first | done | rfl | (simp only [List.length_drop, List.length_take]; rfl)) ?_; (with_reducible refine (laws_copied.calls _ _ l1 t150 _ ?side1 ?side2 A16.out).mono ?_); (case side1 => repeat (first | exact (Kd.C_below HR1.out HB.out) | (with_reducible refine Kd.C_alloc ?_ _) | (with_reducible refine Kd.C_drewN ?_ _) | (with_reducible refine Kd.C_drew ?_))); (case side2 => exact HC1.out); rintro e w32 ⟨v151, rfl, ho0, hb⟩; refine ⟨_, rfl, ?_⟩; have n0_ := Aside0.mk (Kd.R_elder' (by (with_reducible repeat (first | apply Kd.R_alloc | apply Kd.R_drewN | apply Kd.R_drew)); exact HO149.out) (Kd.R_base ho0) hb); have n1_ := Aside0.mk (Kd.R_lower (Kd.R_new' ho0 (Kd.R_lt (by (with_reducible repeat (first | apply Kd.R_alloc | apply Kd.R_drewN | apply Kd.R_drew)); exact HO149.out))) (below_size (by repeat (first | (with_reducible first | exact HB.out | apply below_alloc | apply pw_below_drewN | apply below_drew1) | exact HB.out)))); have n2_ := Aside0.mk (below_step (by repeat (first | (with_reducible first | exact HB.out | apply below_alloc | apply pw_below_drewN | apply below_drew1) | exact HB.out)) hb); clear HO149; clear HB; have HO149 := n0_; have HO152 := n1_; have HB := n2_; clear n0_ n1_ n2_; (try clear hb); (try clear hb2); (try clear hk); (try clear hi); (try clear ho0); obtain ⟨Ao33, co33, eo33⟩ := Kd.R_slice HO149.out; subst eo33; obtain ⟨Ao34, co34, eo34⟩ := Kd.R_slice HO152.out; subst eo34) | ((with_reducible refine gate_callee (f := 21) rfl ?_); refine goesL_ (some 26) rfl rfl Try.func21 (by kernel_rfl) rfl #[.slice Ao33 t147.length co33, .slice Ao34 t150.length co34] rfl (by (try simp only [List.map_toArray, List.map_cons, List.map_nil]); first | done | rfl | (simp only [List.length_drop, List.length_take]; rfl)) ?_; (with_reducible refine (impl_SetSubtract.calls _ _ t147 _ _ t150 t153 _ ?side1 ?side2 ?side3 ?side4 A17.out).mono ?_); (case side1 => repeat (first | exact (Kd.R_reads' HO149.out).2.2 | (with_reducible refine Kd.C_alloc ?_ _) | (with_reducible refine Kd.C_drewN ?_ _) | (with_reducible refine Kd.C_drew ?_))); (case side2 => exact (Kd.R_reads' HO149.out).2.1); (case side3 => repeat (first | exact (Kd.R_reads' HO152.out).2.2 | (with_reducible refine Kd.C_alloc ?_ _) | (with_reducible refine Kd.C_drewN ?_ _) | (with_reducible refine Kd.C_drew ?_))); (case side4 => exact (Kd.R_reads' HO152.out).2.1); rintro e w35 ⟨v154, rfl, ho0, hb⟩; refine ⟨_, rfl, ?_⟩; have n0_ := Aside0.mk (Kd.R_elder' (by (with_reducible repeat (first | apply Kd.R_alloc | apply Kd.R_drewN | apply Kd.R_drew)); exact HO149.out) (Kd.R_base ho0) hb); have n1_ := Aside0.mk (Kd.R_elder' (by (with_reducible repeat (first | apply Kd.R_alloc | apply Kd.R_drewN | apply Kd.R_drew)); exact HO152.out) (Kd.R_base ho0) hb); have n2_ := Aside0.mk (Kd.R_lower (Kd.R_new' (Kd.R_new' ho0 (Kd.R_lt (by (with_reducible repeat (first | apply Kd.R_alloc | apply Kd.R_drewN | apply Kd.R_drew)); exact HO149.out))) (Kd.R_lt (by (with_reducible repeat (first | apply Kd.R_alloc | apply Kd.R_drewN | apply Kd.R_drew)); exact HO152.out))) (below_size (by repeat (first | (with_reducible first | exact HB.out | apply below_alloc | apply pw_below_drewN | apply below_drew1) | exact HB.out)))); have n3_ := Aside0.mk (below_step (by repeat (first | (with_reducible first | exact HB.out | apply below_alloc | apply pw_below_drewN | apply below_drew1) | exact HB.out)) hb); clear HO149; clear HO152; clear HB; have HO149 := n0_; have HO152 := n1_; have HO155 := n2_; have HB := n3_; clear n0_ n1_ n2_ n3_; (try clear hb); (try clear hb2); (try clear hk); (try clear hi); (try clear ho0)) | ((with_reducible refine gate_callee (f := 22) rfl ?_); refine goesL_ (some 29) rfl rfl Try.func22 (by kernel_rfl) rfl #[.slice A0 l0.length c0, .slice A1 l1.length c1] rfl (by (try simp only [List.map_toArray, List.map_cons, List.map_nil]); first | done | rfl | (simp only [List.length_drop, List.length_take]; rfl)) ?_; (with_reducible refine (spec_Less.calls kj7 _ _ l0 _ _ l1 t156 _ ?side1 ?side2 ?side3 ?side4 A18.out).mono ?_); (case side1 => repeat (first | exact (Kd.C_below HR0.out HB.out) | (with_reducible refine Kd.C_alloc ?_ _) | (with_reducible refine Kd.C_drewN ?_ _) | (with_reducible refine Kd.C_drew ?_))); (case side2 => exact HC0.out); (case side3 => repeat (first | exact (Kd.C_below HR1.out HB.out) | (with_reducible refine Kd.C_alloc ?_ _) | (with_reducible refine Kd.C_drewN ?_ _) | (with_reducible refine Kd.C_drew ?_))); (case side4 => exact HC1.out); rintro e w36 ⟨v157, rfl, ho0, hb⟩; refine ⟨_, rfl, ?_⟩; have n0_ := Aside0.mk (Kd.R_elder' (by (with_reducible repeat (first | apply Kd.R_alloc | apply Kd.R_drewN | apply Kd.R_drew)); exact HO149.out) (Kd.R_base ho0) hb); have n1_ := Aside0.mk (Kd.R_elder' (by (with_reducible repeat (first | apply Kd.R_alloc | apply Kd.R_drewN | apply Kd.R_drew)); exact HO152.out) (Kd.R_base ho0) hb); have n2_ := Aside0.mk (Kd.R_elder' (by (with_reducible repeat (first | apply Kd.R_alloc | apply Kd.R_drewN | apply Kd.R_drew)); exact HO155.out) (Kd.R_base ho0) hb); have n3_ := Aside0.mk (Kd.R_lower (Kd.R_new' (Kd.R_new' (Kd.R_new' ho0 (Kd.R_lt (by (with_reducible repeat (first | apply Kd.R_alloc | apply Kd.R_drewN | apply Kd.R_drew)); exact HO149.out))) (Kd.R_lt (by (with_reducible repeat (first | apply Kd.R_alloc | apply Kd.R_drewN | apply Kd.R_drew)); exact HO152.out))) (Kd.R_lt (by (with_reducible repeat (first | apply Kd.R_alloc | apply Kd.R_drewN | apply Kd.R_drew)); exact HO155.out))) (below_size (by repeat (first | (with_reducible first | exact HB.out | apply below_alloc | apply pw_below_drewN | apply below_drew1) | exact HB.out)))); have n4_ := Aside0.mk (below_step (by repeat (first | (with_reducible first | exact HB.out | apply below_alloc | apply pw_below_drewN | apply below_drew1) | exact HB.out)) hb); clear HO149; clear HO152; clear HO155; clear HB; have HO149 := n0_; have HO152 := n1_; have HO155 := n2_; have HO158 := n3_; have HB := n4_; clear n0_ n1_ n2_ n3_ n4_; (try clear hb); (try clear hb2); (try clear hk); (try clear hi); (try clear ho0); obtain ⟨Ao37, co37, eo37⟩ := Kd.R_slice HO155.out; subst eo37; obtain ⟨Ao38, co38, eo38⟩ := Kd.R_slice HO158.out; subst eo38) | ((with_reducible refine gate_callee (f := 17) rfl ?_); refine goesL_ (some 30) rfl rfl Try.func17 (by kernel_rfl) rfl #[.slice Ao37 t153.length co37, .slice Ao38 t156.length co38] rfl (by (try simp only [List.map_toArray, List.map_cons, List.map_nil]); first | done | rfl | (simp only [List.length_drop, List.length_take]; rfl)) ?_; (with_reducible refine (spec_SameList.calls kj7 _ _ t153 _ _ t156 false _ ?side1 ?side2 ?side3 ?side4 A19.out).mono ?_); (case side1 => repeat (first | exact (Kd.R_reads' HO155.out).2.2 | (with_reducible refine Kd.C_alloc ?_ _) | (with_reducible refine Kd.C_drewN ?_ _) | (with_reducible refine Kd.C_drew ?_))); (case side2 => exact (Kd.R_reads' HO155.out).2.1); (case side3 => repeat (first | exact (Kd.R_reads' HO158.out).2.2 | (with_reducible refine Kd.C_alloc ?_ _) | (with_reducible refine Kd.C_drewN ?_ _) | (with_reducible refine Kd.C_drew ?_))); (case side4 => exact (Kd.R_reads' HO158.out).2.1); rintro e w' ⟨rfl, ⟨nd, rfl⟩⟩; refine ⟨_, rfl, ?_⟩))
                go_ret
                exact ⟨by first | rfl | (simp [errW_none, errW_some] <;> rfl) | (simp [*, errW_none, errW_some] <;> rfl), by repeat (first | (with_reducible first | exact HB.out | apply below_alloc | apply pw_below_drewN | apply below_drew1) | exact HB.out)⟩

end Go.Proofs.Ytnbcohabllkneaa.PFnSubtract
