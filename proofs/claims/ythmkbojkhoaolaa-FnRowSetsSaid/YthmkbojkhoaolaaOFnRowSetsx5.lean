/- The machine side of laws.FnRowSets: each function of this text answers what its Lean function answers (written for this claim by a program of this session over the kit's print; no condition beyond what each theorem says). -/
import Derived.Test.YthmkbojkhoaolaaOFnRowSetsx0
import Derived.Test.YthmkbojkhoaolaaOFnRowSetsx1
namespace Go.Proofs.Ythmkbojkhoaolaa.PFnRowSets
open Go.RowKit Go.Proofs.YthmkbojkhoaolaaW.PrintWords Go.Proofs.YthmkbojkhoaolaaW.PrintLast Go.Proofs.YthmkbojkhoaolaaW.PrintMore
attribute [local go_sem] max2_int min2_int max_two min_two max_three min_three max_four min_four   -- for this text's walks alone
set_option linter.unusedVariables false
set_option linter.unusedSimpArgs false

/-! ### util_Set2DEquals: function 34 -/
/-- texts with a text between -/
def strings_Join.f (l0 : List ByteArray) (a1 : ByteArray) : Option ByteArray :=
  if l0.length ≤ 140737488355328 ∧ (Lib.join (l0.map (·.data.toList)) a1.data.toList).length ≤ 140737488355328 then some ⟨(Lib.join (l0.map (·.data.toList)) a1.data.toList).toArray⟩ else none
theorem strings_Join.calls (A0 : Option Addr) (c0 : Nat) (l0 : List ByteArray) (a1 : ByteArray) (r : ByteArray) (w : World) (hr0 : Kd.C Kd.string w A0 l0.length l0) (hc0 : l0.length ≤ c0) (h : strings_Join.f l0 a1 = some r) :
    Calls Try.prog 46 #[.slice A0 l0.length c0, .string a1] w fun e w' => e = .returned (.string r) ∧ Below w.heap.size w w' := by
  unfold strings_Join.f at h
  by_cases hg : l0.length ≤ 140737488355328 ∧ (Lib.join (l0.map (·.data.toList)) a1.data.toList).length ≤ 140737488355328
  · rw [if_pos hg] at h
    obtain rfl := Option.some.inj h
    rcases Nat.eq_zero_or_pos l0.length with hz | hp
    · obtain rfl := List.eq_nil_of_length_eq_zero hz
      refine (Try.strings_Join_none A0 c0 a1 w).mono ?_
      rintro e w' ⟨rfl, rfl⟩
      exact ⟨rfl, Below.refl _ _⟩
    · obtain ⟨hl, hm, hrow⟩ := hr0
      obtain ⟨ad, rfl, hc⟩ := hrow hp
      obtain ⟨bk, off, spot⟩ := ad
      have hs : ∀ j x, l0[j]? = some x → w.cell? ((⟨bk, off, spot⟩ : Addr).add (j * 1 + 0)) = some (.string x) := by
        intro j x hj
        obtain ⟨cs, hcl, hcs, hcell⟩ := hc j x hj
        have e : cs = [.string x] := hcs
        subst e
        exact hcell 0 _ rfl
      have h0 := hs 0 _ (List.getElem?_eq_getElem hp)
      have hsp : spot = none := by
        cases spot with
        | none => rfl
        | some s =>
          exfalso
          simp only [Addr.add, Nat.zero_mul, Nat.add_zero, if_true, World.cell?] at h0
          split at h0 <;> simp at h0
      subst hsp
      have hbk : bk < w.heap.size := by
        rcases Nat.lt_or_ge bk w.heap.size with q | q
        · exact q
        · exfalso
          simp only [Addr.add, Nat.zero_mul, Nat.add_zero, if_true, World.cell?] at h0
          rw [Array.getElem?_eq_none q] at h0
          simp at h0
      refine Try.strings_Join bk off c0 l0 a1 w ?_ hbk hg.1 hc0 hg.2
      intro j x hj
      have q := hs j x hj
      rcases Nat.eq_zero_or_pos j with rfl | hjp
      · simpa [Addr.add] using q
      · have e : ((⟨bk, off, none⟩ : Addr).add (j * 1 + 0)) = ⟨bk, off + j, none⟩ := by
          have : ¬ (j * 1 + 0 = 0) := by omega
          simp only [Addr.add, Nat.mul_one, Nat.add_zero]; rw [if_neg (by omega)]
        rw [e] at q
        exact q
  · rw [if_neg hg] at h; cases h
/-- the texts, sorted -/
def sortT (l : List ByteArray) : List ByteArray := ((l.map (·.data.toList)).mergeSort fun x y => decide (x ≤ y)).map fun b => ⟨b.toArray⟩
theorem sortT_length (l : List ByteArray) : (sortT l).length = l.length := by simp [sortT]
theorem encs_texts (l : List ByteArray) : encs Value.string l = (l.map (·.data.toList)).map Go.Proofs.encStr := by
  unfold encs
  rw [List.map_map]
  apply List.map_congr_left
  intro b _
  cases b
  simp [Go.Proofs.encStr]
theorem encs_sortT (l : List ByteArray) : encs Value.string (sortT l) = ((l.map (·.data.toList)).mergeSort fun x y => decide (x ≤ y)).map Go.Proofs.encStr := by
  unfold encs sortT
  rw [List.map_map]
  rfl
theorem sort_R {w : World} {base : Nat} {ok : Nat → Prop} {v : Value} {l : List ByteArray} (HO : Kd.R Kd.string 9 w base ok v l) (hl : l.length < 4611686018427387904) :
    Calls Try.prog 44 #[v] w fun e w' => e = .returned (.tuple #[]) ∧ Kd.R Kd.string 9 w' base ok v (sortT l) ∧ w.grownBy w' v.ownBlock := by
  have ho := Kd.own_of_R HO
  rcases ho.2 with ⟨rfl, hn⟩ | ⟨g, cap, cur, rfl, hbase, hb, h1, h2, h3, h4⟩
  · have hl0 : l = [] := by
      have := ho.1
      rw [hn] at this
      rw [encs_length] at this
      exact List.eq_nil_of_length_eq_zero (by omega)
    subst hl0
    refine (Try.sort_Strings_none none 0 w).mono ?_
    rintro e w' ⟨rfl, rfl⟩
    have es : sortT [] = [] := by simp [sortT]
    rw [es]
    exact ⟨rfl, HO, World.grownBy.refl _ _⟩
  · rw [encs_texts, Nat.mul_one] at h4
    obtain ⟨ss, hss⟩ : ∃ ss, ss = l.map (·.data.toList) := ⟨_, rfl⟩
    have e1 : ss.length = l.length := by rw [hss]; simp
    rw [← hss, ← e1] at h4
    have hc := Try.sort_Strings g 0 cap ss w (holds_of_block hb h4) (Array.getElem?_eq_some_iff.1 hb).1 (by omega)
    rw [e1] at hc
    refine hc.mono ?_
    rintro e w' ⟨rfl, n, os, rfl⟩
    refine ⟨rfl, Kd.R_of_own ?_ HO.1, grownBy_sorted _⟩
    rw [sortT_length, encs_sortT, ← hss]
    have := ownsRow_sorted (n := n) (os := os) (base := base) (ss := ss) (ts := ss.mergeSort fun x y => decide (x ≤ y)) (by simp) hbase hb (by omega) h2 h3
    rw [e1] at this
    exact this
theorem R_other {w w1 : World} {base : Nat} {e : Nat} {ok : Nat → Prop} {v : Value} {l : List ByteArray} {row : Option Nat} (HO : Kd.R Kd.string e w base ok v l) (hg : w.grownBy w1 row) (hd : ∀ k, v.ownBlock = some k → some k ≠ row) : Kd.R Kd.string e w1 base ok v l := by
  have ho := Kd.own_of_R HO
  exact Kd.R_of_own (own_move ho fun k hk => hg.block k (ho.lt k hk).2 (hd k hk)) HO.1
/-- both lists sorted, then text by text -/
def util_SetEquals.f (k : Nat) (l0 : List ByteArray) (l1 : List ByteArray) : Option (Bool) := if l0.length < 4611686018427387904 ∧ l1.length < 4611686018427387904 then (if (l0.length : Int) = (l1.length : Int) then util_ArrayEquals.l0 k (sortT l1) (sortT l0) (l0.length : Int) 0 else some false) else none
theorem util_SetEquals.mono : ∀ a0 a1 k, LeO (util_SetEquals.f k a0 a1) (util_SetEquals.f (k + 1) a0 a1) := by
  intro a0 a1 k
  unfold util_SetEquals.f
  exact LeO.ite (LeO.ite (util_ArrayEquals.mono_l k _ _ _ _) (LeO.refl _)) (LeO.refl _)
set_option maxHeartbeats 8000000 in
set_option maxRecDepth 100000 in
theorem util_SetEquals.own (k : Nat) (v0 v1 : Value) (l0 l1 : List ByteArray) (r : Bool) (w0 w : World) (ok0 ok1 : Nat → Prop) (ho0 : Kd.R Kd.string 9 w w0.heap.size ok0 v0 l0) (ho1 : Kd.R Kd.string 9 w w0.heap.size ok1 v1 l1) (hd : ∀ k, v1.ownBlock = some k → some k ≠ v0.ownBlock) (hb0 : Below w0.heap.size w0 w) (h : util_SetEquals.f k l0 l1 = some r) :
    Calls Try.prog 30 #[v0, v1] w fun e w' => e = .returned (.bool r) ∧ Below w0.heap.size w0 w' := by
  have HO0 := Aside0.mk ho0
  have HO1 := Aside0.mk ho1
  have HD := Aside0.mk hd
  have HB := Aside0.mk hb0
  obtain ⟨A0, c0, rfl⟩ := Kd.R_slice ho0
  obtain ⟨A1, c1, rfl⟩ := Kd.R_slice ho1
  clear ho0 ho1 hd hb0
  unfold util_SetEquals.f at h
  have hg : l0.length < 4611686018427387904 ∧ l1.length < 4611686018427387904 := by
    by_cases hg : l0.length < 4611686018427387904 ∧ l1.length < 4611686018427387904
    · exact hg
    · rw [if_neg hg] at h; cases h
  rw [if_pos hg] at h
  have HG := Aside0.mk hg
  clear hg
  by_cases c3 : (l0.length : Int) = (l1.length : Int)
  · rw [if_pos c3] at h
    have c3b0 : ((l0.length : Int) == (l1.length : Int)) = true := beq_iff_eq.mpr c3
    have c3b1 : ((l0.length : Int) != (l1.length : Int)) = false := bne_eq_false_iff_eq.mpr c3
    have c3b2 : (l0.length == l1.length) = true := by first | simpa using c3 | (simp at c3 ⊢; omega)
    clear c3
    have H' := Aside0.mk h
    clear h
    go_enter Try.func30, Try.ntmps30
    go_wp2_with (first
      | ((with_reducible refine gate_callee (f := 44) rfl ?_); refine goesL_ (some 13) rfl rfl Try.func44 (by kernel_rfl) rfl #[.slice A0 l0.length c0] rfl (by (try simp only [List.map_toArray, List.map_cons, List.map_nil]); first | done | rfl | (simp only [List.length_drop, List.length_take]; rfl)) ?_; (with_reducible refine (sort_R HO0.out HG.out.1).mono ?_); rintro e w1 ⟨rfl, ho, hg⟩; refine ⟨_, rfl, ?_⟩; have n0_ := Aside0.mk ho; have n1_ := Aside0.mk (R_other HO1.out hg HD.out); have n2_ := Aside0.mk (HB.out.grown hg (below_size HB.out) (own_base (Kd.own_of_R HO0.out))); clear HO0 HO1 HB; have HO0 := n0_; have HO1 := n1_; have HB := n2_; clear n0_ n1_ n2_ ho hg)
      | ((with_reducible refine gate_callee (f := 44) rfl ?_); refine goesL_ (some 15) rfl rfl Try.func44 (by kernel_rfl) rfl #[.slice A1 l1.length c1] rfl (by (try simp only [List.map_toArray, List.map_cons, List.map_nil]); first | done | rfl | (simp only [List.length_drop, List.length_take]; rfl)) ?_; (with_reducible refine (sort_R HO1.out HG.out.2).mono ?_); rintro e w2 ⟨rfl, ho, hg⟩; refine ⟨_, rfl, ?_⟩; have n0_ := Aside0.mk ho; have n1_ := Aside0.mk (R_other HO0.out hg (fun k hk hk2 => HD.out k hk2.symm hk.symm)); have n2_ := Aside0.mk (HB.out.grown hg (below_size HB.out) (own_base (Kd.own_of_R HO1.out))); clear HO0 HO1 HB; have HO1 := n0_; have HO0 := n1_; have HB := n2_; clear n0_ n1_ n2_ ho hg))
    have HR0 := Aside0.mk (show Kd.C Kd.string w2 A0 l0.length (sortT l0) from by have q := (Kd.R_reads' HO0.out).2.2; rw [sortT_length] at q; exact q)
    have HR1 := Aside0.mk (show Kd.C Kd.string w2 A1 l1.length (sortT l1) from by have q := (Kd.R_reads' HO1.out).2.2; rw [sortT_length] at q; exact q)
    go_loopg [18] k (fun kq v14 w' => ∃ (x14_1 : Int), v14 = .int .i64 x14_1 ∧ Aside0 (util_ArrayEquals.l0 kq (sortT l1) (sortT l0) (l0.length : Int) x14_1 = some r) ∧ Aside0 (kq ≤ k) ∧ Drawn0 w2 w')
    case atStart => exact ⟨(0), (by first | rfl | (simp; done) | (simp [*]; done)), H', ⟨Nat.le_refl _⟩, by repeat (first | exact Drawn0.refl _ | apply Drawn0.step)⟩
    case round =>
      clear H'
      try clear c1
      try clear p2
      try clear c3
      try clear c3b0
      try clear c3b1
      try clear c3b2
      obtain ⟨x14_1, rfl, HA, HK1, ⟨m1, rfl⟩⟩ := hrel
      cases gk with
      | zero => exact absurd HA.out (by simp [util_ArrayEquals.l0])
      | succ k1 =>
        have H := HA.out
        clear HA
        simp only [util_ArrayEquals.l0, sortT_length] at H
        by_cases c4 : x14_1 < (l0.length : Int)
        · rw [if_pos c4] at H
          have c4b0 : decide (x14_1 < (l0.length : Int)) = true := decide_eq_true c4
          clear c4
          by_cases c5 : 0 ≤ x14_1
          · rw [if_pos c5] at H
            have c5b0 : decide (0 ≤ x14_1) = true := decide_eq_true c5
            clear c5
            by_cases c6 : x14_1 < (l0.length : Int)
            · rw [if_pos c6] at H
              have c6b0 : decide (x14_1 < (l0.length : Int)) = true := decide_eq_true c6
              clear c6
              by_cases c7 : x14_1 < (l1.length : Int)
              · rw [if_pos c7] at H
                have c7b0 : decide (x14_1 < (l1.length : Int)) = true := decide_eq_true c7
                clear c7
                by_cases c8 : (rdOf ByteArray.empty (sortT l0) x14_1).toList = (rdOf ByteArray.empty (sortT l1) x14_1).toList
                · rw [if_pos c8] at H
                  have c8b0 : ((rdOf ByteArray.empty (sortT l0) x14_1).toList == (rdOf ByteArray.empty (sortT l1) x14_1).toList) = true := beq_iff_eq.mpr c8
                  have c8b1 : ((rdOf ByteArray.empty (sortT l0) x14_1).toList != (rdOf ByteArray.empty (sortT l1) x14_1).toList) = false := bne_eq_false_iff_eq.mpr c8
                  clear c8
                  have H' := Aside0.mk H
                  clear H
                  have p106 : 0 ≤ (x14_1 : Int) := of_decide_eq_true (by first | (with_reducible assumption) | assumption)
                  have q106 : x14_1 < (l0.length : Int) := of_decide_eq_true (by first | (with_reducible assumption) | assumption)
                  obtain ⟨ad106, e106, hx106_0⟩ := Kd.at_string HR0.out x14_1 p106 q106
                  cases e106
                  replace p106 := eq_true p106
                  replace q106 := eq_true q106
                  have p107 : 0 ≤ (x14_1 : Int) := of_decide_eq_true (by first | (with_reducible assumption) | assumption)
                  have q107 : x14_1 < (l1.length : Int) := of_decide_eq_true (by first | (with_reducible assumption) | assumption)
                  obtain ⟨ad107, e107, hx107_0⟩ := Kd.at_string HR1.out x14_1 p107 q107
                  cases e107
                  replace p107 := eq_true p107
                  replace q107 := eq_true q107
                  go_wp2
                  go_roundg k1
                  case measure => have := HK1.out; omega
                  case rel => exact ⟨(wrap64 (x14_1 + 1)), (by first | rfl | (simp; done) | (simp [*]; done)), H', ⟨by have := HK1.out; omega⟩, by repeat (first | exact Drawn0.refl _ | apply Drawn0.step)⟩
                · rw [if_neg c8] at H
                  have c8b0 : ((rdOf ByteArray.empty (sortT l0) x14_1).toList == (rdOf ByteArray.empty (sortT l1) x14_1).toList) = false := beq_eq_false_iff_ne.mpr c8
                  have c8b1 : ((rdOf ByteArray.empty (sortT l0) x14_1).toList != (rdOf ByteArray.empty (sortT l1) x14_1).toList) = true := bne_iff_ne.mpr c8
                  obtain rfl := Option.some.inj H
                  have p106 : 0 ≤ (x14_1 : Int) := of_decide_eq_true (by first | (with_reducible assumption) | assumption)
                  have q106 : x14_1 < (l0.length : Int) := of_decide_eq_true (by first | (with_reducible assumption) | assumption)
                  obtain ⟨ad106, e106, hx106_0⟩ := Kd.at_string HR0.out x14_1 p106 q106
                  cases e106
                  replace p106 := eq_true p106
                  replace q106 := eq_true q106
                  have p107 : 0 ≤ (x14_1 : Int) := of_decide_eq_true (by first | (with_reducible assumption) | assumption)
                  have q107 : x14_1 < (l1.length : Int) := of_decide_eq_true (by first | (with_reducible assumption) | assumption)
                  obtain ⟨ad107, e107, hx107_0⟩ := Kd.at_string HR1.out x14_1 p107 q107
                  cases e107
                  replace p107 := eq_true p107
                  replace q107 := eq_true q107
                  go_wp2
                  go_ret
                  exact ⟨by first | rfl | (simp; done) | (simp [*]; done), by repeat (first | exact HB.out | apply pw_below_drewN | apply below_drew1 | apply below_alloc)⟩
              · rw [if_neg c7] at H
                exact absurd H (by simp)
            · rw [if_neg c6] at H
              exact absurd H (by simp)
          · rw [if_neg c5] at H
            exact absurd H (by simp)
        · rw [if_neg c4] at H
          have c4b0 : decide (x14_1 < (l0.length : Int)) = false := decide_eq_false c4
          clear c4
          obtain rfl := Option.some.inj H
          go_wp2
          go_ret
          exact ⟨by first | rfl | (simp; done) | (simp [*]; done), by repeat (first | exact HB.out | apply pw_below_drewN | apply below_drew1 | apply below_alloc)⟩
  · rw [if_neg c3] at h
    have c3b0 : ((l0.length : Int) == (l1.length : Int)) = false := beq_eq_false_iff_ne.mpr c3
    have c3b1 : ((l0.length : Int) != (l1.length : Int)) = true := bne_iff_ne.mpr c3
    have c3b2 : (l0.length == l1.length) = false := by first | simpa using c3 | (simp at c3 ⊢; omega)
    obtain rfl := Option.some.inj h
    go_enter Try.func30, Try.ntmps30
    go_wp2
    go_ret
    exact ⟨by first | rfl | (simp; done) | (simp [*]; done), HB.out⟩
/-- from row i on, the rows are those of the other list -/
def SameFrom (i : Int) (ls l : List (List ByteArray)) : Prop := ls.length = l.length ∧ ∀ j : Nat, i ≤ (j : Int) → ls[j]? = l[j]?
theorem sameFrom_refl (i : Int) (l : List (List ByteArray)) : SameFrom i l l := ⟨rfl, fun _ _ => rfl⟩
theorem sameFrom_len {i : Int} {ls l : List (List ByteArray)} (h : SameFrom i ls l) : ls.length = l.length := h.1
theorem sameFrom_at {i : Int} {ls l : List (List ByteArray)} (h : SameFrom i ls l) (h0 : 0 ≤ i) : rd_L1 ls i = rd_L1 l i := by
  have := h.2 i.toNat (by omega)
  simp only [rd_L1, List.getD_eq_getElem?_getD, this]
theorem sameFrom_next {i : Int} {ls l : List (List ByteArray)} {x : List ByteArray} (h : SameFrom i ls l) (h0 : 0 ≤ i) (h1 : i < l.length) (hm : l.length < 9223372036854775808) : SameFrom (wrap64 (i + 1)) (ls.set i.toNat x) l := by
  have e : wrap64 (i + 1) = i + 1 := by unfold wrap64; omega
  rw [e]
  refine ⟨by rw [List.length_set]; exact h.1, fun j hj => ?_⟩
  rw [List.getElem?_set_ne (by omega)]
  exact h.2 j (by omega)
theorem R_capped {w : World} {base e : Nat} {ok : Nat → Prop} {v : Value} {l : List ByteArray} (h : Kd.R Kd.string e w base ok v l) : ∃ n, n = w.heap.size ∧ Kd.R Kd.string e w base (fun k => ok k ∧ k < n) v l := ⟨_, rfl, Kd.R_mono (Kd.R_bound h) (fun _ hk => ⟨hk.1, hk.2.2.1⟩)⟩
theorem S_capped {w : World} {base e e1 : Nat} {ok : Nat → Prop} {v : Value} {l : List (List ByteArray)} (h : Kd.S (Kd.slice e1 Kd.string) e w base ok v l) : ∃ n, n = w.heap.size ∧ Kd.S (Kd.slice e1 Kd.string) e w base (fun k => ok k ∧ k < n) v l := ⟨_, rfl, Kd.S_mono (Kd.S_bound h) (fun _ hk => ⟨hk.1, hk.2.2.1⟩)⟩
theorem R_two {w : World} {base e n c : Nat} {ok : Nat → Prop} {A : Option Addr} {l : List ByteArray} (h : Kd.R Kd.string e w base ok (.slice A n c) l) : Kd.C Kd.string w A l.length l ∧ l.length ≤ c := by
  obtain ⟨h1, h2, h3⟩ := Kd.R_reads' h
  exact ⟨h3, by omega⟩
theorem join_len {l : List ByteArray} {s t : ByteArray} (h : strings_Join.f (sortT l) s = some t) : l.length ≤ 140737488355328 := by
  unfold strings_Join.f at h
  by_cases hg : (sortT l).length ≤ 140737488355328 ∧ (Lib.join ((sortT l).map (·.data.toList)) s.data.toList).length ≤ 140737488355328
  · rw [sortT_length] at hg; exact hg.1
  · rw [if_neg hg] at h; cases h
/-- one row of rows that lie apart: it may be written -/
theorem S_row {w : World} {base e e1 : Nat} {ok : Nat → Prop} {A : Option Addr} {n cap : Nat} {l : List (List ByteArray)} (h : Kd.S (Kd.slice e1 Kd.string) e w base ok (.slice A n cap) l) (i : Int) (h0 : 0 ≤ i) (h1 : i < l.length) :
    ∃ ad A' c' oki, A = some ad ∧ w.cell? (ad.add i.toNat) = some (.slice A' (rd_L1 l i).length c') ∧ Kd.R Kd.string e1 w base oki (.slice A' (rd_L1 l i).length c') (rd_L1 l i) ∧ (∀ k, oki k → ok k) ∧
      ∀ {w1 : World} {l' : List ByteArray}, w.grownBy w1 (Value.slice A' (rd_L1 l i).length c').ownBlock → Kd.R Kd.string e1 w1 base oki (.slice A' (rd_L1 l i).length c') l' → Kd.S (Kd.slice e1 Kd.string) e w1 base ok (.slice A n cap) (l.set i.toNat l') := by
  have hn := (Kd.S_reads' h).1
  obtain ⟨ad, _, hA, _⟩ := Kd.C_get (Kd.S_reads' h).2.2 ([] : List ByteArray) i h0 h1
  subst hA
  obtain ⟨oki, c, _, hM, hcc, hoki, hback⟩ := Kd.S_borrow h ([] : List ByteArray) i h0 (by omega)
  obtain ⟨v, rfl, hR⟩ := hM
  obtain ⟨A', c', rfl⟩ := Kd.R_slice hR
  refine ⟨ad, A', c', oki, rfl, ?_, hR, fun k hk => (hoki k hk).1, fun hg hR1 => hback hg (fun k hk => hR.1 k hk) ⟨_, rfl, hR1⟩⟩
  have q : w.cell? (ad.add (i.toNat * 1 + 0)) = some (.slice A' (rd_L1 l i).length c') := hcc 0 _ rfl
  rwa [Nat.mul_one, Nat.add_zero] at q
mutual
def util_Set2DEquals.l0 : Nat → List (List ByteArray) → List ByteArray → List (List ByteArray) → Int → Int → Option (Bool)
  | 0, _, _, _, _, _ => none
  | k + 1, x1, x5, x16, x17, x18 => if x18 < x17 then (if 0 ≤ x18 then (if x18 < (x16.length : Int) then ((strings_Join.f (sortT (rd_L1 x16 x18)) (⟨#[44, 32]⟩ : ByteArray)).bind fun t135 => (if x5.length < 8796093022208 then (util_Set2DEquals.l0 k x1 (x5 ++ [t135]) x16 x17 (wrap64 (x18 + 1))) else (none))) else (none)) else (none)) else (util_Set2DEquals.l1 k x5 ([] : List ByteArray) x1 (x1.length : Int) 0)
def util_Set2DEquals.l1 : Nat → List ByteArray → List ByteArray → List (List ByteArray) → Int → Int → Option (Bool)
  | 0, _, _, _, _, _ => none
  | k + 1, x5, x8, x30, x31, x32 => if x32 < x31 then (if 0 ≤ x32 then (if x32 < (x30.length : Int) then ((strings_Join.f (sortT (rd_L1 x30 x32)) (⟨#[44, 32]⟩ : ByteArray)).bind fun t140 => (if x8.length < 8796093022208 then (util_Set2DEquals.l1 k x5 (x8 ++ [t140]) x30 x31 (wrap64 (x32 + 1))) else (none))) else (none)) else (none)) else ((util_SetEquals.f k x5 x8).bind fun t144 => (some t144))
end
def util_Set2DEquals.f (k : Nat) (l0 : List (List ByteArray)) (l1 : List (List ByteArray)) : Option (Bool) := if (l0.length : Int) = (l1.length : Int) then (util_Set2DEquals.l0 k l1 ([] : List ByteArray) l0 (l0.length : Int) 0) else (some false)
theorem util_Set2DEquals.mono_l : ∀ k, (∀ y0 y1 y2 y3 y4, LeO (util_Set2DEquals.l0 k y0 y1 y2 y3 y4) (util_Set2DEquals.l0 (k + 1) y0 y1 y2 y3 y4)) ∧ (∀ y0 y1 y2 y3 y4, LeO (util_Set2DEquals.l1 k y0 y1 y2 y3 y4) (util_Set2DEquals.l1 (k + 1) y0 y1 y2 y3 y4))
  | 0 => ⟨fun _ _ _ _ _ r h => by simp [util_Set2DEquals.l0] at h, fun _ _ _ _ _ r h => by simp [util_Set2DEquals.l1] at h⟩
  | k + 1 => by
    obtain ⟨ih0, ih1⟩ := util_Set2DEquals.mono_l k
    refine ⟨?_, ?_⟩
    · intro y0 y1 y2 y3 y4
      unfold util_Set2DEquals.l0
      repeat' first
      | (with_reducible exact ih0 _ _ _ _ _)
      | (with_reducible exact ih1 _ _ _ _ _)
      | (with_reducible exact util_SetEquals.mono _ _ _)
      | (with_reducible exact LeO.refl _)
      | (with_reducible exact LeO.none _)
      | (with_reducible refine LeO.ite ?_ ?_)
      | (with_reducible refine LeO.bind ?_ (fun _ => ?_))
      | exact ih0 _ _ _ _ _
      | exact ih1 _ _ _ _ _
      | exact util_SetEquals.mono _ _ _
      | exact LeO.none _
      | refine LeO.ite ?_ ?_
      | refine LeO.bind ?_ (fun _ => ?_)
    · intro y0 y1 y2 y3 y4
      unfold util_Set2DEquals.l1
      repeat' first
      | (with_reducible exact ih0 _ _ _ _ _)
      | (with_reducible exact ih1 _ _ _ _ _)
      | (with_reducible exact util_SetEquals.mono _ _ _)
      | (with_reducible exact LeO.refl _)
      | (with_reducible exact LeO.none _)
      | (with_reducible refine LeO.ite ?_ ?_)
      | (with_reducible refine LeO.bind ?_ (fun _ => ?_))
      | exact ih0 _ _ _ _ _
      | exact ih1 _ _ _ _ _
      | exact util_SetEquals.mono _ _ _
      | exact LeO.none _
      | refine LeO.ite ?_ ?_
      | refine LeO.bind ?_ (fun _ => ?_)
theorem util_Set2DEquals.mono : ∀ a0 a1 k, LeO (util_Set2DEquals.f k a0 a1) (util_Set2DEquals.f (k + 1) a0 a1) := by
  intro a0 a1 k
  obtain ⟨ih0, ih1⟩ := util_Set2DEquals.mono_l k
  unfold util_Set2DEquals.f
  repeat' first
      | (with_reducible exact ih0 _ _ _ _ _)
      | (with_reducible exact ih1 _ _ _ _ _)
      | (with_reducible exact util_SetEquals.mono _ _ _)
      | (with_reducible exact LeO.refl _)
      | (with_reducible exact LeO.none _)
      | (with_reducible refine LeO.ite ?_ ?_)
      | (with_reducible refine LeO.bind ?_ (fun _ => ?_))
      | exact ih0 _ _ _ _ _
      | exact ih1 _ _ _ _ _
      | exact util_SetEquals.mono _ _ _
      | exact LeO.none _
      | refine LeO.ite ?_ ?_
      | refine LeO.bind ?_ (fun _ => ?_)
set_option maxHeartbeats 8000000 in
set_option maxRecDepth 100000 in
theorem util_Set2DEquals.own (k : Nat) (v0 v1 : Value) (l0 l1 : List (List ByteArray)) (r : Bool) (w0 w : World) (ok0 ok1 : Nat → Prop) (ho0 : Kd.S (Kd.slice 9 Kd.string) 22 w w0.heap.size ok0 v0 l0) (ho1 : Kd.S (Kd.slice 9 Kd.string) 22 w w0.heap.size ok1 v1 l1) (hd : ∀ k, ok0 k → ok1 k → False) (hb0 : Below w0.heap.size w0 w) (h : util_Set2DEquals.f k l0 l1 = some r) :
    Calls Try.prog 34 #[v0, v1] w fun e w' => e = .returned (.bool r) ∧ Below w0.heap.size w0 w' := by
  obtain ⟨A0, c0, rfl⟩ := Kd.S_slice ho0
  obtain ⟨A1, c1, rfl⟩ := Kd.S_slice ho1
  obtain ⟨N, hN, hs0⟩ := S_capped ho0
  have HS0 := Aside0.mk hs0
  have HS1 := Aside0.mk (show Kd.S (Kd.slice 9 Kd.string) 22 w w0.heap.size (fun k => ok1 k ∧ k < N) (.slice A1 l1.length c1) l1 from by obtain ⟨n, hn, h⟩ := S_capped ho1; rw [hN, ← hn]; exact h)
  have HD := Aside0.mk hd
  have HB := Aside0.mk hb0
  have HNW := Aside0.mk (show N ≤ w.heap.size from Nat.le_of_eq hN)
  have LMl := Aside0.mk (show l0.length ≤ 9223372036854775807 from (Kd.S_reads' ho0).2.2.2.1)
  have LMl1 := Aside0.mk (show l1.length ≤ 9223372036854775807 from (Kd.S_reads' ho1).2.2.2.1)
  clear ho0 ho1 hs0 hd hb0 hN
  have H : (if (l0.length : Int) = (l1.length : Int) then (util_Set2DEquals.l0 k l1 ([] : List ByteArray) l0 (l0.length : Int) 0) else (some false)) = some r := h
  clear h
  by_cases c3 : (l0.length : Int) = (l1.length : Int)
  · rw [if_pos c3] at H
    have c3b0 : ((l0.length : Int) == (l1.length : Int)) = true := beq_iff_eq.mpr c3
    have c3b1 : ((l0.length : Int) != (l1.length : Int)) = false := bne_eq_false_iff_eq.mpr c3
    have c3b2 : (l0.length == l1.length) = true := by first | simpa using c3 | (simp at c3 ⊢; omega)
    clear c3
    have H' := Aside0.mk H
    clear H
    go_enter Try.func34, Try.ntmps34
    go_wp2
    go_loopg [5, 18] k (fun kq v5 v18 w' => ∃ (x5_1 : List ByteArray) (x18_1 : Int) (ls : List (List ByteArray)), v18 = .int .i64 x18_1 ∧ Aside0 (util_Set2DEquals.l0 kq l1 x5_1 l0 (l0.length : Int) x18_1 = some r) ∧ Aside0 (kq ≤ k) ∧ Aside0 (Kd.R Kd.string 9 w' w0.heap.size (fun k_ => N ≤ k_) v5 x5_1) ∧ Aside0 (Kd.S (Kd.slice 9 Kd.string) 22 w' w0.heap.size (fun k_ => ok0 k_ ∧ k_ < N) (.slice A0 l0.length c0) ls) ∧ Aside0 (SameFrom x18_1 ls l0) ∧ Aside0 (Kd.S (Kd.slice 9 Kd.string) 22 w' w0.heap.size (fun k_ => ok1 k_ ∧ k_ < N) (.slice A1 l1.length c1) l1) ∧ Aside0 (N ≤ w'.heap.size) ∧ Aside0 (Below w0.heap.size w0 w'))
    case atStart => exact ⟨(([] : List ByteArray)), (0), l0, (by first | rfl | (simp; done) | (simp [*]; done)), H', ⟨Nat.le_refl _⟩, ⟨Kd.R_nil _ _ _ _ _⟩, HS0, ⟨sameFrom_refl _ _⟩, HS1, HNW, HB⟩
    case round =>
      clear H' HS0 HS1 HB HNW
      try clear c3
      try clear c3b0
      try clear c3b1
      try clear c3b2
      obtain ⟨x5_1, x18_1, ls, rfl, HA, HK1, HO_5, HS0, HLS, HS1, HNW, HB⟩ := hrel
      cases gk with
      | zero => exact absurd HA.out (by simp [util_Set2DEquals.l0])
      | succ k1 =>
        have H := HA.out
        clear HA
        simp only [util_Set2DEquals.l0] at H
        by_cases c4 : x18_1 < (l0.length : Int)
        · rw [if_pos c4] at H
          have c4b0 : decide (x18_1 < (l0.length : Int)) = true := decide_eq_true c4
          clear c4
          by_cases c5 : 0 ≤ x18_1
          · rw [if_pos c5] at H
            have c5b0 : decide (0 ≤ x18_1) = true := decide_eq_true c5
            clear c5
            by_cases c6 : x18_1 < (l0.length : Int)
            · rw [if_pos c6] at H
              have c6b0 : decide (x18_1 < (l0.length : Int)) = true := decide_eq_true c6
              clear c6
              replace H := Option.bind_eq_some_iff.mp H
              obtain ⟨t135, A80, H⟩ := H
              replace H : (if x5_1.length < 8796093022208 then (util_Set2DEquals.l0 k1 l1 (x5_1 ++ [t135]) l0 (l0.length : Int) (wrap64 (x18_1 + 1))) else (none)) = some r := H
              have A8 := Aside0.mk A80
              clear A80
              by_cases c9 : x5_1.length < 8796093022208
              · rw [if_pos c9] at H
                have LMc9 := Aside0.mk c9
                clear c9
                obtain ⟨y136, hy136⟩ : ∃ y_ : List ByteArray, y_ = (x5_1 ++ [t135]) := ⟨_, rfl⟩
                replace H : (util_Set2DEquals.l0 k1 l1 y136 l0 (l0.length : Int) (wrap64 (x18_1 + 1))) = some r := by first | (rw [hy136]; with_reducible exact H) | (have H2_ := (Option.bind_some _ _).symm.trans H; rw [hy136]; with_reducible exact H2_) | (have H2_ := (Option.bind_some _ _).symm.trans H; with_reducible exact H2_) | with_reducible exact H | (rw [hy136]; exact H) | exact H
                have Ny136 := Aside0.mk hy136
                clear hy136
                have H' := Aside0.mk H
                clear H
                have p134 : 0 ≤ (x18_1 : Int) := of_decide_eq_true (by first | (with_reducible assumption) | assumption)
                have q134 : x18_1 < (l0.length : Int) := of_decide_eq_true (by first | (with_reducible assumption) | assumption)
                have q_ls_len := (sameFrom_len HLS.out)
                have q_ls_eq := (sameFrom_at HLS.out p134)
                obtain ⟨ad134, A134_0, c134_0, oki, e134, hx134_0, hR, hoki, hback⟩ := S_row HS0.out x18_1 p134 (by rw [q_ls_len]; exact q134)
                cases e134
                rw [q_ls_eq] at hx134_0 hR hback
                have HR134 := Aside0.mk hR
                have HOK := Aside0.mk hoki
                have HBK := Aside0.mk @hback
                clear hR hoki hback
                replace p134 := eq_true p134
                replace q134 := eq_true q134
                go_wp2_with (first | ((with_reducible refine gate_callee (f := 44) rfl ?_); refine goesL_ (some 23) rfl rfl Try.func44 (by kernel_rfl) rfl #[.slice A134_0 (rd_L1 l0 x18_1).length c134_0] rfl (by (try simp only [List.map_toArray, List.map_cons, List.map_nil]); first | done | rfl | (simp only [List.length_drop, List.length_take]; rfl)) ?_; (with_reducible refine (sort_R HR134.out (by have z := join_len A8.out; omega)).mono ?_); rintro e w10 ⟨rfl, ho, hg⟩; refine ⟨_, rfl, ?_⟩; have n0_ := Aside0.mk (Kd.R_grown HO_5.out hg (fun k_ hk he => by have := (HOK.out k_ (HR134.out.1 k_ he.symm)).2; omega)); have n1_ := Aside0.mk (HBK.out hg ho); have n2_ := Aside0.mk (Kd.S_grown HS1.out hg (fun k_ hk he => HD.out k_ (HOK.out k_ (HR134.out.1 k_ he.symm)).1 hk.1)); have n3_ := Aside0.mk (Nat.le_trans HNW.out hg.size); have n4_ := Aside0.mk (HB.out.grown hg (below_size HB.out) (own_base (Kd.own_of_R HR134.out))); have HRS := Aside0.mk (R_two ho); clear HO_5 HS0 HS1 HNW HB HBK HR134 HOK; have HO_5 := n0_; have HS0 := n1_; have HS1 := n2_; have HNW := n3_; have HB := n4_; clear n0_ n1_ n2_ n3_ n4_; clear ho hg) | ((with_reducible refine gate_callee (f := 46) rfl ?_); refine goesL_ (some 26) rfl rfl Try.func46 (by kernel_rfl) rfl #[.slice A134_0 (rd_L1 l0 x18_1).length c134_0, .string (⟨#[44, 32]⟩ : ByteArray)] rfl (by (try simp only [List.map_toArray, List.map_cons, List.map_nil]); first | done | rfl | (simp only [List.length_drop, List.length_take]; rfl)) ?_; have zj := strings_Join.calls A134_0 c134_0 (sortT (rd_L1 l0 x18_1)) (⟨#[44, 32]⟩ : ByteArray) t135 _ HRS.out.1 HRS.out.2 A8.out; rw [sortT_length] at zj; (with_reducible refine zj.mono ?_); clear zj; rintro e w11 ⟨rfl, hb⟩; refine ⟨_, rfl, ?_⟩; have n0_ := Aside0.mk (Kd.R_below HO_5.out hb); have n1_ := Aside0.mk (Kd.S_below HS0.out hb); have n2_ := Aside0.mk (Kd.S_below HS1.out hb); have n3_ := Aside0.mk (Nat.le_trans HNW.out (below_size hb)); have n4_ := Aside0.mk (below_step HB.out hb); clear HO_5 HS0 HS1 HNW HB HRS; have HO_5 := n0_; have HS0 := n1_; have HS1 := n2_; have HNW := n3_; have HB := n4_; clear n0_ n1_ n2_ n3_ n4_; clear hb) | ((with_reducible refine gate_builtin (b := .append) (xs := #[.tmp 24, .tmp 27]) rfl ?_); at_builtin; refine Kd.R_append Kd.string (w0 := w0) w0.heap.size rfl (.tmp 24) (.tmp 27) 22 9 (.string ⟨#[]⟩) 16 rfl Try.underlying22 info9 rfl (by decide) (by omega) u5 x5_1 t135 [.string t135] (fun k_ => N ≤ k_) (fun _ => False) rfl rfl ?aP (fun _ hk => hk.elim) ?aF ?aO ?aB ?aS ?aL ?_; (case aP => exact rfl); (case aB => exact HB.out); (case aF => exact (fun _ hk => Nat.le_trans HNW.out hk)); (case aO => exact HO_5.out); (case aS => exact below_size HB.out); (case aL => have := LMc9.out; omega); intro v137 w12 ho hb hg hat; rw [← Ny136.out] at ho; have n0_ := Aside0.mk hb; have n1_ := Aside0.mk ho; have n2_ := Aside0.mk (Kd.S_grown HS0.out hg (fun k_ hk he => by have := HO_5.out.1 k_ he.symm; have := hk.2; omega)); have n3_ := Aside0.mk (Kd.S_grown HS1.out hg (fun k_ hk he => by have := HO_5.out.1 k_ he.symm; have := hk.2; omega)); have n4_ := Aside0.mk (Nat.le_trans HNW.out hg.size); clear HB HO_5 HS0 HS1 HNW; have HB := n0_; have HO138 := n1_; have HS0 := n2_; have HS1 := n3_; have HNW := n4_; clear n0_ n1_ n2_ n3_ n4_; clear ho hb hg hat))
                go_roundg k1
                case measure => have := HK1.out; omega
                case rel => exact ⟨(y136), (wrap64 (x18_1 + 1)), _, (by first | rfl | (simp; done) | (simp [*]; done)), H', ⟨by have := HK1.out; omega⟩, HO138, HS0, ⟨sameFrom_next HLS.out (of_eq_true p134) (of_eq_true q134) (Nat.lt_of_le_of_lt LMl.out (by decide))⟩, HS1, HNW, HB⟩
              · rw [if_neg c9] at H
                exact absurd H (by simp)
            · rw [if_neg c6] at H
              exact absurd H (by simp)
          · rw [if_neg c5] at H
            exact absurd H (by simp)
        · rw [if_neg c4] at H
          have c4b0 : decide (x18_1 < (l0.length : Int)) = false := decide_eq_false c4
          clear c4
          have H' := Aside0.mk H
          clear H
          go_wp2
          obtain ⟨N2, hN2, ho5⟩ := R_capped HO_5.out
          have HO5c := Aside0.mk ho5
          have HN2 := Aside0.mk (Nat.le_of_eq hN2)
          have hNN : N ≤ N2 := by rw [hN2]; exact HNW.out
          clear HO_5 ho5 HS0 HLS hN2
          have HO_5 := HO5c
          clear HO5c
          go_loopg [8, 32] k1 (fun kq v8 v32 w' => ∃ (x8_2 : List ByteArray) (x32_2 : Int) (ls : List (List ByteArray)), v32 = .int .i64 x32_2 ∧ Aside0 (util_Set2DEquals.l1 kq x5_1 x8_2 l1 (l1.length : Int) x32_2 = some r) ∧ Aside0 (kq ≤ k1) ∧ Aside0 (Kd.R Kd.string 9 w' w0.heap.size (fun k_ => N ≤ k_ ∧ k_ < N2) u5 x5_1) ∧ Aside0 (Kd.R Kd.string 9 w' w0.heap.size (fun k_ => N2 ≤ k_) v8 x8_2) ∧ Aside0 (Kd.S (Kd.slice 9 Kd.string) 22 w' w0.heap.size (fun k_ => ok1 k_ ∧ k_ < N) (.slice A1 l1.length c1) ls) ∧ Aside0 (SameFrom x32_2 ls l1) ∧ Aside0 (N ≤ w'.heap.size) ∧ Aside0 (N2 ≤ w'.heap.size) ∧ Aside0 (N ≤ N2) ∧ Aside0 (Below w0.heap.size w0 w'))
          case atStart => exact ⟨(([] : List ByteArray)), (0), l1, (by first | rfl | (simp; done) | (simp [*]; done)), H', ⟨Nat.le_refl _⟩, HO_5, ⟨Kd.R_nil _ _ _ _ _⟩, HS1, ⟨sameFrom_refl _ _⟩, HNW, HN2, ⟨hNN⟩, HB⟩
          case round =>
            clear H' HO_5 HS1 HNW HN2 HB
            obtain ⟨x8_2, x32_2, ls, rfl, HA, HK2, HO_5, HO_8, HS1, HLS, HNW, HN2, HNN, HB⟩ := hrel
            cases gk with
            | zero => exact absurd HA.out (by simp [util_Set2DEquals.l1])
            | succ k2 =>
              have H := HA.out
              clear HA
              simp only [util_Set2DEquals.l1] at H
              by_cases c13 : x32_2 < (l1.length : Int)
              · rw [if_pos c13] at H
                have c13b0 : decide (x32_2 < (l1.length : Int)) = true := decide_eq_true c13
                clear c13
                by_cases c14 : 0 ≤ x32_2
                · rw [if_pos c14] at H
                  have c14b0 : decide (0 ≤ x32_2) = true := decide_eq_true c14
                  clear c14
                  by_cases c15 : x32_2 < (l1.length : Int)
                  · rw [if_pos c15] at H
                    have c15b0 : decide (x32_2 < (l1.length : Int)) = true := decide_eq_true c15
                    clear c15
                    replace H := Option.bind_eq_some_iff.mp H
                    obtain ⟨t140, A170, H⟩ := H
                    replace H : (if x8_2.length < 8796093022208 then (util_Set2DEquals.l1 k2 x5_1 (x8_2 ++ [t140]) l1 (l1.length : Int) (wrap64 (x32_2 + 1))) else (none)) = some r := H
                    have A17 := Aside0.mk A170
                    clear A170
                    by_cases c18 : x8_2.length < 8796093022208
                    · rw [if_pos c18] at H
                      have LMc18 := Aside0.mk c18
                      clear c18
                      obtain ⟨y141, hy141⟩ : ∃ y_ : List ByteArray, y_ = (x8_2 ++ [t140]) := ⟨_, rfl⟩
                      replace H : (util_Set2DEquals.l1 k2 x5_1 y141 l1 (l1.length : Int) (wrap64 (x32_2 + 1))) = some r := by first | (rw [hy141]; with_reducible exact H) | (have H2_ := (Option.bind_some _ _).symm.trans H; rw [hy141]; with_reducible exact H2_) | (have H2_ := (Option.bind_some _ _).symm.trans H; with_reducible exact H2_) | with_reducible exact H | (rw [hy141]; exact H) | exact H
                      have Ny141 := Aside0.mk hy141
                      clear hy141
                      have H' := Aside0.mk H
                      clear H
                      have p139 : 0 ≤ (x32_2 : Int) := of_decide_eq_true (by first | (with_reducible assumption) | assumption)
                      have q139 : x32_2 < (l1.length : Int) := of_decide_eq_true (by first | (with_reducible assumption) | assumption)
                      have q_ls_len := (sameFrom_len HLS.out)
                      have q_ls_eq := (sameFrom_at HLS.out p139)
                      obtain ⟨ad134, A134_0, c134_0, oki, e134, hx134_0, hR, hoki, hback⟩ := S_row HS1.out x32_2 p139 (by rw [q_ls_len]; exact q139)
                      cases e134
                      rw [q_ls_eq] at hx134_0 hR hback
                      have HR134 := Aside0.mk hR
                      have HOK := Aside0.mk hoki
                      have HBK := Aside0.mk @hback
                      clear hR hoki hback
                      replace p139 := eq_true p139
                      replace q139 := eq_true q139
                      go_wp2_with (first | ((with_reducible refine gate_callee (f := 44) rfl ?_); refine goesL_ (some 37) rfl rfl Try.func44 (by kernel_rfl) rfl #[.slice A134_0 (rd_L1 l1 x32_2).length c134_0] rfl (by (try simp only [List.map_toArray, List.map_cons, List.map_nil]); first | done | rfl | (simp only [List.length_drop, List.length_take]; rfl)) ?_; (with_reducible refine (sort_R HR134.out (by have z := join_len A17.out; omega)).mono ?_); rintro e w10 ⟨rfl, ho, hg⟩; refine ⟨_, rfl, ?_⟩; have n0_ := Aside0.mk (Kd.R_grown HO_5.out hg (fun k_ hk he => by have := (HOK.out k_ (HR134.out.1 k_ he.symm)).2; have := hk.1; omega)); have n1_ := Aside0.mk (HBK.out hg ho); have n2_ := Aside0.mk (Kd.R_grown HO_8.out hg (fun k_ hk he => by have := (HOK.out k_ (HR134.out.1 k_ he.symm)).2; have := HNN.out; omega)); have n3_ := Aside0.mk (Nat.le_trans HNW.out hg.size); have n5_ := Aside0.mk (Nat.le_trans HN2.out hg.size); have n4_ := Aside0.mk (HB.out.grown hg (below_size HB.out) (own_base (Kd.own_of_R HR134.out))); have HRS := Aside0.mk (R_two ho); clear HO_5 HO_8 HS1 HNW HN2 HB HBK HR134 HOK; have HO_5 := n0_; have HS1 := n1_; have HO_8 := n2_; have HNW := n3_; have HB := n4_; have HN2 := n5_; clear n0_ n1_ n2_ n3_ n4_ n5_; clear ho hg) | ((with_reducible refine gate_callee (f := 46) rfl ?_); refine goesL_ (some 40) rfl rfl Try.func46 (by kernel_rfl) rfl #[.slice A134_0 (rd_L1 l1 x32_2).length c134_0, .string (⟨#[44, 32]⟩ : ByteArray)] rfl (by (try simp only [List.map_toArray, List.map_cons, List.map_nil]); first | done | rfl | (simp only [List.length_drop, List.length_take]; rfl)) ?_; have zj := strings_Join.calls A134_0 c134_0 (sortT (rd_L1 l1 x32_2)) (⟨#[44, 32]⟩ : ByteArray) t140 _ HRS.out.1 HRS.out.2 A17.out; rw [sortT_length] at zj; (with_reducible refine zj.mono ?_); clear zj; rintro e w11 ⟨rfl, hb⟩; refine ⟨_, rfl, ?_⟩; have n0_ := Aside0.mk (Kd.R_below HO_5.out hb); have n1_ := Aside0.mk (Kd.R_below HO_8.out hb); have n2_ := Aside0.mk (Kd.S_below HS1.out hb); have n3_ := Aside0.mk (Nat.le_trans HNW.out (below_size hb)); have n5_ := Aside0.mk (Nat.le_trans HN2.out (below_size hb)); have n4_ := Aside0.mk (below_step HB.out hb); clear HO_5 HO_8 HS1 HNW HN2 HB HRS; have HO_5 := n0_; have HO_8 := n1_; have HS1 := n2_; have HNW := n3_; have HB := n4_; have HN2 := n5_; clear n0_ n1_ n2_ n3_ n4_ n5_; clear hb) | ((with_reducible refine gate_builtin (b := .append) (xs := #[.tmp 38, .tmp 41]) rfl ?_); at_builtin; refine Kd.R_append Kd.string (w0 := w0) w0.heap.size rfl (.tmp 38) (.tmp 41) 22 9 (.string ⟨#[]⟩) 16 rfl Try.underlying22 info9 rfl (by decide) (by omega) u8 x8_2 t140 [.string t140] (fun k_ => N2 ≤ k_) (fun _ => False) rfl rfl ?aP (fun _ hk => hk.elim) ?aF ?aO ?aB ?aS ?aL ?_; (case aP => exact rfl); (case aB => exact HB.out); (case aF => exact (fun _ hk => Nat.le_trans HN2.out hk)); (case aO => exact HO_8.out); (case aS => exact below_size HB.out); (case aL => have := LMc18.out; omega); intro v142 w21 ho hb hg hat; rw [← Ny141.out] at ho; have n0_ := Aside0.mk hb; have n1_ := Aside0.mk ho; have n2_ := Aside0.mk (Kd.R_grown HO_5.out hg (fun k_ hk he => by have := HO_8.out.1 k_ he.symm; have := hk.2; omega)); have n3_ := Aside0.mk (Kd.S_grown HS1.out hg (fun k_ hk he => by have := HO_8.out.1 k_ he.symm; have := hk.2; have := HNN.out; omega)); have n4_ := Aside0.mk (Nat.le_trans HNW.out hg.size); have n5_ := Aside0.mk (Nat.le_trans HN2.out hg.size); clear HB HO_5 HO_8 HS1 HNW HN2; have HB := n0_; have HO143 := n1_; have HO_5 := n2_; have HS1 := n3_; have HNW := n4_; have HN2 := n5_; clear n0_ n1_ n2_ n3_ n4_ n5_; clear ho hb hg hat))
                      go_roundg k2
                      case measure => have := HK1.out; have := HK2.out; omega
                      case rel => exact ⟨(y141), (wrap64 (x32_2 + 1)), _, (by first | rfl | (simp; done) | (simp [*]; done)), H', ⟨by have := HK1.out; have := HK2.out; omega⟩, HO_5, HO143, HS1, ⟨sameFrom_next HLS.out (of_eq_true p139) (of_eq_true q139) (Nat.lt_of_le_of_lt LMl1.out (by decide))⟩, HNW, HN2, HNN, HB⟩
                    · rw [if_neg c18] at H
                      exact absurd H (by simp)
                  · rw [if_neg c15] at H
                    exact absurd H (by simp)
                · rw [if_neg c14] at H
                  exact absurd H (by simp)
              · rw [if_neg c13] at H
                have c13b0 : decide (x32_2 < (l1.length : Int)) = false := decide_eq_false c13
                clear c13
                replace H := Option.bind_eq_some_iff.mp H
                obtain ⟨t144, A220, H⟩ := H
                replace H : (some t144) = some r := H
                have A22 := Aside0.mk A220
                clear A220
                obtain rfl := Option.some.inj H
                obtain ⟨Ao23, co23, eo23⟩ := Kd.R_slice HO_5.out
                subst eo23
                obtain ⟨Ao24, co24, eo24⟩ := Kd.R_slice HO_8.out
                subst eo24
                go_wp2_with (first | ((with_reducible refine gate_callee (f := 30) rfl ?_); refine goesL_ (some 46) rfl rfl Try.func30 (by kernel_rfl) rfl #[.slice Ao23 x5_1.length co23, .slice Ao24 x8_2.length co24] rfl (by (try simp only [List.map_toArray, List.map_cons, List.map_nil]); first | done | rfl | (simp only [List.length_drop, List.length_take]; rfl)) ?_; have zc := util_SetEquals.own k2 _ _ x5_1 x8_2 t144 w0 _ _ _ HO_5.out HO_8.out (fun k h1 h0 => by have := (HO_5.out.1 k h0.symm).2; have := HO_8.out.1 k h1; omega) HB.out A22.out; (with_reducible refine zc.mono ?_); clear zc; rintro e w25 ⟨rfl, hb⟩; refine ⟨_, rfl, ?_⟩; clear HO_5; clear HO_8; clear HB; have HB := Aside0.mk hb; (try clear hb)))
                go_ret
                exact ⟨by first | rfl | (simp [errW_none, errW_some] <;> rfl) | (simp [*, errW_none, errW_some] <;> rfl), by repeat (first | (with_reducible first | exact HB.out | apply below_alloc | apply pw_below_drewN | apply below_drew1) | exact HB.out)⟩
  · rw [if_neg c3] at H
    have c3b0 : ((l0.length : Int) == (l1.length : Int)) = false := beq_eq_false_iff_ne.mpr c3
    have c3b1 : ((l0.length : Int) != (l1.length : Int)) = true := bne_iff_ne.mpr c3
    have c3b2 : (l0.length == l1.length) = false := by first | simpa using c3 | (simp at c3 ⊢; omega)
    obtain rfl := Option.some.inj H
    go_enter Try.func34, Try.ntmps34
    go_wp2
    go_ret
    exact ⟨by first | rfl | (simp [errW_none, errW_some] <;> rfl) | (simp [*, errW_none, errW_some] <;> rfl), by repeat (first | (with_reducible first | exact HB.out | apply below_alloc | apply pw_below_drewN | apply below_drew1) | exact HB.out)⟩

/-! ### impl_texts: function 31 -/
def impl_texts.f (l0 : List ByteArray) : Option (List ByteArray) := (some (([] : List ByteArray) : List ByteArray)).bind fun y134 => (if y134.length + l0.length < 8796093022208 then (some (y134 ++ l0)) else (none))
set_option maxHeartbeats 8000000 in
set_option maxRecDepth 100000 in
theorem impl_texts.calls (A0 : Option Addr) (c0 : Nat) (l0 : List ByteArray) (r : List ByteArray) (w : World) (hr0 : Kd.C Kd.string w A0 l0.length l0) (hc0 : l0.length ≤ c0) (h : impl_texts.f l0 = some r) :
    Calls Try.prog 31 #[.slice A0 l0.length c0] w fun e w' => ∃ v0_ : Value, e = .returned (v0_) ∧ Kd.R Kd.string 9 w' w.heap.size (fun _ => True) v0_ r ∧ Below w.heap.size w w' := by
  have HR0 := Aside0.mk hr0
  have HC0 := Aside0.mk hc0
  clear hr0 hc0
  have HB := Aside0.mk (Below.refl w.heap.size w)
  have H : ((some (([] : List ByteArray) : List ByteArray)).bind fun y134 => (if y134.length + l0.length < 8796093022208 then (some (y134 ++ l0)) else (none))) = some r := h
  clear h
  obtain ⟨y134, hy134⟩ : ∃ y_ : List ByteArray, y_ = (([] : List ByteArray)) := ⟨_, rfl⟩
  replace H : (if y134.length + l0.length < 8796093022208 then (some (y134 ++ l0)) else (none)) = some r := by first | (rw [hy134]; with_reducible exact H) | (have H2_ := (Option.bind_some _ _).symm.trans H; rw [hy134]; with_reducible exact H2_) | (have H2_ := (Option.bind_some _ _).symm.trans H; with_reducible exact H2_) | with_reducible exact H | (rw [hy134]; exact H) | exact H
  have Ny134 := Aside0.mk hy134
  clear hy134
  by_cases c2 : y134.length + l0.length < 8796093022208
  · rw [if_pos c2] at H
    have LMc2 := Aside0.mk c2
    clear c2
    obtain ⟨y137, hy137⟩ : ∃ y_ : List ByteArray, y_ = (y134 ++ l0) := ⟨_, rfl⟩
    replace H : (some y137) = some r := by first | (rw [hy137]; with_reducible exact H) | (have H2_ := (Option.bind_some _ _).symm.trans H; rw [hy137]; with_reducible exact H2_) | (have H2_ := (Option.bind_some _ _).symm.trans H; with_reducible exact H2_) | with_reducible exact H | (rw [hy137]; exact H) | exact H
    have Ny137 := Aside0.mk hy137
    clear hy137
    obtain rfl := Option.some.inj H
    go_enter Try.func31, Try.ntmps31
    go_wp2_with (first | ((with_reducible refine gate_dst (N := 3) rfl ?_); refine Kd.R_lit Kd.string _ 9 ?hg (N := 3) ?hd (xs := ([] : List ByteArray)) (inner := []) (ok := fun _ => True) (okp := fun _ => True) ?hr ?hp (fun _ hk => hk) trivial (Below.refl _ _) (Nat.le_refl _) (by simp) ?_; (case hd => rfl); (case hg => rfl); (case hr => first | (go_simp; done) | (go_simp; rfl)); (case hp => exact (Reps.none _ _)); intro v135 w3 ho4 hb hg_ hnew_; clear hg_ hnew_; (first | rw [← Ny134.out] at ho4 | (simp only [Int.reduceToNat] at ho4; rw [← Ny134.out] at ho4)); have n0_ := Aside0.mk (Kd.R_lower ho4 (below_size (by repeat (first | (with_reducible first | exact HB.out | apply below_alloc | apply pw_below_drewN | apply below_drew1) | exact HB.out)))); have n1_ := Aside0.mk (below_step (by repeat (first | (with_reducible first | exact HB.out | apply below_alloc | apply pw_below_drewN | apply below_drew1) | exact HB.out)) hb); clear HB; have HO136 := n0_; have HB := n1_; clear n0_ n1_; clear hb ho4) | ((with_reducible refine gate_builtin (b := .append) (xs := #[.tmp 3, .tmp 4]) rfl ?_); at_builtin; refine Kd.R_append_rows Kd.string (w0 := w) w.heap.size rfl (.tmp 3) (.tmp 4) 22 9 (.string ⟨#[]⟩) 16 rfl Try.underlying22 info9 rfl (by decide) (by omega) v135 y134 l0 _ _ _ (fun _ => True) (fun _ => False) rfl rfl ?aO ?aR (fun _ _ h => h) (fun _ h => h.elim) ?aF ?aB ?aS ?aL ?_; (case aR => repeat (first | exact (Kd.C_below HR0.out HB.out) | (with_reducible refine Kd.C_alloc ?_ _) | (with_reducible refine Kd.C_drewN ?_ _) | (with_reducible refine Kd.C_drew ?_))); (case aB => exact (by repeat (first | (with_reducible first | exact HB.out | apply below_alloc | apply pw_below_drewN | apply below_drew1) | exact HB.out))); (case aF => exact (fun _ _ => trivial)); (case aO => exact (by (with_reducible repeat (first | apply Kd.R_alloc | apply Kd.R_drewN | apply Kd.R_drew)); exact HO136.out)); (case aS => exact (below_size (by repeat (first | (with_reducible first | exact HB.out | apply below_alloc | apply pw_below_drewN | apply below_drew1) | exact HB.out)))); (case aL => have := LMc2.out; omega); intro v138 w5 ho hb hg hat; rw [← Ny137.out] at ho; have n0_ := Aside0.mk (hb); have n1_ := Aside0.mk (ho); clear HB; clear HO136; have HB := n0_; have HO139 := n1_; clear n0_ n1_; clear ho hb hg hat))
    go_ret
    exact ⟨_, by first | rfl | (simp [errW_none, errW_some] <;> rfl) | (simp [*, errW_none, errW_some] <;> rfl), by (with_reducible repeat (first | apply Kd.R_alloc | apply Kd.R_drewN | apply Kd.R_drew)); exact HO139.out, by repeat (first | (with_reducible first | exact HB.out | apply below_alloc | apply pw_below_drewN | apply below_drew1) | exact HB.out)⟩
  · rw [if_neg c2] at H
    exact absurd H (by simp)

/-! ### impl_tables: function 35 -/
def impl_tables.l0 : Nat → List (List ByteArray) → List (List ByteArray) → Int → Option ((List (List ByteArray)))
  | 0, _, _, _ => none
  | k + 1, x0, x3, x4 => if x4 < (x0.length : Int) then (if 0 ≤ x4 then ((impl_texts.f (rd_L1 x0 x4)).bind fun t141 => (if x3.length < 5864062014805 then (impl_tables.l0 k x0 (x3 ++ [t141]) (wrap64 (x4 + 1))) else (none))) else (none)) else (some x3)
def impl_tables.f (k : Nat) (l0 : List (List ByteArray)) : Option ((List (List ByteArray))) := impl_tables.l0 k l0 ([] : List (List ByteArray)) 0
theorem impl_tables.mono_l : ∀ k, (∀ y0 y1 y2, LeO (impl_tables.l0 k y0 y1 y2) (impl_tables.l0 (k + 1) y0 y1 y2))
  | 0 => fun _ _ _ r h => by simp [impl_tables.l0] at h
  | k + 1 => by
    have ih0 := impl_tables.mono_l k
    · intro y0 y1 y2
      unfold impl_tables.l0
      repeat' first
      | (with_reducible exact ih0 _ _ _)
      | (with_reducible exact LeO.refl _)
      | (with_reducible exact LeO.none _)
      | (with_reducible refine LeO.ite ?_ ?_)
      | (with_reducible refine LeO.bind ?_ (fun _ => ?_))
      | exact ih0 _ _ _
      | exact LeO.none _
      | refine LeO.ite ?_ ?_
      | refine LeO.bind ?_ (fun _ => ?_)
theorem impl_tables.mono : ∀ a0 k, LeO (impl_tables.f k a0) (impl_tables.f (k + 1) a0) := by
  intro a0 k
  have ih0 := impl_tables.mono_l k
  unfold impl_tables.f
  repeat' first
      | (with_reducible exact ih0 _ _ _)
      | (with_reducible exact LeO.refl _)
      | (with_reducible exact LeO.none _)
      | (with_reducible refine LeO.ite ?_ ?_)
      | (with_reducible refine LeO.bind ?_ (fun _ => ?_))
      | exact ih0 _ _ _
      | exact LeO.none _
      | refine LeO.ite ?_ ?_
      | refine LeO.bind ?_ (fun _ => ?_)
set_option maxHeartbeats 8000000 in
set_option maxRecDepth 100000 in
theorem impl_tables.calls (k : Nat) (A0 : Option Addr) (c0 : Nat) (l0 : List (List ByteArray)) (r : List (List ByteArray)) (w : World) (hr0 : Kd.C (Kd.slice 9 Kd.string) w A0 l0.length l0) (hc0 : l0.length ≤ c0) (h : impl_tables.f k l0 = some r) :
    Calls Try.prog 35 #[.slice A0 l0.length c0] w fun e w' => ∃ v0_ : Value, e = .returned (v0_) ∧ Kd.S (Kd.slice 9 Kd.string) 22 w' w.heap.size (fun _ => True) v0_ r ∧ Below w.heap.size w w' := by
  have HR0 := Aside0.mk hr0
  have HC0 := Aside0.mk hc0
  clear hr0 hc0
  have HB := Aside0.mk (Below.refl w.heap.size w)
  have H : (impl_tables.l0 k l0 ([] : List (List ByteArray)) 0) = some r := h
  clear h
  have H' := Aside0.mk H
  clear H
  go_enter Try.func35, Try.ntmps35
  go_wp2
  go_loopg [3, 4] k (fun kq v3 v4 w' => ∃ (x3_1 : List (List ByteArray)) (x4_1 : Int), v4 = .int .i64 x4_1 ∧ Aside0 (impl_tables.l0 kq l0 x3_1 x4_1 = some r) ∧ Aside0 (kq ≤ k) ∧ Aside0 (Kd.S (Kd.slice 9 Kd.string) 22 w' w.heap.size (fun _ => True) v3 x3_1) ∧ Aside0 (Below w.heap.size w w'))
  case atStart => exact ⟨(([] : List (List ByteArray))), (0), (by first | rfl | (simp; done) | (simp [*]; done)), H', ⟨Nat.le_refl _⟩, ⟨by first | exact Kd.S_nil _ _ _ _ _ | exact Kd.N_nil _ _ _ _ _ | exact Kd.V_nil _ _ _ _ _ | exact Kd.Q_nil _ _ _ _ _ | exact Kd.R_nil _ _ _ _ _⟩, ⟨by repeat (first | (with_reducible first | exact HB.out | apply below_alloc | apply pw_below_drewN | apply below_drew1) | exact HB.out)⟩⟩
  case round =>
    clear H'
    obtain ⟨x3_1, x4_1, rfl, HA, HK1, HO_3, HB⟩ := hrel
    cases gk with
    | zero => exact absurd HA.out (by simp [impl_tables.l0])
    | succ k1 =>
      have H := HA.out
      clear HA
      simp only [impl_tables.l0] at H
      by_cases c2 : x4_1 < (l0.length : Int)
      · rw [if_pos c2] at H
        have c2b0 : decide (x4_1 < (l0.length : Int)) = true := decide_eq_true c2
        clear c2
        by_cases c3 : 0 ≤ x4_1
        · rw [if_pos c3] at H
          have c3b0 : decide (0 ≤ x4_1) = true := decide_eq_true c3
          clear c3
          replace H := Option.bind_eq_some_iff.mp H
          obtain ⟨t141, A40, H⟩ := H
          replace H : (if x3_1.length < 5864062014805 then (impl_tables.l0 k1 l0 (x3_1 ++ [t141]) (wrap64 (x4_1 + 1))) else (none)) = some r := H
          have A4 := Aside0.mk A40
          clear A40
          by_cases c5 : x3_1.length < 5864062014805
          · rw [if_pos c5] at H
            have LMc5 := Aside0.mk c5
            clear c5
            obtain ⟨y144, hy144⟩ : ∃ y_ : List (List ByteArray), y_ = (x3_1 ++ [t141]) := ⟨_, rfl⟩
            replace H : (impl_tables.l0 k1 l0 y144 (wrap64 (x4_1 + 1))) = some r := by first | (rw [hy144]; with_reducible exact H) | (have H2_ := (Option.bind_some _ _).symm.trans H; rw [hy144]; with_reducible exact H2_) | (have H2_ := (Option.bind_some _ _).symm.trans H; with_reducible exact H2_) | with_reducible exact H | (rw [hy144]; exact H) | exact H
            have Ny144 := Aside0.mk hy144
            clear hy144
            have H' := Aside0.mk H
            clear H
            have p140 : 0 ≤ (x4_1 : Int) := of_decide_eq_true (by first | (with_reducible assumption) | assumption)
            have q140 : x4_1 < (l0.length : Int) := of_decide_eq_true (by first | (with_reducible assumption) | assumption)
            obtain ⟨ad140, A140_0, c140_0, e140, hx140_0, hl140_0, hi140_0⟩ := at_L1 HR0.out x4_1 p140 q140
            cases e140
            replace hx140_0 := (HB.out.cell (World.block_lt_of_cell? w _ hx140_0)).trans hx140_0
            have HR140_0 := Aside0.mk hi140_0
            have HC140_0 := Aside0.mk hl140_0
            clear hi140_0 hl140_0
            replace p140 := eq_true p140
            replace q140 := eq_true q140
            go_wp2_with (first | ((with_reducible refine gate_callee (f := 31) rfl ?_); refine goesL_ (some 16) rfl rfl Try.func31 (by kernel_rfl) rfl #[.slice A140_0 (rd_L1 l0 x4_1).length c140_0] rfl (by (try simp only [List.map_toArray, List.map_cons, List.map_nil]); first | done | rfl | (simp only [List.length_drop, List.length_take]; rfl)) ?_; (with_reducible refine (impl_texts.calls _ _ (rd_L1 l0 x4_1) t141 _ ?side1 ?side2 A4.out).mono ?_); (case side1 => repeat (first | exact (Kd.C_below HR140_0.out HB.out) | (with_reducible refine Kd.C_alloc ?_ _) | (with_reducible refine Kd.C_drewN ?_ _) | (with_reducible refine Kd.C_drew ?_))); (case side2 => exact HC140_0.out); rintro e w6 ⟨v142, rfl, ho0, hb⟩; refine ⟨_, rfl, ?_⟩; have n0_ := Aside0.mk (Kd.S_elder' (by (with_reducible repeat (first | apply Kd.S_alloc | apply Kd.S_drewN | apply Kd.S_drew)); exact HO_3.out) (Kd.R_base ho0) hb); have n1_ := Aside0.mk (Kd.R_lower ho0 (below_size (by repeat (first | (with_reducible first | exact HB.out | apply below_alloc | apply pw_below_drewN | apply below_drew1) | exact HB.out)))); have n2_ := Aside0.mk (below_step (by repeat (first | (with_reducible first | exact HB.out | apply below_alloc | apply pw_below_drewN | apply below_drew1) | exact HB.out)) hb); clear HO_3; clear HB; have HO_3 := n0_; have HO143 := n1_; have HB := n2_; clear n0_ n1_ n2_; (try clear hb); (try clear hb2); (try clear hk); (try clear hi); (try clear ho0); obtain ⟨Ao8, co8, eo8⟩ := Kd.R_slice HO143.out; subst eo8) | ((with_reducible refine gate_builtin (b := .append) (xs := #[.tmp 11, .tmp 17]) rfl ?_); at_builtin; refine Kd.S_append (Kd.slice 9 Kd.string) (w0 := w) w.heap.size rfl (.tmp 11) (.tmp 17) 30 22 (.slice none 0 0) 24 rfl Try.underlying30 info22 rfl (by decide) (by omega) u3 x3_1 t141 [.slice Ao8 t141.length co8] (fun _ => True) (fun k_ => some k_ = (.slice Ao8 t141.length co8 : Value).ownBlock) rfl rfl ?aP (fun k_ hk_ => ((Kd.R_mono (ok' := fun k_ => ((fun _ => True)) k_ ∧ some k_ ≠ (u3 : Value).ownBlock) (Kd.R_apart' (HO143.out) (Kd.S_typed HO_3.out) (by decide)) (fun k_ hk => ⟨trivial, hk.2⟩))).1 k_ hk_.symm) ?aF ?aO ?aB ?aS ?aL ?_; (case aP => exact Kd.M_row (Kd.R_mono (Kd.R_tight rfl (Kd.R_mono (ok' := fun k_ => ((fun _ => True)) k_ ∧ some k_ ≠ (u3 : Value).ownBlock) (Kd.R_apart' (HO143.out) (Kd.S_typed HO_3.out) (by decide)) (fun k_ hk => ⟨trivial, hk.2⟩))) (fun _ h_ => h_))); (case aB => exact (by repeat (first | (with_reducible first | exact HB.out | apply below_alloc | apply pw_below_drewN | apply below_drew1) | exact HB.out))); (case aF => exact (fun _ _ => trivial)); (case aO => exact (by (with_reducible repeat (first | apply Kd.S_alloc | apply Kd.S_drewN | apply Kd.S_drew)); exact Kd.S_mono HO_3.out (fun k_ hk => ⟨trivial, fun e_ => hk.2 e_⟩))); (case aS => exact (below_size (by repeat (first | (with_reducible first | exact HB.out | apply below_alloc | apply pw_below_drewN | apply below_drew1) | exact HB.out)))); (case aL => have := LMc5.out; omega); intro v145 w7 ho hb hg hat; rw [← Ny144.out] at ho; have n0_ := Aside0.mk (hb); have n1_ := Aside0.mk (ho); clear HB; clear HO_3; clear HO143; have HB := n0_; have HO146 := n1_; clear n0_ n1_; clear ho hb hg hat))
            go_roundg k1
            case measure => have := HK1.out; omega
            case rel => exact ⟨(y144), (wrap64 (x4_1 + 1)), (by first | rfl | (simp; done) | (simp [*]; done)), H', ⟨by have := HK1.out; omega⟩, ⟨by (with_reducible repeat (first | apply Kd.S_alloc | apply Kd.S_drewN | apply Kd.S_drew)); exact HO146.out⟩, ⟨by repeat (first | (with_reducible first | exact HB.out | apply below_alloc | apply pw_below_drewN | apply below_drew1) | exact HB.out)⟩⟩
          · rw [if_neg c5] at H
            exact absurd H (by simp)
        · rw [if_neg c3] at H
          exact absurd H (by simp)
      · rw [if_neg c2] at H
        have c2b0 : decide (x4_1 < (l0.length : Int)) = false := decide_eq_false c2
        clear c2
        obtain rfl := Option.some.inj H
        go_wp2
        go_ret
        exact ⟨_, by first | rfl | (simp [errW_none, errW_some] <;> rfl) | (simp [*, errW_none, errW_some] <;> rfl), by (with_reducible repeat (first | apply Kd.S_alloc | apply Kd.S_drewN | apply Kd.S_drew)); exact HO_3.out, by repeat (first | (with_reducible first | exact HB.out | apply below_alloc | apply pw_below_drewN | apply below_drew1) | exact HB.out)⟩

/-! ### impl_Set2DEquals: function 18 -/
def impl_Set2DEquals.f (k : Nat) (l0 : List (List ByteArray)) (l1 : List (List ByteArray)) : Option (Bool) := (impl_tables.f k l0).bind fun t147 => ((impl_tables.f k l1).bind fun t150 => ((util_Set2DEquals.f k t147 t150).bind fun t153 => (some t153)))
theorem impl_Set2DEquals.mono : ∀ a0 a1 k, LeO (impl_Set2DEquals.f k a0 a1) (impl_Set2DEquals.f (k + 1) a0 a1) := by
  intro a0 a1 k
  unfold impl_Set2DEquals.f
  repeat' first
      | (with_reducible exact impl_tables.mono _ _)
      | (with_reducible exact util_Set2DEquals.mono _ _ _)
      | (with_reducible exact LeO.refl _)
      | (with_reducible exact LeO.none _)
      | (with_reducible refine LeO.ite ?_ ?_)
      | (with_reducible refine LeO.bind ?_ (fun _ => ?_))
      | exact impl_tables.mono _ _
      | exact util_Set2DEquals.mono _ _ _
      | exact LeO.none _
      | refine LeO.ite ?_ ?_
      | refine LeO.bind ?_ (fun _ => ?_)
set_option maxHeartbeats 8000000 in
set_option maxRecDepth 100000 in
theorem impl_Set2DEquals.calls (k : Nat) (A0 : Option Addr) (c0 : Nat) (l0 : List (List ByteArray)) (A1 : Option Addr) (c1 : Nat) (l1 : List (List ByteArray)) (r : Bool) (w : World) (hr0 : Kd.C (Kd.slice 9 Kd.string) w A0 l0.length l0) (hc0 : l0.length ≤ c0) (hr1 : Kd.C (Kd.slice 9 Kd.string) w A1 l1.length l1) (hc1 : l1.length ≤ c1) (h : impl_Set2DEquals.f k l0 l1 = some r) :
    Calls Try.prog 18 #[.slice A0 l0.length c0, .slice A1 l1.length c1] w fun e w' => e = .returned (.bool r) ∧ Below w.heap.size w w' := by
  have HR0 := Aside0.mk hr0
  have HC0 := Aside0.mk hc0
  clear hr0 hc0
  have HR1 := Aside0.mk hr1
  have HC1 := Aside0.mk hc1
  clear hr1 hc1
  have HB := Aside0.mk (Below.refl w.heap.size w)
  have H : ((impl_tables.f k l0).bind fun t147 => ((impl_tables.f k l1).bind fun t150 => ((util_Set2DEquals.f k t147 t150).bind fun t153 => (some t153)))) = some r := h
  clear h
  replace H := Option.bind_eq_some_iff.mp H
  obtain ⟨t147, A30, H⟩ := H
  replace H : ((impl_tables.f k l1).bind fun t150 => ((util_Set2DEquals.f k t147 t150).bind fun t153 => (some t153))) = some r := H
  have A3 := Aside0.mk A30
  clear A30
  replace H := Option.bind_eq_some_iff.mp H
  obtain ⟨t150, A40, H⟩ := H
  replace H : ((util_Set2DEquals.f k t147 t150).bind fun t153 => (some t153)) = some r := H
  have A4 := Aside0.mk A40
  clear A40
  replace H := Option.bind_eq_some_iff.mp H
  obtain ⟨t153, A50, H⟩ := H
  replace H : (some t153) = some r := H
  have A5 := Aside0.mk A50
  clear A50
  obtain rfl := Option.some.inj H
  go_enter Try.func18, Try.ntmps18
  go_wp2_with (first | ((with_reducible refine gate_callee (f := 35) rfl ?_); refine goesL_ (some 6) rfl rfl Try.func35 (by kernel_rfl) rfl #[.slice A0 l0.length c0] rfl (by (try simp only [List.map_toArray, List.map_cons, List.map_nil]); first | done | rfl | (simp only [List.length_drop, List.length_take]; rfl)) ?_; (with_reducible refine (impl_tables.calls k _ _ l0 t147 _ ?side1 ?side2 A3.out).mono ?_); (case side1 => repeat (first | exact HR0.out | (with_reducible refine Kd.C_alloc ?_ _) | (with_reducible refine Kd.C_drewN ?_ _) | (with_reducible refine Kd.C_drew ?_))); (case side2 => exact HC0.out); rintro e w6 ⟨v148, rfl, ho0, hb⟩; refine ⟨_, rfl, ?_⟩; have n0_ := Aside0.mk (Kd.S_lower ho0 (below_size (by repeat (first | (with_reducible first | exact HB.out | apply below_alloc | apply pw_below_drewN | apply below_drew1) | exact HB.out)))); have n1_ := Aside0.mk (below_step (by repeat (first | (with_reducible first | exact HB.out | apply below_alloc | apply pw_below_drewN | apply below_drew1) | exact HB.out)) hb); clear HB; have HO149 := n0_; have HB := n1_; clear n0_ n1_; (try clear hb); (try clear hb2); (try clear hk); (try clear hi); (try clear ho0)) | ((with_reducible refine gate_callee (f := 35) rfl ?_); refine goesL_ (some 8) rfl rfl Try.func35 (by kernel_rfl) rfl #[.slice A1 l1.length c1] rfl (by (try simp only [List.map_toArray, List.map_cons, List.map_nil]); first | done | rfl | (simp only [List.length_drop, List.length_take]; rfl)) ?_; (with_reducible refine (impl_tables.calls k _ _ l1 t150 _ ?side1 ?side2 A4.out).mono ?_); (case side1 => repeat (first | exact (Kd.C_below HR1.out HB.out) | (with_reducible refine Kd.C_alloc ?_ _) | (with_reducible refine Kd.C_drewN ?_ _) | (with_reducible refine Kd.C_drew ?_))); (case side2 => exact HC1.out); rintro e w7 ⟨v151, rfl, ho0, hb⟩; refine ⟨_, rfl, ?_⟩; have n0_ := Aside0.mk (Kd.S_old HO149.out hb); have n1_ := Aside0.mk (Kd.S_lower (Kd.S_mono (Kd.S_bound ho0) (fun _ hk => hk.2.1)) (below_size (by repeat (first | (with_reducible first | exact HB.out | apply below_alloc | apply pw_below_drewN | apply below_drew1) | exact HB.out)))); have n2_ := Aside0.mk (below_step (by repeat (first | (with_reducible first | exact HB.out | apply below_alloc | apply pw_below_drewN | apply below_drew1) | exact HB.out)) hb); clear HO149; clear HB; have HO149 := n0_; have HO152 := n1_; have HB := n2_; clear n0_ n1_ n2_; (try clear hb); (try clear hb2); (try clear hk); (try clear hi); (try clear ho0); obtain ⟨Ao8, co8, eo8⟩ := Kd.S_slice HO149.out; subst eo8; obtain ⟨Ao9, co9, eo9⟩ := Kd.S_slice HO152.out; subst eo9) | ((with_reducible refine gate_callee (f := 34) rfl ?_); refine goesL_ (some 9) rfl rfl Try.func34 (by kernel_rfl) rfl #[.slice Ao8 t147.length co8, .slice Ao9 t150.length co9] rfl (by (try simp only [List.map_toArray, List.map_cons, List.map_nil]); first | done | rfl | (simp only [List.length_drop, List.length_take]; rfl)) ?_; have zc := util_Set2DEquals.own k _ _ t147 t150 t153 w _ _ _ HO149.out HO152.out (fun k h0 h1 => by have := h0.2; omega) HB.out A5.out; (with_reducible refine zc.mono ?_); clear zc; rintro e w10 ⟨rfl, hb⟩; refine ⟨_, rfl, ?_⟩; clear HO149; clear HO152; clear HB; have HB := Aside0.mk hb; (try clear hb)))
  go_ret
  exact ⟨by first | rfl | (simp [errW_none, errW_some] <;> rfl) | (simp [*, errW_none, errW_some] <;> rfl), by repeat (first | (with_reducible first | exact HB.out | apply below_alloc | apply pw_below_drewN | apply below_drew1) | exact HB.out)⟩

/-! ### laws_copied: function 11 -/
def laws_copied.f (l0 : List ByteArray) : Option (List ByteArray) := (some (([] : List ByteArray) : List ByteArray)).bind fun y154 => (if y154.length + l0.length < 8796093022208 then (some (y154 ++ l0)) else (none))
set_option maxHeartbeats 8000000 in
set_option maxRecDepth 100000 in
theorem laws_copied.calls (A0 : Option Addr) (c0 : Nat) (l0 : List ByteArray) (r : List ByteArray) (w : World) (hr0 : Kd.C Kd.string w A0 l0.length l0) (hc0 : l0.length ≤ c0) (h : laws_copied.f l0 = some r) :
    Calls Try.prog 11 #[.slice A0 l0.length c0] w fun e w' => ∃ v0_ : Value, e = .returned (v0_) ∧ Kd.R Kd.string 9 w' w.heap.size (fun _ => True) v0_ r ∧ Below w.heap.size w w' := by
  have HR0 := Aside0.mk hr0
  have HC0 := Aside0.mk hc0
  clear hr0 hc0
  have HB := Aside0.mk (Below.refl w.heap.size w)
  have H : ((some (([] : List ByteArray) : List ByteArray)).bind fun y154 => (if y154.length + l0.length < 8796093022208 then (some (y154 ++ l0)) else (none))) = some r := h
  clear h
  obtain ⟨y154, hy154⟩ : ∃ y_ : List ByteArray, y_ = (([] : List ByteArray)) := ⟨_, rfl⟩
  replace H : (if y154.length + l0.length < 8796093022208 then (some (y154 ++ l0)) else (none)) = some r := by first | (rw [hy154]; with_reducible exact H) | (have H2_ := (Option.bind_some _ _).symm.trans H; rw [hy154]; with_reducible exact H2_) | (have H2_ := (Option.bind_some _ _).symm.trans H; with_reducible exact H2_) | with_reducible exact H | (rw [hy154]; exact H) | exact H
  have Ny154 := Aside0.mk hy154
  clear hy154
  by_cases c2 : y154.length + l0.length < 8796093022208
  · rw [if_pos c2] at H
    have LMc2 := Aside0.mk c2
    clear c2
    obtain ⟨y157, hy157⟩ : ∃ y_ : List ByteArray, y_ = (y154 ++ l0) := ⟨_, rfl⟩
    replace H : (some y157) = some r := by first | (rw [hy157]; with_reducible exact H) | (have H2_ := (Option.bind_some _ _).symm.trans H; rw [hy157]; with_reducible exact H2_) | (have H2_ := (Option.bind_some _ _).symm.trans H; with_reducible exact H2_) | with_reducible exact H | (rw [hy157]; exact H) | exact H
    have Ny157 := Aside0.mk hy157
    clear hy157
    obtain rfl := Option.some.inj H
    go_enter Try.func11, Try.ntmps11
    go_wp2_with (first | ((with_reducible refine gate_dst (N := 3) rfl ?_); refine Kd.R_lit Kd.string _ 9 ?hg (N := 3) ?hd (xs := ([] : List ByteArray)) (inner := []) (ok := fun _ => True) (okp := fun _ => True) ?hr ?hp (fun _ hk => hk) trivial (Below.refl _ _) (Nat.le_refl _) (by simp) ?_; (case hd => rfl); (case hg => rfl); (case hr => first | (go_simp; done) | (go_simp; rfl)); (case hp => exact (Reps.none _ _)); intro v155 w3 ho4 hb hg_ hnew_; clear hg_ hnew_; (first | rw [← Ny154.out] at ho4 | (simp only [Int.reduceToNat] at ho4; rw [← Ny154.out] at ho4)); have n0_ := Aside0.mk (Kd.R_lower ho4 (below_size (by repeat (first | (with_reducible first | exact HB.out | apply below_alloc | apply pw_below_drewN | apply below_drew1) | exact HB.out)))); have n1_ := Aside0.mk (below_step (by repeat (first | (with_reducible first | exact HB.out | apply below_alloc | apply pw_below_drewN | apply below_drew1) | exact HB.out)) hb); clear HB; have HO156 := n0_; have HB := n1_; clear n0_ n1_; clear hb ho4) | ((with_reducible refine gate_builtin (b := .append) (xs := #[.tmp 3, .tmp 4]) rfl ?_); at_builtin; refine Kd.R_append_rows Kd.string (w0 := w) w.heap.size rfl (.tmp 3) (.tmp 4) 22 9 (.string ⟨#[]⟩) 16 rfl Try.underlying22 info9 rfl (by decide) (by omega) v155 y154 l0 _ _ _ (fun _ => True) (fun _ => False) rfl rfl ?aO ?aR (fun _ _ h => h) (fun _ h => h.elim) ?aF ?aB ?aS ?aL ?_; (case aR => repeat (first | exact (Kd.C_below HR0.out HB.out) | (with_reducible refine Kd.C_alloc ?_ _) | (with_reducible refine Kd.C_drewN ?_ _) | (with_reducible refine Kd.C_drew ?_))); (case aB => exact (by repeat (first | (with_reducible first | exact HB.out | apply below_alloc | apply pw_below_drewN | apply below_drew1) | exact HB.out))); (case aF => exact (fun _ _ => trivial)); (case aO => exact (by (with_reducible repeat (first | apply Kd.R_alloc | apply Kd.R_drewN | apply Kd.R_drew)); exact HO156.out)); (case aS => exact (below_size (by repeat (first | (with_reducible first | exact HB.out | apply below_alloc | apply pw_below_drewN | apply below_drew1) | exact HB.out)))); (case aL => have := LMc2.out; omega); intro v158 w5 ho hb hg hat; rw [← Ny157.out] at ho; have n0_ := Aside0.mk (hb); have n1_ := Aside0.mk (ho); clear HB; clear HO156; have HB := n0_; have HO159 := n1_; clear n0_ n1_; clear ho hb hg hat))
    go_ret
    exact ⟨_, by first | rfl | (simp [errW_none, errW_some] <;> rfl) | (simp [*, errW_none, errW_some] <;> rfl), by (with_reducible repeat (first | apply Kd.R_alloc | apply Kd.R_drewN | apply Kd.R_drew)); exact HO159.out, by repeat (first | (with_reducible first | exact HB.out | apply below_alloc | apply pw_below_drewN | apply below_drew1) | exact HB.out)⟩
  · rw [if_neg c2] at H
    exact absurd H (by simp)

/-! ### laws_copiedRows: function 19 -/
def laws_copiedRows.l0 : Nat → List (List ByteArray) → List (List ByteArray) → Int → Option ((List (List ByteArray)))
  | 0, _, _, _ => none
  | k + 1, x0, x3, x4 => if x4 < (x0.length : Int) then (if 0 ≤ x4 then ((laws_copied.f (rd_L1 x0 x4)).bind fun t161 => (if x3.length < 5864062014805 then (laws_copiedRows.l0 k x0 (x3 ++ [t161]) (wrap64 (x4 + 1))) else (none))) else (none)) else (some x3)
def laws_copiedRows.f (k : Nat) (l0 : List (List ByteArray)) : Option ((List (List ByteArray))) := laws_copiedRows.l0 k l0 ([] : List (List ByteArray)) 0
theorem laws_copiedRows.mono_l : ∀ k, (∀ y0 y1 y2, LeO (laws_copiedRows.l0 k y0 y1 y2) (laws_copiedRows.l0 (k + 1) y0 y1 y2))
  | 0 => fun _ _ _ r h => by simp [laws_copiedRows.l0] at h
  | k + 1 => by
    have ih0 := laws_copiedRows.mono_l k
    · intro y0 y1 y2
      unfold laws_copiedRows.l0
      repeat' first
      | (with_reducible exact ih0 _ _ _)
      | (with_reducible exact LeO.refl _)
      | (with_reducible exact LeO.none _)
      | (with_reducible refine LeO.ite ?_ ?_)
      | (with_reducible refine LeO.bind ?_ (fun _ => ?_))
      | exact ih0 _ _ _
      | exact LeO.none _
      | refine LeO.ite ?_ ?_
      | refine LeO.bind ?_ (fun _ => ?_)
theorem laws_copiedRows.mono : ∀ a0 k, LeO (laws_copiedRows.f k a0) (laws_copiedRows.f (k + 1) a0) := by
  intro a0 k
  have ih0 := laws_copiedRows.mono_l k
  unfold laws_copiedRows.f
  repeat' first
      | (with_reducible exact ih0 _ _ _)
      | (with_reducible exact LeO.refl _)
      | (with_reducible exact LeO.none _)
      | (with_reducible refine LeO.ite ?_ ?_)
      | (with_reducible refine LeO.bind ?_ (fun _ => ?_))
      | exact ih0 _ _ _
      | exact LeO.none _
      | refine LeO.ite ?_ ?_
      | refine LeO.bind ?_ (fun _ => ?_)
set_option maxHeartbeats 8000000 in
set_option maxRecDepth 100000 in
theorem laws_copiedRows.calls (k : Nat) (A0 : Option Addr) (c0 : Nat) (l0 : List (List ByteArray)) (r : List (List ByteArray)) (w : World) (hr0 : Kd.C (Kd.slice 9 Kd.string) w A0 l0.length l0) (hc0 : l0.length ≤ c0) (h : laws_copiedRows.f k l0 = some r) :
    Calls Try.prog 19 #[.slice A0 l0.length c0] w fun e w' => ∃ v0_ : Value, e = .returned (v0_) ∧ Kd.S (Kd.slice 9 Kd.string) 22 w' w.heap.size (fun _ => True) v0_ r ∧ Below w.heap.size w w' := by
  have HR0 := Aside0.mk hr0
  have HC0 := Aside0.mk hc0
  clear hr0 hc0
  have HB := Aside0.mk (Below.refl w.heap.size w)
  have H : (laws_copiedRows.l0 k l0 ([] : List (List ByteArray)) 0) = some r := h
  clear h
  have H' := Aside0.mk H
  clear H
  go_enter Try.func19, Try.ntmps19
  go_wp2
  go_loopg [3, 4] k (fun kq v3 v4 w' => ∃ (x3_1 : List (List ByteArray)) (x4_1 : Int), v4 = .int .i64 x4_1 ∧ Aside0 (laws_copiedRows.l0 kq l0 x3_1 x4_1 = some r) ∧ Aside0 (kq ≤ k) ∧ Aside0 (Kd.S (Kd.slice 9 Kd.string) 22 w' w.heap.size (fun _ => True) v3 x3_1) ∧ Aside0 (Below w.heap.size w w'))
  case atStart => exact ⟨(([] : List (List ByteArray))), (0), (by first | rfl | (simp; done) | (simp [*]; done)), H', ⟨Nat.le_refl _⟩, ⟨by first | exact Kd.S_nil _ _ _ _ _ | exact Kd.N_nil _ _ _ _ _ | exact Kd.V_nil _ _ _ _ _ | exact Kd.Q_nil _ _ _ _ _ | exact Kd.R_nil _ _ _ _ _⟩, ⟨by repeat (first | (with_reducible first | exact HB.out | apply below_alloc | apply pw_below_drewN | apply below_drew1) | exact HB.out)⟩⟩
  case round =>
    clear H'
    try clear c1
    obtain ⟨x3_1, x4_1, rfl, HA, HK1, HO_3, HB⟩ := hrel
    cases gk with
    | zero => exact absurd HA.out (by simp [laws_copiedRows.l0])
    | succ k1 =>
      have H := HA.out
      clear HA
      simp only [laws_copiedRows.l0] at H
      by_cases c2 : x4_1 < (l0.length : Int)
      · rw [if_pos c2] at H
        have c2b0 : decide (x4_1 < (l0.length : Int)) = true := decide_eq_true c2
        clear c2
        by_cases c3 : 0 ≤ x4_1
        · rw [if_pos c3] at H
          have c3b0 : decide (0 ≤ x4_1) = true := decide_eq_true c3
          clear c3
          replace H := Option.bind_eq_some_iff.mp H
          obtain ⟨t161, A40, H⟩ := H
          replace H : (if x3_1.length < 5864062014805 then (laws_copiedRows.l0 k1 l0 (x3_1 ++ [t161]) (wrap64 (x4_1 + 1))) else (none)) = some r := H
          have A4 := Aside0.mk A40
          clear A40
          by_cases c5 : x3_1.length < 5864062014805
          · rw [if_pos c5] at H
            have LMc5 := Aside0.mk c5
            clear c5
            obtain ⟨y164, hy164⟩ : ∃ y_ : List (List ByteArray), y_ = (x3_1 ++ [t161]) := ⟨_, rfl⟩
            replace H : (laws_copiedRows.l0 k1 l0 y164 (wrap64 (x4_1 + 1))) = some r := by first | (rw [hy164]; with_reducible exact H) | (have H2_ := (Option.bind_some _ _).symm.trans H; rw [hy164]; with_reducible exact H2_) | (have H2_ := (Option.bind_some _ _).symm.trans H; with_reducible exact H2_) | with_reducible exact H | (rw [hy164]; exact H) | exact H
            have Ny164 := Aside0.mk hy164
            clear hy164
            have H' := Aside0.mk H
            clear H
            have p160 : 0 ≤ (x4_1 : Int) := of_decide_eq_true (by first | (with_reducible assumption) | assumption)
            have q160 : x4_1 < (l0.length : Int) := of_decide_eq_true (by first | (with_reducible assumption) | assumption)
            obtain ⟨ad160, A160_0, c160_0, e160, hx160_0, hl160_0, hi160_0⟩ := at_L1 HR0.out x4_1 p160 q160
            cases e160
            replace hx160_0 := (HB.out.cell (World.block_lt_of_cell? w _ hx160_0)).trans hx160_0
            have HR160_0 := Aside0.mk hi160_0
            have HC160_0 := Aside0.mk hl160_0
            clear hi160_0 hl160_0
            replace p160 := eq_true p160
            replace q160 := eq_true q160
            go_wp2_with (first | ((with_reducible refine gate_callee (f := 11) rfl ?_); refine goesL_ (some 16) rfl rfl Try.func11 (by kernel_rfl) rfl #[.slice A160_0 (rd_L1 l0 x4_1).length c160_0] rfl (by (try simp only [List.map_toArray, List.map_cons, List.map_nil]); first | done | rfl | (simp only [List.length_drop, List.length_take]; rfl)) ?_; (with_reducible refine (laws_copied.calls _ _ (rd_L1 l0 x4_1) t161 _ ?side1 ?side2 A4.out).mono ?_); (case side1 => repeat (first | exact (Kd.C_below HR160_0.out HB.out) | (with_reducible refine Kd.C_alloc ?_ _) | (with_reducible refine Kd.C_drewN ?_ _) | (with_reducible refine Kd.C_drew ?_))); (case side2 => exact HC160_0.out); rintro e w6 ⟨v162, rfl, ho0, hb⟩; refine ⟨_, rfl, ?_⟩; have n0_ := Aside0.mk (Kd.S_elder' (by (with_reducible repeat (first | apply Kd.S_alloc | apply Kd.S_drewN | apply Kd.S_drew)); exact HO_3.out) (Kd.R_base ho0) hb); have n1_ := Aside0.mk (Kd.R_lower ho0 (below_size (by repeat (first | (with_reducible first | exact HB.out | apply below_alloc | apply pw_below_drewN | apply below_drew1) | exact HB.out)))); have n2_ := Aside0.mk (below_step (by repeat (first | (with_reducible first | exact HB.out | apply below_alloc | apply pw_below_drewN | apply below_drew1) | exact HB.out)) hb); clear HO_3; clear HB; have HO_3 := n0_; have HO163 := n1_; have HB := n2_; clear n0_ n1_ n2_; (try clear hb); (try clear hb2); (try clear hk); (try clear hi); (try clear ho0); obtain ⟨Ao8, co8, eo8⟩ := Kd.R_slice HO163.out; subst eo8) | ((with_reducible refine gate_builtin (b := .append) (xs := #[.tmp 11, .tmp 17]) rfl ?_); at_builtin; refine Kd.S_append (Kd.slice 9 Kd.string) (w0 := w) w.heap.size rfl (.tmp 11) (.tmp 17) 30 22 (.slice none 0 0) 24 rfl Try.underlying30 info22 rfl (by decide) (by omega) u3 x3_1 t161 [.slice Ao8 t161.length co8] (fun _ => True) (fun k_ => some k_ = (.slice Ao8 t161.length co8 : Value).ownBlock) rfl rfl ?aP (fun k_ hk_ => ((Kd.R_mono (ok' := fun k_ => ((fun _ => True)) k_ ∧ some k_ ≠ (u3 : Value).ownBlock) (Kd.R_apart' (HO163.out) (Kd.S_typed HO_3.out) (by decide)) (fun k_ hk => ⟨trivial, hk.2⟩))).1 k_ hk_.symm) ?aF ?aO ?aB ?aS ?aL ?_; (case aP => exact Kd.M_row (Kd.R_mono (Kd.R_tight rfl (Kd.R_mono (ok' := fun k_ => ((fun _ => True)) k_ ∧ some k_ ≠ (u3 : Value).ownBlock) (Kd.R_apart' (HO163.out) (Kd.S_typed HO_3.out) (by decide)) (fun k_ hk => ⟨trivial, hk.2⟩))) (fun _ h_ => h_))); (case aB => exact (by repeat (first | (with_reducible first | exact HB.out | apply below_alloc | apply pw_below_drewN | apply below_drew1) | exact HB.out))); (case aF => exact (fun _ _ => trivial)); (case aO => exact (by (with_reducible repeat (first | apply Kd.S_alloc | apply Kd.S_drewN | apply Kd.S_drew)); exact Kd.S_mono HO_3.out (fun k_ hk => ⟨trivial, fun e_ => hk.2 e_⟩))); (case aS => exact (below_size (by repeat (first | (with_reducible first | exact HB.out | apply below_alloc | apply pw_below_drewN | apply below_drew1) | exact HB.out)))); (case aL => have := LMc5.out; omega); intro v165 w7 ho hb hg hat; rw [← Ny164.out] at ho; have n0_ := Aside0.mk (hb); have n1_ := Aside0.mk (ho); clear HB; clear HO_3; clear HO163; have HB := n0_; have HO166 := n1_; clear n0_ n1_; clear ho hb hg hat))
            go_roundg k1
            case measure => have := HK1.out; omega
            case rel => exact ⟨(y164), (wrap64 (x4_1 + 1)), (by first | rfl | (simp; done) | (simp [*]; done)), H', ⟨by have := HK1.out; omega⟩, ⟨by (with_reducible repeat (first | apply Kd.S_alloc | apply Kd.S_drewN | apply Kd.S_drew)); exact HO166.out⟩, ⟨by repeat (first | (with_reducible first | exact HB.out | apply below_alloc | apply pw_below_drewN | apply below_drew1) | exact HB.out)⟩⟩
          · rw [if_neg c5] at H
            exact absurd H (by simp)
        · rw [if_neg c3] at H
          exact absurd H (by simp)
      · rw [if_neg c2] at H
        have c2b0 : decide (x4_1 < (l0.length : Int)) = false := decide_eq_false c2
        clear c2
        obtain rfl := Option.some.inj H
        go_wp2
        go_ret
        exact ⟨_, by first | rfl | (simp [errW_none, errW_some] <;> rfl) | (simp [*, errW_none, errW_some] <;> rfl), by (with_reducible repeat (first | apply Kd.S_alloc | apply Kd.S_drewN | apply Kd.S_drew)); exact HO_3.out, by repeat (first | (with_reducible first | exact HB.out | apply below_alloc | apply pw_below_drewN | apply below_drew1) | exact HB.out)⟩

end Go.Proofs.Ythmkbojkhoaolaa.PFnRowSets
