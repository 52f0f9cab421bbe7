/- The machine side of laws.FnRolesOrder: the questions of a manager of roles. Each theorem says its own conditions. -/
import Derived.Test.YtjijaciaioieaaaGreatOFnRolesOrderx80
import Derived.StillTailTactics
import Derived.Handy
import Derived.MapKept
import Derived.Maps.RangeRun
import Derived.OneCell
import Derived.LoopN
import Derived.Maps.OwnSet
import Derived.Maps.AppendAt
import Derived.Defers
namespace Go.Proofs.YtjijaciaioieaaaGreat.PFnRolesOrder
open Go.RowKit Go.Proofs.YtjijaciaioieaaaGreatW.PrintWords Go.Proofs.YtjijaciaioieaaaGreatW.PrintLast Go.Proofs.YtjijaciaioieaaaGreatW.PrintMore
set_option linter.unusedVariables false
set_option linter.unusedSimpArgs false
/-! The names of the roles, or of the users, of a role. -/
section
open Go.Proofs
/-- a variable that holds a row of texts of the call's own, in block b -/
structure NamesAt (bs b : Nat) (l : List ByteArray) (S : Nat → Prop) (W : World) : Prop where
 cell : ∃ v, W.heap[b]? = some (.cells #[v] 38 (0, 0)) ∧ Kd.R Kd.string 9 W bs (fun _ => True) v l ∧ ∀ k, S k ↔ k = b ∨ v.ownBlock = some k
 hbs : bs ≤ W.heap.size
 lt : b < bs
theorem as_string (v : Value) (w : World) : (Instr.typeAssert (.iface 9 v) 20 9 false).run Tryz.prog w = .ok v w := by kernel_rfl
theorem infoS_ : (Tryz.prog.info? 9).map (fun i => (i.zero, i.size, i.bytes)) = some (some (.string ⟨#[]⟩), 1, 16) := by kernel_rfl
theorem run_store1s {w : World} {g i : Nat} {u : Value} (hc : w.cell? ⟨g, i, none⟩ = some u) (hf : w.frozen? ⟨g, i, none⟩ = false) (A : Option Addr) (n c : Nat) : (storeCells ⟨g, i, none⟩ [.slice A n c]).run Tryz.prog w = .ok () (w.setCell ⟨g, i, none⟩ (.slice A n c)) := by
 have h0 : (⟨g, i, none⟩ : Addr).add 0 = ⟨g, i, none⟩ := rfl
 simp [storeCells, h0, run_store_slice, stored, hc, hf, Result.andThen]
theorem mk11_lit (s : Nat → Value) : mkN 11 [] s = { tmps := #[s 0, s 1, s 2, s 3, s 4, s 5, s 6, s 7, s 8, s 9, s 10], defers := [] } := rfl
set_option maxHeartbeats 8000000 in
set_option maxRecDepth 100000 in
theorem names_step_roles {bs b : Nat} {l : List ByteArray} {S : Nat → Prop} {W : World} (h : NamesAt bs b l S W) (hl : l.length ≤ 1000000) (k : ByteArray) (u : Value) :
  Calls Tryz.prog 124 #[KY k, u, PT b] W fun e W' => e = .returned (.bool true) ∧ ∃ S', NamesAt bs b (l ++ [k]) S' W' ∧ NextS W.heap.size S S' ∧ Turn S W W' := by
 obtain ⟨⟨v, hc, hR, hS⟩, hbase, hlt⟩ := h
 have cb : W.drew.cell? ⟨b, 0, none⟩ = some v := cell_of_one hc
 have hbl : b < W.heap.size := Nat.lt_of_lt_of_le hlt hbase
 have ca : (W.drew.alloc (.cells #[.string k] 9)).cell? ⟨b, 0, none⟩ = some v := cell_of_one (((MapKept.heap_alloc W.drew _).2 b hbl).trans hc)
 have HC := Aside0.mk hc
 have HR := Aside0.mk hR
 have HS := Aside0.mk hS
 have HLT := Aside0.mk (show (l.length + 1) * 16 ≤ 140737488355328 from by omega)
 have hta := as_string (.string k)
 go_enter Tryz.func124, Tryz.ntmps124
 go_upto_region 1 with (fail)
 let PB_ : Value → World → Prop := fun v1 w' => Kd.R Kd.string 9 w' bs (fun _ => True) v1 (l ++ [k]) ∧ W.drew.grownBy w' v.ownBlock ∧ (v1.ownBlock = v.ownBlock ∨ ∃ g, v1.ownBlock = some g ∧ W.heap.size ≤ g) ∧ w'.heap[b]? = some (.cells #[v] 38 (0, 0)) ∧ Below bs W.drew w'
 refine at_mkN (n := 11) (d := []) rfl rfl ?_
 refine region_chain2 (by kernel_rfl) [6, 7, 8] [9, 10] (fun k_ => ([v, (KY k), (.string k)] : List Value).getD k_ undef) (fun i_ s_ W_ => match i_ with | 0 => W_ = W.drew | 1 => s_ 9 = .slice (some ⟨W.drew.heap.size, 0, none⟩) 1 1 ∧ W_ = W.drew.alloc (.cells #[.string k] 9) | _ => PB_ (s_ 10) W_) [[], [], [1], [2], [0, 3], [4, 4, 0, 1, 2, 3, 4]] (fun i_ => decide (i_ = 0)) (by kernel_rfl) (by decide) rfl (by decide) (by decide) (by decide) (by decide) (by decide) (by decide) ?_ ?_ ?_ ?_ ?_ ?_
 ·intro i_ hi_ s_ W_ hW_ hq_ hg_ ho_
  rcases (show i_ = 0 ∨ i_ = 1 ∨ i_ = 2 from by have : i_ < 3 := hi_; omega) with rfl | rfl | rfl
  ·refine ⟨_, rfl, rfl, fun _ => rfl, ?_⟩
   have g2_ : s_ 2 = _ := ho_ 2 (by decide)
   obtain ⟨q_, hz_, hno_⟩ := hq_
   have hcb_ : W_.cell? ⟨b, 0, none⟩ = some v := (show q_ = 0 ∨ q_ = 1 ∨ 1 < q_ from by omega).elim (fun e => by subst e; rw [show W_ = W.drew from hz_]; exact cb) (fun e => e.elim (fun e => by subst e; rw [(show s_ 9 = _ ∧ W_ = _ from hz_).2]; exact ca) (fun hq => absurd (by decide) (hno_ 1 hq)))
   clear hz_ hno_ hW_ cb ca
   clear hg_ ho_
   try clear hq_
   first | (simp [execOp, mkN_eval, Result.andThen, *]; done) | (go_simp; simp [mkN_get, Result.andThen, *]; done)
  ·refine ⟨_, rfl, rfl, fun _ => rfl, ?_⟩
   have g0_ : s_ 0 = _ := ho_ 0 (by decide)
   obtain rfl := hW_ rfl
   clear hg_ ho_
   try clear hq_
   first | (simp [execOp, mkN_eval, Result.andThen, *]; done) | (go_simp; simp [mkN_get, Result.andThen, *]; done)
  ·refine ⟨_, rfl, rfl, fun _ => rfl, ?_⟩
   have g7_ : s_ 7 = (KY k) := hg_ 1 (by decide) (by decide)
   obtain rfl := hW_ rfl
   clear hg_ ho_
   try clear hq_
   first | (simp [execOp, mkN_eval, Result.andThen, *]; done) | (go_simp; simp [mkN_get, Result.andThen, *]; done)
 ·exact rfl
 ·exact fun _ _ h => h
 ·intro i_ s_ x_ v_ W_ hx_ hZ_
  have e9_ : updN s_ x_ v_ 9 = s_ 9 := updN_ne (hx_ 0 (by decide))
  have e10_ : updN s_ x_ v_ 10 = s_ 10 := updN_ne (hx_ 1 (by decide))
  rcases (show i_ = 0 ∨ i_ = 1 ∨ ∃ q_, i_ = q_ + 2 from by by_cases h : 2 ≤ i_; exact .inr (.inr (⟨i_ - 2, by omega⟩)); omega) with rfl | rfl | ⟨q_, rfl⟩
  ·exact hZ_
  ·simpa only [e9_, e10_] using hZ_
  ·simpa only [e9_, e10_] using hZ_
 ·intro i_ hi_ s_ W_ hg_ ho_ hZ_ K_ hK_
  rcases (show i_ = 0 ∨ i_ = 1 from by have : i_ < 2 := hi_; omega) with rfl | rfl
  ·have g8_ : s_ 8 = (.string k) := hg_ 2 (by decide) (by decide)
   obtain rfl : W_ = W.drew := hZ_
   clear hg_ ho_
   refine wpOp_step rfl (fun K' hK => ?_)
   go_simp
   simp [mkN_get, g8_]
   refine hK _ _ ?_
   show K_ ((mkN 11 [] s_).put (some 9) (.slice (some ⟨W.drew.heap.size, 0, none⟩) 1 1)) (W.drew.alloc (.cells #[.string k] 9))
   rw [mkN_put _ _ _ (by decide)]
   exact hK_ _ _ ⟨updN_self _ _ _, rfl⟩
  ·have g6_ : s_ 6 = v := hg_ 0 (by decide) (by decide)
   obtain ⟨g9_, rfl⟩ := (show s_ 9 = .slice (some ⟨W.drew.heap.size, 0, none⟩) 1 1 ∧ W_ = W.drew.alloc (.cells #[.string k] 9) from hZ_)
   clear hg_ ho_
   refine wpOp_step rfl (fun K' hK => ?_)
   refine Kd.R_append_step Kd.string (w0 := W.drew) bs rfl (.tmp 6) (.tmp 9) 38 9 (.string ⟨#[]⟩) 16 rfl Tryz.underlying38 infoS_ rfl (by decide) (by omega) v l k [.string k] (fun _ => True) (fun _ => False) ?aV ?aX ?aP (fun _ hk => hk.elim) ?aF ?aO ?aB ?aS ?aL ?_
   case aV => exact (mkN_eval s_ 6 (by decide)).trans g6_
   case aX => exact (mkN_eval s_ 9 (by decide)).trans g9_
   case aP => exact rfl
   case aF => exact fun _ _ => trivial
   case aO => exact Kd.R_drew HR.out
   case aB => exact Below.refl _ _
   case aS => exact hbase
   case aL => exact HLT.out
   intro v2 w4 hR4 hB4 hG4 hat4
   refine hK _ _ ?_
   show K_ ((mkN 11 [] s_).put (some 10) v2) w4
   rw [mkN_put _ _ _ (by decide)]
   refine hK_ _ _ ?_
   show PB_ (updN s_ 10 v2 10) w4
   rw [updN_self]
   exact ⟨hR4, hG4, hat4, (hB4.block b hlt).trans HC.out, hB4⟩
 ·intro s_ W_ hZ_ hv_ ho_
  obtain ⟨p1, p2, p3, p4, p5⟩ := (show PB_ (s_ 10) W_ from hZ_)
  have c4 := cell_of_one p4
  have f4 := free_of_one p4
  have g2_ : s_ 2 = PT b := ho_ 2 (by decide)
  obtain ⟨A1, n1, g10_⟩ := Kd.R_slice p1
  rw [List.length_append, List.length_singleton] at g10_
  rw [g10_] at p1 p3
  have HP := Aside0.mk (And.intro p1 (And.intro p2 (And.intro p3 (And.intro p4 p5))))
  clear p1 p2 p3 p4 p5
  refine wpOp_step rfl (fun K' hK => ?_)
  go_simp
  simp [mkN_get, g2_, g10_, run_store1s c4 f4 A1 (l.length + 1) n1]
  show K' (mkN 11 [] s_) (W_.setCell ⟨b, 0, none⟩ (.slice A1 (l.length + 1) n1))
  refine hK _ _ ?_
  rw [mk11_lit]
  clear hv_ ho_ hK hZ_ g2_ c4 f4 cb ca g10_
  go_wp2
  go_ret
  obtain ⟨p1, p2, p3, p4, p5⟩ := HP.out
  generalize (Value.slice A1 (l.length + 1) n1) = v1 at *
  have hne : ∀ g, v1.ownBlock = some g → g ≠ b := fun g hg e => by
   have := ((Kd.R_bound p1).1 g hg).2.1
   omega
  refine ⟨rfl, fun g => g = b ∨ v1.ownBlock = some g, ⟨⟨v1, one_setCell p4, Kd.R_mono (Kd.R_move (Kd.R_bound p1) (fun g hg => Below.heap_setCell _ _ _ _ (fun e => by have e : g = b := e; have := hg.2.1; omega))) (fun _ _ => trivial), fun g => Iff.rfl⟩, ?_, hlt⟩, fun g hg => ?_, ?_⟩
  ·have := p5.size
   simp
   exact Nat.le_trans hbase this
  ·rcases hg with rfl | hg
   ·exact .inl ((HS.out _).2 (.inl rfl))
   ·rcases p3 with h3 | ⟨q, h3, h4⟩
    ·exact .inl ((HS.out _).2 (.inr (by rw [← h3]; exact hg)))
    ·rw [h3] at hg
     exact .inr (by rw [← Option.some.inj hg]; exact h4)
  ·refine ⟨p5.os, p5.tape, p5.output, ?_, fun g hg hn => ?_⟩
   ·have := p5.size
    simpa using this
   ·have h1 : g ≠ b := fun e => hn ((HS.out _).2 (.inl e))
    have h2 : some g ≠ v.ownBlock := fun e => hn ((HS.out _).2 (.inr e.symm))
    exact (Below.heap_setCell _ _ _ _ h1).trans (p2.block g hg h2)
set_option maxHeartbeats 8000000 in
set_option maxRecDepth 100000 in
theorem names_step_users {bs b : Nat} {l : List ByteArray} {S : Nat → Prop} {W : World} (h : NamesAt bs b l S W) (hl : l.length ≤ 1000000) (k : ByteArray) (u : Value) :
  Calls Tryz.prog 126 #[KY k, u, PT b] W fun e W' => e = .returned (.bool true) ∧ ∃ S', NamesAt bs b (l ++ [k]) S' W' ∧ NextS W.heap.size S S' ∧ Turn S W W' := by
 obtain ⟨⟨v, hc, hR, hS⟩, hbase, hlt⟩ := h
 have cb : W.drew.cell? ⟨b, 0, none⟩ = some v := cell_of_one hc
 have hbl : b < W.heap.size := Nat.lt_of_lt_of_le hlt hbase
 have ca : (W.drew.alloc (.cells #[.string k] 9)).cell? ⟨b, 0, none⟩ = some v := cell_of_one (((MapKept.heap_alloc W.drew _).2 b hbl).trans hc)
 have HC := Aside0.mk hc
 have HR := Aside0.mk hR
 have HS := Aside0.mk hS
 have HLT := Aside0.mk (show (l.length + 1) * 16 ≤ 140737488355328 from by omega)
 have hta := as_string (.string k)
 go_enter Tryz.func126, Tryz.ntmps126
 go_upto_region 1 with (fail)
 let PB_ : Value → World → Prop := fun v1 w' => Kd.R Kd.string 9 w' bs (fun _ => True) v1 (l ++ [k]) ∧ W.drew.grownBy w' v.ownBlock ∧ (v1.ownBlock = v.ownBlock ∨ ∃ g, v1.ownBlock = some g ∧ W.heap.size ≤ g) ∧ w'.heap[b]? = some (.cells #[v] 38 (0, 0)) ∧ Below bs W.drew w'
 refine at_mkN (n := 11) (d := []) rfl rfl ?_
 refine region_chain2 (by kernel_rfl) [6, 7, 8] [9, 10] (fun k_ => ([v, (KY k), (.string k)] : List Value).getD k_ undef) (fun i_ s_ W_ => match i_ with | 0 => W_ = W.drew | 1 => s_ 9 = .slice (some ⟨W.drew.heap.size, 0, none⟩) 1 1 ∧ W_ = W.drew.alloc (.cells #[.string k] 9) | _ => PB_ (s_ 10) W_) [[], [], [1], [2], [0, 3], [4, 4, 0, 1, 2, 3, 4]] (fun i_ => decide (i_ = 0)) (by kernel_rfl) (by decide) rfl (by decide) (by decide) (by decide) (by decide) (by decide) (by decide) ?_ ?_ ?_ ?_ ?_ ?_
 ·intro i_ hi_ s_ W_ hW_ hq_ hg_ ho_
  rcases (show i_ = 0 ∨ i_ = 1 ∨ i_ = 2 from by have : i_ < 3 := hi_; omega) with rfl | rfl | rfl
  ·refine ⟨_, rfl, rfl, fun _ => rfl, ?_⟩
   have g2_ : s_ 2 = _ := ho_ 2 (by decide)
   obtain ⟨q_, hz_, hno_⟩ := hq_
   have hcb_ : W_.cell? ⟨b, 0, none⟩ = some v := (show q_ = 0 ∨ q_ = 1 ∨ 1 < q_ from by omega).elim (fun e => by subst e; rw [show W_ = W.drew from hz_]; exact cb) (fun e => e.elim (fun e => by subst e; rw [(show s_ 9 = _ ∧ W_ = _ from hz_).2]; exact ca) (fun hq => absurd (by decide) (hno_ 1 hq)))
   clear hz_ hno_ hW_ cb ca
   clear hg_ ho_
   try clear hq_
   first | (simp [execOp, mkN_eval, Result.andThen, *]; done) | (go_simp; simp [mkN_get, Result.andThen, *]; done)
  ·refine ⟨_, rfl, rfl, fun _ => rfl, ?_⟩
   have g0_ : s_ 0 = _ := ho_ 0 (by decide)
   obtain rfl := hW_ rfl
   clear hg_ ho_
   try clear hq_
   first | (simp [execOp, mkN_eval, Result.andThen, *]; done) | (go_simp; simp [mkN_get, Result.andThen, *]; done)
  ·refine ⟨_, rfl, rfl, fun _ => rfl, ?_⟩
   have g7_ : s_ 7 = (KY k) := hg_ 1 (by decide) (by decide)
   obtain rfl := hW_ rfl
   clear hg_ ho_
   try clear hq_
   first | (simp [execOp, mkN_eval, Result.andThen, *]; done) | (go_simp; simp [mkN_get, Result.andThen, *]; done)
 ·exact rfl
 ·exact fun _ _ h => h
 ·intro i_ s_ x_ v_ W_ hx_ hZ_
  have e9_ : updN s_ x_ v_ 9 = s_ 9 := updN_ne (hx_ 0 (by decide))
  have e10_ : updN s_ x_ v_ 10 = s_ 10 := updN_ne (hx_ 1 (by decide))
  rcases (show i_ = 0 ∨ i_ = 1 ∨ ∃ q_, i_ = q_ + 2 from by by_cases h : 2 ≤ i_; exact .inr (.inr (⟨i_ - 2, by omega⟩)); omega) with rfl | rfl | ⟨q_, rfl⟩
  ·exact hZ_
  ·simpa only [e9_, e10_] using hZ_
  ·simpa only [e9_, e10_] using hZ_
 ·intro i_ hi_ s_ W_ hg_ ho_ hZ_ K_ hK_
  rcases (show i_ = 0 ∨ i_ = 1 from by have : i_ < 2 := hi_; omega) with rfl | rfl
  ·have g8_ : s_ 8 = (.string k) := hg_ 2 (by decide) (by decide)
   obtain rfl : W_ = W.drew := hZ_
   clear hg_ ho_
   refine wpOp_step rfl (fun K' hK => ?_)
   go_simp
   simp [mkN_get, g8_]
   refine hK _ _ ?_
   show K_ ((mkN 11 [] s_).put (some 9) (.slice (some ⟨W.drew.heap.size, 0, none⟩) 1 1)) (W.drew.alloc (.cells #[.string k] 9))
   rw [mkN_put _ _ _ (by decide)]
   exact hK_ _ _ ⟨updN_self _ _ _, rfl⟩
  ·have g6_ : s_ 6 = v := hg_ 0 (by decide) (by decide)
   obtain ⟨g9_, rfl⟩ := (show s_ 9 = .slice (some ⟨W.drew.heap.size, 0, none⟩) 1 1 ∧ W_ = W.drew.alloc (.cells #[.string k] 9) from hZ_)
   clear hg_ ho_
   refine wpOp_step rfl (fun K' hK => ?_)
   refine Kd.R_append_step Kd.string (w0 := W.drew) bs rfl (.tmp 6) (.tmp 9) 38 9 (.string ⟨#[]⟩) 16 rfl Tryz.underlying38 infoS_ rfl (by decide) (by omega) v l k [.string k] (fun _ => True) (fun _ => False) ?aV ?aX ?aP (fun _ hk => hk.elim) ?aF ?aO ?aB ?aS ?aL ?_
   case aV => exact (mkN_eval s_ 6 (by decide)).trans g6_
   case aX => exact (mkN_eval s_ 9 (by decide)).trans g9_
   case aP => exact rfl
   case aF => exact fun _ _ => trivial
   case aO => exact Kd.R_drew HR.out
   case aB => exact Below.refl _ _
   case aS => exact hbase
   case aL => exact HLT.out
   intro v2 w4 hR4 hB4 hG4 hat4
   refine hK _ _ ?_
   show K_ ((mkN 11 [] s_).put (some 10) v2) w4
   rw [mkN_put _ _ _ (by decide)]
   refine hK_ _ _ ?_
   show PB_ (updN s_ 10 v2 10) w4
   rw [updN_self]
   exact ⟨hR4, hG4, hat4, (hB4.block b hlt).trans HC.out, hB4⟩
 ·intro s_ W_ hZ_ hv_ ho_
  obtain ⟨p1, p2, p3, p4, p5⟩ := (show PB_ (s_ 10) W_ from hZ_)
  have c4 := cell_of_one p4
  have f4 := free_of_one p4
  have g2_ : s_ 2 = PT b := ho_ 2 (by decide)
  obtain ⟨A1, n1, g10_⟩ := Kd.R_slice p1
  rw [List.length_append, List.length_singleton] at g10_
  rw [g10_] at p1 p3
  have HP := Aside0.mk (And.intro p1 (And.intro p2 (And.intro p3 (And.intro p4 p5))))
  clear p1 p2 p3 p4 p5
  refine wpOp_step rfl (fun K' hK => ?_)
  go_simp
  simp [mkN_get, g2_, g10_, run_store1s c4 f4 A1 (l.length + 1) n1]
  show K' (mkN 11 [] s_) (W_.setCell ⟨b, 0, none⟩ (.slice A1 (l.length + 1) n1))
  refine hK _ _ ?_
  rw [mk11_lit]
  clear hv_ ho_ hK hZ_ g2_ c4 f4 cb ca g10_
  go_wp2
  go_ret
  obtain ⟨p1, p2, p3, p4, p5⟩ := HP.out
  generalize (Value.slice A1 (l.length + 1) n1) = v1 at *
  have hne : ∀ g, v1.ownBlock = some g → g ≠ b := fun g hg e => by
   have := ((Kd.R_bound p1).1 g hg).2.1
   omega
  refine ⟨rfl, fun g => g = b ∨ v1.ownBlock = some g, ⟨⟨v1, one_setCell p4, Kd.R_mono (Kd.R_move (Kd.R_bound p1) (fun g hg => Below.heap_setCell _ _ _ _ (fun e => by have e : g = b := e; have := hg.2.1; omega))) (fun _ _ => trivial), fun g => Iff.rfl⟩, ?_, hlt⟩, fun g hg => ?_, ?_⟩
  ·have := p5.size
   simp
   exact Nat.le_trans hbase this
  ·rcases hg with rfl | hg
   ·exact .inl ((HS.out _).2 (.inl rfl))
   ·rcases p3 with h3 | ⟨q, h3, h4⟩
    ·exact .inl ((HS.out _).2 (.inr (by rw [← h3]; exact hg)))
    ·rw [h3] at hg
     exact .inr (by rw [← Option.some.inj hg]; exact h4)
  ·refine ⟨p5.os, p5.tape, p5.output, ?_, fun g hg hn => ?_⟩
   ·have := p5.size
    simpa using this
   ·have h1 : g ≠ b := fun e => hn ((HS.out _).2 (.inl e))
    have h2 : some g ≠ v.ownBlock := fun e => hn ((HS.out _).2 (.inr e.symm))
    exact (Below.heap_setCell _ _ _ _ h1).trans (p2.block g hg h2)
end
/-- a set of texts, as its map reads -/
def txt (s : ByteArray) : Lit := .string s.data.toList
theorem txt_key (s : ByteArray) : WideAt.IsKeyLit (txt s) := trivial
theorem txt_same (s t : ByteArray) : (txt s).sameKey (txt t) = decide (s = t) := by
 rw [Bool.eq_iff_iff, decide_eq_true_eq]
 constructor
 ·intro h
  have h : s.data.toList = t.data.toList := by simpa [txt, Lit.sameKey] using h
  exact WideShapes.bytes_inj h
 ·rintro rfl
  simp [txt, Lit.sameKey]
/-- whether a list has a text -/
def hasT (l : List ByteArray) (s : ByteArray) : Bool := l.any fun t => decide (t = s)
theorem hasT_iff (l : List ByteArray) (s : ByteArray) : hasT l s = true ↔ s ∈ l := by
 simp [hasT]
def textSet (l : List ByteArray) : DataW Unit := Maps.setOf (.agg []) (l.map txt)
theorem textSet_nil : textSet [] = .map [] := rfl
theorem textSet_snoc (l : List ByteArray) (s : ByteArray) : textSet (l ++ [s]) = (textSet l).put (txt s) (.agg []) := by
 unfold textSet
 rw [List.map_append]
 exact Maps.setOf_snoc _ _ _
theorem textSet_has (l : List ByteArray) (s : ByteArray) : Maps.has (textSet l) (txt s) = hasT l s := by
 unfold textSet
 rw [Maps.has_setOf _ _ _ (fun x hx => by obtain ⟨y, _, rfl⟩ := List.mem_map.1 hx; exact txt_key y), List.any_map, Bool.eq_iff_iff, hasT_iff, List.any_eq_true]
 constructor
 ·rintro ⟨x, hx, h⟩
  have h : (txt x).sameKey (txt s) = true := h
  rw [txt_same, decide_eq_true_eq] at h
  subst h
  exact hx
 ·intro h
  refine ⟨s, h, ?_⟩
  show (txt s).sameKey (txt s) = true
  rw [txt_same]
  simp
theorem law9 : Maps.Keyed Tryz.prog 9 := Maps.string_keyed Tryz.underlying9
theorem zero49 (w : World) : (zeroValue 89).run Tryz.prog w = .ok (.agg #[]) w := by kernel_rfl
/-- a map's block is not a row's -/
theorem map_ne_row {α : Type} {d : Kd α} {e : Nat} {P : Program} {K : TypeId} {Rd : Value → Option (DataW Unit × List MemPlace)} {w : World} {b n base : Nat} {D : DataW Unit} {ok : Nat → Prop} {v : Value} {xs : List α} (hm : w.ownsMap P K Rd b n D) (h : d.R e w base ok v xs) : some b ≠ v.ownBlock := by
 intro he
 obtain ⟨es, clock, hb, _⟩ := hm
 obtain ⟨inner, ho⟩ := Kd.R_own h
 obtain ⟨cells, hc⟩ := own_typed ho b he.symm
 rw [hb] at hc
 cases hc
/-- a row stays over a store into a map -/
theorem R_over_map {α : Type} {d : Kd α} {e : Nat} {P : Program} {K : TypeId} {Rd : Value → Option (DataW Unit × List MemPlace)} {w w1 : World} {b n base : Nat} {D : DataW Unit} {v : Value} {xs : List α} (hm : w.ownsMap P K Rd b n D) (h : d.R e w base (fun _ => True) v xs) (hg : w.grownBy w1 (some b)) : d.R e w1 base (fun _ => True) v xs := by
 refine Kd.R_mono (Kd.R_grown (Kd.R_bound h) hg (fun j hj => ?_)) (fun _ _ => trivial)
 obtain ⟨_, _, _, q, _, cells, hc⟩ := hj
 intro he
 injection he with he
 subst he
 obtain ⟨es, clock, hb, _⟩ := hm
 rw [hb] at hc
 cases hc
/-- each text of a list once, where it first stands, behind those that are there already -/
def onceT : List ByteArray → List ByteArray → List ByteArray
 | acc, [] => acc
 | acc, x :: l => if hasT acc x then onceT acc l else onceT (acc ++ [x]) l
theorem onceT_snoc (x : ByteArray) (l : List ByteArray) : ∀ acc, onceT acc (l ++ [x]) = if hasT (onceT acc l) x then onceT acc l else onceT acc l ++ [x] := by
 induction l with
 | nil => intro acc; rfl
 | cons y l ih =>
  intro acc
  show onceT acc (y :: (l ++ [x])) = _
  rw [onceT, onceT]
  by_cases h : hasT acc y = true
  ·rw [if_pos h, if_pos h, ih]
  ·rw [if_neg h, if_neg h, ih]
theorem onceT_len (l : List ByteArray) : ∀ acc, (onceT acc l).length ≤ acc.length + l.length := by
 induction l with
 | nil => intro acc; simp [onceT]
 | cons y l ih =>
  intro acc
  rw [onceT]
  by_cases h : hasT acc y = true
  ·rw [if_pos h]; have := ih acc; simp only [List.length_cons]; omega
  ·rw [if_neg h]; have := ih (acc ++ [y]); simp only [List.length_append, List.length_cons, List.length_nil] at this ⊢; omega
theorem set_behind {α : Type} (acc l : List α) (x : α) (h : acc.length < l.length) : (acc ++ l.drop acc.length).set acc.length x = acc ++ [x] ++ l.drop (acc ++ [x]).length := by
 rw [List.set_append_right _ _ (Nat.le_refl _), Nat.sub_self, List.drop_eq_getElem_cons h, List.set_cons_zero]
 simp
/-- each text once, where it first stands -/
def util_RemoveDuplicateElement.f (l0 : List ByteArray) : Option (List ByteArray) :=
 if l0.length < 8796093022208 ∧ (∀ s ∈ l0, s.size ≤ maxLen) then some (onceT [] l0) else none
set_option maxHeartbeats 4000000 in
set_option maxRecDepth 100000 in
theorem util_RemoveDuplicateElement.calls (A0 : Option Addr) (c0 : Nat) (l0 : List ByteArray) (r : List ByteArray) (w : World) (hr0 : Kd.C Kd.string w A0 l0.length l0) (hc0 : l0.length ≤ c0) (h : util_RemoveDuplicateElement.f l0 = some r) :
  Calls Tryz.prog 125 #[.slice A0 l0.length c0] w fun e w' => ∃ v0_ : Value, e = .returned (v0_) ∧ Kd.R Kd.string 9 w' w.heap.size (fun _ => True) v0_ r ∧ Below w.heap.size w w' := by
 unfold util_RemoveDuplicateElement.f at h
 have hg : l0.length < 8796093022208 ∧ (∀ s ∈ l0, s.size ≤ maxLen) := by
  by_cases hg : l0.length < 8796093022208 ∧ (∀ s ∈ l0, s.size ≤ maxLen)
  ·exact hg
  ·rw [if_neg hg] at h; cases h
 rw [if_pos hg] at h
 obtain ⟨hl0, hs0⟩ := hg
 obtain rfl := Option.some.inj h
 clear h hc0
 have HS0 := Aside0.mk hs0
 have HR0 := Aside0.mk hr0
 clear hs0 hr0
 have hmm := @run_makeMap Tryz.prog
 obtain ⟨i0, hi, hz0, hz1, hz2⟩ := info_parts info9
 replace hi := Aside0.mk hi
 replace hz0 := Aside0.mk hz0
 replace hz1 := Aside0.mk hz1
 replace hz2 := Aside0.mk hz2
 go_enter Tryz.func125, Tryz.ntmps125
 go_wp2_with (first | (refine wpList_make_own _ rfl (.const (.int .i64 0)) (.tmp 10) 38 rfl w.heap.size 9 i0 (.string ⟨#[]⟩) 1 Tryz.underlying38 hi.out hz0.out hz1.out .i64 .i64 _ l0.length rfl rfl rfl ?b2 ?b3 ?b4 ?_; (case b2 => rw [hz2.out]; omega); (case b3 => unfold maxLen; omega); (case b4 => exact Nat.le_refl _); intro w1 ho hg; have HO1 := Aside0.mk ho; have HG1 := Aside0.mk hg; clear ho hg))
 clear hmm
 have hs1 : w.heap.size ≤ w1.heap.size := HG1.out.size
 have HB1 := Aside0.mk ((Below.refl w.heap.size w).grown HG1.out (Nat.le_refl _) (fun j hj => by cases hj))
 go_loopw [3, 15] (fun v3 v wr => ∃ k : Nat, k ≤ l0.length ∧ v = .int .i64 k ∧ Aside0 (wr.ownsMap Tryz.prog 9 unitElem w1.heap.size k (textSet (onceT [] (l0.take k)))) ∧ Aside0 (Kd.R Kd.string 9 wr w.heap.size (fun _ => True) v3 (onceT [] (l0.take k))) ∧ Aside0 (Below w.heap.size w wr) ∧ w1.heap.size < wr.heap.size)
  (fun _ v _ => l0.length - (intOf v).toNat)
 case atStart => exact ⟨0, Nat.zero_le _, rfl, ⟨by rw [List.take_zero]; exact World.ownsMap_made _ _ _ _⟩, ⟨by rw [List.take_zero]; exact Kd.R_alloc ⟨fun _ _ => trivial, [], HO1.out, Reps.none _ _⟩ _⟩, ⟨below_alloc HB1.out _⟩, by rw [World.size_alloc]; omega⟩
 case round =>
  clear HO1 HB1
  obtain ⟨k, hk, rfl, HM, HO, HB, hsz⟩ := hrel
  by_cases hlt : k < l0.length
  ·obtain ⟨ad, e1, hx⟩ := Kd.at_string HR0.out (k : Int) (by omega) (by omega)
   cases e1
   replace hx := (HB.out.cell (World.block_lt_of_cell? w _ hx)).trans hx
   rw [show ((k : Int)).toNat = k from by omega, show rdOf ByteArray.empty l0 (k : Int) = l0[k] from by simp [rdOf, List.getD, hlt]] at hx
   have hkey := Aside0.mk (WideMaps.keyOf_string_mk (k := 9) Tryz.underlying9 (HS0.out l0[k] (by simp)))
   have hTK := Aside0.mk (List.take_succ_eq_append_getElem hlt)
   have hol : (onceT [] (l0.take k)).length ≤ k := by have := onceT_len (l0.take k) []; have h2 := List.length_take_le k l0; have h3 : ([] : List ByteArray).length = 0 := rfl; omega
   have hsn := Aside0.mk (onceT_snoc l0[k] (l0.take k) [])
   obtain ⟨ys, hys⟩ : ∃ y_ : List ByteArray, y_ = onceT [] (l0.take k) := ⟨_, rfl⟩
   rw [← hys] at HM HO hol hsn
   clear hys
   cases hin : hasT ys l0[k] with
   | true =>
    have HH := Aside0.mk ((textSet_has ys l0[k]).trans hin)
    replace hin := Aside0.mk hin
    go_wp2_with (first
     | (at_lookup; refine wpList_lookup_own_unit _ rfl _ _ 175 rfl 9 89 law9 Tryz.underlying175 (zero49 _) w1.heap.size _ _ rfl HM.out _ _ rfl hkey.out ?_; rw [show Maps.has (textSet ys) (Lit.string l0[k].data.toList) = true from HH.out]))
    go_roundw
    case rel =>
     refine ⟨k + 1, by omega, by go_num, ⟨?_⟩, ⟨?_⟩, ⟨below_alloc HB.out _⟩, by simp; omega⟩
     ·rw [hTK.out, hsn.out, if_pos hin.out]
      exact (HM.out.alloc _).mono (Nat.le_succ _)
     ·rw [hTK.out, hsn.out, if_pos hin.out]
      exact Kd.R_alloc HO.out _
    case measure => simp [intOf]; omega
   | false =>
    have HH := Aside0.mk ((textSet_has ys l0[k]).trans hin)
    replace hin := Aside0.mk hin
    go_wp2_with (first
     | (at_lookup; refine wpList_lookup_own_unit _ rfl _ _ 175 rfl 9 89 law9 Tryz.underlying175 (zero49 _) w1.heap.size _ _ rfl HM.out _ _ rfl hkey.out ?_; rw [show Maps.has (textSet ys) (Lit.string l0[k].data.toList) = false from HH.out])
     | (at_mapUpdate; refine wpList_mapUpdate_own _ rfl _ _ _ 175 rfl 9 89 law9 Tryz.underlying175 (unitElem (H := Unit)) w1.heap.size k _ rfl (HM.out.alloc _) (by unfold maxLen; omega) _ _ _ rfl rfl hkey.out _ [] unitElem_mk ?_; intro w2 hown1 hgrow1; have HM2 := Aside0.mk hown1; have HG2 := Aside0.mk hgrow1; have HO2 := Aside0.mk (R_over_map (HM.out.alloc (.cells #[] 89)) (Kd.R_alloc HO.out (.cells #[] 89)) hgrow1); have HB2 := Aside0.mk ((below_alloc HB.out (.cells #[] 89)).grown hgrow1 (by simp; omega) (fun j hj => by cases hj; exact hs1)); clear hown1 hgrow1)
     | ((with_reducible refine gate_builtin (b := .append) (xs := #[.tmp 30, .tmp 32]) rfl ?_); at_builtin; refine Kd.R_append Kd.string (w0 := w) w.heap.size rfl (.tmp 30) (.tmp 32) 38 9 (.string ⟨#[]⟩) 16 rfl Tryz.underlying38 info9 rfl (by decide) (by omega) u3 ys l0[k] [.string l0[k]] (fun _ => True) (fun _ => False) rfl ?aX ?aP (fun _ hk => hk.elim) ?aF ?aO ?aB ?aS ?aL ?_; (case aX => rfl); (case aP => exact rfl); (case aB => exact HB2.out); (case aF => exact (fun _ _ => trivial)); (case aO => exact HO2.out); (case aS => exact below_size HB2.out); (case aL => omega); intro v140 w8 ho hb hg hat; have n0_ := Aside0.mk hb; have n1_ := Aside0.mk ho; have n2_ := Aside0.mk hg; clear ho hb hg hat))
    go_roundw
    case rel =>
     have := HG2.out.size
     have := n2_.out.size
     refine ⟨k + 1, by omega, by go_num, ⟨?_⟩, ⟨?_⟩, n0_, by simp at *; omega⟩
     ·rw [hTK.out, hsn.out, if_neg (by rw [hin.out]; simp), textSet_snoc]
      exact HM2.out.kept n2_.out (map_ne_row HM2.out HO2.out)
     ·rw [hTK.out, hsn.out, if_neg (by rw [hin.out]; simp)]
      exact n1_.out
    case measure => simp [intOf]; omega
  ·obtain rfl : k = l0.length := by omega
   rw [List.take_length] at HO
   go_wp2
   go_ret
   exact ⟨_, rfl, HO.out, HB.out⟩
/-! What a role's roles, or users, are: told as rows of texts. -/
section
open Go.Proofs
theorem onceT_nodup : ∀ (l acc : List ByteArray), (acc ++ l).Nodup → onceT acc l = acc ++ l
 | [], acc, _ => by simp [onceT]
 | x :: l, acc, h => by
  have hx : hasT acc x = false := by
   rw [Bool.eq_false_iff]
   intro e
   exact (List.nodup_append.1 h).2.2 x ((hasT_iff acc x).1 e) x (List.mem_cons_self ..) rfl
  unfold onceT
  rw [hx, if_neg (by simp), onceT_nodup l (acc ++ [x]) (by simpa using h)]
  simp
theorem NamesAt.frame {n0 bs b : Nat} {l : List ByteArray} {S : Nat → Prop} {W W' : World} (h : NamesAt bs b l S W) (hb : b < n0) (hk : ∀ k, k < W.heap.size → (k < n0 ∨ S k) → W'.heap[k]? = W.heap[k]?) (hs : W.heap.size ≤ W'.heap.size) : NamesAt bs b l S W' := by
 obtain ⟨⟨v, hc, hR, hS⟩, hbs, hlt⟩ := h
 refine ⟨⟨v, (hk b (Nat.lt_of_lt_of_le hlt hbs) (.inl hb)).trans hc, Kd.R_mono (Kd.R_move (ok := fun k => v.ownBlock = some k ∧ k < W.heap.size) ⟨fun k hk2 => ⟨hk2, ((Kd.R_bound hR).1 k hk2).2.2.1⟩, ?_⟩ (fun k hk2 => hk k hk2.2 (.inr ((hS k).2 (.inr hk2.1))))) (fun _ _ => trivial), hS⟩, Nat.le_trans hbs hs, hlt⟩
 exact hR.2
theorem NamesAt.slt {bs b : Nat} {l : List ByteArray} {S : Nat → Prop} {W : World} (h : NamesAt bs b l S W) : ∀ k, S k → k < W.heap.size := by
 obtain ⟨⟨v, hc, hR, hS⟩, hbs, hlt⟩ := h
 intro k hk
 rcases (hS k).1 hk with rfl | hk
 ·exact Nat.lt_of_lt_of_le hlt hbs
 ·exact ((Kd.R_bound hR).1 k hk).2.2.1
set_option maxHeartbeats 8000000 in
set_option maxRecDepth 100000 in
theorem role_roles {F : Fp} {w : World} {p s c : Nat} {max : Int} {mc : List Value} {m : Option Nat} {L : List RoleB} {E : Edges} {x : RoleB} (hM : Mem w F) (hR : RMF F p s c max mc m L) (hG : Graph L E) (hx : x ∈ L) (hlen : x.R.length ≤ 1000000) (hsz : ∀ q ∈ x.R, q.1.size ≤ maxLen) :
  Calls Tryz.prog 111 #[PT x.a] w fun e w' => ∃ v l, e = .returned v ∧ l.Perm (x.R.map (·.1)) ∧ Kd.R Kd.string 9 w' w.heap.size (fun _ => True) v l ∧ Below w.heap.size w w' := by
 have hmf : ∀ (fn : Fn) (first cap : Array Value) (w : World), (Instr.makeFunc fn first cap).run Tryz.prog w = .ok (.func fn first cap) w := fun _ _ _ _ => rfl
 have hF0 : F w.heap.size = none := by
  cases hf : F w.heap.size with
  | none => rfl
  | some z => exact absurd (hM _ z.1 z.2 hf).lt (Nat.lt_irrefl _)
 obtain ⟨W1, hW1⟩ : ∃ W1, W1 = w.alloc (.cells #[.slice none 0 0] 38) := ⟨_, rfl⟩
 have hb1 : Below w.heap.size w W1 := by rw [hW1]; exact (Below.refl _ _).alloc (Nat.le_refl _) _
 have hs1 : W1.heap.size = w.heap.size + 1 := by rw [hW1]; simp
 have hv1 : W1.heap[w.heap.size]? = some (.cells #[.slice none 0 0] 38 (0, 0)) := by rw [hW1]; exact heap_alloc_new _ _
 have h0 : NamesAt W1.heap.size w.heap.size (([] : Ents).map (·.1)) (fun k => k = w.heap.size) W1 := ⟨⟨_, hv1, Kd.R_nil _ _ _ _ _, fun k => by simp [Value.ownBlock]⟩, Nat.le_refl _, by omega⟩
 have hel : (ents x.R).length = x.R.length := by unfold ents; rw [List.length_map]
 have hst : RStep W1 (ents x.R) 124 #[PT w.heap.size] (fun done S W => NamesAt W1.heap.size w.heap.size (done.map (·.1)) S W ∧ done.length ≤ 1000000) := by
  refine ⟨fun done rest S W k v hp hq => ?_, fun done S W W' hq hk hsz2 _ => ⟨hq.1.frame (by omega) hk hsz2, hq.2⟩, fun done S W hq => hq.1.slt⟩
  have hl := hp.length_eq
  rw [hel, List.length_append, List.length_cons] at hl
  refine (names_step_roles hq.1 (by rw [List.length_map]; exact hq.2) k v).mono ?_
  rintro e w' ⟨rfl, S', h1, h2, h3⟩
  exact ⟨rfl, S', ⟨by rw [List.map_append]; exact h1, by rw [List.length_append, List.length_singleton]; omega⟩, h2, h3⟩
 have hrg := range_roles (hM.below hb1) hR hG hx hlen (n := 124) (caps := #[PT w.heap.size]) (fun args w => by kernel_rfl) hst ⟨h0, Nat.zero_le _⟩ (fun k hk => by rw [hk, hs1]; omega) (fun k hk => by rw [hk]; exact hF0)
 have HRG := Aside0.mk hrg
 have HB1 := Aside0.mk hb1
 have HND := Aside0.mk (hG.nr x hx)
 have HSZ := Aside0.mk hsz
 have HLN := Aside0.mk hlen
 clear hM hR hG hx hst hrg h0 hb1 hv1 hs1 hsz hlen hel hF0
 rw [hW1] at HRG HB1
 clear hW1 W1
 go_enter Tryz.func111, Tryz.ntmps111
 go_upto_region 2 with (fail)
 generalize w.alloc (.cells #[.slice none 0 0] 38) = W1 at *
 go_upto_region 3 with (go_at_call 120; refine HRG.out.mono ?_; rintro e w2 ⟨rfl, D, S', hp, ⟨⟨⟨v, hc, hR, hS⟩, hbs, hlt⟩, hl⟩, hn, ht⟩; have c2 := cell_of_one hc; obtain ⟨A1, n1, hv⟩ := Kd.R_slice hR; subst hv; have HP := Aside0.mk hp; have HR := Aside0.mk hR; have HT := Aside0.mk ht; clear hp hc hR hS hbs hlt hl hn ht)
 have hpe : (D.map (·.1)).Perm (x.R.map (·.1)) := (HP.out.map (·.1)).trans (by unfold ents; rw [List.map_map]; exact List.Perm.refl _)
 obtain ⟨ln, hln⟩ : ∃ ln, ln = D.map (·.1) := ⟨_, rfl⟩
 rw [← hln] at HR hpe c2
 clear HRG HP hln
 have hnd := hpe.nodup_iff.2 HND.out
 have HRD := Aside0.mk (util_RemoveDuplicateElement.calls A1 n1 ln ln w2 (Kd.R_reads' HR.out).2.2 (Kd.R_reads' HR.out).2.1 (by
  unfold util_RemoveDuplicateElement.f
  rw [if_pos ⟨by
   have h1 := hpe.length_eq
   have h2 := HLN.out
   rw [List.length_map] at h1
   omega, fun s hs => by
   obtain ⟨q, hq, rfl⟩ := List.mem_map.1 (hpe.mem_iff.1 hs)
   exact HSZ.out q hq⟩, onceT_nodup _ [] (by simpa using hnd)]
  rfl))
 have HPE := Aside0.mk hpe
 clear hpe hnd HR
 go_wp2_with (go_at_call 125; refine HRD.out.mono ?_; rintro e w3 ⟨v0, rfl, hr3, hb3⟩; have HR3 := Aside0.mk hr3; have HB3 := Aside0.mk hb3; clear hr3 hb3)
 go_ret
 have hbw := HT.out.toBelow HB1.out HB1.out.size (fun k hk => by rw [hk]; exact Nat.le_refl _)
 exact ⟨_, _, rfl, HPE.out, Kd.R_lower HR3.out hbw.size, hbw.trans (HB3.out.mono hbw.size)⟩
set_option maxHeartbeats 8000000 in
set_option maxRecDepth 100000 in
theorem role_users {F : Fp} {w : World} {p s c : Nat} {max : Int} {mc : List Value} {m : Option Nat} {L : List RoleB} {E : Edges} {x : RoleB} (hM : Mem w F) (hR : RMF F p s c max mc m L) (hG : Graph L E) (hx : x ∈ L) (hlen : x.U.length ≤ 1000000) (hsz : ∀ q ∈ x.U, q.1.size ≤ maxLen) :
  Calls Tryz.prog 112 #[PT x.a] w fun e w' => ∃ v l, e = .returned v ∧ l.Perm (x.U.map (·.1)) ∧ Kd.R Kd.string 9 w' w.heap.size (fun _ => True) v l ∧ Below w.heap.size w w' := by
 have hmf : ∀ (fn : Fn) (first cap : Array Value) (w : World), (Instr.makeFunc fn first cap).run Tryz.prog w = .ok (.func fn first cap) w := fun _ _ _ _ => rfl
 have hF0 : F w.heap.size = none := by
  cases hf : F w.heap.size with
  | none => rfl
  | some z => exact absurd (hM _ z.1 z.2 hf).lt (Nat.lt_irrefl _)
 obtain ⟨W1, hW1⟩ : ∃ W1, W1 = w.alloc (.cells #[.slice none 0 0] 38) := ⟨_, rfl⟩
 have hb1 : Below w.heap.size w W1 := by rw [hW1]; exact (Below.refl _ _).alloc (Nat.le_refl _) _
 have hs1 : W1.heap.size = w.heap.size + 1 := by rw [hW1]; simp
 have hv1 : W1.heap[w.heap.size]? = some (.cells #[.slice none 0 0] 38 (0, 0)) := by rw [hW1]; exact heap_alloc_new _ _
 have h0 : NamesAt W1.heap.size w.heap.size (([] : Ents).map (·.1)) (fun k => k = w.heap.size) W1 := ⟨⟨_, hv1, Kd.R_nil _ _ _ _ _, fun k => by simp [Value.ownBlock]⟩, Nat.le_refl _, by omega⟩
 have hel : (ents x.U).length = x.U.length := by unfold ents; rw [List.length_map]
 have hst : RStep W1 (ents x.U) 126 #[PT w.heap.size] (fun done S W => NamesAt W1.heap.size w.heap.size (done.map (·.1)) S W ∧ done.length ≤ 1000000) := by
  refine ⟨fun done rest S W k v hp hq => ?_, fun done S W W' hq hk hsz2 _ => ⟨hq.1.frame (by omega) hk hsz2, hq.2⟩, fun done S W hq => hq.1.slt⟩
  have hl := hp.length_eq
  rw [hel, List.length_append, List.length_cons] at hl
  refine (names_step_users hq.1 (by rw [List.length_map]; exact hq.2) k v).mono ?_
  rintro e w' ⟨rfl, S', h1, h2, h3⟩
  exact ⟨rfl, S', ⟨by rw [List.map_append]; exact h1, by rw [List.length_append, List.length_singleton]; omega⟩, h2, h3⟩
 have hrg := range_users (hM.below hb1) hR hG hx hlen (n := 126) (caps := #[PT w.heap.size]) (fun args w => by kernel_rfl) hst ⟨h0, Nat.zero_le _⟩ (fun k hk => by rw [hk, hs1]; omega) (fun k hk => by rw [hk]; exact hF0)
 have HRG := Aside0.mk hrg
 have HB1 := Aside0.mk hb1
 have HND := Aside0.mk (hG.nu x hx)
 have HSZ := Aside0.mk hsz
 have HLN := Aside0.mk hlen
 clear hM hR hG hx hst hrg h0 hb1 hv1 hs1 hsz hlen hel hF0
 rw [hW1] at HRG HB1
 clear hW1 W1
 go_enter Tryz.func112, Tryz.ntmps112
 go_upto_region 2 with (fail)
 generalize w.alloc (.cells #[.slice none 0 0] 38) = W1 at *
 go_upto_region 3 with (go_at_call 122; refine HRG.out.mono ?_; rintro e w2 ⟨rfl, D, S', hp, ⟨⟨⟨v, hc, hR, hS⟩, hbs, hlt⟩, hl⟩, hn, ht⟩; have c2 := cell_of_one hc; obtain ⟨A1, n1, hv⟩ := Kd.R_slice hR; subst hv; have HP := Aside0.mk hp; have HR := Aside0.mk hR; have HT := Aside0.mk ht; clear hp hc hR hS hbs hlt hl hn ht)
 have hpe : (D.map (·.1)).Perm (x.U.map (·.1)) := (HP.out.map (·.1)).trans (by unfold ents; rw [List.map_map]; exact List.Perm.refl _)
 obtain ⟨ln, hln⟩ : ∃ ln, ln = D.map (·.1) := ⟨_, rfl⟩
 rw [← hln] at HR hpe c2
 have HPE := Aside0.mk hpe
 have hbw := HT.out.toBelow HB1.out HB1.out.size (fun k hk => by rw [hk]; exact Nat.le_refl _)
 have HBW := Aside0.mk hbw
 have HR3 := Aside0.mk (Kd.R_lower HR.out HB1.out.size)
 clear hpe hbw HRG HP HR hln
 go_wp2
 go_ret
 exact ⟨_, _, rfl, HPE.out, HR3.out, HBW.out⟩
end
/-! A role that was made for a question alone goes again (a deferred call). -/
section
open Go.Proofs
set_option maxHeartbeats 4000000 in
set_option maxRecDepth 100000 in
theorem remove_matches {F : Fp} {w : World} {x : RoleB} (hM : Mem w F) (hx : RoleF F x) :
  Calls Tryz.prog 119 #[PT x.a] w fun e w' => e = .returned (.tuple #[]) ∧ Below w.heap.size w w' := by
 have hmf : ∀ (fn : Fn) (first cap : Array Value) (w : World), (Instr.makeFunc fn first cap).run Tryz.prog w = .ok (.func fn first cap) w := fun _ _ _ _ => rfl
 have hxl := (hM _ _ _ hx.a).lt
 obtain ⟨W1, hW1⟩ : ∃ W1, W1 = w.alloc (.cells #[PT x.a] 121) := ⟨_, rfl⟩
 have hb1 : Below w.heap.size w W1 := by rw [hW1]; exact (Below.refl _ _).alloc (Nat.le_refl _) _
 have hv1 : W1.heap[w.heap.size]? = some (.cells #[PT x.a] 121 (0, 0)) := by rw [hW1]; exact heap_alloc_new _ _
 have H := Aside0.mk (fun (w2 : World) (hb : Below W1.heap.size W1 w2) => show w2.cell? ⟨w.heap.size, 0, none⟩ = some (PT x.a) ∧ w2.cell? ⟨x.a, 3, none⟩ = some (PT x.sm) ∧ w2.cell? ⟨x.a, 4, none⟩ = some (PT x.sb) ∧ (∀ fv, Calls Tryz.prog 42 #[PT x.sm, fv] w2 fun e w' => e = .returned (.tuple #[]) ∧ Below w2.heap.size w2 w') ∧ (∀ fv, Calls Tryz.prog 42 #[PT x.sb, fv] w2 fun e w' => e = .returned (.tuple #[]) ∧ Below w2.heap.size w2 w') from by
  have hM2 : Mem w2 F := (hM.below hb1).below hb
  exact ⟨cell_of_one ((hb.block _ (Array.getElem?_eq_some_iff.1 hv1).1).trans hv1), load_cell hM2 hx.a rfl, load_cell hM2 hx.a rfl, fun fv => sy_range_nil (hM2 _ _ _ hx.sm) fv, fun fv => sy_range_nil (hM2 _ _ _ hx.sb) fv⟩)
 have HB1 := Aside0.mk hb1
 clear hM hx hb1 hv1
 rw [hW1] at H HB1
 clear hW1 W1
 go_enter Tryz.func119, Tryz.ntmps119
 go_upto_region 1 with (fail)
 generalize w.alloc (.cells #[PT x.a] 121) = W1 at *
 obtain ⟨c0, c3, _, hr3, _⟩ := H.out W1 (Below.refl _ _)
 have HR3 := Aside0.mk hr3
 clear hr3
 go_upto_region 2 with (go_at_call 42; refine (HR3.out _).mono ?_; rintro e w2 ⟨rfl, hb2⟩)
 obtain ⟨d0, _, d4, _, hr4⟩ := H.out w2 hb2
 have HR4 := Aside0.mk hr4
 have HB2 := Aside0.mk (HB1.out.trans (hb2.mono HB1.out.size))
 clear hr4 c0 c3 hb2 HR3 H
 go_wp2_with (go_at_call 42; refine (HR4.out _).mono ?_; rintro e w3 ⟨rfl, hb3⟩; have HB3 := Aside0.mk hb3; clear hb3)
 go_end0
 exact ⟨rfl, HB2.out.trans (HB3.out.mono HB2.out.size)⟩
theorem look_last {n : ByteArray} {x : RoleB} (hx : x.name = n) : ∀ {L : List RoleB} (i : Nat), n ∉ L.map (·.name) → ∃ j, lookS n (ents0 (L ++ [x])) i = some (j, PV x.a)
 | [], i, _ => by
  show ∃ j, (if n = x.name then _ else _) = _
  rw [if_pos hx.symm]; exact ⟨_, rfl⟩
 | y :: L, i, h => by
  rw [List.map_cons, List.mem_cons, not_or] at h
  show ∃ j, (if n = y.name then _ else _) = _
  rw [if_neg h.1]
  exact look_last hx (i + 1) h.2
set_option maxHeartbeats 4000000 in
set_option maxRecDepth 100000 in
theorem load_delete {F : Fp} {w : World} {s : Nat} {m : Option Nat} {L : List RoleB} {x : RoleB} (hM : Mem w F) (h : SyF F s .all m .am (ents0 (L ++ [x]))) (hn : x.name ∉ L.map (·.name)) :
  Calls Tryz.prog 118 #[PT s, .string x.name] w fun e w' => e = .returned (.tuple #[PV x.a, .bool true]) ∧ Put F w s .all .am (ents0 L) w' := by
 have hl := sy_load hM h x.name
 obtain ⟨j, hj⟩ := look_last (n := x.name) rfl 0 hn
 rw [hj] at hl
 have hd := sy_delete hM h (by simp) x.name
 rw [del_last rfl hn] at hd
 have HL := Aside0.mk hl
 have HD := Aside0.mk hd
 clear hl hd hj hM h hn
 go_enter Tryz.func118, Tryz.ntmps118
 go_wp2_with (first
  | (go_at_call 78; refine HL.out.mono ?_; rintro x w2 ⟨rfl, rfl⟩)
  | (go_at_call 116; refine HD.out.mono ?_; rintro x w3 ⟨rfl, hp⟩; have HP := Aside0.mk hp; clear hp))
 go_ret2
 exact ⟨rfl, HP.out⟩
/-- a manager whose last role was made for a question alone is one without it -/
def Shrunk (F : Fp) (w : World) (p s c : Nat) (max : Int) (mc : List Value) (L : List RoleB) (w' : World) : Prop :=
 ∃ F' m', Mem w' F' ∧ RMF F' p s c max mc m' L ∧ Next w.heap.size F F' ∧ TurnF F w w'
set_option maxHeartbeats 4000000 in
set_option maxRecDepth 100000 in
theorem remove_role_d {F : Fp} {w : World} {p s c : Nat} {max : Int} {mc : List Value} {m : Option Nat} {L : List RoleB} {x : RoleB} (u : FrameMode) (hM : Mem w F) (hR : RMF F p s c max mc m (L ++ [x])) :
  CallsD Tryz.prog 108 #[PT p, .string x.name] u w fun e u' w' => u' = u ∧ (e = .returned (.tuple #[]) ∧ Shrunk F w p s c max mc L w') := by
 have c0 : w.cell? ⟨p, 0, none⟩ = some (PT s) := load_cell hM hR.p rfl
 have hta := as_role (PT x.a)
 have HLD := Aside0.mk (load_delete hM hR.sy hR.fresh_last)
 have HRM := Aside0.mk (fun (w2 : World) (hp : Put F w s .all .am (ents0 L) w2) => show Calls Tryz.prog 119 #[PT x.a] w2 fun e w' => e = .returned (.tuple #[]) ∧ Shrunk F w p s c max mc L w' from by
  obtain ⟨m', F', h1, h2, h3, h4, h5⟩ := hp
  refine (remove_matches h1 ((hR.roles x (by simp)).stay h3 (fun t ht => by rcases ht with rfl | rfl <;> simp [Tag.of]))).mono ?_
  rintro e w' ⟨rfl, hb⟩
  exact ⟨rfl, F', m', h1.below hb, hR.shrink h3 h2, h4, h5.trans h4 (Turn.ofBelow _ hb)⟩)
 clear hM hR
 go_enter_d Tryz.func108, Tryz.ntmps108
 go_wp2_with (first
  | (go_at_call 118; refine HLD.out.mono ?_; rintro e w2 ⟨rfl, hp⟩; have HP := Aside0.mk hp; clear hp)
  | (go_at_call 119; refine (HRM.out w2 HP.out).mono ?_; rintro e w3 ⟨rfl, hq⟩; have HQ := Aside0.mk hq; clear hq))
 go_end0
 exact ⟨rfl, HQ.out⟩
end
/-! GetRoles, GetUsers of a role manager. -/
section
open Go.Proofs
/-- links of which something is said -/
structure EOk (E : Edges) : Prop where
 nd : E.Nodup
 few : E.length ≤ 1000000
 sz : ∀ e ∈ E, e.1.size ≤ maxLen ∧ e.2.size ≤ maxLen
theorem rolesE_mem (E : Edges) (a b : ByteArray) : b ∈ rolesE E a ↔ (a, b) ∈ E := by
 unfold rolesE
 rw [List.mem_map]
 constructor
 ·rintro ⟨e, he, rfl⟩
  rw [List.mem_filter, decide_eq_true_iff] at he
  rw [← he.2]; exact he.1
 ·intro h
  exact ⟨(a, b), List.mem_filter.2 ⟨h, decide_eq_true rfl⟩, rfl⟩
theorem usersE_mem (E : Edges) (a b : ByteArray) : b ∈ usersE E a ↔ (b, a) ∈ E := by
 unfold usersE
 rw [List.mem_map]
 constructor
 ·rintro ⟨e, he, rfl⟩
  rw [List.mem_filter, decide_eq_true_iff] at he
  rw [← he.2]; exact he.1
 ·intro h
  exact ⟨(b, a), List.mem_filter.2 ⟨h, decide_eq_true rfl⟩, rfl⟩
theorem rolesE_nodup {E : Edges} (h : E.Nodup) (a : ByteArray) : (rolesE E a).Nodup := by
 unfold rolesE
 refine List.pairwise_map.2 (List.Pairwise.imp_of_mem (fun {x y} hx hy hne e => hne ?_) (h.filter _))
 rw [List.mem_filter, decide_eq_true_iff] at hx hy
 exact Prod.ext (hx.2.trans hy.2.symm) e
theorem usersE_nodup {E : Edges} (h : E.Nodup) (a : ByteArray) : (usersE E a).Nodup := by
 unfold usersE
 refine List.pairwise_map.2 (List.Pairwise.imp_of_mem (fun {x y} hx hy hne e => hne ?_) (h.filter _))
 rw [List.mem_filter, decide_eq_true_iff] at hx hy
 exact Prod.ext e (hx.2.trans hy.2.symm)
theorem Graph.pr {L : List RoleB} {E : Edges} (hG : Graph L E) (hE : EOk E) {x : RoleB} (hx : x ∈ L) : (x.R.map (·.1)).Perm (rolesE E x.name) ∧ x.R.length ≤ 1000000 ∧ ∀ q ∈ x.R, q.1.size ≤ maxLen := by
 have hp : (x.R.map (·.1)).Perm (rolesE E x.name) := perm_of_mem (hG.nr x hx) (rolesE_nodup hE.nd _) (fun b => by rw [hG.r x hx, rolesE_mem])
 refine ⟨hp, ?_, fun q hq => (hE.sz _ ((hG.r x hx q.1).1 (List.mem_map_of_mem hq))).2⟩
 have h1 := hp.length_eq
 have h2 := hE.few
 unfold rolesE at h1
 rw [List.length_map, List.length_map] at h1
 have := List.length_filter_le (fun e : ByteArray × ByteArray => decide (e.1 = x.name)) E
 omega
theorem Graph.pu {L : List RoleB} {E : Edges} (hG : Graph L E) (hE : EOk E) {x : RoleB} (hx : x ∈ L) : (x.U.map (·.1)).Perm (usersE E x.name) ∧ x.U.length ≤ 1000000 ∧ ∀ q ∈ x.U, q.1.size ≤ maxLen := by
 have hp : (x.U.map (·.1)).Perm (usersE E x.name) := perm_of_mem (hG.nu x hx) (usersE_nodup hE.nd _) (fun b => by rw [hG.u x hx, usersE_mem])
 refine ⟨hp, ?_, fun q hq => (hE.sz _ ((hG.u x hx q.1).1 (List.mem_map_of_mem hq))).1⟩
 have h1 := hp.length_eq
 have h2 := hE.few
 unfold usersE at h1
 rw [List.length_map, List.length_map] at h1
 have := List.length_filter_le (fun e : ByteArray × ByteArray => decide (e.2 = x.name)) E
 omega
theorem get_role_old {F : Fp} {w : World} {p s c : Nat} {max : Int} {mc : List Value} {m : Option Nat} {L : List RoleB} {E : Edges} (hM : Mem w F) (hR : RMF F p s c max mc m L) (hG : Graph L E) {n : ByteArray} (hin : n ∈ L.map (·.name)) :
  Calls Tryz.prog 58 #[PT p, .string n] w fun e w' => ∃ x F' m', e = .returned (.tuple #[PT x.a, .bool false]) ∧ Mem w' F' ∧ RMF F' p s c max mc m' L ∧ x ∈ L ∧ x.name = n ∧ Next w.heap.size F F' ∧ TurnF F w w' := by
 refine (get_role hM hR hG n).mono ?_
 rintro e w' ⟨x, F1, m1, L1, rfl, hM1, hR1, hG1, hx1, hxn, hn1, ht1, hsame, _⟩
 obtain rfl := hsame hin
 rw [decide_eq_true hin]
 exact ⟨x, F1, m1, rfl, hM1, hR1, hx1, hxn, hn1, ht1⟩
theorem get_role_new {F : Fp} {w : World} {p s c : Nat} {max : Int} {mc : List Value} {m : Option Nat} {L : List RoleB} {E : Edges} (hM : Mem w F) (hR : RMF F p s c max mc m L) (hG : Graph L E) {n : ByteArray} (hin : n ∉ L.map (·.name)) :
  Calls Tryz.prog 58 #[PT p, .string n] w fun e w' => ∃ x F' m', e = .returned (.tuple #[PT x.a, .bool true]) ∧ Mem w' F' ∧ RMF F' p s c max mc m' (L ++ [x]) ∧ Graph (L ++ [x]) E ∧ x.name = n ∧ Next w.heap.size F F' ∧ TurnF F w w' := by
 refine (get_role hM hR hG n).mono ?_
 rintro e w' ⟨x, F1, m1, L1, rfl, hM1, hR1, hG1, hx1, hxn, hn1, ht1, _, hmore⟩
 obtain rfl := hmore hin
 rw [decide_eq_false hin]
 exact ⟨x, F1, m1, rfl, hM1, hR1, hG1, hxn, hn1, ht1⟩
set_option maxHeartbeats 8000000 in
set_option maxRecDepth 100000 in
theorem rm_roles {F : Fp} {w : World} {p s c : Nat} {max : Int} {mc : List Value} {m : Option Nat} {L : List RoleB} {E : Edges} (hM : Mem w F) (hR : RMF F p s c max mc m L) (hG : Graph L E) (hE : EOk E) (n : ByteArray) (dv : Value) :
  Calls Tryz.prog 103 #[PT p, .string n, dv] w fun e w' => ∃ v l, e = .returned (.tuple #[v, .nilIface]) ∧ l.Perm (rolesE E n) ∧ Kd.R Kd.string 9 w' w.heap.size (fun _ => True) v l ∧ RMPost F w p s c max mc E w' := by
 by_cases hin : n ∈ L.map (·.name)
 ·have HG1 := Aside0.mk (get_role_old hM hR hG hin)
  have HGG := Aside0.mk hG
  clear hM hR hG hin
  go_enter_defers Tryz.func103, Tryz.ntmps103
  go_upto_region 2 with (go_at_call 58; refine HG1.out.mono ?_; rintro e w2 ⟨x, F1, m1, rfl, hM1, hR1, hx1, hxn, hn1, ht1⟩)
  obtain ⟨hp, hlen, hsz⟩ := HGG.out.pr hE hx1
  rw [hxn] at hp
  have HRR := Aside0.mk (role_roles hM1 hR1 HGG.out hx1 hlen hsz)
  have HF := Aside0.mk (fun (w3 : World) (hb : Below w2.heap.size w2 w3) => show RMPost F w p s c max mc E w3 from ⟨F1, m1, L, hM1.below hb, hR1, HGG.out, hn1, ht1.trans hn1 (Turn.ofBelow _ hb)⟩)
  have HSZ := Aside0.mk ht1.size
  have HP := Aside0.mk hp
  clear hM1 hR1 hx1 hxn hn1 ht1 hp hlen hsz HG1 HGG
  go_wp2_with (go_at_call 111; refine HRR.out.mono ?_; rintro e w3 ⟨v, l, rfl, h1, h2, h3⟩; have HL := Aside0.mk h1; have HR3 := Aside0.mk h2; have HB3 := Aside0.mk h3; clear h1 h2 h3)
  refine ⟨_, results_tmp2 rfl _ _ _, ?_⟩
  exact ⟨_, l, rfl, HL.out.trans HP.out, Kd.R_lower HR3.out HSZ.out, HF.out _ HB3.out⟩
 ·have HG1 := Aside0.mk (get_role_new hM hR hG hin)
  have HGG := Aside0.mk hG
  have hpl := (hM _ _ _ hR.p).lt
  clear hM hR hG hin
  go_enter_defers Tryz.func103, Tryz.ntmps103
  go_upto_region 2 with (go_at_call 58; refine HG1.out.mono ?_; rintro e w2 ⟨x, F1, m1, rfl, hM1, hR1, hG1, hxn, hn1, ht1⟩)
  have hx1 : x ∈ L ++ [x] := by simp
  obtain ⟨hp, hlen, hsz⟩ := hG1.pr hE hx1
  rw [hxn] at hp
  have HRR := Aside0.mk (role_roles hM1 hR1 hG1 hx1 hlen hsz)
  have c0 : w2.cell? ⟨x.a, 0, none⟩ = some (.string x.name) := load_cell hM1 (hR1.roles x hx1).a rfl
  have HF := Aside0.mk (fun (w3 w4 : World) (hb : Below w2.heap.size w2 w3) (hs : Shrunk F1 w3 p s c max mc L w4) => show RMPost F w p s c max mc E w4 from by
   obtain ⟨F', m', g1, g2, g3, g4⟩ := hs
   have hsz := hb.size
   exact ⟨F', m', L, g1, g2, HGG.out, hn1.trans g3 (Nat.le_trans ht1.size hsz), (ht1.trans hn1 (Turn.ofBelow _ hb)).trans hn1 g4⟩)
  have HD := Aside0.mk (fun (w3 : World) (hb : Below w2.heap.size w2 w3) (u : FrameMode) => remove_role_d u (hM1.below hb) hR1)
  have HAP := Aside0.mk (show ∀ g, F1 g ≠ none → g < w2.heap.size from fun g hg => by
   cases hf : F1 g with
   | none => exact absurd hf hg
   | some z => exact (hM1 g z.1 z.2 hf).lt)
  have HSZ := Aside0.mk ht1.size
  have HP := Aside0.mk hp
  clear hM1 hR1 hG1 hx1 hxn hn1 ht1 hp hlen hsz HG1 HGG
  go_wp2_with (go_at_call 111; refine HRR.out.mono ?_; rintro e w3 ⟨v, l, rfl, h1, h2, h3⟩; have HL := Aside0.mk h1; have HR3 := Aside0.mk h2; have HB3 := Aside0.mk h3; clear h1 h2 h3)
  refine leaves_cons (f := 108) (args := #[PT p, .string x.name]) (by simp) (by simp [go_sem]) ?_
  refine (HD.out w3 HB3.out .returning).mono ?_
  rintro e u' w4 ⟨rfl, rfl, hs⟩
  refine ⟨_, results_tmp2 rfl _ _ _, ?_⟩
  have hF := HF.out w3 w4 HB3.out hs
  obtain ⟨F', m', g1, g2, g3, g4⟩ := hs
  refine ⟨_, l, rfl, HL.out.trans HP.out, Kd.R_lower (Kd.R_mono (Kd.R_move (Kd.R_bound HR3.out) (fun g hg => g4.block g hg.2.2.1 (fun hx => ?_))) (fun _ _ => trivial)) HSZ.out, hF⟩
  have h1 := HAP.out g hx
  have h2 := hg.2.1
  omega
set_option maxHeartbeats 8000000 in
set_option maxRecDepth 100000 in
theorem rm_users {F : Fp} {w : World} {p s c : Nat} {max : Int} {mc : List Value} {m : Option Nat} {L : List RoleB} {E : Edges} (hM : Mem w F) (hR : RMF F p s c max mc m L) (hG : Graph L E) (hE : EOk E) (n : ByteArray) (dv : Value) :
  Calls Tryz.prog 104 #[PT p, .string n, dv] w fun e w' => ∃ v l, e = .returned (.tuple #[v, .nilIface]) ∧ l.Perm (usersE E n) ∧ Kd.R Kd.string 9 w' w.heap.size (fun _ => True) v l ∧ RMPost F w p s c max mc E w' := by
 by_cases hin : n ∈ L.map (·.name)
 ·have HG1 := Aside0.mk (get_role_old hM hR hG hin)
  have HGG := Aside0.mk hG
  clear hM hR hG hin
  go_enter_defers Tryz.func104, Tryz.ntmps104
  go_upto_region 2 with (go_at_call 58; refine HG1.out.mono ?_; rintro e w2 ⟨x, F1, m1, rfl, hM1, hR1, hx1, hxn, hn1, ht1⟩)
  obtain ⟨hp, hlen, hsz⟩ := HGG.out.pu hE hx1
  rw [hxn] at hp
  have HRR := Aside0.mk (role_users hM1 hR1 HGG.out hx1 hlen hsz)
  have HF := Aside0.mk (fun (w3 : World) (hb : Below w2.heap.size w2 w3) => show RMPost F w p s c max mc E w3 from ⟨F1, m1, L, hM1.below hb, hR1, HGG.out, hn1, ht1.trans hn1 (Turn.ofBelow _ hb)⟩)
  have HSZ := Aside0.mk ht1.size
  have HP := Aside0.mk hp
  clear hM1 hR1 hx1 hxn hn1 ht1 hp hlen hsz HG1 HGG
  go_wp2_with (go_at_call 112; refine HRR.out.mono ?_; rintro e w3 ⟨v, l, rfl, h1, h2, h3⟩; have HL := Aside0.mk h1; have HR3 := Aside0.mk h2; have HB3 := Aside0.mk h3; clear h1 h2 h3)
  refine ⟨_, results_tmp2 rfl _ _ _, ?_⟩
  exact ⟨_, l, rfl, HL.out.trans HP.out, Kd.R_lower HR3.out HSZ.out, HF.out _ HB3.out⟩
 ·have HG1 := Aside0.mk (get_role_new hM hR hG hin)
  have HGG := Aside0.mk hG
  have hpl := (hM _ _ _ hR.p).lt
  clear hM hR hG hin
  go_enter_defers Tryz.func104, Tryz.ntmps104
  go_upto_region 2 with (go_at_call 58; refine HG1.out.mono ?_; rintro e w2 ⟨x, F1, m1, rfl, hM1, hR1, hG1, hxn, hn1, ht1⟩)
  have hx1 : x ∈ L ++ [x] := by simp
  obtain ⟨hp, hlen, hsz⟩ := hG1.pu hE hx1
  rw [hxn] at hp
  have HRR := Aside0.mk (role_users hM1 hR1 hG1 hx1 hlen hsz)
  have c0 : w2.cell? ⟨x.a, 0, none⟩ = some (.string x.name) := load_cell hM1 (hR1.roles x hx1).a rfl
  have HF := Aside0.mk (fun (w3 w4 : World) (hb : Below w2.heap.size w2 w3) (hs : Shrunk F1 w3 p s c max mc L w4) => show RMPost F w p s c max mc E w4 from by
   obtain ⟨F', m', g1, g2, g3, g4⟩ := hs
   have hsz := hb.size
   exact ⟨F', m', L, g1, g2, HGG.out, hn1.trans g3 (Nat.le_trans ht1.size hsz), (ht1.trans hn1 (Turn.ofBelow _ hb)).trans hn1 g4⟩)
  have HD := Aside0.mk (fun (w3 : World) (hb : Below w2.heap.size w2 w3) (u : FrameMode) => remove_role_d u (hM1.below hb) hR1)
  have HAP := Aside0.mk (show ∀ g, F1 g ≠ none → g < w2.heap.size from fun g hg => by
   cases hf : F1 g with
   | none => exact absurd hf hg
   | some z => exact (hM1 g z.1 z.2 hf).lt)
  have HSZ := Aside0.mk ht1.size
  have HP := Aside0.mk hp
  clear hM1 hR1 hG1 hx1 hxn hn1 ht1 hp hlen hsz HG1 HGG
  go_wp2_with (go_at_call 112; refine HRR.out.mono ?_; rintro e w3 ⟨v, l, rfl, h1, h2, h3⟩; have HL := Aside0.mk h1; have HR3 := Aside0.mk h2; have HB3 := Aside0.mk h3; clear h1 h2 h3)
  refine leaves_cons (f := 108) (args := #[PT p, .string x.name]) (by simp) (by simp [go_sem]) ?_
  refine (HD.out w3 HB3.out .returning).mono ?_
  rintro e u' w4 ⟨rfl, rfl, hs⟩
  refine ⟨_, results_tmp2 rfl _ _ _, ?_⟩
  have hF := HF.out w3 w4 HB3.out hs
  obtain ⟨F', m', g1, g2, g3, g4⟩ := hs
  refine ⟨_, l, rfl, HL.out.trans HP.out, Kd.R_lower (Kd.R_mono (Kd.R_move (Kd.R_bound HR3.out) (fun g hg => g4.block g hg.2.2.1 (fun hx => ?_))) (fun _ _ => trivial)) HSZ.out, hF⟩
  have h1 := HAP.out g hx
  have h2 := hg.2.1
  omega
end
/-! The implicit roles, or users: level by level. -/
section
open Go.Proofs
theorem uSB : Tryz.prog.underlying 163 = some (.map 9 4) := by kernel_rfl
theorem uSR : Tryz.prog.underlying 164 = some (.map 9 121) := by kernel_rfl
theorem keyS : Keyed Tryz.prog 9 .string := Keyed.str (by kernel_rfl)
theorem zeroB (w : World) : (zeroValue 4).run Tryz.prog w = .ok (.bool false) w := by kernel_rfl
def boolE (l : List ByteArray) : Ents := l.map fun k => (k, .bool true)
def ptrE (l : List (ByteArray × Nat)) : Ents := l.map fun p => (p.1, PT p.2)
theorem boolE_in {l : List ByteArray} {k : ByteArray} (h : k ∈ l) (i : Nat) : ∃ j, lookS k (boolE l) i = some (j, .bool true) := by
 induction l generalizing i with
 | nil => cases h
 | cons x l ih =>
  show ∃ j, (if k = x then _ else _) = _
  by_cases e : k = x
  ·rw [if_pos e]; exact ⟨_, rfl⟩
  ·rw [if_neg e]
   exact ih ((List.mem_cons.1 h).resolve_left e) (i + 1)
theorem boolE_out {l : List ByteArray} {k : ByteArray} (h : k ∉ l) : lookS k (boolE l) 0 = none := by
 rw [lookS_none]
 intro p hp
 obtain ⟨x, hx, rfl⟩ := List.mem_map.1 hp
 exact fun e => h (by rw [← e]; exact hx)
theorem boolE_put {l : List ByteArray} {k : ByteArray} (h : k ∉ l) : putS k (.bool true) (boolE l) = boolE (l ++ [k]) := by
 rw [putS_new _ _ _ ((lookS_none k _ 0).1 (boolE_out h))]
 unfold boolE
 rw [List.map_append]; rfl
theorem ptrE_put {l : List (ByteArray × Nat)} {k : ByteArray} (a : Nat) (h : k ∉ l.map (·.1)) : putS k (PT a) (ptrE l) = ptrE (l ++ [(k, a)]) := by
 rw [putS_new _ _ _ (fun p hp => by
  obtain ⟨x, hx, rfl⟩ := List.mem_map.1 hp
  exact fun e => h (by rw [← e]; exact List.mem_map_of_mem hx))]
 unfold ptrE
 rw [List.map_append]; rfl
/-- what the helper's closure has: names that were seen, the result, the next level (nn: what came up on this level) -/
structure ImpAt (B0 b7 b8 b11 ms mn : Nat) (seen0 res0 : List ByteArray) (nn : List (ByteArray × Nat)) (S : Nat → Prop) (W : World) : Prop where
 h7 : W.heap[b7]? = some (.cells #[.map (some ms)] 163 (0, 0))
 hs : KM .string W ms (boolE (seen0 ++ nn.map (·.1)))
 h8 : ∃ v, W.heap[b8]? = some (.cells #[v] 38 (0, 0)) ∧ Kd.R Kd.string 9 W B0 (fun _ => True) v (res0 ++ nn.map (·.1)) ∧ ∀ k, S k ↔ k = b8 ∨ v.ownBlock = some k ∨ k = ms ∨ k = mn
 h11 : W.heap[b11]? = some (.cells #[.map (some mn)] 164 (0, 0))
 hn : KM .string W mn (ptrE nn)
 ne : ms ≠ mn
 b0 : B0 ≤ b8 ∧ B0 ≤ ms ∧ B0 ≤ mn
 sz : B0 ≤ W.heap.size
def stepN (seen0 : List ByteArray) (nn : List (ByteArray × Nat)) (p : ByteArray × Nat) : List (ByteArray × Nat) := if p.1 ∈ seen0 ++ nn.map (·.1) then nn else nn ++ [p]
theorem kmty {ky : ByteArray → Value} {w : World} {M b : Nat} {st : Ents} {cs : Array Value} {t : TypeId} {z : Nat × Nat} (h : KM ky w M st) (hb : w.heap[b]? = some (.cells cs t z)) : M ≠ b := fun e => h.cell cs t z (by rw [e]; exact hb)
set_option maxHeartbeats 8000000 in
set_option maxRecDepth 100000 in
theorem imp_step_roles {B0 b7 b8 b11 ms mn : Nat} {seen0 res0 : List ByteArray} {nn : List (ByteArray × Nat)} {S : Nat → Prop} {W : World} (h : ImpAt B0 b7 b8 b11 ms mn seen0 res0 nn S W) (hl : res0.length + nn.length ≤ 2000000) (k : ByteArray) (a : Nat) :
  Calls Tryz.prog 121 #[KY k, PV a, PT b7, PT b8, PT b11] W fun e W' => e = .returned (.bool true) ∧ ∃ S', ImpAt B0 b7 b8 b11 ms mn seen0 res0 (stepN seen0 nn (k, a)) S' W' ∧ NextS W.heap.size S S' ∧ Turn S W W' := by
 have hts := as_string (.string k)
 have htr := as_role (PT a)
 have hnot : ∀ (x : Bool) (w : World), (Op.unary .not (.bool x)).run Tryz.prog w = .ok (.bool (!x)) w := fun _ _ => rfl
 have H := Aside0.mk h
 obtain ⟨h7, hs, ⟨v, hv, hR, hS⟩, h11, hn, hne, hb0, hsz⟩ := h
 have c7 := cell_of_one h7
 by_cases hin : k ∈ seen0 ++ nn.map (·.1)
 ·obtain ⟨j, hj⟩ := boolE_in hin 0
  have hlk := hs.look uSB keyS hj true
  have hst : stepN seen0 nn (k, a) = nn := if_pos hin
  rw [hst]
  clear hs hv hR hS h7 h11 hn hne hb0 hsz hj hin hst
  go_enter Tryz.func121, Tryz.ntmps121
  go_wp2
  go_ret
  exact ⟨rfl, S, H.out, NextS.refl _ _, Turn.refl _ _⟩
 ·have hlk := hs.look_none uSB keyS (boolE_out hin) (zeroB W) true
  have hst : stepN seen0 nn (k, a) = nn ++ [(k, a)] := if_neg hin
  rw [hst]
  have c8 := cell_of_one hv
  have c11 := cell_of_one h11
  have HLN := Aside0.mk (show ((res0 ++ nn.map (·.1)).length + 1) * 16 ≤ 140737488355328 from by rw [List.length_append, List.length_map]; omega)
  have HS := Aside0.mk hs
  have HV := Aside0.mk hv
  have HR := Aside0.mk hR
  have HSS := Aside0.mk hS
  have H11 := Aside0.mk h11
  have H7 := Aside0.mk h7
  have HN := Aside0.mk hn
  have HNE := Aside0.mk hne
  have HB := Aside0.mk hb0
  have HSZ := Aside0.mk hsz
  have HIN := Aside0.mk hin
  clear hs hv hR hS h11 h7 hn hne hb0 hsz hin hst H
  go_enter Tryz.func121, Tryz.ntmps121
  go_upto_region 5 with ((with_reducible refine gate_builtin (b := .append) (xs := #[.tmp 21, .tmp 23]) rfl ?_); at_builtin; refine Kd.R_append Kd.string (w0 := W) B0 rfl (.tmp 21) (.tmp 23) 38 9 (.string ⟨#[]⟩) 16 rfl Tryz.underlying38 infoS_ rfl (by decide) (by omega) v (res0 ++ nn.map (·.1)) k [.string k] (fun _ => True) (fun _ => False) rfl ?aX ?aP (fun _ hk => hk.elim) ?aF ?aO ?aB ?aS ?aL ?_; (case aX => rfl); (case aP => exact rfl); (case aB => exact Below.refl _ _); (case aF => exact (fun _ _ => trivial)); (case aO => exact HR.out); (case aS => exact HSZ.out); (case aL => exact HLN.out); intro v2 w4 hR4 hB4 hG4 hat4; have hv4 := (hG4.block b8 (Array.getElem?_eq_some_iff.1 HV.out).1 (Kd.R_ne HR.out HV.out (by decide))).trans HV.out; have d8 := cell_of_one hv4; have f8 := free_of_one hv4; have HR4 := Aside0.mk hR4; have HG4 := Aside0.mk hG4; have HAT4 := Aside0.mk hat4; have HB4 := Aside0.mk hB4; have HV4 := Aside0.mk hv4; obtain ⟨A2, n2, e2⟩ := Kd.R_slice hR4; subst e2; clear hR4 hB4 hG4 hat4 hv4)
  have el : (res0 ++ nn.map (·.1) ++ [k]).length = res0.length + (nn.length + 1) := by simp
  rw [el] at HR4 HAT4
  generalize (Value.slice A2 (res0.length + (nn.length + 1)) n2) = v3 at *
  have kp : ∀ g, g < W.heap.size → g ≠ b8 → some g ≠ v.ownBlock → (w4.setCell ⟨b8, 0, none⟩ v3).heap[g]? = W.heap[g]? := fun g hg h1 h2 => (Below.heap_setCell _ _ _ _ h1).trans (HG4.out.block g hg h2)
  have nocell : ∀ g, (∀ cs t z, W.heap[g]? ≠ some (.cells cs t z)) → some g ≠ v.ownBlock := fun g h e => by
   obtain ⟨_, _, _, q, _, cs, hc⟩ := (Kd.R_bound HR.out).1 g e.symm
   exact h cs q (0, 0) hc
  have h75 := (kp b7 (Array.getElem?_eq_some_iff.1 H7.out).1 (fun e => by
   have := H7.out
   rw [e, HV.out] at this
   cases this) (Kd.R_ne HR.out H7.out (by decide))).trans H7.out
  have h115 := (kp b11 (Array.getElem?_eq_some_iff.1 H11.out).1 (fun e => by
   have := H11.out
   rw [e, HV.out] at this
   cases this) (Kd.R_ne HR.out H11.out (by decide))).trans H11.out
  have hs5 := HS.out.keep (kp ms HS.out.lt (kmty HS.out HV.out) (nocell ms (fun cs t z => HS.out.cell cs t z)))
  have hn5 := HN.out.keep (kp mn HN.out.lt (kmty HN.out HV.out) (nocell mn (fun cs t z => HN.out.cell cs t z)))
  have hv5 := one_setCell (u := v3) HV4.out
  have hsz5 : (w4.setCell ⟨b8, 0, none⟩ v3).heap.size = w4.heap.size := by simp
  have hr5 : Kd.R Kd.string 9 (w4.setCell ⟨b8, 0, none⟩ v3) B0 (fun _ => True) v3 (res0 ++ nn.map (·.1) ++ [k]) := Kd.R_mono (Kd.R_move (Kd.R_bound HR4.out) (fun g hg => Below.heap_setCell _ _ _ _ (fun e => by
   have e : g = b8 := e
   obtain ⟨_, _, _, q, hq, cs, hc⟩ := hg
   rw [e, HV4.out] at hc
   injection hc with hc
   injection hc with _ hc
   rw [← hc] at hq
   revert hq
   decide))) (fun _ _ => trivial)
  have HKP := Aside0.mk kp
  generalize hw5 : w4.setCell ⟨b8, 0, none⟩ v3 = w5 at *
  obtain ⟨es1, c1, hrun1, hs6⟩ := hs5.put uSB keyS k (.bool true)
  rw [boolE_put HIN.out] at hs6
  have hn6 : KM .string (setO w5 ms (.map es1 c1)).drew mn (ptrE nn) := hn5.keep (setO_ne (w := w5) (o := .map es1 c1) (fun e => HNE.out e.symm))
  have hkn : k ∉ nn.map (·.1) := fun e => HIN.out (List.mem_append_right _ e)
  obtain ⟨es2, c2, hrun2, hn7⟩ := hn6.put uSR keyS k (PT a)
  rw [ptrE_put a hkn] at hn7
  have e7 : ∀ g, g ≠ ms → g ≠ mn → (setO (setO w5 ms (.map es1 c1)).drew mn (.map es2 c2)).heap[g]? = w5.heap[g]? := fun g h1 h2 => (setO_ne h2).trans (setO_ne h1)
  have d7 := cell_of_one h75
  have d11 : (setO w5 ms (.map es1 c1)).cell? ⟨b11, 0, none⟩ = some (.map (some mn)) := cell_of_one ((setO_ne (fun e => kmty hs5 h115 e.symm)).trans h115)
  have HF := Aside0.mk (show ∃ S', ImpAt B0 b7 b8 b11 ms mn seen0 res0 (nn ++ [(k, a)]) S' (setO (setO w5 ms (.map es1 c1)).drew mn (.map es2 c2)) ∧ NextS W.heap.size S S' ∧ Turn S W (setO (setO w5 ms (.map es1 c1)).drew mn (.map es2 c2)) from by
   refine ⟨fun g => g = b8 ∨ v3.ownBlock = some g ∨ g = ms ∨ g = mn, ⟨(e7 _ (fun e => kmty hs5 h75 e.symm) (fun e => kmty hn5 h75 e.symm)).trans h75, ?_, ⟨v3, (e7 _ (fun e => kmty hs5 hv5 e.symm) (fun e => kmty hn5 hv5 e.symm)).trans hv5, ?_, fun g => Iff.rfl⟩, (e7 _ (fun e => kmty hs5 h115 e.symm) (fun e => kmty hn5 h115 e.symm)).trans h115, hn7, HNE.out, HB.out, ?_⟩, fun g hg => ?_, ?_⟩
   ·rw [List.map_append, ← List.append_assoc]
    exact hs6.keep (setO_ne HNE.out)
   ·rw [List.map_append, ← List.append_assoc]
    exact Kd.R_mono (Kd.R_move (Kd.R_bound hr5) (fun g hg => by
     obtain ⟨_, _, _, q, hq, cs, hc⟩ := hg
     exact e7 g (fun e => hs5.cell cs q (0, 0) (by rw [← e]; exact hc)) (fun e => hn5.cell cs q (0, 0) (by rw [← e]; exact hc)))) (fun _ _ => trivial)
   ·have h1 := HSZ.out
    have h2 := HG4.out.size
    show B0 ≤ (setO (setO w5 ms _).drew mn _).heap.size
    rw [setO_size]
    show B0 ≤ (setO w5 ms _).heap.size
    rw [setO_size, hsz5]
    omega
   ·rcases hg with rfl | hg | rfl | rfl
    ·exact .inl ((HSS.out _).2 (.inl rfl))
    ·rcases HAT4.out with h3 | ⟨q, h3, h4⟩
     ·exact .inl ((HSS.out _).2 (.inr (.inl (by rw [← h3]; exact hg))))
     ·rw [h3] at hg
      exact .inr (by rw [← Option.some.inj hg]; exact h4)
    ·exact .inl ((HSS.out _).2 (.inr (.inr (.inl rfl))))
    ·exact .inl ((HSS.out _).2 (.inr (.inr (.inr rfl))))
   ·refine ⟨?_, ?_, ?_, ?_, fun g hg hn => (e7 g (fun e => hn ((HSS.out _).2 (.inr (.inr (.inl e))))) (fun e => hn ((HSS.out _).2 (.inr (.inr (.inr e)))))).trans (HKP.out g hg (fun e => hn ((HSS.out _).2 (.inl e))) (fun e => hn ((HSS.out _).2 (.inr (.inl e.symm)))))⟩
    ·rw [← hw5]; exact HB4.out.os
    ·rw [← hw5]; exact HB4.out.tape
    ·rw [← hw5]; exact HB4.out.output
    ·show W.heap.size ≤ (setO (setO w5 ms _).drew mn _).heap.size
     rw [setO_size]
     show W.heap.size ≤ (setO w5 ms _).heap.size
     rw [setO_size, hsz5]; exact HB4.out.size)
  clear kp nocell h75 h115 hs5 hn5 hv5 hr5 hs6 hn6 hn7 e7 hkn hsz5 hw5
  go_upto_region 6 with (fail)
  go_still_tail 4, (by kernel_rfl)
  change wpList _ _ _ _ _ (setO w5 ms (.map es1 c1)).drew
  go_wp2
  go_ret
  exact ⟨rfl, HF.out⟩
set_option maxHeartbeats 8000000 in
set_option maxRecDepth 100000 in
theorem imp_step_users {B0 b7 b8 b11 ms mn : Nat} {seen0 res0 : List ByteArray} {nn : List (ByteArray × Nat)} {S : Nat → Prop} {W : World} (h : ImpAt B0 b7 b8 b11 ms mn seen0 res0 nn S W) (hl : res0.length + nn.length ≤ 2000000) (k : ByteArray) (a : Nat) :
  Calls Tryz.prog 123 #[KY k, PV a, PT b7, PT b8, PT b11] W fun e W' => e = .returned (.bool true) ∧ ∃ S', ImpAt B0 b7 b8 b11 ms mn seen0 res0 (stepN seen0 nn (k, a)) S' W' ∧ NextS W.heap.size S S' ∧ Turn S W W' := by
 have hts := as_string (.string k)
 have htr := as_role (PT a)
 have hnot : ∀ (x : Bool) (w : World), (Op.unary .not (.bool x)).run Tryz.prog w = .ok (.bool (!x)) w := fun _ _ => rfl
 have H := Aside0.mk h
 obtain ⟨h7, hs, ⟨v, hv, hR, hS⟩, h11, hn, hne, hb0, hsz⟩ := h
 have c7 := cell_of_one h7
 by_cases hin : k ∈ seen0 ++ nn.map (·.1)
 ·obtain ⟨j, hj⟩ := boolE_in hin 0
  have hlk := hs.look uSB keyS hj true
  have hst : stepN seen0 nn (k, a) = nn := if_pos hin
  rw [hst]
  clear hs hv hR hS h7 h11 hn hne hb0 hsz hj hin hst
  go_enter Tryz.func123, Tryz.ntmps123
  go_wp2
  go_ret
  exact ⟨rfl, S, H.out, NextS.refl _ _, Turn.refl _ _⟩
 ·have hlk := hs.look_none uSB keyS (boolE_out hin) (zeroB W) true
  have hst : stepN seen0 nn (k, a) = nn ++ [(k, a)] := if_neg hin
  rw [hst]
  have c8 := cell_of_one hv
  have c11 := cell_of_one h11
  have HLN := Aside0.mk (show ((res0 ++ nn.map (·.1)).length + 1) * 16 ≤ 140737488355328 from by rw [List.length_append, List.length_map]; omega)
  have HS := Aside0.mk hs
  have HV := Aside0.mk hv
  have HR := Aside0.mk hR
  have HSS := Aside0.mk hS
  have H11 := Aside0.mk h11
  have H7 := Aside0.mk h7
  have HN := Aside0.mk hn
  have HNE := Aside0.mk hne
  have HB := Aside0.mk hb0
  have HSZ := Aside0.mk hsz
  have HIN := Aside0.mk hin
  clear hs hv hR hS h11 h7 hn hne hb0 hsz hin hst H
  go_enter Tryz.func123, Tryz.ntmps123
  go_upto_region 5 with ((with_reducible refine gate_builtin (b := .append) (xs := #[.tmp 21, .tmp 23]) rfl ?_); at_builtin; refine Kd.R_append Kd.string (w0 := W) B0 rfl (.tmp 21) (.tmp 23) 38 9 (.string ⟨#[]⟩) 16 rfl Tryz.underlying38 infoS_ rfl (by decide) (by omega) v (res0 ++ nn.map (·.1)) k [.string k] (fun _ => True) (fun _ => False) rfl ?aX ?aP (fun _ hk => hk.elim) ?aF ?aO ?aB ?aS ?aL ?_; (case aX => rfl); (case aP => exact rfl); (case aB => exact Below.refl _ _); (case aF => exact (fun _ _ => trivial)); (case aO => exact HR.out); (case aS => exact HSZ.out); (case aL => exact HLN.out); intro v2 w4 hR4 hB4 hG4 hat4; have hv4 := (hG4.block b8 (Array.getElem?_eq_some_iff.1 HV.out).1 (Kd.R_ne HR.out HV.out (by decide))).trans HV.out; have d8 := cell_of_one hv4; have f8 := free_of_one hv4; have HR4 := Aside0.mk hR4; have HG4 := Aside0.mk hG4; have HAT4 := Aside0.mk hat4; have HB4 := Aside0.mk hB4; have HV4 := Aside0.mk hv4; obtain ⟨A2, n2, e2⟩ := Kd.R_slice hR4; subst e2; clear hR4 hB4 hG4 hat4 hv4)
  have el : (res0 ++ nn.map (·.1) ++ [k]).length = res0.length + (nn.length + 1) := by simp
  rw [el] at HR4 HAT4
  generalize (Value.slice A2 (res0.length + (nn.length + 1)) n2) = v3 at *
  have kp : ∀ g, g < W.heap.size → g ≠ b8 → some g ≠ v.ownBlock → (w4.setCell ⟨b8, 0, none⟩ v3).heap[g]? = W.heap[g]? := fun g hg h1 h2 => (Below.heap_setCell _ _ _ _ h1).trans (HG4.out.block g hg h2)
  have nocell : ∀ g, (∀ cs t z, W.heap[g]? ≠ some (.cells cs t z)) → some g ≠ v.ownBlock := fun g h e => by
   obtain ⟨_, _, _, q, _, cs, hc⟩ := (Kd.R_bound HR.out).1 g e.symm
   exact h cs q (0, 0) hc
  have h75 := (kp b7 (Array.getElem?_eq_some_iff.1 H7.out).1 (fun e => by
   have := H7.out
   rw [e, HV.out] at this
   cases this) (Kd.R_ne HR.out H7.out (by decide))).trans H7.out
  have h115 := (kp b11 (Array.getElem?_eq_some_iff.1 H11.out).1 (fun e => by
   have := H11.out
   rw [e, HV.out] at this
   cases this) (Kd.R_ne HR.out H11.out (by decide))).trans H11.out
  have hs5 := HS.out.keep (kp ms HS.out.lt (kmty HS.out HV.out) (nocell ms (fun cs t z => HS.out.cell cs t z)))
  have hn5 := HN.out.keep (kp mn HN.out.lt (kmty HN.out HV.out) (nocell mn (fun cs t z => HN.out.cell cs t z)))
  have hv5 := one_setCell (u := v3) HV4.out
  have hsz5 : (w4.setCell ⟨b8, 0, none⟩ v3).heap.size = w4.heap.size := by simp
  have hr5 : Kd.R Kd.string 9 (w4.setCell ⟨b8, 0, none⟩ v3) B0 (fun _ => True) v3 (res0 ++ nn.map (·.1) ++ [k]) := Kd.R_mono (Kd.R_move (Kd.R_bound HR4.out) (fun g hg => Below.heap_setCell _ _ _ _ (fun e => by
   have e : g = b8 := e
   obtain ⟨_, _, _, q, hq, cs, hc⟩ := hg
   rw [e, HV4.out] at hc
   injection hc with hc
   injection hc with _ hc
   rw [← hc] at hq
   revert hq
   decide))) (fun _ _ => trivial)
  have HKP := Aside0.mk kp
  generalize hw5 : w4.setCell ⟨b8, 0, none⟩ v3 = w5 at *
  obtain ⟨es1, c1, hrun1, hs6⟩ := hs5.put uSB keyS k (.bool true)
  rw [boolE_put HIN.out] at hs6
  have hn6 : KM .string (setO w5 ms (.map es1 c1)).drew mn (ptrE nn) := hn5.keep (setO_ne (w := w5) (o := .map es1 c1) (fun e => HNE.out e.symm))
  have hkn : k ∉ nn.map (·.1) := fun e => HIN.out (List.mem_append_right _ e)
  obtain ⟨es2, c2, hrun2, hn7⟩ := hn6.put uSR keyS k (PT a)
  rw [ptrE_put a hkn] at hn7
  have e7 : ∀ g, g ≠ ms → g ≠ mn → (setO (setO w5 ms (.map es1 c1)).drew mn (.map es2 c2)).heap[g]? = w5.heap[g]? := fun g h1 h2 => (setO_ne h2).trans (setO_ne h1)
  have d7 := cell_of_one h75
  have d11 : (setO w5 ms (.map es1 c1)).cell? ⟨b11, 0, none⟩ = some (.map (some mn)) := cell_of_one ((setO_ne (fun e => kmty hs5 h115 e.symm)).trans h115)
  have HF := Aside0.mk (show ∃ S', ImpAt B0 b7 b8 b11 ms mn seen0 res0 (nn ++ [(k, a)]) S' (setO (setO w5 ms (.map es1 c1)).drew mn (.map es2 c2)) ∧ NextS W.heap.size S S' ∧ Turn S W (setO (setO w5 ms (.map es1 c1)).drew mn (.map es2 c2)) from by
   refine ⟨fun g => g = b8 ∨ v3.ownBlock = some g ∨ g = ms ∨ g = mn, ⟨(e7 _ (fun e => kmty hs5 h75 e.symm) (fun e => kmty hn5 h75 e.symm)).trans h75, ?_, ⟨v3, (e7 _ (fun e => kmty hs5 hv5 e.symm) (fun e => kmty hn5 hv5 e.symm)).trans hv5, ?_, fun g => Iff.rfl⟩, (e7 _ (fun e => kmty hs5 h115 e.symm) (fun e => kmty hn5 h115 e.symm)).trans h115, hn7, HNE.out, HB.out, ?_⟩, fun g hg => ?_, ?_⟩
   ·rw [List.map_append, ← List.append_assoc]
    exact hs6.keep (setO_ne HNE.out)
   ·rw [List.map_append, ← List.append_assoc]
    exact Kd.R_mono (Kd.R_move (Kd.R_bound hr5) (fun g hg => by
     obtain ⟨_, _, _, q, hq, cs, hc⟩ := hg
     exact e7 g (fun e => hs5.cell cs q (0, 0) (by rw [← e]; exact hc)) (fun e => hn5.cell cs q (0, 0) (by rw [← e]; exact hc)))) (fun _ _ => trivial)
   ·have h1 := HSZ.out
    have h2 := HG4.out.size
    show B0 ≤ (setO (setO w5 ms _).drew mn _).heap.size
    rw [setO_size]
    show B0 ≤ (setO w5 ms _).heap.size
    rw [setO_size, hsz5]
    omega
   ·rcases hg with rfl | hg | rfl | rfl
    ·exact .inl ((HSS.out _).2 (.inl rfl))
    ·rcases HAT4.out with h3 | ⟨q, h3, h4⟩
     ·exact .inl ((HSS.out _).2 (.inr (.inl (by rw [← h3]; exact hg))))
     ·rw [h3] at hg
      exact .inr (by rw [← Option.some.inj hg]; exact h4)
    ·exact .inl ((HSS.out _).2 (.inr (.inr (.inl rfl))))
    ·exact .inl ((HSS.out _).2 (.inr (.inr (.inr rfl))))
   ·refine ⟨?_, ?_, ?_, ?_, fun g hg hn => (e7 g (fun e => hn ((HSS.out _).2 (.inr (.inr (.inl e))))) (fun e => hn ((HSS.out _).2 (.inr (.inr (.inr e)))))).trans (HKP.out g hg (fun e => hn ((HSS.out _).2 (.inl e))) (fun e => hn ((HSS.out _).2 (.inr (.inl e.symm)))))⟩
    ·rw [← hw5]; exact HB4.out.os
    ·rw [← hw5]; exact HB4.out.tape
    ·rw [← hw5]; exact HB4.out.output
    ·show W.heap.size ≤ (setO (setO w5 ms _).drew mn _).heap.size
     rw [setO_size]
     show W.heap.size ≤ (setO w5 ms _).heap.size
     rw [setO_size, hsz5]; exact HB4.out.size)
  clear kp nocell h75 h115 hs5 hn5 hv5 hr5 hs6 hn6 hn7 e7 hkn hsz5 hw5
  go_upto_region 6 with (fail)
  go_still_tail 4, (by kernel_rfl)
  change wpList _ _ _ _ _ (setO w5 ms (.map es1 c1)).drew
  go_wp2
  go_ret
  exact ⟨rfl, HF.out⟩
end
/-! One role's part of a level; the levels' count. -/
section
open Go.Proofs
structure NN (L : List RoleB) (seen : List ByteArray) (nn : List (ByteArray × Nat)) (M : ByteArray → Prop) : Prop where
 nd : (nn.map (·.1)).Nodup
 mem : ∀ x, x ∈ nn.map (·.1) ↔ M x ∧ x ∉ seen
 loc : ∀ q ∈ nn, ∃ y ∈ L, y.name = q.1 ∧ y.a = q.2
theorem NN.start (L : List RoleB) (seen : List ByteArray) : NN L seen [] (fun _ => False) := ⟨by simp, fun x => by simp, fun q h => by cases h⟩
theorem NN.iff {L : List RoleB} {seen : List ByteArray} {nn : List (ByteArray × Nat)} {M M' : ByteArray → Prop} (h : NN L seen nn M) (hM : ∀ x, M x ↔ M' x) : NN L seen nn M' := ⟨h.nd, fun x => by rw [h.mem, hM], h.loc⟩
theorem NN.step {L : List RoleB} {seen : List ByteArray} {nn : List (ByteArray × Nat)} {M : ByteArray → Prop} (h : NN L seen nn M) {p : ByteArray × Nat} (hp : ∃ y ∈ L, y.name = p.1 ∧ y.a = p.2) : NN L seen (stepN seen nn p) (fun x => M x ∨ x = p.1) := by
 unfold stepN
 by_cases hin : p.1 ∈ seen ++ nn.map (·.1)
 ·rw [if_pos hin]
  refine ⟨h.nd, fun x => ?_, h.loc⟩
  rw [h.mem]
  constructor
  ·exact fun g => ⟨.inl g.1, g.2⟩
  ·rintro ⟨g | rfl, g2⟩
   ·exact ⟨g, g2⟩
   ·exact (h.mem _).1 ((List.mem_append.1 hin).resolve_left g2)
 ·rw [if_neg hin]
  rw [List.mem_append, not_or] at hin
  refine ⟨?_, fun x => ?_, fun q hq => ?_⟩
  ·rw [List.map_append, List.nodup_append]
   refine ⟨h.nd, by simp, fun a ha b hb e => hin.2 ?_⟩
   rw [List.map_cons, List.map_nil, List.mem_singleton] at hb
   rw [← hb, ← e]; exact ha
  ·rw [List.map_append, List.mem_append, h.mem, List.map_cons, List.map_nil, List.mem_singleton]
   constructor
   ·rintro (g | rfl)
    ·exact ⟨.inl g.1, g.2⟩
    ·exact ⟨.inr rfl, hin.1⟩
   ·rintro ⟨g | g, g2⟩
    ·exact .inl ⟨g, g2⟩
    ·exact .inr g
  ·rcases List.mem_append.1 hq with hq | hq
   ·exact h.loc q hq
   ·rw [List.mem_singleton] at hq
    rw [hq]; exact hp
theorem len_sub : ∀ {l m : List ByteArray}, l.Nodup → (∀ x ∈ l, x ∈ m) → l.length ≤ m.length
 | [], _, _, _ => Nat.zero_le _
 | a :: l, m, hn, h => by
  rw [List.nodup_cons] at hn
  obtain ⟨A, B, rfl⟩ := List.append_of_mem (h a (List.mem_cons_self ..))
  have := len_sub (l := l) (m := A ++ B) hn.2 (fun x hx => by
   have := h x (List.mem_cons_of_mem _ hx)
   rcases List.mem_append.1 this with g | g
   ·exact List.mem_append_left _ g
   ·rcases List.mem_cons.1 g with rfl | g
    ·exact absurd hx hn.1
    ·exact List.mem_append_right _ g)
  simp only [List.length_append, List.length_cons] at this ⊢
  omega
theorem ImpAt.slt {B0 b7 b8 b11 ms mn : Nat} {seen0 res0 : List ByteArray} {nn : List (ByteArray × Nat)} {S : Nat → Prop} {W : World} (h : ImpAt B0 b7 b8 b11 ms mn seen0 res0 nn S W) : ∀ k, S k → k < W.heap.size := by
 intro k hk
 obtain ⟨v, hv, hR, hS⟩ := h.h8
 rcases (hS k).1 hk with rfl | hk | rfl | rfl
 ·exact (Array.getElem?_eq_some_iff.1 hv).1
 ·exact ((Kd.R_bound hR).1 k hk).2.2.1
 ·exact h.hs.lt
 ·exact h.hn.lt
theorem ImpAt.frame {B0 b7 b8 b11 ms mn : Nat} {seen0 res0 : List ByteArray} {nn : List (ByteArray × Nat)} {S : Nat → Prop} {W W' : World} (h : ImpAt B0 b7 b8 b11 ms mn seen0 res0 nn S W) (hk : ∀ k, (k = b7 ∨ k = b11 ∨ S k) → W'.heap[k]? = W.heap[k]?) (hs : W.heap.size ≤ W'.heap.size) : ImpAt B0 b7 b8 b11 ms mn seen0 res0 nn S W' := by
 obtain ⟨v, hv, hR, hS⟩ := h.h8
 refine ⟨(hk _ (.inl rfl)).trans h.h7, h.hs.keep (hk _ (.inr (.inr ((hS _).2 (.inr (.inr (.inl rfl))))))), ⟨v, (hk _ (.inr (.inr ((hS _).2 (.inl rfl))))).trans hv, ?_, hS⟩, (hk _ (.inr (.inl rfl))).trans h.h11, h.hn.keep (hk _ (.inr (.inr ((hS _).2 (.inr (.inr (.inr rfl))))))), h.ne, h.b0, Nat.le_trans h.sz hs⟩
 refine Kd.R_mono (Kd.R_move (ok := fun k => v.ownBlock = some k) ⟨fun k hk2 => hk2, (Kd.R_bound hR).2⟩ (fun k hk2 => hk k (.inr (.inr ((hS k).2 (.inr (.inl hk2))))))) (fun _ _ => trivial)
theorem imp_rstep_roles {w : World} {L : List RoleB} {E : Edges} {x : RoleB} (hG : Graph L E) (hx : x ∈ L) {B0 b7 b8 b11 ms mn : Nat} {seen res : List ByteArray} {M : ByteArray → Prop} {T : List ByteArray} (hT : T.length ≤ 1000000) (hTm : ∀ b, (x.name, b) ∈ E → b ∈ T) (hMT : ∀ b, M b → b ∈ T) (hres : res.length ≤ 1000000) (h7 : b7 < w.heap.size) (h11 : b11 < w.heap.size) :
  RStep w (ents x.R) 121 #[PT b7, PT b8, PT b11] (fun done S W => ∃ nn, ImpAt B0 b7 b8 b11 ms mn seen res nn S W ∧ b7 < W.heap.size ∧ b11 < W.heap.size ∧ NN L seen nn (fun b => M b ∨ b ∈ done.map (·.1)) ∧ ∀ b ∈ done.map (·.1), b ∈ T) := by
 refine ⟨fun done rest S W k v hp hq => ?_, fun done S W W' hq hk hsz _ => ?_, fun done S W hq => ?_⟩
 ·obtain ⟨nn, h1, h2, h3, h4, h5⟩ := hq
  have hin : (k, v) ∈ ents x.R := hp.mem_iff.1 (by simp)
  obtain ⟨q, hq, he⟩ := List.mem_map.1 hin
  injection he with hk hv
  have hTk : k ∈ T := by
   rw [← hk]
   exact hTm _ ((hG.r x hx _).1 (List.mem_map_of_mem hq))
  have hl : nn.length ≤ 1000000 := by
   have := len_sub h4.nd (m := T) (fun b hb => by
    rcases ((h4.mem b).1 hb).1 with g | g
    ·exact hMT b g
    ·exact h5 b g)
   rw [List.length_map] at this
   omega
  rw [← hv, ← hk]
  refine (imp_step_roles h1 (by omega) q.1 q.2).mono ?_
  rintro e w' ⟨rfl, S', g1, g2, g3⟩
  refine ⟨rfl, S', ⟨_, g1, Nat.lt_of_lt_of_le h2 g3.size, Nat.lt_of_lt_of_le h3 g3.size, (h4.step (p := q) (hG.cr x hx q hq)).iff (fun b => ?_), fun b hb => ?_⟩, g2, g3⟩
  ·rw [List.map_append, List.mem_append, List.map_cons, List.map_nil, List.mem_singleton, or_assoc]
  ·rw [List.map_append, List.mem_append, List.map_cons, List.map_nil, List.mem_singleton] at hb
   rcases hb with hb | hb
   ·exact h5 b hb
   ·rw [hb, hk]; exact hTk
 ·obtain ⟨nn, h1, h2, h3, h4, h5⟩ := hq
  refine ⟨nn, h1.frame (fun k hk2 => hk k ?_ ?_) hsz, Nat.lt_of_lt_of_le h2 hsz, Nat.lt_of_lt_of_le h3 hsz, h4, h5⟩
  ·rcases hk2 with rfl | rfl | hk2
   ·exact h2
   ·exact h3
   ·exact h1.slt k hk2
  ·rcases hk2 with rfl | rfl | hk2
   ·exact .inl h7
   ·exact .inl h11
   ·exact .inr hk2
 ·obtain ⟨nn, h1, _⟩ := hq
  exact h1.slt
theorem imp_rstep_users {w : World} {L : List RoleB} {E : Edges} {x : RoleB} (hG : Graph L E) (hx : x ∈ L) {B0 b7 b8 b11 ms mn : Nat} {seen res : List ByteArray} {M : ByteArray → Prop} {T : List ByteArray} (hT : T.length ≤ 1000000) (hTm : ∀ b, (b, x.name) ∈ E → b ∈ T) (hMT : ∀ b, M b → b ∈ T) (hres : res.length ≤ 1000000) (h7 : b7 < w.heap.size) (h11 : b11 < w.heap.size) :
  RStep w (ents x.U) 123 #[PT b7, PT b8, PT b11] (fun done S W => ∃ nn, ImpAt B0 b7 b8 b11 ms mn seen res nn S W ∧ b7 < W.heap.size ∧ b11 < W.heap.size ∧ NN L seen nn (fun b => M b ∨ b ∈ done.map (·.1)) ∧ ∀ b ∈ done.map (·.1), b ∈ T) := by
 refine ⟨fun done rest S W k v hp hq => ?_, fun done S W W' hq hk hsz _ => ?_, fun done S W hq => ?_⟩
 ·obtain ⟨nn, h1, h2, h3, h4, h5⟩ := hq
  have hin : (k, v) ∈ ents x.U := hp.mem_iff.1 (by simp)
  obtain ⟨q, hq, he⟩ := List.mem_map.1 hin
  injection he with hk hv
  have hTk : k ∈ T := by
   rw [← hk]
   exact hTm _ ((hG.u x hx _).1 (List.mem_map_of_mem hq))
  have hl : nn.length ≤ 1000000 := by
   have := len_sub h4.nd (m := T) (fun b hb => by
    rcases ((h4.mem b).1 hb).1 with g | g
    ·exact hMT b g
    ·exact h5 b g)
   rw [List.length_map] at this
   omega
  rw [← hv, ← hk]
  refine (imp_step_users h1 (by omega) q.1 q.2).mono ?_
  rintro e w' ⟨rfl, S', g1, g2, g3⟩
  refine ⟨rfl, S', ⟨_, g1, Nat.lt_of_lt_of_le h2 g3.size, Nat.lt_of_lt_of_le h3 g3.size, (h4.step (p := q) (hG.cu x hx q hq)).iff (fun b => ?_), fun b hb => ?_⟩, g2, g3⟩
  ·rw [List.map_append, List.mem_append, List.map_cons, List.map_nil, List.mem_singleton, or_assoc]
  ·rw [List.map_append, List.mem_append, List.map_cons, List.map_nil, List.mem_singleton] at hb
   rcases hb with hb | hb
   ·exact h5 b hb
   ·rw [hb, hk]; exact hTk
 ·obtain ⟨nn, h1, h2, h3, h4, h5⟩ := hq
  refine ⟨nn, h1.frame (fun k hk2 => hk k ?_ ?_) hsz, Nat.lt_of_lt_of_le h2 hsz, Nat.lt_of_lt_of_le h3 hsz, h4, h5⟩
  ·rcases hk2 with rfl | rfl | hk2
   ·exact h2
   ·exact h3
   ·exact h1.slt k hk2
  ·rcases hk2 with rfl | rfl | hk2
   ·exact .inl h7
   ·exact .inl h11
   ·exact .inr hk2
 ·obtain ⟨nn, h1, _⟩ := hq
  exact h1.slt
/-- how many entries a range of a map has left -/
def leftS (w : World) (r M : Nat) : Nat := match w.heap[r]?, w.heap[M]? with
 | some (.mapIter _ _ seen _), some (.map es _) => (Go.leftOf es seen).size
 | _, _ => 0
theorem RgS.count {ky : ByteArray → Value} {w : World} {r M : Nat} {st left : Ents} (h : RgS ky w r M st left) : leftS w r M = left.length := by
 obtain ⟨es, c, since, c0, seen, h1, h2, h3, h4, h5, h6, h7⟩ := h
 unfold leftS
 simp only [h1, h2]
 have := congrArg List.length h7
 simpa using this
theorem RgS.iter {ky : ByteArray → Value} {w : World} {r M : Nat} {st left : Ents} (h : RgS ky w r M st left) (cs : Array Value) (t : TypeId) (z : Nat × Nat) : w.heap[r]? ≠ some (.cells cs t z) := by
 obtain ⟨es, c, since, c0, seen, h1, _⟩ := h
 rw [h1]; intro e; cases e
theorem KM.len {ky : ByteArray → Value} {P : Program} {T K V ty : TypeId} (hT : P.underlying T = some (.map K V)) {w : World} {M : Nat} {st : Ents} (h : KM ky w M st) : (Builtin.len_ #[T] ty #[.map (some M)]).run P w = .ok (.int .i64 (st.length : Int)) w := by
 obtain ⟨es, c, hb, he, _⟩ := h
 have hsz : es.size = st.length := by
  have := congrArg List.length he
  simpa using this
 simp [Builtin.len_, run_underlying hT, MapKept.run_getObj_map hb, goInt, Result.andThen, hsz]
end
/-! The implicit roles, or users: the helper that goes by levels. -/
section
open Go.Proofs
theorem imp_level (nx : Nx) (n : Nat) {seen : List ByteArray} {F nnn new : List ByteArray} (hn : nnn.Nodup) (hm : ∀ x, x ∈ nnn ↔ (∃ y ∈ F, x ∈ nx y) ∧ x ∉ seen) (hp : new.Perm (impN nx n (seen ++ nnn) nnn)) : (nnn ++ new).Perm (impN nx (n + 1) seen F) := by
 have h1 : ∀ x, x ∈ nnn ↔ x ∈ fresh seen (F.flatMap nx) := fun x => by rw [hm, fresh_mem, List.mem_flatMap]
 unfold impN
 exact (perm_of_mem hn (fresh_nodup _ _) h1).append (hp.trans (impN_perm nx n (fun x => by rw [List.mem_append, List.mem_append, h1]) h1))
set_option maxHeartbeats 8000000 in
set_option maxRecDepth 100000 in
theorem imp_helper_roles {F : Fp} {p s c : Nat} {max : Int} {mc : List Value} {m : Option Nat} {L : List RoleB} {E : Edges} (hmax : 0 ≤ max ∧ max ≤ 1000000) (hR : RMF F p s c max mc m L) (hG : Graph L E) (hE : EOk E) : ∀ (n : Nat) {w : World} {B0 M1 ms : Nat} {fr : List (ByteArray × Nat)} {seen res : List ByteArray} {v : Value} {lv : Int}, (max - lv).toNat = n → 0 ≤ lv → Mem w F → KM .string w M1 (ptrE fr) → KM .string w ms (boolE seen) → M1 ≠ ms → Kd.R Kd.string 9 w B0 (fun _ => True) v res → (∀ k, k = ms ∨ v.ownBlock = some k → F k = none) → (∀ q ∈ fr, ∃ y ∈ L, y.name = q.1 ∧ y.a = q.2) → fr.length ≤ 1000001 → (∀ x ∈ res, x ∈ seen) → res.Nodup → (∀ x ∈ res, x ∈ E.map (·.2)) → B0 ≤ ms → B0 ≤ w.heap.size →
  Calls Tryz.prog 109 #[PT p, .map (some M1), .map (some ms), v, .int .i64 lv] w fun e w' => ∃ v' new, e = .returned v' ∧ new.Perm (impN (rolesE E) n seen (fr.map (·.1))) ∧ Kd.R Kd.string 9 w' B0 (fun _ => True) v' (res ++ new) ∧ Turn (fun k => k = ms ∨ v.ownBlock = some k) w w' := by
 intro n
 induction n with
 | zero =>
  intro w B0 M1 ms fr seen res v lv hn hlv hM h1 hs hne hv hd hfr hfl hrs hrn hre hms hB
  have c1 : ∀ o1 o2, ((w.alloc o1).alloc o2).cell? ⟨p, 1, none⟩ = some (.int .i64 max) := fun o1 o2 => load_cell ((hM.below ((Below.refl _ _).alloc (Nat.le_refl _) o1)).below ((Below.refl _ _).alloc (Nat.le_refl _) o2)) hR.p rfl
  have hge : decide (lv ≥ max) = true := decide_eq_true (by omega)
  have HB := Aside0.mk (fun o1 o2 => show Below w.heap.size w ((w.alloc o1).alloc o2) from ((Below.refl _ _).alloc (Nat.le_refl _) o1).alloc (by simp) o2)
  have HV := Aside0.mk hv
  obtain ⟨A1, n1, e1⟩ := Kd.R_slice hv
  subst e1
  clear h1 hs hne hv hd hfr hfl hrs hrn hre hms hB hM hn
  go_enter Tryz.func109, Tryz.ntmps109
  go_wp2
  go_ret
  refine ⟨_, [], rfl, List.Perm.refl _, ?_, Turn.ofBelow _ (HB.out _ _)⟩
  rw [List.append_nil]
  exact Kd.R_mono (Kd.R_move (Kd.R_bound HV.out) (fun k hk => (HB.out _ _).block k hk.2.2.1)) (fun _ _ => trivial)
 | succ n ih =>
  intro w B0 M1 ms fr seen res v lv hn hlv hM h1 hs hne hv hd hfr hfl hrs hrn hre hms hB
  have c1 : ∀ o1 o2, ((w.alloc o1).alloc o2).cell? ⟨p, 1, none⟩ = some (.int .i64 max) := fun o1 o2 => load_cell ((hM.below ((Below.refl _ _).alloc (Nat.le_refl _) o1)).below ((Below.refl _ _).alloc (Nat.le_refl _) o2)) hR.p rfl
  have hge : decide (lv ≥ max) = false := decide_eq_false (by omega)
  have hbb : ∀ o1 o2, Below w.heap.size w ((w.alloc o1).alloc o2) := fun o1 o2 => ((Below.refl _ _).alloc (Nat.le_refl _) o1).alloc (by simp) o2
  have HB := Aside0.mk hbb
  have hlen := fun o1 o2 => (h1.below (hbb o1 o2)).len (ty := 3) uSR
  have hel : (ptrE fr).length = fr.length := by unfold ptrE; rw [List.length_map]
  rw [hel] at hlen
  obtain ⟨A1, n1, e1⟩ := Kd.R_slice hv
  by_cases hfe : fr = []
  ·have HV := Aside0.mk hv
   subst hfe
   subst e1
   clear h1 hs hne hv hd hfr hfl hrs hrn hre hms hB hM hn hbb hel ih
   go_enter Tryz.func109, Tryz.ntmps109
   go_wp2
   go_ret
   refine ⟨_, [], rfl, ?_, ?_, Turn.ofBelow _ (HB.out _ _)⟩
   ·rw [List.map_nil, impN_none]
   rw [List.append_nil]
   exact Kd.R_mono (Kd.R_move (Kd.R_bound HV.out) (fun k hk => (HB.out _ _).block k hk.2.2.1)) (fun _ _ => trivial)
  ·have hl0 : ((fr.length : Int) == 0) = false := by
    have := List.length_pos_iff.2 hfe
    exact beq_eq_false_iff_ne.2 (by omega)
   have hpre := hv
   subst e1
   have HV := Aside0.mk hv
   have H1 := Aside0.mk h1
   have HS := Aside0.mk hs
   have HNE := Aside0.mk hne
   have HD := Aside0.mk hd
   have HFR := Aside0.mk hfr
   have HFL := Aside0.mk hfl
   have HRS := Aside0.mk hrs
   have HRN := Aside0.mk hrn
   have HRE := Aside0.mk hre
   have HMS := Aside0.mk hms
   have HBZ := Aside0.mk hB
   have HM := Aside0.mk hM
   have HN := Aside0.mk hn
   have HIH := Aside0.mk @ih
   have HMX := Aside0.mk hmax
   have hmm := @run_makeMap Tryz.prog
   clear h1 hs hne hv hd hfr hfl hrs hrn hre hms hB hM hn hbb hel ih hfe hmax hpre
   go_enter Tryz.func109, Tryz.ntmps109
   go_upto_region 4 with (fail)
   obtain ⟨W4, hW4⟩ : ∃ W4, W4 = ((((w.alloc (Obj.cells #[Value.map (some ms)] 163)).alloc (Obj.cells #[Value.slice A1 res.length n1] 38)).alloc (Obj.map #[] 0)).alloc (Obj.cells #[Value.map (some (w.heap.size + 1 + 1))] 164)) := ⟨_, rfl⟩
   have hsz4 : W4.heap.size = w.heap.size + 4 := by rw [hW4]; simp
   have hb4 : Below w.heap.size w W4 := by rw [hW4]; exact ((HB.out _ _).alloc (by simp <;> omega) _).alloc (by simp <;> omega) _
   have hb4' : W4.heap[w.heap.size]? = some (.cells #[.map (some ms)] 163 (0, 0)) := by
    rw [hW4, heap_alloc_old _ _ (by simp <;> omega), heap_alloc_old _ _ (by simp <;> omega), heap_alloc_old _ _ (by simp)]
    exact heap_alloc_new _ _
   have hb8 : W4.heap[w.heap.size + 1]? = some (.cells #[.slice A1 res.length n1] 38 (0, 0)) := by
    rw [hW4, heap_alloc_old _ _ (by simp <;> omega), heap_alloc_old _ _ (by simp)]
    have := heap_alloc_new (w.alloc (Obj.cells #[Value.map (some ms)] 163)) (Obj.cells #[Value.slice A1 res.length n1] 38)
    simpa using this
   have hbn : KM .string W4 (w.heap.size + 1 + 1) (ptrE []) := by
    rw [hW4]
    have h1 := KM.made (ky := .string) ((w.alloc (Obj.cells #[Value.map (some ms)] 163)).alloc (Obj.cells #[Value.slice A1 res.length n1] 38))
    have h2 : ((w.alloc (Obj.cells #[Value.map (some ms)] 163)).alloc (Obj.cells #[Value.slice A1 res.length n1] 38)).heap.size = w.heap.size + 1 + 1 := by simp
    rw [h2] at h1
    exact h1.keep (heap_alloc_old _ _ (by simp))
   have hb11 : W4.heap[w.heap.size + 1 + 1 + 1]? = some (.cells #[.map (some (w.heap.size + 1 + 1))] 164 (0, 0)) := by
    rw [hW4]
    have := heap_alloc_new (((w.alloc (Obj.cells #[Value.map (some ms)] 163)).alloc (Obj.cells #[Value.slice A1 res.length n1] 38)).alloc (Obj.map #[] 0)) (Obj.cells #[Value.map (some (w.heap.size + 1 + 1))] 164)
    simpa using this
   rw [← hW4]
   have hI4 : ImpAt B0 w.heap.size (w.heap.size + 1) (w.heap.size + 1 + 1 + 1) ms (w.heap.size + 1 + 1) seen res [] (fun k => k = w.heap.size + 1 ∨ (Value.slice A1 res.length n1).ownBlock = some k ∨ k = ms ∨ k = w.heap.size + 1 + 1) W4 := by
    have hml := HS.out.lt
    have hB := HBZ.out
    refine ⟨hb4', ?_, ⟨_, hb8, ?_, fun k => Iff.rfl⟩, hb11, hbn, by omega, ⟨by omega, HMS.out, by omega⟩, by omega⟩
    ·rw [List.map_nil, List.append_nil]; exact HS.out.below hb4
    ·rw [List.map_nil, List.append_nil]
     exact Kd.R_mono (Kd.R_move (Kd.R_bound HV.out) (fun k hk => hb4.block k hk.2.2.1)) (fun _ _ => trivial)
   clear hW4 hb4' hb8 hbn hb11 hlen c1
   obtain ⟨o, hrun, hrg⟩ := (H1.out.below hb4).range uSR
   obtain ⟨W5, hW5⟩ : ∃ W5, W5 = W4.alloc o := ⟨_, rfl⟩
   have hb5 : Below w.heap.size w W5 := by rw [hW5]; exact hb4.alloc (by omega) _
   have hI5 := Aside0.mk (hI4.frame (W' := W5) (fun k hk => by
    rw [hW5]
    refine heap_alloc_old _ _ ?_
    rcases hk with rfl | rfl | hk
    ·omega
    ·omega
    ·exact hI4.slt k hk) (by rw [hW5]; simp))
   rw [← hW5] at hrg hrun
   have HRG := Aside0.mk hrg
   have HB5 := Aside0.mk hb5
   have hr4 : w.heap.size + 4 ≤ W4.heap.size := by omega
   clear hI4 hb4 hsz4 hrg hb5 hW5 HB
   generalize W4.heap.size = r at *
   go_wp2
   go_loopw [13] (fun v13 wr => ∃ (D A : List (ByteArray × Nat)) (nn : List (ByteArray × Nat)) (S : Nat → Prop), Aside0 ((D ++ A).Perm fr) ∧ Aside0 (RgS .string wr r M1 (ptrE fr) (ptrE A)) ∧ Aside0 (ImpAt B0 w.heap.size (w.heap.size + 1) (w.heap.size + 1 + 1 + 1) ms (w.heap.size + 1 + 1) seen res nn S wr) ∧ Aside0 (NN L seen nn (fun b => ∃ q ∈ D, (q.1, b) ∈ E)) ∧ Aside0 (NextS w.heap.size (fun k => k = ms ∨ (Value.slice A1 res.length n1).ownBlock = some k) S) ∧ Aside0 (Turn (fun k => k = ms ∨ (Value.slice A1 res.length n1).ownBlock = some k) w wr))
    (fun _ wr => leftS wr r M1)
   case atStart =>
    refine ⟨[], fr, [], _, ⟨List.Perm.refl _⟩, HRG, hI5, ⟨(NN.start L seen).iff (fun x => by simp)⟩, ⟨fun k hk => ?_⟩, ⟨Turn.ofBelow _ HB5.out⟩⟩
    rcases hk with h | h | h | h
    ·exact .inr (by omega)
    ·exact .inl (.inr h)
    ·exact .inl (.inl h)
    ·exact .inr (by omega)
   case round =>
    clear HRG hI5 HB5 hrun
    obtain ⟨D, A, nn, S, HP, HRG, HI, HNN, HNX, HT⟩ := hrel
    have HMr := Aside0.mk (HM.out.apart HT.out (fun k hk h => hk (HD.out k h)))
    have HSF := Aside0.mk (show ∀ k, S k → F k = none from fun k hk => by
     rcases HNX.out k hk with h | h
     ·exact HD.out k h
     ·cases hf : F k with
      | none => rfl
      | some z => exact absurd (HM.out k z.1 z.2 hf).lt (by omega))
    have HNT := Aside0.mk (show nn.length ≤ E.length from by
     have := len_sub HNN.out.nd (m := E.map (·.2)) (fun b hb => by
      obtain ⟨⟨q, hq, he⟩, _⟩ := (HNN.out.mem b).1 hb
      exact List.mem_map.2 ⟨_, he, rfl⟩)
     rw [List.length_map, List.length_map] at this
     exact this)
    rcases HRG.out.next (P := Tryz.prog) with ⟨hA, hnx⟩ | ⟨A', k, v, B', w1, hA, hnx, hrg1, hst1, hen⟩
    ·have hA0 : A = [] := List.map_eq_nil_iff.1 hA
     subst hA0
     rw [List.append_nil] at HP
     obtain ⟨v2, hv2, hR2, hS2⟩ := HI.out.h8
     have c7 := cell_of_one HI.out.h7
     have c8 := cell_of_one hv2
     have c11 := cell_of_one HI.out.h11
     have hw1 : wrap64 (lv + 1) = lv + 1 := posw (by omega) (by
      have := HN.out
      have := HMX.out
      omega)
     have HC := Aside0.mk (HIH.out (w := wr) (B0 := B0) (M1 := w.heap.size + 1 + 1) (ms := ms) (fr := nn) (seen := seen ++ nn.map (·.1)) (res := res ++ nn.map (·.1)) (v := v2) (lv := lv + 1) (by
      have := HN.out
      omega) (by omega) HMr.out HI.out.hn HI.out.hs (Ne.symm HI.out.ne) hR2 (fun k hk => HSF.out k ((hS2 k).2 (by
       rcases hk with h | h
       ·exact .inr (.inr (.inl h))
       ·exact .inr (.inl h)))) HNN.out.loc (by
      have h1 := HNT.out
      have h2 := hE.few
      omega) (fun x hx => (List.mem_append.1 hx).elim (fun h => List.mem_append_left _ (HRS.out x h)) (fun h => List.mem_append_right _ h)) (List.nodup_append.2 ⟨HRN.out, HNN.out.nd, fun a ha b hb e => ((HNN.out.mem b).1 hb).2 (by rw [← e]; exact HRS.out a ha)⟩) (fun x hx => by
       rcases List.mem_append.1 hx with h | h
       ·exact HRE.out x h
       ·obtain ⟨⟨q, hq, he⟩, _⟩ := (HNN.out.mem x).1 h
        exact List.mem_map.2 ⟨_, he, rfl⟩) HMS.out HI.out.sz)
     have HF := Aside0.mk (fun (w' : World) (hT : Turn (fun k => k = ms ∨ v2.ownBlock = some k) wr w') => show Turn (fun k => k = ms ∨ (Value.slice A1 res.length n1).ownBlock = some k) w w' from HT.out.trans HNX.out (hT.mono (fun k _ hk => (hS2 k).2 (by
      rcases hk with h | h
      ·exact .inr (.inr (.inl h))
      ·exact .inr (.inl h)))))
     have HLV := Aside0.mk (fun (new : List ByteArray) (hp : new.Perm (impN (rolesE E) n (seen ++ nn.map (·.1)) (nn.map (·.1)))) => imp_level (rolesE E) n (seen := seen) (F := fr.map (·.1)) (nnn := nn.map (·.1)) HNN.out.nd (fun x => by
      rw [HNN.out.mem]
      refine and_congr ?_ Iff.rfl
      constructor
      ·rintro ⟨q, hq, he⟩
       exact ⟨q.1, List.mem_map_of_mem (HP.out.mem_iff.1 hq), (rolesE_mem E _ _).2 he⟩
      ·rintro ⟨y, hy, he⟩
       obtain ⟨q, hq, rfl⟩ := List.mem_map.1 hy
       exact ⟨q, HP.out.mem_iff.2 hq, (rolesE_mem E _ _).1 he⟩) hp)
     clear hA hv2 hR2 hS2 HIH
     go_wp2_with (go_at_call 109; refine HC.out.mono ?_; rintro e w3 ⟨v', new, rfl, hp3, hR3, hT3⟩; have HP3 := Aside0.mk hp3; have HR3 := Aside0.mk hR3; have HT3 := Aside0.mk hT3; clear hp3 hR3 hT3)
     go_ret
     exact ⟨_, nn.map (·.1) ++ new, rfl, HLV.out new HP3.out, by rw [← List.append_assoc]; exact HR3.out, HF.out _ HT3.out⟩
    ·obtain ⟨P1, P2, hAA, hA1, hB1⟩ := List.map_eq_append_iff.1 hA
     obtain ⟨q, P3, hP2, hq, hB2⟩ := List.map_eq_cons_iff.1 hB1
     injection hq with hqk hqv
     subst hqk hqv hP2 hAA hA1 hB2
     obtain ⟨y, hy, hyn, hya⟩ := HFR.out q (HP.out.mem_iff.1 (by simp))
     have hsr : ¬ S r := fun h => by
      obtain ⟨v2, hv2, hR2, hS2⟩ := HI.out.h8
      have h1 := HS.out.lt
      rcases (hS2 r).1 h with h | h | h | h
      ·omega
      ·obtain ⟨_, _, _, z, _, cs, hc⟩ := (Kd.R_bound hR2).1 r h
       exact HRG.out.iter cs z (0, 0) hc
      ·omega
      ·omega
     have hsM : ¬ S M1 := fun h => by
      have h1 := H1.out.lt
      rcases HNX.out M1 h with (h | h) | h
      ·exact HNE.out h
      ·obtain ⟨_, _, _, z, _, cs, hc⟩ := (Kd.R_bound HV.out).1 M1 h
       exact H1.out.cell cs z (0, 0) hc
      ·omega
     have hrl := HRG.out.lt.1
     have ht1 : Turn (fun k => k = ms ∨ (Value.slice A1 res.length n1).ownBlock = some k) w w1 := ⟨hst1.os.trans HT.out.os, hst1.tape.trans HT.out.tape, hst1.output.trans HT.out.output, by rw [hst1.size]; exact HT.out.size, fun k hk hn => (hst1.block k (by omega)).trans (HT.out.block k hk hn)⟩
     have hM1 : Mem w1 F := HM.out.apart ht1 (fun k hk h => hk (HD.out k h))
     have hI1 := HI.out.frame (W' := w1) (fun k hk => hst1.block k (by
      rcases hk with h | h | h
      ·omega
      ·omega
      ·exact fun e => hsr (by rw [← e]; exact h))) (by rw [hst1.size]; exact Nat.le_refl _)
     have hfl := hE.few
     have hsz1 := hst1.size
     have hrs := imp_rstep_roles (w := w1) hG hy (B0 := B0) (b7 := w.heap.size) (b8 := w.heap.size + 1) (b11 := w.heap.size + 1 + 1 + 1) (ms := ms) (mn := w.heap.size + 1 + 1) (seen := seen) (res := res) (M := fun b => ∃ q ∈ D, (q.1, b) ∈ E) (T := E.map (·.2)) (by rw [List.length_map]; exact hfl) (fun b hb => List.mem_map.2 ⟨_, hb, rfl⟩) (fun b ⟨z, _, hb⟩ => List.mem_map.2 ⟨_, hb, rfl⟩) (by
      have := len_sub HRN.out HRE.out
      rw [List.length_map] at this
      omega) (by omega) (by omega)
     have HRR := Aside0.mk (range_roles hM1 hR hG hy (hG.pr hE hy).2.1 (n := 121) (caps := #[PT w.heap.size, PT (w.heap.size + 1), PT (w.heap.size + 1 + 1 + 1)]) (fun args w => by kernel_rfl) hrs ⟨nn, hI1, by omega, by omega, HNN.out.iff (fun b => by simp), by simp⟩ hI1.slt (fun k hk => HSF.out k hk))
     have hmf : ∀ (fn : Fn) (first cap : Array Value) (w : World), (Instr.makeFunc fn first cap).run Tryz.prog w = .ok (.func fn first cap) w := fun _ _ _ _ => rfl
     have HMV := Aside0.mk (fun (w' : World) (done : Ents) (S' : Nat → Prop) (nn' : List (ByteArray × Nat)) (hp : done.Perm (ents y.R)) (hn : NN L seen nn' (fun b => (∃ q ∈ D, (q.1, b) ∈ E) ∨ b ∈ done.map (·.1))) (hN : NextS w1.heap.size S S') (hT2 : Turn S w1 w') => show RgS .string w' r M1 (ptrE fr) (ptrE (P1 ++ P3)) ∧ NN L seen nn' (fun b => ∃ z ∈ D ++ [q], (z.1, b) ∈ E) ∧ NextS w.heap.size (fun k => k = ms ∨ (Value.slice A1 res.length n1).ownBlock = some k) S' ∧ Turn (fun k => k = ms ∨ (Value.slice A1 res.length n1).ownBlock = some k) w w' from by
      refine ⟨?_, hn.iff (fun b => ?_), HNX.out.trans hN ht1.size, ht1.trans HNX.out hT2⟩
      ·have hrg2 : RgS .string w1 r M1 (ptrE fr) (ptrE (P1 ++ P3)) := by
        have e : ptrE (P1 ++ P3) = ptrE P1 ++ ptrE P3 := by unfold ptrE; rw [List.map_append]
        rw [e]; exact hrg1
       exact hrg2.keep (hT2.block r (by omega) hsr) (hT2.block M1 hrg1.lt.2 hsM)
      ·have e1 : b ∈ done.map (·.1) ↔ (q.1, b) ∈ E := by
        rw [(hp.map (·.1)).mem_iff, ← hyn, ← hG.r y hy b]
        unfold ents
        rw [List.map_map]
        exact Iff.rfl
       rw [e1]
       constructor
       ·rintro (⟨z, hz, h⟩ | h)
        ·exact ⟨z, List.mem_append_left _ hz, h⟩
        ·exact ⟨q, by simp, h⟩
       ·rintro ⟨z, hz, h⟩
        rcases List.mem_append.1 hz with hz | hz
        ·exact .inl ⟨z, hz, h⟩
        ·rw [List.mem_singleton] at hz
         exact .inr (by rw [← hz]; exact h))
     have HCT := Aside0.mk (show ∀ w', RgS .string w' r M1 (ptrE fr) (ptrE (P1 ++ P3)) → leftS w' r M1 < leftS wr r M1 from fun w' h => by
      rw [h.count, HRG.out.count]
      unfold ptrE
      simp)
     have HPP := Aside0.mk (perm_mid HP.out)
     rw [← hya] at hen hnx
     have hyl := (hM1 _ _ _ (hR.roles y hy).a).lt
     clear hA hB1 hyn hya hsr hsM hrl ht1 hM1 hI1 hfl hsz1 hrs hst1 hrg1 HRG HT HI HNN HNX HNT HSF HMr HIH hy
     go_wp2_with (go_at_call 120; refine HRR.out.mono ?_; rintro e w2 ⟨rfl, done, S', hp, ⟨nn', hI', hl1, hl2, hN', hT'⟩, hNx, hTu⟩; obtain ⟨g1, g2, g3, g4⟩ := HMV.out w2 done S' nn' hp hN' hNx hTu; have G1 := Aside0.mk g1; have G2 := Aside0.mk g2; have G3 := Aside0.mk g3; have G4 := Aside0.mk g4; have G5 := Aside0.mk hI'; clear g1 g2 g3 g4 hI' hl1 hl2 hN' hT' hNx hTu hp)
     go_roundw
     case rel => exact ⟨D ++ [q], P1 ++ P3, nn', S', HPP, G1, G5, G2, G3, G4⟩
     case measure => exact HCT.out _ G1.out
set_option maxHeartbeats 8000000 in
set_option maxRecDepth 100000 in
theorem imp_helper_users {F : Fp} {p s c : Nat} {max : Int} {mc : List Value} {m : Option Nat} {L : List RoleB} {E : Edges} (hmax : 0 ≤ max ∧ max ≤ 1000000) (hR : RMF F p s c max mc m L) (hG : Graph L E) (hE : EOk E) : ∀ (n : Nat) {w : World} {B0 M1 ms : Nat} {fr : List (ByteArray × Nat)} {seen res : List ByteArray} {v : Value} {lv : Int}, (max - lv).toNat = n → 0 ≤ lv → Mem w F → KM .string w M1 (ptrE fr) → KM .string w ms (boolE seen) → M1 ≠ ms → Kd.R Kd.string 9 w B0 (fun _ => True) v res → (∀ k, k = ms ∨ v.ownBlock = some k → F k = none) → (∀ q ∈ fr, ∃ y ∈ L, y.name = q.1 ∧ y.a = q.2) → fr.length ≤ 1000001 → (∀ x ∈ res, x ∈ seen) → res.Nodup → (∀ x ∈ res, x ∈ E.map (·.1)) → B0 ≤ ms → B0 ≤ w.heap.size →
  Calls Tryz.prog 110 #[PT p, .map (some M1), .map (some ms), v, .int .i64 lv] w fun e w' => ∃ v' new, e = .returned v' ∧ new.Perm (impN (usersE E) n seen (fr.map (·.1))) ∧ Kd.R Kd.string 9 w' B0 (fun _ => True) v' (res ++ new) ∧ Turn (fun k => k = ms ∨ v.ownBlock = some k) w w' := by
 intro n
 induction n with
 | zero =>
  intro w B0 M1 ms fr seen res v lv hn hlv hM h1 hs hne hv hd hfr hfl hrs hrn hre hms hB
  have c1 : ∀ o1 o2, ((w.alloc o1).alloc o2).cell? ⟨p, 1, none⟩ = some (.int .i64 max) := fun o1 o2 => load_cell ((hM.below ((Below.refl _ _).alloc (Nat.le_refl _) o1)).below ((Below.refl _ _).alloc (Nat.le_refl _) o2)) hR.p rfl
  have hge : decide (lv ≥ max) = true := decide_eq_true (by omega)
  have HB := Aside0.mk (fun o1 o2 => show Below w.heap.size w ((w.alloc o1).alloc o2) from ((Below.refl _ _).alloc (Nat.le_refl _) o1).alloc (by simp) o2)
  have HV := Aside0.mk hv
  obtain ⟨A1, n1, e1⟩ := Kd.R_slice hv
  subst e1
  clear h1 hs hne hv hd hfr hfl hrs hrn hre hms hB hM hn
  go_enter Tryz.func110, Tryz.ntmps110
  go_wp2
  go_ret
  refine ⟨_, [], rfl, List.Perm.refl _, ?_, Turn.ofBelow _ (HB.out _ _)⟩
  rw [List.append_nil]
  exact Kd.R_mono (Kd.R_move (Kd.R_bound HV.out) (fun k hk => (HB.out _ _).block k hk.2.2.1)) (fun _ _ => trivial)
 | succ n ih =>
  intro w B0 M1 ms fr seen res v lv hn hlv hM h1 hs hne hv hd hfr hfl hrs hrn hre hms hB
  have c1 : ∀ o1 o2, ((w.alloc o1).alloc o2).cell? ⟨p, 1, none⟩ = some (.int .i64 max) := fun o1 o2 => load_cell ((hM.below ((Below.refl _ _).alloc (Nat.le_refl _) o1)).below ((Below.refl _ _).alloc (Nat.le_refl _) o2)) hR.p rfl
  have hge : decide (lv ≥ max) = false := decide_eq_false (by omega)
  have hbb : ∀ o1 o2, Below w.heap.size w ((w.alloc o1).alloc o2) := fun o1 o2 => ((Below.refl _ _).alloc (Nat.le_refl _) o1).alloc (by simp) o2
  have HB := Aside0.mk hbb
  have hlen := fun o1 o2 => (h1.below (hbb o1 o2)).len (ty := 3) uSR
  have hel : (ptrE fr).length = fr.length := by unfold ptrE; rw [List.length_map]
  rw [hel] at hlen
  obtain ⟨A1, n1, e1⟩ := Kd.R_slice hv
  by_cases hfe : fr = []
  ·have HV := Aside0.mk hv
   subst hfe
   subst e1
   clear h1 hs hne hv hd hfr hfl hrs hrn hre hms hB hM hn hbb hel ih
   go_enter Tryz.func110, Tryz.ntmps110
   go_wp2
   go_ret
   refine ⟨_, [], rfl, ?_, ?_, Turn.ofBelow _ (HB.out _ _)⟩
   ·rw [List.map_nil, impN_none]
   rw [List.append_nil]
   exact Kd.R_mono (Kd.R_move (Kd.R_bound HV.out) (fun k hk => (HB.out _ _).block k hk.2.2.1)) (fun _ _ => trivial)
  ·have hl0 : ((fr.length : Int) == 0) = false := by
    have := List.length_pos_iff.2 hfe
    exact beq_eq_false_iff_ne.2 (by omega)
   have hpre := hv
   subst e1
   have HV := Aside0.mk hv
   have H1 := Aside0.mk h1
   have HS := Aside0.mk hs
   have HNE := Aside0.mk hne
   have HD := Aside0.mk hd
   have HFR := Aside0.mk hfr
   have HFL := Aside0.mk hfl
   have HRS := Aside0.mk hrs
   have HRN := Aside0.mk hrn
   have HRE := Aside0.mk hre
   have HMS := Aside0.mk hms
   have HBZ := Aside0.mk hB
   have HM := Aside0.mk hM
   have HN := Aside0.mk hn
   have HIH := Aside0.mk @ih
   have HMX := Aside0.mk hmax
   have hmm := @run_makeMap Tryz.prog
   clear h1 hs hne hv hd hfr hfl hrs hrn hre hms hB hM hn hbb hel ih hfe hmax hpre
   go_enter Tryz.func110, Tryz.ntmps110
   go_upto_region 4 with (fail)
   obtain ⟨W4, hW4⟩ : ∃ W4, W4 = ((((w.alloc (Obj.cells #[Value.map (some ms)] 163)).alloc (Obj.cells #[Value.slice A1 res.length n1] 38)).alloc (Obj.map #[] 0)).alloc (Obj.cells #[Value.map (some (w.heap.size + 1 + 1))] 164)) := ⟨_, rfl⟩
   have hsz4 : W4.heap.size = w.heap.size + 4 := by rw [hW4]; simp
   have hb4 : Below w.heap.size w W4 := by rw [hW4]; exact ((HB.out _ _).alloc (by simp <;> omega) _).alloc (by simp <;> omega) _
   have hb4' : W4.heap[w.heap.size]? = some (.cells #[.map (some ms)] 163 (0, 0)) := by
    rw [hW4, heap_alloc_old _ _ (by simp <;> omega), heap_alloc_old _ _ (by simp <;> omega), heap_alloc_old _ _ (by simp)]
    exact heap_alloc_new _ _
   have hb8 : W4.heap[w.heap.size + 1]? = some (.cells #[.slice A1 res.length n1] 38 (0, 0)) := by
    rw [hW4, heap_alloc_old _ _ (by simp <;> omega), heap_alloc_old _ _ (by simp)]
    have := heap_alloc_new (w.alloc (Obj.cells #[Value.map (some ms)] 163)) (Obj.cells #[Value.slice A1 res.length n1] 38)
    simpa using this
   have hbn : KM .string W4 (w.heap.size + 1 + 1) (ptrE []) := by
    rw [hW4]
    have h1 := KM.made (ky := .string) ((w.alloc (Obj.cells #[Value.map (some ms)] 163)).alloc (Obj.cells #[Value.slice A1 res.length n1] 38))
    have h2 : ((w.alloc (Obj.cells #[Value.map (some ms)] 163)).alloc (Obj.cells #[Value.slice A1 res.length n1] 38)).heap.size = w.heap.size + 1 + 1 := by simp
    rw [h2] at h1
    exact h1.keep (heap_alloc_old _ _ (by simp))
   have hb11 : W4.heap[w.heap.size + 1 + 1 + 1]? = some (.cells #[.map (some (w.heap.size + 1 + 1))] 164 (0, 0)) := by
    rw [hW4]
    have := heap_alloc_new (((w.alloc (Obj.cells #[Value.map (some ms)] 163)).alloc (Obj.cells #[Value.slice A1 res.length n1] 38)).alloc (Obj.map #[] 0)) (Obj.cells #[Value.map (some (w.heap.size + 1 + 1))] 164)
    simpa using this
   rw [← hW4]
   have hI4 : ImpAt B0 w.heap.size (w.heap.size + 1) (w.heap.size + 1 + 1 + 1) ms (w.heap.size + 1 + 1) seen res [] (fun k => k = w.heap.size + 1 ∨ (Value.slice A1 res.length n1).ownBlock = some k ∨ k = ms ∨ k = w.heap.size + 1 + 1) W4 := by
    have hml := HS.out.lt
    have hB := HBZ.out
    refine ⟨hb4', ?_, ⟨_, hb8, ?_, fun k => Iff.rfl⟩, hb11, hbn, by omega, ⟨by omega, HMS.out, by omega⟩, by omega⟩
    ·rw [List.map_nil, List.append_nil]; exact HS.out.below hb4
    ·rw [List.map_nil, List.append_nil]
     exact Kd.R_mono (Kd.R_move (Kd.R_bound HV.out) (fun k hk => hb4.block k hk.2.2.1)) (fun _ _ => trivial)
   clear hW4 hb4' hb8 hbn hb11 hlen c1
   obtain ⟨o, hrun, hrg⟩ := (H1.out.below hb4).range uSR
   obtain ⟨W5, hW5⟩ : ∃ W5, W5 = W4.alloc o := ⟨_, rfl⟩
   have hb5 : Below w.heap.size w W5 := by rw [hW5]; exact hb4.alloc (by omega) _
   have hI5 := Aside0.mk (hI4.frame (W' := W5) (fun k hk => by
    rw [hW5]
    refine heap_alloc_old _ _ ?_
    rcases hk with rfl | rfl | hk
    ·omega
    ·omega
    ·exact hI4.slt k hk) (by rw [hW5]; simp))
   rw [← hW5] at hrg hrun
   have HRG := Aside0.mk hrg
   have HB5 := Aside0.mk hb5
   have hr4 : w.heap.size + 4 ≤ W4.heap.size := by omega
   clear hI4 hb4 hsz4 hrg hb5 hW5 HB
   generalize W4.heap.size = r at *
   go_wp2
   go_loopw [13] (fun v13 wr => ∃ (D A : List (ByteArray × Nat)) (nn : List (ByteArray × Nat)) (S : Nat → Prop), Aside0 ((D ++ A).Perm fr) ∧ Aside0 (RgS .string wr r M1 (ptrE fr) (ptrE A)) ∧ Aside0 (ImpAt B0 w.heap.size (w.heap.size + 1) (w.heap.size + 1 + 1 + 1) ms (w.heap.size + 1 + 1) seen res nn S wr) ∧ Aside0 (NN L seen nn (fun b => ∃ q ∈ D, (b, q.1) ∈ E)) ∧ Aside0 (NextS w.heap.size (fun k => k = ms ∨ (Value.slice A1 res.length n1).ownBlock = some k) S) ∧ Aside0 (Turn (fun k => k = ms ∨ (Value.slice A1 res.length n1).ownBlock = some k) w wr))
    (fun _ wr => leftS wr r M1)
   case atStart =>
    refine ⟨[], fr, [], _, ⟨List.Perm.refl _⟩, HRG, hI5, ⟨(NN.start L seen).iff (fun x => by simp)⟩, ⟨fun k hk => ?_⟩, ⟨Turn.ofBelow _ HB5.out⟩⟩
    rcases hk with h | h | h | h
    ·exact .inr (by omega)
    ·exact .inl (.inr h)
    ·exact .inl (.inl h)
    ·exact .inr (by omega)
   case round =>
    clear HRG hI5 HB5 hrun
    obtain ⟨D, A, nn, S, HP, HRG, HI, HNN, HNX, HT⟩ := hrel
    have HMr := Aside0.mk (HM.out.apart HT.out (fun k hk h => hk (HD.out k h)))
    have HSF := Aside0.mk (show ∀ k, S k → F k = none from fun k hk => by
     rcases HNX.out k hk with h | h
     ·exact HD.out k h
     ·cases hf : F k with
      | none => rfl
      | some z => exact absurd (HM.out k z.1 z.2 hf).lt (by omega))
    have HNT := Aside0.mk (show nn.length ≤ E.length from by
     have := len_sub HNN.out.nd (m := E.map (·.1)) (fun b hb => by
      obtain ⟨⟨q, hq, he⟩, _⟩ := (HNN.out.mem b).1 hb
      exact List.mem_map.2 ⟨_, he, rfl⟩)
     rw [List.length_map, List.length_map] at this
     exact this)
    rcases HRG.out.next (P := Tryz.prog) with ⟨hA, hnx⟩ | ⟨A', k, v, B', w1, hA, hnx, hrg1, hst1, hen⟩
    ·have hA0 : A = [] := List.map_eq_nil_iff.1 hA
     subst hA0
     rw [List.append_nil] at HP
     obtain ⟨v2, hv2, hR2, hS2⟩ := HI.out.h8
     have c7 := cell_of_one HI.out.h7
     have c8 := cell_of_one hv2
     have c11 := cell_of_one HI.out.h11
     have hw1 : wrap64 (lv + 1) = lv + 1 := posw (by omega) (by
      have := HN.out
      have := HMX.out
      omega)
     have HC := Aside0.mk (HIH.out (w := wr) (B0 := B0) (M1 := w.heap.size + 1 + 1) (ms := ms) (fr := nn) (seen := seen ++ nn.map (·.1)) (res := res ++ nn.map (·.1)) (v := v2) (lv := lv + 1) (by
      have := HN.out
      omega) (by omega) HMr.out HI.out.hn HI.out.hs (Ne.symm HI.out.ne) hR2 (fun k hk => HSF.out k ((hS2 k).2 (by
       rcases hk with h | h
       ·exact .inr (.inr (.inl h))
       ·exact .inr (.inl h)))) HNN.out.loc (by
      have h1 := HNT.out
      have h2 := hE.few
      omega) (fun x hx => (List.mem_append.1 hx).elim (fun h => List.mem_append_left _ (HRS.out x h)) (fun h => List.mem_append_right _ h)) (List.nodup_append.2 ⟨HRN.out, HNN.out.nd, fun a ha b hb e => ((HNN.out.mem b).1 hb).2 (by rw [← e]; exact HRS.out a ha)⟩) (fun x hx => by
       rcases List.mem_append.1 hx with h | h
       ·exact HRE.out x h
       ·obtain ⟨⟨q, hq, he⟩, _⟩ := (HNN.out.mem x).1 h
        exact List.mem_map.2 ⟨_, he, rfl⟩) HMS.out HI.out.sz)
     have HF := Aside0.mk (fun (w' : World) (hT : Turn (fun k => k = ms ∨ v2.ownBlock = some k) wr w') => show Turn (fun k => k = ms ∨ (Value.slice A1 res.length n1).ownBlock = some k) w w' from HT.out.trans HNX.out (hT.mono (fun k _ hk => (hS2 k).2 (by
      rcases hk with h | h
      ·exact .inr (.inr (.inl h))
      ·exact .inr (.inl h)))))
     have HLV := Aside0.mk (fun (new : List ByteArray) (hp : new.Perm (impN (usersE E) n (seen ++ nn.map (·.1)) (nn.map (·.1)))) => imp_level (usersE E) n (seen := seen) (F := fr.map (·.1)) (nnn := nn.map (·.1)) HNN.out.nd (fun x => by
      rw [HNN.out.mem]
      refine and_congr ?_ Iff.rfl
      constructor
      ·rintro ⟨q, hq, he⟩
       exact ⟨q.1, List.mem_map_of_mem (HP.out.mem_iff.1 hq), (usersE_mem E _ _).2 he⟩
      ·rintro ⟨y, hy, he⟩
       obtain ⟨q, hq, rfl⟩ := List.mem_map.1 hy
       exact ⟨q, HP.out.mem_iff.2 hq, (usersE_mem E _ _).1 he⟩) hp)
     clear hA hv2 hR2 hS2 HIH
     go_wp2_with (go_at_call 110; refine HC.out.mono ?_; rintro e w3 ⟨v', new, rfl, hp3, hR3, hT3⟩; have HP3 := Aside0.mk hp3; have HR3 := Aside0.mk hR3; have HT3 := Aside0.mk hT3; clear hp3 hR3 hT3)
     go_ret
     exact ⟨_, nn.map (·.1) ++ new, rfl, HLV.out new HP3.out, by rw [← List.append_assoc]; exact HR3.out, HF.out _ HT3.out⟩
    ·obtain ⟨P1, P2, hAA, hA1, hB1⟩ := List.map_eq_append_iff.1 hA
     obtain ⟨q, P3, hP2, hq, hB2⟩ := List.map_eq_cons_iff.1 hB1
     injection hq with hqk hqv
     subst hqk hqv hP2 hAA hA1 hB2
     obtain ⟨y, hy, hyn, hya⟩ := HFR.out q (HP.out.mem_iff.1 (by simp))
     have hsr : ¬ S r := fun h => by
      obtain ⟨v2, hv2, hR2, hS2⟩ := HI.out.h8
      have h1 := HS.out.lt
      rcases (hS2 r).1 h with h | h | h | h
      ·omega
      ·obtain ⟨_, _, _, z, _, cs, hc⟩ := (Kd.R_bound hR2).1 r h
       exact HRG.out.iter cs z (0, 0) hc
      ·omega
      ·omega
     have hsM : ¬ S M1 := fun h => by
      have h1 := H1.out.lt
      rcases HNX.out M1 h with (h | h) | h
      ·exact HNE.out h
      ·obtain ⟨_, _, _, z, _, cs, hc⟩ := (Kd.R_bound HV.out).1 M1 h
       exact H1.out.cell cs z (0, 0) hc
      ·omega
     have hrl := HRG.out.lt.1
     have ht1 : Turn (fun k => k = ms ∨ (Value.slice A1 res.length n1).ownBlock = some k) w w1 := ⟨hst1.os.trans HT.out.os, hst1.tape.trans HT.out.tape, hst1.output.trans HT.out.output, by rw [hst1.size]; exact HT.out.size, fun k hk hn => (hst1.block k (by omega)).trans (HT.out.block k hk hn)⟩
     have hM1 : Mem w1 F := HM.out.apart ht1 (fun k hk h => hk (HD.out k h))
     have hI1 := HI.out.frame (W' := w1) (fun k hk => hst1.block k (by
      rcases hk with h | h | h
      ·omega
      ·omega
      ·exact fun e => hsr (by rw [← e]; exact h))) (by rw [hst1.size]; exact Nat.le_refl _)
     have hfl := hE.few
     have hsz1 := hst1.size
     have hrs := imp_rstep_users (w := w1) hG hy (B0 := B0) (b7 := w.heap.size) (b8 := w.heap.size + 1) (b11 := w.heap.size + 1 + 1 + 1) (ms := ms) (mn := w.heap.size + 1 + 1) (seen := seen) (res := res) (M := fun b => ∃ q ∈ D, (b, q.1) ∈ E) (T := E.map (·.1)) (by rw [List.length_map]; exact hfl) (fun b hb => List.mem_map.2 ⟨_, hb, rfl⟩) (fun b ⟨z, _, hb⟩ => List.mem_map.2 ⟨_, hb, rfl⟩) (by
      have := len_sub HRN.out HRE.out
      rw [List.length_map] at this
      omega) (by omega) (by omega)
     have HRR := Aside0.mk (range_users hM1 hR hG hy (hG.pu hE hy).2.1 (n := 123) (caps := #[PT w.heap.size, PT (w.heap.size + 1), PT (w.heap.size + 1 + 1 + 1)]) (fun args w => by kernel_rfl) hrs ⟨nn, hI1, by omega, by omega, HNN.out.iff (fun b => by simp), by simp⟩ hI1.slt (fun k hk => HSF.out k hk))
     have hmf : ∀ (fn : Fn) (first cap : Array Value) (w : World), (Instr.makeFunc fn first cap).run Tryz.prog w = .ok (.func fn first cap) w := fun _ _ _ _ => rfl
     have HMV := Aside0.mk (fun (w' : World) (done : Ents) (S' : Nat → Prop) (nn' : List (ByteArray × Nat)) (hp : done.Perm (ents y.U)) (hn : NN L seen nn' (fun b => (∃ q ∈ D, (b, q.1) ∈ E) ∨ b ∈ done.map (·.1))) (hN : NextS w1.heap.size S S') (hT2 : Turn S w1 w') => show RgS .string w' r M1 (ptrE fr) (ptrE (P1 ++ P3)) ∧ NN L seen nn' (fun b => ∃ z ∈ D ++ [q], (b, z.1) ∈ E) ∧ NextS w.heap.size (fun k => k = ms ∨ (Value.slice A1 res.length n1).ownBlock = some k) S' ∧ Turn (fun k => k = ms ∨ (Value.slice A1 res.length n1).ownBlock = some k) w w' from by
      refine ⟨?_, hn.iff (fun b => ?_), HNX.out.trans hN ht1.size, ht1.trans HNX.out hT2⟩
      ·have hrg2 : RgS .string w1 r M1 (ptrE fr) (ptrE (P1 ++ P3)) := by
        have e : ptrE (P1 ++ P3) = ptrE P1 ++ ptrE P3 := by unfold ptrE; rw [List.map_append]
        rw [e]; exact hrg1
       exact hrg2.keep (hT2.block r (by omega) hsr) (hT2.block M1 hrg1.lt.2 hsM)
      ·have e1 : b ∈ done.map (·.1) ↔ (b, q.1) ∈ E := by
        rw [(hp.map (·.1)).mem_iff, ← hyn, ← hG.u y hy b]
        unfold ents
        rw [List.map_map]
        exact Iff.rfl
       rw [e1]
       constructor
       ·rintro (⟨z, hz, h⟩ | h)
        ·exact ⟨z, List.mem_append_left _ hz, h⟩
        ·exact ⟨q, by simp, h⟩
       ·rintro ⟨z, hz, h⟩
        rcases List.mem_append.1 hz with hz | hz
        ·exact .inl ⟨z, hz, h⟩
        ·rw [List.mem_singleton] at hz
         exact .inr (by rw [← hz]; exact h))
     have HCT := Aside0.mk (show ∀ w', RgS .string w' r M1 (ptrE fr) (ptrE (P1 ++ P3)) → leftS w' r M1 < leftS wr r M1 from fun w' h => by
      rw [h.count, HRG.out.count]
      unfold ptrE
      simp)
     have HPP := Aside0.mk (perm_mid HP.out)
     rw [← hya] at hen hnx
     have hyl := (hM1 _ _ _ (hR.roles y hy).a).lt
     clear hA hB1 hyn hya hsr hsM hrl ht1 hM1 hI1 hfl hsz1 hrs hst1 hrg1 HRG HT HI HNN HNX HNT HSF HMr HIH hy
     go_wp2_with (go_at_call 122; refine HRR.out.mono ?_; rintro e w2 ⟨rfl, done, S', hp, ⟨nn', hI', hl1, hl2, hN', hT'⟩, hNx, hTu⟩; obtain ⟨g1, g2, g3, g4⟩ := HMV.out w2 done S' nn' hp hN' hNx hTu; have G1 := Aside0.mk g1; have G2 := Aside0.mk g2; have G3 := Aside0.mk g3; have G4 := Aside0.mk g4; have G5 := Aside0.mk hI'; clear g1 g2 g3 g4 hI' hl1 hl2 hN' hT' hNx hTu hp)
     go_roundw
     case rel => exact ⟨D ++ [q], P1 ++ P3, nn', S', HPP, G1, G5, G2, G3, G4⟩
     case measure => exact HCT.out _ G1.out
end
/-! GetImplicitRoles, GetImplicitUsers of a role manager. -/
section
open Go.Proofs
set_option maxHeartbeats 8000000 in
set_option maxRecDepth 100000 in
theorem rm_imp_roles {F : Fp} {w : World} {p s c : Nat} {max : Int} {mc : List Value} {m : Option Nat} {L : List RoleB} {E : Edges} (hmax : 0 ≤ max ∧ max ≤ 1000000) (hM : Mem w F) (hR : RMF F p s c max mc m L) (hG : Graph L E) (hE : EOk E) (n : ByteArray) (dv : Value) :
  Calls Tryz.prog 101 #[PT p, .string n, dv] w fun e w' => ∃ v l, e = .returned (.tuple #[v, .nilIface]) ∧ l.Perm (impl (rolesE E) max.toNat n) ∧ Kd.R Kd.string 9 w' w.heap.size (fun _ => True) v l ∧ RMPost F w p s c max mc E w' := by
 by_cases hin : n ∈ L.map (·.name)
 ·have HG1 := Aside0.mk (get_role_old hM hR hG hin)
  have HGG := Aside0.mk hG
  clear hM hR hG hin
  have hmm := @run_makeMap Tryz.prog
  go_enter_defers Tryz.func101, Tryz.ntmps101
  go_upto_region 2 with (go_at_call 58; refine HG1.out.mono ?_; rintro e w2 ⟨x, F1, m1, rfl, hM1, hR1, hx1, hxn, hn1, ht1⟩)
  have hG1 := HGG.out
  obtain ⟨es1, c1, hrun1, hk1⟩ := (KM.made (ky := .string) w2).put uSB keyS n (.bool true)
  obtain ⟨W6, hW6⟩ : ∃ W6, W6 = setO (w2.alloc (.map #[] 0)) w2.heap.size (.map es1 c1) := ⟨_, rfl⟩
  have hs6 : W6.heap.size = w2.heap.size + 1 := by rw [hW6, setO_size]; simp
  have hb6 : Below w2.heap.size w2 W6 := by
   rw [hW6]
   exact ⟨rfl, rfl, rfl, by rw [setO_size]; simp, fun k hk => (setO_ne (by omega)).trans (heap_alloc_old _ _ hk)⟩
  rw [← hW6] at hk1 hrun1
  obtain ⟨es2, c2, hrun2, hk2⟩ := (KM.made (ky := .string) W6).put uSR keyS n (PT x.a)
  rw [hs6] at hrun2 hk2
  obtain ⟨W7, hW7⟩ : ∃ W7, W7 = setO (W6.alloc (.map #[] 0)) (w2.heap.size + 1) (.map es2 c2) := ⟨_, rfl⟩
  have hs7 : W7.heap.size = w2.heap.size + 2 := by rw [hW7, setO_size]; simp; omega
  have hb67 : Below W6.heap.size W6 W7 := by
   rw [hW7]
   exact ⟨rfl, rfl, rfl, by rw [setO_size]; simp, fun k hk => (setO_ne (by omega)).trans (heap_alloc_old _ _ hk)⟩
  rw [← hW7] at hk2 hrun2
  have hb7 : Below w2.heap.size w2 W7 := hb6.trans (hb67.mono (by omega))
  have c0 : w2.cell? ⟨x.a, 0, none⟩ = some (.string n) := by rw [← hxn]; exact load_cell hM1 (hR1.roles x hx1).a rfl
  have c6 : (W6.alloc (.map #[] 0)).cell? ⟨x.a, 0, none⟩ = some (.string n) := by rw [← hxn]; exact load_cell (hM1.below (hb6.alloc (by omega) _)) (hR1.roles x hx1).a rfl
  have hnone : F1 w2.heap.size = none := by
   cases hf : F1 w2.heap.size with
   | none => rfl
   | some z => exact absurd (hM1 _ z.1 z.2 hf).lt (Nat.lt_irrefl _)
  have HH := Aside0.mk (imp_helper_roles hmax hR1 hG1 hE max.toNat (w := W7) (B0 := w2.heap.size) (M1 := w2.heap.size + 1) (ms := w2.heap.size) (fr := [(n, x.a)]) (seen := [n]) (res := []) (v := .slice none 0 0) (lv := 0) (by omega) (by omega) (hM1.below hb7) hk2 (hk1.below (hb67)) (by omega) (Kd.R_nil _ _ _ _ _) (fun k hk => by
   rcases hk with rfl | hk
   ·exact hnone
   ·cases hk) (fun q hq => by
   rw [List.mem_singleton] at hq
   exact ⟨x, hx1, by rw [hq]; exact hxn, by rw [hq]⟩) (by simp) (by simp) (by simp) (by simp) (by omega) (by omega))
  have HBB := Aside0.mk (fun (w3 : World) (hT : Turn (fun k => k = w2.heap.size ∨ (Value.slice none 0 0).ownBlock = some k) W7 w3) => show Below w2.heap.size w2 w3 from hT.toBelow hb7 (by omega) (fun k hk => by
   rcases hk with rfl | hk
   ·exact Nat.le_refl _
   ·cases hk))
  have HF := Aside0.mk (fun (w3 : World) (hb : Below w2.heap.size w2 w3) => show RMPost F w p s c max mc E w3 from ⟨F1, m1, L, hM1.below hb, hR1, HGG.out, hn1, ht1.trans hn1 (Turn.ofBelow _ hb)⟩)
  have HSZ := Aside0.mk ht1.size
  have hxl := (hM1 _ _ _ (hR1.roles x hx1).a).lt
  clear hM1 hR1 hG1 hx1 hxn hn1 ht1 HG1 HGG hb6 hb67 hb7 hs7 hk1 hk2 hnone
  go_upto_region 7 with (fail)
  rw [← hW6]
  clear hW6 hrun1
  go_upto_region 8 with (fail)
  rw [← hW7]
  clear hW7 hrun2
  go_wp2_with (go_at_call 109; refine HH.out.mono ?_; rintro e w3 ⟨v, l, rfl, h1, h2, h3⟩; have HL := Aside0.mk h1; have HR3 := Aside0.mk h2; have HB3 := Aside0.mk (HBB.out w3 h3); clear h1 h2 h3)
  refine ⟨_, results_tmp2 rfl _ _ _, ?_⟩
  exact ⟨_, l, rfl, HL.out, Kd.R_lower HR3.out HSZ.out, HF.out _ HB3.out⟩
 ·have HG1 := Aside0.mk (get_role_new hM hR hG hin)
  have HGG := Aside0.mk hG
  have hpl := (hM _ _ _ hR.p).lt
  clear hM hR hG hin
  have hmm := @run_makeMap Tryz.prog
  go_enter_defers Tryz.func101, Tryz.ntmps101
  go_upto_region 2 with (go_at_call 58; refine HG1.out.mono ?_; rintro e w2 ⟨x, F1, m1, rfl, hM1, hR1, hG1, hxn, hn1, ht1⟩)
  have hx1 : x ∈ L ++ [x] := by simp
  obtain ⟨es1, c1, hrun1, hk1⟩ := (KM.made (ky := .string) w2).put uSB keyS n (.bool true)
  obtain ⟨W6, hW6⟩ : ∃ W6, W6 = setO (w2.alloc (.map #[] 0)) w2.heap.size (.map es1 c1) := ⟨_, rfl⟩
  have hs6 : W6.heap.size = w2.heap.size + 1 := by rw [hW6, setO_size]; simp
  have hb6 : Below w2.heap.size w2 W6 := by
   rw [hW6]
   exact ⟨rfl, rfl, rfl, by rw [setO_size]; simp, fun k hk => (setO_ne (by omega)).trans (heap_alloc_old _ _ hk)⟩
  rw [← hW6] at hk1 hrun1
  obtain ⟨es2, c2, hrun2, hk2⟩ := (KM.made (ky := .string) W6).put uSR keyS n (PT x.a)
  rw [hs6] at hrun2 hk2
  obtain ⟨W7, hW7⟩ : ∃ W7, W7 = setO (W6.alloc (.map #[] 0)) (w2.heap.size + 1) (.map es2 c2) := ⟨_, rfl⟩
  have hs7 : W7.heap.size = w2.heap.size + 2 := by rw [hW7, setO_size]; simp; omega
  have hb67 : Below W6.heap.size W6 W7 := by
   rw [hW7]
   exact ⟨rfl, rfl, rfl, by rw [setO_size]; simp, fun k hk => (setO_ne (by omega)).trans (heap_alloc_old _ _ hk)⟩
  rw [← hW7] at hk2 hrun2
  have hb7 : Below w2.heap.size w2 W7 := hb6.trans (hb67.mono (by omega))
  have c0 : w2.cell? ⟨x.a, 0, none⟩ = some (.string n) := by rw [← hxn]; exact load_cell hM1 (hR1.roles x hx1).a rfl
  have c6 : (W6.alloc (.map #[] 0)).cell? ⟨x.a, 0, none⟩ = some (.string n) := by rw [← hxn]; exact load_cell (hM1.below (hb6.alloc (by omega) _)) (hR1.roles x hx1).a rfl
  have hnone : F1 w2.heap.size = none := by
   cases hf : F1 w2.heap.size with
   | none => rfl
   | some z => exact absurd (hM1 _ z.1 z.2 hf).lt (Nat.lt_irrefl _)
  have HH := Aside0.mk (imp_helper_roles hmax hR1 hG1 hE max.toNat (w := W7) (B0 := w2.heap.size) (M1 := w2.heap.size + 1) (ms := w2.heap.size) (fr := [(n, x.a)]) (seen := [n]) (res := []) (v := .slice none 0 0) (lv := 0) (by omega) (by omega) (hM1.below hb7) hk2 (hk1.below (hb67)) (by omega) (Kd.R_nil _ _ _ _ _) (fun k hk => by
   rcases hk with rfl | hk
   ·exact hnone
   ·cases hk) (fun q hq => by
   rw [List.mem_singleton] at hq
   exact ⟨x, hx1, by rw [hq]; exact hxn, by rw [hq]⟩) (by simp) (by simp) (by simp) (by simp) (by omega) (by omega))
  have HBB := Aside0.mk (fun (w3 : World) (hT : Turn (fun k => k = w2.heap.size ∨ (Value.slice none 0 0).ownBlock = some k) W7 w3) => show Below w2.heap.size w2 w3 from hT.toBelow hb7 (by omega) (fun k hk => by
   rcases hk with rfl | hk
   ·exact Nat.le_refl _
   ·cases hk))
  have HF := Aside0.mk (fun (w3 w4 : World) (hb : Below w2.heap.size w2 w3) (hs : Shrunk F1 w3 p s c max mc L w4) => show RMPost F w p s c max mc E w4 from by
   obtain ⟨F', m', g1, g2, g3, g4⟩ := hs
   have hsz := hb.size
   exact ⟨F', m', L, g1, g2, HGG.out, hn1.trans g3 (Nat.le_trans ht1.size hsz), (ht1.trans hn1 (Turn.ofBelow _ hb)).trans hn1 g4⟩)
  have HD := Aside0.mk (fun (w3 : World) (hb : Below w2.heap.size w2 w3) (u : FrameMode) => by
   have := remove_role_d u (hM1.below hb) hR1
   rw [hxn] at this
   exact this)
  have HAP := Aside0.mk (show ∀ g, F1 g ≠ none → g < w2.heap.size from fun g hg => by
   cases hf : F1 g with
   | none => exact absurd hf hg
   | some z => exact (hM1 g z.1 z.2 hf).lt)
  have HSZ := Aside0.mk ht1.size
  have hxl := (hM1 _ _ _ (hR1.roles x hx1).a).lt
  clear hM1 hR1 hG1 hx1 hxn hn1 ht1 HG1 HGG hb6 hb67 hb7 hs7 hk1 hk2 hnone
  go_upto_region 7 with (fail)
  rw [← hW6]
  clear hW6 hrun1
  go_upto_region 8 with (fail)
  rw [← hW7]
  clear hW7 hrun2
  go_wp2_with (go_at_call 109; refine HH.out.mono ?_; rintro e w3 ⟨v, l, rfl, h1, h2, h3⟩; have HL := Aside0.mk h1; have HR3 := Aside0.mk h2; have HB3 := Aside0.mk (HBB.out w3 h3); clear h1 h2 h3)
  refine leaves_cons (f := 108) (args := #[PT p, .string n]) (by simp) (by simp [go_sem]) ?_
  refine (HD.out w3 HB3.out .returning).mono ?_
  rintro e u' w4 ⟨rfl, rfl, hs⟩
  refine ⟨_, results_tmp2 rfl _ _ _, ?_⟩
  have hF := HF.out w3 w4 HB3.out hs
  obtain ⟨F', m', g1, g2, g3, g4⟩ := hs
  refine ⟨_, l, rfl, HL.out, Kd.R_lower (Kd.R_mono (Kd.R_move (Kd.R_bound HR3.out) (fun g hg => g4.block g hg.2.2.1 (fun hx => ?_))) (fun _ _ => trivial)) HSZ.out, hF⟩
  have h1 := HAP.out g hx
  have h2 := hg.2.1
  omega
set_option maxHeartbeats 8000000 in
set_option maxRecDepth 100000 in
theorem rm_imp_users {F : Fp} {w : World} {p s c : Nat} {max : Int} {mc : List Value} {m : Option Nat} {L : List RoleB} {E : Edges} (hmax : 0 ≤ max ∧ max ≤ 1000000) (hM : Mem w F) (hR : RMF F p s c max mc m L) (hG : Graph L E) (hE : EOk E) (n : ByteArray) (dv : Value) :
  Calls Tryz.prog 102 #[PT p, .string n, dv] w fun e w' => ∃ v l, e = .returned (.tuple #[v, .nilIface]) ∧ l.Perm (impl (usersE E) max.toNat n) ∧ Kd.R Kd.string 9 w' w.heap.size (fun _ => True) v l ∧ RMPost F w p s c max mc E w' := by
 by_cases hin : n ∈ L.map (·.name)
 ·have HG1 := Aside0.mk (get_role_old hM hR hG hin)
  have HGG := Aside0.mk hG
  clear hM hR hG hin
  have hmm := @run_makeMap Tryz.prog
  go_enter_defers Tryz.func102, Tryz.ntmps102
  go_upto_region 2 with (go_at_call 58; refine HG1.out.mono ?_; rintro e w2 ⟨x, F1, m1, rfl, hM1, hR1, hx1, hxn, hn1, ht1⟩)
  have hG1 := HGG.out
  obtain ⟨es1, c1, hrun1, hk1⟩ := (KM.made (ky := .string) w2).put uSB keyS n (.bool true)
  obtain ⟨W6, hW6⟩ : ∃ W6, W6 = setO (w2.alloc (.map #[] 0)) w2.heap.size (.map es1 c1) := ⟨_, rfl⟩
  have hs6 : W6.heap.size = w2.heap.size + 1 := by rw [hW6, setO_size]; simp
  have hb6 : Below w2.heap.size w2 W6 := by
   rw [hW6]
   exact ⟨rfl, rfl, rfl, by rw [setO_size]; simp, fun k hk => (setO_ne (by omega)).trans (heap_alloc_old _ _ hk)⟩
  rw [← hW6] at hk1 hrun1
  obtain ⟨es2, c2, hrun2, hk2⟩ := (KM.made (ky := .string) W6).put uSR keyS n (PT x.a)
  rw [hs6] at hrun2 hk2
  obtain ⟨W7, hW7⟩ : ∃ W7, W7 = setO (W6.alloc (.map #[] 0)) (w2.heap.size + 1) (.map es2 c2) := ⟨_, rfl⟩
  have hs7 : W7.heap.size = w2.heap.size + 2 := by rw [hW7, setO_size]; simp; omega
  have hb67 : Below W6.heap.size W6 W7 := by
   rw [hW7]
   exact ⟨rfl, rfl, rfl, by rw [setO_size]; simp, fun k hk => (setO_ne (by omega)).trans (heap_alloc_old _ _ hk)⟩
  rw [← hW7] at hk2 hrun2
  have hb7 : Below w2.heap.size w2 W7 := hb6.trans (hb67.mono (by omega))
  have c0 : w2.cell? ⟨x.a, 0, none⟩ = some (.string n) := by rw [← hxn]; exact load_cell hM1 (hR1.roles x hx1).a rfl
  have c6 : (W6.alloc (.map #[] 0)).cell? ⟨x.a, 0, none⟩ = some (.string n) := by rw [← hxn]; exact load_cell (hM1.below (hb6.alloc (by omega) _)) (hR1.roles x hx1).a rfl
  have hnone : F1 w2.heap.size = none := by
   cases hf : F1 w2.heap.size with
   | none => rfl
   | some z => exact absurd (hM1 _ z.1 z.2 hf).lt (Nat.lt_irrefl _)
  have HH := Aside0.mk (imp_helper_users hmax hR1 hG1 hE max.toNat (w := W7) (B0 := w2.heap.size) (M1 := w2.heap.size + 1) (ms := w2.heap.size) (fr := [(n, x.a)]) (seen := [n]) (res := []) (v := .slice none 0 0) (lv := 0) (by omega) (by omega) (hM1.below hb7) hk2 (hk1.below (hb67)) (by omega) (Kd.R_nil _ _ _ _ _) (fun k hk => by
   rcases hk with rfl | hk
   ·exact hnone
   ·cases hk) (fun q hq => by
   rw [List.mem_singleton] at hq
   exact ⟨x, hx1, by rw [hq]; exact hxn, by rw [hq]⟩) (by simp) (by simp) (by simp) (by simp) (by omega) (by omega))
  have HBB := Aside0.mk (fun (w3 : World) (hT : Turn (fun k => k = w2.heap.size ∨ (Value.slice none 0 0).ownBlock = some k) W7 w3) => show Below w2.heap.size w2 w3 from hT.toBelow hb7 (by omega) (fun k hk => by
   rcases hk with rfl | hk
   ·exact Nat.le_refl _
   ·cases hk))
  have HF := Aside0.mk (fun (w3 : World) (hb : Below w2.heap.size w2 w3) => show RMPost F w p s c max mc E w3 from ⟨F1, m1, L, hM1.below hb, hR1, HGG.out, hn1, ht1.trans hn1 (Turn.ofBelow _ hb)⟩)
  have HSZ := Aside0.mk ht1.size
  have hxl := (hM1 _ _ _ (hR1.roles x hx1).a).lt
  clear hM1 hR1 hG1 hx1 hxn hn1 ht1 HG1 HGG hb6 hb67 hb7 hs7 hk1 hk2 hnone
  go_upto_region 7 with (fail)
  rw [← hW6]
  clear hW6 hrun1
  go_upto_region 8 with (fail)
  rw [← hW7]
  clear hW7 hrun2
  go_wp2_with (go_at_call 110; refine HH.out.mono ?_; rintro e w3 ⟨v, l, rfl, h1, h2, h3⟩; have HL := Aside0.mk h1; have HR3 := Aside0.mk h2; have HB3 := Aside0.mk (HBB.out w3 h3); clear h1 h2 h3)
  refine ⟨_, results_tmp2 rfl _ _ _, ?_⟩
  exact ⟨_, l, rfl, HL.out, Kd.R_lower HR3.out HSZ.out, HF.out _ HB3.out⟩
 ·have HG1 := Aside0.mk (get_role_new hM hR hG hin)
  have HGG := Aside0.mk hG
  have hpl := (hM _ _ _ hR.p).lt
  clear hM hR hG hin
  have hmm := @run_makeMap Tryz.prog
  go_enter_defers Tryz.func102, Tryz.ntmps102
  go_upto_region 2 with (go_at_call 58; refine HG1.out.mono ?_; rintro e w2 ⟨x, F1, m1, rfl, hM1, hR1, hG1, hxn, hn1, ht1⟩)
  have hx1 : x ∈ L ++ [x] := by simp
  obtain ⟨es1, c1, hrun1, hk1⟩ := (KM.made (ky := .string) w2).put uSB keyS n (.bool true)
  obtain ⟨W6, hW6⟩ : ∃ W6, W6 = setO (w2.alloc (.map #[] 0)) w2.heap.size (.map es1 c1) := ⟨_, rfl⟩
  have hs6 : W6.heap.size = w2.heap.size + 1 := by rw [hW6, setO_size]; simp
  have hb6 : Below w2.heap.size w2 W6 := by
   rw [hW6]
   exact ⟨rfl, rfl, rfl, by rw [setO_size]; simp, fun k hk => (setO_ne (by omega)).trans (heap_alloc_old _ _ hk)⟩
  rw [← hW6] at hk1 hrun1
  obtain ⟨es2, c2, hrun2, hk2⟩ := (KM.made (ky := .string) W6).put uSR keyS n (PT x.a)
  rw [hs6] at hrun2 hk2
  obtain ⟨W7, hW7⟩ : ∃ W7, W7 = setO (W6.alloc (.map #[] 0)) (w2.heap.size + 1) (.map es2 c2) := ⟨_, rfl⟩
  have hs7 : W7.heap.size = w2.heap.size + 2 := by rw [hW7, setO_size]; simp; omega
  have hb67 : Below W6.heap.size W6 W7 := by
   rw [hW7]
   exact ⟨rfl, rfl, rfl, by rw [setO_size]; simp, fun k hk => (setO_ne (by omega)).trans (heap_alloc_old _ _ hk)⟩
  rw [← hW7] at hk2 hrun2
  have hb7 : Below w2.heap.size w2 W7 := hb6.trans (hb67.mono (by omega))
  have c0 : w2.cell? ⟨x.a, 0, none⟩ = some (.string n) := by rw [← hxn]; exact load_cell hM1 (hR1.roles x hx1).a rfl
  have c6 : (W6.alloc (.map #[] 0)).cell? ⟨x.a, 0, none⟩ = some (.string n) := by rw [← hxn]; exact load_cell (hM1.below (hb6.alloc (by omega) _)) (hR1.roles x hx1).a rfl
  have hnone : F1 w2.heap.size = none := by
   cases hf : F1 w2.heap.size with
   | none => rfl
   | some z => exact absurd (hM1 _ z.1 z.2 hf).lt (Nat.lt_irrefl _)
  have HH := Aside0.mk (imp_helper_users hmax hR1 hG1 hE max.toNat (w := W7) (B0 := w2.heap.size) (M1 := w2.heap.size + 1) (ms := w2.heap.size) (fr := [(n, x.a)]) (seen := [n]) (res := []) (v := .slice none 0 0) (lv := 0) (by omega) (by omega) (hM1.below hb7) hk2 (hk1.below (hb67)) (by omega) (Kd.R_nil _ _ _ _ _) (fun k hk => by
   rcases hk with rfl | hk
   ·exact hnone
   ·cases hk) (fun q hq => by
   rw [List.mem_singleton] at hq
   exact ⟨x, hx1, by rw [hq]; exact hxn, by rw [hq]⟩) (by simp) (by simp) (by simp) (by simp) (by omega) (by omega))
  have HBB := Aside0.mk (fun (w3 : World) (hT : Turn (fun k => k = w2.heap.size ∨ (Value.slice none 0 0).ownBlock = some k) W7 w3) => show Below w2.heap.size w2 w3 from hT.toBelow hb7 (by omega) (fun k hk => by
   rcases hk with rfl | hk
   ·exact Nat.le_refl _
   ·cases hk))
  have HF := Aside0.mk (fun (w3 w4 : World) (hb : Below w2.heap.size w2 w3) (hs : Shrunk F1 w3 p s c max mc L w4) => show RMPost F w p s c max mc E w4 from by
   obtain ⟨F', m', g1, g2, g3, g4⟩ := hs
   have hsz := hb.size
   exact ⟨F', m', L, g1, g2, HGG.out, hn1.trans g3 (Nat.le_trans ht1.size hsz), (ht1.trans hn1 (Turn.ofBelow _ hb)).trans hn1 g4⟩)
  have HD := Aside0.mk (fun (w3 : World) (hb : Below w2.heap.size w2 w3) (u : FrameMode) => by
   have := remove_role_d u (hM1.below hb) hR1
   rw [hxn] at this
   exact this)
  have HAP := Aside0.mk (show ∀ g, F1 g ≠ none → g < w2.heap.size from fun g hg => by
   cases hf : F1 g with
   | none => exact absurd hf hg
   | some z => exact (hM1 g z.1 z.2 hf).lt)
  have HSZ := Aside0.mk ht1.size
  have hxl := (hM1 _ _ _ (hR1.roles x hx1).a).lt
  clear hM1 hR1 hG1 hx1 hxn hn1 ht1 HG1 HGG hb6 hb67 hb7 hs7 hk1 hk2 hnone
  go_upto_region 7 with (fail)
  rw [← hW6]
  clear hW6 hrun1
  go_upto_region 8 with (fail)
  rw [← hW7]
  clear hW7 hrun2
  go_wp2_with (go_at_call 110; refine HH.out.mono ?_; rintro e w3 ⟨v, l, rfl, h1, h2, h3⟩; have HL := Aside0.mk h1; have HR3 := Aside0.mk h2; have HB3 := Aside0.mk (HBB.out w3 h3); clear h1 h2 h3)
  refine leaves_cons (f := 108) (args := #[PT p, .string n]) (by simp) (by simp [go_sem]) ?_
  refine (HD.out w3 HB3.out .returning).mono ?_
  rintro e u' w4 ⟨rfl, rfl, hs⟩
  refine ⟨_, results_tmp2 rfl _ _ _, ?_⟩
  have hF := HF.out w3 w4 HB3.out hs
  obtain ⟨F', m', g1, g2, g3, g4⟩ := hs
  refine ⟨_, l, rfl, HL.out, Kd.R_lower (Kd.R_mono (Kd.R_move (Kd.R_bound HR3.out) (fun g hg => g4.block g hg.2.2.1 (fun hx => ?_))) (fun _ _ => trivial)) HSZ.out, hF⟩
  have h1 := HAP.out g hx
  have h2 := hg.2.1
  omega
end

end Go.Proofs.YtjijaciaioieaaaGreat.PFnRolesOrder
