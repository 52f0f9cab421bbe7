/- The machine side of laws.FnModelAdd: whether two lists have the same assertions, blind to their order (plain words). Each theorem says its own conditions. -/
import Derived.Test.YtjglpjlbnmpdfaaGreatDoorOFnModelAddx10
import Derived.Test.YtjglpjlbnmpdfaaGreatDoorOFnModelAddx11
import Derived.Test.YtjglpjlbnmpdfaaGreatDoorBase
namespace Go.Proofs.YtjglpjlbnmpdfaaGreatDoor.PFnModelAdd
open Go.RowKit Go.Proofs.YtjglpjlbnmpdfaaGreatDoorW.PrintWords Go.Proofs.YtjglpjlbnmpdfaaGreatDoorW.PrintLast Go.Proofs.YtjglpjlbnmpdfaaGreatDoor.Base
set_option linter.unusedVariables false
set_option linter.unusedSimpArgs false
/-! ### Whether two lists have the same assertions: blind to the order -/
def eqD (a b : S28) : Bool := a.f0.toList == b.f0.toList && (a.f1.toList == b.f1.toList && a.f2.toList == b.f2.toList)
def cntD (l : List S28) (d : S28) : Nat := (l.filter fun x => eqD x d).length
def sameB (a b : List S28) : Bool := decide (a.length = b.length) && a.all fun d => decide (cntD a d = cntD b d)
theorem cnt_cons (x : S28) (l : List S28) (d : S28) : cntD (x :: l) d = cntD l d + if eqD x d = true then 1 else 0 := by
 unfold cntD
 cases h : eqD x d <;> simp [h]
theorem cnt_le (l : List S28) (d : S28) : cntD l d ≤ l.length := List.length_filter_le _ _
theorem rdD_mid (p q : List S28) (c : S28) (i : Int) (h : i = (p.length : Int)) : rd_T28 (p ++ c :: q) i = c := getD_mid _ p q c i h
theorem sd_l1 (a b : List S28) (i : Nat) (hi : i < a.length) (hlen : a.length = b.length) (hm : a.length ≤ 1000000) (res : Bool)
  (hgo : cntD a (rd_T28 a (i : Int)) = cntD b (rd_T28 a (i : Int)) → Ev (fun k => spec_SameDefs.l0 k a b ((i : Int) + 1)) res) (hno : cntD a (rd_T28 a (i : Int)) ≠ cntD b (rd_T28 a (i : Int)) → res = false) :
  ∀ (q p qb pb : List S28) (n m : Nat), a = p ++ q → b = pb ++ qb → p.length = pb.length → n + cntD q (rd_T28 a (i : Int)) = cntD a (rd_T28 a (i : Int)) → m + cntD qb (rd_T28 a (i : Int)) = cntD b (rd_T28 a (i : Int)) → n ≤ p.length → m ≤ p.length →
   Ev (fun k => spec_SameDefs.l1 k a b (i : Int) (n : Int) (m : Int) (p.length : Int)) res := by
 intro q
 induction q with
 | nil =>
  intro p qb pb n m ha hb hpl h1 h2 _ _
  rw [List.append_nil] at ha
  have hqb : qb = [] := by
   have := congrArg List.length hb
   rw [List.length_append] at this
   have := congrArg List.length ha
   exact List.length_eq_zero_iff.1 (by omega)
  subst hqb
  have e1 : cntD ([] : List S28) (rd_T28 a (i : Int)) = 0 := rfl
  rw [e1] at h1 h2
  refine Ev.step (fun _ => spec_SameDefs.l1.eq_2 _ _ _ _ _ _ _) (Ev.neg (by rw [ha]; omega) ?_)
  by_cases h : (n : Int) = (m : Int)
  ·refine Ev.pos h ?_
   rw [w64 (by omega) (by omega)]
   exact hgo (by omega)
  ·refine Ev.neg h ?_
   rw [hno (by omega)]
   exact Ev.now _
 | cons x q ih =>
  intro p qb pb n m ha hb hpl h1 h2 hn hmp
  have hla := congrArg List.length ha
  have hlb := congrArg List.length hb
  rw [List.length_append, List.length_cons] at hla
  rw [List.length_append] at hlb
  obtain ⟨y, qb, rfl⟩ : ∃ y q', qb = y :: q' := by
   cases qb with
   | nil => simp at hlb; omega
   | cons y q' => exact ⟨y, q', rfl⟩
  have hx : rd_T28 a (p.length : Int) = x := by conv => { lhs; rw [ha] }; exact rdD_mid p q x _ rfl
  have hy : rd_T28 b (p.length : Int) = y := by rw [hb]; exact rdD_mid pb qb y _ (by omega)
  have ih := fun n m => ih (p ++ [x]) qb (pb ++ [y]) n m (by rw [ha]; simp) (by rw [hb]; simp) (by simp; omega)
  rw [show (((p ++ [x]).length : Nat) : Int) = (p.length : Int) + 1 from by simp, show (p ++ [x]).length = p.length + 1 from by simp] at ih
  rw [cnt_cons] at h1 h2
  refine Ev.step (fun _ => spec_SameDefs.l1.eq_2 _ _ _ _ _ _ _) (Ev.pos (by omega) (Ev.pos (by omega) (Ev.pos (by omega) (Ev.pos (by omega) ?_))))
  rw [hx, hy, w64 (x := (n : Int) + 1) (by omega) (by omega), w64 (x := (m : Int) + 1) (by omega) (by omega), w64 (x := (p.length : Int) + 1) (by omega) (by omega)]
  by_cases ex : eqD x (rd_T28 a (i : Int)) = true
  ·rw [if_pos ex] at h1
   refine Ev.pos ex (Ev.pos (by omega) ?_)
   by_cases ey : eqD y (rd_T28 a (i : Int)) = true
   ·rw [if_pos ey] at h2
    exact Ev.pos ey (ih (n + 1) (m + 1) (by omega) (by omega) (by omega) (by omega))
   ·rw [if_neg ey] at h2
    exact Ev.neg ey (ih (n + 1) m (by omega) (by omega) (by omega) (by omega))
  ·rw [if_neg ex] at h1
   refine Ev.neg ex (Ev.pos (by omega) ?_)
   by_cases ey : eqD y (rd_T28 a (i : Int)) = true
   ·rw [if_pos ey] at h2
    exact Ev.pos ey (ih n (m + 1) (by omega) (by omega) (by omega) (by omega))
   ·rw [if_neg ey] at h2
    exact Ev.neg ey (ih n m (by omega) (by omega) (by omega) (by omega))
theorem sd_l0 (a b : List S28) (hlen : a.length = b.length) (hm : a.length ≤ 1000000) : ∀ (q p : List S28), a = p ++ q → Ev (fun k => spec_SameDefs.l0 k a b (p.length : Int)) (q.all fun d => decide (cntD a d = cntD b d)) := by
 intro q
 induction q with
 | nil =>
  intro p ha
  rw [List.append_nil] at ha
  exact Ev.step (fun _ => spec_SameDefs.l0.eq_2 _ _ _ _) (Ev.neg (by rw [ha]; omega) (Ev.now _))
 | cons d q ih =>
  intro p ha
  have hla := congrArg List.length ha
  rw [List.length_append, List.length_cons] at hla
  have ih := ih (p ++ [d]) (by rw [ha]; simp)
  rw [show (((p ++ [d]).length : Nat) : Int) = (p.length : Int) + 1 from by simp] at ih
  have hd : rd_T28 a (p.length : Int) = d := by conv => { lhs; rw [ha] }; exact rdD_mid p q d _ rfl
  refine Ev.step (fun _ => spec_SameDefs.l0.eq_2 _ _ _ _) (Ev.pos (by omega) ?_)
  rw [List.all_cons]
  refine sd_l1 a b p.length (by omega) hlen hm _ (fun e => ?_) (fun e => ?_) a [] b [] 0 0 rfl rfl rfl (by omega) (by omega) (by omega) (by omega)
  ·rw [hd] at e
   rw [decide_eq_true e, Bool.true_and]
   exact ih
  ·rw [hd] at e
   rw [decide_eq_false e, Bool.false_and]
theorem same_f (a b : List S28) (hm : a.length ≤ 1000000) : Ev (fun k => spec_SameDefs.f k a b) (sameB a b) := by
 unfold sameB
 by_cases h : a.length = b.length
 ·rw [decide_eq_true h, Bool.true_and]
  exact Ev.pos (by omega) (sd_l0 a b h hm a [] rfl)
 ·rw [decide_eq_false h, Bool.false_and]
  exact Ev.neg (by omega) (Ev.now _)
theorem same_perm {l r x : List S28} {k : Nat} {b : Bool} (hm : r.length ≤ 1000000) (hp : l.Perm r) (h : spec_SameDefs.f k r x = some b) : ∃ k', spec_SameDefs.f k' l x = some b := by
 have h1 := same_f r x hm
 have h2 := same_f l x (by rw [hp.length_eq]; exact hm)
 have h3 : Ev (fun k => spec_SameDefs.f k r x) b := Ev.of (spec_SameDefs.mono r x) h
 have e1 : sameB r x = b := by
  obtain ⟨K, hK⟩ := h1
  obtain ⟨M, hM⟩ := h3
  have a1 := hK (max K M) (Nat.le_max_left ..)
  have a2 := hM (max K M) (Nat.le_max_right ..)
  exact Option.some.inj (a1.symm.trans a2)
 have e2 : sameB l x = sameB r x := by
  unfold sameB
  have hc : ∀ d, cntD l d = cntD r d := fun d => (hp.filter _).length_eq
  rw [hp.length_eq]
  congr 1
  rw [show (fun d => decide (cntD l d = cntD x d)) = fun d => decide (cntD r d = cntD x d) from by funext d; rw [hc]]
  rw [Bool.eq_iff_iff, List.all_eq_true, List.all_eq_true]
  exact ⟨fun h y hy => h y (hp.mem_iff.2 hy), fun h y hy => h y (hp.mem_iff.1 hy)⟩
 rw [e2, e1] at h2
 exact h2.rounds
theorem add_few {k : Nat} {l : List S28} {r : List Bool × List S28} (h : impl_ModelAdd.f k l = some r) : r.2.length ≤ 1000000 := by
 unfold impl_ModelAdd.f at h
 split at h
 ·obtain ⟨q, _, h⟩ := Option.bind_eq_some_iff.1 h
  split at h
  ·rename_i hc
   rw [← Option.some.inj h]
   exact hc
  ·cases h
 ·cases h
end Go.Proofs.YtjglpjlbnmpdfaaGreatDoor.PFnModelAdd
