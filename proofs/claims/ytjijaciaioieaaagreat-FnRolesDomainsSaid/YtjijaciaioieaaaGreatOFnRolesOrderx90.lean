/- The machine side of laws.FnRolesOrder: whether two lists have the same texts, and answers the same names, blind to their order (plain words). Each theorem says its own conditions. -/
import Derived.Test.YtjijaciaioieaaaGreatOFnRolesOrderx2
import Derived.Test.YtjijaciaioieaaaGreatOFnRolesOrderx3
import Derived.Test.YtjijaciaioieaaaGreatOFnRolesOrderx4
import Derived.Test.YtjijaciaioieaaaGreatBase
namespace Go.Proofs.YtjijaciaioieaaaGreat.PFnRolesOrder
open Go.RowKit Go.Proofs.YtjijaciaioieaaaGreatW.PrintWords Go.Proofs.YtjijaciaioieaaaGreatW.PrintLast Go.Proofs.YtjijaciaioieaaaGreat.Base
set_option linter.unusedVariables false
set_option linter.unusedSimpArgs false
/-! ### Whether two lists have the same texts, and answers the same names: blind to the order -/
def leB (a b : ByteArray) : Prop := Op.bytesLess b.toList a.toList = false
theorem bless_lt : ∀ (x y : List UInt8), Op.bytesLess x y = decide (x < y)
 | [], [] => by simp [Op.bytesLess]
 | [], b :: y => by simp [Op.bytesLess]
 | a :: x, [] => by simp [Op.bytesLess]
 | a :: x, b :: y => by
  rw [Op.bytesLess, bless_lt x y, Bool.eq_iff_iff]
  simp [List.cons_lt_cons_iff]
theorem leB_iff (a b : ByteArray) : leB a b ↔ a.toList ≤ b.toList := by
 unfold leB
 rw [bless_lt, decide_eq_false_iff_not]
 exact Iff.rfl
theorem leB_trans {a b c : ByteArray} (h : leB a b) (g : leB b c) : leB a c := (leB_iff a c).2 (List.le_trans ((leB_iff a b).1 h) ((leB_iff b c).1 g))
theorem leB_anti {a b : ByteArray} (h : leB a b) (g : leB b a) : a = b := (toList_iff a b).1 (List.le_antisymm ((leB_iff a b).1 h) ((leB_iff b a).1 g))
theorem leB_of_less {a b : ByteArray} (h : Op.bytesLess a.toList b.toList = true) : leB a b := by
 rw [bless_lt, decide_eq_true_iff] at h
 exact (leB_iff a b).2 (List.le_of_lt h)
abbrev gt (xs : List ByteArray) (i : Nat) : ByteArray := rdOf ByteArray.empty xs (i : Int)
theorem gt_eq (xs : List ByteArray) (i : Nat) : gt xs i = xs.getD i ByteArray.empty := by simp [gt, rdOf]
def swp (xs : List ByteArray) (j : Nat) : List ByteArray := (xs.set (j + 1) (gt xs j)).set j (gt xs (j + 1))
theorem swp_length (xs : List ByteArray) (j : Nat) : (swp xs j).length = xs.length := by simp [swp]
theorem swp_at (xs : List ByteArray) (j : Nat) (hj : j + 1 < xs.length) (a : Nat) : gt (swp xs j) a = if a = j then gt xs (j + 1) else if a = j + 1 then gt xs j else gt xs a := by
 rw [gt_eq]
 unfold swp
 rw [List.getD_eq_getElem?_getD, List.getElem?_set, List.getElem?_set, List.length_set]
 by_cases h1 : j = a
 ·rw [if_pos h1, if_pos (show a = j from h1.symm), if_pos (by omega)]; rfl
 ·rw [if_neg h1, if_neg (show ¬ a = j from fun e => h1 e.symm)]
  by_cases h2 : j + 1 = a
  ·rw [if_pos h2, if_pos (show a = j + 1 from h2.symm), if_pos (by omega)]; rfl
  ·rw [if_neg h2, if_neg (show ¬ a = j + 1 from fun e => h2 e.symm), gt_eq, List.getD_eq_getElem?_getD]
theorem swp_perm : ∀ (xs : List ByteArray) (j : Nat), j + 1 < xs.length → (swp xs j).Perm xs
 | [], _, h => by simp at h
 | [_], _, h => by simp at h
 | x :: y :: l, 0, _ => by
  show (List.Perm (y :: x :: l) (x :: y :: l))
  exact List.Perm.swap x y l
 | x :: y :: l, j + 1, h => by
  have ih := swp_perm (y :: l) j (by simpa using h)
  have e : swp (x :: y :: l) (j + 1) = x :: swp (y :: l) j := by
   unfold swp
   simp [gt_eq]
  rw [e]; exact ih.cons x
/-- all but what is at j stand in order, up to i -/
def Inv (xs : List ByteArray) (i j : Nat) : Prop := ∀ a b, a < b → b ≤ i → b ≠ j → leB (gt xs a) (gt xs b)
def Ord (xs : List ByteArray) (i : Nat) : Prop := ∀ a b, a < b → b < i → leB (gt xs a) (gt xs b)
theorem sorted_runs (n : Nat) (hn : n < 8796093022208) (m : Nat) : ∀ (i : Nat) (xs : List ByteArray), xs.length = n → n - i = m → 1 ≤ i ∨ n = 0 → Ord xs i → ∃ r, Ev (fun k => laws_sorted.l0 k xs (i : Int)) r ∧ r.Perm xs ∧ Ord r n := by
 induction m with
 | zero =>
  intro i xs hx hm _ ho
  exact ⟨xs, Ev.step (fun _ => laws_sorted.l0.eq_2 _ _ _) (Ev.neg (by omega) (Ev.now _)), List.Perm.refl _, fun a b h1 h2 => ho a b h1 (by omega)⟩
 | succ m ih =>
  intro i xs hx hm _ ho
  have inner : ∀ (j : Nat) (ys : List ByteArray), ys.length = n → j ≤ i → Inv ys i j → ∃ r, Ev (fun k => laws_sorted.l1 k ys (i : Int) (j : Int)) r ∧ r.Perm ys ∧ Ord r n := by
   intro j
   induction j with
   | zero =>
    intro ys hy _ hv
    obtain ⟨r, hr, hp, hl⟩ := ih (i + 1) ys hy (by omega) (.inl (by omega)) (fun a b h1 h2 => hv a b h1 (by omega) (by omega))
    refine ⟨r, Ev.step (fun _ => laws_sorted.l1.eq_2 _ _ _ _) (Ev.neg (by simp) ?_), hp, hl⟩
    rw [w64 (by omega) (by omega)]
    exact hr
   | succ j ihj =>
    intro ys hy hj hv
    have hw : wrap64 (((j + 1 : Nat) : Int) - 1) = (j : Int) := by rw [w64 (by omega) (by omega)]; omega
    by_cases hlt : Op.bytesLess ((rdOf ByteArray.empty ys ((j + 1 : Nat) : Int)).toList) ((rdOf ByteArray.empty ys (j : Int)).toList) = true
    ·have hjl : j + 1 < ys.length := by omega
     have hsw : Inv (swp ys j) i j := fun a b h1 h2 h3 => by
      rw [swp_at ys j hjl, swp_at ys j hjl, if_neg h3]
      by_cases hb : b = j + 1
      ·rw [if_pos hb]
       by_cases ha : a = j
       ·rw [if_pos ha]; exact leB_of_less hlt
       ·rw [if_neg ha, if_neg (by omega)]; exact hv a j (by omega) (by omega) (by omega)
      ·rw [if_neg hb]
       by_cases ha : a = j
       ·rw [if_pos ha]; exact hv (j + 1) b (by omega) h2 hb
       ·rw [if_neg ha]
        by_cases hc : a = j + 1
        ·rw [if_pos hc]; exact hv j b (by omega) h2 hb
        ·rw [if_neg hc]; exact hv a b h1 h2 hb
     obtain ⟨r, hr, hp, hl⟩ := ihj (swp ys j) (by rw [swp_length, hy]) (by omega) hsw
     refine ⟨r, Ev.step (fun _ => laws_sorted.l1.eq_2 _ _ _ _) ?_, hp.trans (swp_perm ys j hjl), hl⟩
     rw [hw]
     exact Ev.pos (by omega) (Ev.pos (by omega) (Ev.pos (by omega) (Ev.pos (by omega) (Ev.pos (by omega) (Ev.pos hlt hr)))))
    ·have hle : leB (gt ys j) (gt ys (j + 1)) := by
      unfold leB
      exact Bool.eq_false_iff.2 hlt
     obtain ⟨r, hr, hp, hl⟩ := ih (i + 1) ys hy (by omega) (.inl (by omega)) (fun a b h1 h2 => by
      by_cases hb : b = j + 1
      ·rw [hb]
       by_cases ha : a = j
       ·rw [ha]; exact hle
       ·exact leB_trans (hv a j (by omega) (by omega) (by omega)) hle
      ·exact hv a b h1 (by omega) hb)
     refine ⟨r, Ev.step (fun _ => laws_sorted.l1.eq_2 _ _ _ _) ?_, hp, hl⟩
     rw [hw]
     refine Ev.pos (by omega) (Ev.pos (by omega) (Ev.pos (by omega) (Ev.pos (by omega) (Ev.pos (by omega) (Ev.neg hlt ?_)))))
     rw [w64 (by omega) (by omega)]
     exact hr
  obtain ⟨r, hr, hp, hl⟩ := inner i xs hx (Nat.le_refl _) (fun a b h1 h2 h3 => ho a b h1 (by omega))
  exact ⟨r, Ev.step (fun _ => laws_sorted.l0.eq_2 _ _ _) (Ev.pos (by omega) hr), hp, hl⟩
theorem ord_pair {xs : List ByteArray} (h : Ord xs xs.length) : xs.Pairwise leB := by
 rw [List.pairwise_iff_getElem]
 intro i j hi hj hij
 have := h i j hij hj
 rw [gt_eq, gt_eq, List.getD_eq_getElem?_getD, List.getD_eq_getElem?_getD, List.getElem?_eq_getElem hi, List.getElem?_eq_getElem hj] at this
 exact this
theorem sorted_any (l : List ByteArray) (h : l.length < 8796093022208) : ∃ r, Ev (fun k => laws_sorted.f k l) r ∧ r.Perm l ∧ r.Pairwise leB := by
 obtain ⟨r, hr, hp, hl⟩ := sorted_runs l.length h (l.length - 1) 1 l rfl rfl (.inl (Nat.le_refl _)) (fun a b h1 h2 => by omega)
 refine ⟨r, Ev.bind (Ev.now ([] : List ByteArray)) (Ev.pos (by simp <;> omega) ?_), hp, ord_pair (by rw [hp.length_eq]; exact hl)⟩
 exact hr
theorem SameTexts_runs (a b : List ByteArray) (hl : a.length = b.length) (hn : a.length < 8796093022208) : ∀ (m i : Nat), a.length - i = m → (∀ j, j < i → gt a j = gt b j) → Ev (fun k => spec_SameTexts.l0 k a b (i : Int)) (decide (a = b)) := by
 intro m
 induction m with
 | zero =>
  intro i hi hs
  have : a = b := List.ext_getElem hl (fun j h1 h2 => by
   have := hs j (by omega)
   rw [gt_eq, gt_eq, List.getD_eq_getElem?_getD, List.getD_eq_getElem?_getD, List.getElem?_eq_getElem h1, List.getElem?_eq_getElem h2] at this
   exact this)
  rw [decide_eq_true this]
  exact Ev.step (fun _ => spec_SameTexts.l0.eq_2 _ _ _ _) (Ev.neg (by omega) (Ev.now _))
 | succ m ih =>
  intro i hi hs
  refine Ev.step (fun _ => spec_SameTexts.l0.eq_2 _ _ _ _) (Ev.pos (by omega) (Ev.pos (by omega) (Ev.pos (by omega) ?_)))
  by_cases h : (rdOf ByteArray.empty a (i : Int)).toList = (rdOf ByteArray.empty b (i : Int)).toList
  ·refine Ev.pos h ?_
   rw [w64 (by omega) (by omega)]
   exact ih (i + 1) (by omega) (fun j hj => by
    by_cases e : j = i
    ·rw [e]; exact (toList_iff _ _).1 h
    ·exact hs j (by omega))
  ·rw [decide_eq_false (fun e => h (by rw [e]))]
   exact Ev.neg h (Ev.now _)
theorem SameTexts_any (a b : List ByteArray) (hn : a.length < 8796093022208) : Ev (fun k => spec_SameTexts.f k a b) (decide (a = b)) := by
 unfold spec_SameTexts.f
 by_cases h : (a.length : Int) = (b.length : Int)
 ·exact Ev.pos h (SameTexts_runs a b (by omega) hn a.length 0 rfl (fun j hj => by omega))
 ·rw [decide_eq_false (fun e => h (by rw [e]))]
  exact Ev.neg h (Ev.now _)
instance decPermB (a b : List ByteArray) : Decidable (a.Perm b) := @List.decidablePerm _ _ a b
theorem Ev_only {α : Type} {g : Nat → Option α} {r s : α} (h : Ev g r) (hm : ∀ k, LeO (g k) (g (k + 1))) {k : Nat} (hk : g k = some s) : s = r := by
 obtain ⟨K, hK⟩ := h
 have h1 := at_rounds hm (Nat.le_max_left k K) hk
 have h2 := hK (max k K) (Nat.le_max_right k K)
 rw [h1] at h2
 exact Option.some.inj h2
/-- laws.sameSet tells whether one list is the other one in some order -/
theorem sameSet_any (a b : List ByteArray) (ha : a.length < 8796093022208) (hb : b.length < 8796093022208) : Ev (fun k => laws_sameSet.f k a b) (decide (a.Perm b)) := by
 obtain ⟨r, hr, hp, hs⟩ := sorted_any a ha
 obtain ⟨s, hs1, hq, ht⟩ := sorted_any b hb
 have e : decide (r = s) = decide (a.Perm b) := by
  rw [decide_eq_decide]
  constructor
  ·rintro rfl
   exact hp.symm.trans hq
  ·intro h
   exact List.Perm.eq_of_pairwise (fun x y _ _ h1 h2 => leB_anti h1 h2) hs ht (hp.trans (h.trans hq.symm))
 rw [← e]
 exact Ev.bind hr (Ev.bind hs1 (Ev.bind (SameTexts_any r s (by rw [hp.length_eq]; exact ha)) (Ev.now _)))
theorem sorted_few {k : Nat} {l r : List ByteArray} (h : laws_sorted.f k l = some r) : l.length < 8796093022208 := by
 unfold laws_sorted.f at h
 rw [Option.bind_some] at h
 split at h
 ·rename_i hq; simpa using hq
 ·cases h
theorem sameSet_few {k : Nat} {a b : List ByteArray} {r : Bool} (h : laws_sameSet.f k a b = some r) : a.length < 8796093022208 ∧ b.length < 8796093022208 := by
 unfold laws_sameSet.f at h
 obtain ⟨s, h1, h⟩ := Option.bind_eq_some_iff.1 h
 obtain ⟨t, h2, h⟩ := Option.bind_eq_some_iff.1 h
 exact ⟨sorted_few h1, sorted_few h2⟩
theorem sameSet_blind {k : Nat} {a b a' b' : List ByteArray} {r : Bool} (h : laws_sameSet.f k a b = some r) (ha : a'.Perm a) (hb : b'.Perm b) : Ev (fun k => laws_sameSet.f k a' b') r := by
 obtain ⟨h1, h2⟩ := sameSet_few h
 have e : r = decide (a.Perm b) := Ev_only (sameSet_any a b h1 h2) (fun k => laws_sameSet.mono a b k) h
 have e2 : decide (a.Perm b) = decide (a'.Perm b') := by
  rw [decide_eq_decide]
  exact ⟨fun g => ha.trans (g.trans hb.symm), fun g => ha.symm.trans (g.trans hb)⟩
 rw [e, e2]
 exact sameSet_any a' b' (by rw [ha.length_eq]; exact h1) (by rw [hb.length_eq]; exact h2)
theorem ToldL.cons_inv {l : List S40} {y : S40} {m : List S40} (h : ToldL l (y :: m)) : ∃ x l', l = x :: l' ∧ ToldR x y ∧ ToldL l' m := by
 cases l with
 | nil => exact h.elim
 | cons x l' => exact ⟨x, l', rfl, h.1, h.2⟩
theorem rdT_at (l : List S40) (i : Int) : rd_T40 l i = l.getD i.toNat z40 := rfl
theorem sameTold_l0 {l' l m' m : List S40} (hl : ToldL l' l) (hm : ToldL m' m) (b : Bool) : ∀ (k : Nat) (i : Int), laws_sameTold.l0 k l m i = some b → Ev (fun k => laws_sameTold.l0 k l' m' i) b
 | 0, i, h => by simp [laws_sameTold.l0] at h
 | k + 1, i, h => by
  rw [laws_sameTold.l0.eq_2] at h
  refine Ev.step (fun _ => laws_sameTold.l0.eq_2 _ _ _ _) ?_
  rw [hl.len, hm.len]
  split at h
  case isFalse hc => exact Ev.neg hc (Ev.const h)
  case isTrue hc =>
  refine Ev.pos hc ?_
  split at h
  case isFalse => cases h
  case isTrue h0 =>
  refine Ev.pos h0 ?_
  split at h
  case isFalse => cases h
  case isTrue h1 =>
  refine Ev.pos h1 ?_
  have tl : ToldR (rd_T40 l' i) (rd_T40 l i) := hl.at i.toNat
  have tm : ToldR (rd_T40 m' i) (rd_T40 m i) := hm.at i.toNat
  rw [tl.1, tm.1, tl.2.1, tm.2.1]
  split at h
  case isTrue h2 => exact Ev.pos h2 (Ev.const h)
  case isFalse h2 =>
  refine Ev.neg h2 ?_
  split at h
  case isTrue h3 => exact Ev.pos h3 (Ev.const h)
  case isFalse h3 =>
  refine Ev.neg h3 ?_
  obtain ⟨t, ht, h⟩ := Option.bind_eq_some_iff.1 h
  refine Ev.bind (sameSet_blind ht tl.2.2 tm.2.2) ?_
  split at h
  case isTrue h4 => exact Ev.pos h4 (sameTold_l0 hl hm b k _ h)
  case isFalse h4 => exact Ev.neg h4 (Ev.const h)
theorem sameTold_told {l' l m' m : List S40} (hl : ToldL l' l) (hm : ToldL m' m) {k : Nat} {b : Bool} (h : laws_sameTold.f k l m = some b) : ∃ k', laws_sameTold.f k' l' m' = some b := by
 unfold laws_sameTold.f at h
 have : Ev (fun k => laws_sameTold.f k l' m') b := by
  unfold laws_sameTold.f
  rw [hl.len, hm.len]
  split at h
  case isTrue hc => exact Ev.pos hc (sameTold_l0 hl hm b k 0 h)
  case isFalse hc => exact Ev.neg hc (Ev.const h)
 exact this.rounds
end Go.Proofs.YtjijaciaioieaaaGreat.PFnRolesOrder
