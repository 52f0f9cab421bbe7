/- For all two lists of rows of texts: laws.FnRowsEqual answers true (the plain statement behind its walk); lengths are those that an int can hold. -/
import Derived.Test.YthmkbojkhoaolaaOFnRowsEqualx7
import Derived.Test.YthmkbojkhoaolaaBase
set_option linter.unusedSimpArgs false
set_option linter.unusedVariables false
namespace Go.Proofs.Ythmkbojkhoaolaa.Pure
open Go.RowKit Go.Proofs.Ythmkbojkhoaolaa.PFnRowsEqual Go.Proofs.YthmkbojkhoaolaaW.PrintWords Go.Proofs.YthmkbojkhoaolaaW.PrintLast Go.Proofs.Ythmkbojkhoaolaa.Base

theorem awake : Ev laws_awakeUtil.f true := Ev.of laws_awakeUtil.mono (k := 30) (by decide +kernel)

/-- two lists of one length, in which each of the one's members stands as often as in the other, are each other's turnings -/
theorem perm_of_count {α : Type} [DecidableEq α] : ∀ (a b : List α), a.length = b.length → (∀ x ∈ a, a.count x = b.count x) → a.Perm b := by
  intro a
  induction a with
  | nil => intro b h _; cases b with | nil => exact List.Perm.refl _ | cons _ _ => simp at h
  | cons c a ih =>
    intro b h hc
    have h1 := hc c (List.mem_cons_self ..)
    rw [List.count_cons_self] at h1
    have hm : c ∈ b := List.count_pos_iff.1 (by omega)
    have hp := List.perm_cons_erase hm
    have hl : b.length = (b.erase c).length + 1 := by simpa using hp.length_eq
    refine List.Perm.trans (List.Perm.cons c (ih (b.erase c) (by simp only [List.length_cons] at h; omega) ?_)) hp.symm
    intro x hx
    have h2 := hc x (List.mem_cons_of_mem _ hx)
    have h3 := hp.count_eq x
    rw [List.count_cons] at h2 h3
    omega
theorem bag_iff {α : Type} [DecidableEq α] (a b : List α) : (a.length = b.length ∧ ∀ x ∈ a, a.count x = b.count x) ↔ a.Perm b :=
  ⟨fun h => perm_of_count a b h.1 h.2, fun h => ⟨h.length_eq, fun x _ => h.count_eq x⟩⟩
theorem bytes_le_trans (a b c : List UInt8) (h : decide (a ≤ b) = true) (k : decide (b ≤ c) = true) : decide (a ≤ c) = true := decide_eq_true (List.le_trans (of_decide_eq_true h) (of_decide_eq_true k))
theorem bytes_le_total (a b : List UInt8) : (decide (a ≤ b) || decide (b ≤ a)) = true := by
  rcases List.le_total a b with h | h
  · simp [h]
  · simp [h]
theorem ints_le_total (a b : Int) : (decide (a ≤ b) || decide (b ≤ a)) = true := by
  rcases Int.le_total a b with h | h
  · simp [h]
  · simp [h]
theorem sortB_iff (a b : List (List UInt8)) : ((a.mergeSort fun x y => decide (x ≤ y)) = b.mergeSort fun x y => decide (x ≤ y)) ↔ a.Perm b := by
  constructor
  · intro h
    exact ((List.mergeSort_perm a _).symm.trans (List.Perm.of_eq h)).trans (List.mergeSort_perm b _)
  · intro h
    refine List.Perm.eq_of_pairwise (le := fun x y => decide (x ≤ y) = true) (fun x y _ _ h1 h2 => List.le_antisymm (of_decide_eq_true h1) (of_decide_eq_true h2)) (List.pairwise_mergeSort bytes_le_trans bytes_le_total a) (List.pairwise_mergeSort bytes_le_trans bytes_le_total b) ?_
    exact ((List.mergeSort_perm a _).trans h).trans (List.mergeSort_perm b _).symm
theorem filter_count {α : Type} [DecidableEq α] (l : List α) (s : α) : (l.filter fun x => decide (x = s)).length = l.count s := by
  rw [List.count_eq_length_filter]
  congr 1

theorem SameList_loop (q : List ByteArray) : ∀ (p q' : List ByteArray), q.length = q'.length → p.length + q.length ≤ 9223372036854775807 →
    Ev (fun k => spec_SameList.l0 k (p ++ q) (p ++ q') (p.length : Int)) (decide (q = q')) := by
  induction q with
  | nil =>
    intro p q' h _
    cases q' with
    | nil => exact Ev.step (fun _ => spec_SameList.l0.eq_2 _ _ _ _) (Ev.neg (by simp) (Ev.now _))
    | cons _ _ => simp at h
  | cons c q ih =>
    intro p q' h hp
    cases q' with
    | nil => simp at h
    | cons d q' =>
      simp only [List.length_cons] at hp h
      refine Ev.step (fun _ => spec_SameList.l0.eq_2 _ _ _ _) (Ev.pos (by simp <;> omega) (Ev.pos (by omega) (Ev.pos (by simp <;> omega) ?_)))
      rw [rdOf_mid _ p q c _ rfl, rdOf_mid _ p q' d _ rfl, w64 (by omega) (by omega)]
      by_cases e : c = d
      · subst e
        refine Ev.pos rfl ?_
        have := ih (p ++ [c]) q' (by omega) (by simp <;> omega)
        simpa using this
      · refine Ev.neg (fun x => e ((toList_iff _ _).1 x)) ?_
        rw [show decide (c :: q = d :: q') = false from by simp [e]]
        exact Ev.now _
theorem SameList_f (l m : List ByteArray) (h : l.length ≤ 9223372036854775807) : Ev (fun k => spec_SameList.f k l m) (decide (l = m)) := by
  by_cases g : (l.length : Int) = (m.length : Int)
  · exact Ev.pos g (SameList_loop l [] m (by omega) (by simpa using h))
  · rw [show decide (l = m) = false from by simp; rintro rfl; exact g rfl]
    exact Ev.neg g (Ev.now _)

theorem ArrayEquals_loop (q : List ByteArray) : ∀ (p q' : List ByteArray), q.length = q'.length → p.length + q.length ≤ 9223372036854775807 →
    Ev (fun k => util_ArrayEquals.l0 k (p ++ q') (p ++ q) (((p ++ q).length : Nat) : Int) (p.length : Int)) (decide (q = q')) := by
  induction q with
  | nil =>
    intro p q' h _
    cases q' with
    | nil => exact Ev.step (fun _ => util_ArrayEquals.l0.eq_2 _ _ _ _ _) (Ev.neg (by simp) (Ev.now _))
    | cons _ _ => simp at h
  | cons c q ih =>
    intro p q' h hp
    cases q' with
    | nil => simp at h
    | cons d q' =>
      simp only [List.length_cons] at hp h
      refine Ev.step (fun _ => util_ArrayEquals.l0.eq_2 _ _ _ _ _) (Ev.pos (by simp <;> omega) (Ev.pos (by omega) (Ev.pos (by simp <;> omega) (Ev.pos (by simp <;> omega) ?_))))
      rw [rdOf_mid _ p q c _ rfl, rdOf_mid _ p q' d _ rfl, w64 (by omega) (by omega)]
      by_cases e : c = d
      · subst e
        refine Ev.pos rfl ?_
        have := ih (p ++ [c]) q' (by omega) (by simp <;> omega)
        simpa using this
      · refine Ev.neg (fun x => e ((toList_iff _ _).1 x)) ?_
        rw [show decide (c :: q = d :: q') = false from by simp [e]]
        exact Ev.now _
theorem ArrayEquals_f (l m : List ByteArray) (h : l.length ≤ 9223372036854775807) : Ev (fun k => util_ArrayEquals.f k l m) (decide (l = m)) := by
  by_cases g : (l.length : Int) = (m.length : Int)
  · exact Ev.pos g (ArrayEquals_loop l [] m (by omega) (by simpa using h))
  · rw [show decide (l = m) = false from by simp; rintro rfl; exact g rfl]
    exact Ev.neg g (Ev.now _)

theorem zzFits10_loop (q : List ByteArray) : ∀ p : List ByteArray, p.length + q.length ≤ 9223372036854775807 → ∃ b, Ev (fun k => laws_zzFits10.l0 k (p ++ q) (((p ++ q).length : Nat) : Int) (p.length : Int)) b := by
  induction q with
  | nil => intro p _; exact ⟨_, Ev.step (fun _ => laws_zzFits10.l0.eq_2 _ _ _ _) (Ev.neg (by simp) (Ev.now _))⟩
  | cons c q ih =>
    intro p hp
    simp only [List.length_cons] at hp
    obtain ⟨b, hb⟩ := ih (p ++ [c]) (by simp <;> omega)
    by_cases h : (c.size : Int) > 2147483647
    · exact ⟨_, Ev.step (fun _ => laws_zzFits10.l0.eq_2 _ _ _ _) (Ev.pos (by simp <;> omega) (Ev.pos (by omega) (Ev.pos (by simp <;> omega) (Ev.pos (by rw [rdOf_mid _ p q c _ rfl]; exact h) (Ev.now _)))))⟩
    · refine ⟨b, Ev.step (fun _ => laws_zzFits10.l0.eq_2 _ _ _ _) (Ev.pos (by simp <;> omega) (Ev.pos (by omega) (Ev.pos (by simp <;> omega) (Ev.neg (by rw [rdOf_mid _ p q c _ rfl]; exact h) ?_))))⟩
      rw [w64 (by omega) (by omega)]
      simpa using hb
theorem zzFits10_f (l : List ByteArray) (h : l.length ≤ 9223372036854775807) : ∃ b, Ev (fun k => laws_zzFits10.f k l) b := by
  by_cases g : (l.length : Int) > 2147483647
  · exact ⟨_, Ev.pos g (Ev.now _)⟩
  · obtain ⟨b, hb⟩ := zzFits10_loop l [] (by simpa using h)
    exact ⟨b, Ev.neg g hb⟩

theorem copied_f (l : List ByteArray) (h : l.length ≤ 20) : Ev (fun _ => laws_copied.f l) l := by
  unfold laws_copied.f
  refine Ev.bind (Ev.now ([] : List ByteArray)) (Ev.pos (by simp <;> omega) ?_)
  exact Ev.now _

theorem rd_L1_mid (p q : List (List ByteArray)) (c : List ByteArray) (i : Int) (h : i = (p.length : Int)) : rd_L1 (p ++ c :: q) i = c := getD_mid _ p q c i h
theorem rows_loop (q : List (List ByteArray)) : ∀ p : List (List ByteArray), p.length + q.length ≤ 9223372036854775807 → ∃ b, Ev (fun k => laws_rows.l0 k (p ++ q) (p.length : Int)) b ∧ (b = true → (p ++ q).length ≤ 10 ∧ ∀ x ∈ q, x.length ≤ 8) := by
  induction q with
  | nil =>
    intro p _
    refine ⟨_, Ev.step (fun _ => laws_rows.l0.eq_2 _ _ _) (Ev.neg (by simp) (Ev.now _)), fun h => ⟨?_, fun x hx => by simp at hx⟩⟩
    simp at h ⊢
    omega
  | cons c q ih =>
    intro p hp
    simp only [List.length_cons] at hp
    by_cases h : (c.length : Int) > 8
    · exact ⟨_, Ev.step (fun _ => laws_rows.l0.eq_2 _ _ _) (Ev.pos (by simp <;> omega) (Ev.pos (by omega) (Ev.pos (by rw [rd_L1_mid p q c _ rfl]; exact h) (Ev.now _)))), fun e => by cases e⟩
    · obtain ⟨b, hb, hq⟩ := ih (p ++ [c]) (by simp <;> omega)
      refine ⟨b, Ev.step (fun _ => laws_rows.l0.eq_2 _ _ _) (Ev.pos (by simp <;> omega) (Ev.pos (by omega) (Ev.neg (by rw [rd_L1_mid p q c _ rfl]; exact h) ?_))), fun e => ?_⟩
      · rw [w64 (by omega) (by omega)]
        simpa using hb
      · obtain ⟨h1, h2⟩ := hq e
        refine ⟨by simpa using h1, fun x hx => ?_⟩
        rcases List.mem_cons.1 hx with rfl | hx
        · omega
        · exact h2 x hx
theorem rows_f (l : List (List ByteArray)) (h : l.length ≤ 9223372036854775807) : ∃ b, Ev (fun k => laws_rows.f k l) b ∧ (b = true → l.length ≤ 10 ∧ ∀ x ∈ l, x.length ≤ 8) := by
  by_cases g : (l.length : Int) > 10
  · exact ⟨_, Ev.pos g (Ev.now _), fun e => by cases e⟩
  · obtain ⟨b, hb, hq⟩ := rows_loop l [] (by simpa using h)
    exact ⟨b, Ev.neg g hb, fun e => by simpa using hq e⟩
theorem copiedRows_loop (q : List (List ByteArray)) (hq : ∀ x ∈ q, x.length ≤ 20) : ∀ p : List (List ByteArray), p.length + q.length ≤ 1000 →
    Ev (fun k => laws_copiedRows.l0 k (p ++ q) p (p.length : Int)) (p ++ q) := by
  induction q with
  | nil =>
    intro p _
    refine Ev.step (fun _ => laws_copiedRows.l0.eq_2 _ _ _ _) (Ev.neg (by simp) ?_)
    rw [List.append_nil]
    exact Ev.now _
  | cons c q ih =>
    intro p hp
    simp only [List.length_cons] at hp
    refine Ev.step (fun _ => laws_copiedRows.l0.eq_2 _ _ _ _) (Ev.pos (by simp <;> omega) (Ev.pos (by omega) ?_))
    rw [rd_L1_mid p q c _ rfl, w64 (by omega) (by omega)]
    refine Ev.bind (copied_f c (hq c (by simp))) (Ev.pos (by omega) ?_)
    have := ih (fun x hx => hq x (by simp [hx])) (p ++ [c]) (by simp <;> omega)
    simpa using this
theorem copiedRows_f (l : List (List ByteArray)) (h : l.length ≤ 1000) (hl : ∀ x ∈ l, x.length ≤ 20) : Ev (fun k => laws_copiedRows.f k l) l := copiedRows_loop l hl [] (by simpa using h)

theorem zzFits11_loop (q : List (List ByteArray)) (hq : ∀ x ∈ q, x.length ≤ 9223372036854775807) : ∀ p : List (List ByteArray), p.length + q.length ≤ 9223372036854775807 → ∃ b, Ev (fun k => laws_zzFits11.l0 k (p ++ q) (((p ++ q).length : Nat) : Int) (p.length : Int)) b := by
  induction q with
  | nil => intro p _; exact ⟨_, Ev.step (fun _ => laws_zzFits11.l0.eq_2 _ _ _ _) (Ev.neg (by simp) (Ev.now _))⟩
  | cons c q ih =>
    intro p hp
    simp only [List.length_cons] at hp
    obtain ⟨b, hb⟩ := ih (fun x hx => hq x (by simp [hx])) (p ++ [c]) (by simp <;> omega)
    obtain ⟨b1, hb1⟩ := zzFits10_f c (hq c (by simp))
    have hgo : ∀ r, Ev (fun k => if b1 = true then laws_zzFits11.l0 k (p ++ c :: q) (((p ++ c :: q).length : Nat) : Int) (wrap64 ((p.length : Int) + 1)) else some false) r → Ev (fun k => laws_zzFits11.l0 k (p ++ c :: q) (((p ++ c :: q).length : Nat) : Int) (p.length : Int)) r := by
      intro r hr
      refine Ev.step (fun _ => laws_zzFits11.l0.eq_2 _ _ _ _) (Ev.pos (by simp <;> omega) (Ev.pos (by omega) (Ev.pos (by simp <;> omega) ?_)))
      rw [rd_L1_mid p q c _ rfl]
      exact Ev.bind hb1 hr
    cases b1 with
    | true =>
      refine ⟨b, hgo b (Ev.pos rfl ?_)⟩
      rw [w64 (by omega) (by omega)]
      simpa using hb
    | false => exact ⟨_, hgo _ (Ev.neg (by simp) (Ev.now _))⟩
theorem zzFits11_f (l : List (List ByteArray)) (h : l.length ≤ 9223372036854775807) (hl : ∀ x ∈ l, x.length ≤ 9223372036854775807) : ∃ b, Ev (fun k => laws_zzFits11.f k l) b := by
  by_cases g : (l.length : Int) > 2147483647
  · exact ⟨_, Ev.pos g (Ev.now _)⟩
  · obtain ⟨b, hb⟩ := zzFits11_loop l hl [] (by simpa using h)
    exact ⟨b, Ev.neg g hb⟩

theorem level_loop (l : List (List ByteArray)) (h : l.length ≤ 9223372036854775807) : ∀ (q p : List (List ByteArray)), l = p ++ q → ∃ b, Ev (fun k => laws_level.l0 k l (p.length : Int)) b := by
  intro q
  induction q with
  | nil =>
    intro p hp
    have hl : l.length = p.length := by rw [hp]; simp
    exact ⟨_, Ev.step (fun _ => laws_level.l0.eq_2 _ _ _) (Ev.neg (by omega) (Ev.now _))⟩
  | cons c q ih =>
    intro p hp
    have hl : l.length = p.length + (q.length + 1) := by rw [hp]; simp
    obtain ⟨b, hb⟩ := ih (p ++ [c]) (by rw [hp]; simp)
    by_cases e : ((rd_L1 l (p.length : Int)).length : Int) = ((rd_L1 l 0).length : Int)
    · refine ⟨b, Ev.step (fun _ => laws_level.l0.eq_2 _ _ _) (Ev.pos (by omega) (Ev.pos (by omega) (Ev.pos (by omega) (Ev.pos e ?_))))⟩
      rw [w64 (by omega) (by omega)]
      simpa using hb
    · exact ⟨_, Ev.step (fun _ => laws_level.l0.eq_2 _ _ _) (Ev.pos (by omega) (Ev.pos (by omega) (Ev.pos (by omega) (Ev.neg e (Ev.now _)))))⟩
theorem level2_f (a b : List (List ByteArray)) (ha : a.length ≤ 10) (hb : b.length ≤ 10) : ∃ r, Ev (fun k => level2.f k a b) r := by
  obtain ⟨r, hr⟩ := level_loop (a ++ b) (by simp; omega) (a ++ b) [] rfl
  exact ⟨r, Ev.pos (by omega) hr⟩
theorem sortR_mem {l : List (List ByteArray)} {x : List ByteArray} (h : x ∈ sortR l) : x ∈ l := (sortR_perm l).mem_iff.1 h
theorem sortR_iff (a b : List (List ByteArray)) : sortR a = sortR b ↔ a.Perm b :=
  ⟨fun h => ((sortR_perm a).symm.trans (List.Perm.of_eq h)).trans (sortR_perm b), fun h => sortR_unique ((sortR_perm a).trans h) (sortR_sorted a)⟩
theorem Sorted2D_loop (q : List (List ByteArray)) (hq : ∀ x ∈ q, x.length ≤ 9223372036854775807) : ∀ (p p' q' : List (List ByteArray)), p.length = p'.length → q.length = q'.length → p.length + q.length ≤ 9223372036854775807 →
    Ev (fun k => util_SortedArray2DEquals.l0 k (p' ++ q') (p ++ q) (((p ++ q).length : Nat) : Int) (p.length : Int)) (decide (q = q')) := by
  induction q with
  | nil =>
    intro p p' q' _ h _
    cases q' with
    | nil => exact Ev.step (fun _ => util_SortedArray2DEquals.l0.eq_2 _ _ _ _ _) (Ev.neg (by simp) (Ev.now _))
    | cons _ _ => simp at h
  | cons c q ih =>
    intro p p' q' h0 h hp
    cases q' with
    | nil => simp at h
    | cons d q' =>
      simp only [List.length_cons] at hp h
      refine Ev.step (fun _ => util_SortedArray2DEquals.l0.eq_2 _ _ _ _ _) (Ev.pos (by simp <;> omega) (Ev.pos (by omega) (Ev.pos (by simp <;> omega) (Ev.pos (by simp <;> omega) ?_))))
      rw [rd_L1_mid p q c _ rfl, rd_L1_mid p' q' d _ (by rw [h0]), w64 (by omega) (by omega)]
      refine Ev.bind (ArrayEquals_f c d (hq c (by simp))) ?_
      by_cases e : c = d
      · subst e
        refine Ev.pos (by simp) ?_
        have := ih (fun x hx => hq x (by simp [hx])) (p ++ [c]) (p' ++ [c]) q' (by simp [h0]) (by omega) (by simp <;> omega)
        simpa using this
      · refine Ev.neg (by simpa using e) ?_
        rw [show decide (c :: q = d :: q') = false from by simp [e]]
        exact Ev.now _
theorem Sorted2D_f (a b : List (List ByteArray)) (ha : a.length ≤ 10) (h8 : ∀ x ∈ a, x.length ≤ 8) : Ev (fun k => impl_SortedArray2DEquals.f k a b) (decide (a.Perm b)) := by
  unfold impl_SortedArray2DEquals.f
  refine Ev.bind ?_ (Ev.now _)
  unfold util_SortedArray2DEquals.f
  by_cases h : (a.length : Int) = (b.length : Int)
  · refine Ev.pos h (Ev.pos (by omega) ?_)
    have hla := sortR_length a
    have hlb := sortR_length b
    have q := Sorted2D_loop (sortR a) (fun x hx => by have := h8 x (sortR_mem hx); omega) [] [] (sortR b) rfl (by omega) (by simp; omega)
    rw [show decide (a.Perm b) = decide (sortR a = sortR b) from by rw [decide_eq_decide]; exact (sortR_iff a b).symm]
    simpa using q
  · rw [show decide (a.Perm b) = false from decide_eq_false (fun z => h (by rw [z.length_eq]))]
    exact Ev.neg h (Ev.now _)
/-- how many of the rows are this row -/
def ec (l : List (List ByteArray)) (x : List ByteArray) : Nat := l.countP fun y => decide (y = x)
theorem ec_count {α : Type} [DecidableEq α] (l : List α) (x : α) : (l.countP fun y => decide (y = x)) = l.count x := rfl
theorem ec_bag (a b : List (List ByteArray)) : (a.length = b.length ∧ ∀ x ∈ a, ec a x = ec b x) ↔ a.Perm b := bag_iff a b
theorem bag_inner (a b : List (List ByteArray)) (i : Nat) (x : List ByteArray) (hx : rd_L1 a (i : Int) = x) (hi : i < a.length) (h10 : a.length ≤ 10) (h8a : ∀ x ∈ a, x.length ≤ 8) (h8 : ∀ x ∈ b, x.length ≤ 8) (r : Bool) : ∀ (q p p' q' : List (List ByteArray)) (n m : Nat), a = p ++ q → b = p' ++ q' → p.length = p'.length → q.length = q'.length → n ≤ p.length → m ≤ p.length →
    Ev (fun k => if ((n + ec q x : Nat) : Int) = ((m + ec q' x : Nat) : Int) then spec_SameRowBag.l0 k a b false ((i : Int) + 1) else some false) r → Ev (fun k => spec_SameRowBag.l1 k a b false (i : Int) (n : Int) (m : Int) (p.length : Int)) r := by
  intro q
  induction q with
  | nil =>
    intro p p' q' n m ha hb hp hq n1 m1 K
    obtain rfl := List.eq_nil_of_length_eq_zero hq.symm
    have hl : a.length = p.length := by rw [ha]; simp
    refine Ev.step (fun _ => spec_SameRowBag.l1.eq_2 _ _ _ _ _ _ _ _) (Ev.neg (by omega) ?_)
    rw [w64 (by omega) (by omega)]
    exact K
  | cons c q ih =>
    intro p p' q' n m ha hb hp hq n1 m1 K
    cases q' with
    | nil => simp at hq
    | cons d q' =>
      simp only [List.length_cons] at hq
      have hl : a.length = p.length + (q.length + 1) := by rw [ha]; simp
      have hl' : b.length = p.length + (q.length + 1) := by rw [hb]; simp; omega
      have r1 : rd_L1 a (p.length : Int) = c := by rw [ha]; exact rd_L1_mid p q c _ rfl
      have r2 : rd_L1 b (p.length : Int) = d := by rw [hb]; exact rd_L1_mid p' q' d _ (by rw [hp])
      have hc8 : c.length ≤ 8 := h8a c (by rw [ha]; simp)
      have hd8 : d.length ≤ 8 := h8 d (by rw [hb]; simp)
      have next : ∀ n' m' : Nat, n' = n + (if c = x then 1 else 0) → m' = m + (if d = x then 1 else 0) → Ev (fun k => spec_SameRowBag.l1 k a b false (i : Int) (n' : Int) (m' : Int) ((p.length : Int) + 1)) r := by
        intro n' m' hn hm
        have := ih (p ++ [c]) (p' ++ [d]) q' n' m' (by rw [ha]; simp) (by rw [hb]; simp) (by simp [hp]) (by omega) (by rw [hn]; simp; split <;> omega) (by rw [hm]; simp; split <;> omega) (by
          have e1 : n' + ec q x = n + ec (c :: q) x := by rw [hn]; unfold ec; rw [List.countP_cons]; by_cases z : c = x <;> simp [z] <;> omega
          have e2 : m' + ec q' x = m + ec (d :: q') x := by rw [hm]; unfold ec; rw [List.countP_cons]; by_cases z : d = x <;> simp [z] <;> omega
          rw [e1, e2]; exact K)
        simpa using this
      have j3 : ∀ n' : Nat, n' ≤ 100 → n' = n + (if c = x then 1 else 0) → Ev (fun k => spec_SameRowBag.j3 k a b false (i : Int) (n' : Int) (m : Int) (p.length : Int)) r := by
        intro n' hn' hn
        refine Ev.step (fun _ => spec_SameRowBag.j3.eq_2 _ _ _ _ _ _ _ _) (Ev.pos (by omega) (Ev.pos (by omega) (Ev.pos (by omega) (Ev.pos (by omega) ?_))))
        rw [r2, hx, w64 (x := (p.length : Int) + 1) (by omega) (by omega), w64 (x := (m : Int) + 1) (by omega) (by omega)]
        refine Ev.bind (SameList_f d x (by omega)) ?_
        by_cases z : d = x
        · exact Ev.pos (by simpa using z) (next n' (m + 1) hn (by rw [if_pos z]))
        · exact Ev.neg (by simpa using z) (Ev.neg (by simp) (next n' m hn (by rw [if_neg z]; omega)))
      have j2 : ∀ f : Bool, f = decide (c = x) → Ev (fun k => spec_SameRowBag.j2 k a b false (i : Int) (n : Int) (m : Int) (p.length : Int) f) r := by
        intro f hf
        refine Ev.step (fun _ => spec_SameRowBag.j2.eq_2 _ _ _ _ _ _ _ _ _) ?_
        rw [w64 (x := (n : Int) + 1) (by omega) (by omega)]
        by_cases y : c = x
        · exact Ev.pos (by rw [hf]; simpa using y) (j3 (n + 1) (by omega) (by rw [if_pos y]))
        · exact Ev.neg (by rw [hf]; simpa using y) (j3 n (by omega) (by rw [if_neg y]; omega))
      refine Ev.step (fun _ => spec_SameRowBag.l1.eq_2 _ _ _ _ _ _ _ _) (Ev.pos (by omega) (Ev.pos (by omega) (Ev.pos (by omega) (Ev.pos (by omega) ?_))))
      rw [r1, hx]
      refine Ev.bind (SameList_f c x (by omega)) ?_
      by_cases z : c = x
      · exact Ev.pos (by simpa using z) (j2 true (by simp [z]))
      · exact Ev.neg (by simpa using z) (Ev.neg (by simp) (j2 false (by simp [z])))
theorem RowBag_loop (a b : List (List ByteArray)) (h10 : a.length ≤ 10) (h8a : ∀ x ∈ a, x.length ≤ 8) (h8 : ∀ x ∈ b, x.length ≤ 8) (hab : a.length = b.length) : ∀ (q p : List (List ByteArray)), a = p ++ q → Ev (fun k => spec_SameRowBag.l0 k a b false (p.length : Int)) (decide (∀ x ∈ q, ec a x = ec b x)) := by
  intro q
  induction q with
  | nil =>
    intro p h
    have hl : a.length = p.length := by rw [h]; simp
    exact Ev.step (fun _ => spec_SameRowBag.l0.eq_2 _ _ _ _ _) (Ev.neg (by omega) (Ev.eqr (by simp) (Ev.now _)))
  | cons c q ih =>
    intro p h
    have hl : a.length = p.length + (q.length + 1) := by rw [h]; simp
    have r1 : rd_L1 a (p.length : Int) = c := by rw [h]; exact rd_L1_mid p q c _ rfl
    refine Ev.step (fun _ => spec_SameRowBag.l0.eq_2 _ _ _ _ _) (Ev.pos (by omega) ?_)
    refine bag_inner a b p.length c r1 (by omega) h10 h8a h8 _ a [] [] b 0 0 rfl rfl rfl hab (by omega) (by omega) ?_
    by_cases e : ec a c = ec b c
    · refine Ev.pos (by rw [e]) ?_
      have := ih (p ++ [c]) (by rw [h]; simp)
      rw [show decide (∀ x ∈ c :: q, ec a x = ec b x) = decide (∀ x ∈ q, ec a x = ec b x) from by rw [decide_eq_decide]; simp [e]]
      simpa using this
    · rw [show decide (∀ x ∈ c :: q, ec a x = ec b x) = false from decide_eq_false (fun z => e (z c (List.mem_cons_self ..)))]
      exact Ev.neg (fun z => e (by omega)) (Ev.now _)
theorem RowBag_f (a b : List (List ByteArray)) (h10 : a.length ≤ 10) (h8a : ∀ x ∈ a, x.length ≤ 8) (h8 : ∀ x ∈ b, x.length ≤ 8) : Ev (fun k => spec_SameRowBag.f k a b false) (decide (a.Perm b)) := by
  unfold spec_SameRowBag.f
  by_cases h : (a.length : Int) = (b.length : Int)
  · refine Ev.pos h (Ev.eqr ?_ (RowBag_loop a b h10 h8a h8 (by omega) a [] rfl))
    rw [decide_eq_decide, ← ec_bag]
    exact ⟨fun z => ⟨by omega, z⟩, fun z => z.2⟩
  · rw [show decide (a.Perm b) = false from decide_eq_false (fun z => h (by rw [z.length_eq]))]
    exact Ev.neg h (Ev.now _)
theorem FnRowsEqual (a b : List (List ByteArray)) (ha : a.length ≤ 9223372036854775807) (ha2 : ∀ v ∈ a, v.length ≤ 9223372036854775807 ∧ ∀ x ∈ v, x.size ≤ maxLen) (hb : b.length ≤ 9223372036854775807) (hb2 : ∀ v ∈ b, v.length ≤ 9223372036854775807 ∧ ∀ x ∈ v, x.size ≤ maxLen) :
    ∃ k, laws_FnRowsEqual.f k a b = some true := by
  refine Ev.rounds (g := fun k => laws_FnRowsEqual.f k a b) ?_
  have j0_true : Ev (fun k => laws_FnRowsEqual.j0 k a b true) true := Ev.step (fun _ => laws_FnRowsEqual.j0.eq_2 _ _ _ _) (Ev.pos rfl (Ev.now _))
  have j1_true : Ev (fun k => laws_FnRowsEqual.j1 k a b true) true := Ev.step (fun _ => laws_FnRowsEqual.j1.eq_2 _ _ _ _) (Ev.pos rfl (Ev.bind awake (Ev.now _)))
  have j0_false : Ev (fun k => laws_FnRowsEqual.j0 k a b false) true := by
    refine Ev.step (fun _ => laws_FnRowsEqual.j0.eq_2 _ _ _ _) (Ev.neg (by simp) ?_)
    obtain ⟨x1, e1, z1⟩ := rows_f a ha
    refine Ev.bind e1 ?_
    cases x1
    · exact Ev.neg (by simp) j1_true
    refine Ev.pos rfl ?_
    obtain ⟨x2, e2, z2⟩ := rows_f b hb
    refine Ev.bind e2 ?_
    cases x2
    · exact Ev.neg (by simp) j1_true
    refine Ev.pos rfl ?_
    obtain ⟨h10a, h8a⟩ := z1 rfl
    obtain ⟨h10b, h8b⟩ := z2 rfl
    obtain ⟨x3, e3⟩ := level2_f a b h10a h10b
    refine Ev.bind e3 ?_
    cases x3
    · exact j1_true
    refine Ev.step (fun _ => laws_FnRowsEqual.j1.eq_2 _ _ _ _) (Ev.neg (by simp) ?_)
    refine Ev.bind (copiedRows_f a (by omega) (fun x hx => by have := h8a x hx; omega)) (Ev.bind (copiedRows_f b (by omega) (fun x hx => by have := h8b x hx; omega)) ?_)
    exact Ev.bind (Sorted2D_f a b h10a h8a) (Ev.bind (RowBag_f a b h10a h8a h8b) (Ev.pos (by simp) (Ev.bind awake (Ev.now _))))
  obtain ⟨x1, h1⟩ := zzFits11_f a ha (fun x hx => (ha2 x hx).1)
  refine Ev.bind h1 ?_
  cases x1
  · exact Ev.neg (by simp) j0_true
  refine Ev.pos rfl ?_
  obtain ⟨x2, h2⟩ := zzFits11_f b hb (fun x hx => (hb2 x hx).1)
  refine Ev.bind h2 ?_
  cases x2
  · exact j0_true
  · exact j0_false

end Go.Proofs.Ythmkbojkhoaolaa.Pure
