/- For all lists of texts and of numbers: laws.FnSetEquals answers true (the plain statement behind its walk); lengths are those that an int can hold. -/
import Derived.Test.YthmkbojkhoaolaaOFnSetEqualsx5
import Derived.Test.YthmkbojkhoaolaaBase
set_option linter.unusedSimpArgs false
set_option linter.unusedVariables false
namespace Go.Proofs.Ythmkbojkhoaolaa.Pure
open Go.RowKit Go.Proofs.Ythmkbojkhoaolaa.PFnSetEquals Go.Proofs.YthmkbojkhoaolaaW.PrintWords Go.Proofs.YthmkbojkhoaolaaW.PrintLast Go.Proofs.Ythmkbojkhoaolaa.Base

theorem awake : Ev laws_awakeUtil.f true := Ev.of laws_awakeUtil.mono (k := 30) (by decide +kernel)

theorem zzFits10_loop (q : List ByteArray) : ∀ p : List ByteArray, p.length + q.length ≤ 9223372036854775807 → ∃ b, Ev (fun k => laws_zzFits10.l0 k (p ++ q) (((p ++ q).length : Nat) : Int) (p.length : Int)) b := by
  induction q with
  | nil => intro p _; exact ⟨_, Ev.step (fun _ => laws_zzFits10.l0.eq_2 _ _ _ _) (Ev.neg (by simp) (Ev.now _))⟩
  | cons c q ih =>
    intro p hp
    simp only [List.length_cons] at hp
    obtain ⟨b, hb⟩ := ih (p ++ [c]) (by simp <;> omega)
    by_cases h : (c.size : Int) > 2147483647
    · exact ⟨_, Ev.step (fun _ => laws_zzFits10.l0.eq_2 _ _ _ _) (Ev.pos (by simp <;> omega) (Ev.pos (by omega) (Ev.pos (by simp <;> omega) (Ev.pos (by rw [rdOf_mid _ p q c _ rfl]; exact h) (Ev.now _)))))⟩
    · refine ⟨b, Ev.step (fun _ => laws_zzFits10.l0.eq_2 _ _ _ _) (Ev.pos (by simp <;> omega) (Ev.pos (by omega) (Ev.pos (by simp <;> omega) (Ev.neg (by rw [rdOf_mid _ p q c _ rfl]; exact h) ?_))))⟩
      rw [w64 (by omega) (by omega)]
      simpa using hb
theorem zzFits10_f (l : List ByteArray) (h : l.length ≤ 9223372036854775807) : ∃ b, Ev (fun k => laws_zzFits10.f k l) b := by
  by_cases g : (l.length : Int) > 2147483647
  · exact ⟨_, Ev.pos g (Ev.now _)⟩
  · obtain ⟨b, hb⟩ := zzFits10_loop l [] (by simpa using h)
    exact ⟨b, Ev.neg g hb⟩
theorem copied_f (l : List ByteArray) (h : l.length ≤ 20) : Ev (fun _ => laws_copied.f l) l := by
  unfold laws_copied.f
  refine Ev.bind (Ev.now ([] : List ByteArray)) (Ev.pos (by simp <;> omega) ?_)
  exact Ev.now _
theorem texts_f (l : List ByteArray) : laws_texts.f l = some (decide (l.length ≤ 20)) := by
  unfold laws_texts.f
  congr 1
  rw [Bool.eq_iff_iff]
  simp
  omega

theorem ArrayEquals_loop (q : List ByteArray) : ∀ (p q' : List ByteArray), q.length = q'.length → p.length + q.length ≤ 9223372036854775807 →
    Ev (fun k => util_ArrayEquals.l0 k (p ++ q') (p ++ q) (((p ++ q).length : Nat) : Int) (p.length : Int)) (decide (q = q')) := by
  induction q with
  | nil =>
    intro p q' h _
    cases q' with
    | nil => exact Ev.step (fun _ => util_ArrayEquals.l0.eq_2 _ _ _ _ _) (Ev.neg (by simp) (Ev.now _))
    | cons _ _ => simp at h
  | cons c q ih =>
    intro p q' h hp
    cases q' with
    | nil => simp at h
    | cons d q' =>
      simp only [List.length_cons] at hp h
      refine Ev.step (fun _ => util_ArrayEquals.l0.eq_2 _ _ _ _ _) (Ev.pos (by simp <;> omega) (Ev.pos (by omega) (Ev.pos (by simp <;> omega) (Ev.pos (by simp <;> omega) ?_))))
      rw [rdOf_mid _ p q c _ rfl, rdOf_mid _ p q' d _ rfl, w64 (by omega) (by omega)]
      by_cases e : c = d
      · subst e
        refine Ev.pos rfl ?_
        have := ih (p ++ [c]) q' (by omega) (by simp <;> omega)
        simpa using this
      · refine Ev.neg (fun x => e ((toList_iff _ _).1 x)) ?_
        rw [show decide (c :: q = d :: q') = false from by simp [e]]
        exact Ev.now _
theorem ArrayEquals_f (l m : List ByteArray) (h : l.length ≤ 9223372036854775807) : Ev (fun k => util_ArrayEquals.f k l m) (decide (l = m)) := by
  by_cases g : (l.length : Int) = (m.length : Int)
  · exact Ev.pos g (ArrayEquals_loop l [] m (by omega) (by simpa using h))
  · rw [show decide (l = m) = false from by simp; rintro rfl; exact g rfl]
    exact Ev.neg g (Ev.now _)

theorem Often_loop (s : ByteArray) (q : List ByteArray) : ∀ (p : List ByteArray) (n : Int), p.length + q.length ≤ 9223372036854775807 → 0 ≤ n → n ≤ p.length →
    Ev (fun k => spec_Often.l0 k (p ++ q) s n (p.length : Int)) (n + ((q.filter fun x => decide (x = s)).length : Nat)) := by
  induction q with
  | nil =>
    intro p n _ _ _
    refine Ev.step (fun _ => spec_Often.l0.eq_2 _ _ _ _ _) (Ev.neg (by simp) ?_)
    refine Ev.eqr ?_ (Ev.now _)
    simp
  | cons c q ih =>
    intro p n hp h0 hn
    simp only [List.length_cons] at hp
    refine Ev.step (fun _ => spec_Often.l0.eq_2 _ _ _ _ _) (Ev.pos (by simp <;> omega) (Ev.pos (by omega) ?_))
    rw [rdOf_mid _ p q c _ rfl, w64 (x := (p.length : Int) + 1) (by omega) (by omega)]
    by_cases e : c = s
    · subst e
      refine Ev.pos rfl ?_
      rw [w64 (by omega) (by omega)]
      have := ih (p ++ [c]) (n + 1) (by simp <;> omega) (by omega) (by simp <;> omega)
      simp only [List.append_assoc, List.cons_append, List.nil_append, List.length_append, List.length_cons, List.length_nil] at this
      refine Ev.eqr ?_ this
      simp
      omega
    · refine Ev.neg (fun x => e ((toList_iff _ _).1 x)) ?_
      have := ih (p ++ [c]) n (by simp <;> omega) h0 (by simp <;> omega)
      simp only [List.append_assoc, List.cons_append, List.nil_append, List.length_append, List.length_cons, List.length_nil] at this
      refine Ev.eqr ?_ this
      simp [e]
/-- how often a text stands in a list -/
def often (l : List ByteArray) (s : ByteArray) : Nat := (l.filter fun x => decide (x = s)).length
theorem Often_f (l : List ByteArray) (s : ByteArray) (h : l.length ≤ 9223372036854775807) : Ev (fun k => spec_Often.f k l s) (often l s : Int) := by
  have := Often_loop s l [] 0 (by simpa using h) (by omega) (by simp)
  unfold spec_Often.f
  simpa [often] using this

/-- two lists of one length, in which each of the one's members stands as often as in the other, are each other's turnings -/
theorem perm_of_count {α : Type} [DecidableEq α] : ∀ (a b : List α), a.length = b.length → (∀ x ∈ a, a.count x = b.count x) → a.Perm b := by
  intro a
  induction a with
  | nil => intro b h _; cases b with | nil => exact List.Perm.refl _ | cons _ _ => simp at h
  | cons c a ih =>
    intro b h hc
    have h1 := hc c (List.mem_cons_self ..)
    rw [List.count_cons_self] at h1
    have hm : c ∈ b := List.count_pos_iff.1 (by omega)
    have hp := List.perm_cons_erase hm
    have hl : b.length = (b.erase c).length + 1 := by simpa using hp.length_eq
    refine List.Perm.trans (List.Perm.cons c (ih (b.erase c) (by simp only [List.length_cons] at h; omega) ?_)) hp.symm
    intro x hx
    have h2 := hc x (List.mem_cons_of_mem _ hx)
    have h3 := hp.count_eq x
    rw [List.count_cons] at h2 h3
    omega
theorem bag_iff {α : Type} [DecidableEq α] (a b : List α) : (a.length = b.length ∧ ∀ x ∈ a, a.count x = b.count x) ↔ a.Perm b :=
  ⟨fun h => perm_of_count a b h.1 h.2, fun h => ⟨h.length_eq, fun x _ => h.count_eq x⟩⟩
theorem bytes_le_trans (a b c : List UInt8) (h : decide (a ≤ b) = true) (k : decide (b ≤ c) = true) : decide (a ≤ c) = true := decide_eq_true (List.le_trans (of_decide_eq_true h) (of_decide_eq_true k))
theorem bytes_le_total (a b : List UInt8) : (decide (a ≤ b) || decide (b ≤ a)) = true := by
  rcases List.le_total a b with h | h
  · simp [h]
  · simp [h]
theorem ints_le_total (a b : Int) : (decide (a ≤ b) || decide (b ≤ a)) = true := by
  rcases Int.le_total a b with h | h
  · simp [h]
  · simp [h]
theorem sortB_iff (a b : List (List UInt8)) : ((a.mergeSort fun x y => decide (x ≤ y)) = b.mergeSort fun x y => decide (x ≤ y)) ↔ a.Perm b := by
  constructor
  · intro h
    exact ((List.mergeSort_perm a _).symm.trans (List.Perm.of_eq h)).trans (List.mergeSort_perm b _)
  · intro h
    refine List.Perm.eq_of_pairwise (le := fun x y => decide (x ≤ y) = true) (fun x y _ _ h1 h2 => List.le_antisymm (of_decide_eq_true h1) (of_decide_eq_true h2)) (List.pairwise_mergeSort bytes_le_trans bytes_le_total a) (List.pairwise_mergeSort bytes_le_trans bytes_le_total b) ?_
    exact ((List.mergeSort_perm a _).trans h).trans (List.mergeSort_perm b _).symm
theorem filter_count {α : Type} [DecidableEq α] (l : List α) (s : α) : (l.filter fun x => decide (x = s)).length = l.count s := by
  rw [List.count_eq_length_filter]
  congr 1

theorem sortI_iff (a b : List Int) : sortI a = sortI b ↔ a.Perm b := by
  unfold sortI
  constructor
  · intro h
    exact ((List.mergeSort_perm a _).symm.trans (List.Perm.of_eq h)).trans (List.mergeSort_perm b _)
  · intro h
    have tr : ∀ x y z : Int, decide (x ≤ y) = true → decide (y ≤ z) = true → decide (x ≤ z) = true := fun x y z h1 h2 => decide_eq_true (Int.le_trans (of_decide_eq_true h1) (of_decide_eq_true h2))
    refine List.Perm.eq_of_pairwise (le := fun x y => decide (x ≤ y) = true) (fun x y _ _ h1 h2 => Int.le_antisymm (of_decide_eq_true h1) (of_decide_eq_true h2)) (List.pairwise_mergeSort tr ints_le_total a) (List.pairwise_mergeSort tr ints_le_total b) ?_
    exact ((List.mergeSort_perm a _).trans h).trans (List.mergeSort_perm b _).symm
theorem map_data_perm (a b : List ByteArray) : (a.map (·.data.toList)).Perm (b.map (·.data.toList)) ↔ a.Perm b := by
  constructor
  · intro h
    have := h.map B
    simpa [List.map_map, Function.comp_def, B_data] using this
  · intro h; exact h.map _
theorem sortT_iff (a b : List ByteArray) : sortT a = sortT b ↔ a.Perm b := by
  rw [← map_data_perm, ← sortB_iff]
  unfold sortT
  constructor
  · intro h
    have := congrArg (List.map (·.data.toList)) h
    simpa [List.map_map, Function.comp_def] using this
  · intro h; rw [h]
theorem SetEquals_f (a b : List ByteArray) (ha : a.length ≤ 20) (hb : b.length ≤ 20) : Ev (fun k => impl_SetEquals.f k a b) (decide (a.Perm b)) := by
  unfold impl_SetEquals.f
  have cp : ∀ l : List ByteArray, l.length ≤ 20 → Ev (fun _ => impl_texts.f l) l := by
    intro l h
    unfold impl_texts.f
    exact Ev.bind (Ev.now ([] : List ByteArray)) (Ev.pos (by simp <;> omega) (Ev.now _))
  refine Ev.bind (cp a ha) (Ev.bind (cp b hb) (Ev.bind ?_ (Ev.now _)))
  unfold util_SetEquals.f
  refine Ev.pos ⟨by omega, by omega⟩ ?_
  by_cases h : (a.length : Int) = (b.length : Int)
  · refine Ev.pos h ?_
    have q := ArrayEquals_loop (sortT a) [] (sortT b) (by rw [sortT_length, sortT_length]; omega) (by rw [sortT_length]; simp; omega)
    simp only [List.nil_append, sortT_length, List.length_nil] at q
    rw [show decide (a.Perm b) = decide (sortT a = sortT b) from by rw [decide_eq_decide]; exact (sortT_iff a b).symm]
    exact q
  · rw [show decide (a.Perm b) = false from decide_eq_false (fun z => h (by rw [z.length_eq]))]
    exact Ev.neg h (Ev.now _)
/-- how often a text stands in a list -/
def cnt (l : List ByteArray) (s : ByteArray) : Nat := @List.count _ instBEqOfDecidableEq s l
theorem Often_c (l : List ByteArray) (s : ByteArray) (h : l.length ≤ 9223372036854775807) : Ev (fun k => spec_Often.f k l s) (cnt l s : Int) := by
  have := Often_f l s h
  have e : often l s = cnt l s := filter_count l s
  rw [e] at this
  exact this
theorem SameBag_loop (a b : List ByteArray) (ha : a.length ≤ 20) (hb : b.length ≤ 20) (q : List ByteArray) : ∀ p, a = p ++ q → Ev (fun k => spec_SameBag.l0 k a b (p.length : Int)) (decide (∀ x ∈ q, cnt a x = cnt b x)) := by
  induction q with
  | nil =>
    intro p h
    subst h
    exact Ev.step (fun _ => spec_SameBag.l0.eq_2 _ _ _ _) (Ev.neg (by simp) (Ev.eqr (by simp) (Ev.now _)))
  | cons c q ih =>
    intro p h
    have hl : a.length = p.length + (q.length + 1) := by rw [h]; simp
    have r : rdOf ByteArray.empty a (p.length : Int) = c := by rw [h]; exact rdOf_mid _ p q c _ rfl
    refine Ev.step (fun _ => spec_SameBag.l0.eq_2 _ _ _ _) (Ev.pos (by omega) (Ev.pos (by omega) ?_))
    rw [r, w64 (by omega) (by omega)]
    refine Ev.bind (Often_c a c (by omega)) (Ev.bind (Often_c b c (by omega)) ?_)
    by_cases e : cnt a c = cnt b c
    · refine Ev.pos (by rw [e]) ?_
      have := ih (p ++ [c]) (by rw [h]; simp)
      rw [show decide (∀ x ∈ c :: q, cnt a x = cnt b x) = decide (∀ x ∈ q, cnt a x = cnt b x) from by rw [decide_eq_decide]; simp [e]]
      simpa using this
    · rw [show decide (∀ x ∈ c :: q, cnt a x = cnt b x) = false from decide_eq_false (fun z => e (z c (List.mem_cons_self ..)))]
      exact Ev.neg (fun z => e (by exact_mod_cast z)) (Ev.now _)
theorem SameBag_f (a b : List ByteArray) (ha : a.length ≤ 20) (hb : b.length ≤ 20) : Ev (fun k => spec_SameBag.f k a b) (decide (a.Perm b)) := by
  unfold spec_SameBag.f
  by_cases h : (a.length : Int) = (b.length : Int)
  · refine Ev.pos h (Ev.eqr ?_ (SameBag_loop a b ha hb a [] rfl))
    rw [decide_eq_decide, ← bag_iff]
    exact ⟨fun z => ⟨by omega, z⟩, fun z => z.2⟩
  · rw [show decide (a.Perm b) = false from decide_eq_false (fun z => h (by rw [z.length_eq]))]
    exact Ev.neg h (Ev.now _)
theorem SetEqualsInt_loop (q : List Int) : ∀ (p p' q' : List Int), p.length = p'.length → q.length = q'.length → p.length + q.length ≤ 9223372036854775807 →
    Ev (fun k => util_SetEqualsInt.l0 k (p' ++ q') (p ++ q) (((p ++ q).length : Nat) : Int) (p.length : Int)) (decide (q = q')) := by
  induction q with
  | nil =>
    intro p p' q' _ h _
    cases q' with
    | nil => exact Ev.step (fun _ => util_SetEqualsInt.l0.eq_2 _ _ _ _ _) (Ev.neg (by simp) (Ev.now _))
    | cons _ _ => simp at h
  | cons c q ih =>
    intro p p' q' h0 h hp
    cases q' with
    | nil => simp at h
    | cons d q' =>
      simp only [List.length_cons] at hp h
      refine Ev.step (fun _ => util_SetEqualsInt.l0.eq_2 _ _ _ _ _) (Ev.pos (by simp <;> omega) (Ev.pos (by omega) (Ev.pos (by simp <;> omega) (Ev.pos (by simp <;> omega) ?_))))
      rw [rd_mid p q c _ rfl, rd_mid p' q' d _ (by rw [h0]), w64 (by omega) (by omega)]
      by_cases e : c = d
      · subst e
        refine Ev.pos rfl ?_
        have := ih (p ++ [c]) (p' ++ [c]) q' (by simp [h0]) (by omega) (by simp <;> omega)
        simpa using this
      · refine Ev.neg e ?_
        rw [show decide (c :: q = d :: q') = false from by simp [e]]
        exact Ev.now _
theorem SetEqualsInt_f (a b : List Int) (ha : a.length ≤ 20) (hb : b.length ≤ 20) : Ev (fun k => impl_SetEqualsInt.f k a b) (decide (a.Perm b)) := by
  unfold impl_SetEqualsInt.f
  refine Ev.bind (Ev.now _) (Ev.pos (by simp <;> omega) (Ev.bind (Ev.now _) (Ev.pos (by simp <;> omega) (Ev.bind ?_ (Ev.now _)))))
  rw [List.nil_append, List.nil_append]
  unfold util_SetEqualsInt.f
  refine Ev.pos ⟨by omega, by omega⟩ ?_
  by_cases h : (a.length : Int) = (b.length : Int)
  · refine Ev.pos h ?_
    have q := SetEqualsInt_loop (sortI a) [] [] (sortI b) rfl (by rw [sortI_length, sortI_length]; omega) (by rw [sortI_length]; simp; omega)
    simp only [List.nil_append, sortI_length, List.length_nil] at q
    rw [show decide (a.Perm b) = decide (sortI a = sortI b) from by rw [decide_eq_decide]; exact (sortI_iff a b).symm]
    exact q
  · rw [show decide (a.Perm b) = false from decide_eq_false (fun z => h (by rw [z.length_eq]))]
    exact Ev.neg h (Ev.now _)
theorem ints_inner (a b : List Int) (i v : Int) (hv : rd a i = v) (h0 : 0 ≤ i) (hi : i < a.length) (h20 : a.length ≤ 20) (r : Bool) (q : List Int) : ∀ (p p' q' : List Int) (n m : Int), a = p ++ q → b = p' ++ q' → p.length = p'.length → q.length = q'.length → 0 ≤ n → n ≤ p.length → 0 ≤ m → m ≤ p.length →
    Ev (fun k => if n + (q.count v : Int) = m + (q'.count v : Int) then spec_SameInts.l0 k a b (i + 1) else some false) r → Ev (fun k => spec_SameInts.l1 k a b i n m (p.length : Int)) r := by
  induction q with
  | nil =>
    intro p p' q' n m ha hb hp hq n0 n1 m0 m1 K
    obtain rfl := List.eq_nil_of_length_eq_zero hq.symm
    have hl : a.length = p.length := by rw [ha]; simp
    refine Ev.step (fun _ => spec_SameInts.l1.eq_2 _ _ _ _ _ _ _) (Ev.neg (by omega) ?_)
    rw [w64 (by omega) (by omega)]
    simpa using K
  | cons c q ih =>
    intro p p' q' n m ha hb hp hq n0 n1 m0 m1 K
    cases q' with
    | nil => simp at hq
    | cons d q' =>
      simp only [List.length_cons] at hq
      have hl : a.length = p.length + (q.length + 1) := by rw [ha]; simp
      have hl' : b.length = p.length + (q.length + 1) := by rw [hb]; simp; omega
      have r1 : rd a (p.length : Int) = c := by rw [ha]; exact rd_mid p q c _ rfl
      have r2 : rd b (p.length : Int) = d := by rw [hb]; exact rd_mid p' q' d _ (by rw [hp])
      have next : ∀ n' m' : Int, n' = n + (if c = v then 1 else 0) → m' = m + (if d = v then 1 else 0) → Ev (fun k => spec_SameInts.l1 k a b i n' m' ((p.length : Int) + 1)) r := by
        intro n' m' hn hm
        have := ih (p ++ [c]) (p' ++ [d]) q' n' m' (by rw [ha]; simp) (by rw [hb]; simp) (by simp [hp]) (by omega) (by rw [hn]; split <;> omega) (by rw [hn]; simp; split <;> omega) (by rw [hm]; split <;> omega) (by rw [hm]; simp; split <;> omega) (by
          have e1 : n' + (q.count v : Int) = n + ((c :: q).count v : Int) := by rw [hn, List.count_cons]; by_cases z : c = v <;> simp [z] <;> omega
          have e2 : m' + (q'.count v : Int) = m + ((d :: q').count v : Int) := by rw [hm, List.count_cons]; by_cases z : d = v <;> simp [z] <;> omega
          rw [e1, e2]; exact K)
        simpa using this
      refine Ev.step (fun _ => spec_SameInts.l1.eq_2 _ _ _ _ _ _ _) (Ev.pos (by omega) (Ev.pos (by omega) (Ev.pos h0 (Ev.pos hi ?_))))
      rw [r1, r2, hv, w64 (x := (p.length : Int) + 1) (by omega) (by omega), w64 (x := n + 1) (by omega) (by omega), w64 (x := m + 1) (by omega) (by omega)]
      by_cases z : c = v
      · refine Ev.pos z (Ev.pos (by omega) ?_)
        by_cases y : d = v
        · exact Ev.pos y (next _ _ (by rw [if_pos z]) (by rw [if_pos y]))
        · exact Ev.neg y (next _ _ (by rw [if_pos z]) (by rw [if_neg y]; omega))
      · refine Ev.neg z (Ev.pos (by omega) ?_)
        by_cases y : d = v
        · exact Ev.pos y (next _ _ (by rw [if_neg z]; omega) (by rw [if_pos y]))
        · exact Ev.neg y (next _ _ (by rw [if_neg z]; omega) (by rw [if_neg y]; omega))
theorem SameInts_loop (a b : List Int) (h20 : a.length ≤ 20) (hab : a.length = b.length) (q : List Int) : ∀ p, a = p ++ q → Ev (fun k => spec_SameInts.l0 k a b (p.length : Int)) (decide (∀ x ∈ q, a.count x = b.count x)) := by
  induction q with
  | nil =>
    intro p h
    have hl : a.length = p.length := by rw [h]; simp
    exact Ev.step (fun _ => spec_SameInts.l0.eq_2 _ _ _ _) (Ev.neg (by omega) (Ev.eqr (by simp) (Ev.now _)))
  | cons c q ih =>
    intro p h
    have hl : a.length = p.length + (q.length + 1) := by rw [h]; simp
    have r : rd a (p.length : Int) = c := by rw [h]; exact rd_mid p q c _ rfl
    refine Ev.step (fun _ => spec_SameInts.l0.eq_2 _ _ _ _) (Ev.pos (by omega) ?_)
    refine ints_inner a b (p.length : Int) c r (by omega) (by omega) h20 _ a [] [] b 0 0 rfl rfl rfl hab (by omega) (by simp) (by omega) (by simp) ?_
    by_cases e : a.count c = b.count c
    · refine Ev.pos (by rw [e]) ?_
      have := ih (p ++ [c]) (by rw [h]; simp)
      rw [show decide (∀ x ∈ c :: q, a.count x = b.count x) = decide (∀ x ∈ q, a.count x = b.count x) from by rw [decide_eq_decide]; simp [e]]
      simpa using this
    · rw [show decide (∀ x ∈ c :: q, a.count x = b.count x) = false from decide_eq_false (fun z => e (z c (List.mem_cons_self ..)))]
      exact Ev.neg (fun z => e (by omega)) (Ev.now _)
theorem SameInts_f (a b : List Int) (ha : a.length ≤ 20) : Ev (fun k => spec_SameInts.f k a b) (decide (a.Perm b)) := by
  unfold spec_SameInts.f
  by_cases h : (a.length : Int) = (b.length : Int)
  · refine Ev.pos h (Ev.eqr ?_ (SameInts_loop a b ha (by omega) a [] rfl))
    rw [decide_eq_decide, ← bag_iff]
    exact ⟨fun z => ⟨by omega, z⟩, fun z => z.2⟩
  · rw [show decide (a.Perm b) = false from decide_eq_false (fun z => h (by rw [z.length_eq]))]
    exact Ev.neg h (Ev.now _)
theorem FnSetEquals (a b : List ByteArray) (c d : List Int) (ha : a.length ≤ 9223372036854775807) (_ : ∀ v ∈ a, v.size ≤ maxLen) (hb : b.length ≤ 9223372036854775807) (_ : ∀ v ∈ b, v.size ≤ maxLen) (_ : c.length ≤ 9223372036854775807) (_ : ∀ v ∈ c, (Lit.int .i64 v).wf = true) (_ : d.length ≤ 9223372036854775807) (_ : ∀ v ∈ d, (Lit.int .i64 v).wf = true) :
    ∃ k, laws_FnSetEquals.f k a b c d = some true := by
  refine Ev.rounds (g := fun k => laws_FnSetEquals.f k a b c d) ?_
  have j0_true : Ev (fun k => laws_FnSetEquals.j0 k a b c d true) true := Ev.step (fun _ => laws_FnSetEquals.j0.eq_2 _ _ _ _ _ _) (Ev.pos rfl (Ev.now _))
  have j1_true : Ev (fun k => laws_FnSetEquals.j1 k a b c d true) true := Ev.step (fun _ => laws_FnSetEquals.j1.eq_2 _ _ _ _ _ _) (Ev.pos rfl (Ev.bind awake (Ev.now _)))
  have j1_false : a.length ≤ 20 → b.length ≤ 20 → c.length ≤ 20 → d.length ≤ 20 → Ev (fun k => laws_FnSetEquals.j1 k a b c d false) true := by
    intro h1 h2 h3 h4
    refine Ev.step (fun _ => laws_FnSetEquals.j1.eq_2 _ _ _ _ _ _) (Ev.neg (by simp) (Ev.bind (copied_f a h1) (Ev.bind (copied_f b h2) (Ev.bind (SetEquals_f a b h1 h2) (Ev.bind (SameBag_f a b h1 h2) (Ev.pos (by simp) ?_))))))
    refine Ev.bind (Ev.now _) (Ev.pos (by simp <;> omega) (Ev.bind (Ev.now _) (Ev.pos (by simp <;> omega) ?_)))
    rw [List.nil_append, List.nil_append]
    exact Ev.bind (SetEqualsInt_f c d h3 h4) (Ev.bind (SameInts_f c d h3) (Ev.pos (by simp) (Ev.bind awake (Ev.now _))))
  have j0_false : Ev (fun k => laws_FnSetEquals.j0 k a b c d false) true := by
    refine Ev.step (fun _ => laws_FnSetEquals.j0.eq_2 _ _ _ _ _ _) (Ev.neg (by simp) (Ev.bind (Ev.const (texts_f a)) ?_))
    by_cases h1 : a.length ≤ 20
    · refine Ev.pos (by simpa using h1) (Ev.bind (Ev.const (texts_f b)) ?_)
      by_cases h2 : b.length ≤ 20
      · refine Ev.pos (by simpa using h2) ?_
        by_cases h3 : (c.length : Int) > 20
        · exact Ev.pos h3 j1_true
        · refine Ev.neg h3 ?_
          by_cases h4 : (d.length : Int) > 20
          · rw [decide_eq_true h4]; exact j1_true
          · rw [decide_eq_false h4]; exact j1_false h1 h2 (by omega) (by omega)
      · exact Ev.neg (by simpa using h2) j1_true
    · exact Ev.neg (by simpa using h1) j1_true
  obtain ⟨x1, h1⟩ := zzFits10_f a ha
  refine Ev.bind h1 ?_
  cases x1
  · exact Ev.neg (by simp) j0_true
  refine Ev.pos rfl ?_
  obtain ⟨x2, h2⟩ := zzFits10_f b hb
  refine Ev.bind h2 ?_
  cases x2
  · exact Ev.neg (by simp) j0_true
  refine Ev.pos rfl ?_
  by_cases h3 : (c.length : Int) > 2147483647
  · exact Ev.pos h3 j0_true
  · refine Ev.neg h3 ?_
    by_cases h4 : (d.length : Int) > 2147483647
    · rw [decide_eq_true h4]; exact j0_true
    · rw [decide_eq_false h4]; exact j0_false

end Go.Proofs.Ythmkbojkhoaolaa.Pure
