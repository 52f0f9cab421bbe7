/- For all two lists of rows of texts: laws.FnRowSets answers true (the plain statement behind its walk); lengths are those that an int can hold. -/
import Derived.Test.YthmkbojkhoaolaaOFnRowSetsx8
import Derived.Test.YthmkbojkhoaolaaBase
set_option linter.unusedSimpArgs false
set_option linter.unusedVariables false
namespace Go.Proofs.Ythmkbojkhoaolaa.Pure
open Go.RowKit Go.Proofs.Ythmkbojkhoaolaa.PFnRowSets Go.Proofs.YthmkbojkhoaolaaW.PrintWords Go.Proofs.YthmkbojkhoaolaaW.PrintLast Go.Proofs.Ythmkbojkhoaolaa.Base

theorem awake : Ev laws_awakeUtil.f true := Ev.of laws_awakeUtil.mono (k := 30) (by decide +kernel)

/-- two lists of one length, in which each of the one's members stands as often as in the other, are each other's turnings -/
theorem perm_of_count {α : Type} [DecidableEq α] : ∀ (a b : List α), a.length = b.length → (∀ x ∈ a, a.count x = b.count x) → a.Perm b := by
  intro a
  induction a with
  | nil => intro b h _; cases b with | nil => exact List.Perm.refl _ | cons _ _ => simp at h
  | cons c a ih =>
    intro b h hc
    have h1 := hc c (List.mem_cons_self ..)
    rw [List.count_cons_self] at h1
    have hm : c ∈ b := List.count_pos_iff.1 (by omega)
    have hp := List.perm_cons_erase hm
    have hl : b.length = (b.erase c).length + 1 := by simpa using hp.length_eq
    refine List.Perm.trans (List.Perm.cons c (ih (b.erase c) (by simp only [List.length_cons] at h; omega) ?_)) hp.symm
    intro x hx
    have h2 := hc x (List.mem_cons_of_mem _ hx)
    have h3 := hp.count_eq x
    rw [List.count_cons] at h2 h3
    omega
theorem bag_iff {α : Type} [DecidableEq α] (a b : List α) : (a.length = b.length ∧ ∀ x ∈ a, a.count x = b.count x) ↔ a.Perm b :=
  ⟨fun h => perm_of_count a b h.1 h.2, fun h => ⟨h.length_eq, fun x _ => h.count_eq x⟩⟩
theorem bytes_le_trans (a b c : List UInt8) (h : decide (a ≤ b) = true) (k : decide (b ≤ c) = true) : decide (a ≤ c) = true := decide_eq_true (List.le_trans (of_decide_eq_true h) (of_decide_eq_true k))
theorem bytes_le_total (a b : List UInt8) : (decide (a ≤ b) || decide (b ≤ a)) = true := by
  rcases List.le_total a b with h | h
  · simp [h]
  · simp [h]
theorem ints_le_total (a b : Int) : (decide (a ≤ b) || decide (b ≤ a)) = true := by
  rcases Int.le_total a b with h | h
  · simp [h]
  · simp [h]
theorem sortB_iff (a b : List (List UInt8)) : ((a.mergeSort fun x y => decide (x ≤ y)) = b.mergeSort fun x y => decide (x ≤ y)) ↔ a.Perm b := by
  constructor
  · intro h
    exact ((List.mergeSort_perm a _).symm.trans (List.Perm.of_eq h)).trans (List.mergeSort_perm b _)
  · intro h
    refine List.Perm.eq_of_pairwise (le := fun x y => decide (x ≤ y) = true) (fun x y _ _ h1 h2 => List.le_antisymm (of_decide_eq_true h1) (of_decide_eq_true h2)) (List.pairwise_mergeSort bytes_le_trans bytes_le_total a) (List.pairwise_mergeSort bytes_le_trans bytes_le_total b) ?_
    exact ((List.mergeSort_perm a _).trans h).trans (List.mergeSort_perm b _).symm
theorem filter_count {α : Type} [DecidableEq α] (l : List α) (s : α) : (l.filter fun x => decide (x = s)).length = l.count s := by
  rw [List.count_eq_length_filter]
  congr 1

theorem ArrayEquals_loop (q : List ByteArray) : ∀ (p q' : List ByteArray), q.length = q'.length → p.length + q.length ≤ 9223372036854775807 →
    Ev (fun k => util_ArrayEquals.l0 k (p ++ q') (p ++ q) (((p ++ q).length : Nat) : Int) (p.length : Int)) (decide (q = q')) := by
  induction q with
  | nil =>
    intro p q' h _
    cases q' with
    | nil => exact Ev.step (fun _ => util_ArrayEquals.l0.eq_2 _ _ _ _ _) (Ev.neg (by simp) (Ev.now _))
    | cons _ _ => simp at h
  | cons c q ih =>
    intro p q' h hp
    cases q' with
    | nil => simp at h
    | cons d q' =>
      simp only [List.length_cons] at hp h
      refine Ev.step (fun _ => util_ArrayEquals.l0.eq_2 _ _ _ _ _) (Ev.pos (by simp <;> omega) (Ev.pos (by omega) (Ev.pos (by simp <;> omega) (Ev.pos (by simp <;> omega) ?_))))
      rw [rdOf_mid _ p q c _ rfl, rdOf_mid _ p q' d _ rfl, w64 (by omega) (by omega)]
      by_cases e : c = d
      · subst e
        refine Ev.pos rfl ?_
        have := ih (p ++ [c]) q' (by omega) (by simp <;> omega)
        simpa using this
      · refine Ev.neg (fun x => e ((toList_iff _ _).1 x)) ?_
        rw [show decide (c :: q = d :: q') = false from by simp [e]]
        exact Ev.now _
theorem ArrayEquals_f (l m : List ByteArray) (h : l.length ≤ 9223372036854775807) : Ev (fun k => util_ArrayEquals.f k l m) (decide (l = m)) := by
  by_cases g : (l.length : Int) = (m.length : Int)
  · exact Ev.pos g (ArrayEquals_loop l [] m (by omega) (by simpa using h))
  · rw [show decide (l = m) = false from by simp; rintro rfl; exact g rfl]
    exact Ev.neg g (Ev.now _)

theorem SameList_loop (q : List ByteArray) : ∀ (p q' : List ByteArray), q.length = q'.length → p.length + q.length ≤ 9223372036854775807 →
    Ev (fun k => spec_SameList.l0 k (p ++ q) (p ++ q') (p.length : Int)) (decide (q = q')) := by
  induction q with
  | nil =>
    intro p q' h _
    cases q' with
    | nil => exact Ev.step (fun _ => spec_SameList.l0.eq_2 _ _ _ _) (Ev.neg (by simp) (Ev.now _))
    | cons _ _ => simp at h
  | cons c q ih =>
    intro p q' h hp
    cases q' with
    | nil => simp at h
    | cons d q' =>
      simp only [List.length_cons] at hp h
      refine Ev.step (fun _ => spec_SameList.l0.eq_2 _ _ _ _) (Ev.pos (by simp <;> omega) (Ev.pos (by omega) (Ev.pos (by simp <;> omega) ?_)))
      rw [rdOf_mid _ p q c _ rfl, rdOf_mid _ p q' d _ rfl, w64 (by omega) (by omega)]
      by_cases e : c = d
      · subst e
        refine Ev.pos rfl ?_
        have := ih (p ++ [c]) q' (by omega) (by simp <;> omega)
        simpa using this
      · refine Ev.neg (fun x => e ((toList_iff _ _).1 x)) ?_
        rw [show decide (c :: q = d :: q') = false from by simp [e]]
        exact Ev.now _
theorem SameList_f (l m : List ByteArray) (h : l.length ≤ 9223372036854775807) : Ev (fun k => spec_SameList.f k l m) (decide (l = m)) := by
  by_cases g : (l.length : Int) = (m.length : Int)
  · exact Ev.pos g (SameList_loop l [] m (by omega) (by simpa using h))
  · rw [show decide (l = m) = false from by simp; rintro rfl; exact g rfl]
    exact Ev.neg g (Ev.now _)

theorem Often_loop (s : ByteArray) (q : List ByteArray) : ∀ (p : List ByteArray) (n : Int), p.length + q.length ≤ 9223372036854775807 → 0 ≤ n → n ≤ p.length →
    Ev (fun k => spec_Often.l0 k (p ++ q) s n (p.length : Int)) (n + ((q.filter fun x => decide (x = s)).length : Nat)) := by
  induction q with
  | nil =>
    intro p n _ _ _
    refine Ev.step (fun _ => spec_Often.l0.eq_2 _ _ _ _ _) (Ev.neg (by simp) ?_)
    refine Ev.eqr ?_ (Ev.now _)
    simp
  | cons c q ih =>
    intro p n hp h0 hn
    simp only [List.length_cons] at hp
    refine Ev.step (fun _ => spec_Often.l0.eq_2 _ _ _ _ _) (Ev.pos (by simp <;> omega) (Ev.pos (by omega) ?_))
    rw [rdOf_mid _ p q c _ rfl, w64 (x := (p.length : Int) + 1) (by omega) (by omega)]
    by_cases e : c = s
    · subst e
      refine Ev.pos rfl ?_
      rw [w64 (by omega) (by omega)]
      have := ih (p ++ [c]) (n + 1) (by simp <;> omega) (by omega) (by simp <;> omega)
      simp only [List.append_assoc, List.cons_append, List.nil_append, List.length_append, List.length_cons, List.length_nil] at this
      refine Ev.eqr ?_ this
      simp
      omega
    · refine Ev.neg (fun x => e ((toList_iff _ _).1 x)) ?_
      have := ih (p ++ [c]) n (by simp <;> omega) h0 (by simp <;> omega)
      simp only [List.append_assoc, List.cons_append, List.nil_append, List.length_append, List.length_cons, List.length_nil] at this
      refine Ev.eqr ?_ this
      simp [e]
/-- how often a text stands in a list -/
def often (l : List ByteArray) (s : ByteArray) : Nat := (l.filter fun x => decide (x = s)).length
theorem Often_f (l : List ByteArray) (s : ByteArray) (h : l.length ≤ 9223372036854775807) : Ev (fun k => spec_Often.f k l s) (often l s : Int) := by
  have := Often_loop s l [] 0 (by simpa using h) (by omega) (by simp)
  unfold spec_Often.f
  simpa [often] using this

theorem map_data_perm (a b : List ByteArray) : (a.map (·.data.toList)).Perm (b.map (·.data.toList)) ↔ a.Perm b := by
  constructor
  · intro h
    have := h.map B
    simpa [List.map_map, Function.comp_def, B_data] using this
  · intro h; exact h.map _
theorem sortT_iff (a b : List ByteArray) : sortT a = sortT b ↔ a.Perm b := by
  rw [← map_data_perm, ← sortB_iff]
  unfold sortT
  constructor
  · intro h
    have := congrArg (List.map (·.data.toList)) h
    simpa [List.map_map, Function.comp_def] using this
  · intro h; rw [h]
/-- how often a text stands in a list -/
def cnt (l : List ByteArray) (s : ByteArray) : Nat := @List.count _ instBEqOfDecidableEq s l
theorem Often_c (l : List ByteArray) (s : ByteArray) (h : l.length ≤ 9223372036854775807) : Ev (fun k => spec_Often.f k l s) (cnt l s : Int) := by
  have := Often_f l s h
  have e : often l s = cnt l s := filter_count l s
  rw [e] at this
  exact this
theorem SameBag_loop (a b : List ByteArray) (ha : a.length ≤ 20) (hb : b.length ≤ 20) (q : List ByteArray) : ∀ p, a = p ++ q → Ev (fun k => spec_SameBag.l0 k a b (p.length : Int)) (decide (∀ x ∈ q, cnt a x = cnt b x)) := by
  induction q with
  | nil =>
    intro p h
    subst h
    exact Ev.step (fun _ => spec_SameBag.l0.eq_2 _ _ _ _) (Ev.neg (by simp) (Ev.eqr (by simp) (Ev.now _)))
  | cons c q ih =>
    intro p h
    have hl : a.length = p.length + (q.length + 1) := by rw [h]; simp
    have r : rdOf ByteArray.empty a (p.length : Int) = c := by rw [h]; exact rdOf_mid _ p q c _ rfl
    refine Ev.step (fun _ => spec_SameBag.l0.eq_2 _ _ _ _) (Ev.pos (by omega) (Ev.pos (by omega) ?_))
    rw [r, w64 (by omega) (by omega)]
    refine Ev.bind (Often_c a c (by omega)) (Ev.bind (Often_c b c (by omega)) ?_)
    by_cases e : cnt a c = cnt b c
    · refine Ev.pos (by rw [e]) ?_
      have := ih (p ++ [c]) (by rw [h]; simp)
      rw [show decide (∀ x ∈ c :: q, cnt a x = cnt b x) = decide (∀ x ∈ q, cnt a x = cnt b x) from by rw [decide_eq_decide]; simp [e]]
      simpa using this
    · rw [show decide (∀ x ∈ c :: q, cnt a x = cnt b x) = false from decide_eq_false (fun z => e (z c (List.mem_cons_self ..)))]
      exact Ev.neg (fun z => e (by exact_mod_cast z)) (Ev.now _)
theorem SameBag_f (a b : List ByteArray) (ha : a.length ≤ 20) (hb : b.length ≤ 20) : Ev (fun k => spec_SameBag.f k a b) (decide (a.Perm b)) := by
  unfold spec_SameBag.f
  by_cases h : (a.length : Int) = (b.length : Int)
  · refine Ev.pos h (Ev.eqr ?_ (SameBag_loop a b ha hb a [] rfl))
    rw [decide_eq_decide, ← bag_iff]
    exact ⟨fun z => ⟨by omega, z⟩, fun z => z.2⟩
  · rw [show decide (a.Perm b) = false from decide_eq_false (fun z => h (by rw [z.length_eq]))]
    exact Ev.neg h (Ev.now _)

theorem zzFits10_loopS (q : List ByteArray) : ∀ p : List ByteArray, p.length + q.length ≤ 9223372036854775807 → ∃ b, Ev (fun k => laws_zzFits10.l0 k (p ++ q) (((p ++ q).length : Nat) : Int) (p.length : Int)) b ∧ (b = true → ∀ v ∈ q, v.size ≤ 2147483647) := by
  induction q with
  | nil => intro p _; exact ⟨_, Ev.step (fun _ => laws_zzFits10.l0.eq_2 _ _ _ _) (Ev.neg (by simp) (Ev.now _)), by simp⟩
  | cons c q ih =>
    intro p hp
    simp only [List.length_cons] at hp
    obtain ⟨b, hb, hs⟩ := ih (p ++ [c]) (by simp <;> omega)
    by_cases h : (c.size : Int) > 2147483647
    · exact ⟨_, Ev.step (fun _ => laws_zzFits10.l0.eq_2 _ _ _ _) (Ev.pos (by simp <;> omega) (Ev.pos (by omega) (Ev.pos (by simp <;> omega) (Ev.pos (by rw [rdOf_mid _ p q c _ rfl]; exact h) (Ev.now _))))), by simp⟩
    · refine ⟨b, Ev.step (fun _ => laws_zzFits10.l0.eq_2 _ _ _ _) (Ev.pos (by simp <;> omega) (Ev.pos (by omega) (Ev.pos (by simp <;> omega) (Ev.neg (by rw [rdOf_mid _ p q c _ rfl]; exact h) ?_)))), ?_⟩
      · rw [w64 (by omega) (by omega)]
        simpa using hb
      · intro hb v hv
        rcases List.mem_cons.1 hv with rfl | hv
        · omega
        · exact hs hb v hv
theorem zzFits10_s (l : List ByteArray) (h : l.length ≤ 9223372036854775807) : ∃ b, Ev (fun k => laws_zzFits10.f k l) b ∧ (b = true → ∀ v ∈ l, v.size ≤ 2147483647) := by
  by_cases g : (l.length : Int) > 2147483647
  · exact ⟨_, Ev.pos g (Ev.now _), by simp⟩
  · obtain ⟨b, hb, hs⟩ := zzFits10_loopS l [] (by simpa using h)
    exact ⟨b, Ev.neg g hb, hs⟩

theorem copied_f (l : List ByteArray) (h : l.length ≤ 20) : Ev (fun _ => laws_copied.f l) l := by
  unfold laws_copied.f
  refine Ev.bind (Ev.now ([] : List ByteArray)) (Ev.pos (by simp <;> omega) ?_)
  exact Ev.now _

theorem rd_L1_mid (p q : List (List ByteArray)) (c : List ByteArray) (i : Int) (h : i = (p.length : Int)) : rd_L1 (p ++ c :: q) i = c := getD_mid _ p q c i h
theorem rows_loop (q : List (List ByteArray)) : ∀ p : List (List ByteArray), p.length + q.length ≤ 9223372036854775807 → ∃ b, Ev (fun k => laws_rows.l0 k (p ++ q) (p.length : Int)) b ∧ (b = true → (p ++ q).length ≤ 10 ∧ ∀ x ∈ q, x.length ≤ 8) := by
  induction q with
  | nil =>
    intro p _
    refine ⟨_, Ev.step (fun _ => laws_rows.l0.eq_2 _ _ _) (Ev.neg (by simp) (Ev.now _)), fun h => ⟨?_, fun x hx => by simp at hx⟩⟩
    simp at h ⊢
    omega
  | cons c q ih =>
    intro p hp
    simp only [List.length_cons] at hp
    by_cases h : (c.length : Int) > 8
    · exact ⟨_, Ev.step (fun _ => laws_rows.l0.eq_2 _ _ _) (Ev.pos (by simp <;> omega) (Ev.pos (by omega) (Ev.pos (by rw [rd_L1_mid p q c _ rfl]; exact h) (Ev.now _)))), fun e => by cases e⟩
    · obtain ⟨b, hb, hq⟩ := ih (p ++ [c]) (by simp <;> omega)
      refine ⟨b, Ev.step (fun _ => laws_rows.l0.eq_2 _ _ _) (Ev.pos (by simp <;> omega) (Ev.pos (by omega) (Ev.neg (by rw [rd_L1_mid p q c _ rfl]; exact h) ?_))), fun e => ?_⟩
      · rw [w64 (by omega) (by omega)]
        simpa using hb
      · obtain ⟨h1, h2⟩ := hq e
        refine ⟨by simpa using h1, fun x hx => ?_⟩
        rcases List.mem_cons.1 hx with rfl | hx
        · omega
        · exact h2 x hx
theorem rows_f (l : List (List ByteArray)) (h : l.length ≤ 9223372036854775807) : ∃ b, Ev (fun k => laws_rows.f k l) b ∧ (b = true → l.length ≤ 10 ∧ ∀ x ∈ l, x.length ≤ 8) := by
  by_cases g : (l.length : Int) > 10
  · exact ⟨_, Ev.pos g (Ev.now _), fun e => by cases e⟩
  · obtain ⟨b, hb, hq⟩ := rows_loop l [] (by simpa using h)
    exact ⟨b, Ev.neg g hb, fun e => by simpa using hq e⟩
theorem copiedRows_loop (q : List (List ByteArray)) (hq : ∀ x ∈ q, x.length ≤ 20) : ∀ p : List (List ByteArray), p.length + q.length ≤ 1000 →
    Ev (fun k => laws_copiedRows.l0 k (p ++ q) p (p.length : Int)) (p ++ q) := by
  induction q with
  | nil =>
    intro p _
    refine Ev.step (fun _ => laws_copiedRows.l0.eq_2 _ _ _ _) (Ev.neg (by simp) ?_)
    rw [List.append_nil]
    exact Ev.now _
  | cons c q ih =>
    intro p hp
    simp only [List.length_cons] at hp
    refine Ev.step (fun _ => laws_copiedRows.l0.eq_2 _ _ _ _) (Ev.pos (by simp <;> omega) (Ev.pos (by omega) ?_))
    rw [rd_L1_mid p q c _ rfl, w64 (by omega) (by omega)]
    refine Ev.bind (copied_f c (hq c (by simp))) (Ev.pos (by omega) ?_)
    have := ih (fun x hx => hq x (by simp [hx])) (p ++ [c]) (by simp <;> omega)
    simpa using this
theorem copiedRows_f (l : List (List ByteArray)) (h : l.length ≤ 1000) (hl : ∀ x ∈ l, x.length ≤ 20) : Ev (fun k => laws_copiedRows.f k l) l := copiedRows_loop l hl [] (by simpa using h)

/-- texts, each behind a comma and a blank -/
def behind (q : List ByteArray) : List UInt8 := (q.map fun x => [44, 32] ++ x.data.toList).flatten
theorem behind_nil : behind [] = [] := rfl
theorem behind_cons (c : ByteArray) (q : List ByteArray) : behind (c :: q) = [44, 32] ++ c.data.toList ++ behind q := by simp [behind]
theorem behind_length : ∀ q : List ByteArray, (∀ v ∈ q, v.size ≤ 2147483647) → (behind q).length ≤ q.length * 2147483649
  | [], _ => by simp [behind]
  | c :: q, h => by
    have h1 := behind_length q (fun v hv => h v (List.mem_cons_of_mem _ hv))
    have h2 := h c (List.mem_cons_self ..)
    have h3 : c.data.toList.length = c.size := by simp
    rw [behind_cons]
    simp only [List.length_append, List.length_cons, List.length_nil, h3]
    omega
theorem inter (c : ByteArray) (q : List ByteArray) : Lib.join ((c :: q).map (·.data.toList)) [44, 32] = c.data.toList ++ behind q := by
  unfold Lib.join
  induction q generalizing c with
  | nil => simp [List.intercalate, behind]
  | cons d q ih =>
    have e := ih d
    simp only [List.map_cons, List.intercalate, List.intersperse] at e ⊢
    simp only [List.flatten_cons, behind_cons]
    rw [e]
    simp
theorem Join_f (l : List ByteArray) (h : l.length ≤ 20) (hs : ∀ v ∈ l, v.size ≤ 2147483647) : strings_Join.f l (B [44, 32]) = some (B (Lib.join (l.map (·.data.toList)) [44, 32])) := by
  unfold strings_Join.f
  rw [data_B, if_pos]
  · rfl
  · refine ⟨by omega, ?_⟩
    cases l with
    | nil => show 0 ≤ _; omega
    | cons c q =>
      rw [inter]
      have hc := hs c (List.mem_cons_self ..)
      have hb := behind_length q (fun v hv => hs v (List.mem_cons_of_mem _ hv))
      have h3 : c.data.toList.length = c.size := by simp
      simp only [List.length_cons] at h
      simp only [List.length_append, h3]
      omega

/-- a row's texts, sorted and joined -/
def jn (row : List ByteArray) : ByteArray := B (Lib.join ((sortT row).map (·.data.toList)) [44, 32])
/-- not empty, no comma -/
def plainT (t : ByteArray) : Prop := t.data.toList ≠ [] ∧ (44 : UInt8) ∉ t.data.toList
theorem head_eq : ∀ (x y u v : List UInt8), (44 : UInt8) ∉ x → (44 : UInt8) ∉ y → (u = [] ∨ ∃ u', u = 44 :: u') → (v = [] ∨ ∃ v', v = 44 :: v') → x ++ u = y ++ v → x = y ∧ u = v
  | [], [], _, _, _, _, _, _, h => ⟨rfl, h⟩
  | [], c :: y, u, v, _, hy, hu, _, h => by
    rcases hu with rfl | ⟨u', rfl⟩
    · simp at h
    · simp only [List.nil_append, List.cons_append, List.cons.injEq] at h
      exact absurd (List.mem_cons_self ..) (h.1 ▸ hy)
  | c :: x, [], u, v, hx, _, _, hv, h => by
    rcases hv with rfl | ⟨v', rfl⟩
    · simp at h
    · simp only [List.nil_append, List.cons_append, List.cons.injEq] at h
      exact absurd (List.mem_cons_self ..) (h.1 ▸ hx)
  | c :: x, d :: y, u, v, hx, hy, hu, hv, h => by
    simp only [List.cons_append, List.cons.injEq] at h
    obtain ⟨rfl, h⟩ := h
    obtain ⟨rfl, e⟩ := head_eq x y u v (fun z => hx (List.mem_cons_of_mem _ z)) (fun z => hy (List.mem_cons_of_mem _ z)) hu hv h
    exact ⟨rfl, e⟩
theorem behind_form : ∀ q : List ByteArray, behind q = [] ∨ ∃ u', behind q = 44 :: u'
  | [] => .inl rfl
  | c :: q => .inr ⟨_, by rw [behind_cons]; rfl⟩
theorem bytes_ext {a b : ByteArray} (h : a.data.toList = b.data.toList) : a = b := by rw [← B_data a, ← B_data b, h]
theorem behind_inj : ∀ (q q' : List ByteArray), (∀ t ∈ q, (44 : UInt8) ∉ t.data.toList) → (∀ t ∈ q', (44 : UInt8) ∉ t.data.toList) → behind q = behind q' → q = q'
  | [], [], _, _, _ => rfl
  | [], c :: q', _, _, h => by rw [behind_cons] at h; simp [behind] at h
  | c :: q, [], _, _, h => by rw [behind_cons] at h; simp [behind] at h
  | c :: q, d :: q', h1, h2, h => by
    rw [behind_cons, behind_cons] at h
    simp only [List.cons_append, List.nil_append, List.cons.injEq, true_and] at h
    obtain ⟨e, e2⟩ := head_eq _ _ _ _ (h1 c (List.mem_cons_self ..)) (h2 d (List.mem_cons_self ..)) (behind_form q) (behind_form q') h
    rw [bytes_ext e, behind_inj q q' (fun t ht => h1 t (List.mem_cons_of_mem _ ht)) (fun t ht => h2 t (List.mem_cons_of_mem _ ht)) e2]
theorem join_inj (a b : List ByteArray) (ha : ∀ t ∈ a, plainT t) (hb : ∀ t ∈ b, plainT t) (h : Lib.join (a.map (·.data.toList)) [44, 32] = Lib.join (b.map (·.data.toList)) [44, 32]) : a = b := by
  have none_ : ∀ (c : ByteArray) (q : List ByteArray), plainT c → Lib.join ((c :: q).map (·.data.toList)) [44, 32] ≠ [] := by
    intro c q hc e
    rw [inter] at e
    exact hc.1 (List.append_eq_nil_iff.1 e).1
  cases a with
  | nil =>
    cases b with
    | nil => rfl
    | cons d q' => exact absurd h.symm (none_ d q' (hb d (List.mem_cons_self ..)))
  | cons c q =>
    cases b with
    | nil => exact absurd h (none_ c q (ha c (List.mem_cons_self ..)))
    | cons d q' =>
      rw [inter, inter] at h
      obtain ⟨e, e2⟩ := head_eq _ _ _ _ (ha c (List.mem_cons_self ..)).2 (hb d (List.mem_cons_self ..)).2 (behind_form q) (behind_form q') h
      rw [bytes_ext e, behind_inj q q' (fun t ht => (ha t (List.mem_cons_of_mem _ ht)).2) (fun t ht => (hb t (List.mem_cons_of_mem _ ht)).2) e2]
theorem mem_sortT {t : ByteArray} {l : List ByteArray} (h : t ∈ sortT l) : t ∈ l := by
  unfold sortT at h
  obtain ⟨b, hb, rfl⟩ := List.mem_map.1 h
  have hb2 := (List.mergeSort_perm _ _).mem_iff.1 hb
  obtain ⟨t', ht', e⟩ := List.mem_map.1 hb2
  have : (⟨b.toArray⟩ : ByteArray) = t' := by
    show B b = t'
    rw [← e]; exact B_data t'
  rw [this]; exact ht'
theorem jn_iff (x y : List ByteArray) (hx : ∀ t ∈ x, plainT t) (hy : ∀ t ∈ y, plainT t) : jn x = jn y ↔ x.Perm y := by
  constructor
  · intro h
    exact (sortT_iff x y).1 (join_inj _ _ (fun t ht => hx t (mem_sortT ht)) (fun t ht => hy t (mem_sortT ht)) (B_inj h))
  · intro h
    unfold jn
    rw [(sortT_iff x y).2 h]
/-- how many of the rows are this row's turnings -/
def pc (l : List (List ByteArray)) (x : List ByteArray) : Nat := l.countP fun y => decide (y.Perm x)
theorem count_map_iff {α β : Type} [DecidableEq β] (f : α → β) (P : α → Prop) [DecidablePred P] (z : β) : ∀ l : List α, (∀ y ∈ l, f y = z ↔ P y) → (l.map f).count z = l.countP fun y => decide (P y)
  | [], _ => rfl
  | y :: l, h => by
    have ih := count_map_iff f P z l (fun y hy => h y (List.mem_cons_of_mem _ hy))
    have e := h y (List.mem_cons_self ..)
    rw [List.map_cons, List.count_cons, List.countP_cons, ih]
    by_cases g : P y
    · simp [g, e.2 g]
    · have : ¬ f y = z := fun q => g (e.1 q)
      simp [g, this]
theorem pc_jn (l : List (List ByteArray)) (x : List ByteArray) (hl : ∀ y ∈ l, ∀ t ∈ y, plainT t) (hx : ∀ t ∈ x, plainT t) : cnt (l.map jn) (jn x) = pc l x :=
  count_map_iff jn (fun y => y.Perm x) (jn x) l (fun y hy => jn_iff y x (hl y hy) hx)
theorem rows_bag (a b : List (List ByteArray)) (ha : ∀ y ∈ a, ∀ t ∈ y, plainT t) (hb : ∀ y ∈ b, ∀ t ∈ y, plainT t) : (a.map jn).Perm (b.map jn) ↔ (a.length = b.length ∧ ∀ x ∈ a, pc a x = pc b x) := by
  rw [← bag_iff]
  simp only [List.length_map]
  refine and_congr Iff.rfl ⟨fun h x hx => ?_, fun h z hz => ?_⟩
  · rw [← pc_jn a x ha (ha x hx), ← pc_jn b x hb (ha x hx)]
    exact h _ (List.mem_map_of_mem hx)
  · obtain ⟨x, hx, rfl⟩ := List.mem_map.1 hz
    exact ((pc_jn a x ha (ha x hx)).trans (h x hx)).trans (pc_jn b x hb (ha x hx)).symm

theorem zzFits11_loopS (q : List (List ByteArray)) (hq : ∀ x ∈ q, x.length ≤ 9223372036854775807) : ∀ p : List (List ByteArray), p.length + q.length ≤ 9223372036854775807 → ∃ b, Ev (fun k => laws_zzFits11.l0 k (p ++ q) (((p ++ q).length : Nat) : Int) (p.length : Int)) b ∧ (b = true → ∀ x ∈ q, ∀ v ∈ x, v.size ≤ 2147483647) := by
  induction q with
  | nil => intro p _; exact ⟨_, Ev.step (fun _ => laws_zzFits11.l0.eq_2 _ _ _ _) (Ev.neg (by simp) (Ev.now _)), by simp⟩
  | cons c q ih =>
    intro p hp
    simp only [List.length_cons] at hp
    obtain ⟨b, hb, hs⟩ := ih (fun x hx => hq x (by simp [hx])) (p ++ [c]) (by simp <;> omega)
    obtain ⟨b1, hb1, hs1⟩ := zzFits10_s c (hq c (by simp))
    have hgo : ∀ r, Ev (fun k => if b1 = true then laws_zzFits11.l0 k (p ++ c :: q) (((p ++ c :: q).length : Nat) : Int) (wrap64 ((p.length : Int) + 1)) else some false) r → Ev (fun k => laws_zzFits11.l0 k (p ++ c :: q) (((p ++ c :: q).length : Nat) : Int) (p.length : Int)) r := by
      intro r hr
      refine Ev.step (fun _ => laws_zzFits11.l0.eq_2 _ _ _ _) (Ev.pos (by simp <;> omega) (Ev.pos (by omega) (Ev.pos (by simp <;> omega) ?_)))
      rw [rd_L1_mid p q c _ rfl]
      exact Ev.bind hb1 hr
    cases b1 with
    | true =>
      refine ⟨b, hgo b (Ev.pos rfl ?_), fun hbt x hx => ?_⟩
      · rw [w64 (by omega) (by omega)]
        simpa using hb
      · rcases List.mem_cons.1 hx with rfl | hx
        · exact hs1 rfl
        · exact hs hbt x hx
    | false => exact ⟨_, hgo _ (Ev.neg (by simp) (Ev.now _)), by simp⟩
theorem zzFits11_s (l : List (List ByteArray)) (h : l.length ≤ 9223372036854775807) (hl : ∀ x ∈ l, x.length ≤ 9223372036854775807) : ∃ b, Ev (fun k => laws_zzFits11.f k l) b ∧ (b = true → ∀ x ∈ l, ∀ v ∈ x, v.size ≤ 2147483647) := by
  by_cases g : (l.length : Int) > 2147483647
  · exact ⟨_, Ev.pos g (Ev.now _), by simp⟩
  · obtain ⟨b, hb, hs⟩ := zzFits11_loopS l hl [] (by simpa using h)
    exact ⟨b, Ev.neg g hb, hs⟩
theorem tables_f (l : List (List ByteArray)) (h : l.length ≤ 1000) (hl : ∀ x ∈ l, x.length ≤ 20) : Ev (fun k => impl_tables.f k l) l := by
  have cp : ∀ l : List ByteArray, l.length ≤ 20 → Ev (fun _ => impl_texts.f l) l := by
    intro l h
    unfold impl_texts.f
    exact Ev.bind (Ev.now ([] : List ByteArray)) (Ev.pos (by simp <;> omega) (Ev.now _))
  have loop : ∀ (q p : List (List ByteArray)), (∀ x ∈ q, x.length ≤ 20) → p.length + q.length ≤ 1000 → Ev (fun k => impl_tables.l0 k (p ++ q) p (p.length : Int)) (p ++ q) := by
    intro q
    induction q with
    | nil =>
      intro p _ _
      refine Ev.step (fun _ => impl_tables.l0.eq_2 _ _ _ _) (Ev.neg (by simp) ?_)
      rw [List.append_nil]
      exact Ev.now _
    | cons c q ih =>
      intro p hq hp
      simp only [List.length_cons] at hp
      refine Ev.step (fun _ => impl_tables.l0.eq_2 _ _ _ _) (Ev.pos (by simp <;> omega) (Ev.pos (by omega) ?_))
      rw [rd_L1_mid p q c _ rfl, w64 (by omega) (by omega)]
      refine Ev.bind (cp c (hq c (by simp))) (Ev.pos (by omega) ?_)
      have := ih (p ++ [c]) (fun x hx => hq x (by simp [hx])) (by simp <;> omega)
      simpa using this
  exact loop l [] hl (by simpa using h)
/-- no commas in a text's rest, and none empty -/
theorem marked2 (a : List (List ByteArray)) (i k : Nat) (row : List ByteArray) (t : ByteArray) (hi : i < a.length) (h10 : a.length ≤ 10) (hrow : rd_L1 a (i : Int) = row) (hk : k < row.length) (h8 : row.length ≤ 8) (ht : rdOf ByteArray.empty row (k : Int) = t) (hs : t.size ≤ 2147483647) {P : Prop}
    (hn : ∃ b, Ev (fun n => laws_marked.l1 n a (i : Int) ((k : Int) + 1)) b ∧ (b = true → P)) : ∀ (q p : List UInt8), t.data.toList = p ++ q → ∃ b, Ev (fun n => laws_marked.l2 n a (i : Int) (k : Int) (p.length : Int)) b ∧ (b = true → (44 : UInt8) ∉ q ∧ t.data.toList ≠ [] ∧ P) := by
  intro q
  have hsz : t.data.toList.length = t.size := by simp
  induction q with
  | nil =>
    intro p hp
    have hl : t.size = p.length := by rw [← hsz, hp]; simp
    have go : ∀ r, Ev (fun n => if t.toList = ([] : List UInt8) then some false else laws_marked.l1 n a (i : Int) ((k : Int) + 1)) r → Ev (fun n => laws_marked.l2 n a (i : Int) (k : Int) (p.length : Int)) r := by
      intro r hr
      refine Ev.step (fun _ => laws_marked.l2.eq_2 _ _ _ _ _) ?_
      rw [hrow, ht]
      refine Ev.pos (by omega) (Ev.pos (by omega) (Ev.pos (by omega) (Ev.pos (by omega) (Ev.neg (by omega) ?_))))
      rw [w64 (by omega) (by omega)]
      exact hr
    by_cases e : t.toList = ([] : List UInt8)
    · exact ⟨false, go _ (Ev.pos e (Ev.now _)), by simp⟩
    · obtain ⟨b, hb, hbP⟩ := hn
      refine ⟨b, go _ (Ev.neg e hb), fun h => ⟨by simp, fun z => e ?_, hbP h⟩⟩
      rw [ByteArray.toList_eq]; exact z
  | cons c q ih =>
    intro p hp
    have hl : t.size = p.length + (q.length + 1) := by rw [← hsz, hp]; simp
    have hb : bt t (p.length : Int) = (c.toNat : Int) := by rw [← B_data t, hp]; exact bt_mid p q c _ rfl
    have go : ∀ r, Ev (fun n => if (c.toNat : Int) = 44 then some false else laws_marked.l2 n a (i : Int) (k : Int) ((p.length : Int) + 1)) r → Ev (fun n => laws_marked.l2 n a (i : Int) (k : Int) (p.length : Int)) r := by
      intro r hr
      refine Ev.step (fun _ => laws_marked.l2.eq_2 _ _ _ _ _) ?_
      rw [hrow, ht]
      refine Ev.pos (by omega) (Ev.pos (by omega) (Ev.pos (by omega) (Ev.pos (by omega) (Ev.pos (by omega) (Ev.pos (by omega) ?_)))))
      rw [hb, w64 (by omega) (by omega)]
      exact hr
    by_cases e : (c.toNat : Int) = 44
    · exact ⟨false, go _ (Ev.pos e (Ev.now _)), by simp⟩
    · obtain ⟨b, hb2, hbP⟩ := ih (p ++ [c]) (by rw [hp]; simp)
      refine ⟨b, go _ (Ev.neg e (by simpa using hb2)), fun h => ?_⟩
      obtain ⟨h1, h2, h3⟩ := hbP h
      refine ⟨fun z => ?_, h2, h3⟩
      rcases List.mem_cons.1 z with z | z
      · exact e (by rw [← z]; rfl)
      · exact h1 z
theorem marked1 (a : List (List ByteArray)) (i : Nat) (row : List ByteArray) (hi : i < a.length) (h10 : a.length ≤ 10) (hrow : rd_L1 a (i : Int) = row) (h8 : row.length ≤ 8) (hs : ∀ t ∈ row, t.size ≤ 2147483647) {P : Prop}
    (hn : ∃ b, Ev (fun n => laws_marked.l0 n a ((i : Int) + 1)) b ∧ (b = true → P)) : ∀ (q p : List ByteArray), row = p ++ q → ∃ b, Ev (fun n => laws_marked.l1 n a (i : Int) (p.length : Int)) b ∧ (b = true → (∀ t ∈ q, plainT t) ∧ P) := by
  intro q
  induction q with
  | nil =>
    intro p hp
    have hl : row.length = p.length := by rw [hp]; simp
    obtain ⟨b, hb, hbP⟩ := hn
    refine ⟨b, Ev.step (fun _ => laws_marked.l1.eq_2 _ _ _ _) ?_, fun h => ⟨by simp, hbP h⟩⟩
    rw [hrow]
    refine Ev.pos (by omega) (Ev.pos (by omega) (Ev.neg (by omega) ?_))
    rw [w64 (by omega) (by omega)]
    exact hb
  | cons t q ih =>
    intro p hp
    have hl : row.length = p.length + (q.length + 1) := by rw [hp]; simp
    have ht : rdOf ByteArray.empty row (p.length : Int) = t := by rw [hp]; exact rdOf_mid _ p q t _ rfl
    have hn2 := ih (p ++ [t]) (by rw [hp]; simp)
    obtain ⟨b, hb, hbP⟩ := marked2 a i p.length row t hi h10 hrow (by omega) h8 ht (hs t (by rw [hp]; simp)) (by simpa using hn2) t.data.toList [] (by simp)
    refine ⟨b, Ev.step (fun _ => laws_marked.l1.eq_2 _ _ _ _) ?_, fun h => ?_⟩
    · rw [hrow]
      exact Ev.pos (by omega) (Ev.pos (by omega) (Ev.pos (by omega) (by simpa using hb)))
    · obtain ⟨h1, h2, h3, h4⟩ := hbP h
      refine ⟨fun z hz => ?_, h4⟩
      rcases List.mem_cons.1 hz with rfl | hz
      · exact ⟨h2, h1⟩
      · exact h3 z hz
theorem marked_loop (a : List (List ByteArray)) (h10 : a.length ≤ 10) (h8 : ∀ x ∈ a, x.length ≤ 8) (hs : ∀ x ∈ a, ∀ t ∈ x, t.size ≤ 2147483647) : ∀ (q p : List (List ByteArray)), a = p ++ q → ∃ b, Ev (fun n => laws_marked.l0 n a (p.length : Int)) b ∧ (b = true → ∀ x ∈ q, ∀ t ∈ x, plainT t) := by
  intro q
  induction q with
  | nil =>
    intro p hp
    have hl : a.length = p.length := by rw [hp]; simp
    exact ⟨_, Ev.step (fun _ => laws_marked.l0.eq_2 _ _ _) (Ev.neg (by omega) (Ev.now _)), by simp⟩
  | cons row q ih =>
    intro p hp
    have hl : a.length = p.length + (q.length + 1) := by rw [hp]; simp
    have hm : row ∈ a := by rw [hp]; simp
    have hrow : rd_L1 a (p.length : Int) = row := by rw [hp]; exact rd_L1_mid p q row _ rfl
    have hn2 := ih (p ++ [row]) (by rw [hp]; simp)
    obtain ⟨b, hb, hbP⟩ := marked1 a p.length row (by omega) h10 hrow (h8 row hm) (hs row hm) (by simpa using hn2) row [] rfl
    refine ⟨b, Ev.step (fun _ => laws_marked.l0.eq_2 _ _ _) (Ev.pos (by omega) (by simpa using hb)), fun h => ?_⟩
    obtain ⟨h1, h2⟩ := hbP h
    intro x hx
    rcases List.mem_cons.1 hx with rfl | hx
    · exact h1
    · exact h2 x hx
theorem marked_f (a : List (List ByteArray)) (h10 : a.length ≤ 10) (h8 : ∀ x ∈ a, x.length ≤ 8) (hs : ∀ x ∈ a, ∀ t ∈ x, t.size ≤ 2147483647) : ∃ b, Ev (fun n => laws_marked.f n a) b ∧ (b = true → ∀ x ∈ a, ∀ t ∈ x, plainT t) := marked_loop a h10 h8 hs a [] rfl
theorem jn_join (row : List ByteArray) (h : row.length ≤ 8) (hs : ∀ v ∈ row, v.size ≤ 2147483647) : strings_Join.f (sortT row) (⟨#[44, 32]⟩ : ByteArray) = some (jn row) :=
  Join_f (sortT row) (by rw [sortT_length]; omega) (fun v hv => hs v (mem_sortT hv))
theorem SetEquals_t (a b : List ByteArray) (ha : a.length ≤ 20) (hb : b.length ≤ 20) : Ev (fun k => util_SetEquals.f k a b) (decide (a.Perm b)) := by
  unfold util_SetEquals.f
  refine Ev.pos ⟨by omega, by omega⟩ ?_
  by_cases h : (a.length : Int) = (b.length : Int)
  · refine Ev.pos h ?_
    have q := ArrayEquals_loop (sortT a) [] (sortT b) (by rw [sortT_length, sortT_length]; omega) (by rw [sortT_length]; simp; omega)
    simp only [List.nil_append, sortT_length, List.length_nil] at q
    rw [show decide (a.Perm b) = decide (sortT a = sortT b) from by rw [decide_eq_decide]; exact (sortT_iff a b).symm]
    exact q
  · rw [show decide (a.Perm b) = false from decide_eq_false (fun z => h (by rw [z.length_eq]))]
    exact Ev.neg h (Ev.now _)
theorem Set2D_l1 (b : List (List ByteArray)) (aa : List ByteArray) (h10 : b.length ≤ 10) (ha : aa.length ≤ 10) (h8 : ∀ x ∈ b, x.length ≤ 8) (hs : ∀ x ∈ b, ∀ t ∈ x, t.size ≤ 2147483647) : ∀ (q p : List (List ByteArray)), b = p ++ q →
    Ev (fun k => util_Set2DEquals.l1 k aa (p.map jn) b (b.length : Int) (p.length : Int)) (decide (aa.Perm (b.map jn))) := by
  intro q
  induction q with
  | nil =>
    intro p hp
    have hl : b.length = p.length := by rw [hp]; simp
    have e : p = b := by rw [hp]; simp
    refine Ev.step (fun _ => util_Set2DEquals.l1.eq_2 _ _ _ _ _ _) (Ev.neg (by omega) ?_)
    rw [e]
    exact Ev.bind (SetEquals_t aa (b.map jn) (by omega) (by simp; omega)) (Ev.now _)
  | cons row q ih =>
    intro p hp
    have hl : b.length = p.length + (q.length + 1) := by rw [hp]; simp
    have hm : row ∈ b := by rw [hp]; simp
    have hrow : rd_L1 b (p.length : Int) = row := by rw [hp]; exact rd_L1_mid p q row _ rfl
    refine Ev.step (fun _ => util_Set2DEquals.l1.eq_2 _ _ _ _ _ _) (Ev.pos (by omega) (Ev.pos (by omega) (Ev.pos (by omega) ?_)))
    rw [hrow, w64 (by omega) (by omega)]
    refine Ev.bind (Ev.const (jn_join row (h8 row hm) (hs row hm))) (Ev.pos (by simp; omega) ?_)
    have := ih (p ++ [row]) (by rw [hp]; simp)
    simpa using this
theorem Set2D_l0 (a b : List (List ByteArray)) (h10 : b.length ≤ 10) (h8 : ∀ x ∈ b, x.length ≤ 8) (hs : ∀ x ∈ b, ∀ t ∈ x, t.size ≤ 2147483647) (h10a : a.length ≤ 10) (h8a : ∀ x ∈ a, x.length ≤ 8) (hsa : ∀ x ∈ a, ∀ t ∈ x, t.size ≤ 2147483647) : ∀ (q p : List (List ByteArray)), a = p ++ q →
    Ev (fun k => util_Set2DEquals.l0 k b (p.map jn) a (a.length : Int) (p.length : Int)) (decide ((a.map jn).Perm (b.map jn))) := by
  intro q
  induction q with
  | nil =>
    intro p hp
    have hl : a.length = p.length := by rw [hp]; simp
    have e : p = a := by rw [hp]; simp
    refine Ev.step (fun _ => util_Set2DEquals.l0.eq_2 _ _ _ _ _ _) (Ev.neg (by omega) ?_)
    rw [e]
    exact Set2D_l1 b (a.map jn) h10 (by simp; omega) h8 hs b [] rfl
  | cons row q ih =>
    intro p hp
    have hl : a.length = p.length + (q.length + 1) := by rw [hp]; simp
    have hm : row ∈ a := by rw [hp]; simp
    have hrow : rd_L1 a (p.length : Int) = row := by rw [hp]; exact rd_L1_mid p q row _ rfl
    refine Ev.step (fun _ => util_Set2DEquals.l0.eq_2 _ _ _ _ _ _) (Ev.pos (by omega) (Ev.pos (by omega) (Ev.pos (by omega) ?_)))
    rw [hrow, w64 (by omega) (by omega)]
    refine Ev.bind (Ev.const (jn_join row (h8a row hm) (hsa row hm))) (Ev.pos (by simp; omega) ?_)
    have := ih (p ++ [row]) (by rw [hp]; simp)
    simpa using this
theorem Set2D_f (a b : List (List ByteArray)) (h10a : a.length ≤ 10) (h8a : ∀ x ∈ a, x.length ≤ 8) (hsa : ∀ x ∈ a, ∀ t ∈ x, t.size ≤ 2147483647) (h10 : b.length ≤ 10) (h8 : ∀ x ∈ b, x.length ≤ 8) (hs : ∀ x ∈ b, ∀ t ∈ x, t.size ≤ 2147483647) : Ev (fun k => impl_Set2DEquals.f k a b) (decide ((a.map jn).Perm (b.map jn))) := by
  unfold impl_Set2DEquals.f
  refine Ev.bind (tables_f a (by omega) (fun x hx => by have := h8a x hx; omega)) (Ev.bind (tables_f b (by omega) (fun x hx => by have := h8 x hx; omega)) (Ev.bind ?_ (Ev.now _)))
  unfold util_Set2DEquals.f
  by_cases h : (a.length : Int) = (b.length : Int)
  · exact Ev.pos h (Set2D_l0 a b h10 h8 hs h10a h8a hsa a [] rfl)
  · rw [show decide ((a.map jn).Perm (b.map jn)) = false from decide_eq_false (fun z => h (by have := z.length_eq; simp at this; omega))]
    exact Ev.neg h (Ev.now _)
theorem bag_inner (a b : List (List ByteArray)) (i : Nat) (x : List ByteArray) (hx : rd_L1 a (i : Int) = x) (hi : i < a.length) (h10 : a.length ≤ 10) (h8a : ∀ x ∈ a, x.length ≤ 8) (h8 : ∀ x ∈ b, x.length ≤ 8) (r : Bool) : ∀ (q p p' q' : List (List ByteArray)) (n m : Nat), a = p ++ q → b = p' ++ q' → p.length = p'.length → q.length = q'.length → n ≤ p.length → m ≤ p.length →
    Ev (fun k => if ((n + pc q x : Nat) : Int) = ((m + pc q' x : Nat) : Int) then spec_SameRowBag.l0 k a b true ((i : Int) + 1) else some false) r → Ev (fun k => spec_SameRowBag.l1 k a b true (i : Int) (n : Int) (m : Int) (p.length : Int)) r := by
  intro q
  have hxm : x.length ≤ 8 := by
    rw [← hx]
    unfold rd_L1
    rw [show (i : Int).toNat = i from by omega, List.getD_eq_getElem?_getD, List.getElem?_eq_getElem hi]
    exact h8a _ (List.getElem_mem hi)
  induction q with
  | nil =>
    intro p p' q' n m ha hb hp hq n1 m1 K
    obtain rfl := List.eq_nil_of_length_eq_zero hq.symm
    have hl : a.length = p.length := by rw [ha]; simp
    refine Ev.step (fun _ => spec_SameRowBag.l1.eq_2 _ _ _ _ _ _ _ _) (Ev.neg (by omega) ?_)
    rw [w64 (by omega) (by omega)]
    exact K
  | cons c q ih =>
    intro p p' q' n m ha hb hp hq n1 m1 K
    cases q' with
    | nil => simp at hq
    | cons d q' =>
      simp only [List.length_cons] at hq
      have hl : a.length = p.length + (q.length + 1) := by rw [ha]; simp
      have hl' : b.length = p.length + (q.length + 1) := by rw [hb]; simp; omega
      have r1 : rd_L1 a (p.length : Int) = c := by rw [ha]; exact rd_L1_mid p q c _ rfl
      have r2 : rd_L1 b (p.length : Int) = d := by rw [hb]; exact rd_L1_mid p' q' d _ (by rw [hp])
      have hc8 : c.length ≤ 8 := h8a c (by rw [ha]; simp)
      have hd8 : d.length ≤ 8 := h8 d (by rw [hb]; simp)
      have next : ∀ n' m' : Nat, n' = n + (if c.Perm x then 1 else 0) → m' = m + (if d.Perm x then 1 else 0) → Ev (fun k => spec_SameRowBag.l1 k a b true (i : Int) (n' : Int) (m' : Int) ((p.length : Int) + 1)) r := by
        intro n' m' hn hm
        have := ih (p ++ [c]) (p' ++ [d]) q' n' m' (by rw [ha]; simp) (by rw [hb]; simp) (by simp [hp]) (by omega) (by rw [hn]; simp; split <;> omega) (by rw [hm]; simp; split <;> omega) (by
          have e1 : n' + pc q x = n + pc (c :: q) x := by rw [hn]; unfold pc; rw [List.countP_cons]; by_cases z : c.Perm x <;> simp [z] <;> omega
          have e2 : m' + pc q' x = m + pc (d :: q') x := by rw [hm]; unfold pc; rw [List.countP_cons]; by_cases z : d.Perm x <;> simp [z] <;> omega
          rw [e1, e2]; exact K)
        simpa using this
      have j3 : ∀ n' : Nat, n' ≤ 100 → n' = n + (if c.Perm x then 1 else 0) → Ev (fun k => spec_SameRowBag.j3 k a b true (i : Int) (n' : Int) (m : Int) (p.length : Int)) r := by
        intro n' hn' hn
        refine Ev.step (fun _ => spec_SameRowBag.j3.eq_2 _ _ _ _ _ _ _ _) (Ev.pos (by omega) (Ev.pos (by omega) (Ev.pos (by omega) (Ev.pos (by omega) ?_))))
        rw [r2, hx, w64 (x := (p.length : Int) + 1) (by omega) (by omega), w64 (x := (m : Int) + 1) (by omega) (by omega)]
        refine Ev.bind (SameList_f d x (by omega)) ?_
        by_cases z : d = x
        · exact Ev.pos (by simpa using z) (next n' (m + 1) hn (by rw [if_pos (by rw [z])]))
        · refine Ev.neg (by simpa using z) (Ev.pos rfl (Ev.bind (SameBag_f d x (by omega) (by omega)) ?_))
          by_cases y : d.Perm x
          · exact Ev.pos (by simpa using y) (next n' (m + 1) hn (by rw [if_pos y]))
          · exact Ev.neg (by simpa using y) (next n' m hn (by rw [if_neg y]; omega))
      have j2 : ∀ f : Bool, f = decide (c.Perm x) → Ev (fun k => spec_SameRowBag.j2 k a b true (i : Int) (n : Int) (m : Int) (p.length : Int) f) r := by
        intro f hf
        refine Ev.step (fun _ => spec_SameRowBag.j2.eq_2 _ _ _ _ _ _ _ _ _) ?_
        rw [w64 (x := (n : Int) + 1) (by omega) (by omega)]
        by_cases y : c.Perm x
        · exact Ev.pos (by rw [hf]; simpa using y) (j3 (n + 1) (by omega) (by rw [if_pos y]))
        · exact Ev.neg (by rw [hf]; simpa using y) (j3 n (by omega) (by rw [if_neg y]; omega))
      refine Ev.step (fun _ => spec_SameRowBag.l1.eq_2 _ _ _ _ _ _ _ _) (Ev.pos (by omega) (Ev.pos (by omega) (Ev.pos (by omega) (Ev.pos (by omega) ?_))))
      rw [r1, hx]
      refine Ev.bind (SameList_f c x (by omega)) ?_
      by_cases z : c = x
      · exact Ev.pos (by simpa using z) (j2 true (by rw [z]; simp))
      · exact Ev.neg (by simpa using z) (Ev.pos rfl (Ev.bind (SameBag_f c x (by omega) (by omega)) (j2 _ rfl)))
theorem RowBag_loop (a b : List (List ByteArray)) (h10 : a.length ≤ 10) (h8a : ∀ x ∈ a, x.length ≤ 8) (h8 : ∀ x ∈ b, x.length ≤ 8) (hab : a.length = b.length) : ∀ (q p : List (List ByteArray)), a = p ++ q → Ev (fun k => spec_SameRowBag.l0 k a b true (p.length : Int)) (decide (∀ x ∈ q, pc a x = pc b x)) := by
  intro q
  induction q with
  | nil =>
    intro p h
    have hl : a.length = p.length := by rw [h]; simp
    exact Ev.step (fun _ => spec_SameRowBag.l0.eq_2 _ _ _ _ _) (Ev.neg (by omega) (Ev.eqr (by simp) (Ev.now _)))
  | cons c q ih =>
    intro p h
    have hl : a.length = p.length + (q.length + 1) := by rw [h]; simp
    have r1 : rd_L1 a (p.length : Int) = c := by rw [h]; exact rd_L1_mid p q c _ rfl
    refine Ev.step (fun _ => spec_SameRowBag.l0.eq_2 _ _ _ _ _) (Ev.pos (by omega) ?_)
    refine bag_inner a b p.length c r1 (by omega) h10 h8a h8 _ a [] [] b 0 0 rfl rfl rfl hab (by omega) (by omega) ?_
    by_cases e : pc a c = pc b c
    · refine Ev.pos (by rw [e]) ?_
      have := ih (p ++ [c]) (by rw [h]; simp)
      rw [show decide (∀ x ∈ c :: q, pc a x = pc b x) = decide (∀ x ∈ q, pc a x = pc b x) from by rw [decide_eq_decide]; simp [e]]
      simpa using this
    · rw [show decide (∀ x ∈ c :: q, pc a x = pc b x) = false from decide_eq_false (fun z => e (z c (List.mem_cons_self ..)))]
      exact Ev.neg (fun z => e (by omega)) (Ev.now _)
theorem RowBag_f (a b : List (List ByteArray)) (h10 : a.length ≤ 10) (h8a : ∀ x ∈ a, x.length ≤ 8) (h8 : ∀ x ∈ b, x.length ≤ 8) : Ev (fun k => spec_SameRowBag.f k a b true) (decide (a.length = b.length ∧ ∀ x ∈ a, pc a x = pc b x)) := by
  unfold spec_SameRowBag.f
  by_cases h : (a.length : Int) = (b.length : Int)
  · refine Ev.pos h (Ev.eqr ?_ (RowBag_loop a b h10 h8a h8 (by omega) a [] rfl))
    rw [decide_eq_decide]
    exact ⟨fun z => ⟨by omega, z⟩, fun z => z.2⟩
  · rw [show decide (a.length = b.length ∧ ∀ x ∈ a, pc a x = pc b x) = false from decide_eq_false (fun z => h (by omega))]
    exact Ev.neg h (Ev.now _)
theorem FnRowSets (a b : List (List ByteArray)) (ha : a.length ≤ 9223372036854775807) (ha2 : ∀ v ∈ a, v.length ≤ 9223372036854775807 ∧ ∀ x ∈ v, x.size ≤ maxLen) (hb : b.length ≤ 9223372036854775807) (hb2 : ∀ v ∈ b, v.length ≤ 9223372036854775807 ∧ ∀ x ∈ v, x.size ≤ maxLen) :
    ∃ k, laws_FnRowSets.f k a b = some true := by
  refine Ev.rounds (g := fun k => laws_FnRowSets.f k a b) ?_
  have j0_true : Ev (fun k => laws_FnRowSets.j0 k a b true) true := Ev.step (fun _ => laws_FnRowSets.j0.eq_2 _ _ _ _) (Ev.pos rfl (Ev.now _))
  have j1_true : Ev (fun k => laws_FnRowSets.j1 k a b true) true := Ev.step (fun _ => laws_FnRowSets.j1.eq_2 _ _ _ _) (Ev.pos rfl (Ev.bind awake (Ev.now _)))
  have j0_false : (∀ x ∈ a, ∀ v ∈ x, v.size ≤ 2147483647) → (∀ x ∈ b, ∀ v ∈ x, v.size ≤ 2147483647) → Ev (fun k => laws_FnRowSets.j0 k a b false) true := by
    intro sa sb
    refine Ev.step (fun _ => laws_FnRowSets.j0.eq_2 _ _ _ _) (Ev.neg (by simp) ?_)
    obtain ⟨x1, e1, z1⟩ := rows_f a ha
    refine Ev.bind e1 ?_
    cases x1
    · exact Ev.neg (by simp) j1_true
    refine Ev.pos rfl ?_
    obtain ⟨x2, e2, z2⟩ := rows_f b hb
    refine Ev.bind e2 ?_
    cases x2
    · exact Ev.neg (by simp) j1_true
    refine Ev.pos rfl ?_
    obtain ⟨h10a, h8a⟩ := z1 rfl
    obtain ⟨h10b, h8b⟩ := z2 rfl
    obtain ⟨x3, e3, z3⟩ := marked_f a h10a h8a sa
    refine Ev.bind e3 ?_
    cases x3
    · exact Ev.neg (by simp) j1_true
    refine Ev.pos rfl ?_
    obtain ⟨x4, e4, z4⟩ := marked_f b h10b h8b sb
    refine Ev.bind e4 ?_
    cases x4
    · exact j1_true
    refine Ev.step (fun _ => laws_FnRowSets.j1.eq_2 _ _ _ _) (Ev.neg (by simp) ?_)
    refine Ev.bind (copiedRows_f a (by omega) (fun x hx => by have := h8a x hx; omega)) (Ev.bind (copiedRows_f b (by omega) (fun x hx => by have := h8b x hx; omega)) ?_)
    refine Ev.bind (Set2D_f a b h10a h8a sa h10b h8b sb) (Ev.bind (RowBag_f a b h10a h8a h8b) (Ev.pos ?_ (Ev.bind awake (Ev.now _))))
    rw [beq_iff_eq, decide_eq_decide]
    exact rows_bag a b (z3 rfl) (z4 rfl)
  obtain ⟨x1, h1, s1⟩ := zzFits11_s a ha (fun x hx => (ha2 x hx).1)
  refine Ev.bind h1 ?_
  cases x1
  · exact Ev.neg (by simp) j0_true
  refine Ev.pos rfl ?_
  obtain ⟨x2, h2, s2⟩ := zzFits11_s b hb (fun x hx => (hb2 x hx).1)
  refine Ev.bind h2 ?_
  cases x2
  · exact j0_true
  · exact j0_false (s1 rfl) (s2 rfl)

end Go.Proofs.Ythmkbojkhoaolaa.Pure
