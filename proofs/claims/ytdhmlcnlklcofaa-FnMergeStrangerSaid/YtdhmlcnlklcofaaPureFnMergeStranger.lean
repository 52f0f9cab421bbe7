/- For every text and every rules: laws.FnMergeStranger answers true (the plain statement behind its walk); lengths are those that an int can hold. -/
import Derived.Test.YtdhmlcnlklcofaaOFnMergeStrangerx3
import Derived.Test.YtdhmlcnlklcofaaBase
set_option linter.unusedSimpArgs false
set_option linter.unusedVariables false
namespace Go.Proofs.Ytdhmlcnlklcofaa.Pure
open Go.RowKit Go.Proofs.Ytdhmlcnlklcofaa.PFnMergeStranger Go.Proofs.YtdhmlcnlklcofaaW.PrintWords Go.Proofs.YtdhmlcnlklcofaaW.PrintLast Go.Proofs.Ytdhmlcnlklcofaa.Base

/-- the five expressions, as bytes -/
def e1 : List UInt8 := [115, 111, 109, 101, 40, 119, 104, 101, 114, 101, 32, 40, 112, 95, 101, 102, 116, 32, 61, 61, 32, 97, 108, 108, 111, 119, 41, 41]
def e2 : List UInt8 := [33, 115, 111, 109, 101, 40, 119, 104, 101, 114, 101, 32, 40, 112, 95, 101, 102, 116, 32, 61, 61, 32, 100, 101, 110, 121, 41, 41]
def e3 : List UInt8 := [115, 111, 109, 101, 40, 119, 104, 101, 114, 101, 32, 40, 112, 95, 101, 102, 116, 32, 61, 61, 32, 97, 108, 108, 111, 119, 41, 41, 32, 38, 38, 32, 33, 115, 111, 109, 101, 40, 119, 104, 101, 114, 101, 32, 40, 112, 95, 101, 102, 116, 32, 61, 61, 32, 100, 101, 110, 121, 41, 41]
def e4 : List UInt8 := [112, 114, 105, 111, 114, 105, 116, 121, 40, 112, 95, 101, 102, 116, 41, 32, 124, 124, 32, 100, 101, 110, 121]
def e5 : List UInt8 := [115, 117, 98, 106, 101, 99, 116, 80, 114, 105, 111, 114, 105, 116, 121, 40, 112, 95, 101, 102, 116, 41, 32, 124, 124, 32, 100, 101, 110, 121]
/-- a match as the number 1, none as 0 -/
def bn (b : Bool) : Int := if b then 1 else 0
theorem bn_zero (b : Bool) : bn b = 0 ↔ b = false := by cases b <;> simp [bn]
/-- a rule: its effect, and whether it matches -/
abbrev Rule := Int × Bool
def hit (e : Int) (c : Rule) : Prop := c.2 = true ∧ c.1 = e
instance (e : Int) (c : Rule) : Decidable (hit e c) := by unfold hit; infer_instance
/-- the first rule from place i on that matches and has an effect -/
def fo (e : Int) : List Rule → Int → Int
  | [], _ => -1
  | c :: q, i => if hit e c then i else fo e q (i + 1)
/-- the effect of the first rule that matches and decides something -/
def lead : List Rule → Int
  | [] => 1
  | c :: q => if c.2 = true ∧ ¬ c.1 = 1 then c.1 else lead q
theorem fo_range (e : Int) : ∀ (q : List Rule) (i : Int), fo e q i = -1 ∨ (i ≤ fo e q i ∧ fo e q i < i + q.length)
  | [], i => .inl rfl
  | c :: q, i => by
    unfold fo
    by_cases h : hit e c
    · rw [if_pos h]; exact .inr ⟨by omega, by simp only [List.length_cons]; omega⟩
    · rw [if_neg h]
      rcases fo_range e q (i + 1) with h | h
      · exact .inl h
      · exact .inr ⟨by omega, by simp only [List.length_cons]; omega⟩
theorem fo_any (e : Int) : ∀ (q : List Rule) (i : Int), 0 ≤ i → (0 ≤ fo e q i ↔ ∃ c ∈ q, hit e c)
  | [], i, _ => by simp [fo]
  | c :: q, i, h0 => by
    unfold fo
    by_cases h : hit e c
    · rw [if_pos h]; simp [h, h0]
    · rw [if_neg h, fo_any e q (i + 1) (by omega)]; simp [h]
theorem fo_split (e : Int) : ∀ (q : List Rule) (i : Int), 0 ≤ i → 0 ≤ fo e q i → ∃ p x r, q = p ++ x :: r ∧ fo e q i = i + (p.length : Int) ∧ hit e x
  | [], i, _, h => by simp [fo] at h
  | c :: q, i, h0, h => by
    unfold fo at h ⊢
    by_cases z : hit e c
    · rw [if_pos z]; exact ⟨[], c, q, rfl, by simp, z⟩
    · rw [if_neg z] at h ⊢
      obtain ⟨p, x, r, rfl, hl, hx⟩ := fo_split e q (i + 1) (by omega) h
      exact ⟨c :: p, x, r, rfl, by simp only [List.length_cons]; omega, hx⟩
/-- effects that there are -/
def Good (q : List Rule) : Prop := ∀ c ∈ q, c.1 = 0 ∨ c.1 = 1 ∨ c.1 = 2
theorem lead_fo : ∀ (q : List Rule) (i : Int), Good q → 0 ≤ i → (lead q = 0 ↔ (0 ≤ fo 0 q i ∧ (fo 2 q i < 0 ∨ fo 0 q i < fo 2 q i))) := by
  intro q
  induction q with
  | nil => intro i _ _; simp [lead, fo]
  | cons c q ih =>
    intro i hg h0
    have hg' : Good q := fun x hx => hg x (List.mem_cons_of_mem _ hx)
    have hc := hg c (List.mem_cons_self ..)
    unfold lead fo
    by_cases hb : c.2 = true
    · rcases hc with hc | hc | hc
      · rw [if_pos ⟨hb, by omega⟩, if_pos ⟨hb, hc⟩, if_neg (by rintro ⟨_, z⟩; omega)]
        rcases fo_range 2 q (i + 1) with h | h <;> constructor <;> intro _ <;> omega
      · rw [if_neg (fun z => z.2 hc), if_neg (by rintro ⟨_, z⟩; omega), if_neg (by rintro ⟨_, z⟩; omega)]
        exact ih (i + 1) hg' (by omega)
      · rw [if_pos ⟨hb, by omega⟩, if_neg (by rintro ⟨_, z⟩; omega), if_pos ⟨hb, hc⟩]
        rcases fo_range 0 q (i + 1) with h | h <;> constructor <;> intro _ <;> omega
    · rw [if_neg (fun z => hb z.1), if_neg (fun z => hb z.1), if_neg (fun z => hb z.1)]
      exact ih (i + 1) hg' (by omega)
theorem lead_miss : ∀ (p q : List Rule), (∀ c ∈ p, ¬ (c.2 = true ∧ ¬ c.1 = 1)) → lead (p ++ q) = lead q
  | [], _, _ => rfl
  | c :: p, q, h => by
    show lead (c :: (p ++ q)) = _
    rw [lead, if_neg (h c (List.mem_cons_self ..))]
    exact lead_miss p q (fun x hx => h x (List.mem_cons_of_mem _ hx))
theorem lead_idle : ∀ (p q : List Rule) (x : Rule), ¬ (x.2 = true ∧ ¬ x.1 = 1) → lead (p ++ x :: q) = lead (p ++ q)
  | [], q, x, h => by show lead (x :: q) = lead q; rw [lead, if_neg h]
  | c :: p, q, x, h => by
    show lead (c :: (p ++ x :: q)) = lead (c :: (p ++ q))
    unfold lead
    rw [lead_idle p q x h]

/-! What MergeEffects answers, expression by expression. -/
theorem ME1 (p p' q q' : List Int) (c d n : Int) (h : p.length = p'.length) :
    Ev (fun k => effector_DefaultEffector_MergeEffects.f k 0 (B e1) (p ++ c :: q) (p' ++ d :: q') (p.length : Int) n) (if d = 0 then (1, -1, none) else if c = 0 then (0, (p.length : Int), none) else (1, -1, none)) := by
  unfold effector_DefaultEffector_MergeEffects.f
  refine Ev.pos (B_toList _) (Ev.pos (by omega) (Ev.pos (by simp <;> omega) ?_))
  rw [rd_mid p' q' d _ (by rw [h]), rd_mid p q c _ rfl]
  by_cases hd : d = 0
  · refine Ev.pos hd ?_; rw [if_pos hd]; exact Ev.now _
  · refine Ev.neg hd (Ev.pos (by simp <;> omega) ?_)
    rw [if_neg hd]
    by_cases hc : c = 0
    · refine Ev.pos hc ?_; rw [if_pos hc]; exact Ev.now _
    · refine Ev.neg hc ?_; rw [if_neg hc]; exact Ev.now _
theorem ME2 (p p' q q' : List Int) (c d : Int) (h : p.length = p'.length) (n : Int) (hn : 0 ≤ n) (hn2 : n ≤ 20) :
    Ev (fun k => effector_DefaultEffector_MergeEffects.f k 0 (B e2) (p ++ c :: q) (p' ++ d :: q') (p.length : Int) n) (if ¬ d = 0 ∧ c = 2 then (2, (p.length : Int), none) else if (p.length : Int) = n - 1 then (0, -1, none) else (1, -1, none)) := by
  have j : Ev (fun k => effector_DefaultEffector_MergeEffects.j0 k (p.length : Int) n 1 (-1) false) (if (p.length : Int) = n - 1 then (0, -1, none) else (1, -1, none)) := by
    refine Ev.step (fun _ => effector_DefaultEffector_MergeEffects.j0.eq_2 _ _ _ _ _ _) (Ev.neg (by simp) ?_)
    rw [w64 (by omega) (by omega)]
    by_cases e : (p.length : Int) = n - 1
    · refine Ev.pos e ?_; rw [if_pos e]; exact Ev.now _
    · refine Ev.neg e ?_; rw [if_neg e]; exact Ev.now _
  unfold effector_DefaultEffector_MergeEffects.f
  refine Ev.neg (by rw [B_toList]; decide) (Ev.pos (B_toList _) (Ev.pos (by omega) (Ev.pos (by simp <;> omega) ?_)))
  rw [rd_mid p' q' d _ (by rw [h]), rd_mid p q c _ rfl]
  by_cases hd : d = 0
  · rw [if_neg (fun z => z.1 hd)]; exact Ev.pos hd j
  · refine Ev.neg hd (Ev.pos (by simp <;> omega) ?_)
    by_cases hc : c = 2
    · rw [if_pos ⟨hd, hc⟩, show (c == 2) = true from by simp [hc]]
      exact Ev.step (fun _ => effector_DefaultEffector_MergeEffects.j0.eq_2 _ _ _ _ _ _) (Ev.pos rfl (Ev.now _))
    · rw [if_neg (fun z => hc z.2), show (c == 2) = false from by simp [hc]]
      exact j
theorem ME3_loop (q : List Rule) : ∀ (p : List Rule), p.length + q.length ≤ 20 →
    Ev (fun k => effector_DefaultEffector_MergeEffects.l0 k ((p ++ q).map fun c => bn c.2) 1 (-1) ((p ++ q).map Prod.fst) ((p ++ q).length : Int) (p.length : Int)) (if fo 0 q (p.length : Int) < 0 then (1, -1, none) else (0, fo 0 q (p.length : Int), none)) := by
  induction q with
  | nil => intro p _; exact Ev.step (fun _ => effector_DefaultEffector_MergeEffects.l0.eq_2 _ _ _ _ _ _ _) (Ev.neg (by simp) (Ev.now _))
  | cons c q ih =>
    intro p hp
    simp only [List.length_cons] at hp
    have ih := ih (p ++ [c]) (by simp <;> omega)
    refine Ev.step (fun _ => effector_DefaultEffector_MergeEffects.l0.eq_2 _ _ _ _ _ _ _) (Ev.pos (by simp <;> omega) (Ev.pos (by omega) (Ev.pos (by simp <;> omega) (Ev.pos (by simp <;> omega) ?_))))
    rw [List.map_append, List.map_append, List.map_cons, List.map_cons, rd_mid _ _ _ _ (by simp), rd_mid _ _ _ _ (by simp), w64 (by omega) (by omega)]
    simp only [List.append_assoc, List.cons_append, List.nil_append, List.length_append, List.length_cons, List.length_nil, List.map_append, List.map_cons] at ih ⊢
    unfold fo
    by_cases hd : c.2 = true
    · refine Ev.neg (by rw [bn_zero, hd]; simp) ?_
      by_cases hc : c.1 = 0
      · rw [if_pos (show hit 0 c from ⟨hd, hc⟩), if_neg (by omega)]
        exact Ev.pos hc (Ev.now _)
      · rw [if_neg (fun z : hit 0 c => hc z.2)]
        exact Ev.neg hc ih
    · rw [if_neg (fun z : hit 0 c => hd z.1)]
      exact Ev.pos (by rw [bn_zero]; simpa using hd) ih
theorem ME3_mid (p p' q q' : List Int) (c d : Int) (h : p.length = p'.length) (n : Int) (hn : (p.length : Int) < n - 1) (hn2 : n ≤ 20) :
    Ev (fun k => effector_DefaultEffector_MergeEffects.f k 0 (B e3) (p ++ c :: q) (p' ++ d :: q') (p.length : Int) n) (if ¬ d = 0 ∧ c = 2 then (2, (p.length : Int), none) else (1, -1, none)) := by
  have j : Ev (fun k => effector_DefaultEffector_MergeEffects.j1 k (p ++ c :: q) (p' ++ d :: q') (p.length : Int) n 1 (-1) false) (1, -1, none) := by
    refine Ev.step (fun _ => effector_DefaultEffector_MergeEffects.j1.eq_2 _ _ _ _ _ _ _ _) (Ev.neg (by simp) ?_)
    rw [w64 (by omega) (by omega)]
    exact Ev.pos hn (Ev.now _)
  unfold effector_DefaultEffector_MergeEffects.f
  refine Ev.neg (by rw [B_toList]; decide) (Ev.neg (by rw [B_toList]; decide) (Ev.pos (B_toList _) (Ev.pos (by omega) (Ev.pos (by simp <;> omega) ?_))))
  rw [rd_mid p' q' d _ (by rw [h]), rd_mid p q c _ rfl]
  by_cases hd : d = 0
  · rw [if_neg (fun z => z.1 hd)]; exact Ev.pos hd j
  · refine Ev.neg hd (Ev.pos (by simp <;> omega) ?_)
    by_cases hc : c = 2
    · rw [if_pos ⟨hd, hc⟩, show (c == 2) = true from by simp [hc]]
      exact Ev.step (fun _ => effector_DefaultEffector_MergeEffects.j1.eq_2 _ _ _ _ _ _ _ _) (Ev.pos rfl (Ev.now _))
    · rw [if_neg (fun z => hc z.2), show (c == 2) = false from by simp [hc]]
      exact j
theorem ME3_last (P : List Rule) (c : Rule) (hP : P.length < 20) :
    Ev (fun k => effector_DefaultEffector_MergeEffects.f k 0 (B e3) ((P ++ [c]).map Prod.fst) ((P ++ [c]).map fun c => bn c.2) (P.length : Int) ((P ++ [c]).length : Int)) (if hit 2 c then (2, (P.length : Int), none) else if fo 0 (P ++ [c]) 0 < 0 then (1, -1, none) else (0, fo 0 (P ++ [c]) 0, none)) := by
  have j : Ev (fun k => effector_DefaultEffector_MergeEffects.j1 k ((P ++ [c]).map Prod.fst) ((P ++ [c]).map fun c => bn c.2) (P.length : Int) ((P ++ [c]).length : Int) 1 (-1) false) (if fo 0 (P ++ [c]) 0 < 0 then (1, -1, none) else (0, fo 0 (P ++ [c]) 0, none)) := by
    refine Ev.step (fun _ => effector_DefaultEffector_MergeEffects.j1.eq_2 _ _ _ _ _ _ _ _) (Ev.neg (by simp) ?_)
    refine Ev.neg (by rw [w64 (by omega) (by simp <;> omega)]; simp <;> omega) ?_
    have := ME3_loop (P ++ [c]) [] (by simp <;> omega)
    simp only [List.nil_append, List.length_nil, List.length_map] at this ⊢
    exact this
  unfold effector_DefaultEffector_MergeEffects.f
  refine Ev.neg (by rw [B_toList]; decide) (Ev.neg (by rw [B_toList]; decide) (Ev.pos (B_toList _) (Ev.pos (by omega) (Ev.pos (by simp <;> omega) ?_))))
  have r1 : rd ((P ++ [c]).map fun c => bn c.2) (P.length : Int) = bn c.2 := by rw [List.map_append]; exact rd_mid _ [] _ _ (by simp)
  have r2 : rd ((P ++ [c]).map Prod.fst) (P.length : Int) = c.1 := by rw [List.map_append]; exact rd_mid _ [] _ _ (by simp)
  rw [r1, r2]
  by_cases hd : c.2 = true
  · refine Ev.neg (by rw [bn_zero, hd]; simp) (Ev.pos (by simp <;> omega) ?_)
    by_cases hc : c.1 = 2
    · rw [if_pos (show hit 2 c from ⟨hd, hc⟩), show (c.1 == 2) = true from by simp [hc]]
      exact Ev.step (fun _ => effector_DefaultEffector_MergeEffects.j1.eq_2 _ _ _ _ _ _ _ _) (Ev.pos rfl (Ev.now _))
    · rw [if_neg (fun z : hit 2 c => hc z.2), show (c.1 == 2) = false from by simp [hc]]
      exact j
  · rw [if_neg (fun z : hit 2 c => hd z.1)]
    exact Ev.pos (by rw [bn_zero]; simpa using hd) j
theorem ME4_skip (l2 l3 : List Int) (a : Nat) (r : Int × Int × Option Int) (h : Ev (fun k => effector_DefaultEffector_MergeEffects.l1 k l2 l3 1 (-1) ((a : Int) - 1)) r) : ∀ m : Nat, a + m ≤ l3.length → a + m ≤ 20 → (∀ j : Nat, a ≤ j → j < a + m → rd l3 (j : Int) = 0 ∨ (j < l2.length ∧ rd l2 (j : Int) = 1)) →
    Ev (fun k => effector_DefaultEffector_MergeEffects.l1 k l2 l3 1 (-1) (((a + m : Nat) : Int) - 1)) r
  | 0, _, _, _ => h
  | m + 1, h1, h20, h2 => by
    have ih := ME4_skip l2 l3 a r h m (by omega) (by omega) (fun j hj hk => h2 j hj (by omega))
    have e : (((a + (m + 1) : Nat) : Int) - 1) = ((a + m : Nat) : Int) := by omega
    rw [e]
    refine Ev.step (fun _ => effector_DefaultEffector_MergeEffects.l1.eq_2 _ _ _ _ _ _) (Ev.pos (by omega) (Ev.pos (by omega) (Ev.pos (by omega) ?_)))
    rw [w64 (by omega) (by omega)]
    by_cases z : rd l3 ((a + m : Nat) : Int) = 0
    · exact Ev.pos z ih
    · rcases h2 (a + m) (by omega) (by omega) with x | ⟨x, y⟩
      · exact absurd x z
      · exact Ev.neg z (Ev.pos (by omega) (Ev.pos y ih))
theorem ME4_end (l2 l3 : List Int) : Ev (fun k => effector_DefaultEffector_MergeEffects.l1 k l2 l3 1 (-1) (((0 : Nat) : Int) - 1)) (1, -1, none) :=
  Ev.step (fun _ => effector_DefaultEffector_MergeEffects.l1.eq_2 _ _ _ _ _ _) (Ev.neg (by omega) (Ev.now _))
/-- the rules that were looked at up to one; those behind are no matches yet -/
def seen (P : List Rule) (c : Rule) (Q : List Rule) : List Bool := P.map Prod.snd ++ c.2 :: List.replicate Q.length false
theorem ME4_l1 (P Q : List Rule) (c : Rule) (h20 : (P ++ c :: Q).length ≤ 20) (hP : ∀ c ∈ P, ¬ (c.2 = true ∧ ¬ c.1 = 1)) :
    Ev (fun k => effector_DefaultEffector_MergeEffects.l1 k ((P ++ c :: Q).map Prod.fst) ((seen P c Q).map bn) 1 (-1) ((P ++ c :: Q).length - 1 : Int)) (if c.2 = true ∧ ¬ c.1 = 1 then ((if c.1 = 0 then 0 else 2), (P.length : Int), none) else (1, -1, none)) := by
  have hl3 : ((seen P c Q).map bn).length = P.length + (Q.length + 1) := by simp [seen]
  have hl2 : ((P ++ c :: Q).map Prod.fst).length = P.length + (Q.length + 1) := by simp
  simp only [List.length_append, List.length_cons] at h20
  have r3 : rd ((seen P c Q).map bn) (P.length : Int) = bn c.2 := by unfold seen; rw [List.map_append, List.map_cons]; exact rd_mid _ _ _ _ (by simp)
  have r2 : rd ((P ++ c :: Q).map Prod.fst) (P.length : Int) = c.1 := by rw [List.map_append, List.map_cons]; exact rd_mid _ _ _ _ (by simp)
  have low : ∀ j : Nat, 0 ≤ j → j < 0 + P.length → rd ((seen P c Q).map bn) (j : Int) = 0 ∨ (j < ((P ++ c :: Q).map Prod.fst).length ∧ rd ((P ++ c :: Q).map Prod.fst) (j : Int) = 1) := by
    intro j _ hj
    have hj : j < P.length := by omega
    have a3 : rd ((seen P c Q).map bn) (j : Int) = bn (P[j]'hj).2 := by
      unfold seen rd
      simp [List.getD, List.getElem?_append_left, hj]
    have a2 : rd ((P ++ c :: Q).map Prod.fst) (j : Int) = (P[j]'hj).1 := by
      unfold rd
      simp [List.getD, List.getElem?_append_left, hj]
    have := hP (P[j]'hj) (List.getElem_mem hj)
    by_cases z : (P[j]'hj).2 = true
    · right
      refine ⟨by rw [hl2]; omega, ?_⟩
      rw [a2]
      by_cases y : (P[j]'hj).1 = 1
      · exact y
      · exact absurd ⟨z, y⟩ this
    · left
      rw [a3, bn_zero]
      simpa using z
  have high : ∀ j : Nat, P.length + 1 ≤ j → j < P.length + 1 + Q.length → rd ((seen P c Q).map bn) (j : Int) = 0 ∨ (j < ((P ++ c :: Q).map Prod.fst).length ∧ rd ((P ++ c :: Q).map Prod.fst) (j : Int) = 1) := by
    intro j h1 h2
    left
    unfold seen rd
    obtain ⟨m, rfl⟩ : ∃ m, j = P.length + (m + 1) := ⟨j - P.length - 1, by omega⟩
    have hm : m < Q.length := by omega
    rw [Int.toNat_natCast, List.map_append, List.map_cons, List.map_replicate, List.getD_eq_getElem?_getD, List.getElem?_append_right (by simp)]
    simp [List.getElem?_replicate, hm, bn]
  have step : Ev (fun k => effector_DefaultEffector_MergeEffects.l1 k ((P ++ c :: Q).map Prod.fst) ((seen P c Q).map bn) 1 (-1) (((P.length + 1 : Nat) : Int) - 1)) (if c.2 = true ∧ ¬ c.1 = 1 then ((if c.1 = 0 then 0 else 2), (P.length : Int), none) else (1, -1, none)) := by
    have down := ME4_skip _ _ 0 _ (ME4_end ((P ++ c :: Q).map Prod.fst) ((seen P c Q).map bn)) P.length (by rw [hl3]; omega) (by omega) low
    rw [Nat.zero_add] at down
    have e : (((P.length + 1 : Nat) : Int) - 1) = (P.length : Int) := by omega
    rw [e]
    refine Ev.step (fun _ => effector_DefaultEffector_MergeEffects.l1.eq_2 _ _ _ _ _ _) (Ev.pos (by omega) (Ev.pos (by omega) (Ev.pos (by rw [hl3]; omega) ?_)))
    rw [w64 (by omega) (by omega), r3, r2]
    by_cases z : c.2 = true
    · refine Ev.neg (by rw [bn_zero, z]; simp) (Ev.pos (by rw [hl2]; omega) ?_)
      by_cases y : c.1 = 1
      · rw [if_neg (fun w : c.2 = true ∧ ¬ c.1 = 1 => w.2 y)]
        exact Ev.pos y down
      · rw [if_pos (⟨z, y⟩ : c.2 = true ∧ ¬ c.1 = 1)]
        refine Ev.neg y ?_
        by_cases x : c.1 = 0
        · refine Ev.pos x ?_; rw [if_pos x]; exact Ev.now _
        · refine Ev.neg x ?_; rw [if_neg x]; exact Ev.now _
    · rw [if_neg (fun w : c.2 = true ∧ ¬ c.1 = 1 => z w.1)]
      exact Ev.pos (by rw [bn_zero]; simpa using z) down
  have up := ME4_skip _ _ (P.length + 1) _ step Q.length (by rw [hl3]; omega) (by omega) high
  have e : ((P ++ c :: Q).length - 1 : Int) = (((P.length + 1 + Q.length : Nat) : Int) - 1) := by simp <;> omega
  rw [e]
  exact up
theorem ME4 (P Q : List Rule) (c : Rule) (h20 : (P ++ c :: Q).length ≤ 20) (hP : ∀ c ∈ P, ¬ (c.2 = true ∧ ¬ c.1 = 1)) (i n : Int) (e : List UInt8) (he : e = e4 ∨ e = e5) :
    Ev (fun k => effector_DefaultEffector_MergeEffects.f k 0 (B e) ((P ++ c :: Q).map Prod.fst) ((seen P c Q).map bn) i n) (if c.2 = true ∧ ¬ c.1 = 1 then ((if c.1 = 0 then 0 else 2), (P.length : Int), none) else (1, -1, none)) := by
  have j : Ev (fun k => effector_DefaultEffector_MergeEffects.j3 k ((P ++ c :: Q).map Prod.fst) ((seen P c Q).map bn) 1 (-1) true) (if c.2 = true ∧ ¬ c.1 = 1 then ((if c.1 = 0 then 0 else 2), (P.length : Int), none) else (1, -1, none)) := by
    refine Ev.step (fun _ => effector_DefaultEffector_MergeEffects.j3.eq_2 _ _ _ _ _ _) (Ev.pos rfl ?_)
    have := ME4_l1 P Q c h20 hP
    rw [List.length_map, w64 (by omega) (by omega)]
    exact this
  unfold effector_DefaultEffector_MergeEffects.f
  rcases he with rfl | rfl
  · refine Ev.neg (by rw [B_toList]; decide) (Ev.neg (by rw [B_toList]; decide) (Ev.neg (by rw [B_toList]; decide) (Ev.pos (B_toList _) ?_)))
    rw [B_toList]
    exact j
  · refine Ev.neg (by rw [B_toList]; decide) (Ev.neg (by rw [B_toList]; decide) (Ev.neg (by rw [B_toList]; decide) (Ev.neg (by rw [B_toList]; decide) ?_)))
    rw [B_toList]
    exact j

theorem awakeM : Ev laws_awakeMerge.f true := Ev.of laws_awakeMerge.mono (k := 30) (by decide +kernel)

theorem effects_loop (m : List Bool) (q : List Int) : ∀ p : List Int, p.length + q.length ≤ 20 → ∃ b, Ev (fun k => laws_effects.l0 k (p ++ q) m (p.length : Int)) b ∧ (b = true → (∀ x ∈ q, x = 0 ∨ x = 1 ∨ x = 2) ∧ 0 < (p ++ q).length ∧ m.length = (p ++ q).length) := by
  induction q with
  | nil =>
    intro p hp
    simp only [List.length_nil, Nat.add_zero] at hp
    by_cases h : (p.length : Int) ≥ 1
    · refine ⟨(m.length : Int) == (p.length : Int), Ev.step (fun _ => laws_effects.l0.eq_2 _ _ _ _) (Ev.neg (by simp) ?_), fun h2 => ⟨by simp, by simp; omega, ?_⟩⟩
      · simp only [List.append_nil]
        exact Ev.pos h (Ev.pos (by omega) (Ev.now _))
      · have := beq_iff_eq.1 h2
        simp; omega
    · refine ⟨false, Ev.step (fun _ => laws_effects.l0.eq_2 _ _ _ _) (Ev.neg (by simp) ?_), by simp⟩
      simp only [List.append_nil]
      exact Ev.neg h (Ev.now _)
  | cons c q ih =>
    intro p hp
    simp only [List.length_cons] at hp
    obtain ⟨b, hb, hx⟩ := ih (p ++ [c]) (by simp <;> omega)
    by_cases h1 : c < 0
    · refine ⟨false, Ev.step (fun _ => laws_effects.l0.eq_2 _ _ _ _) (Ev.pos (by simp <;> omega) (Ev.pos (by omega) ?_)), by simp⟩
      rw [rd_mid p q c _ rfl]
      exact Ev.pos h1 (Ev.now _)
    · by_cases h2 : c > 2
      · refine ⟨false, Ev.step (fun _ => laws_effects.l0.eq_2 _ _ _ _) (Ev.pos (by simp <;> omega) (Ev.pos (by omega) ?_)), by simp⟩
        rw [rd_mid p q c _ rfl]
        exact Ev.neg h1 (Ev.pos h2 (Ev.now _))
      · refine ⟨b, Ev.step (fun _ => laws_effects.l0.eq_2 _ _ _ _) (Ev.pos (by simp <;> omega) (Ev.pos (by omega) ?_)), fun h => ?_⟩
        · rw [rd_mid p q c _ rfl, w64 (by omega) (by omega)]
          refine Ev.neg h1 (Ev.neg h2 ?_)
          simpa using hb
        · obtain ⟨y1, y2, y3⟩ := hx h
          refine ⟨fun x hx => ?_, by simp <;> omega, by simpa using y3⟩
          rcases List.mem_cons.1 hx with rfl | hx
          · omega
          · exact y1 x hx
theorem effects_f (l : List Int) (m : List Bool) : ∃ b, Ev (fun k => laws_effects.f k l m) b ∧ (b = true → ∃ z : List Rule, l = z.map Prod.fst ∧ m = z.map Prod.snd ∧ Good z ∧ 0 < z.length ∧ z.length ≤ 20) := by
  by_cases h : (l.length : Int) > 20
  · exact ⟨false, Ev.pos h (Ev.now _), by simp⟩
  · obtain ⟨b, hb, hx⟩ := effects_loop m l [] (by simp; omega)
    refine ⟨b, Ev.neg h (by simpa using hb), fun hb => ?_⟩
    obtain ⟨y1, y2, y3⟩ := hx hb
    simp only [List.nil_append] at y2 y3
    refine ⟨l.zip m, (List.map_fst_zip (by omega)).symm, (List.map_snd_zip (by omega)).symm, ?_, by rw [List.length_zip]; omega, by rw [List.length_zip]; omega⟩
    intro c hc
    exact y1 c.1 (List.of_mem_zip hc).1

theorem MergeS_l1 (e : ByteArray) (i n a b : Int) (r : Int) (l : List Int) (q : List Bool) : ∀ p : List Bool, p.length + q.length ≤ 20 →
    Ev (fun k => effector_DefaultEffector_MergeEffects.f k 0 e l ((p ++ q).map bn) i n) (a, b, some r) →
    Ev (fun k => impl_Merge.l1 k e (p ++ q) i n l (p.map bn) (p.length : Int)) (a, b, 1) := by
  induction q with
  | nil =>
    intro p _ h
    refine Ev.step (fun _ => impl_Merge.l1.eq_2 _ _ _ _ _ _ _ _) (Ev.neg (by simp) (Ev.bind (a := 0) (Ev.const rfl) (Ev.bind (a := (a, b, some r)) ?_ (Ev.bind (a := 1) (Ev.const rfl) (Ev.now _)))))
    simpa using h
  | cons c q ih =>
    intro p hp h
    simp only [List.length_cons] at hp
    have ih := ih (p ++ [c]) (by simp <;> omega) (by simpa using h)
    simp only [List.append_assoc, List.cons_append, List.nil_append, List.length_append, List.length_cons, List.length_nil, List.map_append, List.map_cons, List.map_nil] at ih
    refine Ev.step (fun _ => impl_Merge.l1.eq_2 _ _ _ _ _ _ _ _) (Ev.pos (by simp <;> omega) (Ev.pos (by omega) ?_))
    rw [rdOf_mid _ p q c _ rfl, w64 (by omega) (by omega)]
    cases c
    · exact Ev.neg (by simp) (Ev.pos (by simp <;> omega) ih)
    · exact Ev.pos rfl (Ev.pos (by simp <;> omega) ih)
theorem MergeS_l0 (e : ByteArray) (m : List Bool) (i n a b c' : Int) (q : List Int) : ∀ p : List Int, p.length + q.length ≤ 20 →
    Ev (fun k => impl_Merge.l1 k e m i n (p ++ q) [] 0) (a, b, c') →
    Ev (fun k => impl_Merge.l0 k e (p ++ q) m i n p (p.length : Int)) (a, b, c') := by
  induction q with
  | nil =>
    intro p _ h
    exact Ev.step (fun _ => impl_Merge.l0.eq_2 _ _ _ _ _ _ _ _) (Ev.neg (by simp) (by simpa using h))
  | cons c q ih =>
    intro p hp h
    simp only [List.length_cons] at hp
    have ih := ih (p ++ [c]) (by simp <;> omega) (by simpa using h)
    simp only [List.append_assoc, List.cons_append, List.nil_append, List.length_append, List.length_cons, List.length_nil] at ih
    refine Ev.step (fun _ => impl_Merge.l0.eq_2 _ _ _ _ _ _ _ _) (Ev.pos (by simp <;> omega) (Ev.pos (by omega) (Ev.pos (by omega) ?_)))
    rw [rd_mid p q c _ rfl, w64 (by omega) (by omega)]
    exact ih
theorem stranger (a : List UInt8) (l l' : List Int) (i n : Int) (h1 : ¬ a = e1) (h2 : ¬ a = e2) (h3 : ¬ a = e3) (h4 : ¬ a = e4) (h5 : ¬ a = e5) : Ev (fun k => effector_DefaultEffector_MergeEffects.f k 0 (B a) l l' i n) (2, -1, some 0) := by
  unfold effector_DefaultEffector_MergeEffects.f
  refine Ev.neg (by rw [B_toList]; exact h1) (Ev.neg (by rw [B_toList]; exact h2) (Ev.neg (by rw [B_toList]; exact h3) (Ev.neg (by rw [B_toList]; exact h4) ?_)))
  have e : ((B a).toList == e5) = false := by
    rw [B_toList]
    simpa using h5
  rw [show ((B a).toList == ([115, 117, 98, 106, 101, 99, 116, 80, 114, 105, 111, 114, 105, 116, 121, 40, 112, 95, 101, 102, 116, 41, 32, 124, 124, 32, 100, 101, 110, 121] : List UInt8)) = false from e]
  exact Ev.step (fun _ => effector_DefaultEffector_MergeEffects.j3.eq_2 _ _ _ _ _ _) (Ev.neg (by simp) (Ev.bind (a := some 0) (Ev.const rfl) (Ev.now _)))
theorem FnMergeStranger (s : ByteArray) (l : List Int) (m : List Bool) (_ : s.size ≤ 140737488351232) (_ : l.length ≤ 9223372036854775807) (_ : ∀ v ∈ l, (Lit.int .i64 v).wf = true) (_ : m.length ≤ 9223372036854775807) (_ : ∀ v ∈ m, True) :
    ∃ k, laws_FnMergeStranger.f k s l m = some true := by
  obtain ⟨a, rfl⟩ := exists_B s
  refine Ev.rounds (g := fun k => laws_FnMergeStranger.f k (B a) l m) ?_
  have j0_true : Ev (fun k => laws_FnMergeStranger.j0 k (B a) l m true) true := Ev.step (fun _ => laws_FnMergeStranger.j0.eq_2 _ _ _ _ _) (Ev.pos rfl (Ev.now _))
  have j2_true : Ev (fun k => laws_FnMergeStranger.j2 k (B a) l m true) true := Ev.step (fun _ => laws_FnMergeStranger.j2.eq_2 _ _ _ _ _) (Ev.pos rfl (Ev.bind awakeM (Ev.now _)))
  have hs : spec_Expressions.f = some [B e1, B e2, B e3, B e4, B e5] := rfl
  have last : ¬ a = e1 → ¬ a = e2 → ¬ a = e3 → ¬ a = e4 → ¬ a = e5 → Ev (fun k => laws_FnMergeStranger.l0 k (B a) l m [B e1, B e2, B e3, B e4, B e5] 5) true := by
    intro h1 h2 h3 h4 h5
    refine Ev.step (fun _ => laws_FnMergeStranger.l0.eq_2 _ _ _ _ _ _) (Ev.neg (by simp) ?_)
    obtain ⟨t, ht, hx⟩ := effects_f l m
    refine Ev.bind ht ?_
    cases t
    · exact Ev.neg (by simp) j2_true
    · refine Ev.pos rfl ?_
      obtain ⟨z, rfl, rfl, hg, h0, h20⟩ := hx rfl
      by_cases h : ((B a).size : Int) > 300
      · rw [decide_eq_true h]; exact j2_true
      · rw [decide_eq_false h]
        refine Ev.step (fun _ => laws_FnMergeStranger.j2.eq_2 _ _ _ _ _) (Ev.neg (by simp) (Ev.bind (Ev.now _) (Ev.pos (by simp; omega) (Ev.bind (Ev.now _) (Ev.pos (by simp; omega) ?_)))))
        rw [List.nil_append, List.nil_append]
        have q1 := MergeS_l1 (B a) 0 ((z.map Prod.fst).length : Int) 2 (-1) 0 (z.map Prod.fst) (z.map Prod.snd) [] (by simpa using h20) (stranger a _ _ _ _ h1 h2 h3 h4 h5)
        have q0 := MergeS_l0 (B a) (z.map Prod.snd) 0 ((z.map Prod.fst).length : Int) 2 (-1) 1 (z.map Prod.fst) [] (by simpa using h20) q1
        refine Ev.bind (a := (2, -1, 1)) ?_ (Ev.neg (by simp) (Ev.bind awakeM (Ev.now _)))
        exact q0
  have one : ∀ (i : Int) (e : List UInt8), 0 ≤ i → i < 5 → rdOf ByteArray.empty [B e1, B e2, B e3, B e4, B e5] i = B e → (¬ a = e → Ev (fun k => laws_FnMergeStranger.l0 k (B a) l m [B e1, B e2, B e3, B e4, B e5] (i + 1)) true) → Ev (fun k => laws_FnMergeStranger.l0 k (B a) l m [B e1, B e2, B e3, B e4, B e5] i) true := by
    intro i e h0 h5 hr hn
    refine Ev.step (fun _ => laws_FnMergeStranger.l0.eq_2 _ _ _ _ _ _) (Ev.pos (by simp; omega) (Ev.pos h0 ?_))
    rw [hr, w64 (by omega) (by omega), B_toList, B_toList]
    by_cases h : a = e
    · exact Ev.pos h.symm (Ev.bind awakeM (Ev.now _))
    · exact Ev.neg (fun z => h z.symm) (hn h)
  have j0_false : Ev (fun k => laws_FnMergeStranger.j0 k (B a) l m false) true := by
    refine Ev.step (fun _ => laws_FnMergeStranger.j0.eq_2 _ _ _ _ _) (Ev.neg (by simp) (Ev.bind (Ev.const hs) ?_))
    exact one 0 e1 (by omega) (by omega) rfl fun h1 => one 1 e2 (by omega) (by omega) rfl fun h2 => one 2 e3 (by omega) (by omega) rfl fun h3 => one 3 e4 (by omega) (by omega) rfl fun h4 => one 4 e5 (by omega) (by omega) rfl fun h5 => last h1 h2 h3 h4 h5
  by_cases h0 : ((B a).size : Int) > 2147483647
  · exact Ev.pos h0 j0_true
  refine Ev.neg h0 ?_
  by_cases h1 : (l.length : Int) > 2147483647
  · exact Ev.pos h1 j0_true
  · refine Ev.neg h1 ?_
    by_cases h2 : (m.length : Int) > 2147483647
    · rw [decide_eq_true h2]; exact j0_true
    · rw [decide_eq_false h2]; exact j0_false

end Go.Proofs.Ytdhmlcnlklcofaa.Pure
