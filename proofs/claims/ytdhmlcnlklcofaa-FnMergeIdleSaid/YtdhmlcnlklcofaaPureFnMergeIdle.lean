/- For every expression, place, rule and rules: laws.FnMergeIdle answers true (the plain statement behind its walk); lengths are those that an int can hold. -/
import Derived.Test.YtdhmlcnlklcofaaOFnMergeIdlex4
import Derived.Test.YtdhmlcnlklcofaaBase
set_option linter.unusedSimpArgs false
set_option linter.unusedVariables false
namespace Go.Proofs.Ytdhmlcnlklcofaa.Pure
open Go.RowKit Go.Proofs.Ytdhmlcnlklcofaa.PFnMergeIdle Go.Proofs.YtdhmlcnlklcofaaW.PrintWords Go.Proofs.YtdhmlcnlklcofaaW.PrintLast Go.Proofs.Ytdhmlcnlklcofaa.Base

/-- the five expressions, as bytes -/
def e1 : List UInt8 := [115, 111, 109, 101, 40, 119, 104, 101, 114, 101, 32, 40, 112, 95, 101, 102, 116, 32, 61, 61, 32, 97, 108, 108, 111, 119, 41, 41]
def e2 : List UInt8 := [33, 115, 111, 109, 101, 40, 119, 104, 101, 114, 101, 32, 40, 112, 95, 101, 102, 116, 32, 61, 61, 32, 100, 101, 110, 121, 41, 41]
def e3 : List UInt8 := [115, 111, 109, 101, 40, 119, 104, 101, 114, 101, 32, 40, 112, 95, 101, 102, 116, 32, 61, 61, 32, 97, 108, 108, 111, 119, 41, 41, 32, 38, 38, 32, 33, 115, 111, 109, 101, 40, 119, 104, 101, 114, 101, 32, 40, 112, 95, 101, 102, 116, 32, 61, 61, 32, 100, 101, 110, 121, 41, 41]
def e4 : List UInt8 := [112, 114, 105, 111, 114, 105, 116, 121, 40, 112, 95, 101, 102, 116, 41, 32, 124, 124, 32, 100, 101, 110, 121]
def e5 : List UInt8 := [115, 117, 98, 106, 101, 99, 116, 80, 114, 105, 111, 114, 105, 116, 121, 40, 112, 95, 101, 102, 116, 41, 32, 124, 124, 32, 100, 101, 110, 121]
/-- a match as the number 1, none as 0 -/
def bn (b : Bool) : Int := if b then 1 else 0
theorem bn_zero (b : Bool) : bn b = 0 ↔ b = false := by cases b <;> simp [bn]
/-- a rule: its effect, and whether it matches -/
abbrev Rule := Int × Bool
def hit (e : Int) (c : Rule) : Prop := c.2 = true ∧ c.1 = e
instance (e : Int) (c : Rule) : Decidable (hit e c) := by unfold hit; infer_instance
/-- the first rule from place i on that matches and has an effect -/
def fo (e : Int) : List Rule → Int → Int
  | [], _ => -1
  | c :: q, i => if hit e c then i else fo e q (i + 1)
/-- the effect of the first rule that matches and decides something -/
def lead : List Rule → Int
  | [] => 1
  | c :: q => if c.2 = true ∧ ¬ c.1 = 1 then c.1 else lead q
theorem fo_range (e : Int) : ∀ (q : List Rule) (i : Int), fo e q i = -1 ∨ (i ≤ fo e q i ∧ fo e q i < i + q.length)
  | [], i => .inl rfl
  | c :: q, i => by
    unfold fo
    by_cases h : hit e c
    · rw [if_pos h]; exact .inr ⟨by omega, by simp only [List.length_cons]; omega⟩
    · rw [if_neg h]
      rcases fo_range e q (i + 1) with h | h
      · exact .inl h
      · exact .inr ⟨by omega, by simp only [List.length_cons]; omega⟩
theorem fo_any (e : Int) : ∀ (q : List Rule) (i : Int), 0 ≤ i → (0 ≤ fo e q i ↔ ∃ c ∈ q, hit e c)
  | [], i, _ => by simp [fo]
  | c :: q, i, h0 => by
    unfold fo
    by_cases h : hit e c
    · rw [if_pos h]; simp [h, h0]
    · rw [if_neg h, fo_any e q (i + 1) (by omega)]; simp [h]
theorem fo_split (e : Int) : ∀ (q : List Rule) (i : Int), 0 ≤ i → 0 ≤ fo e q i → ∃ p x r, q = p ++ x :: r ∧ fo e q i = i + (p.length : Int) ∧ hit e x
  | [], i, _, h => by simp [fo] at h
  | c :: q, i, h0, h => by
    unfold fo at h ⊢
    by_cases z : hit e c
    · rw [if_pos z]; exact ⟨[], c, q, rfl, by simp, z⟩
    · rw [if_neg z] at h ⊢
      obtain ⟨p, x, r, rfl, hl, hx⟩ := fo_split e q (i + 1) (by omega) h
      exact ⟨c :: p, x, r, rfl, by simp only [List.length_cons]; omega, hx⟩
/-- effects that there are -/
def Good (q : List Rule) : Prop := ∀ c ∈ q, c.1 = 0 ∨ c.1 = 1 ∨ c.1 = 2
theorem lead_fo : ∀ (q : List Rule) (i : Int), Good q → 0 ≤ i → (lead q = 0 ↔ (0 ≤ fo 0 q i ∧ (fo 2 q i < 0 ∨ fo 0 q i < fo 2 q i))) := by
  intro q
  induction q with
  | nil => intro i _ _; simp [lead, fo]
  | cons c q ih =>
    intro i hg h0
    have hg' : Good q := fun x hx => hg x (List.mem_cons_of_mem _ hx)
    have hc := hg c (List.mem_cons_self ..)
    unfold lead fo
    by_cases hb : c.2 = true
    · rcases hc with hc | hc | hc
      · rw [if_pos ⟨hb, by omega⟩, if_pos ⟨hb, hc⟩, if_neg (by rintro ⟨_, z⟩; omega)]
        rcases fo_range 2 q (i + 1) with h | h <;> constructor <;> intro _ <;> omega
      · rw [if_neg (fun z => z.2 hc), if_neg (by rintro ⟨_, z⟩; omega), if_neg (by rintro ⟨_, z⟩; omega)]
        exact ih (i + 1) hg' (by omega)
      · rw [if_pos ⟨hb, by omega⟩, if_neg (by rintro ⟨_, z⟩; omega), if_pos ⟨hb, hc⟩]
        rcases fo_range 0 q (i + 1) with h | h <;> constructor <;> intro _ <;> omega
    · rw [if_neg (fun z => hb z.1), if_neg (fun z => hb z.1), if_neg (fun z => hb z.1)]
      exact ih (i + 1) hg' (by omega)
theorem lead_miss : ∀ (p q : List Rule), (∀ c ∈ p, ¬ (c.2 = true ∧ ¬ c.1 = 1)) → lead (p ++ q) = lead q
  | [], _, _ => rfl
  | c :: p, q, h => by
    show lead (c :: (p ++ q)) = _
    rw [lead, if_neg (h c (List.mem_cons_self ..))]
    exact lead_miss p q (fun x hx => h x (List.mem_cons_of_mem _ hx))
theorem lead_idle : ∀ (p q : List Rule) (x : Rule), ¬ (x.2 = true ∧ ¬ x.1 = 1) → lead (p ++ x :: q) = lead (p ++ q)
  | [], q, x, h => by show lead (x :: q) = lead q; rw [lead, if_neg h]
  | c :: p, q, x, h => by
    show lead (c :: (p ++ x :: q)) = lead (c :: (p ++ q))
    unfold lead
    rw [lead_idle p q x h]

/-! What MergeEffects answers, expression by expression. -/
theorem ME1 (p p' q q' : List Int) (c d n : Int) (h : p.length = p'.length) :
    Ev (fun k => effector_DefaultEffector_MergeEffects.f k 0 (B e1) (p ++ c :: q) (p' ++ d :: q') (p.length : Int) n) (if d = 0 then (1, -1, none) else if c = 0 then (0, (p.length : Int), none) else (1, -1, none)) := by
  unfold effector_DefaultEffector_MergeEffects.f
  refine Ev.pos (B_toList _) (Ev.pos (by omega) (Ev.pos (by simp <;> omega) ?_))
  rw [rd_mid p' q' d _ (by rw [h]), rd_mid p q c _ rfl]
  by_cases hd : d = 0
  · refine Ev.pos hd ?_; rw [if_pos hd]; exact Ev.now _
  · refine Ev.neg hd (Ev.pos (by simp <;> omega) ?_)
    rw [if_neg hd]
    by_cases hc : c = 0
    · refine Ev.pos hc ?_; rw [if_pos hc]; exact Ev.now _
    · refine Ev.neg hc ?_; rw [if_neg hc]; exact Ev.now _
theorem ME2 (p p' q q' : List Int) (c d : Int) (h : p.length = p'.length) (n : Int) (hn : 0 ≤ n) (hn2 : n ≤ 20) :
    Ev (fun k => effector_DefaultEffector_MergeEffects.f k 0 (B e2) (p ++ c :: q) (p' ++ d :: q') (p.length : Int) n) (if ¬ d = 0 ∧ c = 2 then (2, (p.length : Int), none) else if (p.length : Int) = n - 1 then (0, -1, none) else (1, -1, none)) := by
  have j : Ev (fun k => effector_DefaultEffector_MergeEffects.j0 k (p.length : Int) n 1 (-1) false) (if (p.length : Int) = n - 1 then (0, -1, none) else (1, -1, none)) := by
    refine Ev.step (fun _ => effector_DefaultEffector_MergeEffects.j0.eq_2 _ _ _ _ _ _) (Ev.neg (by simp) ?_)
    rw [w64 (by omega) (by omega)]
    by_cases e : (p.length : Int) = n - 1
    · refine Ev.pos e ?_; rw [if_pos e]; exact Ev.now _
    · refine Ev.neg e ?_; rw [if_neg e]; exact Ev.now _
  unfold effector_DefaultEffector_MergeEffects.f
  refine Ev.neg (by rw [B_toList]; decide) (Ev.pos (B_toList _) (Ev.pos (by omega) (Ev.pos (by simp <;> omega) ?_)))
  rw [rd_mid p' q' d _ (by rw [h]), rd_mid p q c _ rfl]
  by_cases hd : d = 0
  · rw [if_neg (fun z => z.1 hd)]; exact Ev.pos hd j
  · refine Ev.neg hd (Ev.pos (by simp <;> omega) ?_)
    by_cases hc : c = 2
    · rw [if_pos ⟨hd, hc⟩, show (c == 2) = true from by simp [hc]]
      exact Ev.step (fun _ => effector_DefaultEffector_MergeEffects.j0.eq_2 _ _ _ _ _ _) (Ev.pos rfl (Ev.now _))
    · rw [if_neg (fun z => hc z.2), show (c == 2) = false from by simp [hc]]
      exact j
theorem ME3_loop (q : List Rule) : ∀ (p : List Rule), p.length + q.length ≤ 20 →
    Ev (fun k => effector_DefaultEffector_MergeEffects.l0 k ((p ++ q).map fun c => bn c.2) 1 (-1) ((p ++ q).map Prod.fst) ((p ++ q).length : Int) (p.length : Int)) (if fo 0 q (p.length : Int) < 0 then (1, -1, none) else (0, fo 0 q (p.length : Int), none)) := by
  induction q with
  | nil => intro p _; exact Ev.step (fun _ => effector_DefaultEffector_MergeEffects.l0.eq_2 _ _ _ _ _ _ _) (Ev.neg (by simp) (Ev.now _))
  | cons c q ih =>
    intro p hp
    simp only [List.length_cons] at hp
    have ih := ih (p ++ [c]) (by simp <;> omega)
    refine Ev.step (fun _ => effector_DefaultEffector_MergeEffects.l0.eq_2 _ _ _ _ _ _ _) (Ev.pos (by simp <;> omega) (Ev.pos (by omega) (Ev.pos (by simp <;> omega) (Ev.pos (by simp <;> omega) ?_))))
    rw [List.map_append, List.map_append, List.map_cons, List.map_cons, rd_mid _ _ _ _ (by simp), rd_mid _ _ _ _ (by simp), w64 (by omega) (by omega)]
    simp only [List.append_assoc, List.cons_append, List.nil_append, List.length_append, List.length_cons, List.length_nil, List.map_append, List.map_cons] at ih ⊢
    unfold fo
    by_cases hd : c.2 = true
    · refine Ev.neg (by rw [bn_zero, hd]; simp) ?_
      by_cases hc : c.1 = 0
      · rw [if_pos (show hit 0 c from ⟨hd, hc⟩), if_neg (by omega)]
        exact Ev.pos hc (Ev.now _)
      · rw [if_neg (fun z : hit 0 c => hc z.2)]
        exact Ev.neg hc ih
    · rw [if_neg (fun z : hit 0 c => hd z.1)]
      exact Ev.pos (by rw [bn_zero]; simpa using hd) ih
theorem ME3_mid (p p' q q' : List Int) (c d : Int) (h : p.length = p'.length) (n : Int) (hn : (p.length : Int) < n - 1) (hn2 : n ≤ 20) :
    Ev (fun k => effector_DefaultEffector_MergeEffects.f k 0 (B e3) (p ++ c :: q) (p' ++ d :: q') (p.length : Int) n) (if ¬ d = 0 ∧ c = 2 then (2, (p.length : Int), none) else (1, -1, none)) := by
  have j : Ev (fun k => effector_DefaultEffector_MergeEffects.j1 k (p ++ c :: q) (p' ++ d :: q') (p.length : Int) n 1 (-1) false) (1, -1, none) := by
    refine Ev.step (fun _ => effector_DefaultEffector_MergeEffects.j1.eq_2 _ _ _ _ _ _ _ _) (Ev.neg (by simp) ?_)
    rw [w64 (by omega) (by omega)]
    exact Ev.pos hn (Ev.now _)
  unfold effector_DefaultEffector_MergeEffects.f
  refine Ev.neg (by rw [B_toList]; decide) (Ev.neg (by rw [B_toList]; decide) (Ev.pos (B_toList _) (Ev.pos (by omega) (Ev.pos (by simp <;> omega) ?_))))
  rw [rd_mid p' q' d _ (by rw [h]), rd_mid p q c _ rfl]
  by_cases hd : d = 0
  · rw [if_neg (fun z => z.1 hd)]; exact Ev.pos hd j
  · refine Ev.neg hd (Ev.pos (by simp <;> omega) ?_)
    by_cases hc : c = 2
    · rw [if_pos ⟨hd, hc⟩, show (c == 2) = true from by simp [hc]]
      exact Ev.step (fun _ => effector_DefaultEffector_MergeEffects.j1.eq_2 _ _ _ _ _ _ _ _) (Ev.pos rfl (Ev.now _))
    · rw [if_neg (fun z => hc z.2), show (c == 2) = false from by simp [hc]]
      exact j
theorem ME3_last (P : List Rule) (c : Rule) (hP : P.length < 20) :
    Ev (fun k => effector_DefaultEffector_MergeEffects.f k 0 (B e3) ((P ++ [c]).map Prod.fst) ((P ++ [c]).map fun c => bn c.2) (P.length : Int) ((P ++ [c]).length : Int)) (if hit 2 c then (2, (P.length : Int), none) else if fo 0 (P ++ [c]) 0 < 0 then (1, -1, none) else (0, fo 0 (P ++ [c]) 0, none)) := by
  have j : Ev (fun k => effector_DefaultEffector_MergeEffects.j1 k ((P ++ [c]).map Prod.fst) ((P ++ [c]).map fun c => bn c.2) (P.length : Int) ((P ++ [c]).length : Int) 1 (-1) false) (if fo 0 (P ++ [c]) 0 < 0 then (1, -1, none) else (0, fo 0 (P ++ [c]) 0, none)) := by
    refine Ev.step (fun _ => effector_DefaultEffector_MergeEffects.j1.eq_2 _ _ _ _ _ _ _ _) (Ev.neg (by simp) ?_)
    refine Ev.neg (by rw [w64 (by omega) (by simp <;> omega)]; simp <;> omega) ?_
    have := ME3_loop (P ++ [c]) [] (by simp <;> omega)
    simp only [List.nil_append, List.length_nil, List.length_map] at this ⊢
    exact this
  unfold effector_DefaultEffector_MergeEffects.f
  refine Ev.neg (by rw [B_toList]; decide) (Ev.neg (by rw [B_toList]; decide) (Ev.pos (B_toList _) (Ev.pos (by omega) (Ev.pos (by simp <;> omega) ?_))))
  have r1 : rd ((P ++ [c]).map fun c => bn c.2) (P.length : Int) = bn c.2 := by rw [List.map_append]; exact rd_mid _ [] _ _ (by simp)
  have r2 : rd ((P ++ [c]).map Prod.fst) (P.length : Int) = c.1 := by rw [List.map_append]; exact rd_mid _ [] _ _ (by simp)
  rw [r1, r2]
  by_cases hd : c.2 = true
  · refine Ev.neg (by rw [bn_zero, hd]; simp) (Ev.pos (by simp <;> omega) ?_)
    by_cases hc : c.1 = 2
    · rw [if_pos (show hit 2 c from ⟨hd, hc⟩), show (c.1 == 2) = true from by simp [hc]]
      exact Ev.step (fun _ => effector_DefaultEffector_MergeEffects.j1.eq_2 _ _ _ _ _ _ _ _) (Ev.pos rfl (Ev.now _))
    · rw [if_neg (fun z : hit 2 c => hc z.2), show (c.1 == 2) = false from by simp [hc]]
      exact j
  · rw [if_neg (fun z : hit 2 c => hd z.1)]
    exact Ev.pos (by rw [bn_zero]; simpa using hd) j
theorem ME4_skip (l2 l3 : List Int) (a : Nat) (r : Int × Int × Option Int) (h : Ev (fun k => effector_DefaultEffector_MergeEffects.l1 k l2 l3 1 (-1) ((a : Int) - 1)) r) : ∀ m : Nat, a + m ≤ l3.length → a + m ≤ 20 → (∀ j : Nat, a ≤ j → j < a + m → rd l3 (j : Int) = 0 ∨ (j < l2.length ∧ rd l2 (j : Int) = 1)) →
    Ev (fun k => effector_DefaultEffector_MergeEffects.l1 k l2 l3 1 (-1) (((a + m : Nat) : Int) - 1)) r
  | 0, _, _, _ => h
  | m + 1, h1, h20, h2 => by
    have ih := ME4_skip l2 l3 a r h m (by omega) (by omega) (fun j hj hk => h2 j hj (by omega))
    have e : (((a + (m + 1) : Nat) : Int) - 1) = ((a + m : Nat) : Int) := by omega
    rw [e]
    refine Ev.step (fun _ => effector_DefaultEffector_MergeEffects.l1.eq_2 _ _ _ _ _ _) (Ev.pos (by omega) (Ev.pos (by omega) (Ev.pos (by omega) ?_)))
    rw [w64 (by omega) (by omega)]
    by_cases z : rd l3 ((a + m : Nat) : Int) = 0
    · exact Ev.pos z ih
    · rcases h2 (a + m) (by omega) (by omega) with x | ⟨x, y⟩
      · exact absurd x z
      · exact Ev.neg z (Ev.pos (by omega) (Ev.pos y ih))
theorem ME4_end (l2 l3 : List Int) : Ev (fun k => effector_DefaultEffector_MergeEffects.l1 k l2 l3 1 (-1) (((0 : Nat) : Int) - 1)) (1, -1, none) :=
  Ev.step (fun _ => effector_DefaultEffector_MergeEffects.l1.eq_2 _ _ _ _ _ _) (Ev.neg (by omega) (Ev.now _))
/-- the rules that were looked at up to one; those behind are no matches yet -/
def seen (P : List Rule) (c : Rule) (Q : List Rule) : List Bool := P.map Prod.snd ++ c.2 :: List.replicate Q.length false
theorem ME4_l1 (P Q : List Rule) (c : Rule) (h20 : (P ++ c :: Q).length ≤ 20) (hP : ∀ c ∈ P, ¬ (c.2 = true ∧ ¬ c.1 = 1)) :
    Ev (fun k => effector_DefaultEffector_MergeEffects.l1 k ((P ++ c :: Q).map Prod.fst) ((seen P c Q).map bn) 1 (-1) ((P ++ c :: Q).length - 1 : Int)) (if c.2 = true ∧ ¬ c.1 = 1 then ((if c.1 = 0 then 0 else 2), (P.length : Int), none) else (1, -1, none)) := by
  have hl3 : ((seen P c Q).map bn).length = P.length + (Q.length + 1) := by simp [seen]
  have hl2 : ((P ++ c :: Q).map Prod.fst).length = P.length + (Q.length + 1) := by simp
  simp only [List.length_append, List.length_cons] at h20
  have r3 : rd ((seen P c Q).map bn) (P.length : Int) = bn c.2 := by unfold seen; rw [List.map_append, List.map_cons]; exact rd_mid _ _ _ _ (by simp)
  have r2 : rd ((P ++ c :: Q).map Prod.fst) (P.length : Int) = c.1 := by rw [List.map_append, List.map_cons]; exact rd_mid _ _ _ _ (by simp)
  have low : ∀ j : Nat, 0 ≤ j → j < 0 + P.length → rd ((seen P c Q).map bn) (j : Int) = 0 ∨ (j < ((P ++ c :: Q).map Prod.fst).length ∧ rd ((P ++ c :: Q).map Prod.fst) (j : Int) = 1) := by
    intro j _ hj
    have hj : j < P.length := by omega
    have a3 : rd ((seen P c Q).map bn) (j : Int) = bn (P[j]'hj).2 := by
      unfold seen rd
      simp [List.getD, List.getElem?_append_left, hj]
    have a2 : rd ((P ++ c :: Q).map Prod.fst) (j : Int) = (P[j]'hj).1 := by
      unfold rd
      simp [List.getD, List.getElem?_append_left, hj]
    have := hP (P[j]'hj) (List.getElem_mem hj)
    by_cases z : (P[j]'hj).2 = true
    · right
      refine ⟨by rw [hl2]; omega, ?_⟩
      rw [a2]
      by_cases y : (P[j]'hj).1 = 1
      · exact y
      · exact absurd ⟨z, y⟩ this
    · left
      rw [a3, bn_zero]
      simpa using z
  have high : ∀ j : Nat, P.length + 1 ≤ j → j < P.length + 1 + Q.length → rd ((seen P c Q).map bn) (j : Int) = 0 ∨ (j < ((P ++ c :: Q).map Prod.fst).length ∧ rd ((P ++ c :: Q).map Prod.fst) (j : Int) = 1) := by
    intro j h1 h2
    left
    unfold seen rd
    obtain ⟨m, rfl⟩ : ∃ m, j = P.length + (m + 1) := ⟨j - P.length - 1, by omega⟩
    have hm : m < Q.length := by omega
    rw [Int.toNat_natCast, List.map_append, List.map_cons, List.map_replicate, List.getD_eq_getElem?_getD, List.getElem?_append_right (by simp)]
    simp [List.getElem?_replicate, hm, bn]
  have step : Ev (fun k => effector_DefaultEffector_MergeEffects.l1 k ((P ++ c :: Q).map Prod.fst) ((seen P c Q).map bn) 1 (-1) (((P.length + 1 : Nat) : Int) - 1)) (if c.2 = true ∧ ¬ c.1 = 1 then ((if c.1 = 0 then 0 else 2), (P.length : Int), none) else (1, -1, none)) := by
    have down := ME4_skip _ _ 0 _ (ME4_end ((P ++ c :: Q).map Prod.fst) ((seen P c Q).map bn)) P.length (by rw [hl3]; omega) (by omega) low
    rw [Nat.zero_add] at down
    have e : (((P.length + 1 : Nat) : Int) - 1) = (P.length : Int) := by omega
    rw [e]
    refine Ev.step (fun _ => effector_DefaultEffector_MergeEffects.l1.eq_2 _ _ _ _ _ _) (Ev.pos (by omega) (Ev.pos (by omega) (Ev.pos (by rw [hl3]; omega) ?_)))
    rw [w64 (by omega) (by omega), r3, r2]
    by_cases z : c.2 = true
    · refine Ev.neg (by rw [bn_zero, z]; simp) (Ev.pos (by rw [hl2]; omega) ?_)
      by_cases y : c.1 = 1
      · rw [if_neg (fun w : c.2 = true ∧ ¬ c.1 = 1 => w.2 y)]
        exact Ev.pos y down
      · rw [if_pos (⟨z, y⟩ : c.2 = true ∧ ¬ c.1 = 1)]
        refine Ev.neg y ?_
        by_cases x : c.1 = 0
        · refine Ev.pos x ?_; rw [if_pos x]; exact Ev.now _
        · refine Ev.neg x ?_; rw [if_neg x]; exact Ev.now _
    · rw [if_neg (fun w : c.2 = true ∧ ¬ c.1 = 1 => z w.1)]
      exact Ev.pos (by rw [bn_zero]; simpa using z) down
  have up := ME4_skip _ _ (P.length + 1) _ step Q.length (by rw [hl3]; omega) (by omega) high
  have e : ((P ++ c :: Q).length - 1 : Int) = (((P.length + 1 + Q.length : Nat) : Int) - 1) := by simp <;> omega
  rw [e]
  exact up
theorem ME4 (P Q : List Rule) (c : Rule) (h20 : (P ++ c :: Q).length ≤ 20) (hP : ∀ c ∈ P, ¬ (c.2 = true ∧ ¬ c.1 = 1)) (i n : Int) (e : List UInt8) (he : e = e4 ∨ e = e5) :
    Ev (fun k => effector_DefaultEffector_MergeEffects.f k 0 (B e) ((P ++ c :: Q).map Prod.fst) ((seen P c Q).map bn) i n) (if c.2 = true ∧ ¬ c.1 = 1 then ((if c.1 = 0 then 0 else 2), (P.length : Int), none) else (1, -1, none)) := by
  have j : Ev (fun k => effector_DefaultEffector_MergeEffects.j3 k ((P ++ c :: Q).map Prod.fst) ((seen P c Q).map bn) 1 (-1) true) (if c.2 = true ∧ ¬ c.1 = 1 then ((if c.1 = 0 then 0 else 2), (P.length : Int), none) else (1, -1, none)) := by
    refine Ev.step (fun _ => effector_DefaultEffector_MergeEffects.j3.eq_2 _ _ _ _ _ _) (Ev.pos rfl ?_)
    have := ME4_l1 P Q c h20 hP
    rw [List.length_map, w64 (by omega) (by omega)]
    exact this
  unfold effector_DefaultEffector_MergeEffects.f
  rcases he with rfl | rfl
  · refine Ev.neg (by rw [B_toList]; decide) (Ev.neg (by rw [B_toList]; decide) (Ev.neg (by rw [B_toList]; decide) (Ev.pos (B_toList _) ?_)))
    rw [B_toList]
    exact j
  · refine Ev.neg (by rw [B_toList]; decide) (Ev.neg (by rw [B_toList]; decide) (Ev.neg (by rw [B_toList]; decide) (Ev.neg (by rw [B_toList]; decide) ?_)))
    rw [B_toList]
    exact j

theorem awakeM : Ev laws_awakeMerge.f true := Ev.of laws_awakeMerge.mono (k := 30) (by decide +kernel)
theorem Merge_l1 (e : ByteArray) (i n a b : Int) (l : List Int) (q : List Bool) : ∀ p : List Bool, p.length + q.length ≤ 20 →
    Ev (fun k => effector_DefaultEffector_MergeEffects.f k 0 e l ((p ++ q).map bn) i n) (a, b, none) →
    Ev (fun k => impl_Merge.l1 k e (p ++ q) i n l (p.map bn) (p.length : Int)) (a, b, 0) := by
  induction q with
  | nil =>
    intro p _ h
    refine Ev.step (fun _ => impl_Merge.l1.eq_2 _ _ _ _ _ _ _ _) (Ev.neg (by simp) (Ev.bind (a := 0) (Ev.const rfl) (Ev.bind (a := (a, b, none)) ?_ (Ev.bind (a := 0) (Ev.const rfl) (Ev.now _)))))
    simpa using h
  | cons c q ih =>
    intro p hp h
    simp only [List.length_cons] at hp
    have ih := ih (p ++ [c]) (by simp <;> omega) (by simpa using h)
    simp only [List.append_assoc, List.cons_append, List.nil_append, List.length_append, List.length_cons, List.length_nil, List.map_append, List.map_cons, List.map_nil] at ih
    refine Ev.step (fun _ => impl_Merge.l1.eq_2 _ _ _ _ _ _ _ _) (Ev.pos (by simp <;> omega) (Ev.pos (by omega) ?_))
    rw [rdOf_mid _ p q c _ rfl, w64 (by omega) (by omega)]
    cases c
    · exact Ev.neg (by simp) (Ev.pos (by simp <;> omega) ih)
    · exact Ev.pos rfl (Ev.pos (by simp <;> omega) ih)
theorem Merge_l0 (e : ByteArray) (m : List Bool) (i n a b : Int) (q : List Int) : ∀ p : List Int, p.length + q.length ≤ 20 →
    Ev (fun k => impl_Merge.l1 k e m i n (p ++ q) [] 0) (a, b, 0) →
    Ev (fun k => impl_Merge.l0 k e (p ++ q) m i n p (p.length : Int)) (a, b, 0) := by
  induction q with
  | nil =>
    intro p _ h
    exact Ev.step (fun _ => impl_Merge.l0.eq_2 _ _ _ _ _ _ _ _) (Ev.neg (by simp) (by simpa using h))
  | cons c q ih =>
    intro p hp h
    simp only [List.length_cons] at hp
    have ih := ih (p ++ [c]) (by simp <;> omega) (by simpa using h)
    simp only [List.append_assoc, List.cons_append, List.nil_append, List.length_append, List.length_cons, List.length_nil] at ih
    refine Ev.step (fun _ => impl_Merge.l0.eq_2 _ _ _ _ _ _ _ _) (Ev.pos (by simp <;> omega) (Ev.pos (by omega) (Ev.pos (by omega) ?_)))
    rw [rd_mid p q c _ rfl, w64 (by omega) (by omega)]
    exact ih
theorem Merge_f (e : ByteArray) (l : List Int) (m : List Bool) (i n a b : Int) (hl : l.length ≤ 20) (hm : m.length ≤ 20) (h : Ev (fun k => effector_DefaultEffector_MergeEffects.f k 0 e l (m.map bn) i n) (a, b, none)) :
    Ev (fun k => impl_Merge.f k e l m i n) (a, b, 0) := by
  have h1 := Merge_l1 e i n a b l m [] (by simpa using hm) (by simpa using h)
  have h2 := Merge_l0 e m i n a b l [] (by simpa using hl) (by simpa using h1)
  simpa [impl_Merge.f] using h2
/-! One round of an enforcer. -/
theorem cpy_seen (P Q : List Rule) (c : Rule) : cpyb (List.replicate ((P ++ c :: Q).length) false) (((P ++ c :: Q).map Prod.snd).take (P.length + 1)) = seen P c Q := by
  unfold cpyb seen
  have e : ((P ++ c :: Q).map Prod.snd).take (P.length + 1) = P.map Prod.snd ++ [c.2] := by
    rw [List.map_append, List.map_cons, List.take_append]
    simp [List.take_of_length_le]
  rw [e, List.drop_replicate]
  have e2 : min (P.map Prod.snd ++ [c.2]).length (List.replicate (P ++ c :: Q).length false).length = P.length + 1 := by simp <;> omega
  rw [e2, List.take_of_length_le (by simp)]
  have e3 : (P ++ c :: Q).length - (P.length + 1) = Q.length := by simp <;> omega
  rw [e3]
  simp
theorem round (e : ByteArray) (P Q : List Rule) (c : Rule) (a b : Int) (r : Int × Int × Bool) (h20 : (P ++ c :: Q).length ≤ 20)
    (h : Ev (fun k => effector_DefaultEffector_MergeEffects.f k 0 e ((P ++ c :: Q).map Prod.fst) ((seen P c Q).map bn) (P.length : Int) ((P ++ c :: Q).length : Int)) (a, b, none))
    (hr : (a = 1 ∧ Ev (fun k => laws_merged.l0 k e ((P ++ c :: Q).map Prod.fst) ((P ++ c :: Q).map Prod.snd) ((P.length : Int) + 1)) r) ∨ (¬ a = 1 ∧ r = (a, b, true))) :
    Ev (fun k => laws_merged.l0 k e ((P ++ c :: Q).map Prod.fst) ((P ++ c :: Q).map Prod.snd) (P.length : Int)) r := by
  have hs : (seen P c Q).length = (P ++ c :: Q).length := by simp [seen]
  have hm := Merge_f e _ (seen P c Q) _ _ a b (by simpa using h20) (by rw [hs]; exact h20) h
  have hn : (P ++ c :: Q).length = P.length + (Q.length + 1) := by simp
  refine Ev.step (fun _ => laws_merged.l0.eq_2 _ _ _ _ _) ?_
  rw [List.length_map, List.length_map, w64 (by omega) (by omega)]
  refine Ev.pos (by omega) (Ev.pos (by omega) (Ev.pos (by omega) (Ev.bind (Ev.now _) (Ev.pos (by omega) (Ev.pos (by omega) (Ev.pos (by simp; omega) (Ev.bind (Ev.now _) (Ev.pos (by simp; omega) ?_))))))))
  have e1 : ((P.length : Int) + 1).toNat = P.length + 1 := by omega
  have e2 : (((P ++ c :: Q).length : Nat) : Int).toNat = (P ++ c :: Q).length := by omega
  rw [e1, e2, cpy_seen, List.nil_append]
  refine Ev.bind hm (Ev.pos rfl ?_)
  rcases hr with ⟨ha, hr⟩ | ⟨ha, rfl⟩
  · exact Ev.pos ha hr
  · exact Ev.neg ha (Ev.now _)
theorem rounds_end (e : ByteArray) (P : List Rule) : Ev (fun k => laws_merged.l0 k e (P.map Prod.fst) (P.map Prod.snd) (P.length : Int)) (1, -1, true) :=
  Ev.step (fun _ => laws_merged.l0.eq_2 _ _ _ _ _) (Ev.neg (by simp) (Ev.now _))
/-- what is known of a decision: it allows where the rules say so, and where a rule is told, it matches and has that effect -/
def Told (v : Prop) (z : List Rule) (a b : Int) : Prop := (a = 0 ↔ v) ∧ (b = -1 ∨ ∃ p c q, z = p ++ c :: q ∧ b = (p.length : Int) ∧ hit a c)
/-- the rules that come behind in the next round -/
theorem next {e : ByteArray} {P Q : List Rule} {c : Rule} {r : Int × Int × Bool} (h : Ev (fun k => laws_merged.l0 k e (((P ++ [c]) ++ Q).map Prod.fst) (((P ++ [c]) ++ Q).map Prod.snd) ((P ++ [c]).length : Int)) r) :
    Ev (fun k => laws_merged.l0 k e ((P ++ c :: Q).map Prod.fst) ((P ++ c :: Q).map Prod.snd) ((P.length : Int) + 1)) r := by
  simpa using h
theorem seen_bn (P Q : List Rule) (c : Rule) : (seen P c Q).map bn = (P.map fun c => bn c.2) ++ bn c.2 :: (List.replicate Q.length false).map bn := by
  simp [seen]
theorem mid_fst (P Q : List Rule) (c : Rule) : (P ++ c :: Q).map Prod.fst = P.map Prod.fst ++ c.1 :: Q.map Prod.fst := by simp
def v1 (z : List Rule) : Prop := ∃ c ∈ z, hit 0 c
def v2 (z : List Rule) : Prop := ¬ ∃ c ∈ z, hit 2 c
def v3 (z : List Rule) : Prop := v2 z ∧ v1 z
def v4 (z : List Rule) : Prop := lead z = 0
theorem merged1 (Q : List Rule) : ∀ P : List Rule, P.length + Q.length ≤ 20 → (∀ c ∈ P, ¬ hit 0 c) → ∃ a b, Ev (fun k => laws_merged.l0 k (B e1) ((P ++ Q).map Prod.fst) ((P ++ Q).map Prod.snd) (P.length : Int)) (a, b, true) ∧ Told (v1 (P ++ Q)) (P ++ Q) a b := by
  induction Q with
  | nil =>
    intro P _ hP
    refine ⟨1, -1, by simpa using rounds_end (B e1) P, ⟨by omega, ?_⟩, .inl rfl⟩
    rintro ⟨c, hc, hh⟩
    exact absurd hh (hP c (by simpa using hc))
  | cons c Q ih =>
    intro P h20 hP
    simp only [List.length_cons] at h20
    have hme := ME1 (P.map Prod.fst) (P.map fun c => bn c.2) (Q.map Prod.fst) ((List.replicate Q.length false).map bn) c.1 (bn c.2) ((P ++ c :: Q).length : Int) (by simp)
    rw [← seen_bn, ← mid_fst, List.length_map] at hme
    by_cases hh : hit 0 c
    · rw [if_neg (by rw [bn_zero, hh.1]; simp), if_pos hh.2] at hme
      refine ⟨0, (P.length : Int), round (B e1) P Q c 0 _ _ (by simp <;> omega) hme (.inr ⟨by omega, rfl⟩), ⟨fun _ => ⟨c, by simp, hh⟩, fun _ => rfl⟩, .inr ⟨P, c, Q, rfl, rfl, hh⟩⟩
    · have e : (if bn c.2 = 0 then ((1 : Int), (-1 : Int), (none : Option Int)) else if c.1 = 0 then (0, (P.length : Int), none) else (1, -1, none)) = (1, -1, none) := by
        by_cases z : bn c.2 = 0
        · rw [if_pos z]
        · rw [if_neg z, if_neg (fun y => hh ⟨by rw [bn_zero] at z; simpa using z, y⟩)]
      rw [e] at hme
      obtain ⟨a, b, hr, ht⟩ := ih (P ++ [c]) (by simp <;> omega) (by
        intro x hx
        rcases List.mem_append.1 hx with hx | hx
        · exact hP x hx
        · rw [List.mem_singleton.1 hx]; exact hh)
      refine ⟨a, b, round (B e1) P Q c 1 _ _ (by simp <;> omega) hme (.inl ⟨rfl, next hr⟩), by simpa using ht⟩
theorem merged2 (Q : List Rule) : ∀ P : List Rule, 0 < Q.length → P.length + Q.length ≤ 20 → (∀ c ∈ P, ¬ hit 2 c) → ∃ a b, Ev (fun k => laws_merged.l0 k (B e2) ((P ++ Q).map Prod.fst) ((P ++ Q).map Prod.snd) (P.length : Int)) (a, b, true) ∧ Told (v2 (P ++ Q)) (P ++ Q) a b := by
  induction Q with
  | nil => intro P h; simp at h
  | cons c Q ih =>
    intro P _ h20 hP
    simp only [List.length_cons] at h20
    have hme := ME2 (P.map Prod.fst) (P.map fun c => bn c.2) (Q.map Prod.fst) ((List.replicate Q.length false).map bn) c.1 (bn c.2) (by simp) ((P ++ c :: Q).length : Int) (by omega) (by simp <;> omega)
    rw [← seen_bn, ← mid_fst, List.length_map] at hme
    have hP2 : ¬ hit 2 c → ∀ x ∈ P ++ [c], ¬ hit 2 x := by
      intro hh x hx
      rcases List.mem_append.1 hx with hx | hx
      · exact hP x hx
      · rw [List.mem_singleton.1 hx]; exact hh
    by_cases hh : hit 2 c
    · rw [if_pos ⟨by rw [bn_zero, hh.1]; simp, hh.2⟩] at hme
      refine ⟨2, (P.length : Int), round (B e2) P Q c 2 _ _ (by simp <;> omega) hme (.inr ⟨by omega, rfl⟩), ⟨by omega, fun h => absurd ⟨c, by simp, hh⟩ h⟩, .inr ⟨P, c, Q, rfl, rfl, hh⟩⟩
    · rw [if_neg (fun z => hh ⟨by have := z.1; rw [bn_zero] at this; simpa using this, z.2⟩)] at hme
      cases Q with
      | nil =>
        rw [if_pos (by simp)] at hme
        refine ⟨0, -1, round (B e2) P [] c 0 _ _ (by simp <;> omega) hme (.inr ⟨by omega, rfl⟩), ⟨fun _ => ?_, fun _ => rfl⟩, .inl rfl⟩
        rintro ⟨x, hx, hy⟩
        exact hP2 hh x hx hy
      | cons d Q =>
        rw [if_neg (by simp <;> omega)] at hme
        obtain ⟨a, b, hr, ht⟩ := ih (P ++ [c]) (by simp) (by simp only [List.length_append, List.length_cons, List.length_nil] at h20 ⊢; omega) (hP2 hh)
        refine ⟨a, b, round (B e2) P (d :: Q) c 1 _ _ (by simp at h20 ⊢ <;> omega) hme (.inl ⟨rfl, next hr⟩), by simpa using ht⟩
theorem merged3 (Q : List Rule) : ∀ P : List Rule, 0 < Q.length → P.length + Q.length ≤ 20 → (∀ c ∈ P, ¬ hit 2 c) → ∃ a b, Ev (fun k => laws_merged.l0 k (B e3) ((P ++ Q).map Prod.fst) ((P ++ Q).map Prod.snd) (P.length : Int)) (a, b, true) ∧ Told (v3 (P ++ Q)) (P ++ Q) a b := by
  induction Q with
  | nil => intro P h; simp at h
  | cons c Q ih =>
    intro P _ h20 hP
    simp only [List.length_cons] at h20
    have hP2 : ¬ hit 2 c → ∀ x ∈ P ++ [c], ¬ hit 2 x := by
      intro hh x hx
      rcases List.mem_append.1 hx with hx | hx
      · exact hP x hx
      · rw [List.mem_singleton.1 hx]; exact hh
    have bad : hit 2 c → ¬ v3 (P ++ c :: Q) := fun hh h => h.1 ⟨c, by simp, hh⟩
    cases Q with
    | nil =>
      have hme := ME3_last P c (by simp only [List.length_nil] at h20; omega)
      have hs : (P ++ [c]).map (fun c => bn c.2) = (seen P c []).map bn := by simp [seen]
      rw [hs] at hme
      by_cases hh : hit 2 c
      · rw [if_pos hh] at hme
        exact ⟨2, (P.length : Int), round (B e3) P [] c 2 _ _ (by simp <;> omega) hme (.inr ⟨by omega, rfl⟩), ⟨by omega, fun h => absurd h (bad hh)⟩, .inr ⟨P, c, [], rfl, rfl, hh⟩⟩
      · rw [if_neg hh] at hme
        have good : v2 (P ++ [c]) := by rintro ⟨x, hx, hy⟩; exact hP2 hh x hx hy
        by_cases hf : fo 0 (P ++ [c]) 0 < 0
        · rw [if_pos hf] at hme
          refine ⟨1, -1, round (B e3) P [] c 1 _ _ (by simp <;> omega) hme (.inl ⟨rfl, ?_⟩), ⟨by omega, fun h => ?_⟩, .inl rfl⟩
          · have := rounds_end (B e3) (P ++ [c])
            simpa using this
          · have := (fo_any 0 (P ++ [c]) 0 (by omega)).2 h.2
            omega
        · rw [if_neg hf] at hme
          refine ⟨0, fo 0 (P ++ [c]) 0, round (B e3) P [] c 0 _ _ (by simp <;> omega) hme (.inr ⟨by omega, rfl⟩), ⟨fun _ => ⟨good, (fo_any 0 (P ++ [c]) 0 (by omega)).1 (by omega)⟩, fun _ => rfl⟩, .inr ?_⟩
          obtain ⟨p, x, q, hz, hl, hx⟩ := fo_split 0 (P ++ [c]) 0 (by omega) (by omega)
          exact ⟨p, x, q, hz, by omega, hx⟩
    | cons d Q =>
      have hme := ME3_mid (P.map Prod.fst) (P.map fun c => bn c.2) ((d :: Q).map Prod.fst) ((List.replicate (d :: Q).length false).map bn) c.1 (bn c.2) (by simp) ((P ++ c :: d :: Q).length : Int) (by simp <;> omega) (by simp at h20 ⊢ <;> omega)
      rw [← seen_bn, ← mid_fst, List.length_map] at hme
      by_cases hh : hit 2 c
      · rw [if_pos ⟨by rw [bn_zero, hh.1]; simp, hh.2⟩] at hme
        exact ⟨2, (P.length : Int), round (B e3) P (d :: Q) c 2 _ _ (by simp at h20 ⊢ <;> omega) hme (.inr ⟨by omega, rfl⟩), ⟨by omega, fun h => absurd h (bad hh)⟩, .inr ⟨P, c, d :: Q, rfl, rfl, hh⟩⟩
      · rw [if_neg (fun z => hh ⟨by have := z.1; rw [bn_zero] at this; simpa using this, z.2⟩)] at hme
        obtain ⟨a, b, hr, ht⟩ := ih (P ++ [c]) (by simp) (by simp only [List.length_append, List.length_cons, List.length_nil] at h20 ⊢; omega) (hP2 hh)
        exact ⟨a, b, round (B e3) P (d :: Q) c 1 _ _ (by simp at h20 ⊢ <;> omega) hme (.inl ⟨rfl, next hr⟩), by simpa using ht⟩
theorem merged4 (e : List UInt8) (he : e = e4 ∨ e = e5) (Q : List Rule) : ∀ P : List Rule, P.length + Q.length ≤ 20 → Good Q → (∀ c ∈ P, ¬ (c.2 = true ∧ ¬ c.1 = 1)) → ∃ a b, Ev (fun k => laws_merged.l0 k (B e) ((P ++ Q).map Prod.fst) ((P ++ Q).map Prod.snd) (P.length : Int)) (a, b, true) ∧ Told (v4 (P ++ Q)) (P ++ Q) a b := by
  induction Q with
  | nil =>
    intro P _ _ hP
    refine ⟨1, -1, by simpa using rounds_end (B e) P, ⟨by omega, fun h => ?_⟩, .inl rfl⟩
    unfold v4 at h
    rw [lead_miss P [] hP] at h
    exact absurd h (by decide)
  | cons c Q ih =>
    intro P h20 hg hP
    simp only [List.length_cons] at h20
    have hme := ME4 P Q c (by simp <;> omega) hP (P.length : Int) ((P ++ c :: Q).length : Int) e he
    have hc := hg c (List.mem_cons_self ..)
    by_cases hh : c.2 = true ∧ ¬ c.1 = 1
    · rw [if_pos hh] at hme
      have hlead : lead (P ++ c :: Q) = c.1 := by rw [lead_miss P _ hP, lead, if_pos hh]
      refine ⟨(if c.1 = 0 then 0 else 2), (P.length : Int), round (B e) P Q c _ _ _ (by simp <;> omega) hme (.inr ⟨by split <;> omega, rfl⟩), ⟨fun h => ?_, fun h => ?_⟩, .inr ⟨P, c, Q, rfl, rfl, hh.1, ?_⟩⟩
      · unfold v4; rw [hlead]; by_cases z : c.1 = 0
        · exact z
        · rw [if_neg z] at h; omega
      · unfold v4 at h; rw [hlead] at h; rw [if_pos h]
      · have := hh.2
        by_cases z : c.1 = 0
        · rw [if_pos z]; exact z
        · rw [if_neg z]; omega
    · rw [if_neg hh] at hme
      obtain ⟨a, b, hr, ht⟩ := ih (P ++ [c]) (by simp <;> omega) (fun x hx => hg x (List.mem_cons_of_mem _ hx)) (by
        intro x hx
        rcases List.mem_append.1 hx with hx | hx
        · exact hP x hx
        · rw [List.mem_singleton.1 hx]; exact hh)
      exact ⟨a, b, round (B e) P Q c 1 _ _ (by simp <;> omega) hme (.inl ⟨rfl, next hr⟩), by simpa using ht⟩
/-- what the rules say, by an expression -/
def verdict (e : List UInt8) (z : List Rule) : Prop := if e = e1 then v1 z else if e = e2 then v2 z else if e = e3 then v3 z else v4 z
def Five (e : List UInt8) : Prop := e = e1 ∨ e = e2 ∨ e = e3 ∨ e = e4 ∨ e = e5
theorem merged_f (e : List UInt8) (he : Five e) (z : List Rule) (h0 : 0 < z.length) (h20 : z.length ≤ 20) (hg : Good z) :
    ∃ a b, Ev (fun k => laws_merged.f k (B e) (z.map Prod.fst) (z.map Prod.snd)) (a, b, true) ∧ Told (verdict e z) z a b := by
  unfold laws_merged.f
  rcases he with rfl | rfl | rfl | he
  · exact merged1 z [] (by simpa using h20) (by simp)
  · exact merged2 z [] h0 (by simpa using h20) (by simp)
  · exact merged3 z [] h0 (by simpa using h20) (by simp)
  · have hv : verdict e z = v4 z := by
      unfold verdict
      rw [if_neg (by rcases he with rfl | rfl <;> decide), if_neg (by rcases he with rfl | rfl <;> decide), if_neg (by rcases he with rfl | rfl <;> decide)]
    rw [hv]
    exact merged4 e he z [] (by simpa using h20) hg (by simp)
/-! Which expression, and which rules. -/
theorem expression_f (n : Int) : ∃ e, Five e ∧ laws_expression.f n = some (B e) := by
  unfold laws_expression.f
  have hl : ∀ l : List ByteArray, spec_Expressions.f = some l → l = [B e1, B e2, B e3, B e4, B e5] := by
    intro l h
    exact (Option.some.inj h).symm
  have hs : spec_Expressions.f = some [B e1, B e2, B e3, B e4, B e5] := rfl
  rw [hs, Option.bind_some]
  have e : IntKind.u64.wrap (([B e1, B e2, B e3, B e4, B e5].length : Nat) : Int) = 5 := rfl
  rw [e, if_neg (by omega)]
  obtain ⟨m, hm⟩ : ∃ m, m = Int.tmod (IntKind.u64.wrap n) 5 := ⟨_, rfl⟩
  have h0 : 0 ≤ IntKind.u64.wrap n := by
    show 0 ≤ n % 18446744073709551616
    omega
  have m0 : 0 ≤ m := by rw [hm]; exact Int.tmod_nonneg _ h0
  have m5 : m < 5 := by rw [hm]; exact Int.tmod_lt_of_pos _ (by omega)
  rw [← hm, w64 (by omega) (by omega), if_pos m0, if_pos (by show m < 5; omega)]
  have : m = 0 ∨ m = 1 ∨ m = 2 ∨ m = 3 ∨ m = 4 := by omega
  rcases this with rfl | rfl | rfl | rfl | rfl
  · exact ⟨e1, .inl rfl, rfl⟩
  · exact ⟨e2, .inr (.inl rfl), rfl⟩
  · exact ⟨e3, .inr (.inr (.inl rfl)), rfl⟩
  · exact ⟨e4, .inr (.inr (.inr (.inl rfl))), rfl⟩
  · exact ⟨e5, .inr (.inr (.inr (.inr rfl))), rfl⟩
theorem effects_loop (m : List Bool) (q : List Int) : ∀ p : List Int, p.length + q.length ≤ 20 → ∃ b, Ev (fun k => laws_effects.l0 k (p ++ q) m (p.length : Int)) b ∧ (b = true → (∀ x ∈ q, x = 0 ∨ x = 1 ∨ x = 2) ∧ 0 < (p ++ q).length ∧ m.length = (p ++ q).length) := by
  induction q with
  | nil =>
    intro p hp
    simp only [List.length_nil, Nat.add_zero] at hp
    by_cases h : (p.length : Int) ≥ 1
    · refine ⟨(m.length : Int) == (p.length : Int), Ev.step (fun _ => laws_effects.l0.eq_2 _ _ _ _) (Ev.neg (by simp) ?_), fun h2 => ⟨by simp, by simp; omega, ?_⟩⟩
      · simp only [List.append_nil]
        exact Ev.pos h (Ev.pos (by omega) (Ev.now _))
      · have := beq_iff_eq.1 h2
        simp; omega
    · refine ⟨false, Ev.step (fun _ => laws_effects.l0.eq_2 _ _ _ _) (Ev.neg (by simp) ?_), by simp⟩
      simp only [List.append_nil]
      exact Ev.neg h (Ev.now _)
  | cons c q ih =>
    intro p hp
    simp only [List.length_cons] at hp
    obtain ⟨b, hb, hx⟩ := ih (p ++ [c]) (by simp <;> omega)
    by_cases h1 : c < 0
    · refine ⟨false, Ev.step (fun _ => laws_effects.l0.eq_2 _ _ _ _) (Ev.pos (by simp <;> omega) (Ev.pos (by omega) ?_)), by simp⟩
      rw [rd_mid p q c _ rfl]
      exact Ev.pos h1 (Ev.now _)
    · by_cases h2 : c > 2
      · refine ⟨false, Ev.step (fun _ => laws_effects.l0.eq_2 _ _ _ _) (Ev.pos (by simp <;> omega) (Ev.pos (by omega) ?_)), by simp⟩
        rw [rd_mid p q c _ rfl]
        exact Ev.neg h1 (Ev.pos h2 (Ev.now _))
      · refine ⟨b, Ev.step (fun _ => laws_effects.l0.eq_2 _ _ _ _) (Ev.pos (by simp <;> omega) (Ev.pos (by omega) ?_)), fun h => ?_⟩
        · rw [rd_mid p q c _ rfl, w64 (by omega) (by omega)]
          refine Ev.neg h1 (Ev.neg h2 ?_)
          simpa using hb
        · obtain ⟨y1, y2, y3⟩ := hx h
          refine ⟨fun x hx => ?_, by simp <;> omega, by simpa using y3⟩
          rcases List.mem_cons.1 hx with rfl | hx
          · omega
          · exact y1 x hx
theorem effects_f (l : List Int) (m : List Bool) : ∃ b, Ev (fun k => laws_effects.f k l m) b ∧ (b = true → ∃ z : List Rule, l = z.map Prod.fst ∧ m = z.map Prod.snd ∧ Good z ∧ 0 < z.length ∧ z.length ≤ 20) := by
  by_cases h : (l.length : Int) > 20
  · exact ⟨false, Ev.pos h (Ev.now _), by simp⟩
  · obtain ⟨b, hb, hx⟩ := effects_loop m l [] (by simp; omega)
    refine ⟨b, Ev.neg h (by simpa using hb), fun hb => ?_⟩
    obtain ⟨y1, y2, y3⟩ := hx hb
    simp only [List.nil_append] at y2 y3
    refine ⟨l.zip m, (List.map_fst_zip (by omega)).symm, (List.map_snd_zip (by omega)).symm, ?_, by rw [List.length_zip]; omega, by rw [List.length_zip]; omega⟩
    intro c hc
    exact y1 c.1 (List.of_mem_zip hc).1

theorem verdict_idle (e : List UInt8) (P Q : List Rule) (x : Rule) (h : ¬ (x.2 = true ∧ ¬ x.1 = 1)) : verdict e (P ++ x :: Q) ↔ verdict e (P ++ Q) := by
  have n0 : ¬ hit 0 x := fun z => h ⟨z.1, by have := z.2; omega⟩
  have n2 : ¬ hit 2 x := fun z => h ⟨z.1, by have := z.2; omega⟩
  have w : ∀ t : Int, ¬ hit t x → ((∃ c ∈ P ++ x :: Q, hit t c) ↔ ∃ c ∈ P ++ Q, hit t c) := by
    intro t ht
    constructor
    · rintro ⟨c, hc, hh⟩
      rcases List.mem_append.1 hc with hc | hc
      · exact ⟨c, List.mem_append_left _ hc, hh⟩
      · rcases List.mem_cons.1 hc with rfl | hc
        · exact absurd hh ht
        · exact ⟨c, List.mem_append_right _ hc, hh⟩
    · rintro ⟨c, hc, hh⟩
      rcases List.mem_append.1 hc with hc | hc
      · exact ⟨c, List.mem_append_left _ hc, hh⟩
      · exact ⟨c, List.mem_append_right _ (List.mem_cons_of_mem _ hc), hh⟩
  have q1 : v1 (P ++ x :: Q) ↔ v1 (P ++ Q) := w 0 n0
  have q2 : v2 (P ++ x :: Q) ↔ v2 (P ++ Q) := not_congr (w 2 n2)
  have q4 : v4 (P ++ x :: Q) ↔ v4 (P ++ Q) := by unfold v4; rw [lead_idle P Q x h]
  unfold verdict
  by_cases h1 : e = e1
  · rw [if_pos h1, if_pos h1]; exact q1
  · rw [if_neg h1, if_neg h1]
    by_cases h2 : e = e2
    · rw [if_pos h2, if_pos h2]; exact q2
    · rw [if_neg h2, if_neg h2]
      by_cases h3 : e = e3
      · rw [if_pos h3, if_pos h3]; unfold v3; rw [q1, q2]
      · rw [if_neg h3, if_neg h3]; exact q4
theorem u64_nonneg (n : Int) : 0 ≤ IntKind.u64.wrap n := by
  show 0 ≤ n % 18446744073709551616
  omega
theorem u64_small (n : Int) (h0 : 0 ≤ n) (h1 : n < 18446744073709551616) : IntKind.u64.wrap n = n := by
  show n % 18446744073709551616 = n
  omega
theorem FnMergeIdle (a b : Int) (u : Bool) (l : List Int) (m : List Bool) (_ : (Lit.int .i64 a).wf = true) (_ : (Lit.int .i64 b).wf = true) (_ : l.length ≤ 9223372036854775807) (_ : ∀ v ∈ l, (Lit.int .i64 v).wf = true) (_ : m.length ≤ 9223372036854775807) (_ : ∀ v ∈ m, True) :
    ∃ k, laws_FnMergeIdle.f k a b u l m = some true := by
  refine Ev.rounds (g := fun k => laws_FnMergeIdle.f k a b u l m) ?_
  have j0_true : Ev (fun k => laws_FnMergeIdle.j0 k a b u l m true) true := Ev.step (fun _ => laws_FnMergeIdle.j0.eq_2 _ _ _ _ _ _ _) (Ev.pos rfl (Ev.now _))
  have j1_true : Ev (fun k => laws_FnMergeIdle.j1 k a b u l m true) true := Ev.step (fun _ => laws_FnMergeIdle.j1.eq_2 _ _ _ _ _ _ _) (Ev.pos rfl (Ev.bind awakeM (Ev.now _)))
  have j2 : ∀ (z : List Rule) (i x : Int), z.length ≤ 19 → 0 < z.length → Good z → 0 ≤ i → i ≤ z.length → (x = 0 ∨ x = 1 ∨ x = 2) → ¬ (u = true ∧ ¬ x = 1) → Ev (fun k => laws_FnMergeIdle.j2 k a u (z.map Prod.fst) (z.map Prod.snd) i x) true := by
    intro z i x h19 h0 hg hi0 hin hx hux
    obtain ⟨e, he, hexp⟩ := expression_f a
    have hz : z.take i.toNat ++ z.drop i.toNat = z := List.take_append_drop _ _
    obtain ⟨g, w, hm, hmv, _⟩ := merged_f e he z h0 (by omega) hg
    have hgd : Good (z.take i.toNat ++ (x, u) :: z.drop i.toNat) := by
      intro c hc
      rcases List.mem_append.1 hc with hc | hc
      · exact hg c (List.mem_of_mem_take hc)
      · rcases List.mem_cons.1 hc with rfl | hc
        · exact hx
        · exact hg c (List.mem_of_mem_drop hc)
    obtain ⟨g', w', hm', hmv', _⟩ := merged_f e he (z.take i.toNat ++ (x, u) :: z.drop i.toNat) (by simp <;> omega) (by simp <;> omega) hgd
    have hv := verdict_idle e (z.take i.toNat) (z.drop i.toNat) (x, u) hux
    rw [hz] at hv
    refine Ev.step (fun _ => laws_FnMergeIdle.j2.eq_2 _ _ _ _ _ _ _) ?_
    refine Ev.bind (Ev.now _) (Ev.pos hi0 (Ev.pos (by rw [List.length_map]; exact hin) (Ev.pos (by simp; omega) (Ev.bind (Ev.now _) (Ev.bind (Ev.now _) (Ev.pos (by simp; omega) (Ev.bind (Ev.now _) (Ev.pos (by simp; omega) ?_))))))))
    refine Ev.bind (Ev.now _) (Ev.pos (by rw [List.length_map]; exact hin) (Ev.pos (by simp; omega) (Ev.bind (Ev.now _) (Ev.bind (Ev.now _) (Ev.pos (by simp; omega) (Ev.bind (Ev.now _) (Ev.pos (by simp; omega) ?_)))))))
    have s1 : [] ++ (z.map Prod.fst).take i.toNat ++ [x] ++ (z.map Prod.fst).drop i.toNat = (z.take i.toNat ++ (x, u) :: z.drop i.toNat).map Prod.fst := by simp [List.map_take, List.map_drop]
    have s2 : [] ++ (z.map Prod.snd).take i.toNat ++ [u] ++ (z.map Prod.snd).drop i.toNat = (z.take i.toNat ++ (x, u) :: z.drop i.toNat).map Prod.snd := by simp [List.map_take, List.map_drop]
    rw [s1, s2]
    refine Ev.bind (Ev.const hexp) (Ev.bind hm (Ev.bind (Ev.const hexp) (Ev.bind hm' (Ev.pos rfl (Ev.pos rfl (Ev.pos ?_ (Ev.bind awakeM (Ev.now _))))))))
    show ((g == 0) == (g' == 0)) = true
    rw [beq_iff_eq, Bool.eq_iff_iff, beq_iff_eq, beq_iff_eq, hmv, hmv', hv]
  have j1_false : ∀ z : List Rule, l = z.map Prod.fst → m = z.map Prod.snd → Good z → 0 < z.length → z.length ≤ 19 → Ev (fun k => laws_FnMergeIdle.j1 k a b u l m false) true := by
    rintro z rfl rfl hg h0 h19
    refine Ev.step (fun _ => laws_FnMergeIdle.j1.eq_2 _ _ _ _ _ _ _) (Ev.neg (by simp) ?_)
    rw [List.length_map, w64 (by omega) (by omega), u64_small _ (by omega) (by omega)]
    obtain ⟨i, hi⟩ : ∃ i, i = Int.tmod (IntKind.u64.wrap b) ((z.length : Int) + 1) := ⟨_, rfl⟩
    have i0 : 0 ≤ i := by rw [hi]; exact Int.tmod_nonneg _ (u64_nonneg b)
    have i1 : i < (z.length : Int) + 1 := by rw [hi]; exact Int.tmod_lt_of_pos _ (by omega)
    refine Ev.neg (by omega) ?_
    rw [← hi, w64 (x := i) (by omega) (by omega)]
    by_cases hu : u = true
    · exact Ev.pos hu (j2 z i 1 h19 h0 hg i0 (by omega) (by omega) (by omega))
    · refine Ev.neg hu ?_
      obtain ⟨x, hx⟩ : ∃ x, x = Int.tmod (IntKind.u64.wrap (wrap64 (Int.tdiv b 7))) 3 := ⟨_, rfl⟩
      have x0 : 0 ≤ x := by rw [hx]; exact Int.tmod_nonneg _ (u64_nonneg _)
      have x1 : x < 3 := by rw [hx]; exact Int.tmod_lt_of_pos _ (by omega)
      rw [← hx, w64 (x := x) (by omega) (by omega)]
      exact j2 z i x h19 h0 hg i0 (by omega) (by omega) (fun y => hu y.1)
  have j0_false : Ev (fun k => laws_FnMergeIdle.j0 k a b u l m false) true := by
    refine Ev.step (fun _ => laws_FnMergeIdle.j0.eq_2 _ _ _ _ _ _ _) (Ev.neg (by simp) ?_)
    obtain ⟨t, ht, hx⟩ := effects_f l m
    refine Ev.bind ht ?_
    cases t
    · exact Ev.neg (by simp) j1_true
    · refine Ev.pos rfl ?_
      obtain ⟨z, hl, hm, hg, h0, h20⟩ := hx rfl
      by_cases h : (l.length : Int) > 19
      · rw [decide_eq_true h]; exact j1_true
      · rw [decide_eq_false h]; exact j1_false z hl hm hg h0 (by rw [hl, List.length_map] at h; omega)
  by_cases h1 : (l.length : Int) > 2147483647
  · exact Ev.pos h1 j0_true
  · refine Ev.neg h1 ?_
    by_cases h2 : (m.length : Int) > 2147483647
    · rw [decide_eq_true h2]; exact j0_true
    · rw [decide_eq_false h2]; exact j0_false

end Go.Proofs.Ytdhmlcnlklcofaa.Pure
