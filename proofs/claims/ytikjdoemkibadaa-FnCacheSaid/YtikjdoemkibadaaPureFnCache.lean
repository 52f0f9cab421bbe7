/- For all rooms and scripts: laws.FnCache answers true (the plain statement behind its walk); lengths are those that an int can hold. -/
import Derived.Test.YtikjdoemkibadaaOFnCachex6
import Derived.Test.YtikjdoemkibadaaBase
import Derived.Test.YtikjdoemkibadaaOpens
set_option linter.unusedSimpArgs false
set_option linter.unusedVariables false
namespace Go.Proofs.Ytikjdoemkibadaa.Pure
open Go.RowKit Go.Proofs.Ytikjdoemkibadaa.PFnCache Go.Proofs.YtikjdoemkibadaaW.PrintWords Go.Proofs.YtikjdoemkibadaaW.PrintLast Go.Proofs.Ytikjdoemkibadaa.Base

/-- what a script last put under a key -/
def lastP (pre : List S30) (k : Int) (s : Int × Bool) : Int × Bool := pre.foldl (fun s x => if x.f0 = 0 ∧ x.f1 = k then (x.f2, true) else s) s
/-- no two puts of one key with different values -/
def Steady (l : List S30) : Prop := ∀ x ∈ l, ∀ y ∈ l, x.f0 = 0 → y.f0 = 0 → x.f1 = y.f1 → x.f2 = y.f2
theorem lastP_from : ∀ (pre : List S30) (k : Int) (s : Int × Bool), lastP pre k s = s ∨ ∃ x ∈ pre, x.f0 = 0 ∧ x.f1 = k ∧ lastP pre k s = (x.f2, true)
  | [], _, _ => .inl rfl
  | y :: pre, k, s => by
    have ih := lastP_from pre k (if y.f0 = 0 ∧ y.f1 = k then (y.f2, true) else s)
    rcases ih with e | ⟨x, hx, h0, h1, e⟩
    · by_cases g : y.f0 = 0 ∧ y.f1 = k
      · refine .inr ⟨y, List.mem_cons_self .., g.1, g.2, ?_⟩
        show lastP pre k _ = _
        rw [e, if_pos g]
      · left
        show lastP pre k _ = _
        rw [e, if_neg g]
    · exact .inr ⟨x, List.mem_cons_of_mem _ hx, h0, h1, e⟩
theorem lastP_snoc (pre : List S30) (x : S30) (k : Int) (s : Int × Bool) : lastP (pre ++ [x]) k s = if x.f0 = 0 ∧ x.f1 = k then (x.f2, true) else lastP pre k s := by
  simp [lastP, List.foldl_append]
/-- the two states of a script: of less and of more room -/
structure Two (a b : Int) (A B : List (Int × Int)) (pre : List S30) : Prop where
  sub : A.Sublist B
  full : (A.length : Int) = a ∨ A = B
  small : (A.length : Int) ≤ a
  nodup : (B.map (·.1)).Nodup
  vals : ∀ p ∈ B, lastP pre p.1 (0, false) = (p.2, true)
theorem hasL_iff {k : Int} {l : List (Int × Int)} : hasL k l = true ↔ ∃ p ∈ l, p.1 = k := by
  unfold hasL
  rw [List.any_eq_true]
  exact ⟨fun ⟨p, hp, h⟩ => ⟨p, hp, of_decide_eq_true h⟩, fun ⟨p, hp, h⟩ => ⟨p, hp, decide_eq_true h⟩⟩
theorem split_key {k : Int} {l : List (Int × Int)} (h : hasL k l = true) : ∃ A x B, l = A ++ x :: B ∧ x.1 = k := by
  obtain ⟨p, hp, hk⟩ := hasL_iff.1 h
  obtain ⟨A, B, rfl⟩ := List.append_of_mem hp
  exact ⟨A, p, B, rfl, hk⟩
theorem mvL_mem {k : Int} {l : List (Int × Int)} {p : Int × Int} : p ∈ mvL k l ↔ p ∈ l := by
  unfold mvL
  simp only [List.mem_append, List.mem_filter]
  by_cases h : p.1 = k <;> simp [h]
theorem mvL_perm (k : Int) (l : List (Int × Int)) : (mvL k l).Perm l := by
  unfold mvL
  exact List.filter_append_perm _ l
theorem mvL_length (k : Int) (l : List (Int × Int)) : (mvL k l).length = l.length := (mvL_perm k l).length_eq
theorem mvL_sub {k : Int} {A B : List (Int × Int)} (h : A.Sublist B) : (mvL k A).Sublist (mvL k B) := by
  unfold mvL
  exact List.Sublist.append (h.filter _) (h.filter _)
theorem mvL_nodup {k : Int} {l : List (Int × Int)} (h : (l.map (·.1)).Nodup) : ((mvL k l).map (·.1)).Nodup := ((mvL_perm k l).map _).nodup_iff.2 h
theorem sub_dropLast {A B : List (Int × Int)} (h : A.Sublist B) : A.dropLast.Sublist B.dropLast := by
  have h2 := (List.reverse_sublist.2 h)
  have h3 : A.reverse.tail.Sublist B.reverse.tail := by
    cases hb : B.reverse with
    | nil => rw [hb] at h2; rw [List.sublist_nil.1 h2]; exact List.Sublist.refl _
    | cons y Y =>
      cases ha : A.reverse with
      | nil => exact List.nil_sublist _
      | cons x X =>
        rw [ha, hb] at h2
        cases h2 with
        | cons _ h2 => exact (List.sublist_cons_self x X).trans h2
        | cons_cons _ h2 => exact h2
  have h4 := List.reverse_sublist.2 h3
  rwa [List.tail_reverse, List.tail_reverse, List.reverse_reverse, List.reverse_reverse] at h4
theorem sub_without {k : Int} {A B : List (Int × Int)} (h : A.Sublist B) (hk : hasL k A = false) : A.Sublist (B.filter fun p => !decide (p.1 = k)) := by
  have := h.filter fun p => !decide (p.1 = k)
  rwa [List.filter_eq_self.2 (fun p hp => by simpa using hasL_false hk p hp)] at this
theorem mvL_tail_sub {k : Int} {A B : List (Int × Int)} (h : A.Sublist B) (hk : hasL k A = false) : A.Sublist (mvL k B) := by
  unfold mvL
  exact (sub_without h hk).trans (List.sublist_append_right _ _)
theorem hasL_mono {k : Int} {A B : List (Int × Int)} (h : A.Sublist B) (hk : hasL k A = true) : hasL k B = true := by
  obtain ⟨p, hp, e⟩ := hasL_iff.1 hk
  exact hasL_iff.2 ⟨p, h.subset hp, e⟩
theorem Two.get {a b : Int} {A B : List (Int × Int)} {pre : List S30} (h : Two a b A B pre) (x : S30) (hx : ¬ x.f0 = 0) :
    Two a b (if hasL x.f1 A = true then mvL x.f1 A else A) (if hasL x.f1 B = true then mvL x.f1 B else B) (pre ++ [x]) := by
  have hv : ∀ B' : List (Int × Int), (∀ p, p ∈ B' → p ∈ B) → ∀ p ∈ B', lastP (pre ++ [x]) p.1 (0, false) = (p.2, true) := by
    intro B' hs p hp
    rw [lastP_snoc, if_neg (fun z => hx z.1)]
    exact h.vals p (hs p hp)
  cases hB : hasL x.f1 B with
  | false =>
    have hA : hasL x.f1 A = false := by
      cases g : hasL x.f1 A with
      | false => rfl
      | true => rw [hasL_mono h.sub g] at hB; cases hB
    rw [hA]
    simp only [Bool.false_eq_true, if_false]
    exact ⟨h.sub, h.full, h.small, h.nodup, hv B (fun _ z => z)⟩
  | true =>
    simp only [if_true]
    cases hA : hasL x.f1 A with
    | true =>
      simp only [if_true]
      refine ⟨mvL_sub h.sub, ?_, by rw [mvL_length]; exact h.small, mvL_nodup h.nodup, hv _ (fun p hp => mvL_mem.1 hp)⟩
      rcases h.full with e | e
      · left; rw [mvL_length]; exact e
      · right; rw [e]
    | false =>
      simp only [Bool.false_eq_true, if_false]
      refine ⟨mvL_tail_sub h.sub hA, ?_, h.small, mvL_nodup h.nodup, hv _ (fun p hp => mvL_mem.1 hp)⟩
      rcases h.full with e | e
      · exact .inl e
      · rw [e, hB] at hA; cases hA
theorem Two.put {a b : Int} {A B : List (Int × Int)} {pre : List S30} (h : Two a b A B pre) (ha : 1 ≤ a) (hab : a ≤ b) (x : S30) (hx : x.f0 = 0) (hst : Steady (pre ++ [x])) :
    Two a b (putL a A x.f1 x.f2) (putL b B x.f1 x.f2) (pre ++ [x]) := by
  have hvx : ∀ p ∈ B, p.1 = x.f1 → p.2 = x.f2 := by
    intro p hp e
    have hv := h.vals p hp
    rcases lastP_from pre p.1 (0, false) with z | ⟨y, hy, h0, h1, z⟩
    · rw [z] at hv; exact absurd (congrArg Prod.snd hv) (by simp)
    · rw [z] at hv
      have e2 : y.f2 = p.2 := congrArg Prod.fst hv
      rw [← e2]
      exact hst y (List.mem_append_left _ hy) x (by simp) h0 hx (h1.trans e)
  have hv : ∀ p : Int × Int, (p = (x.f1, x.f2) ∨ p ∈ B) → lastP (pre ++ [x]) p.1 (0, false) = (p.2, true) := by
    intro p hp
    rw [lastP_snoc]
    by_cases g : x.f1 = p.1
    · rw [if_pos ⟨hx, g⟩]
      rcases hp with rfl | hp
      · rfl
      · rw [hvx p hp g.symm]
    · rw [if_neg (fun z => g z.2)]
      rcases hp with rfl | hp
      · exact absurd rfl g
      · exact h.vals p hp
  have drop_sub : ∀ (c : Int) (L : List (Int × Int)), (if c ≤ (L.length : Int) then L.dropLast else L).Sublist L := by
    intro c L
    split
    · exact List.dropLast_sublist L
    · exact List.Sublist.refl L
  cases hB : hasL x.f1 B with
  | true =>
    have eB : putL b B x.f1 x.f2 = mvL x.f1 B := by unfold putL; rw [if_pos hB]
    rw [eB]
    have hvB : ∀ p ∈ mvL x.f1 B, lastP (pre ++ [x]) p.1 (0, false) = (p.2, true) := fun p hp => hv p (.inr (mvL_mem.1 hp))
    cases hA : hasL x.f1 A with
    | true =>
      have eA : putL a A x.f1 x.f2 = mvL x.f1 A := by unfold putL; rw [if_pos hA]
      rw [eA]
      refine ⟨mvL_sub h.sub, ?_, by rw [mvL_length]; exact h.small, mvL_nodup h.nodup, hvB⟩
      rcases h.full with e | e
      · left; rw [mvL_length]; exact e
      · right; rw [e]
    | false =>
      have hfull : (A.length : Int) = a := by
        rcases h.full with e | e
        · exact e
        · rw [e, hB] at hA; cases hA
      have eA : putL a A x.f1 x.f2 = (x.f1, x.f2) :: A.dropLast := by
        unfold putL
        rw [if_neg (by rw [hA]; simp), if_pos (by omega)]
      obtain ⟨U, y, V, hB2, hy⟩ := split_key hB
      have hn := h.nodup
      rw [hB2] at hn
      have emv : mvL x.f1 B = (x.f1, x.f2) :: (U ++ V) := by
        have hyB : y ∈ B := by rw [hB2]; simp
        have : y = (x.f1, x.f2) := Prod.ext hy (hvx y hyB hy)
        rw [← hy, hB2, mvL_split hn, this]
      have hUV : A.Sublist (U ++ V) := by
        have h1 := sub_without h.sub hA
        rw [hB2] at h1
        have h2 := (filter_key hn).2
        rw [hy] at h2
        rwa [h2] at h1
      rw [eA]
      refine ⟨?_, .inl ?_, ?_, mvL_nodup h.nodup, hvB⟩
      · rw [emv]
        exact ((List.dropLast_sublist A).trans hUV).cons_cons _
      · rw [List.length_cons, List.length_dropLast]; omega
      · rw [List.length_cons, List.length_dropLast]; omega
  | false =>
    have hA : hasL x.f1 A = false := by
      cases g : hasL x.f1 A with
      | false => rfl
      | true => rw [hasL_mono h.sub g] at hB; cases hB
    have eA : putL a A x.f1 x.f2 = (x.f1, x.f2) :: (if a ≤ (A.length : Int) then A.dropLast else A) := by unfold putL; rw [if_neg (by rw [hA]; simp)]
    have eB : putL b B x.f1 x.f2 = (x.f1, x.f2) :: (if b ≤ (B.length : Int) then B.dropLast else B) := by unfold putL; rw [if_neg (by rw [hB]; simp)]
    rw [eA, eB]
    have hlen := h.sub.length_le
    refine ⟨?_, ?_, ?_, ?_, ?_⟩
    · apply List.Sublist.cons_cons
      by_cases gb : b ≤ (B.length : Int)
      · rw [if_pos gb]
        by_cases ga : a ≤ (A.length : Int)
        · rw [if_pos ga]; exact sub_dropLast h.sub
        · rcases h.full with e | e
          · omega
          · rw [e] at ga; omega
      · rw [if_neg gb]
        exact (drop_sub a A).trans h.sub
    · by_cases ga : a ≤ (A.length : Int)
      · left
        rw [if_pos ga, List.length_cons, List.length_dropLast]
        have := h.small
        omega
      · right
        rcases h.full with e | e
        · omega
        · rw [e] at ga ⊢
          rw [if_neg ga, if_neg (by omega)]
    · by_cases ga : a ≤ (A.length : Int)
      · rw [if_pos ga, List.length_cons, List.length_dropLast]
        have := h.small
        omega
      · rw [if_neg ga, List.length_cons]; omega
    · rw [List.map_cons, List.nodup_cons]
      refine ⟨fun hm => ?_, (h.nodup.sublist ((drop_sub b B).map _))⟩
      obtain ⟨p, hp, e⟩ := List.mem_map.1 hm
      exact hasL_false hB p ((drop_sub b B).subset hp) e
    · intro p hp
      rcases List.mem_cons.1 hp with rfl | hp
      · exact hv _ (.inl rfl)
      · exact hv p (.inr ((drop_sub b B).subset hp))

/-! laws.puts: short scripts that put one value alone under each key -/
def G (l : List S30) (i : Nat) : S30 := rd_T30 l (i : Int)
theorem G_eq {l : List S30} {i : Nat} (h : i < l.length) : G l i = l[i] := by
  unfold G rd_T30
  simp [List.getD_eq_getElem?_getD, List.getElem?_eq_getElem h]
theorem rd_T30_mid (p q : List S30) (x : S30) (i : Int) (h : i = (p.length : Int)) : rd_T30 (p ++ x :: q) i = x := getD_mid z30 p q x i h
def Fine (l : List S30) (j i : Nat) : Prop := (G l j).f0 = 0 → (G l i).f0 = 0 → (G l j).f1 = (G l i).f1 → (G l j).f2 = (G l i).f2
theorem puts_l1 (l : List S30) (i : Nat) (hi : i < l.length) (hl : l.length ≤ 60) (b : Bool) (hb : Ev (fun k => laws_puts.l0 k l ((i + 1 : Nat) : Int)) b) : ∀ n j, j + n = i →
    ∃ b', Ev (fun k => laws_puts.l1 k l (i : Int) (j : Int)) b' ∧ (b' = true → b = true ∧ ∀ m, j ≤ m → m < i → Fine l m i)
  | 0, j, h => by
    refine ⟨b, Ev.step (fun _ => laws_puts.l1.eq_2 _ _ _ _) (Ev.neg (by omega) ?_), fun hb' => ⟨hb', fun m h1 h2 => by omega⟩⟩
    rw [w64 (by omega) (by omega), show (i : Int) + 1 = ((i + 1 : Nat) : Int) from by omega]
    exact hb
  | n + 1, j, h => by
    obtain ⟨b', h1, h2⟩ := puts_l1 l i hi hl b hb n (j + 1) (by omega)
    have e : wrap64 ((j : Int) + 1) = ((j + 1 : Nat) : Int) := by rw [w64 (by omega) (by omega)]; omega
    have go : ∀ b', (b' = true → Fine l j i) → Ev (fun k => laws_puts.l1 k l (i : Int) (j : Int)) b' → (b' = true → b = true ∧ ∀ m, j + 1 ≤ m → m < i → Fine l m i) → ∃ b', Ev (fun k => laws_puts.l1 k l (i : Int) (j : Int)) b' ∧ (b' = true → b = true ∧ ∀ m, j ≤ m → m < i → Fine l m i) := by
      intro b' hf hE h2
      refine ⟨b', hE, fun ht => ⟨(h2 ht).1, fun m m1 m2 => ?_⟩⟩
      by_cases g : m = j
      · subst g; exact hf ht
      · exact (h2 ht).2 m (by omega) m2
    by_cases c1 : (G l j).f0 = 0
    · by_cases c2 : (G l i).f0 = 0
      · by_cases c3 : (G l j).f1 = (G l i).f1
        · by_cases c4 : (G l j).f2 = (G l i).f2
          · refine go b' (fun _ _ _ _ => c4) (Ev.step (fun _ => laws_puts.l1.eq_2 _ _ _ _) (Ev.pos (by omega) (Ev.pos (by omega) (Ev.pos (by omega) (Ev.pos c1 (Ev.pos (by omega) (Ev.pos (by omega) (Ev.pos c2 (Ev.pos c3 (Ev.pos c4 ?_)))))))))) h2
            rw [e]; exact h1
          · exact go false (fun z => by cases z) (Ev.step (fun _ => laws_puts.l1.eq_2 _ _ _ _) (Ev.pos (by omega) (Ev.pos (by omega) (Ev.pos (by omega) (Ev.pos c1 (Ev.pos (by omega) (Ev.pos (by omega) (Ev.pos c2 (Ev.pos c3 (Ev.neg c4 (Ev.now _))))))))))) (fun z => by cases z)
        · refine go b' (fun _ _ _ z => absurd z c3) (Ev.step (fun _ => laws_puts.l1.eq_2 _ _ _ _) (Ev.pos (by omega) (Ev.pos (by omega) (Ev.pos (by omega) (Ev.pos c1 (Ev.pos (by omega) (Ev.pos (by omega) (Ev.pos c2 (Ev.neg c3 ?_))))))))) h2
          rw [e]; exact h1
      · refine go b' (fun _ _ z => absurd z c2) (Ev.step (fun _ => laws_puts.l1.eq_2 _ _ _ _) (Ev.pos (by omega) (Ev.pos (by omega) (Ev.pos (by omega) (Ev.pos c1 (Ev.pos (by omega) (Ev.pos (by omega) (Ev.neg c2 ?_)))))))) h2
        rw [e]; exact h1
    · refine go b' (fun _ z => absurd z c1) (Ev.step (fun _ => laws_puts.l1.eq_2 _ _ _ _) (Ev.pos (by omega) (Ev.pos (by omega) (Ev.pos (by omega) (Ev.neg c1 ?_))))) h2
      rw [e]; exact h1
def Bit (l : List S30) (i : Nat) : Prop := (G l i).f0 = 0 ∨ (G l i).f0 = 1
theorem puts_l0 (l : List S30) (hl : l.length ≤ 60) : ∀ n i, i + n = l.length →
    ∃ b, Ev (fun k => laws_puts.l0 k l (i : Int)) b ∧ (b = true → ∀ m, i ≤ m → m < l.length → Bit l m ∧ ∀ j, j < m → Fine l j m)
  | 0, i, h => by
    refine ⟨true, Ev.step (fun _ => laws_puts.l0.eq_2 _ _ _) (Ev.neg (by omega) ?_), fun _ m h1 h2 => by omega⟩
    rw [show decide ((l.length : Int) ≤ 60) = true from by simp; omega]
    exact Ev.now _
  | n + 1, i, h => by
    obtain ⟨b, h1, h2⟩ := puts_l0 l hl n (i + 1) (by omega)
    obtain ⟨b', h3, h4⟩ := puts_l1 l i (by omega) hl b h1 i 0 (by omega)
    have join : Bit l i → b' = true → ∀ m, i ≤ m → m < l.length → Bit l m ∧ ∀ j, j < m → Fine l j m := by
      intro hbit ht m m1 m2
      by_cases g : m = i
      · subst g; exact ⟨hbit, fun j hj => (h4 ht).2 j (Nat.zero_le _) hj⟩
      · exact h2 (h4 ht).1 m (by omega) m2
    by_cases c1 : (G l i).f0 = 0
    · exact ⟨b', Ev.step (fun _ => laws_puts.l0.eq_2 _ _ _) (Ev.pos (by omega) (Ev.pos (by omega) (Ev.pos c1 (Ev.step (fun _ => laws_puts.j1.eq_2 _ _ _ _) (Ev.neg (by simp) h3))))), join (.inl c1)⟩
    · by_cases c2 : (G l i).f0 = 1
      · have e : ((rd_T30 l (i : Int)).f0 != 1) = false := bne_eq_false_iff_eq.2 c2
        refine ⟨b', Ev.step (fun _ => laws_puts.l0.eq_2 _ _ _) (Ev.pos (by omega) (Ev.pos (by omega) (Ev.neg c1 ?_))), join (.inr c2)⟩
        rw [e]
        exact Ev.step (fun _ => laws_puts.j1.eq_2 _ _ _ _) (Ev.neg (by simp) h3)
      · have e : ((rd_T30 l (i : Int)).f0 != 1) = true := bne_iff_ne.2 c2
        refine ⟨false, Ev.step (fun _ => laws_puts.l0.eq_2 _ _ _) (Ev.pos (by omega) (Ev.pos (by omega) (Ev.neg c1 ?_))), fun z => by cases z⟩
        rw [e]
        exact Ev.step (fun _ => laws_puts.j1.eq_2 _ _ _ _) (Ev.pos rfl (Ev.now _))
/-- what puts says of a script -/
theorem puts_f (l : List S30) : ∃ b, Ev (fun k => laws_puts.f k l) b ∧ (b = true → l.length ≤ 60 ∧ Steady l ∧ ∀ x ∈ l, x.f0 = 0 ∨ x.f0 = 1) := by
  by_cases g : l.length ≤ 60
  · obtain ⟨b, h1, h2⟩ := puts_l0 l g l.length 0 (by omega)
    refine ⟨b, Ev.neg (by omega) h1, fun hb => ⟨g, ?_, ?_⟩⟩
    · intro x hx y hy x0 y0 hk
      obtain ⟨i, hi, rfl⟩ := List.mem_iff_getElem.1 hx
      obtain ⟨j, hj, rfl⟩ := List.mem_iff_getElem.1 hy
      rw [← G_eq hi] at x0 hk ⊢
      rw [← G_eq hj] at y0 hk ⊢
      rcases Nat.lt_trichotomy i j with h | h | h
      · exact (h2 hb j (Nat.zero_le _) hj).2 i h x0 y0 hk
      · subst h; rfl
      · exact ((h2 hb i (Nat.zero_le _) hi).2 j h y0 x0 hk.symm).symm
    · intro x hx
      obtain ⟨i, hi, rfl⟩ := List.mem_iff_getElem.1 hx
      rw [← G_eq hi]
      exact (h2 hb i (Nat.zero_le _) hi).1
  · exact ⟨false, Ev.pos (by omega) (Ev.now _), fun z => by cases z⟩
theorem awakeCache : Ev (fun _ => laws_awakeCache.f) true := Ev.const (by decide +kernel)

def stepL (cap : Int) (s : List (Int × Int)) (x : S30) : List (Int × Int) := if x.f0 = 0 then putL cap s x.f1 x.f2 else if hasL x.f1 s = true then mvL x.f1 s else s
def ansL (s : List (Int × Int)) (x : S30) : S32 := if x.f0 = 0 then z32 else match gotL x.f1 s with | some v => ⟨true, v⟩ | none => ⟨false, 0⟩
def stL (cap : Int) (pre : List S30) : List (Int × Int) := pre.foldl (stepL cap) []
theorem stL_snoc (cap : Int) (pre : List S30) (x : S30) : stL cap (pre ++ [x]) = stepL cap (stL cap pre) x := by simp [stL, List.foldl_append]
theorem runL_cons (cap : Int) (s : List (Int × Int)) (x : S30) (r : List S30) : runL cap s (x :: r) = ansL s x :: runL cap (stepL cap s x) r := by
  by_cases h : x.f0 = 0
  · simp only [runL, ansL, stepL, if_pos h]
  · cases hg : gotL x.f1 s with
    | some v =>
      have hh := gotL_some_has hg
      simp only [runL, ansL, stepL, if_neg h, hg, if_pos hh]
    | none =>
      have hh : ¬ hasL x.f1 s = true := by rw [gotL_none_has hg]; simp
      simp only [runL, ansL, stepL, if_neg h, hg, if_neg hh]
theorem runL_length (cap : Int) : ∀ (l : List S30) (s : List (Int × Int)), (runL cap s l).length = l.length
  | [], _ => rfl
  | x :: r, s => by rw [runL_cons, List.length_cons, List.length_cons, runL_length cap r]
theorem runL_append (cap : Int) : ∀ (p q : List S30) (s : List (Int × Int)), runL cap s (p ++ q) = runL cap s p ++ runL cap (p.foldl (stepL cap) s) q
  | [], _, _ => rfl
  | x :: p, q, s => by rw [List.cons_append, runL_cons, runL_cons, runL_append cap p q, List.cons_append, List.foldl_cons]
/-- the answer at a place -/
theorem run_at (cap : Int) (pre : List S30) (x : S30) (r : List S30) : rd_T32 (runL cap [] (pre ++ x :: r)) (pre.length : Int) = ansL (stL cap pre) x := by
  rw [runL_append, runL_cons]
  exact getD_mid z32 _ _ _ _ (by rw [runL_length])
theorem gotL_mem {k v : Int} {s : List (Int × Int)} (h : gotL k s = some v) : (k, v) ∈ s := by
  unfold gotL at h
  rw [Option.map_eq_some_iff] at h
  obtain ⟨p, hp, rfl⟩ := h
  have h1 := List.find?_some hp
  have h2 := List.mem_of_find?_eq_some hp
  have : p.1 = k := of_decide_eq_true h1
  rw [← this]
  exact h2
theorem mem_gotL {k v : Int} {s : List (Int × Int)} (hn : (s.map (·.1)).Nodup) (h : (k, v) ∈ s) : gotL k s = some v := by
  obtain ⟨A, B, rfl⟩ := List.append_of_mem h
  exact gotL_split (x := (k, v)) hn
theorem Two.nil (a b : Int) (ha : 1 ≤ a) : Two a b [] [] [] := ⟨List.Sublist.refl _, .inr rfl, by simp; omega, List.nodup_nil, fun _ h => by cases h⟩
theorem Two.step {a b : Int} {pre : List S30} (ha : 1 ≤ a) (hab : a ≤ b) (x : S30) (hst : Steady (pre ++ [x])) (h : Two a b (stL a pre) (stL b pre) pre) : Two a b (stL a (pre ++ [x])) (stL b (pre ++ [x])) (pre ++ [x]) := by
  rw [stL_snoc, stL_snoc]
  unfold stepL
  by_cases hx : x.f0 = 0
  · rw [if_pos hx, if_pos hx]; exact h.put ha hab x hx hst
  · rw [if_neg hx, if_neg hx]; exact h.get x hx

/-- a script's step that reads as data is three numbers -/
theorem opens_T30 : Opens.Opens Try.prog k30 30 (fun _ => True) := by
  intro H enc w base spare held n cs x h
  obtain ⟨xs, m, _, rfl, hl, hlen, hf⟩ := DataW.trod_struct Try.underlying30 h
  have h0 := hf 0 _ rfl
  have h1 := hf 1 _ rfl
  have h2 := hf 2 _ rfl
  have hc : Try.prog.cellsOf 30 = 3 := by kernel_rfl
  have hc3 : Try.prog.cellsOf 3 = 1 := by kernel_rfl
  rw [hc] at hl
  match cs, hl with
  | [a, b, c], _ =>
    match xs, hlen with
    | [y0, y1, y2], _ =>
      obtain ⟨m0, e0, _⟩ := DataW.trod_int (k := .i64) Try.underlying3 h0
      obtain ⟨m1, e1, _⟩ := DataW.trod_int Try.underlying3 h1
      obtain ⟨m2, e2, _⟩ := DataW.trod_int Try.underlying3 h2
      replace e0 : ([a, b, c].drop 0).take (Try.prog.cellsOf 3) = [.int .i64 m0] := e0
      replace e1 : ([a, b, c].drop 1).take (Try.prog.cellsOf 3) = [.int .i64 m1] := e1
      replace e2 : ([a, b, c].drop 2).take (Try.prog.cellsOf 3) = [.int .i64 m2] := e2
      rw [hc3] at e0 e1 e2
      obtain rfl : a = .int .i64 m0 := by simpa using e0
      obtain rfl : b = .int .i64 m1 := by simpa using e1
      obtain rfl : c = .int .i64 m2 := by simpa using e2
      exact ⟨⟨m0, m1, m2⟩, k30_mk _ _, trivial⟩

theorem held_same {a : Int} {s : List (Int × Int)} {pre : List S30} (h : Two a a s s pre) (x : S30) (hx : x.f0 = 0) (hst : Steady (pre ++ [x])) : ∀ p ∈ s, p.1 = x.f1 → p.2 = x.f2 := by
  intro p hp e
  have hv := h.vals p hp
  rcases lastP_from pre p.1 (0, false) with z | ⟨y, hy, h0, h1, z⟩
  · rw [z] at hv; exact absurd (congrArg Prod.snd hv) (by simp)
  · rw [z] at hv
    have e2 : y.f2 = p.2 := congrArg Prod.fst hv
    rw [← e2]
    exact hst y (List.mem_append_left _ hy) x (by simp) h0 hx (h1.trans e)
theorem got_eq (k : Int) (s : List (Int × Int)) : gotS k s = gotL k s := rfl
theorem mvL_cons {k v : Int} {s : List (Int × Int)} (hn : (s.map (·.1)).Nodup) (h : gotL k s = some v) : mvL k s = (k, v) :: s.filter (fun p => !decide (p.1 = k)) := by
  obtain ⟨A, B, rfl⟩ := List.append_of_mem (gotL_mem h)
  have h1 := mvL_split hn
  have h2 := (filter_key hn).2
  simp only at h1 h2
  rw [h1, h2]
/-- the two caches step alike -/
theorem step_same {a : Int} {s : List (Int × Int)} {pre : List S30} (h : Two a a s s pre) (x : S30) (hb : x.f0 = 0 ∨ x.f0 = 1) (hst : Steady (pre ++ [x])) : stepS a s x = stepL a s x ∧ ansS s x = ansL s x := by
  unfold stepS stepL ansS ansL
  rw [got_eq]
  cases hg : gotL x.f1 s with
  | some v =>
    have hh := gotL_some_has hg
    have hm := mvL_cons h.nodup hg
    rcases hb with hx | hx
    · have e : v = x.f2 := held_same h x hx hst _ (gotL_mem hg) rfl
      subst e
      simp [putL, hh, hm, hx]
      rfl
    · simp [putL, hh, hm, hx]
  | none =>
    have hh := gotL_none_has hg
    rcases hb with hx | hx
    · simp [putL, hh, hx]
      rfl
    · simp [putL, hh, hx]
theorem run_same (l : List S30) (hst : Steady l) (hb : ∀ x ∈ l, x.f0 = 0 ∨ x.f0 = 1) (a : Int) (ha : 1 ≤ a) : ∀ (q p : List S30), p ++ q = l → Two a a (stL a p) (stL a p) p → runL a (stL a p) q = runS a (stL a p) q := by
  intro q
  induction q with
  | nil => intro p _ _; rfl
  | cons x q ih =>
    intro p hp hT
    have hst2 : Steady (p ++ [x]) := by
      intro u hu v hv
      refine hst u ?_ v ?_ <;> (rw [← hp]; simp only [List.mem_append, List.mem_cons, List.not_mem_nil, or_false] at hu hv ⊢)
      · rcases hu with h | h <;> simp [h]
      · rcases hv with h | h <;> simp [h]
    have hnext := ih (p ++ [x]) (by rw [List.append_assoc]; exact hp) (hT.step ha (Int.le_refl a) x hst2)
    obtain ⟨e1, e2⟩ := step_same hT x (hb x (by rw [← hp]; simp)) hst2
    rw [runL_cons]
    show _ = ansS (stL a p) x :: runS a (stepS a (stL a p) x) q
    rw [e1, e2, ← stL_snoc, hnext]
theorem same_l0 (r : List S32) (hl : r.length ≤ 60) : ∀ n i, i + n = r.length → Ev (fun k => laws_sameGot.l0 k r r (i : Int)) true
  | 0, i, h => Ev.step (fun _ => laws_sameGot.l0.eq_2 _ _ _ _) (Ev.neg (by omega) (Ev.now _))
  | n + 1, i, h => by
    have ih := same_l0 r hl n (i + 1) (by omega)
    refine Ev.step (fun _ => laws_sameGot.l0.eq_2 _ _ _ _) (Ev.pos (by omega) (Ev.pos (by omega) (Ev.pos (by omega) (Ev.neg (by simp) ?_))))
    rw [show wrap64 ((i : Int) + 1) = ((i + 1 : Nat) : Int) from by rw [w64 (by omega) (by omega)]; omega]
    exact ih
theorem cache_j0 (a : Int) (l : List S30) (ha : 1 ≤ a) (hl : l.length ≤ 60) (hst : Steady l) (hb : ∀ x ∈ l, x.f0 = 0 ∨ x.f0 = 1) : Ev (fun k => laws_FnCache.j0 k a l false) true := by
  have fA : impl_Cache.f a l = some (runL a [] l) := by unfold impl_Cache.f; rw [if_pos ⟨ha, by omega⟩]
  have hbit : bitS l = true := by
    unfold bitS
    rw [List.all_eq_true]
    exact fun x hx => decide_eq_true (hb x hx)
  have fB : spec_Cache.f a l = some (runL a [] l) := by
    unfold spec_Cache.f
    rw [if_pos ⟨ha, by omega, hbit⟩]
    exact congrArg some (run_same l hst hb a ha l [] rfl (Two.nil a a ha)).symm
  have hr : (runL a [] l).length ≤ 60 := by rw [runL_length]; exact hl
  refine Ev.step (fun _ => laws_FnCache.j0.eq_2 _ _ _ _) (Ev.neg (by simp) (Ev.bind (Ev.const fA) (Ev.bind (Ev.const fB) (Ev.bind (a := true) ?_ (Ev.pos rfl (Ev.bind awakeCache (Ev.now _)))))))
  exact Ev.pos rfl (same_l0 _ hr _ 0 (Nat.zero_add _))
theorem cache_jt (a : Int) (l : List S30) : Ev (fun k => laws_FnCache.j0 k a l true) true :=
  Ev.step (fun _ => laws_FnCache.j0.eq_2 _ _ _ _) (Ev.pos rfl (Ev.bind awakeCache (Ev.now _)))
theorem cache_law (a : Int) (l : List S30) : Ev (fun k => laws_FnCache.f k a l) true := by
  unfold laws_FnCache.f
  by_cases c0 : (l.length : Int) > 2147483647
  · exact Ev.pos c0 (Ev.now _)
  refine Ev.neg c0 ?_
  by_cases c1 : a < 1
  · exact Ev.pos c1 (cache_jt a l)
  refine Ev.neg c1 ?_
  by_cases c3 : a > 30
  · exact Ev.pos c3 (cache_jt a l)
  refine Ev.neg c3 ?_
  obtain ⟨p, hp, hp2⟩ := puts_f l
  refine Ev.bind hp ?_
  cases p with
  | false => exact cache_jt a l
  | true =>
    obtain ⟨h1, h2, h3⟩ := hp2 rfl
    exact cache_j0 a l (by omega) h1 h2 h3
theorem FnCache (a : Int) (l : List S30) (_ : (Lit.int .i64 a).wf = true) (_ : l.length ≤ 9223372036854775807) (_ : ∀ v ∈ l, True) : ∃ k, laws_FnCache.f k a l = some true :=
  Ev.rounds (g := fun k => laws_FnCache.f k a l) (cache_law a l)

end Go.Proofs.Ytikjdoemkibadaa.Pure
