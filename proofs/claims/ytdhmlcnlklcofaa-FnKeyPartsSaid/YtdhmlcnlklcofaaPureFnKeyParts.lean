/- For every three texts: laws.FnKeyParts answers true (the plain statement that its printed walk asks for). No condition beyond the form's own sizes. -/
import Derived.Test.YtdhmlcnlklcofaaMFnKeyPartsx3
import Derived.Test.YtdhmlcnlklcofaaBase
set_option linter.unusedSimpArgs false
set_option linter.unusedVariables false
namespace Go.Proofs.Ytdhmlcnlklcofaa.Pure
open Go.RowKit Go.Proofs.Ytdhmlcnlklcofaa.PFnKeyParts Go.Proofs.YtdhmlcnlklcofaaW.PrintWords Go.Proofs.YtdhmlcnlklcofaaW.PrintLast Go.Proofs.Ytdhmlcnlklcofaa.Base

/-- where the first star of the rest stands: its place, or -1 -/
def star : List UInt8 → Nat → Int
  | [], _ => -1
  | c :: l, i => if c = 42 then (i : Int) else star l (i + 1)
theorem star_range (l : List UInt8) : ∀ i, star l i = -1 ∨ ((i : Int) ≤ star l i ∧ star l i < (i : Int) + l.length) := by
  induction l with
  | nil => intro i; left; rfl
  | cons c l ih =>
    intro i
    by_cases h : c = 42
    · right; rw [star, if_pos h]; simp only [List.length_cons]; omega
    · rw [star, if_neg h]
      have := ih (i + 1)
      simp only [List.length_cons]
      omega

theorem zzIndex_star (q : List UInt8) : ∀ p : List UInt8, p.length + q.length ≤ 140737488351232 * 8 →
    Ev (fun k => util_zzIndex.l0 k (B (p ++ q)) (⟨#[42]⟩ : ByteArray) (p.length : Int)) (star q p.length) := by
  induction q with
  | nil =>
    intro p hp
    simp only [List.length_nil] at hp
    refine Ev.step (fun _ => util_zzIndex.l0.eq_2 _ _ _ _) (Ev.neg ?_ (Ev.now _))
    rw [show (⟨#[42]⟩ : ByteArray) = B [42] from rfl, B_size, B_size, w64 (by simp; omega) (by simp; omega)]
    simp only [List.length_append, List.length_cons, List.length_nil]
    omega
  | cons c q ih =>
    intro p hp
    simp only [List.length_cons] at hp
    have hs : wrap64 ((p.length : Int) + ((⟨#[42]⟩ : ByteArray).size : Int)) = (p.length : Int) + 1 := by
      rw [show (⟨#[42]⟩ : ByteArray) = B [42] from rfl, B_size, w64 (by simp; omega) (by simp; omega)]
      simp
    have hx : wrap64 ((p.length : Int) + 1) = (p.length : Int) + 1 := w64 (by omega) (by omega)
    refine Ev.step (fun _ => util_zzIndex.l0.eq_2 _ _ _ _) ?_
    rw [hs, hx]
    refine Ev.pos (by rw [B_size]; simp; omega) (Ev.pos (by omega) (Ev.pos (by omega) ?_))
    rw [ext_mid p q c _ _ (by omega) (by omega), B_toList, show (⟨#[42]⟩ : ByteArray) = B [42] from rfl, B_toList]
    by_cases h : c = 42
    · rw [star, if_pos h]
      exact Ev.pos (by rw [h]) (Ev.now _)
    · rw [star, if_neg h]
      refine Ev.neg (by simpa using h) ?_
      have := ih (p ++ [c]) (by simp; omega)
      simpa [show (⟨#[42]⟩ : ByteArray) = B [42] from rfl] using this
theorem zzIndex_f (l : List UInt8) (h : l.length ≤ 140737488351232 * 8) : Ev (fun k => util_zzIndex.f k (B l) (⟨#[42]⟩ : ByteArray)) (star l 0) := by
  have := zzIndex_star l [] (by simpa using h)
  exact this

/-- whether a key is matched by a pattern -/
def matched (key pat : List UInt8) : Bool :=
  if star pat 0 = -1 then key == pat else key.take (star pat 0).toNat == pat.take (star pat 0).toNat
theorem take_eq_of_len {l m : List UInt8} {n : Nat} (hl : l.length ≤ n) (hm : n ≤ m.length) : (l.take n == m.take n) = (l == m.take n) := by
  rw [List.take_of_length_le hl]
theorem KeyMatch_f (key pat : List UInt8) (hk : key.length ≤ 140737488351232 * 8) (hp : pat.length ≤ 140737488351232 * 8) :
    Ev (fun k => impl_KeyMatch.f k (B key) (B pat)) (matched key pat) := by
  refine Ev.bind (a := matched key pat) (Ev.bind (zzIndex_f pat hp) ?_) (Ev.now _)
  have hr := star_range pat 0
  rcases hr with h | ⟨h0, h1⟩
  · have e : matched key pat = (key == pat) := by unfold matched; rw [if_pos h]
    rw [e]
    refine Ev.pos h ?_
    rw [B_toList, B_toList]
    exact Ev.now _
  · have e : matched key pat = (key.take (star pat 0).toNat == pat.take (star pat 0).toNat) := by unfold matched; rw [if_neg (by omega)]
    rw [e]
    refine Ev.neg (by omega) ?_
    simp only [B_size, B_ext, B_toList, List.drop_zero, Nat.sub_zero]
    by_cases hl : (key.length : Int) > star pat 0
    · exact Ev.pos hl (Ev.pos (by omega) (Ev.pos (by omega) (Ev.pos (by omega) (Ev.now _))))
    · refine Ev.neg hl (Ev.pos (by omega) (Ev.pos (by omega) ?_))
      rw [take_eq_of_len (n := (star pat 0).toNat) (by omega) (by omega)]
      exact Ev.now _

/-- the part of a key that a pattern's star stands for -/
def got (key pat : List UInt8) : List UInt8 :=
  if star pat 0 = -1 then [] else if (key.length : Int) > star pat 0 ∧ key.take (star pat 0).toNat = pat.take (star pat 0).toNat then key.drop (star pat 0).toNat else []
theorem KeyGet_f (key pat : List UInt8) (hk : key.length ≤ 140737488351232 * 8) (hp : pat.length ≤ 140737488351232 * 8) :
    Ev (fun k => impl_KeyGet.f k (B key) (B pat)) (B (got key pat)) := by
  refine Ev.bind (a := B (got key pat)) (Ev.bind (zzIndex_f pat hp) ?_) (Ev.now _)
  have hr := star_range pat 0
  rcases hr with h | ⟨h0, h1⟩
  · have e : got key pat = [] := by unfold got; rw [if_pos h]
    rw [e]
    exact Ev.pos h (Ev.now _)
  · have e : got key pat = if (key.length : Int) > star pat 0 ∧ key.take (star pat 0).toNat = pat.take (star pat 0).toNat then key.drop (star pat 0).toNat else [] := by unfold got; rw [if_neg (by omega)]
    rw [e]
    refine Ev.neg (by omega) ?_
    simp only [B_size, B_ext, B_toList, List.drop_zero, Nat.sub_zero]
    by_cases hl : (key.length : Int) > star pat 0
    · refine Ev.pos hl (Ev.pos (by omega) (Ev.pos (by omega) (Ev.pos (by omega) ?_)))
      by_cases he : key.take (star pat 0).toNat = pat.take (star pat 0).toNat
      · refine Ev.eqr (congrArg B (if_pos ⟨hl, he⟩).symm) (Ev.pos he ?_)
        rw [List.take_of_length_le (by simp)]
        exact Ev.now _
      · exact Ev.eqr (congrArg B (if_neg (fun h => he h.2)).symm) (Ev.neg he (Ev.now _))
    · exact Ev.eqr (congrArg B (if_neg (fun h => hl h.1)).symm) (Ev.neg hl (Ev.now _))

theorem awake : Ev laws_awakeUtil.f true := Ev.of laws_awakeUtil.mono (k := 30) (by decide +kernel)

theorem star_app (l m : List UInt8) (h : (42 : UInt8) ∉ l) : ∀ i, star (l ++ 42 :: m) i = (i : Int) + l.length := by
  induction l with
  | nil => intro i; simp [star]
  | cons c l ih =>
    intro i
    simp only [List.mem_cons, not_or] at h
    rw [List.cons_append, star, if_neg (fun e => h.1 e.symm), ih h.2]
    simp only [List.length_cons]
    omega
theorem matched_star (key l : List UInt8) (h : (42 : UInt8) ∉ l) : matched key (l ++ [42]) = (key.take l.length == l) := by
  unfold matched
  rw [star_app l [] h, if_neg (by omega)]
  simp
theorem got_star (a t : List UInt8) (h : (42 : UInt8) ∉ a) : got (a ++ t) (a ++ [42]) = t := by
  unfold got
  rw [star_app a [] h, if_neg (by omega)]
  by_cases ht : t.length = 0
  · rw [if_neg (by simp; omega)]
    exact (List.length_eq_zero_iff.1 ht).symm
  · rw [if_pos ⟨by simp; omega, by simp⟩]
    simp

theorem j2_f (a c : List UInt8) (h : (42 : UInt8) ∉ a) (ha : a.length ≤ 140737488351232) (hc : c.length ≤ 140737488351232) :
    Ev (fun k => laws_FnKeyParts.j2 k (B a) (B c) false) true := by
  refine Ev.step (fun _ => laws_FnKeyParts.j2.eq_2 _ _ _ _) (Ev.neg (by simp) (Ev.pos (by rw [B_size]; omega) ?_))
  rw [show (⟨#[42]⟩ : ByteArray) = B [42] from rfl, B_app]
  refine Ev.bind (KeyMatch_f c (a ++ [42]) (by omega) (by simp; omega)) ?_
  rw [matched_star c a h]
  simp only [B_size, B_ext, B_toList, List.drop_zero, Nat.sub_zero, Int.toNat_natCast]
  by_cases hl : (c.length : Int) ≥ (a.length : Int)
  · refine Ev.pos hl (Ev.pos (by omega) (Ev.pos (by omega) ?_))
    exact Ev.pos (by simp) (Ev.bind awake (Ev.now _))
  · refine Ev.neg hl (Ev.pos ?_ (Ev.bind awake (Ev.now _)))
    have : (c.take a.length == a) = false := by
      rw [beq_eq_false_iff_ne]
      intro e
      have : (c.take a.length).length = a.length := by rw [e]
      rw [List.length_take] at this
      omega
    rw [this]
    rfl

theorem l0_f (a b c : List UInt8) (ha : a.length ≤ 140737488351232) (hb : b.length ≤ 140737488351232) (hc : c.length ≤ 140737488351232) (q : List UInt8) : ∀ p : List UInt8, p ++ q = a ++ b ++ c → (42 : UInt8) ∉ p →
    Ev (fun k => laws_FnKeyParts.l0 k (B a) (B b) (B c) (p.length : Int)) true := by
  induction q with
  | nil =>
    intro p hp hn
    have hn' : (42 : UInt8) ∉ a ++ b ++ c := by rw [← hp]; simpa using hn
    simp only [List.mem_append, not_or] at hn'
    have hlen : p.length = a.length + b.length + c.length := by have := congrArg List.length hp; simp at this; omega
    refine Ev.step (fun _ => laws_FnKeyParts.l0.eq_2 _ _ _ _ _) ?_
    rw [show (⟨#[42]⟩ : ByteArray) = B [42] from rfl]
    simp only [B_app, B_size, B_toList, List.length_append, List.length_cons, List.length_nil]
    refine Ev.pos (by omega) (Ev.pos (by omega) (Ev.neg (by omega) (Ev.pos (by omega) ?_)))
    refine Ev.bind (KeyMatch_f _ _ (by simp; omega) (by simp; omega)) ?_
    rw [matched_star _ (a ++ b) (by simp [hn'.1.1, hn'.1.2])]
    refine Ev.pos (by rw [List.take_left]; simp) (Ev.pos (by omega) ?_)
    refine Ev.bind (KeyMatch_f _ _ (by simp; omega) (by simp; omega)) ?_
    rw [matched_star _ a hn'.1.1]
    refine Ev.pos (by simp) ?_
    refine Ev.bind (KeyGet_f _ _ (by simp; omega) (by simp; omega)) (Ev.pos (by omega) ?_)
    rw [List.append_assoc, got_star a (b ++ c) hn'.1.1, B_toList]
    rw [show (b ++ c != b ++ c) = false from by simp]
    exact j2_f a c hn'.1.1 ha hc
  | cons x q ih =>
    intro p hp hn
    have hlen : p.length + q.length + 1 = a.length + b.length + c.length := by have := congrArg List.length hp; simp at this; omega
    refine Ev.step (fun _ => laws_FnKeyParts.l0.eq_2 _ _ _ _ _) ?_
    simp only [B_app, B_size]
    refine Ev.pos (by omega) (Ev.pos (by simp; omega) (Ev.pos (by simp; omega) (Ev.pos (by omega) ?_)))
    rw [← hp, bt_mid p q x _ rfl, w64 (by omega) (by omega)]
    by_cases h : x = 42
    · exact Ev.pos (by rw [h]; rfl) (Ev.bind awake (Ev.now _))
    · refine Ev.neg (fun e => h ((byte_eq x 42 (by omega)).1 e)) ?_
      have := ih (p ++ [x]) (by rw [← hp]; simp) (by simp [hn]; exact fun e => h e.symm)
      simpa using this

theorem FnKeyParts : laws_FnKeyParts.Pure := by
  intro a0 a1 a2 h0 h1 h2
  obtain ⟨a, rfl⟩ := exists_B a0
  obtain ⟨b, rfl⟩ := exists_B a1
  obtain ⟨c, rfl⟩ := exists_B a2
  rw [B_size] at h0 h1 h2
  have hj : ∀ x : Bool, Ev (fun k => laws_FnKeyParts.j0 k (B a) (B b) (B c) x) true := by
    intro x
    refine Ev.step (fun _ => laws_FnKeyParts.j0.eq_2 _ _ _ _ _) ?_
    cases x
    · refine Ev.neg (by simp) ?_
      by_cases g0 : wrap64 (wrap64 (((B a).size : Int) + ((B b).size : Int)) + ((B c).size : Int)) > 300
      · exact Ev.pos g0 (Ev.now _)
      · exact Ev.neg g0 (l0_f a b c h0 h1 h2 (a ++ b ++ c) [] (by simp) (by simp))
    · exact Ev.pos rfl (Ev.now _)
  refine Ev.rounds (g := fun k => laws_FnKeyParts.f k (B a) (B b) (B c)) ?_
  by_cases g0 : ((B a).size : Int) > 2147483647
  · exact Ev.pos g0 (hj _)
  · refine Ev.neg g0 ?_
    by_cases g1 : ((B b).size : Int) > 2147483647
    · exact Ev.pos g1 (hj _)
    · exact Ev.neg g1 (hj _)

end Go.Proofs.Ytdhmlcnlklcofaa.Pure
