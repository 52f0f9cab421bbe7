/- For every key and every pattern: laws.FnKeyGet answers true (the plain statement that its printed walk asks for). No condition beyond the form's own sizes. -/
import Derived.Test.YtdhmlcnlklcofaaMFnKeyGetx3
import Derived.Test.YtdhmlcnlklcofaaBase
set_option linter.unusedSimpArgs false
set_option linter.unusedVariables false
namespace Go.Proofs.Ytdhmlcnlklcofaa.Pure
open Go.RowKit Go.Proofs.Ytdhmlcnlklcofaa.PFnKeyGet Go.Proofs.YtdhmlcnlklcofaaW.PrintWords Go.Proofs.YtdhmlcnlklcofaaW.PrintLast Go.Proofs.Ytdhmlcnlklcofaa.Base

/-- where the first star of the rest stands: its place, or -1 -/
def star : List UInt8 → Nat → Int
  | [], _ => -1
  | c :: l, i => if c = 42 then (i : Int) else star l (i + 1)
theorem star_range (l : List UInt8) : ∀ i, star l i = -1 ∨ ((i : Int) ≤ star l i ∧ star l i < (i : Int) + l.length) := by
  induction l with
  | nil => intro i; left; rfl
  | cons c l ih =>
    intro i
    by_cases h : c = 42
    · right; rw [star, if_pos h]; simp only [List.length_cons]; omega
    · rw [star, if_neg h]
      have := ih (i + 1)
      simp only [List.length_cons]
      omega

theorem zzIndex_star (q : List UInt8) : ∀ p : List UInt8, p.length + q.length ≤ 140737488351232 * 8 →
    Ev (fun k => util_zzIndex.l0 k (B (p ++ q)) (⟨#[42]⟩ : ByteArray) (p.length : Int)) (star q p.length) := by
  induction q with
  | nil =>
    intro p hp
    simp only [List.length_nil] at hp
    refine Ev.step (fun _ => util_zzIndex.l0.eq_2 _ _ _ _) (Ev.neg ?_ (Ev.now _))
    rw [show (⟨#[42]⟩ : ByteArray) = B [42] from rfl, B_size, B_size, w64 (by simp; omega) (by simp; omega)]
    simp only [List.length_append, List.length_cons, List.length_nil]
    omega
  | cons c q ih =>
    intro p hp
    simp only [List.length_cons] at hp
    have hs : wrap64 ((p.length : Int) + ((⟨#[42]⟩ : ByteArray).size : Int)) = (p.length : Int) + 1 := by
      rw [show (⟨#[42]⟩ : ByteArray) = B [42] from rfl, B_size, w64 (by simp; omega) (by simp; omega)]
      simp
    have hx : wrap64 ((p.length : Int) + 1) = (p.length : Int) + 1 := w64 (by omega) (by omega)
    refine Ev.step (fun _ => util_zzIndex.l0.eq_2 _ _ _ _) ?_
    rw [hs, hx]
    refine Ev.pos (by rw [B_size]; simp; omega) (Ev.pos (by omega) (Ev.pos (by omega) ?_))
    rw [ext_mid p q c _ _ (by omega) (by omega), B_toList, show (⟨#[42]⟩ : ByteArray) = B [42] from rfl, B_toList]
    by_cases h : c = 42
    · rw [star, if_pos h]
      exact Ev.pos (by rw [h]) (Ev.now _)
    · rw [star, if_neg h]
      refine Ev.neg (by simpa using h) ?_
      have := ih (p ++ [c]) (by simp; omega)
      simpa [show (⟨#[42]⟩ : ByteArray) = B [42] from rfl] using this
theorem zzIndex_f (l : List UInt8) (h : l.length ≤ 140737488351232 * 8) : Ev (fun k => util_zzIndex.f k (B l) (⟨#[42]⟩ : ByteArray)) (star l 0) := by
  have := zzIndex_star l [] (by simpa using h)
  exact this

/-- the part of a key that a pattern's star stands for -/
def got (key pat : List UInt8) : List UInt8 :=
  if star pat 0 = -1 then [] else if (key.length : Int) > star pat 0 ∧ key.take (star pat 0).toNat = pat.take (star pat 0).toNat then key.drop (star pat 0).toNat else []
theorem KeyGet_f (key pat : List UInt8) (hk : key.length ≤ 140737488351232 * 8) (hp : pat.length ≤ 140737488351232 * 8) :
    Ev (fun k => impl_KeyGet.f k (B key) (B pat)) (B (got key pat)) := by
  refine Ev.bind (a := B (got key pat)) (Ev.bind (zzIndex_f pat hp) ?_) (Ev.now _)
  have hr := star_range pat 0
  rcases hr with h | ⟨h0, h1⟩
  · have e : got key pat = [] := by unfold got; rw [if_pos h]
    rw [e]
    exact Ev.pos h (Ev.now _)
  · have e : got key pat = if (key.length : Int) > star pat 0 ∧ key.take (star pat 0).toNat = pat.take (star pat 0).toNat then key.drop (star pat 0).toNat else [] := by unfold got; rw [if_neg (by omega)]
    rw [e]
    refine Ev.neg (by omega) ?_
    simp only [B_size, B_ext, B_toList, List.drop_zero, Nat.sub_zero]
    by_cases hl : (key.length : Int) > star pat 0
    · refine Ev.pos hl (Ev.pos (by omega) (Ev.pos (by omega) (Ev.pos (by omega) ?_)))
      by_cases he : key.take (star pat 0).toNat = pat.take (star pat 0).toNat
      · refine Ev.eqr (congrArg B (if_pos ⟨hl, he⟩).symm) (Ev.pos he ?_)
        rw [List.take_of_length_le (by simp)]
        exact Ev.now _
      · exact Ev.eqr (congrArg B (if_neg (fun h => he h.2)).symm) (Ev.neg he (Ev.now _))
    · exact Ev.eqr (congrArg B (if_neg (fun h => hl h.1)).symm) (Ev.neg hl (Ev.now _))

theorem starAt_star (q : List UInt8) : ∀ p : List UInt8, p.length + q.length ≤ 140737488351232 * 8 →
    Ev (fun k => spec_starAt.l0 k (B (p ++ q)) (p.length : Int)) (star q p.length) := by
  induction q with
  | nil =>
    intro p hp
    refine Ev.step (fun _ => spec_starAt.l0.eq_2 _ _ _) (Ev.neg ?_ (Ev.now _))
    rw [B_size]
    simp
  | cons c q ih =>
    intro p hp
    simp only [List.length_cons] at hp
    have hx : wrap64 ((p.length : Int) + 1) = (p.length : Int) + 1 := w64 (by omega) (by omega)
    refine Ev.step (fun _ => spec_starAt.l0.eq_2 _ _ _) ?_
    rw [hx]
    refine Ev.pos (by rw [B_size]; simp; omega) (Ev.pos (by omega) ?_)
    rw [bt_mid p q c _ rfl]
    by_cases h : c = 42
    · rw [star, if_pos h]
      exact Ev.pos (by rw [h]; rfl) (Ev.now _)
    · rw [star, if_neg h]
      refine Ev.neg (fun e => h ((byte_eq c 42 (by omega)).1 e)) ?_
      have := ih (p ++ [c]) (by simp; omega)
      simpa using this
theorem starAt_f (l : List UInt8) (h : l.length ≤ 140737488351232 * 8) : Ev (fun k => spec_starAt.f k (B l)) (star l 0) := starAt_star l [] (by simpa using h)
theorem begins_f (l m : List UInt8) : spec_begins.f (B l) (B m) = some (decide (m.length ≤ l.length ∧ l.take m.length = m)) := by
  unfold spec_begins.f
  simp only [B_size, B_ext, B_toList, List.drop_zero, Nat.sub_zero]
  by_cases h : m.length ≤ l.length
  · rw [if_pos (by omega), if_pos (by omega), if_pos (by omega)]
    rw [show ((m.length : Nat) : Int).toNat = m.length from by omega]
    congr 1
    rw [Bool.eq_iff_iff]
    simp [h]
  · rw [if_neg (by omega)]
    simp [h]

theorem awake : Ev laws_awakeUtil.f true := Ev.of laws_awakeUtil.mono (k := 30) (by decide +kernel)

theorem specGet_f (key pat : List UInt8) (hk : key.length ≤ 140737488351232 * 8) (hp : pat.length ≤ 140737488351232 * 8) :
    Ev (fun k => spec_KeyGet.f k (B key) (B pat)) (B (got key pat)) := by
  refine Ev.bind (starAt_f pat hp) ?_
  have hr := star_range pat 0
  by_cases h : star pat 0 = -1
  · have e : got key pat = [] := by unfold got; rw [if_pos h]
    rw [e]
    exact Ev.pos (by omega) (Ev.now _)
  · have e : got key pat = if (key.length : Int) > star pat 0 ∧ key.take (star pat 0).toNat = pat.take (star pat 0).toNat then key.drop (star pat 0).toNat else [] := by unfold got; rw [if_neg h]
    rw [e]
    refine Ev.neg (by omega) (Ev.pos (by omega) (Ev.pos (by rw [B_size]; omega) ?_))
    simp only [B_ext, B_size, List.drop_zero, Nat.sub_zero]
    refine Ev.bind (Ev.const (begins_f _ _)) ?_
    have hl : (pat.take (star pat 0).toNat).length = (star pat 0).toNat := by rw [List.length_take]; omega
    rw [hl]
    by_cases g : (star pat 0).toNat ≤ key.length ∧ key.take (star pat 0).toNat = pat.take (star pat 0).toNat
    · refine Ev.pos (by simpa using g) (Ev.pos (by omega) ?_)
      rw [List.take_of_length_le (by simp)]
      by_cases hlt : (key.length : Int) > star pat 0
      · exact Ev.eqr (congrArg B (if_pos ⟨hlt, g.2⟩).symm) (Ev.now _)
      · refine Ev.eqr (congrArg B (if_neg (fun h => hlt h.1)).symm) ?_
        rw [List.drop_of_length_le (by omega)]
        exact Ev.now _
    · exact Ev.eqr (congrArg B (if_neg (fun h => g ⟨by omega, h.2⟩)).symm) (Ev.neg (by simpa using g) (Ev.now _))

theorem FnKeyGet : laws_FnKeyGet.Pure := by
  intro a0 a1 h0 h1
  obtain ⟨key, rfl⟩ := exists_B a0
  obtain ⟨pat, rfl⟩ := exists_B a1
  rw [B_size] at h0 h1
  have hj : ∀ b : Bool, Ev (fun k => laws_FnKeyGet.j0 k (B key) (B pat) b) true := by
    intro b
    refine Ev.step (fun _ => laws_FnKeyGet.j0.eq_2 _ _ _ _) ?_
    cases b
    · refine Ev.neg (by simp) ?_
      by_cases g0 : ((B key).size : Int) > 300
      · exact Ev.pos g0 (Ev.now _)
      refine Ev.neg g0 ?_
      by_cases g1 : ((B pat).size : Int) > 300
      · exact Ev.pos g1 (Ev.now _)
      refine Ev.neg g1 ?_
      refine Ev.bind (KeyGet_f key pat (by omega) (by omega)) (Ev.bind (specGet_f key pat (by omega) (by omega)) ?_)
      exact Ev.pos rfl (Ev.bind awake (Ev.now _))
    · exact Ev.pos rfl (Ev.now _)
  refine Ev.rounds (g := fun k => laws_FnKeyGet.f k (B key) (B pat)) ?_
  by_cases g0 : ((B key).size : Int) > 2147483647
  · exact Ev.pos g0 (hj _)
  · exact Ev.neg g0 (hj _)

end Go.Proofs.Ytdhmlcnlklcofaa.Pure
