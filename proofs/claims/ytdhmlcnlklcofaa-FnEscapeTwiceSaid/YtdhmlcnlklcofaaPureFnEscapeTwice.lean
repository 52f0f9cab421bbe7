/- For every two texts: laws.FnEscapeTwice answers true (the plain statement that its printed walk asks for). No condition beyond the form's own sizes. -/
import Derived.Test.YtdhmlcnlklcofaaMFnEscapeTwicex5
import Derived.Test.YtdhmlcnlklcofaaBase
set_option linter.unusedSimpArgs false
set_option linter.unusedVariables false
namespace Go.Proofs.Ytdhmlcnlklcofaa.Pure
open Go.RowKit Go.Proofs.Ytdhmlcnlklcofaa.PFnEscapeTwice Go.Proofs.YtdhmlcnlklcofaaW.PrintWords Go.Proofs.YtdhmlcnlklcofaaW.PrintLast Go.Proofs.Ytdhmlcnlklcofaa.Base

/-- a byte of a word -/
def wd (c : UInt8) : Bool := (97 ≤ c && c ≤ 122) || (65 ≤ c && c ≤ 90) || (48 ≤ c && c ≤ 57) || c == 95
/-- a digit -/
def dg (c : UInt8) : Bool := 48 ≤ c && c ≤ 57
/-- the name of a request or a policy -/
def dfn : List UInt8 → Bool
  | [] => false
  | c :: l => (c == 114 || c == 112) && l.all dg
/-- what may stand ahead of such a name -/
def okA (c : UInt8) : Bool := c == 32 || c == 9 || c == 10 || c == 12 || c == 13 || c == 40 || c == 41 || c == 124 || c == 38 || c == 44 || c == 61 || c == 33 || c == 62 || c == 60 || c == 43 || c == 45 || c == 42 || c == 47
/-- each such name with a point behind it stands where it may -/
def apart : List UInt8 → UInt8 → List UInt8 → Bool
  | _, _, [] => true
  | w, a, c :: l => if wd c then apart (w ++ [c]) a l else if c = 46 ∧ dfn w = true ∧ okA a = false then false else apart [] c l
/-- the points behind such names turned -/
def esc : Bool → List UInt8 → List UInt8 → List UInt8
  | _, w, [] => w
  | own, w, c :: l => if wd c then esc own (w ++ [c]) l else if c = 46 then w ++ (if own && dfn w then 95 else 46) :: esc false [] l else w ++ c :: esc true [] l
/-- the word that stands here is such a name with a point behind it -/
def named : List UInt8 → List UInt8 → Bool
  | _, [] => false
  | w, c :: l => if wd c then named (w ++ [c]) l else c == 46 && dfn w

theorem u8_lt (c : UInt8) : (c.toNat : Int) < 256 := by have := c.toNat_lt; omega
theorem wd_int (c : UInt8) : wd c = decide ((97 ≤ (c.toNat : Int) ∧ (c.toNat : Int) ≤ 122) ∨ (65 ≤ (c.toNat : Int) ∧ (c.toNat : Int) ≤ 90) ∨ (48 ≤ (c.toNat : Int) ∧ (c.toNat : Int) ≤ 57) ∨ (c.toNat : Int) = 95) := by
  rw [Bool.eq_iff_iff]
  simp only [wd, Bool.or_eq_true, Bool.and_eq_true, decide_eq_true_eq, beq_iff_eq, UInt8.le_iff_toNat_le, ← UInt8.toNat_inj]
  simp only [show (97 : UInt8).toNat = 97 from rfl, show (122 : UInt8).toNat = 122 from rfl, show (65 : UInt8).toNat = 65 from rfl, show (90 : UInt8).toNat = 90 from rfl, show (48 : UInt8).toNat = 48 from rfl, show (57 : UInt8).toNat = 57 from rfl, show (95 : UInt8).toNat = 95 from rfl]
  omega
theorem dg_int (c : UInt8) : dg c = decide (48 ≤ (c.toNat : Int) ∧ (c.toNat : Int) ≤ 57) := by
  rw [Bool.eq_iff_iff]
  simp only [dg, Bool.and_eq_true, decide_eq_true_eq, UInt8.le_iff_toNat_le]
  simp only [show (48 : UInt8).toNat = 48 from rfl, show (57 : UInt8).toNat = 57 from rfl]
  omega
/-- what may stand ahead, as a number -/
def okI (a : Int) : Prop := a = 32 ∨ a = 9 ∨ a = 10 ∨ a = 12 ∨ a = 13 ∨ a = 40 ∨ a = 41 ∨ a = 124 ∨ a = 38 ∨ a = 44 ∨ a = 61 ∨ a = 33 ∨ a = 62 ∨ a = 60 ∨ a = 43 ∨ a = 45 ∨ a = 42 ∨ a = 47
theorem okA_int (c : UInt8) : okA c = true ↔ okI (c.toNat : Int) := by
  simp only [okA, okI, Bool.or_eq_true, beq_iff_eq, ← UInt8.toNat_inj]
  simp only [show (32 : UInt8).toNat = 32 from rfl, show (9 : UInt8).toNat = 9 from rfl, show (10 : UInt8).toNat = 10 from rfl, show (12 : UInt8).toNat = 12 from rfl, show (13 : UInt8).toNat = 13 from rfl, show (40 : UInt8).toNat = 40 from rfl, show (41 : UInt8).toNat = 41 from rfl, show (124 : UInt8).toNat = 124 from rfl, show (38 : UInt8).toNat = 38 from rfl, show (44 : UInt8).toNat = 44 from rfl, show (61 : UInt8).toNat = 61 from rfl, show (33 : UInt8).toNat = 33 from rfl, show (62 : UInt8).toNat = 62 from rfl, show (60 : UInt8).toNat = 60 from rfl, show (43 : UInt8).toNat = 43 from rfl, show (45 : UInt8).toNat = 45 from rfl, show (42 : UInt8).toNat = 42 from rfl, show (47 : UInt8).toNat = 47 from rfl]
  omega
theorem okA_not_wd {c : UInt8} (h : okA c = true) : wd c = false := by
  have h := (okA_int c).1 h
  unfold okI at h
  rw [wd_int, decide_eq_false_iff_not]
  omega
theorem dg_wd {c : UInt8} (h : dg c = true) : wd c = true := by
  rw [dg_int, decide_eq_true_eq] at h
  rw [wd_int, decide_eq_true_eq]
  omega

theorem dfn_snoc {w : List UInt8} (hw : w ≠ []) (c : UInt8) : dfn (w ++ [c]) = (dfn w && dg c) := by
  cases w with
  | nil => exact absurd rfl hw
  | cons d w => simp [dfn, List.all_append, Bool.and_assoc]
theorem not_named_of_not_dfn (l : List UInt8) : ∀ w : List UInt8, w ≠ [] → dfn w = false → named w l = false := by
  induction l with
  | nil => intro w _ _; rfl
  | cons c l ih =>
    intro w hw hd
    unfold named
    by_cases h : wd c = true
    · rw [if_pos h]
      exact ih _ (by simp) (by rw [dfn_snoc hw, hd]; rfl)
    · rw [if_neg h, hd]
      simp
theorem not_named_of_apart (l : List UInt8) : ∀ (w : List UInt8) (a : UInt8), apart w a l = true → okA a = false → named w l = false := by
  induction l with
  | nil => intro w a _ _; rfl
  | cons c l ih =>
    intro w a h ha
    unfold named
    unfold apart at h
    by_cases hc : wd c = true
    · rw [if_pos hc] at h ⊢
      exact ih _ _ h ha
    · rw [if_neg hc] at h ⊢
      by_cases h2 : c = 46 ∧ dfn w = true ∧ okA a = false
      · rw [if_pos h2] at h; cases h
      · by_cases h3 : c = 46
        · have : dfn w = false := by
            cases hd : dfn w
            · rfl
            · exact absurd ⟨h3, hd, ha⟩ h2
          rw [this]; simp
        · simp [h3]
/-- where such a name stands: its letters, the point, and the rest -/
theorem named_parts (l : List UInt8) : ∀ w : List UInt8, named w l = true → ∃ v t, l = v ++ 46 :: t ∧ dfn (w ++ v) = true ∧ (∀ own, esc own w l = w ++ v ++ (if own then 95 else 46) :: esc false [] t) ∧ (∀ a, apart w a l = true → apart [] 46 t = true) := by
  induction l with
  | nil => intro w h; cases h
  | cons c l ih =>
    intro w h
    unfold named at h
    by_cases hc : wd c = true
    · rw [if_pos hc] at h
      obtain ⟨v, t, e, hd, he, ha⟩ := ih _ h
      refine ⟨c :: v, t, by rw [e]; rfl, by simpa using hd, fun own => ?_, fun a hA => ?_⟩
      · rw [esc, if_pos hc, he own]; simp
      · rw [apart, if_pos hc] at hA
        exact ha a hA
    · rw [if_neg hc] at h
      simp only [Bool.and_eq_true, beq_iff_eq] at h
      obtain ⟨rfl, hd⟩ := h
      refine ⟨[], l, rfl, by simpa using hd, fun own => ?_, fun a hA => ?_⟩
      · rw [esc, if_neg hc, if_pos rfl, hd]; simp
      · rw [apart, if_neg hc] at hA
        by_cases h2 : (46 : UInt8) = 46 ∧ dfn w = true ∧ okA a = false
        · rw [if_pos h2] at hA; cases hA
        · rw [if_neg h2] at hA; exact hA
theorem apart_join (b : List UInt8) (a : List UInt8) : ∀ (w : List UInt8) (h : UInt8), apart w h (a ++ 32 :: b) = (apart w h a && apart [] 32 b) := by
  induction a with
  | nil =>
    intro w h
    show apart w h (32 :: b) = _
    simp [apart, show wd 32 = false from rfl]
  | cons c a ih =>
    intro w h
    show apart w h (c :: (a ++ 32 :: b)) = _
    rw [apart, apart]
    by_cases hc : wd c = true
    · rw [if_pos hc, if_pos hc, ih]
    · rw [if_neg hc, if_neg hc]
      by_cases h2 : c = 46 ∧ dfn w = true ∧ okA h = false
      · rw [if_pos h2, if_pos h2]; rfl
      · rw [if_neg h2, if_neg h2, ih]
theorem esc_join (b : List UInt8) (a : List UInt8) : ∀ (own : Bool) (w : List UInt8), esc own w (a ++ 32 :: b) = esc own w a ++ 32 :: esc true [] b := by
  induction a with
  | nil =>
    intro own w
    show esc own w (32 :: b) = _
    simp [esc, show wd 32 = false from rfl]
  | cons c a ih =>
    intro own w
    show esc own w (c :: (a ++ 32 :: b)) = _
    rw [esc, esc]
    by_cases hc : wd c = true
    · rw [if_pos hc, if_pos hc, ih]
    · rw [if_neg hc, if_neg hc]
      by_cases h2 : c = 46
      · rw [if_pos h2, if_pos h2, ih]; simp
      · rw [if_neg h2, if_neg h2, ih]; simp
theorem esc_len (l : List UInt8) : ∀ (own : Bool) (w : List UInt8), (esc own w l).length = w.length + l.length := by
  induction l with
  | nil => intro own w; simp [esc]
  | cons c l ih =>
    intro own w
    rw [esc]
    by_cases hc : wd c = true
    · rw [if_pos hc, ih]; simp; omega
    · rw [if_neg hc]
      by_cases h2 : c = 46
      · rw [if_pos h2]; simp [ih]
      · rw [if_neg h2]; simp [ih]

theorem zzBefore_f (c : UInt8) : util_zzBefore.f (c.toNat : Int) = some (okA c) := by
  have h := okA_int c
  unfold okI at h
  generalize (c.toNat : Int) = x at h
  unfold util_zzBefore.f
  cases ho : okA c with
  | true =>
    have h := h.1 ho
    rcases h with h | h | h | h | h | h | h | h | h | h | h | h | h | h | h | h | h | h <;> (subst h; rfl)
  | false =>
    have h : ¬ _ := fun e => by rw [h.2 e] at ho; cases ho
    repeat rw [if_neg (by omega)]
/-- the digits and the point behind a name's first letter -/
theorem zzName_loop (l : List UInt8) : ∀ (p w : List UInt8), dfn w = true → p.length + l.length ≤ 140737488351232 * 8 →
    Ev (fun k => util_zzName.l0 k (B (p ++ l)) (p.length : Int)) (if named w l then (p.length : Int) + (l.takeWhile wd).length + 1 else -1) := by
  induction l with
  | nil =>
    intro p w _ _
    refine Ev.step (fun _ => util_zzName.l0.eq_2 _ _ _) (Ev.neg (by rw [B_size]; simp) ?_)
    exact Ev.now _
  | cons c l ih =>
    intro p w hw hp
    simp only [List.length_cons] at hp
    have hw0 : w ≠ [] := by rintro rfl; cases hw
    refine Ev.step (fun _ => util_zzName.l0.eq_2 _ _ _) (Ev.pos (by rw [B_size]; simp <;> omega) (Ev.pos (by omega) ?_))
    rw [bt_mid p l c _ rfl, w64 (by omega) (by omega)]
    have hrest : dg c = false → Ev (fun _ => if (c.toNat : Int) = 46 then some ((p.length : Int) + 1) else some (-1)) (if named w (c :: l) then (p.length : Int) + ((c :: l).takeWhile wd).length + 1 else -1) := by
      intro hd
      by_cases h46 : c = 46
      · subst h46
        refine Ev.pos rfl ?_
        have hn : named w (46 :: l) = true := by rw [named, if_neg (by decide), hw]; rfl
        rw [if_pos hn, List.takeWhile_cons_of_neg (by decide)]
        refine Ev.eqr ?_ (Ev.now _)
        simp
      · refine Ev.neg (fun e => h46 ((byte_eq c 46 (by omega)).1 e)) ?_
        have : named w (c :: l) = false := by
          rw [named]
          by_cases hc : wd c = true
          · rw [if_pos hc]
            exact not_named_of_not_dfn l _ (by simp) (by rw [dfn_snoc hw0, hd, Bool.and_false])
          · rw [if_neg hc]; simp [h46]
        rw [this]
        exact Ev.now _
    by_cases h48 : (c.toNat : Int) ≥ 48
    · refine Ev.pos h48 ?_
      by_cases h57 : (c.toNat : Int) ≤ 57
      · refine Ev.pos h57 ?_
        have hd : dg c = true := by rw [dg_int, decide_eq_true_eq]; omega
        have hc := dg_wd hd
        have := ih (p ++ [c]) (w ++ [c]) (by rw [dfn_snoc hw0, hw, hd]; rfl) (by simp <;> omega)
        rw [named, if_pos hc, List.takeWhile_cons_of_pos hc]
        simp only [List.append_assoc, List.cons_append, List.nil_append, List.length_append, List.length_cons, List.length_nil] at this ⊢
        refine Ev.eqr ?_ this
        split
        · omega
        · rfl
      · exact Ev.neg h57 (hrest (by rw [dg_int, decide_eq_false_iff_not]; omega))
    · exact Ev.neg h48 (hrest (by rw [dg_int, decide_eq_false_iff_not]; omega))
theorem zzName_f (p l : List UInt8) (hp : p.length + l.length ≤ 140737488351232 * 8) :
    Ev (fun k => util_zzName.f k (B (p ++ l)) (p.length : Int)) (if named [] l then (p.length : Int) + (l.takeWhile wd).length + 1 else -1) := by
  cases l with
  | nil =>
    refine Ev.pos (by rw [B_size]; simp) (Ev.step (fun _ => util_zzName.j0.eq_2 _ _ _ _) (Ev.pos rfl ?_))
    exact Ev.now _
  | cons c l =>
    simp only [List.length_cons] at hp
    refine Ev.neg (by rw [B_size]; simp <;> omega) (Ev.pos (by omega) (Ev.pos (by rw [B_size]; simp <;> omega) ?_))
    rw [bt_mid p l c _ rfl]
    have hgo : dfn [c] = true → Ev (fun k => util_zzName.j0 k (B (p ++ c :: l)) (p.length : Int) false) (if named [] (c :: l) then (p.length : Int) + ((c :: l).takeWhile wd).length + 1 else -1) := by
      intro hd
      have hc : wd c = true := by
        simp only [dfn, List.all_nil, Bool.and_true, Bool.or_eq_true, beq_iff_eq] at hd
        rcases hd with rfl | rfl <;> rfl
      refine Ev.step (fun _ => util_zzName.j0.eq_2 _ _ _ _) (Ev.neg (by simp) ?_)
      rw [w64 (by omega) (by omega)]
      have := zzName_loop l (p ++ [c]) [c] hd (by simp <;> omega)
      rw [named, if_pos hc, List.takeWhile_cons_of_pos hc]
      simp only [List.append_assoc, List.cons_append, List.nil_append, List.length_append, List.length_cons, List.length_nil] at this ⊢
      refine Ev.eqr ?_ this
      split
      · omega
      · rfl
    by_cases h1 : c = 114
    · subst h1
      exact Ev.pos rfl (hgo rfl)
    · refine Ev.neg (fun e => h1 ((byte_eq c 114 (by omega)).1 e)) ?_
      by_cases h2 : c = 112
      · subst h2
        exact hgo rfl
      · have hn : named [] (c :: l) = false := by
          rw [named]
          by_cases hc : wd c = true
          · rw [if_pos hc]
            exact not_named_of_not_dfn l _ (by simp) (by simp [dfn, h1, h2])
          · rw [if_neg hc]; simp [dfn]
        have hb : ((c.toNat : Int) != 112) = true := by
          rw [bne_iff_ne]
          exact fun e => h2 ((byte_eq c 112 (by omega)).1 e)
        rw [hn, hb]
        refine Ev.step (fun _ => util_zzName.j0.eq_2 _ _ _ _) (Ev.pos rfl ?_)
        exact Ev.now _

theorem take_word {v t : List UInt8} (h : ∀ c, c ∈ v → wd c = true) : (v ++ 46 :: t).takeWhile wd = v := by
  induction v with
  | nil => rfl
  | cons c v ih => rw [List.cons_append, List.takeWhile_cons_of_pos (h c (by simp)), ih (fun d hd => h d (by simp [hd]))]
theorem dfn_word {v : List UInt8} (h : dfn v = true) : ∀ c, c ∈ v → wd c = true := by
  cases v with
  | nil => cases h
  | cons d v =>
    simp only [dfn, Bool.and_eq_true, Bool.or_eq_true, beq_iff_eq, List.all_eq_true] at h
    intro c hc
    rcases List.mem_cons.1 hc with rfl | hc
    · rcases h.1 with h | h <;> (rw [h]; rfl)
    · exact dg_wd (h.2 c hc)

/-- the copying step -/
theorem zz_copy (p l out : List UInt8) (c : UInt8) (x5 x6 : Int) (b : Bool) (R : List UInt8) (hx : x6 < 0) (hb : b = true → named [] (c :: l) = false ∧ p = [])
    (hp : p.length + l.length + 1 ≤ 140737488351232 * 8) (ho : out.length ≤ 140737488351232 * 8)
    (h : Ev (fun k => util_zzEscape.l0 k (B (p ++ c :: l)) (B (out ++ [c])) ((p.length : Int) + 1)) (B R)) :
    Ev (fun k => util_zzEscape.j2 k (B (p ++ c :: l)) (B out) (p.length : Int) x5 x6 b) (B R) := by
  have hx1 : wrap64 ((p.length : Int) + 1) = (p.length : Int) + 1 := w64 (by omega) (by omega)
  have hcopy : Ev (fun k => if 0 ≤ (p.length : Int) then (if (p.length : Int) ≤ (wrap64 ((p.length : Int) + 1)) then (if (wrap64 ((p.length : Int) + 1)) ≤ ((B (p ++ c :: l)).size : Int) then (if (B out).size + ((B (p ++ c :: l)).extract ((p.length : Int) : Int).toNat ((wrap64 ((p.length : Int) + 1)) : Int).toNat).size ≤ 9223372036854775807 then (util_zzEscape.l0 k (B (p ++ c :: l)) ((B out) ++ ((B (p ++ c :: l)).extract ((p.length : Int) : Int).toNat ((wrap64 ((p.length : Int) + 1)) : Int).toNat)) (wrap64 ((p.length : Int) + 1))) else (none)) else (none)) else (none)) else (none)) (B R) := by
    rw [hx1, ext_mid p l c _ _ (by omega) (by omega), B_app]
    exact Ev.pos (by omega) (Ev.pos (by omega) (Ev.pos (by rw [B_size]; simp <;> omega) (Ev.pos (by rw [B_size, B_size]; simp <;> omega) h)))
  refine Ev.step (fun _ => util_zzEscape.j2.eq_2 _ _ _ _ _ _ _) ?_
  cases b with
  | false => exact Ev.neg (by simp) (Ev.pos hx hcopy)
  | true =>
    obtain ⟨hn, rfl⟩ := hb rfl
    refine Ev.pos rfl ?_
    have := zzName_f [] (c :: l) (by simp at hp ⊢; omega)
    rw [hn] at this
    refine Ev.bind this (Ev.pos (by simp) ?_)
    exact hcopy
/-- the step over a name -/
theorem zz_jump (p v t out pre : List UInt8) (x6 : Int) (R : List UInt8) (hx : x6 = (p.length : Int) + pre.length + v.length + 1)
    (hp : p.length + pre.length + v.length + t.length + 1 ≤ 140737488351232 * 8) (ho : out.length ≤ 140737488351232 * 8)
    (h : Ev (fun k => util_zzEscape.l0 k (B (p ++ (pre ++ (v ++ 46 :: t)))) (B (out ++ (pre ++ v ++ [95]))) x6) (B R)) :
    Ev (fun k => if 0 ≤ (p.length : Int) then (if (p.length : Int) ≤ (wrap64 (x6 - 1)) then (if (wrap64 (x6 - 1)) ≤ ((B (p ++ (pre ++ (v ++ 46 :: t)))).size : Int) then (if ((B (p ++ (pre ++ (v ++ 46 :: t)))).extract ((p.length : Int) : Int).toNat ((wrap64 (x6 - 1)) : Int).toNat).size + 1 ≤ 9223372036854775807 then (if (B out).size + (((B (p ++ (pre ++ (v ++ 46 :: t)))).extract ((p.length : Int) : Int).toNat ((wrap64 (x6 - 1)) : Int).toNat) ++ (⟨#[95]⟩ : ByteArray)).size ≤ 9223372036854775807 then (util_zzEscape.l0 k (B (p ++ (pre ++ (v ++ 46 :: t)))) ((B out) ++ (((B (p ++ (pre ++ (v ++ 46 :: t)))).extract ((p.length : Int) : Int).toNat ((wrap64 (x6 - 1)) : Int).toNat) ++ (⟨#[95]⟩ : ByteArray))) x6) else (none)) else (none)) else (none)) else (none)) else (none)) (B R) := by
  have hw : wrap64 (x6 - 1) = (p.length : Int) + pre.length + v.length := by rw [w64 (by omega) (by omega)]; omega
  have he : (B (p ++ (pre ++ (v ++ 46 :: t)))).extract ((p.length : Int) : Int).toNat ((p.length : Int) + pre.length + v.length).toNat = B (pre ++ v) := by
    rw [B_ext]
    congr 1
    rw [show ((p.length : Int)).toNat = p.length from by omega, List.drop_left, show ((p.length : Int) + pre.length + v.length).toNat - p.length = (pre ++ v).length from by simp; omega, ← List.append_assoc, List.take_left]
  rw [hw, he, show (⟨#[95]⟩ : ByteArray) = B [95] from rfl, B_app, B_app]
  simp only [B_size, List.length_append, List.length_cons, List.length_nil]
  exact Ev.pos (by omega) (Ev.pos (by omega) (Ev.pos (by omega) (Ev.pos (by omega) (Ev.pos (by omega) h))))

/-- the loop, from a place on at which no name is open to be turned -/
theorem zz_loop (n : Nat) : ∀ (l p o w : List UInt8) (a : UInt8) (own : Bool), l.length ≤ n → p ≠ [] → apart w a l = true → named w l = false →
    p.length + l.length ≤ 140737488351232 → o.length + w.length ≤ p.length →
    Ev (fun k => util_zzEscape.l0 k (B (p ++ l)) (B (o ++ w)) (p.length : Int)) (B (o ++ esc own w l)) := by
  induction n with
  | zero =>
    intro l p o w a own hn hp0 hA hN hp ho
    obtain rfl := List.length_eq_zero_iff.1 (Nat.le_zero.1 hn)
    refine Ev.step (fun _ => util_zzEscape.l0.eq_2 _ _ _ _) (Ev.neg (by rw [B_size]; simp) (Ev.now _))
  | succ n ih =>
    intro l p o w a own hn hp0 hA hN hp ho
    cases l with
    | nil => exact Ev.step (fun _ => util_zzEscape.l0.eq_2 _ _ _ _) (Ev.neg (by rw [B_size]; simp) (Ev.now _))
    | cons c l =>
      simp only [List.length_cons] at hn hp
      have hp1 : 1 ≤ p.length := by cases p with
        | nil => exact absurd rfl hp0
        | cons _ _ => simp
      refine Ev.step (fun _ => util_zzEscape.l0.eq_2 _ _ _ _) (Ev.pos (by rw [B_size]; simp <;> omega) (Ev.pos (by omega) ?_))
      rw [bt_mid p l c _ rfl, w64 (by omega) (by omega)]
      refine Ev.bind (Ev.const (zzBefore_f c)) ?_
      have hcopy : ∀ (w' : List UInt8) (a' : UInt8) (own' : Bool) (o' : List UInt8), o' ++ w' = (o ++ w) ++ [c] → apart w' a' l = true → named w' l = false → o' ++ esc own' w' l = o ++ esc own w (c :: l) →
          Ev (fun k => util_zzEscape.j1 k (B (p ++ c :: l)) (B (o ++ w)) (p.length : Int) (p.length : Int) (-1)) (B (o ++ esc own w (c :: l))) := by
        intro w' a' own' o' e1 e2 e3 e4
        refine Ev.step (fun _ => util_zzEscape.j1.eq_2 _ _ _ _ _ _) (Ev.pos (by omega) ?_)
        refine zz_copy p l (o ++ w) c _ _ _ _ (by omega) (fun e => ?_) (by omega) (by simp <;> omega) ?_
        · rw [beq_iff_eq] at e; omega
        · have hle : o'.length + w'.length = o.length + w.length + 1 := by have := congrArg List.length e1; simp at this; omega
          have := ih l (p ++ [c]) o' w' a' own' (by omega) (by simp) e2 e3 (by simp <;> omega) (by simp <;> omega)
          rw [e1, e4] at this
          simpa using this
      unfold apart at hA
      unfold named at hN
      by_cases hc : wd c = true
      · rw [if_pos hc] at hA hN
        have hk : okA c = false := by
          cases h : okA c
          · rfl
          · rw [okA_not_wd h] at hc; cases hc
        rw [hk]
        exact Ev.neg (by simp) (hcopy (w ++ [c]) a own o (by simp) hA hN (by rw [esc, if_pos hc]))
      · rw [if_neg hc] at hA hN
        by_cases h46 : c = 46
        · subst h46
          have hd : dfn w = false := by simpa using hN
          rw [if_neg (by rw [hd]; simp)] at hA
          rw [show okA 46 = false from rfl]
          exact Ev.neg (by simp) (hcopy [] 46 false (o ++ w ++ [46]) (by simp) hA (not_named_of_apart l [] 46 hA rfl) (by rw [esc, if_neg hc, if_pos rfl, hd]; simp))
        · rw [if_neg (fun e => h46 e.1)] at hA
          have e4 : (o ++ w ++ [c]) ++ esc true [] l = o ++ esc own w (c :: l) := by rw [esc, if_neg hc, if_neg h46]; simp
          cases hk : okA c with
          | false => exact Ev.neg (by simp) (hcopy [] c true (o ++ w ++ [c]) (by simp) hA (not_named_of_apart l [] c hA hk) e4)
          | true =>
            refine Ev.pos rfl ?_
            have hz := zzName_f (p ++ [c]) l (by simp <;> omega)
            simp only [List.append_assoc, List.cons_append, List.nil_append, List.length_append, List.length_cons, List.length_nil] at hz
            refine Ev.bind hz ?_
            cases hm : named [] l with
            | false => exact hcopy [] c true (o ++ w ++ [c]) (by simp) hA hm e4
            | true =>
              obtain ⟨v, t, rfl, hd, he, ha⟩ := named_parts l [] hm
              simp only [List.nil_append] at hd he
              rw [take_word (dfn_word hd)]
              simp only [List.length_append, List.length_cons] at hn hp
              have e5 : o ++ esc own w (c :: (v ++ 46 :: t)) = (o ++ w ++ c :: v ++ [95]) ++ esc false [] t := by rw [← e4, he true]; simp
              refine Ev.step (fun _ => util_zzEscape.j1.eq_2 _ _ _ _ _ _) (Ev.neg (by rw [if_pos rfl] <;> omega) ?_)
              refine Ev.step (fun _ => util_zzEscape.j2.eq_2 _ _ _ _ _ _ _) (Ev.neg (by simp) (Ev.neg (by rw [if_pos rfl] <;> omega) ?_))
              refine zz_jump p v t (o ++ w) [c] _ _ (by rw [if_pos rfl]; simp <;> omega) (by simp <;> omega) (by simp <;> omega) ?_
              rw [e5, if_pos rfl]
              have := ih t (p ++ c :: (v ++ [46])) (o ++ w ++ c :: v ++ [95]) [] 46 false (by omega) (by simp) (ha c hA) (not_named_of_apart t [] 46 (ha c hA) rfl) (by simp <;> omega) (by simp <;> omega)
              simp only [List.append_assoc, List.cons_append, List.nil_append, List.length_append, List.length_cons, List.length_nil, List.append_nil] at this ⊢
              refine Ev.congr (fun k => ?_) this
              congr 1
              omega

theorem EscapeAssertion_f (s : List UInt8) (hA : apart [] 32 s = true) (hs : s.length ≤ 140737488351232) :
    Ev (fun k => impl_EscapeAssertion.f k (B s)) (B (esc true [] s)) := by
  refine Ev.bind (a := B (esc true [] s)) (Ev.bind (a := B (esc true [] s)) ?_ (Ev.now _)) (Ev.now _)
  show Ev (fun k => util_zzEscape.l0 k (B s) (B []) 0) _
  cases s with
  | nil => exact Ev.step (fun _ => util_zzEscape.l0.eq_2 _ _ _ _) (Ev.neg (by rw [B_size]; simp) (Ev.now _))
  | cons c l =>
    simp only [List.length_cons] at hs
    refine Ev.step (fun _ => util_zzEscape.l0.eq_2 _ _ _ _) (Ev.pos (by rw [B_size]; simp <;> omega) (Ev.pos (by omega) ?_))
    have hbt : bt (B (c :: l)) 0 = (c.toNat : Int) := bt_mid [] l c 0 rfl
    rw [hbt, show wrap64 (0 + 1) = 1 from w64 (by omega) (by omega)]
    refine Ev.bind (Ev.const (zzBefore_f c)) ?_
    have hcopy : ∀ (w' : List UInt8) (a' : UInt8) (own' : Bool) (o' : List UInt8) (b : Bool), o' ++ w' = [c] → apart w' a' l = true → named w' l = false → named [] (c :: l) = false → o' ++ esc own' w' l = esc true [] (c :: l) →
        Ev (fun k => util_zzEscape.j2 k (B (c :: l)) (B []) 0 0 (-1) b) (B (esc true [] (c :: l))) := by
      intro w' a' own' o' b e1 e2 e3 e5 e4
      have hle : o'.length + w'.length = 1 := by have := congrArg List.length e1; simpa using this
      have := zz_loop l.length l [c] o' w' a' own' (Nat.le_refl _) (by simp) e2 e3 (by simp <;> omega) (by simp <;> omega)
      rw [e1, e4] at this
      exact zz_copy [] l [] c 0 (-1) b _ (by omega) (fun _ => ⟨e5, rfl⟩) (by simp <;> omega) (by simp) this
    have hj1 : Ev (fun k => util_zzEscape.j2 k (B (c :: l)) (B []) 0 0 (-1) true) (B (esc true [] (c :: l))) →
        Ev (fun k => util_zzEscape.j1 k (B (c :: l)) (B []) 0 0 (-1)) (B (esc true [] (c :: l))) :=
      fun h => Ev.step (fun _ => util_zzEscape.j1.eq_2 _ _ _ _ _ _) (Ev.pos (by omega) h)
    cases hm : named [] (c :: l) with
    | true =>
      obtain ⟨v, t, e, hd, he, ha⟩ := named_parts (c :: l) [] hm
      have hk : okA c = false := by
        cases h : okA c
        · rfl
        · exfalso
          have hw := okA_not_wd h
          rw [named, hw] at hm
          simp [dfn] at hm
      rw [hk]
      refine Ev.neg (by simp) (hj1 ?_)
      simp only [List.nil_append] at hd
      have he1 := he true
      simp only [List.nil_append, if_true] at he1
      have hz := zzName_f [] (c :: l) (by simp <;> omega)
      rw [hm, if_pos rfl, e, take_word (dfn_word hd)] at hz
      have hlen : v.length + t.length = l.length := by have := congrArg List.length e; simp at this; omega
      rw [he1, e]
      refine Ev.step (fun _ => util_zzEscape.j2.eq_2 _ _ _ _ _ _ _) (Ev.pos rfl ?_)
      refine Ev.bind hz (Ev.neg (by simp <;> omega) ?_)
      refine zz_jump [] v t [] [] _ _ (by simp) (by simp <;> omega) (by simp) ?_
      have hA' := ha 32 hA
      have := zz_loop t.length t (v ++ [46]) (v ++ [95]) [] 46 false (Nat.le_refl _) (by simp) hA' (not_named_of_apart t [] 46 hA' rfl) (by simp <;> omega) (by simp)
      simp only [List.append_assoc, List.cons_append, List.nil_append, List.length_append, List.length_cons, List.length_nil, List.append_nil] at this ⊢
      refine Ev.congr (fun k => ?_) this
      congr 1
      simp
    | false =>
      unfold apart at hA
      have hm' := hm
      unfold named at hm'
      by_cases hc : wd c = true
      · rw [if_pos hc] at hA hm'
        have hk : okA c = false := by
          cases h : okA c
          · rfl
          · rw [okA_not_wd h] at hc; cases hc
        rw [hk]
        exact Ev.neg (by simp) (hj1 (hcopy [c] 32 true [] true rfl hA hm' hm (by rw [esc, if_pos hc]; rfl)))
      · rw [if_neg hc] at hA
        rw [if_neg (by intro e; simp [dfn] at e)] at hA
        by_cases h46 : c = 46
        · subst h46
          rw [show okA 46 = false from rfl]
          exact Ev.neg (by simp) (hj1 (hcopy [] 46 false [46] true rfl hA (not_named_of_apart l [] 46 hA rfl) hm (by rw [esc, if_neg hc, if_pos rfl]; simp [dfn])))
        · have e4 : [c] ++ esc true [] l = esc true [] (c :: l) := by rw [esc, if_neg hc, if_neg h46]; rfl
          cases hk : okA c with
          | false => exact Ev.neg (by simp) (hj1 (hcopy [] c true [c] true rfl hA (not_named_of_apart l [] c hA hk) hm e4))
          | true =>
            refine Ev.pos rfl ?_
            have hz := zzName_f [c] l (by simp <;> omega)
            simp only [List.cons_append, List.nil_append, List.length_cons, List.length_nil] at hz
            refine Ev.bind hz ?_
            cases hl : named [] l with
            | false => exact hj1 (hcopy [] c true [c] true rfl hA hl hm e4)
            | true =>
              obtain ⟨v, t, rfl, hd, he, ha⟩ := named_parts l [] hl
              simp only [List.nil_append] at hd he
              rw [take_word (dfn_word hd), if_pos rfl]
              simp only [List.length_append, List.length_cons] at hs
              refine Ev.step (fun _ => util_zzEscape.j1.eq_2 _ _ _ _ _ _) (Ev.neg (by omega) ?_)
              refine Ev.step (fun _ => util_zzEscape.j2.eq_2 _ _ _ _ _ _ _) (Ev.neg (by simp) (Ev.neg (by omega) ?_))
              refine zz_jump [] v t [] [c] _ _ (by simp <;> omega) (by simp <;> omega) (by simp) ?_
              have hA' := ha c hA
              have := zz_loop t.length t (c :: (v ++ [46])) (c :: v ++ [95]) [] 46 false (Nat.le_refl _) (by simp) hA' (not_named_of_apart t [] 46 hA' rfl) (by simp <;> omega) (by simp)
              rw [← e4, he true]
              simp only [List.append_assoc, List.cons_append, List.nil_append, List.length_append, List.length_cons, List.length_nil, List.append_nil] at this ⊢
              refine Ev.congr (fun k => ?_) this
              congr 1
              simp <;> omega

section
variable {α : Type} {r : α}
theorem Ev.ite {c : Prop} [Decidable c] {f g : Nat → Option α} (h : c → Ev f r) (k : ¬ c → Ev g r) : Ev (fun n => if c then f n else g n) r := by
  by_cases e : c
  · exact Ev.pos e (h e)
  · exact Ev.neg e (k e)
end
theorem WordByte_f (c : UInt8) : spec_WordByte.f (c.toNat : Int) = some (wd c) := by
  rw [wd_int]
  generalize (c.toNat : Int) = x
  unfold spec_WordByte.f
  repeat' split
  all_goals (congr 1; rw [Bool.eq_iff_iff]; simp only [beq_iff_eq, decide_eq_true_eq, true_iff]; omega)
theorem Definition_loop (l : List UInt8) : ∀ p : List UInt8, p.length + l.length ≤ 140737488351232 * 8 →
    Ev (fun k => spec_Definition.l0 k (B (p ++ l)) (p.length : Int)) (l.all dg) := by
  induction l with
  | nil =>
    intro p _
    exact Ev.step (fun _ => spec_Definition.l0.eq_2 _ _ _) (Ev.neg (by rw [B_size]; simp) (Ev.now _))
  | cons c l ih =>
    intro p hp
    simp only [List.length_cons] at hp
    refine Ev.step (fun _ => spec_Definition.l0.eq_2 _ _ _) (Ev.pos (by rw [B_size]; simp <;> omega) (Ev.pos (by omega) ?_))
    rw [bt_mid p l c _ rfl, w64 (by omega) (by omega), List.all_cons]
    have hno : dg c = false → Ev (fun _ => some false) (dg c && l.all dg) := by
      intro h; rw [h]; exact Ev.now _
    by_cases h1 : (c.toNat : Int) < 48
    · exact Ev.pos h1 (hno (by rw [dg_int, decide_eq_false_iff_not]; omega))
    · refine Ev.neg h1 ?_
      by_cases h2 : (c.toNat : Int) > 57
      · exact Ev.pos h2 (hno (by rw [dg_int, decide_eq_false_iff_not]; omega))
      · refine Ev.neg h2 ?_
        rw [show dg c = true from by rw [dg_int, decide_eq_true_eq]; omega, Bool.true_and]
        have := ih (p ++ [c]) (by simp <;> omega)
        simpa using this
theorem Definition_f (w : List UInt8) (hw : w.length ≤ 140737488351232 * 8) : Ev (fun k => spec_Definition.f k (B w)) (dfn w) := by
  cases w with
  | nil =>
    refine Ev.pos (by rw [B_toList]) (Ev.step (fun _ => spec_Definition.j0.eq_2 _ _ _) (Ev.pos rfl (Ev.now _)))
  | cons c w =>
    simp only [List.length_cons] at hw
    refine Ev.neg (by rw [B_toList]; simp) (Ev.pos (by rw [B_size]; simp <;> omega) ?_)
    have hbt : bt (B (c :: w)) 0 = (c.toNat : Int) := bt_mid [] w c 0 rfl
    rw [hbt]
    have hgo : (c == 114 || c == 112) = true → Ev (fun k => spec_Definition.j0 k (B (c :: w)) false) (dfn (c :: w)) := by
      intro h
      refine Ev.step (fun _ => spec_Definition.j0.eq_2 _ _ _) (Ev.neg (by simp) ?_)
      rw [dfn, h, Bool.true_and]
      exact Definition_loop w [c] (by simp <;> omega)
    by_cases h1 : c = 114
    · subst h1
      exact Ev.pos rfl (hgo rfl)
    · refine Ev.neg (fun e => h1 ((byte_eq c 114 (by omega)).1 e)) ?_
      by_cases h2 : c = 112
      · subst h2
        exact hgo rfl
      · have hb : ((c.toNat : Int) != 112) = true := by
          rw [bne_iff_ne]
          exact fun e => h2 ((byte_eq c 112 (by omega)).1 e)
        rw [hb, show dfn (c :: w) = false from by simp [dfn, h1, h2]]
        exact Ev.step (fun _ => spec_Definition.j0.eq_2 _ _ _) (Ev.pos rfl (Ev.now _))
theorem Blank_f (x : Int) : spec_Blank.f x = some (decide (x = 32 ∨ x = 9 ∨ x = 10 ∨ x = 13 ∨ x = 12 ∨ x = 11)) := by
  unfold spec_Blank.f
  repeat' split
  all_goals (congr 1; rw [Bool.eq_iff_iff]; simp only [beq_iff_eq, decide_eq_true_eq, true_iff]; omega)

set_option maxHeartbeats 2000000 in
theorem Apart_loop (l : List UInt8) : ∀ (p w : List UInt8) (a : UInt8), w.length ≤ p.length → p.length + l.length ≤ 140737488351232 →
    Ev (fun k => spec_Apart.l0 k (B (p ++ l)) (B w) (a.toNat : Int) (p.length : Int)) (apart w a l) := by
  induction l with
  | nil =>
    intro p w a _ _
    exact Ev.step (fun _ => spec_Apart.l0.eq_2 _ _ _ _ _) (Ev.neg (by rw [B_size]; simp) (Ev.now _))
  | cons c l ih =>
    intro p w a hw hp
    simp only [List.length_cons] at hp
    refine Ev.step (fun _ => spec_Apart.l0.eq_2 _ _ _ _ _) (Ev.pos (by rw [B_size]; simp <;> omega) (Ev.pos (by omega) ?_))
    rw [bt_mid p l c _ rfl, w64 (by omega) (by omega), ext_mid p l c _ _ (by omega) (by omega), B_app]
    refine Ev.bind (Ev.const (WordByte_f c)) ?_
    rw [apart]
    have hnext : Ev (fun k => spec_Apart.l0 k (B (p ++ c :: l)) (⟨#[]⟩ : ByteArray) (c.toNat : Int) ((p.length : Int) + 1)) (apart [] c l) := by
      have := ih (p ++ [c]) [] c (by simp) (by simp <;> omega)
      rw [show (⟨#[]⟩ : ByteArray) = B [] from rfl]
      simpa using this
    by_cases hc : wd c = true
    · rw [if_pos hc]
      refine Ev.pos hc (Ev.pos (by omega) (Ev.pos (by rw [B_size]; simp <;> omega) (Ev.pos (by rw [B_size, B_size]; simp <;> omega) ?_)))
      have := ih (p ++ [c]) (w ++ [c]) a (by simp <;> omega) (by simp <;> omega)
      simpa using this
    · rw [if_neg hc]
      refine Ev.neg hc ?_
      by_cases h46 : c = 46
      · refine Ev.pos (by rw [h46]; rfl) (Ev.bind (Definition_f w (by omega)) ?_)
        by_cases hd : dfn w = true
        · refine Ev.pos hd (Ev.bind (Ev.const (Blank_f _)) ?_)
          by_cases ha : okI (a.toNat : Int)
          · have hk := (okA_int a).2 ha
            rw [if_neg (by rw [hk]; simp)]
            unfold okI at ha
            generalize (a.toNat : Int) = x at ha
            rcases ha with ha | ha | ha | ha | ha | ha | ha | ha | ha | ha | ha | ha | ha | ha | ha | ha | ha | ha <;> (subst ha; simpa using hnext)
          · have hk : okA a = false := by
              cases h : okA a
              · rfl
              · exact absurd ((okA_int a).1 h) ha
            rw [if_pos ⟨h46, hd, hk⟩]
            unfold okI at ha
            generalize (a.toNat : Int) = x at ha
            refine Ev.ite (fun hb => ?_) (fun hb => ?_)
            · simp only [decide_eq_true_eq] at hb
              refine Ev.pos (by omega) ?_
              repeat refine Ev.neg (by omega) ?_
              exact Ev.now _
            · repeat refine Ev.neg (by omega) ?_
              exact Ev.now _
        · rw [if_neg (fun e => hd e.2.1)]
          exact Ev.neg hd hnext
      · rw [if_neg (fun e => h46 e.1)]
        exact Ev.neg (fun e => h46 ((byte_eq c 46 (by omega)).1 e)) hnext
theorem Apart_f (s : List UInt8) (h : s.length ≤ 140737488351232) : Ev (fun k => spec_Apart.f k (B s)) (apart [] 32 s) := by
  have := Apart_loop s [] [] 32 (by simp) (by simpa using h)
  exact this

theorem ascii_loop (l : List UInt8) : ∀ p : List UInt8, p.length + l.length ≤ 140737488351232 → ∃ b, Ev (fun k => laws_ascii.l0 k (B (p ++ l)) (p.length : Int)) b := by
  induction l with
  | nil =>
    intro p _
    exact ⟨_, Ev.step (fun _ => laws_ascii.l0.eq_2 _ _ _) (Ev.neg (by rw [B_size]; simp) (Ev.step (fun _ => laws_ascii.j1.eq_2 _ _ _ _) (Ev.neg (by simp) (Ev.now _))))⟩
  | cons c l ih =>
    intro p hp
    simp only [List.length_cons] at hp
    obtain ⟨b, hb⟩ := ih (p ++ [c]) (by simp <;> omega)
    simp only [List.append_assoc, List.cons_append, List.nil_append, List.length_append, List.length_cons, List.length_nil] at hb
    have hmain : ∃ b, Ev (fun k => laws_ascii.j1 k (B (p ++ c :: l)) (p.length : Int) (decide ((p.length : Int) ≤ 300))) b := by
      by_cases h3 : (p.length : Int) ≤ 300
      · rw [decide_eq_true h3]
        by_cases h0 : (c.toNat : Int) = 0
        · refine ⟨_, Ev.step (fun _ => laws_ascii.j1.eq_2 _ _ _ _) (Ev.pos rfl (Ev.pos (by omega) (Ev.pos (by rw [B_size]; simp <;> omega) (Ev.pos (by rw [bt_mid p l c _ rfl]; exact h0) (Ev.now _)))))⟩
        · by_cases h1 : (c.toNat : Int) > 126
          · exact ⟨_, Ev.step (fun _ => laws_ascii.j1.eq_2 _ _ _ _) (Ev.pos rfl (Ev.pos (by omega) (Ev.pos (by rw [B_size]; simp <;> omega) (Ev.neg (by rw [bt_mid p l c _ rfl]; exact h0) (Ev.pos (by rw [bt_mid p l c _ rfl]; exact h1) (Ev.now _))))))⟩
          · refine ⟨b, Ev.step (fun _ => laws_ascii.j1.eq_2 _ _ _ _) (Ev.pos rfl (Ev.pos (by omega) (Ev.pos (by rw [B_size]; simp <;> omega) (Ev.neg (by rw [bt_mid p l c _ rfl]; exact h0) (Ev.neg (by rw [bt_mid p l c _ rfl]; exact h1) ?_)))))⟩
            rw [w64 (by omega) (by omega)]
            exact hb
      · rw [decide_eq_false h3]
        exact ⟨_, Ev.step (fun _ => laws_ascii.j1.eq_2 _ _ _ _) (Ev.neg (by simp) (Ev.now _))⟩
    obtain ⟨b', hb'⟩ := hmain
    exact ⟨b', Ev.step (fun _ => laws_ascii.l0.eq_2 _ _ _) (Ev.pos (by rw [B_size]; simp <;> omega) hb')⟩
theorem ascii_f (s : List UInt8) (h : s.length ≤ 140737488351232) : ∃ b, Ev (fun k => laws_ascii.f k (B s)) b := ascii_loop s [] (by simpa using h)

theorem awake : Ev laws_awakeUtil.f true := Ev.of laws_awakeUtil.mono (k := 30) (by decide +kernel)

theorem FnEscapeTwice : laws_FnEscapeTwice.Pure := by
  intro a0 a1 h0 h1
  obtain ⟨s, rfl⟩ := exists_B a0
  obtain ⟨t, rfl⟩ := exists_B a1
  rw [B_size] at h0 h1
  have hawake : Ev (fun k => laws_FnEscapeTwice.j1 k (B s) (B t) true) true :=
    Ev.step (fun _ => laws_FnEscapeTwice.j1.eq_2 _ _ _ _) (Ev.pos rfl (Ev.bind awake (Ev.now _)))
  refine Ev.rounds (g := fun k => laws_FnEscapeTwice.f k (B s) (B t)) ?_
  by_cases g0 : ((B s).size : Int) > 2147483647
  · exact Ev.pos g0 (Ev.step (fun _ => laws_FnEscapeTwice.j0.eq_2 _ _ _ _) (Ev.pos rfl (Ev.now _)))
  refine Ev.neg g0 ?_
  by_cases g1 : ((B t).size : Int) > 2147483647
  · rw [decide_eq_true g1]
    exact Ev.step (fun _ => laws_FnEscapeTwice.j0.eq_2 _ _ _ _) (Ev.pos rfl (Ev.now _))
  rw [decide_eq_false g1]
  rw [B_size] at g0 g1
  refine Ev.step (fun _ => laws_FnEscapeTwice.j0.eq_2 _ _ _ _) (Ev.neg (by simp) ?_)
  obtain ⟨b, hb⟩ := ascii_f s h0
  refine Ev.bind hb ?_
  cases b
  · exact Ev.neg (by simp) hawake
  refine Ev.pos rfl ?_
  obtain ⟨b, hb⟩ := ascii_f t h1
  refine Ev.bind hb ?_
  cases b
  · exact Ev.neg (by simp) hawake
  refine Ev.pos rfl (Ev.bind (Apart_f s h0) ?_)
  cases hA : apart [] 32 s
  · exact Ev.neg (by simp) hawake
  refine Ev.pos rfl (Ev.bind (Apart_f t h1) ?_)
  cases hT : apart [] 32 t
  · exact hawake
  refine Ev.step (fun _ => laws_FnEscapeTwice.j1.eq_2 _ _ _ _) (Ev.neg (by simp) ?_)
  refine Ev.bind (EscapeAssertion_f s hA h0) (Ev.bind (EscapeAssertion_f t hT h1) ?_)
  rw [show (⟨#[32]⟩ : ByteArray) = B [32] from rfl]
  simp only [B_app, B_size, B_toList, List.length_append, List.length_cons, List.length_nil, esc_len, List.append_assoc, List.cons_append, List.nil_append]
  refine Ev.pos (by omega) (Ev.pos (by omega) ?_)
  refine Ev.bind (EscapeAssertion_f (s ++ 32 :: t) (by rw [apart_join, hA, hT]; rfl) (by simp <;> omega)) ?_
  refine Ev.pos (by omega) (Ev.pos (by omega) (Ev.pos ?_ (Ev.bind awake (Ev.now _))))
  rw [B_toList, esc_join]

end Go.Proofs.Ytdhmlcnlklcofaa.Pure
