/- For every text: laws.FnComments answers true (the plain statement behind its walk). No condition beyond the form's own sizes. -/
import Derived.Test.YtnbcohabllkneaaDoorOFnCommentsx4
import Derived.Test.YtnbcohabllkneaaDoorBase
set_option linter.unusedSimpArgs false
set_option linter.unusedVariables false
namespace Go.Proofs.YtnbcohabllkneaaDoor.Pure
open Go.RowKit Go.Proofs.YtnbcohabllkneaaDoor.PFnComments Go.Proofs.YtnbcohabllkneaaDoorW.PrintWords Go.Proofs.YtnbcohabllkneaaDoorW.PrintLast Go.Proofs.YtnbcohabllkneaaDoor.Base

theorem awake : Ev laws_awakeUtil.f true := Ev.of laws_awakeUtil.mono (k := 30) (by decide +kernel)

/-- a text of few bytes, each from 1 to 126 -/
def plainText (s : List UInt8) : Prop := s.length ≤ 300 ∧ ∀ c ∈ s, c ≠ 0 ∧ c.toNat ≤ 126
theorem ascii_loop (l : List UInt8) : ∀ p : List UInt8, p.length + l.length ≤ 140737488351232 → ∃ b, Ev (fun k => laws_ascii.l0 k (B (p ++ l)) (p.length : Int)) b ∧ (b = true → (p ++ l).length ≤ 300 ∧ ∀ c ∈ l, c ≠ 0 ∧ c.toNat ≤ 126) := by
  induction l with
  | nil =>
    intro p _
    refine ⟨_, Ev.step (fun _ => laws_ascii.l0.eq_2 _ _ _) (Ev.neg (by rw [B_size]; simp) (Ev.step (fun _ => laws_ascii.j1.eq_2 _ _ _ _) (Ev.neg (by simp) (Ev.now _)))), fun h => ⟨?_, fun c hc => by cases hc⟩⟩
    rw [B_size, decide_eq_true_eq] at h
    omega
  | cons c l ih =>
    intro p hp
    simp only [List.length_cons] at hp
    obtain ⟨b, hb, hq⟩ := ih (p ++ [c]) (by simp <;> omega)
    simp only [List.append_assoc, List.cons_append, List.nil_append, List.length_append, List.length_cons, List.length_nil] at hb hq
    have hmain : ∃ b, Ev (fun k => laws_ascii.j1 k (B (p ++ c :: l)) (p.length : Int) (decide ((p.length : Int) ≤ 300))) b ∧ (b = true → (p ++ c :: l).length ≤ 300 ∧ ∀ x ∈ c :: l, x ≠ 0 ∧ x.toNat ≤ 126) := by
      by_cases h3 : (p.length : Int) ≤ 300
      · rw [decide_eq_true h3]
        by_cases h0 : (c.toNat : Int) = 0
        · exact ⟨_, Ev.step (fun _ => laws_ascii.j1.eq_2 _ _ _ _) (Ev.pos rfl (Ev.pos (by omega) (Ev.pos (by rw [B_size]; simp <;> omega) (Ev.pos (by rw [bt_mid p l c _ rfl]; exact h0) (Ev.now _))))), fun e => by cases e⟩
        · by_cases h1 : (c.toNat : Int) > 126
          · exact ⟨_, Ev.step (fun _ => laws_ascii.j1.eq_2 _ _ _ _) (Ev.pos rfl (Ev.pos (by omega) (Ev.pos (by rw [B_size]; simp <;> omega) (Ev.neg (by rw [bt_mid p l c _ rfl]; exact h0) (Ev.pos (by rw [bt_mid p l c _ rfl]; exact h1) (Ev.now _)))))), fun e => by cases e⟩
          · refine ⟨b, Ev.step (fun _ => laws_ascii.j1.eq_2 _ _ _ _) (Ev.pos rfl (Ev.pos (by omega) (Ev.pos (by rw [B_size]; simp <;> omega) (Ev.neg (by rw [bt_mid p l c _ rfl]; exact h0) (Ev.neg (by rw [bt_mid p l c _ rfl]; exact h1) ?_))))), fun e => ?_⟩
            · rw [w64 (by omega) (by omega)]
              exact hb
            · obtain ⟨q1, q2⟩ := hq e
              refine ⟨by simp at q1 ⊢; omega, fun x hx => ?_⟩
              rcases List.mem_cons.1 hx with rfl | hx
              · exact ⟨fun e => h0 (by rw [e]; rfl), by omega⟩
              · exact q2 x hx
      · rw [decide_eq_false h3]
        refine ⟨_, Ev.step (fun _ => laws_ascii.j1.eq_2 _ _ _ _) (Ev.neg (by simp) (Ev.now _)), fun h => ?_⟩
        rw [B_size, decide_eq_true_eq] at h
        simp at h
        omega
    obtain ⟨b', hb', hq'⟩ := hmain
    exact ⟨b', Ev.step (fun _ => laws_ascii.l0.eq_2 _ _ _) (Ev.pos (by rw [B_size]; simp <;> omega) hb'), hq'⟩
theorem ascii_f (s : List UInt8) (h : s.length ≤ 140737488351232) : ∃ b, Ev (fun k => laws_ascii.f k (B s)) b ∧ (b = true → plainText s) := by
  obtain ⟨b, hb, hq⟩ := ascii_loop s [] (by simpa using h)
  exact ⟨b, hb, fun e => by simpa [plainText] using hq e⟩

/-- where the first # of the rest stands: its place, or -1 -/
def hash : List UInt8 → Nat → Int
  | [], _ => -1
  | c :: l, i => if c = 35 then (i : Int) else hash l (i + 1)
theorem hash_range (l : List UInt8) : ∀ i, hash l i = -1 ∨ ((i : Int) ≤ hash l i ∧ hash l i < (i : Int) + l.length) := by
  induction l with
  | nil => intro i; left; rfl
  | cons c l ih =>
    intro i
    by_cases h : c = 35
    · right; rw [hash, if_pos h]; simp only [List.length_cons]; omega
    · rw [hash, if_neg h]
      have := ih (i + 1)
      simp only [List.length_cons]
      omega

theorem zzIndex_hash (q : List UInt8) : ∀ p : List UInt8, p.length + q.length ≤ 140737488351232 * 8 →
    Ev (fun k => util_zzIndex.l0 k (B (p ++ q)) (⟨#[35]⟩ : ByteArray) (p.length : Int)) (hash q p.length) := by
  induction q with
  | nil =>
    intro p hp
    simp only [List.length_nil] at hp
    refine Ev.step (fun _ => util_zzIndex.l0.eq_2 _ _ _ _) (Ev.neg ?_ (Ev.now _))
    rw [show (⟨#[35]⟩ : ByteArray) = B [35] from rfl, B_size, B_size, w64 (by simp; omega) (by simp; omega)]
    simp only [List.length_append, List.length_cons, List.length_nil]
    omega
  | cons c q ih =>
    intro p hp
    simp only [List.length_cons] at hp
    have hs : wrap64 ((p.length : Int) + ((⟨#[35]⟩ : ByteArray).size : Int)) = (p.length : Int) + 1 := by
      rw [show (⟨#[35]⟩ : ByteArray) = B [35] from rfl, B_size, w64 (by simp; omega) (by simp; omega)]
      simp
    have hx : wrap64 ((p.length : Int) + 1) = (p.length : Int) + 1 := w64 (by omega) (by omega)
    refine Ev.step (fun _ => util_zzIndex.l0.eq_2 _ _ _ _) ?_
    rw [hs, hx]
    refine Ev.pos (by rw [B_size]; simp; omega) (Ev.pos (by omega) (Ev.pos (by omega) ?_))
    rw [ext_mid p q c _ _ (by omega) (by omega), B_toList, show (⟨#[35]⟩ : ByteArray) = B [35] from rfl, B_toList]
    by_cases h : c = 35
    · rw [hash, if_pos h]
      exact Ev.pos (by rw [h]) (Ev.now _)
    · rw [hash, if_neg h]
      refine Ev.neg (by simpa using h) ?_
      have := ih (p ++ [c]) (by simp; omega)
      simpa [show (⟨#[35]⟩ : ByteArray) = B [35] from rfl] using this
theorem zzIndex_hf (l : List UInt8) (h : l.length ≤ 140737488351232 * 8) : Ev (fun k => util_zzIndex.f k (B l) (⟨#[35]⟩ : ByteArray)) (hash l 0) := by
  have := zzIndex_hash l [] (by simpa using h)
  exact this

/-- what stands ahead of the first # -/
def unc (l : List UInt8) : List UInt8 := if hash l 0 = -1 then l else l.take (hash l 0).toNat
theorem Unc_loop (q : List UInt8) : ∀ p : List UInt8, p.length + q.length ≤ 140737488351232 →
    Ev (fun k => spec_Uncommented.l0 k (B (p ++ q)) (p.length : Int)) (if hash q p.length = -1 then (B (p ++ q), false) else (B ((p ++ q).take (hash q p.length).toNat), true)) := by
  induction q with
  | nil =>
    intro p hp
    refine Ev.step (fun _ => spec_Uncommented.l0.eq_2 _ _ _) (Ev.neg (by rw [B_size]; simp) ?_)
    rw [show hash [] p.length = -1 from rfl, if_pos rfl]
    exact Ev.now _
  | cons c q ih =>
    intro p hp
    simp only [List.length_cons] at hp
    refine Ev.step (fun _ => spec_Uncommented.l0.eq_2 _ _ _) (Ev.pos (by rw [B_size]; simp <;> omega) (Ev.pos (by omega) ?_))
    rw [bt_mid p q c _ rfl, w64 (by omega) (by omega)]
    by_cases h : c = 35
    · have e : hash (c :: q) p.length = (p.length : Int) := by rw [hash, if_pos h]
      refine Ev.pos (by rw [h]; rfl) (Ev.pos (by rw [B_size]; simp <;> omega) ?_)
      rw [e, if_neg (by omega), B_ext]
      simp only [List.drop_zero, Nat.sub_zero]
      exact Ev.now _
    · have e : hash (c :: q) p.length = hash q (p.length + 1) := by rw [hash, if_neg h]
      refine Ev.neg (fun z => h ((byte_eq c 35 (by omega)).1 z)) ?_
      rw [e]
      have := ih (p ++ [c]) (by simp; omega)
      simpa using this
theorem Unc_f (l : List UInt8) (h : l.length ≤ 140737488351232) : ∃ b, Ev (fun k => spec_Uncommented.f k (B l)) (B (unc l), b) := by
  have := Unc_loop l [] (by simpa using h)
  simp only [List.nil_append, List.length_nil] at this
  unfold unc
  by_cases g : hash l 0 = -1
  · rw [if_pos g] at this ⊢
    exact ⟨false, this⟩
  · rw [if_neg g] at this ⊢
    exact ⟨true, this⟩
theorem Blank_f (c : UInt8) : spec_Blank.f (c.toNat : Int) = some (Lib.isSp c) := by
  have key : ∀ n : Nat, n < 256 → ((c.toNat : Int) = (n : Int) ↔ c = n.toUInt8) := fun n hn => byte_eq c n hn
  have k32 : (c.toNat : Int) = 32 ↔ c = 32 := key 32 (by omega)
  have k9 : (c.toNat : Int) = 9 ↔ c = 9 := key 9 (by omega)
  have k10 : (c.toNat : Int) = 10 ↔ c = 10 := key 10 (by omega)
  have k13 : (c.toNat : Int) = 13 ↔ c = 13 := key 13 (by omega)
  have k12 : (c.toNat : Int) = 12 ↔ c = 12 := key 12 (by omega)
  have k11 : (c.toNat : Int) = 11 ↔ c = 11 := key 11 (by omega)
  unfold spec_Blank.f Lib.isSp
  by_cases h1 : c = 32
  · rw [if_pos (k32.2 h1)]; subst h1; rfl
  rw [if_neg (fun z => h1 (k32.1 z))]
  by_cases h2 : c = 9
  · rw [if_pos (k9.2 h2)]; subst h2; rfl
  rw [if_neg (fun z => h2 (k9.1 z))]
  by_cases h3 : c = 10
  · rw [if_pos (k10.2 h3)]; subst h3; rfl
  rw [if_neg (fun z => h3 (k10.1 z))]
  by_cases h4 : c = 13
  · rw [if_pos (k13.2 h4)]; subst h4; rfl
  rw [if_neg (fun z => h4 (k13.1 z))]
  by_cases h5 : c = 12
  · rw [if_pos (k12.2 h5)]; subst h5; rfl
  rw [if_neg (fun z => h5 (k12.1 z))]
  congr 1
  by_cases h6 : c = 11
  · subst h6; rfl
  · have e1 : ((c.toNat : Int) == 11) = false := beq_eq_false_iff_ne.2 (fun z => h6 (k11.1 z))
    rw [e1]
    simp [h1, h2, h3, h4, h5, h6]
theorem Trim_l1 (r : List UInt8) : r.length ≤ 140737488351232 → Ev (fun k => spec_Trim.l1 k (B r.reverse)) (B (r.dropWhile Lib.isSp).reverse) := by
  induction r with
  | nil =>
    intro _
    exact Ev.step (fun _ => spec_Trim.l1.eq_2 _ _) (Ev.neg (by rw [B_size]; simp) (Ev.now _))
  | cons c r ih =>
    intro h
    simp only [List.length_cons] at h
    have hs : ((B (c :: r).reverse).size : Int) = (r.length : Int) + 1 := by rw [B_size]; simp
    have hw : wrap64 ((r.length : Int) + 1 - 1) = (r.length : Int) := by rw [w64 (by omega) (by omega)]; omega
    have hb : bt (B (c :: r).reverse) (r.length : Int) = (c.toNat : Int) := by
      rw [List.reverse_cons]
      exact bt_mid r.reverse [] c _ (by simp)
    have hx : (B (c :: r).reverse).extract 0 ((r.length : Int)).toNat = B r.reverse := by
      rw [B_ext, List.reverse_cons]
      simp
    refine Ev.step (fun _ => spec_Trim.l1.eq_2 _ _) ?_
    rw [hs, hw, hb]
    refine Ev.pos (by omega) (Ev.pos (by omega) (Ev.pos (by omega) (Ev.bind (Ev.const (Blank_f c)) ?_)))
    cases e : Lib.isSp c with
    | true =>
      refine Ev.pos rfl (Ev.pos (by omega) ?_)
      rw [hx, List.dropWhile_cons_of_pos e]
      exact ih (by omega)
    | false =>
      refine Ev.neg (by simp) ?_
      rw [List.dropWhile_cons_of_neg (by simp [e])]
      exact Ev.now _
theorem Trim_f (l : List UInt8) : l.length ≤ 140737488351232 → Ev (fun k => spec_Trim.f k (B l)) (B (Lib.trimSpace l)) := by
  have last : ∀ m : List UInt8, m.length ≤ 140737488351232 → Ev (fun k => spec_Trim.j1 k (B m)) (B ((m.reverse.dropWhile Lib.isSp).reverse)) := by
    intro m hm
    refine Ev.step (fun _ => spec_Trim.j1.eq_2 _ _) ?_
    have := Trim_l1 m.reverse (by simpa using hm)
    rwa [List.reverse_reverse] at this
  unfold spec_Trim.f Lib.trimSpace
  induction l with
  | nil =>
    intro _
    exact Ev.step (fun _ => spec_Trim.l0.eq_2 _ _) (Ev.neg (by rw [B_size]; simp) (last [] (by simp)))
  | cons c l ih =>
    intro h
    simp only [List.length_cons] at h
    have hb : bt (B (c :: l)) 0 = (c.toNat : Int) := bt_mid [] l c 0 rfl
    have hs : ((B (c :: l)).size : Int) = (l.length : Int) + 1 := by rw [B_size]; simp
    refine Ev.step (fun _ => spec_Trim.l0.eq_2 _ _) ?_
    rw [hs, hb]
    refine Ev.pos (by omega) (Ev.pos (by omega) (Ev.bind (Ev.const (Blank_f c)) ?_))
    cases e : Lib.isSp c with
    | true =>
      refine Ev.pos rfl (Ev.pos (by omega) ?_)
      have hx : (B (c :: l)).extract 1 (B (c :: l)).size = B l := by
        rw [B_size, B_ext]
        simp
      rw [hx, List.dropWhile_cons_of_pos e]
      exact ih (by omega)
    | false =>
      refine Ev.neg (by simp) ?_
      rw [List.dropWhile_cons_of_neg (by simp [e])]
      exact last (c :: l) (by simp; omega)
theorem dw_head (p : UInt8 → Bool) : ∀ l : List UInt8, l.dropWhile p = [] ∨ ∃ c t, l.dropWhile p = c :: t ∧ p c = false
  | [] => .inl rfl
  | c :: l => by
    cases e : p c with
    | true => rw [List.dropWhile_cons_of_pos e]; exact dw_head p l
    | false => rw [List.dropWhile_cons_of_neg (by simp [e])]; exact .inr ⟨c, l, rfl, e⟩
theorem dw_self (p : UInt8 → Bool) (x : List UInt8) (h : x = [] ∨ ∃ c t, x = c :: t ∧ p c = false) : x.dropWhile p = x := by
  rcases h with rfl | ⟨c, t, rfl, e⟩
  · rfl
  · rw [List.dropWhile_cons_of_neg (by simp [e])]
theorem trim_trim (l : List UInt8) : Lib.trimSpace (Lib.trimSpace l) = Lib.trimSpace l := by
  have h1 : (Lib.trimSpace l).dropWhile Lib.isSp = Lib.trimSpace l := by
    apply dw_self
    unfold Lib.trimSpace
    obtain ⟨m, hm⟩ : ∃ m, m = l.dropWhile Lib.isSp := ⟨_, rfl⟩
    rw [← hm]
    have hpre : (m.reverse.dropWhile Lib.isSp).reverse <+: m := by
      have := List.dropWhile_suffix (l := m.reverse) Lib.isSp
      have h2 := List.reverse_prefix.2 this
      rwa [List.reverse_reverse] at h2
    cases hx : (m.reverse.dropWhile Lib.isSp).reverse with
    | nil => exact .inl rfl
    | cons c t =>
      rw [hx] at hpre
      obtain ⟨u, hu⟩ := hpre
      rcases dw_head Lib.isSp l with e | ⟨c', t', e, hc⟩
      · rw [← hm] at e
        rw [e] at hu
        simp at hu
      · rw [← hm] at e
        rw [e] at hu
        simp only [List.cons_append, List.cons.injEq] at hu
        exact .inr ⟨c, t, rfl, by rw [hu.1]; exact hc⟩
  have h2 : (Lib.trimSpace l).reverse.dropWhile Lib.isSp = (Lib.trimSpace l).reverse := by
    apply dw_self
    unfold Lib.trimSpace
    rw [List.reverse_reverse]
    exact dw_head Lib.isSp _
  show (((Lib.trimSpace l).dropWhile Lib.isSp).reverse.dropWhile Lib.isSp).reverse = Lib.trimSpace l
  rw [h1, h2, List.reverse_reverse]
theorem trim_length (l : List UInt8) : (Lib.trimSpace l).length ≤ l.length := by
  unfold Lib.trimSpace
  rw [List.length_reverse]
  have h1 := (List.dropWhile_suffix (l := (l.dropWhile Lib.isSp).reverse) Lib.isSp).length_le
  have h2 := (List.dropWhile_suffix (l := l) Lib.isSp).length_le
  rw [List.length_reverse] at h1
  omega
theorem Comments_f (l : List UInt8) (h : plainText l) : ∃ m : List UInt8, Ev (fun k => impl_RemoveComments.f k (B l)) (B m) ∧ Lib.trimSpace m = Lib.trimSpace (unc l) ∧ m.length ≤ 300 := by
  obtain ⟨hl, hc⟩ := h
  unfold impl_RemoveComments.f util_RemoveComments.f unc
  rcases hash_range l 0 with g | ⟨g0, g1⟩
  · rw [if_pos g]
    exact ⟨l, Ev.bind (Ev.bind (zzIndex_hf l (by omega)) (Ev.pos g (Ev.now _))) (Ev.now _), rfl, hl⟩
  · rw [if_neg (by omega)]
    refine ⟨Lib.trimSpace (l.take (hash l 0).toNat), Ev.bind (Ev.bind (zzIndex_hf l (by omega)) (Ev.neg (by omega) (Ev.pos (by omega) (Ev.pos (by rw [B_size]; omega) ?_)))) (Ev.now _), trim_trim _, ?_⟩
    · rw [B_ext]
      simp only [List.drop_zero, Nat.sub_zero]
      refine Ev.bind (Ev.const ?_) (Ev.now _)
      unfold strings_TrimSpace.f
      have c1 : ((B (l.take (hash l 0).toNat)).data.toList.all fun b => decide (b.toNat < 128)) = true := by
        rw [data_B, List.all_eq_true]
        intro c hcm
        have := (hc c (List.mem_of_mem_take hcm)).2
        exact decide_eq_true (by omega)
      have c2 : (B (l.take (hash l 0).toNat)).size ≤ 9223372036854775807 := by
        rw [B_size]
        have := List.length_take_le (hash l 0).toNat l
        omega
      rw [if_pos ⟨c1, c2⟩, data_B]
      rfl
    · have h1 := trim_length (l.take (hash l 0).toNat)
      have h2 : (l.take (hash l 0).toNat).length ≤ l.length := by simp; omega
      omega
theorem FnComments : laws_FnComments.Pure := by
  intro s hs
  obtain ⟨l, rfl⟩ := exists_B s
  rw [B_size] at hs
  refine Ev.rounds (g := fun k => laws_FnComments.f k (B l)) ?_
  unfold laws_FnComments.f
  by_cases g : ((B l).size : Int) > 2147483647
  · exact Ev.pos g (Ev.now _)
  refine Ev.neg g ?_
  obtain ⟨b, hb, hp⟩ := ascii_f l hs
  refine Ev.bind hb ?_
  cases b
  · exact Ev.neg (by simp) (Ev.bind awake (Ev.now _))
  refine Ev.pos rfl ?_
  have hpl := hp rfl
  obtain ⟨b2, hu⟩ := Unc_f l hs
  obtain ⟨m, hm, he, hml⟩ := Comments_f l hpl
  have hul : (unc l).length ≤ l.length := by
    unfold unc
    by_cases z : hash l 0 = -1
    · rw [if_pos z]; omega
    · rw [if_neg z]; simp; omega
  refine Ev.bind hu (Ev.bind hm (Ev.bind (Trim_f m (by omega)) (Ev.bind (Trim_f (unc l) (by omega)) ?_)))
  rw [he]
  exact Ev.pos rfl (Ev.bind awake (Ev.now _))

end Go.Proofs.YtnbcohabllkneaaDoor.Pure
