/- The plain side of laws.FnConfigValues: the text that ConfText writes reads back, as a list, as a truth, as a whole number, as what is meant. No further condition. -/
import Derived.Test.YtbomcdnijklgjaaGreatDoorOFnConfigValuesx11
import Derived.Test.YtbomcdnijklgjaaGreatDoorBase
import Derived.Test.YtbomcdnijklgjaaGreatDoorOpens
set_option linter.unusedSimpArgs false
set_option linter.unusedVariables false
namespace Go.Proofs.YtbomcdnijklgjaaGreatDoor.Pure
open Go.RowKit Go.Proofs.YtbomcdnijklgjaaGreatDoor.PFnConfigValues Go.Proofs.YtbomcdnijklgjaaGreatDoorW.PrintWords Go.Proofs.YtbomcdnijklgjaaGreatDoorW.PrintLast Go.Proofs.YtbomcdnijklgjaaGreatDoor.Base

theorem zzFits10_loopS (q : List ByteArray) : ∀ p : List ByteArray, p.length + q.length ≤ 9223372036854775807 → ∃ b, Ev (fun k => laws_zzFits10.l0 k (p ++ q) (((p ++ q).length : Nat) : Int) (p.length : Int)) b ∧ (b = true → ∀ v ∈ q, v.size ≤ 2147483647) := by
  induction q with
  | nil => intro p _; exact ⟨_, Ev.step (fun _ => laws_zzFits10.l0.eq_2 _ _ _ _) (Ev.neg (by simp) (Ev.now _)), by simp⟩
  | cons c q ih =>
    intro p hp
    simp only [List.length_cons] at hp
    obtain ⟨b, hb, hs⟩ := ih (p ++ [c]) (by simp <;> omega)
    by_cases h : (c.size : Int) > 2147483647
    · exact ⟨_, Ev.step (fun _ => laws_zzFits10.l0.eq_2 _ _ _ _) (Ev.pos (by simp <;> omega) (Ev.pos (by omega) (Ev.pos (by simp <;> omega) (Ev.pos (by rw [rdOf_mid _ p q c _ rfl]; exact h) (Ev.now _))))), by simp⟩
    · refine ⟨b, Ev.step (fun _ => laws_zzFits10.l0.eq_2 _ _ _ _) (Ev.pos (by simp <;> omega) (Ev.pos (by omega) (Ev.pos (by simp <;> omega) (Ev.neg (by rw [rdOf_mid _ p q c _ rfl]; exact h) ?_)))), ?_⟩
      · rw [w64 (by omega) (by omega)]
        simpa using hb
      · intro hb v hv
        rcases List.mem_cons.1 hv with rfl | hv
        · omega
        · exact hs hb v hv
theorem zzFits10_s (l : List ByteArray) (h : l.length ≤ 9223372036854775807) : ∃ b, Ev (fun k => laws_zzFits10.f k l) b ∧ (b = true → ∀ v ∈ l, v.size ≤ 2147483647) := by
  by_cases g : (l.length : Int) > 2147483647
  · exact ⟨_, Ev.pos g (Ev.now _), by simp⟩
  · obtain ⟨b, hb, hs⟩ := zzFits10_loopS l [] (by simpa using h)
    exact ⟨b, Ev.neg g hb, hs⟩

theorem SameList_loop (q : List ByteArray) : ∀ (p q' : List ByteArray), q.length = q'.length → p.length + q.length ≤ 9223372036854775807 →
    Ev (fun k => spec_SameList.l0 k (p ++ q) (p ++ q') (p.length : Int)) (decide (q = q')) := by
  induction q with
  | nil =>
    intro p q' h _
    cases q' with
    | nil => exact Ev.step (fun _ => spec_SameList.l0.eq_2 _ _ _ _) (Ev.neg (by simp) (Ev.now _))
    | cons _ _ => simp at h
  | cons c q ih =>
    intro p q' h hp
    cases q' with
    | nil => simp at h
    | cons d q' =>
      simp only [List.length_cons] at hp h
      refine Ev.step (fun _ => spec_SameList.l0.eq_2 _ _ _ _) (Ev.pos (by simp <;> omega) (Ev.pos (by omega) (Ev.pos (by simp <;> omega) ?_)))
      rw [rdOf_mid _ p q c _ rfl, rdOf_mid _ p q' d _ rfl, w64 (by omega) (by omega)]
      by_cases e : c = d
      · subst e
        refine Ev.pos rfl ?_
        have := ih (p ++ [c]) q' (by omega) (by simp <;> omega)
        simpa using this
      · refine Ev.neg (fun x => e ((toList_iff _ _).1 x)) ?_
        rw [show decide (c :: q = d :: q') = false from by simp [e]]
        exact Ev.now _
theorem SameList_f (l m : List ByteArray) (h : l.length ≤ 9223372036854775807) : Ev (fun k => spec_SameList.f k l m) (decide (l = m)) := by
  by_cases g : (l.length : Int) = (m.length : Int)
  · exact Ev.pos g (SameList_loop l [] m (by omega) (by simpa using h))
  · rw [show decide (l = m) = false from by simp; rintro rfl; exact g rfl]
    exact Ev.neg g (Ev.now _)

/-! ### What a written configuration is read as -/
/-- a part of a value -/
structure Val (v : List UInt8) : Prop where
  ok : ∀ c ∈ v, 32 ≤ c.toNat ∧ c.toNat ≤ 126 ∧ c ≠ 35 ∧ c ≠ 59 ∧ c ≠ 92
  ne : v ≠ []
  len : v.length ≤ 80
  hd : v.head? ≠ some 32
  tl : v.getLast? ≠ some 32
/-- a small word -/
structure Sml (v : List UInt8) : Prop where
  ok : ∀ c ∈ v, (97 ≤ c.toNat ∧ c.toNat ≤ 122) ∨ (48 ≤ c.toNat ∧ c.toNat ≤ 57) ∨ c.toNat = 95
  ne : v ≠ []
  len : v.length ≤ 30
theorem sp_iff (c : UInt8) (h : 32 ≤ c.toNat) : Lib.isSp c = true ↔ c = 32 := by
  unfold Lib.isSp
  constructor
  · intro e
    simp only [Bool.or_eq_true, beq_iff_eq] at e
    rcases e with ((((rfl | rfl) | rfl) | rfl) | rfl) | rfl
    all_goals first | rfl | exact absurd h (by decide)
  · rintro rfl; rfl
theorem trim_same (l : List UInt8) (h1 : ∀ c, l.head? = some c → Lib.isSp c = false) (h2 : ∀ c, l.getLast? = some c → Lib.isSp c = false) : Lib.trimSpace l = l := by
  unfold Lib.trimSpace
  have e1 : l.dropWhile Lib.isSp = l := by
    cases l with
    | nil => rfl
    | cons c r => rw [List.dropWhile_cons, h1 c rfl]; rfl
  rw [e1]
  have e2 : l.reverse.dropWhile Lib.isSp = l.reverse := by
    cases hr : l.reverse with
    | nil => rfl
    | cons c r =>
      have : l.getLast? = some c := by rw [List.getLast?_eq_head?_reverse, hr]; rfl
      rw [List.dropWhile_cons, h2 c this]; rfl
  rw [e2, List.reverse_reverse]
theorem trim_behead (c : UInt8) (l : List UInt8) (h : Lib.isSp c = true) : Lib.trimSpace (c :: l) = Lib.trimSpace l := by
  unfold Lib.trimSpace
  rw [List.dropWhile_cons, if_pos h]
theorem trim_head (c : UInt8) (l : List UInt8) (h : Lib.isSp c = false) : (Lib.trimSpace (c :: l)).head? = some c := by
  unfold Lib.trimSpace
  rw [List.dropWhile_cons, h]
  simp only [Bool.false_eq_true, if_false, List.reverse_cons]
  generalize l.reverse = m
  have key : ∀ m : List UInt8, ((m ++ [c]).dropWhile Lib.isSp).reverse.head? = some c := by
    intro m
    induction m with
    | nil => simp [List.dropWhile_cons, h]
    | cons x m ih =>
      rw [List.cons_append, List.dropWhile_cons]
      split
      · exact ih
      · simp
  exact key m
theorem not32 {c : UInt8} (h : 32 ≤ c.toNat) (h2 : c ≠ 32) : Lib.isSp c = false := by
  rw [Bool.eq_false_iff]
  intro e
  exact h2 ((sp_iff c h).1 e)
theorem Sml.nat {v : List UInt8} (h : Sml v) : ∀ c ∈ v, 48 ≤ c.toNat ∧ c.toNat ≤ 122 ∧ c ≠ 59 ∧ c ≠ 61 ∧ c ≠ 91 ∧ c ≠ 92 ∧ c ≠ 93 ∧ c ≠ 58 := by
  intro c hc
  have h1 := h.ok c hc
  refine ⟨by omega, by omega, ?_, ?_, ?_, ?_, ?_, ?_⟩ <;> (rintro rfl; revert h1; decide)
theorem head_mem {l : List UInt8} {c : UInt8} (h : l.head? = some c) : c ∈ l := by cases l with
  | nil => cases h
  | cons x r => cases h; simp
theorem last_mem {l : List UInt8} {c : UInt8} (h : l.getLast? = some c) : c ∈ l := by
  rw [List.getLast?_eq_head?_reverse] at h
  have := head_mem h
  simpa using this
theorem last_app (a : List UInt8) {b : List UInt8} (hb : b ≠ []) : (a ++ b).getLast? = b.getLast? := by
  rw [List.getLast?_append]
  cases h : b.getLast? with
  | none => rw [List.getLast?_eq_none_iff] at h; exact absurd h hb
  | some c => rfl
theorem head_app {a : List UInt8} (b : List UInt8) (ha : a ≠ []) : (a ++ b).head? = a.head? := by
  cases a with
  | nil => exact absurd rfl ha
  | cons x r => rfl
theorem noteCut_id {l : List UInt8} (h : ∀ c ∈ l, c ≠ 35 ∧ c ≠ 59) : noteCut l = l := by
  unfold noteCut
  induction l with
  | nil => rfl
  | cons x l ih =>
    have hx : (x != 35 && x != 59) = true := by simpa using h x (by simp)
    rw [List.takeWhile_cons, if_pos hx, ih (fun c hc => h c (List.mem_cons_of_mem _ hc))]
/-- behind a line: what is to be flushed gives D -/
structure Bd (s : PS) (sec : ByteArray) (D : Conf) : Prop where
  fl : flushP s = some ⟨sec, [], false, D⟩
  cw : s.buf ≠ [] → s.cw = true
  sc : s.sec = sec
theorem Bd.head {s : PS} {sec : ByteArray} {D : Conf} (h : Bd s sec D) : headP s = some ⟨sec, [], false, D⟩ := by
  unfold headP
  cases hc : s.cw with
  | true => rw [if_pos rfl]; exact h.fl
  | false =>
    rw [if_neg (by simp)]
    have hb : s.buf = [] := by
      by_cases hb : s.buf = []
      · exact hb
      · have := h.cw hb; rw [hc] at this; cases this
    have h1 := h.fl
    unfold flushP at h1
    rw [if_pos hb] at h1
    cases s
    simp only at hc hb
    subst hc hb
    exact h1
theorem bd_empty (sec : ByteArray) (cw : Bool) (D : Conf) : Bd ⟨sec, [], cw, D⟩ sec D := ⟨by simp [flushP], fun h => absurd rfl h, rfl⟩
theorem step_note {s : PS} {sec : ByteArray} {D : Conf} (h : Bd s sec D) (c : UInt8) (hc : c = 35 ∨ c = 59) (ln : List UInt8) : stepP s (c :: ln) = some ⟨sec, [], true, D⟩ := by
  unfold stepP
  rw [h.head, Option.bind_some]
  unfold bodyP
  have h1 := trim_head c ln (by rcases hc with rfl | rfl <;> decide)
  rw [if_pos]
  rcases hc with rfl | rfl
  · exact .inr (.inr h1)
  · exact .inr (.inl h1)
theorem step_blank {s : PS} {sec : ByteArray} {D : Conf} (h : Bd s sec D) : stepP s [] = some ⟨sec, [], true, D⟩ := by
  unfold stepP
  rw [h.head, Option.bind_some]
  rfl
theorem step_sect {s : PS} {sec : ByteArray} {D : Conf} (h : Bd s sec D) {name : List UInt8} (hn : Sml name) : stepP s (91 :: (name ++ [93])) = some ⟨B name, [], false, D⟩ := by
  unfold stepP
  rw [h.head, Option.bind_some, trim_same (91 :: (name ++ [93])) (by rintro c hc; cases hc; decide) (by
    intro c hc
    rw [show (91 : UInt8) :: (name ++ [93]) = (91 :: name) ++ [93] from rfl, last_app _ (by simp)] at hc
    cases hc; decide)]
  unfold bodyP
  have hl : ((91 : UInt8) :: (name ++ [93])).getLast? = some 93 := by
    rw [show (91 : UInt8) :: (name ++ [93]) = (91 :: name) ++ [93] from rfl, last_app _ (by simp)]; rfl
  rw [if_neg (by simp), if_pos ⟨rfl, hl⟩]
  simp [flushP, B]
theorem body_last (s : PS) (l : List UInt8) (h0 : l ≠ []) (h1 : ∀ c ∈ l, c ≠ 35 ∧ c ≠ 59) (h2 : l.head? ≠ some 91) (h3 : l.getLast? ≠ some 92) : bodyP s l = some { s with buf := s.buf ++ l, cw := true } := by
  unfold bodyP
  rw [if_neg, if_neg (fun e => h2 e.1), if_neg h3, noteCut_id h1]
  rintro (e | e | e)
  · exact h0 e
  · exact (h1 _ (head_mem e)).2 rfl
  · exact (h1 _ (head_mem e)).1 rfl
theorem body_more (s : PS) (q : List UInt8) (h0 : q ≠ []) (h1 : ∀ c ∈ q, c ≠ 35 ∧ c ≠ 59) (h2 : q.head? ≠ some 91) (h3 : Lib.trimSpace q = q) : bodyP s (q ++ [32, 92]) = some { s with buf := s.buf ++ (q ++ [32]) } := by
  have hh : (q ++ [32, 92]).head? = q.head? := head_app _ h0
  have hl : (q ++ [32, 92]).getLast? = some 92 := last_app _ (by simp)
  have hd : (q ++ [32, 92]).dropLast = q ++ [32] := by
    rw [show q ++ [32, 92] = (q ++ [32]) ++ [92] from by simp, List.dropLast_concat]
  have ht : Lib.trimSpace (q ++ [32]) = q := by rw [trim_snoc _ _ (by decide), h3]
  unfold bodyP
  rw [hd, ht, if_neg, if_neg (fun e => h2 (hh ▸ e.1)), if_pos hl, if_neg h0, noteCut_id]
  · intro c hc
    rcases List.mem_append.1 hc with hc | hc
    · exact h1 c hc
    · obtain rfl := List.mem_singleton.1 hc
      decide
  · rw [hh]
    rintro (e | e | e)
    · simp at e
    · exact (h1 _ (head_mem e)).2 rfl
    · exact (h1 _ (head_mem e)).1 rfl
/-- an option's line: its key, =, a part -/
def optLine (key v : List UInt8) : List UInt8 := key ++ ([32, 61, 32] ++ v)
theorem Val.sp {v : List UInt8} (h : Val v) : ∀ c ∈ v, c ≠ 35 ∧ c ≠ 59 := fun c hc => ⟨(h.ok c hc).2.2.1, (h.ok c hc).2.2.2.1⟩
theorem optLine_ok {key v : List UInt8} (hk : Sml key) (hv : Val v) : (optLine key v) ≠ [] ∧ (∀ c ∈ optLine key v, c ≠ 35 ∧ c ≠ 59) ∧ (optLine key v).head? ≠ some 91 ∧ (optLine key v).getLast? = v.getLast? ∧ Lib.trimSpace (optLine key v) = optLine key v := by
  have hh : (optLine key v).head? = key.head? := head_app _ hk.ne
  have hl : (optLine key v).getLast? = v.getLast? := by
    unfold optLine
    rw [last_app _ (by simp), last_app _ hv.ne]
  refine ⟨by unfold optLine; simp [hk.ne], fun c hc => ?_, ?_, hl, trim_same _ (fun c hc => ?_) (fun c hc => ?_)⟩
  · unfold optLine at hc
    simp only [List.mem_append, List.mem_cons, List.not_mem_nil, or_false] at hc
    rcases hc with hc | (rfl | rfl | rfl) | hc
    · have h1 := hk.ok c hc
      constructor <;> (rintro rfl; revert h1; decide)
    · decide
    · decide
    · decide
    · exact hv.sp c hc
  · rw [hh]
    intro e
    exact (hk.nat _ (head_mem e)).2.2.2.2.1 rfl
  · rw [hh] at hc
    have := hk.nat c (head_mem hc)
    exact not32 (by omega) (by rintro rfl; exact absurd this.1 (by decide))
  · rw [hl] at hc
    exact not32 (hv.ok c (last_mem hc)).1 (by rintro rfl; exact hv.tl hc)
theorem Val.last92 {v : List UInt8} (h : Val v) : v.getLast? ≠ some 92 := fun e => (h.ok _ (last_mem e)).2.2.2.2 rfl
theorem step_one {s : PS} {sec : ByteArray} {D : Conf} (h : Bd s sec D) {key v : List UInt8} (hk : Sml key) (hv : Val v) : stepP s (optLine key v) = some ⟨sec, optLine key v, true, D⟩ := by
  obtain ⟨h0, h1, h2, h3, h4⟩ := optLine_ok hk hv
  unfold stepP
  rw [h.head, Option.bind_some, h4, body_last _ _ h0 h1 h2 (by rw [h3]; exact hv.last92)]
  rfl
theorem step_first {s : PS} {sec : ByteArray} {D : Conf} (h : Bd s sec D) {key v : List UInt8} (hk : Sml key) (hv : Val v) : stepP s (optLine key v ++ [32, 92]) = some ⟨sec, optLine key v ++ [32], false, D⟩ := by
  obtain ⟨h0, h1, h2, h3, h4⟩ := optLine_ok hk hv
  unfold stepP
  rw [h.head, Option.bind_some, trim_same, body_more _ _ h0 h1 h2 h4]
  · rfl
  · intro c hc
    rw [head_app _ h0] at hc
    have e := congrArg List.head? h4
    have hh : (optLine key v).head? = key.head? := head_app _ hk.ne
    rw [hh] at hc
    have := hk.nat c (head_mem hc)
    exact not32 (by omega) (by rintro rfl; exact absurd this.1 (by decide))
  · intro c hc
    rw [last_app _ (by simp)] at hc
    cases hc
    decide
theorem Val.trim {v : List UInt8} (h : Val v) : Lib.trimSpace v = v :=
  trim_same v (fun c hc => not32 (h.ok c (head_mem hc)).1 (by rintro rfl; exact h.hd hc)) (fun c hc => not32 (h.ok c (last_mem hc)).1 (by rintro rfl; exact h.tl hc))
theorem step_mid (sec : ByteArray) (buf : List UInt8) (D : Conf) {v : List UInt8} (hv : Val v) (h91 : v.head? ≠ some 91) : stepP ⟨sec, buf, false, D⟩ ([32, 32] ++ (v ++ [32, 92])) = some ⟨sec, buf ++ (v ++ [32]), false, D⟩ := by
  have ht : Lib.trimSpace ([32, 32] ++ (v ++ [32, 92])) = v ++ [32, 92] := by
    rw [show [32, 32] ++ (v ++ [32, 92]) = 32 :: 32 :: (v ++ [32, 92]) from rfl, trim_behead _ _ (by decide), trim_behead _ _ (by decide)]
    refine trim_same _ (fun c hc => ?_) (fun c hc => ?_)
    · rw [head_app _ hv.ne] at hc
      exact not32 (hv.ok c (head_mem hc)).1 (by rintro rfl; exact hv.hd hc)
    · rw [last_app _ (by simp)] at hc
      cases hc; decide
  unfold stepP
  simp only [headP, Bool.false_eq_true, if_false, Option.bind_some]
  rw [ht, body_more _ _ hv.ne hv.sp h91 hv.trim]
theorem step_last (sec : ByteArray) (buf : List UInt8) (D : Conf) {v : List UInt8} (hv : Val v) (h91 : v.head? ≠ some 91) : stepP ⟨sec, buf, false, D⟩ ([32, 32] ++ v) = some ⟨sec, buf ++ v, true, D⟩ := by
  have ht : Lib.trimSpace ([32, 32] ++ v) = v := by
    rw [show [32, 32] ++ v = 32 :: 32 :: v from rfl, trim_behead _ _ (by decide), trim_behead _ _ (by decide), hv.trim]
  unfold stepP
  simp only [headP, Bool.false_eq_true, if_false, Option.bind_some]
  rw [ht, body_last _ _ hv.ne hv.sp h91 hv.last92]
theorem run_line (s : PS) (ln r : List UInt8) (h : 10 ∉ ln) : runP s (ln ++ 10 :: r) = (stepP s ln).bind fun s' => runP s' r := by
  obtain ⟨h1, h2⟩ := line_found (ln ++ 10 :: r) ln.length (by simp) (by rw [List.take_left']; exact h; rfl)
  rw [List.take_left' rfl] at h1
  rw [show (ln ++ 10 :: r).drop (ln.length + 1) = r from by rw [← List.drop_drop, List.drop_left' rfl]; rfl] at h2
  cases hL : ln ++ 10 :: r with
  | nil => simp at hL
  | cons b t =>
    rw [hL] at h1 h2
    conv => lhs; unfold runP
    rw [h1, h2]
/-- texts with a separator between -/
def joinL (sep : List UInt8) : List (List UInt8) → List UInt8
  | [] => []
  | [p] => p
  | p :: q :: r => p ++ (sep ++ joinL sep (q :: r))
theorem joinL_ne {sep p : List UInt8} {r : List (List UInt8)} (hp : p ≠ []) : joinL sep (p :: r) ≠ [] := by
  cases r with
  | nil => exact hp
  | cons q r => simp [joinL, hp]
theorem joinL_head {sep p : List UInt8} {r : List (List UInt8)} (hp : p ≠ []) : (joinL sep (p :: r)).head? = p.head? := by
  cases r with
  | nil => rfl
  | cons q r => exact head_app _ hp
theorem joinL_last (sep : List UInt8) : ∀ (r : List (List UInt8)) (p : List UInt8), (∀ x ∈ p :: r, x ≠ []) → ∃ x ∈ p :: r, (joinL sep (p :: r)).getLast? = x.getLast?
  | [], p, _ => ⟨p, by simp, rfl⟩
  | q :: r, p, h => by
    obtain ⟨x, hx, e⟩ := joinL_last sep r q (fun x hx => h x (List.mem_cons_of_mem _ hx))
    refine ⟨x, List.mem_cons_of_mem _ hx, ?_⟩
    rw [← e]
    have h1 : joinL sep (q :: r) ≠ [] := joinL_ne (h q (by simp))
    show (p ++ (sep ++ joinL sep (q :: r))).getLast? = _
    rw [last_app _ (by simp [h1]), last_app _ h1]
theorem joinL_mem {sep : List UInt8} {c : UInt8} : ∀ {l : List (List UInt8)}, c ∈ joinL sep l → c ∈ sep ∨ ∃ x ∈ l, c ∈ x
  | [], h => by cases h
  | [p], h => .inr ⟨p, by simp, h⟩
  | p :: q :: r, h => by
    simp only [joinL, List.mem_append] at h
    rcases h with h | h | h
    · exact .inr ⟨p, by simp, h⟩
    · exact .inl h
    · rcases joinL_mem h with h | ⟨x, hx, hc⟩
      · exact .inl h
      · exact .inr ⟨x, List.mem_cons_of_mem _ hx, hc⟩
theorem Val.no10 {v : List UInt8} (h : Val v) : 10 ∉ v := fun e => absurd (h.ok 10 e).1 (by decide)
theorem Sml.no10 {v : List UInt8} (h : Sml v) : 10 ∉ v := fun e => absurd (h.nat 10 e).1 (by decide)
def SEP : List UInt8 := [32, 92, 10, 32, 32]
theorem run_parts (sec : ByteArray) (D : Conf) (rest : List UInt8) : ∀ (r : List (List UInt8)) (q buf : List UInt8), (∀ x ∈ q :: r, Val x ∧ x.head? ≠ some 91) →
    runP ⟨sec, buf, false, D⟩ ([32, 32] ++ (joinL SEP (q :: r) ++ 10 :: rest)) = runP ⟨sec, buf ++ joinL [32] (q :: r), true, D⟩ rest
  | [], q, buf, h => by
    obtain ⟨hv, h91⟩ := h q (by simp)
    rw [show [32, 32] ++ (joinL SEP [q] ++ 10 :: rest) = ([32, 32] ++ q) ++ 10 :: rest from by simp [joinL], run_line _ _ _ (by simpa using hv.no10), step_last _ _ _ hv h91]
    rfl
  | q2 :: r, q, buf, h => by
    obtain ⟨hv, h91⟩ := h q (by simp)
    have ih := run_parts sec D rest r q2 (buf ++ (q ++ [32])) (fun x hx => h x (List.mem_cons_of_mem _ hx))
    rw [show [32, 32] ++ (joinL SEP (q :: q2 :: r) ++ 10 :: rest) = ([32, 32] ++ (q ++ [32, 92])) ++ 10 :: ([32, 32] ++ (joinL SEP (q2 :: r) ++ 10 :: rest)) from by simp [joinL, SEP], run_line _ _ _ (by simpa using hv.no10), step_mid _ _ _ hv h91]
    simp only [Option.bind_some]
    rw [ih]
    simp [joinL]
/-- parts of a value as they are written -/
structure Parts (l : List (List UInt8)) : Prop where
  ne : l ≠ []
  ok : ∀ x ∈ l, Val x
  rest : ∀ x ∈ l.tail, x.head? ≠ some 91
  few : l.length ≤ 4
theorem run_option {s : PS} {sec : ByteArray} {D : Conf} (h : Bd s sec D) {key : List UInt8} (hk : Sml key) {parts : List (List UInt8)} (hp : Parts parts) (rest : List UInt8) :
    runP s (key ++ ([32, 61, 32] ++ (joinL SEP parts ++ 10 :: rest))) = runP ⟨sec, optLine key (joinL [32] parts), true, D⟩ rest := by
  match parts, hp with
  | [], hp => exact absurd rfl hp.ne
  | [p], hp =>
    have hv := hp.ok p (by simp)
    rw [show key ++ ([32, 61, 32] ++ (joinL SEP [p] ++ 10 :: rest)) = optLine key p ++ 10 :: rest from by simp [joinL, optLine], run_line _ _ _ (by
      intro e
      simp only [optLine, List.mem_append] at e
      rcases e with e | e | e
      · exact hk.no10 e
      · exact absurd e (by decide)
      · exact hv.no10 e), step_one h hk hv]
    rfl
  | p :: q :: r, hp =>
    have hv := hp.ok p (by simp)
    rw [show key ++ ([32, 61, 32] ++ (joinL SEP (p :: q :: r) ++ 10 :: rest)) = (optLine key p ++ [32, 92]) ++ 10 :: ([32, 32] ++ (joinL SEP (q :: r) ++ 10 :: rest)) from by simp [joinL, optLine, SEP], run_line _ _ _ (by
      intro e
      simp only [optLine, List.mem_append] at e
      rcases e with (e | e | e) | e
      · exact hk.no10 e
      · exact absurd e (by decide)
      · exact hv.no10 e
      · exact absurd e (by decide)), step_first h hk hv]
    simp only [Option.bind_some]
    rw [run_parts _ _ _ _ _ _ (fun x hx => ⟨hp.ok x (List.mem_cons_of_mem _ hx), hp.rest x hx⟩)]
    simp [joinL, optLine]
theorem cutAt_app (a b : List UInt8) (c : UInt8) (h : c ∉ a) : cutAt c (a ++ c :: b) = some (a, b) := by
  induction a with
  | nil => simp [cutAt]
  | cons x a ih =>
    have hx : x ≠ c := fun e => h (by simp [e])
    simp [cutAt, hx, ih (fun e => h (by simp [e]))]
theorem Parts.ends {parts : List (List UInt8)} (hp : Parts parts) : (joinL [32] parts ≠ []) ∧ (joinL [32] parts).head? ≠ some 32 ∧ (joinL [32] parts).getLast? ≠ some 32 ∧ ∀ c ∈ joinL [32] parts, 32 ≤ c.toNat ∧ c.toNat ≤ 126 ∧ c ≠ 35 ∧ c ≠ 59 ∧ c ≠ 92 := by
  match parts, hp with
  | [], hp => exact absurd rfl hp.ne
  | p :: r, hp =>
    have hv := hp.ok p (by simp)
    refine ⟨joinL_ne hv.ne, by rw [joinL_head hv.ne]; exact hv.hd, ?_, fun c hc => ?_⟩
    · obtain ⟨x, hx, e⟩ := joinL_last [32] r p (fun x hx => (hp.ok x hx).ne)
      rw [e]
      exact (hp.ok x hx).tl
    · rcases joinL_mem hc with hc | ⟨x, hx, hc⟩
      · obtain rfl := List.mem_singleton.1 hc
        decide
      · exact (hp.ok x hx).ok c hc
theorem bd_option (sec : ByteArray) (D : Conf) {key v : List UInt8} (hk : Sml key) (h1 : v.head? ≠ some 32) (h2 : v.getLast? ≠ some 32) (hok : ∀ c ∈ v, 32 ≤ c.toNat) : Bd ⟨sec, optLine key v, true, D⟩ sec (addC D sec (B key) (B v)) := by
  refine ⟨?_, fun _ => rfl, rfl⟩
  have h61 : (61 : UInt8) ∉ key ++ [32] := by
    intro e
    rcases List.mem_append.1 e with e | e
    · exact (hk.nat _ e).2.2.2.1 rfl
    · exact absurd e (by decide)
  have hcut : cutAt 61 (optLine key v) = some (key ++ [32], 32 :: v) := by
    rw [show optLine key v = (key ++ [32]) ++ 61 :: (32 :: v) from by simp [optLine]]
    exact cutAt_app _ _ _ h61
  have ht1 : Lib.trimSpace (key ++ [32]) = key := by
    rw [trim_snoc _ _ (by decide)]
    refine trim_same _ (fun c hc => ?_) (fun c hc => ?_)
    · have := hk.nat c (head_mem hc)
      exact not32 (by omega) (by rintro rfl; exact absurd this.1 (by decide))
    · have := hk.nat c (last_mem hc)
      exact not32 (by omega) (by rintro rfl; exact absurd this.1 (by decide))
  have ht2 : Lib.trimSpace (32 :: v) = v := by
    rw [trim_behead _ _ (by decide)]
    exact trim_same _ (fun c hc => not32 (hok c (head_mem hc)) (by rintro rfl; exact h1 hc)) (fun c hc => not32 (hok c (last_mem hc)) (by rintro rfl; exact h2 hc))
  unfold flushP
  simp only []
  rw [if_neg (by unfold optLine; simp [hk.ne]), hcut]
  simp only [Option.map_some, ht1, ht2]
  rfl

/-! ### A configuration that is written, read back -/
/-- a section in plain words: its name, its notes, its options -/
structure PSec where
  name : List UInt8
  notes : List (List UInt8)
  opts : List (List UInt8 × List (List UInt8))
def optText (o : List UInt8 × List (List UInt8)) : List UInt8 := o.1 ++ ([32, 61, 32] ++ (joinL SEP o.2 ++ [10]))
def noteText (k : Nat) (n : List UInt8) : List UInt8 := if k % 2 = 0 then 35 :: 32 :: (n ++ [10]) else 59 :: 32 :: (n ++ [10, 10])
def notesText : Nat → List (List UInt8) → List UInt8
  | _, [] => []
  | k, n :: r => noteText k n ++ notesText (k + 1) r
def headText (name : List UInt8) : List UInt8 := if name = [] then [] else 91 :: (name ++ [93, 10])
def secText (S : PSec) : List UInt8 := headText S.name ++ (notesText 0 S.notes ++ (S.opts.map optText).flatten)
def confT (l : List PSec) : List UInt8 := (l.map secText).flatten
structure SecOk (S : PSec) : Prop where
  name : S.name ≠ [] → Sml S.name
  notes : ∀ n ∈ S.notes, n = [] ∨ Val n
  opts : ∀ o ∈ S.opts, Sml o.1 ∧ Parts o.2
def valOf (o : List UInt8 × List (List UInt8)) : List UInt8 := joinL [32] o.2
def secD (D : Conf) (S : PSec) : Conf := S.opts.foldl (fun D o => addC D (B S.name) (B o.1) (B (valOf o))) D
def confD (l : List PSec) : Conf := l.foldl secD []
theorem run_note {s : PS} {sec : ByteArray} {D : Conf} (h : Bd s sec D) (k : Nat) (n rest : List UInt8) (hn : n = [] ∨ Val n) : ∃ s', Bd s' sec D ∧ runP s (noteText k n ++ rest) = runP s' rest := by
  have h10 : (10 : UInt8) ∉ n := by
    rcases hn with rfl | hn
    · simp
    · exact hn.no10
  unfold noteText
  split
  · refine ⟨⟨sec, [], true, D⟩, bd_empty _ _ _, ?_⟩
    rw [show 35 :: 32 :: (n ++ [10]) ++ rest = (35 :: 32 :: n) ++ 10 :: rest from by simp, run_line _ _ _ (by simp [h10]), step_note h 35 (.inl rfl)]
    rfl
  · refine ⟨⟨sec, [], true, D⟩, bd_empty _ _ _, ?_⟩
    rw [show 59 :: 32 :: (n ++ [10, 10]) ++ rest = (59 :: 32 :: n) ++ 10 :: ([] ++ 10 :: rest) from by simp, run_line _ _ _ (by simp [h10]), step_note h 59 (.inr rfl)]
    simp only [Option.bind_some]
    rw [run_line _ _ _ (by simp), step_blank (bd_empty _ _ _)]
    rfl
theorem run_notes {sec : ByteArray} {D : Conf} (rest : List UInt8) : ∀ (l : List (List UInt8)) (k : Nat) (s : PS), Bd s sec D → (∀ n ∈ l, n = [] ∨ Val n) → ∃ s', Bd s' sec D ∧ runP s (notesText k l ++ rest) = runP s' rest
  | [], _, s, h, _ => ⟨s, h, rfl⟩
  | n :: r, k, s, h, hn => by
    obtain ⟨s1, h1, e1⟩ := run_note h k n (notesText (k + 1) r ++ rest) (hn n (by simp))
    obtain ⟨s2, h2, e2⟩ := run_notes rest r (k + 1) s1 h1 (fun x hx => hn x (List.mem_cons_of_mem _ hx))
    exact ⟨s2, h2, by rw [← e2, ← e1]; simp [notesText]⟩
theorem run_options {sec : ByteArray} (rest : List UInt8) : ∀ (l : List (List UInt8 × List (List UInt8))) (s : PS) (D : Conf), Bd s sec D → (∀ o ∈ l, Sml o.1 ∧ Parts o.2) → ∃ s', Bd s' sec (l.foldl (fun D o => addC D sec (B o.1) (B (valOf o))) D) ∧ runP s ((l.map optText).flatten ++ rest) = runP s' rest
  | [], s, D, h, _ => ⟨s, h, rfl⟩
  | o :: r, s, D, h, ho => by
    obtain ⟨hk, hp⟩ := ho o (by simp)
    obtain ⟨_, e1, e2, e3⟩ := hp.ends
    obtain ⟨s2, h2, e⟩ := run_options rest r ⟨sec, optLine o.1 (joinL [32] o.2), true, D⟩ (addC D sec (B o.1) (B (valOf o))) (bd_option sec D hk e1 e2 (fun c hc => (e3 c hc).1)) (fun x hx => ho x (List.mem_cons_of_mem _ hx))
    refine ⟨s2, h2, ?_⟩
    rw [← e, show ((o :: r).map optText).flatten ++ rest = o.1 ++ ([32, 61, 32] ++ (joinL SEP o.2 ++ 10 :: ((r.map optText).flatten ++ rest))) from by simp [optText]]
    exact run_option h hk hp _
theorem run_sec {s : PS} {sec : ByteArray} {D : Conf} (h : Bd s sec D) {S : PSec} (hS : SecOk S) (h0 : S.name = [] → sec = B []) (rest : List UInt8) : ∃ s', Bd s' (B S.name) (secD D S) ∧ runP s (secText S ++ rest) = runP s' rest := by
  have hh : ∃ s1, Bd s1 (B S.name) D ∧ runP s (headText S.name ++ (notesText 0 S.notes ++ ((S.opts.map optText).flatten ++ rest))) = runP s1 (notesText 0 S.notes ++ ((S.opts.map optText).flatten ++ rest)) := by
    unfold headText
    by_cases hn : S.name = []
    · rw [if_pos hn]
      exact ⟨s, by rw [hn, ← h0 hn]; exact h, rfl⟩
    · rw [if_neg hn]
      have hs := hS.name hn
      refine ⟨⟨B S.name, [], false, D⟩, bd_empty _ _ _, ?_⟩
      rw [show 91 :: (S.name ++ [93, 10]) ++ (notesText 0 S.notes ++ ((S.opts.map optText).flatten ++ rest)) = (91 :: (S.name ++ [93])) ++ 10 :: (notesText 0 S.notes ++ ((S.opts.map optText).flatten ++ rest)) from by simp, run_line _ _ _ (by
        intro e
        simp only [List.mem_cons, List.mem_append, List.not_mem_nil, or_false] at e
        rcases e with e | e | e
        · exact absurd e (by decide)
        · exact hs.no10 e
        · exact absurd e (by decide)), step_sect h hs]
      rfl
  obtain ⟨s1, h1, e1⟩ := hh
  obtain ⟨s2, h2, e2⟩ := run_notes ((S.opts.map optText).flatten ++ rest) S.notes 0 s1 h1 hS.notes
  obtain ⟨s3, h3, e3⟩ := run_options rest S.opts s2 D h2 hS.opts
  refine ⟨s3, h3, ?_⟩
  rw [← e3, ← e2, ← e1]
  simp [secText]
/-- the first section alone may have no name -/
def Heads : List PSec → Prop
  | [] => True
  | _ :: r => ∀ S ∈ r, S.name ≠ []
theorem run_conf : ∀ (l : List PSec) (s : PS) (sec : ByteArray) (D : Conf), Bd s sec D → (∀ S ∈ l, SecOk S) → (∀ S ∈ l, S.name ≠ []) → ∃ s' sec', Bd s' sec' (l.foldl secD D) ∧ runP s (confT l) = some s'
  | [], s, sec, D, h, _, _ => ⟨s, sec, h, by unfold confT runP; rfl⟩
  | S :: r, s, sec, D, h, hS, hn => by
    obtain ⟨s1, h1, e1⟩ := run_sec h (hS S (by simp)) (fun e => absurd e (hn S (by simp))) (confT r)
    obtain ⟨s2, sec2, h2, e2⟩ := run_conf r s1 _ _ h1 (fun x hx => hS x (List.mem_cons_of_mem _ hx)) (fun x hx => hn x (List.mem_cons_of_mem _ hx))
    exact ⟨s2, sec2, h2, by rw [← e2, ← e1]; simp [confT]⟩
theorem parse_conf (l : List PSec) (hS : ∀ S ∈ l, SecOk S) (hh : Heads l) : parseP (confT l) = some (confD l) := by
  have h0 : Bd ⟨⟨#[]⟩, [], false, []⟩ (B []) [] := bd_empty _ _ _
  have key : ∃ s' sec', Bd s' sec' (confD l) ∧ runP ⟨⟨#[]⟩, [], false, []⟩ (confT l) = some s' := by
    cases l with
    | nil => exact ⟨_, _, h0, by unfold confT runP; rfl⟩
    | cons S r =>
      obtain ⟨s1, h1, e1⟩ := run_sec h0 (hS S (by simp)) (fun _ => rfl) (confT r)
      obtain ⟨s2, sec2, h2, e2⟩ := run_conf r s1 _ _ h1 (fun x hx => hS x (List.mem_cons_of_mem _ hx)) hh
      exact ⟨s2, sec2, h2, by rw [← e2, ← e1]; simp [confT]⟩
  obtain ⟨s, sec, h1, h2⟩ := key
  unfold parseP
  rw [h2]
  simp only [Option.bind_some]
  rw [h1.fl]
  rfl
/-! what is looked up -/
theorem getC_put {α : Type} (k k' : ByteArray) (v : α) : ∀ l : List (ByteArray × α), getC k' (putC k v l) = if k' = k then some v else getC k' l
  | [] => by simp [putC, getC]
  | p :: l => by
    by_cases h : k = p.1
    · simp only [putC, if_pos h, getC]
      by_cases h2 : k' = p.1
      · rw [if_pos h2, if_pos (h2.trans h.symm)]
      · rw [if_neg h2, if_neg (fun e => h2 (e.trans h)), if_neg h2]
    · simp only [putC, if_neg h, getC]
      by_cases h2 : k' = p.1
      · rw [if_pos h2, if_neg (fun e => h (e.symm.trans h2)), if_pos h2]
      · rw [if_neg h2, getC_put k k' v l]
        by_cases h3 : k' = k
        · rw [if_pos h3, if_pos h3]
        · rw [if_neg h3, if_neg h3, if_neg h2]
theorem lookC_add (D : Conf) (s o v s' o' : ByteArray) : lookC (addC D s o v) s' o' = if s' = secB s ∧ o' = o then some v else lookC D s' o' := by
  unfold lookC addC
  rw [getC_put]
  by_cases h : s' = secB s
  · subst h
    rw [if_pos rfl, Option.bind_some, getC_put]
    by_cases h2 : o' = o
    · rw [if_pos h2, if_pos ⟨rfl, h2⟩]
    · rw [if_neg h2, if_neg (fun e => h2 e.2)]
      cases getC (secB s) D <;> rfl
  · rw [if_neg h, if_neg (fun e => h e.1)]
theorem look_opts (s o : List UInt8) (sec : ByteArray) (hs : secB sec = secB (B s)) : ∀ (l : List (List UInt8 × List (List UInt8))) (D : Conf), (l.map (·.1)).Nodup →
    lookC (l.foldl (fun D o => addC D sec (B o.1) (B (valOf o))) D) (secB (B s)) (B o) = match l.find? (fun x => decide (x.1 = o)) with | some x => some (B (valOf x)) | none => lookC D (secB (B s)) (B o)
  | [], D, _ => rfl
  | x :: r, D, hn => by
    simp only [List.map_cons, List.nodup_cons] at hn
    rw [List.foldl_cons, look_opts s o sec hs r _ hn.2, List.find?_cons]
    by_cases hx : x.1 = o
    · simp only [hx, decide_true]
      have : r.find? (fun x => decide (x.1 = o)) = none := by
        rw [List.find?_eq_none]
        intro y hy
        simp only [decide_eq_true_eq]
        intro e
        exact hn.1 (by rw [hx, ← e]; exact List.mem_map_of_mem hy)
      rw [this]
      simp only []
      rw [lookC_add, if_pos ⟨hs.symm, rfl⟩]
    · simp only [hx, decide_false]
      cases r.find? (fun x => decide (x.1 = o)) with
      | some y => rfl
      | none =>
        simp only []
        rw [lookC_add, if_neg (fun e => hx (B_inj e.2).symm)]
theorem look_other (s o : List UInt8) (sec : ByteArray) (hs : secB sec ≠ secB (B s)) : ∀ (l : List (List UInt8 × List (List UInt8))) (D : Conf), lookC (l.foldl (fun D o => addC D sec (B o.1) (B (valOf o))) D) (secB (B s)) (B o) = lookC D (secB (B s)) (B o)
  | [], D => rfl
  | x :: r, D => by
    rw [List.foldl_cons, look_other s o sec hs r, lookC_add, if_neg (fun e => hs e.1.symm)]
/-- the value of an option: of the first section of that name -/
def findV (l : List PSec) (s o : List UInt8) : Option (List UInt8) := (l.find? (fun S => decide (S.name = s))).bind fun S => (S.opts.find? (fun x => decide (x.1 = o))).map valOf
def DEF : List UInt8 := [100, 101, 102, 97, 117, 108, 116]
theorem secB_inj {a b : List UInt8} (ha : a ≠ DEF) (hb : b ≠ DEF) (h : secB (B a) = secB (B b)) : a = b := by
  unfold secB at h
  rw [B_toList, B_toList] at h
  have hd : defaultB = B DEF := rfl
  by_cases h1 : a = [] <;> by_cases h2 : b = []
  · rw [h1, h2]
  · rw [if_pos h1, if_neg h2, hd] at h
    exact absurd (B_inj h).symm hb
  · rw [if_neg h1, if_pos h2, hd] at h
    exact absurd (B_inj h) ha
  · rw [if_neg h1, if_neg h2] at h
    exact B_inj h
theorem look_conf (s o : List UInt8) (hs : s ≠ DEF) : ∀ (l : List PSec) (D : Conf), (l.map (·.name)).Nodup → (∀ S ∈ l, S.name ≠ DEF ∧ (S.opts.map (·.1)).Nodup) →
    lookC (l.foldl secD D) (secB (B s)) (B o) = match findV l s o with | some v => some (B v) | none => lookC D (secB (B s)) (B o)
  | [], D, _, _ => rfl
  | S :: r, D, hn, hd => by
    simp only [List.map_cons, List.nodup_cons] at hn
    obtain ⟨h1, h2⟩ := hd S (by simp)
    rw [List.foldl_cons, look_conf s o hs r _ hn.2 (fun x hx => hd x (List.mem_cons_of_mem _ hx))]
    unfold findV
    rw [List.find?_cons]
    by_cases hx : S.name = s
    · simp only [hx, decide_true]
      have : r.find? (fun S => decide (S.name = s)) = none := by
        rw [List.find?_eq_none]
        intro y hy
        simp only [decide_eq_true_eq]
        intro e
        exact hn.1 (by rw [hx, ← e]; exact List.mem_map_of_mem hy)
      rw [this]
      simp only [Option.bind_none, Option.bind_some]
      unfold secD
      rw [look_opts s o _ (by rw [hx]) _ _ h2]
      cases S.opts.find? (fun x => decide (x.1 = o)) <;> rfl
    · simp only [hx, decide_false]
      have e : lookC (secD D S) (secB (B s)) (B o) = lookC D (secB (B s)) (B o) := look_other s o _ (fun e => hx (secB_inj h1 hs e)) _ _
      rw [e]
/-! sizes -/
theorem joinL_len {sep : List UInt8} {m : Nat} : ∀ (l : List (List UInt8)), (∀ x ∈ l, x.length ≤ m) → (joinL sep l).length ≤ l.length * (m + sep.length)
  | [], _ => by simp [joinL]
  | [p], h => by have := h p (by simp); simp [joinL]; omega
  | p :: q :: r, h => by
    have h1 := h p (by simp)
    have h2 := joinL_len (sep := sep) (m := m) (q :: r) (fun x hx => h x (List.mem_cons_of_mem _ hx))
    simp only [joinL, List.length_append]
    rw [List.length_cons, Nat.succ_mul]
    omega
theorem ascii_app {a b : List UInt8} (ha : ∀ c ∈ a, c.toNat < 128) (hb : ∀ c ∈ b, c.toNat < 128) : ∀ c ∈ a ++ b, c.toNat < 128 := by
  intro c hc
  rcases List.mem_append.1 hc with hc | hc
  · exact ha c hc
  · exact hb c hc
theorem Val.asc {v : List UInt8} (h : Val v) : ∀ c ∈ v, c.toNat < 128 := fun c hc => by have := h.ok c hc; omega
theorem Sml.asc {v : List UInt8} (h : Sml v) : ∀ c ∈ v, c.toNat < 128 := fun c hc => by have := h.nat c hc; omega
theorem short_line (ln r : List UInt8) (h : 10 ∉ ln) (hl : ln.length < 4096) (hr : shortLines r = true) : shortLines (ln ++ 10 :: r) = true := by
  obtain ⟨h1, h2⟩ := line_found (ln ++ 10 :: r) ln.length (by simp) (by rw [List.take_left']; exact h; rfl)
  rw [List.take_left' rfl] at h1
  rw [show (ln ++ 10 :: r).drop (ln.length + 1) = r from by rw [← List.drop_drop, List.drop_left' rfl]; rfl] at h2
  cases hL : ln ++ 10 :: r with
  | nil => simp at hL
  | cons b t =>
    rw [hL] at h1 h2
    conv => lhs; unfold shortLines
    rw [h1, h2, hr]
    simp [hl]
theorem short_nil : shortLines [] = true := by unfold shortLines; rfl
theorem short_parts (rest : List UInt8) (hr : shortLines rest = true) : ∀ (r : List (List UInt8)) (q pre : List UInt8), 10 ∉ pre → pre.length ≤ 100 → (∀ x ∈ q :: r, Val x) → shortLines (pre ++ (joinL SEP (q :: r) ++ 10 :: rest)) = true
  | [], q, pre, h1, h2, h => by
    have hv := h q (by simp)
    have := hv.len
    rw [show pre ++ (joinL SEP [q] ++ 10 :: rest) = (pre ++ q) ++ 10 :: rest from by simp [joinL]]
    exact short_line _ _ (by simp [h1, hv.no10]) (by simp; omega) hr
  | q2 :: r, q, pre, h1, h2, h => by
    have hv := h q (by simp)
    have := hv.len
    rw [show pre ++ (joinL SEP (q :: q2 :: r) ++ 10 :: rest) = (pre ++ (q ++ [32, 92])) ++ 10 :: ([32, 32] ++ (joinL SEP (q2 :: r) ++ 10 :: rest)) from by simp [joinL, SEP]]
    exact short_line _ _ (by simp [h1, hv.no10]) (by simp; omega) (short_parts rest hr r q2 [32, 32] (by simp) (by simp) (fun x hx => h x (List.mem_cons_of_mem _ hx)))
theorem short_opts (rest : List UInt8) (hr : shortLines rest = true) : ∀ l : List (List UInt8 × List (List UInt8)), (∀ o ∈ l, Sml o.1 ∧ Parts o.2) → shortLines ((l.map optText).flatten ++ rest) = true
  | [], _ => hr
  | o :: r, h => by
    obtain ⟨hk, hp⟩ := h o (by simp)
    have ih := short_opts rest hr r (fun x hx => h x (List.mem_cons_of_mem _ hx))
    obtain ⟨q, t, hq⟩ := List.exists_cons_of_ne_nil hp.ne
    have := hk.len
    rw [show ((o :: r).map optText).flatten ++ rest = (o.1 ++ [32, 61, 32]) ++ (joinL SEP (q :: t) ++ 10 :: ((r.map optText).flatten ++ rest)) from by rw [← hq]; simp [optText]]
    exact short_parts _ ih t q _ (by simp [hk.no10]) (by simp; omega) (fun x hx => hp.ok x (by rw [hq]; exact hx))
theorem short_notes (rest : List UInt8) (hr : shortLines rest = true) : ∀ (l : List (List UInt8)) (k : Nat), (∀ n ∈ l, n = [] ∨ Val n) → shortLines (notesText k l ++ rest) = true
  | [], _, _ => hr
  | n :: r, k, h => by
    have ih := short_notes rest hr r (k + 1) (fun x hx => h x (List.mem_cons_of_mem _ hx))
    have hn := h n (by simp)
    have h10 : (10 : UInt8) ∉ n := by
      rcases hn with rfl | hn
      · simp
      · exact hn.no10
    have hl : n.length ≤ 80 := by
      rcases hn with rfl | hn
      · simp
      · exact hn.len
    simp only [notesText, noteText]
    split
    · rw [show 35 :: 32 :: (n ++ [10]) ++ notesText (k + 1) r ++ rest = (35 :: 32 :: n) ++ 10 :: (notesText (k + 1) r ++ rest) from by simp]
      exact short_line _ _ (by simp [h10]) (by simp; omega) ih
    · rw [show 59 :: 32 :: (n ++ [10, 10]) ++ notesText (k + 1) r ++ rest = (59 :: 32 :: n) ++ 10 :: ([] ++ 10 :: (notesText (k + 1) r ++ rest)) from by simp]
      exact short_line _ _ (by simp [h10]) (by simp; omega) (short_line _ _ (by simp) (by simp) ih)
theorem short_conf : ∀ l : List PSec, (∀ S ∈ l, SecOk S) → shortLines (confT l) = true
  | [], _ => short_nil
  | S :: r, h => by
    have hS := h S (by simp)
    have ih := short_conf r (fun x hx => h x (List.mem_cons_of_mem _ hx))
    have e : confT (S :: r) = headText S.name ++ (notesText 0 S.notes ++ ((S.opts.map optText).flatten ++ confT r)) := by simp [confT, secText]
    rw [e]
    have h1 := short_notes _ (short_opts _ ih S.opts hS.opts) S.notes 0 hS.notes
    unfold headText
    split
    · exact h1
    · rename_i hn
      have hs := hS.name hn
      have := hs.len
      rw [show 91 :: (S.name ++ [93, 10]) ++ (notesText 0 S.notes ++ ((S.opts.map optText).flatten ++ confT r)) = (91 :: (S.name ++ [93])) ++ 10 :: (notesText 0 S.notes ++ ((S.opts.map optText).flatten ++ confT r)) from by simp]
      refine short_line _ _ ?_ (by simp; omega) h1
      intro e
      simp only [List.mem_cons, List.mem_append, List.not_mem_nil, or_false] at e
      rcases e with e | e | e
      · exact absurd e (by decide)
      · exact hs.no10 e
      · exact absurd e (by decide)
theorem asc_conf : ∀ l : List PSec, (∀ S ∈ l, SecOk S) → ∀ c ∈ confT l, c.toNat < 128 := by
  intro l h c hc
  obtain ⟨x, hx, hc⟩ := List.mem_flatten.1 hc
  obtain ⟨S, hS, rfl⟩ := List.mem_map.1 hx
  have hk := h S hS
  unfold secText at hc
  rcases List.mem_append.1 hc with hc | hc
  · unfold headText at hc
    split at hc
    · cases hc
    · rename_i hn
      have hs := hk.name hn
      simp only [List.mem_cons, List.mem_append, List.not_mem_nil, or_false] at hc
      rcases hc with rfl | hc | rfl | rfl
      · decide
      · exact hs.asc c hc
      · decide
      · decide
  · rcases List.mem_append.1 hc with hc | hc
    · have key : ∀ (l : List (List UInt8)) (k : Nat), (∀ n ∈ l, n = [] ∨ Val n) → ∀ c ∈ notesText k l, c.toNat < 128 := by
        intro l
        induction l with
        | nil => intro k _ c hc; cases hc
        | cons n r ih =>
          intro k hn c hc
          simp only [notesText, List.mem_append] at hc
          rcases hc with hc | hc
          · have hnn : ∀ c ∈ n, c.toNat < 128 := by
              rcases hn n (by simp) with rfl | h
              · simp
              · exact h.asc
            unfold noteText at hc
            split at hc
            all_goals
              simp only [List.mem_cons, List.mem_append, List.not_mem_nil, or_false] at hc
              rcases hc with rfl | rfl | hc | hc
              · decide
              · decide
              · exact hnn c hc
              · first | (rcases hc with rfl | rfl <;> decide) | (subst hc; decide)
          · exact ih (k + 1) (fun x hx => hn x (List.mem_cons_of_mem _ hx)) c hc
      exact key _ _ hk.notes c hc
    · obtain ⟨y, hy, hc⟩ := List.mem_flatten.1 hc
      obtain ⟨o, ho, rfl⟩ := List.mem_map.1 hy
      obtain ⟨h1, h2⟩ := hk.opts o ho
      unfold optText at hc
      simp only [List.mem_append] at hc
      rcases hc with hc | hc | hc | hc
      · exact h1.asc c hc
      · exact (show ∀ c ∈ ([32, 61, 32] : List UInt8), c.toNat < 128 from by decide) c hc
      · rcases joinL_mem hc with hc | ⟨x, hx, hc⟩
        · exact (show ∀ c ∈ SEP, c.toNat < 128 from by decide) c hc
        · exact (h2.ok x hx).asc c hc
      · exact (show ∀ c ∈ ([10] : List UInt8), c.toNat < 128 from by decide) c hc
/-- a configuration that is few -/
structure Few (l : List PSec) : Prop where
  secs : l.length ≤ 5
  notes : ∀ S ∈ l, S.notes.length ≤ 4
  opts : ∀ S ∈ l, S.opts.length ≤ 6
theorem flat_len {α : Type} (f : α → List UInt8) (m : Nat) : ∀ (l : List α), (∀ x ∈ l, (f x).length ≤ m) → ((l.map f).flatten).length ≤ l.length * m
  | [], _ => by simp
  | x :: l, h => by
    have h1 := h x (by simp)
    have h2 := flat_len f m l (fun y hy => h y (List.mem_cons_of_mem _ hy))
    simp only [List.map_cons, List.flatten_cons, List.length_append, List.length_cons, Nat.succ_mul]
    omega
theorem opt_len {o : List UInt8 × List (List UInt8)} (hk : Sml o.1) (hp : Parts o.2) : (optText o).length ≤ 400 := by
  have h1 := joinL_len (sep := SEP) (m := 80) o.2 (fun x hx => (hp.ok x hx).len)
  have h2 := hp.few
  have h3 := hk.len
  have h4 : SEP.length = 5 := rfl
  rw [h4] at h1
  unfold optText
  simp only [List.length_append, List.length_cons, List.length_nil]
  have : o.2.length * (80 + 5) ≤ 4 * 85 := by omega
  omega
theorem notes_len : ∀ (l : List (List UInt8)) (k : Nat), (∀ n ∈ l, n = [] ∨ Val n) → (notesText k l).length ≤ l.length * 84
  | [], _, _ => by simp [notesText]
  | n :: r, k, h => by
    have ih := notes_len r (k + 1) (fun x hx => h x (List.mem_cons_of_mem _ hx))
    have hl : n.length ≤ 80 := by
      rcases h n (by simp) with rfl | hn
      · simp
      · exact hn.len
    have : (noteText k n).length ≤ 84 := by unfold noteText; split <;> simp <;> omega
    simp only [notesText, List.length_append, List.length_cons, Nat.succ_mul]
    omega
theorem sec_len {S : PSec} (h : SecOk S) (h1 : S.notes.length ≤ 4) (h2 : S.opts.length ≤ 6) : (secText S).length ≤ 3000 := by
  have e1 := notes_len S.notes 0 h.notes
  have e2 := flat_len optText 400 S.opts (fun o ho => opt_len (h.opts o ho).1 (h.opts o ho).2)
  have e3 : (headText S.name).length ≤ 33 := by
    unfold headText
    split
    · simp
    · rename_i hn
      have := (h.name hn).len
      simp
      omega
  unfold secText
  simp only [List.length_append]
  have : S.notes.length * 84 ≤ 4 * 84 := by omega
  have : S.opts.length * 400 ≤ 6 * 400 := by omega
  omega
theorem conf_len {l : List PSec} (h : ∀ S ∈ l, SecOk S) (hf : Few l) : (confT l).length ≤ 15000 := by
  have := flat_len secText 3000 l (fun S hS => sec_len (h S hS) (hf.notes S hS) (hf.opts S hS))
  have := hf.secs
  unfold confT
  have : l.length * 3000 ≤ 5 * 3000 := by omega
  omega
theorem good_conf {l : List PSec} (h : ∀ S ∈ l, SecOk S) (hf : Few l) : goodText (B (confT l)) = true := by
  have h1 := conf_len h hf
  unfold goodText
  rw [B_size, data_B, short_conf l h]
  simp only [Bool.and_true, Bool.and_eq_true, decide_eq_true_eq, List.all_eq_true]
  exact ⟨by omega, asc_conf l h⟩

/-! ### What is asked: a section's and an option's name -/
def keyOf (s o : List UInt8) : List UInt8 := if s = [] then o else s ++ ([58, 58] ++ o)
theorem no58 {o : List UInt8} (ho : 58 ∉ o) : ∀ (l : List UInt8), (∀ c ∈ l, c ∈ o) → findSub [58, 58] l = none
  | [], _ => by simp [findSub]
  | c :: l, h => by
    have hc : c ≠ 58 := fun e => ho (by rw [← e]; exact h c (by simp))
    unfold findSub
    rw [if_neg (by simp [List.isPrefixOf, hc.symm]), no58 ho l (fun x hx => h x (List.mem_cons_of_mem _ hx))]
    rfl
theorem at58 : ∀ (s o : List UInt8), 58 ∉ s → findSub [58, 58] (s ++ ([58, 58] ++ o)) = some s.length
  | [], o, _ => by simp [findSub, List.isPrefixOf]
  | c :: s, o, h => by
    have hc : c ≠ 58 := fun e => h (by simp [e])
    rw [List.cons_append]
    unfold findSub
    rw [if_neg (by simp [List.isPrefixOf, hc.symm]), at58 s o (fun e => h (by simp [e]))]
    rfl
theorem split_one (o : List UInt8) (ho : 58 ∉ o) (n : Nat) : splitB colons n (B o) = [B o] := by
  cases n with
  | zero => rfl
  | succ n =>
    unfold splitB
    rw [data_B, show colons.data.toList = [58, 58] from rfl, no58 ho o (fun _ h => h)]
theorem keyParts_of (s o : List UInt8) (hs : 58 ∉ s) (ho : 58 ∉ o) : keyParts (B (keyOf s o)) = (secB (B s), B o) := by
  unfold keyOf
  by_cases h : s = []
  · rw [if_pos h]
    unfold keyParts
    rw [split_one o ho, h]
    have e : secB (B []) = defaultB := by unfold secB; rw [if_pos (B_toList [])]
    rw [e]
  · rw [if_neg h]
    have hz : (B (s ++ ([58, 58] ++ o))).size = (s.length + o.length + 1) + 1 := by rw [B_size]; simp; omega
    have hp : splitB colons (B (s ++ ([58, 58] ++ o))).size (B (s ++ ([58, 58] ++ o))) = [B s, B o] := by
      rw [hz]
      unfold splitB
      rw [data_B, show colons.data.toList = [58, 58] from rfl, at58 s o hs]
      simp only []
      rw [B_ext, B_ext, B_size, show colons.size = 2 from rfl]
      have e1 : List.take (s.length - 0) (List.drop 0 (s ++ ([58, 58] ++ o))) = s := by simp
      have e2 : List.take ((s ++ ([58, 58] ++ o)).length - (s.length + 2)) (List.drop (s.length + 2) (s ++ ([58, 58] ++ o))) = o := by
        rw [← List.drop_drop, List.drop_left' rfl]
        simp
        rw [List.take_of_length_le (by omega)]
      rw [e1, e2, split_one o ho]
    unfold keyParts
    rw [hp]
    simp only []
    unfold secB
    rw [B_toList, if_neg h]
theorem Sml.no58 {v : List UInt8} (h : Sml v) : 58 ∉ v := fun e => (h.nat 58 e).2.2.2.2.2.2.2 rfl
theorem low_key (s o : List UInt8) (hs : s = [] ∨ Sml s) (ho : Sml o) : lowKey (B (keyOf s o)) = true := by
  have h1 := ho.len
  have h2 : s.length ≤ 30 := by
    rcases hs with rfl | hs
    · simp
    · exact hs.len
  have hl : (keyOf s o).length ≤ 62 := by
    unfold keyOf
    split
    · omega
    · simp only [List.length_append, List.length_cons, List.length_nil]; omega
  unfold lowKey
  rw [B_size, data_B]
  simp only [Bool.and_eq_true, decide_eq_true_eq, List.all_eq_true, Bool.or_eq_true]
  refine ⟨fun c hc => ?_, by omega⟩
  have key : ∀ {v : List UInt8}, Sml v → c ∈ v → c.toNat < 65 ∨ 90 < c.toNat ∧ c.toNat < 128 := by
    intro v hv hc
    have := hv.ok c hc
    omega
  unfold keyOf at hc
  split at hc
  · exact key ho hc
  · rename_i hn
    simp only [List.mem_append] at hc
    rcases hc with hc | hc | hc
    · exact key (hs.resolve_left hn) hc
    · have : c = 58 := by simpa using hc
      subst this
      exact .inl (by decide)
    · exact key ho hc
theorem get_conf {l : List PSec} {s o : List UInt8} (hs : s = [] ∨ Sml s) (hd : s ≠ DEF) (ho : Sml o) (hn : (l.map (·.name)).Nodup) (hk : ∀ S ∈ l, S.name ≠ DEF ∧ (S.opts.map (·.1)).Nodup) :
    getConf (confD l) (B (keyOf s o)) = B ((findV l s o).getD []) := by
  unfold getConf
  rw [keyParts_of s o (by rcases hs with rfl | hs; simp; exact hs.no58) ho.no58]
  simp only []
  unfold confD
  rw [look_conf s o hd l [] hn hk]
  cases findV l s o <;> rfl
theorem config_string_f {l : List PSec} {s o : List UInt8} (hS : ∀ S ∈ l, SecOk S) (hf : Few l) (hh : Heads l) (hs : s = [] ∨ Sml s) (hd : s ≠ DEF) (ho : Sml o) (hn : (l.map (·.name)).Nodup) (hk : ∀ S ∈ l, S.name ≠ DEF ∧ (S.opts.map (·.1)).Nodup) :
    impl_ConfigString.f (B (confT l)) (B (keyOf s o)) = some (B ((findV l s o).getD []), 0) := by
  unfold impl_ConfigString.f
  rw [good_conf hS hf, low_key s o hs ho, if_pos (by rfl), data_B, parse_conf l hS hh]
  simp only [Option.map_some]
  rw [get_conf hs hd ho hn hk]
theorem sml1 (c : UInt8) (h : 97 ≤ c.toNat ∧ c.toNat ≤ 122) : Sml [c] := ⟨fun x hx => by obtain rfl := List.mem_singleton.1 hx; exact .inl h, by simp, by simp⟩
theorem val1 (c : UInt8) (h : 97 ≤ c.toNat ∧ c.toNat ≤ 122) : Val [c] := by
  have h1 : c ≠ 35 ∧ c ≠ 59 ∧ c ≠ 92 ∧ c ≠ 32 := by refine ⟨?_, ?_, ?_, ?_⟩ <;> (rintro rfl; revert h; decide)
  exact ⟨fun x hx => by obtain rfl := List.mem_singleton.1 hx; exact ⟨by omega, by omega, h1.1, h1.2.1, h1.2.2.1⟩, by simp, by simp, by simpa using h1.2.2.2, by simpa using h1.2.2.2⟩
theorem awake : laws_awakeConf.f = some true := by
  have h := config_string_f (l := [⟨[97], [], [([98], [[99]])]⟩]) (s := [97]) (o := [98]) (by
    intro S hS
    obtain rfl := List.mem_singleton.1 hS
    exact ⟨fun _ => sml1 97 (by decide), by simp, fun o ho => by
      obtain rfl := List.mem_singleton.1 ho
      exact ⟨sml1 98 (by decide), ⟨by simp, fun x hx => by obtain rfl := List.mem_singleton.1 hx; exact val1 99 (by decide), by simp, by simp⟩⟩⟩) ⟨by simp, by simp, by simp⟩ (by simp [Heads]) (.inr (sml1 97 (by decide))) (by decide) (sml1 98 (by decide)) (by simp) (by simp [DEF])
  unfold laws_awakeConf.f
  rw [show (⟨#[91, 97, 93, 10, 98, 32, 61, 32, 99, 10]⟩ : ByteArray) = B (confT [⟨[97], [], [([98], [[99]])]⟩]) from rfl, show (⟨#[97, 58, 58, 98]⟩ : ByteArray) = B (keyOf [97] [98]) from rfl, h]
  simp only [Option.bind_some, if_true]
  rw [B_toList]
  rfl

/-! ### The sizes of a configuration -/
def FitO (o : S53) : Prop := o.f0.size ≤ 2147483647 ∧ o.f1.length ≤ 2147483647 ∧ ∀ v ∈ o.f1, v.size ≤ 2147483647
def FitS (x : S50) : Prop := x.f0.size ≤ 2147483647 ∧ x.f1.length ≤ 2147483647 ∧ (∀ v ∈ x.f1, v.size ≤ 2147483647) ∧ x.f2.length ≤ 2147483647 ∧ ∀ o ∈ x.f2, FitO o
def LenO (o : S53) : Prop := o.f1.length ≤ 9223372036854775807
def LenS (x : S50) : Prop := x.f1.length ≤ 9223372036854775807 ∧ x.f2.length ≤ 9223372036854775807 ∧ ∀ o ∈ x.f2, LenO o
theorem rdO_mid (p q : List S53) (c : S53) (i : Int) (h : i = (p.length : Int)) : rd_T53 (p ++ c :: q) i = c := getD_mid _ p q c i h
theorem rdS_mid (p q : List S50) (c : S50) (i : Int) (h : i = (p.length : Int)) : rd_T50 (p ++ c :: q) i = c := getD_mid _ p q c i h
theorem fits10 (l : List ByteArray) (h : l.length ≤ 9223372036854775807) : ∃ b, Ev (fun k => laws_zzFits10.f k l) b ∧ (b = true → l.length ≤ 2147483647 ∧ ∀ v ∈ l, v.size ≤ 2147483647) := by
  by_cases g : (l.length : Int) > 2147483647
  · exact ⟨_, Ev.pos g (Ev.now _), by simp⟩
  · obtain ⟨b, hb, hs⟩ := zzFits10_loopS l [] (by simpa using h)
    exact ⟨b, Ev.neg g hb, fun e => ⟨by omega, hs e⟩⟩
theorem fits18 (o : S53) (h : LenO o) : ∃ b, Ev (fun k => laws_zzFits18.f k o.f0 o.f1) b ∧ (b = true → FitO o) := by
  unfold laws_zzFits18.f
  by_cases g : (o.f0.size : Int) > 2147483647
  · exact ⟨_, Ev.pos g (Ev.now _), by simp⟩
  · obtain ⟨b, hb, hs⟩ := fits10 o.f1 h
    cases b with
    | true => exact ⟨true, Ev.neg g (Ev.bind hb (Ev.pos rfl (Ev.now _))), fun _ => ⟨by omega, hs rfl⟩⟩
    | false => exact ⟨false, Ev.neg g (Ev.bind hb (Ev.neg (by simp) (Ev.now _))), by simp⟩
theorem fits17_loop (q : List S53) : ∀ p : List S53, p.length + q.length ≤ 9223372036854775807 → (∀ o ∈ q, LenO o) → ∃ b, Ev (fun k => laws_zzFits17.l0 k (p ++ q) (((p ++ q).length : Nat) : Int) (p.length : Int)) b ∧ (b = true → ∀ o ∈ q, FitO o) := by
  induction q with
  | nil => intro p _ _; exact ⟨_, Ev.step (fun _ => laws_zzFits17.l0.eq_2 _ _ _ _) (Ev.neg (by simp) (Ev.now _)), by simp⟩
  | cons c q ih =>
    intro p hp hl
    simp only [List.length_cons] at hp
    obtain ⟨b, hb, hs⟩ := ih (p ++ [c]) (by simp <;> omega) (fun o ho => hl o (List.mem_cons_of_mem _ ho))
    obtain ⟨b1, h1, h2⟩ := fits18 c (hl c (by simp))
    cases b1 with
    | false => exact ⟨false, Ev.step (fun _ => laws_zzFits17.l0.eq_2 _ _ _ _) (Ev.pos (by simp <;> omega) (Ev.pos (by omega) (Ev.pos (by simp <;> omega) (by rw [rdO_mid p q c _ rfl]; exact Ev.bind h1 (Ev.neg (by simp) (Ev.now _)))))), by simp⟩
    | true =>
      refine ⟨b, Ev.step (fun _ => laws_zzFits17.l0.eq_2 _ _ _ _) (Ev.pos (by simp <;> omega) (Ev.pos (by omega) (Ev.pos (by simp <;> omega) ?_))), ?_⟩
      · rw [rdO_mid p q c _ rfl]
        refine Ev.bind h1 (Ev.pos rfl ?_)
        rw [w64 (by omega) (by omega)]
        simpa using hb
      · intro hb o ho
        rcases List.mem_cons.1 ho with rfl | ho
        · exact h2 rfl
        · exact hs hb o ho
theorem fits17 (l : List S53) (h : l.length ≤ 9223372036854775807) (hl : ∀ o ∈ l, LenO o) : ∃ b, Ev (fun k => laws_zzFits17.f k l) b ∧ (b = true → l.length ≤ 2147483647 ∧ ∀ o ∈ l, FitO o) := by
  by_cases g : (l.length : Int) > 2147483647
  · exact ⟨_, Ev.pos g (Ev.now _), by simp⟩
  · obtain ⟨b, hb, hs⟩ := fits17_loop l [] (by simpa using h) hl
    exact ⟨b, Ev.neg g hb, fun e => ⟨by omega, hs e⟩⟩
theorem fits16 (x : S50) (h : LenS x) : ∃ b, Ev (fun k => laws_zzFits16.f k x.f0 x.f1 x.f2) b ∧ (b = true → FitS x) := by
  unfold laws_zzFits16.f
  by_cases g : (x.f0.size : Int) > 2147483647
  · exact ⟨_, Ev.pos g (Ev.now _), by simp⟩
  · obtain ⟨b, hb, hs⟩ := fits10 x.f1 h.1
    cases b with
    | false => exact ⟨false, Ev.neg g (Ev.bind hb (Ev.neg (by simp) (Ev.now _))), by simp⟩
    | true =>
      obtain ⟨b2, hb2, hs2⟩ := fits17 x.f2 h.2.1 h.2.2
      cases b2 with
      | false => exact ⟨false, Ev.neg g (Ev.bind hb (Ev.pos rfl (Ev.bind hb2 (Ev.neg (by simp) (Ev.now _))))), by simp⟩
      | true => exact ⟨true, Ev.neg g (Ev.bind hb (Ev.pos rfl (Ev.bind hb2 (Ev.pos rfl (Ev.now _))))), fun _ => ⟨by omega, (hs rfl).1, (hs rfl).2, (hs2 rfl).1, (hs2 rfl).2⟩⟩
theorem fits15_loop (q : List S50) : ∀ p : List S50, p.length + q.length ≤ 9223372036854775807 → (∀ o ∈ q, LenS o) → ∃ b, Ev (fun k => laws_zzFits15.l0 k (p ++ q) (((p ++ q).length : Nat) : Int) (p.length : Int)) b ∧ (b = true → ∀ o ∈ q, FitS o) := by
  induction q with
  | nil => intro p _ _; exact ⟨_, Ev.step (fun _ => laws_zzFits15.l0.eq_2 _ _ _ _) (Ev.neg (by simp) (Ev.now _)), by simp⟩
  | cons c q ih =>
    intro p hp hl
    simp only [List.length_cons] at hp
    obtain ⟨b, hb, hs⟩ := ih (p ++ [c]) (by simp <;> omega) (fun o ho => hl o (List.mem_cons_of_mem _ ho))
    obtain ⟨b1, h1, h2⟩ := fits16 c (hl c (by simp))
    cases b1 with
    | false => exact ⟨false, Ev.step (fun _ => laws_zzFits15.l0.eq_2 _ _ _ _) (Ev.pos (by simp <;> omega) (Ev.pos (by omega) (Ev.pos (by simp <;> omega) (by rw [rdS_mid p q c _ rfl]; exact Ev.bind h1 (Ev.neg (by simp) (Ev.now _)))))), by simp⟩
    | true =>
      refine ⟨b, Ev.step (fun _ => laws_zzFits15.l0.eq_2 _ _ _ _) (Ev.pos (by simp <;> omega) (Ev.pos (by omega) (Ev.pos (by simp <;> omega) ?_))), ?_⟩
      · rw [rdS_mid p q c _ rfl]
        refine Ev.bind h1 (Ev.pos rfl ?_)
        rw [w64 (by omega) (by omega)]
        simpa using hb
      · intro hb o ho
        rcases List.mem_cons.1 ho with rfl | ho
        · exact h2 rfl
        · exact hs hb o ho
theorem fits15 (l : List S50) (h : l.length ≤ 9223372036854775807) (hl : ∀ o ∈ l, LenS o) : ∃ b, Ev (fun k => laws_zzFits15.f k l) b ∧ (b = true → l.length ≤ 2147483647 ∧ ∀ o ∈ l, FitS o) := by
  by_cases g : (l.length : Int) > 2147483647
  · exact ⟨_, Ev.pos g (Ev.now _), by simp⟩
  · obtain ⟨b, hb, hs⟩ := fits15_loop l [] (by simpa using h) hl
    exact ⟨b, Ev.neg g hb, fun e => ⟨by omega, hs e⟩⟩

/-! ### What may be written -/
theorem bt_at (s : List UInt8) (p q : List UInt8) (c : UInt8) (h : s = p ++ c :: q) : bt (B s) (p.length : Int) = (c.toNat : Int) := by
  rw [h]
  exact bt_mid p q c _ rfl
theorem valued_loop (q : List UInt8) : ∀ p : List UInt8, (p ++ q).length ≤ 2147483647 → ∃ b, Ev (fun k => spec_Valued.l0 k (B (p ++ q)) (p.length : Int)) b ∧ (b = true → (∀ c ∈ q, 32 ≤ c.toNat ∧ c.toNat ≤ 126 ∧ c ≠ 35 ∧ c ≠ 59 ∧ c ≠ 92) ∧ (p ++ q) ≠ [] ∧ (p ++ q).length ≤ 80 ∧ (p ++ q).head? ≠ some 32 ∧ (p ++ q).getLast? ≠ some 32) := by
  induction q with
  | nil =>
    intro p hp
    rw [List.append_nil] at hp ⊢
    have e0 : ¬ ((p.length : Int) < ((B p).size : Int)) := by rw [B_size]; omega
    by_cases hn : p = []
    · exact ⟨false, Ev.step (fun _ => spec_Valued.l0.eq_2 _ _ _) (Ev.neg e0 (Ev.pos (by rw [B_toList]; exact hn) (Ev.now _))), by simp⟩
    · have hpos := List.length_pos_iff.2 hn
      have e1 : ¬ (B p).toList = ([] : List UInt8) := by rw [B_toList]; exact hn
      by_cases h80 : p.length ≤ 80
      · have e2 : ((B p).size : Int) ≤ 80 := by rw [B_size]; omega
        have e3 : 0 < ((B p).size : Int) := by rw [B_size]; omega
        obtain ⟨c, r, hc⟩ := List.exists_cons_of_ne_nil hn
        have hb0 : bt (B p) 0 = (c.toNat : Int) := bt_at p [] r c hc
        by_cases h32 : c = 32
        · exact ⟨false, Ev.step (fun _ => spec_Valued.l0.eq_2 _ _ _) (Ev.neg e0 (Ev.neg e1 (Ev.pos e2 (Ev.pos e3 (Ev.pos (by rw [hb0, h32]; rfl) (Ev.now _)))))), by simp⟩
        · have hl : p = p.dropLast ++ [p.getLast hn] := (List.dropLast_concat_getLast hn).symm
          have hdl : p.dropLast.length = p.length - 1 := List.length_dropLast
          have e4 : wrap64 (((B p).size : Int) - 1) = ((p.dropLast.length : Nat) : Int) := by rw [B_size, hdl, w64 (by omega) (by omega)]; omega
          have hb1 : bt (B p) ((p.dropLast.length : Nat) : Int) = ((p.getLast hn).toNat : Int) := bt_at p p.dropLast [] _ hl
          refine ⟨decide (p.getLast hn ≠ 32), Ev.step (fun _ => spec_Valued.l0.eq_2 _ _ _) (Ev.neg e0 (Ev.neg e1 (Ev.pos e2 (Ev.pos e3 (Ev.neg (by rw [hb0]; intro e; exact h32 ((byte_eq c 32 (by omega)).1 e)) ?_))))), ?_⟩
          · rw [e4, hb1]
            refine Ev.pos (by omega) (Ev.pos (by rw [B_size]; omega) (Ev.const ?_))
            congr 1
            rw [Bool.eq_iff_iff]
            simp only [bne_iff_ne, ne_eq, decide_eq_true_eq]
            exact not_congr (byte_eq _ 32 (by omega))
          · intro h
            have h2 := of_decide_eq_true h
            refine ⟨by simp, hn, h80, by rw [hc]; simpa using h32, ?_⟩
            rw [List.getLast?_eq_some_getLast hn]
            simpa using h2
      · exact ⟨false, Ev.step (fun _ => spec_Valued.l0.eq_2 _ _ _) (Ev.neg e0 (Ev.neg e1 (Ev.neg (by rw [B_size]; omega) (Ev.now _)))), by simp⟩
  | cons c q ih =>
    intro p hp
    have e0 : (p.length : Int) < ((B (p ++ c :: q)).size : Int) := by rw [B_size]; simp; omega
    have hb : bt (B (p ++ c :: q)) (p.length : Int) = (c.toNat : Int) := bt_at _ p q c rfl
    obtain ⟨b, hb2, hs⟩ := ih (p ++ [c]) (by simpa using hp)
    have hp2 : p.length ≤ 2147483647 := by rw [List.length_append] at hp; omega
    have key : ∀ r, Ev (fun k => if bt (B (p ++ c :: q)) (p.length : Int) < 32 then some false else (if bt (B (p ++ c :: q)) (p.length : Int) > 126 then some false else (if bt (B (p ++ c :: q)) (p.length : Int) = 35 then some false else (if bt (B (p ++ c :: q)) (p.length : Int) = 59 then some false else (if bt (B (p ++ c :: q)) (p.length : Int) = 92 then some false else spec_Valued.l0 k (B (p ++ c :: q)) (wrap64 ((p.length : Int) + 1))))))) r → Ev (fun k => spec_Valued.l0 k (B (p ++ c :: q)) (p.length : Int)) r :=
      fun r h => Ev.step (fun _ => spec_Valued.l0.eq_2 _ _ _) (Ev.pos e0 (Ev.pos (by omega) h))
    by_cases h1 : c.toNat < 32
    · exact ⟨false, key _ (Ev.pos (by rw [hb]; omega) (Ev.now _)), by simp⟩
    by_cases h2 : 126 < c.toNat
    · exact ⟨false, key _ (Ev.neg (by rw [hb]; omega) (Ev.pos (by rw [hb]; omega) (Ev.now _))), by simp⟩
    by_cases h3 : c = 35
    · exact ⟨false, key _ (Ev.neg (by rw [hb]; omega) (Ev.neg (by rw [hb]; omega) (Ev.pos (by rw [hb, h3]; rfl) (Ev.now _)))), by simp⟩
    have h3' : ¬ bt (B (p ++ c :: q)) (p.length : Int) = 35 := by rw [hb]; exact fun e => h3 ((byte_eq c 35 (by omega)).1 e)
    by_cases h4 : c = 59
    · exact ⟨false, key _ (Ev.neg (by rw [hb]; omega) (Ev.neg (by rw [hb]; omega) (Ev.neg h3' (Ev.pos (by rw [hb, h4]; rfl) (Ev.now _))))), by simp⟩
    have h4' : ¬ bt (B (p ++ c :: q)) (p.length : Int) = 59 := by rw [hb]; exact fun e => h4 ((byte_eq c 59 (by omega)).1 e)
    by_cases h5 : c = 92
    · exact ⟨false, key _ (Ev.neg (by rw [hb]; omega) (Ev.neg (by rw [hb]; omega) (Ev.neg h3' (Ev.neg h4' (Ev.pos (by rw [hb, h5]; rfl) (Ev.now _)))))), by simp⟩
    have h5' : ¬ bt (B (p ++ c :: q)) (p.length : Int) = 92 := by rw [hb]; exact fun e => h5 ((byte_eq c 92 (by omega)).1 e)
    refine ⟨b, key _ (Ev.neg (by rw [hb]; omega) (Ev.neg (by rw [hb]; omega) (Ev.neg h3' (Ev.neg h4' (Ev.neg h5' ?_))))), ?_⟩
    · rw [w64 (by omega) (by omega)]
      simpa using hb2
    · intro h
      obtain ⟨g1, g2, g3, g4, g5⟩ := hs h
      rw [List.append_assoc, List.singleton_append] at g2 g3 g4 g5
      refine ⟨fun x hx => ?_, g2, g3, g4, g5⟩
      rcases List.mem_cons.1 hx with rfl | hx
      · exact ⟨by omega, by omega, h3, h4, h5⟩
      · exact g1 x hx
theorem valued_f (v : ByteArray) (h : v.size ≤ 2147483647) : ∃ b, Ev (fun k => spec_Valued.f k v) b ∧ (b = true → Val v.data.toList) := by
  have h0 := valued_loop v.data.toList [] (by simpa using h)
  rw [List.nil_append, B_data] at h0
  obtain ⟨b, h1, h2⟩ := h0
  exact ⟨b, h1, fun e => ⟨(h2 e).1, (h2 e).2.1, (h2 e).2.2.1, (h2 e).2.2.2.1, (h2 e).2.2.2.2⟩⟩
theorem small_loop (q : List UInt8) : ∀ p : List UInt8, (p ++ q).length ≤ 2147483647 → ∃ b, Ev (fun k => spec_small.l0 k (B (p ++ q)) (p.length : Int)) b ∧ (b = true → (∀ c ∈ q, (97 ≤ c.toNat ∧ c.toNat ≤ 122) ∨ (48 ≤ c.toNat ∧ c.toNat ≤ 57) ∨ c.toNat = 95) ∧ (p ++ q) ≠ [] ∧ (p ++ q).length ≤ 30) := by
  induction q with
  | nil =>
    intro p hp
    rw [List.append_nil] at hp ⊢
    have e0 : ¬ ((p.length : Int) < ((B p).size : Int)) := by rw [B_size]; omega
    by_cases hn : p = []
    · exact ⟨false, Ev.step (fun _ => spec_small.l0.eq_2 _ _ _) (Ev.neg e0 (Ev.pos (by rw [B_toList]; exact hn) (Ev.now _))), by simp⟩
    · refine ⟨decide (((B p).size : Int) ≤ 30), Ev.step (fun _ => spec_small.l0.eq_2 _ _ _) (Ev.neg e0 (Ev.neg (by rw [B_toList]; exact hn) (Ev.now _))), fun h => ?_⟩
      have := of_decide_eq_true h
      rw [B_size] at this
      exact ⟨by simp, hn, by omega⟩
  | cons c q ih =>
    intro p hp
    have e0 : (p.length : Int) < ((B (p ++ c :: q)).size : Int) := by rw [B_size]; simp; omega
    have hb : bt (B (p ++ c :: q)) (p.length : Int) = (c.toNat : Int) := bt_at _ p q c rfl
    obtain ⟨b, hb2, hs⟩ := ih (p ++ [c]) (by simpa using hp)
    have hp2 : p.length ≤ 2147483647 := by rw [List.length_append] at hp; omega
    have hw : wrap64 ((p.length : Int) + 1) = ((p.length : Nat) : Int) + 1 := w64 (by omega) (by omega)
    have hgo : Ev (fun k => spec_small.l0 k (B (p ++ c :: q)) (wrap64 ((p.length : Int) + 1))) b := by rw [hw]; simpa using hb2
    have hfin : (97 ≤ c.toNat ∧ c.toNat ≤ 122) ∨ (48 ≤ c.toNat ∧ c.toNat ≤ 57) ∨ c.toNat = 95 → b = true → (∀ x ∈ c :: q, (97 ≤ x.toNat ∧ x.toNat ≤ 122) ∨ (48 ≤ x.toNat ∧ x.toNat ≤ 57) ∨ x.toNat = 95) ∧ (p ++ c :: q) ≠ [] ∧ (p ++ c :: q).length ≤ 30 := by
      intro hc h
      obtain ⟨g1, g2, g3⟩ := hs h
      rw [List.append_assoc, List.singleton_append] at g2 g3
      refine ⟨fun x hx => ?_, g2, g3⟩
      rcases List.mem_cons.1 hx with rfl | hx
      · exact hc
      · exact g1 x hx
    by_cases h1 : c.toNat < 97
    · by_cases h2 : c.toNat < 48
      · exact ⟨false, Ev.step (fun _ => spec_small.l0.eq_2 _ _ _) (Ev.pos e0 (Ev.pos (by omega) (Ev.pos (by rw [hb]; omega) (Ev.pos (by rw [hb]; omega) (Ev.neg (by rw [hb]; omega) (Ev.now _)))))), by simp⟩
      · by_cases h3 : 57 < c.toNat
        · by_cases h4 : c.toNat = 95
          · exact ⟨b, Ev.step (fun _ => spec_small.l0.eq_2 _ _ _) (Ev.pos e0 (Ev.pos (by omega) (Ev.pos (by rw [hb]; omega) (Ev.neg (by rw [hb]; omega) (Ev.pos (by rw [hb]; omega) (Ev.pos (by rw [hb]; omega) hgo)))))), hfin (by omega)⟩
          · exact ⟨false, Ev.step (fun _ => spec_small.l0.eq_2 _ _ _) (Ev.pos e0 (Ev.pos (by omega) (Ev.pos (by rw [hb]; omega) (Ev.neg (by rw [hb]; omega) (Ev.pos (by rw [hb]; omega) (Ev.neg (by rw [hb]; omega) (Ev.now _))))))), by simp⟩
        · exact ⟨b, Ev.step (fun _ => spec_small.l0.eq_2 _ _ _) (Ev.pos e0 (Ev.pos (by omega) (Ev.pos (by rw [hb]; omega) (Ev.neg (by rw [hb]; omega) (Ev.neg (by rw [hb]; omega) hgo))))), hfin (by omega)⟩
    · by_cases h2 : 122 < c.toNat
      · exact ⟨false, Ev.step (fun _ => spec_small.l0.eq_2 _ _ _) (Ev.pos e0 (Ev.pos (by omega) (Ev.neg (by rw [hb]; omega) (Ev.pos (by rw [hb]; omega) (Ev.neg (by rw [hb]; omega) (Ev.pos (by rw [hb]; omega) (Ev.neg (by rw [hb]; omega) (Ev.now _)))))))), by simp⟩
      · exact ⟨b, Ev.step (fun _ => spec_small.l0.eq_2 _ _ _) (Ev.pos e0 (Ev.pos (by omega) (Ev.neg (by rw [hb]; omega) (Ev.neg (by rw [hb]; omega) hgo)))), hfin (by omega)⟩
theorem small_f (v : ByteArray) (h : v.size ≤ 2147483647) : ∃ b, Ev (fun k => spec_small.f k v) b ∧ (b = true → Sml v.data.toList) := by
  have h0 := small_loop v.data.toList [] (by simpa using h)
  rw [List.nil_append, B_data] at h0
  obtain ⟨b, h1, h2⟩ := h0
  exact ⟨b, h1, fun e => ⟨(h2 e).1, (h2 e).2.1, (h2 e).2.2⟩⟩

/-! ### Sections that are written -/
def psO (o : S53) : List UInt8 × List (List UInt8) := (o.f0.data.toList, o.f1.map (·.data.toList))
def psS (x : S50) : PSec := ⟨x.f0.data.toList, x.f1.map (·.data.toList), x.f2.map psO⟩
/-- what holds of an option that is written, but for its place -/
structure OptOk (o : S53) : Prop where
  key : Sml o.f0.data.toList
  ne : o.f1 ≠ []
  ok : ∀ v ∈ o.f1, Val v.data.toList
  rest : ∀ v ∈ o.f1.tail, v.data.toList.head? ≠ some 91
theorem idx_bound (p q : List S50) (c : S50) : (0 ≤ ((p.length : Nat) : Int)) ∧ ((p.length : Nat) : Int) < (((p ++ c :: q).length : Nat) : Int) := by simp <;> omega
/-- the keys of the options before one -/
theorem l5_loop (P Q : List S50) (x : S50) (o : S53) (a r : List S53) (hx : x.f2 = a ++ o :: r) (hal : a.length ≤ 2147483647) (res : Bool) (hgo : Ev (fun k => spec_Written.l3 k (P ++ x :: Q) (P.length : Int) ((a.length : Int) + 1)) res) (hno : ∀ y ∈ a, y.f0 ≠ o.f0) :
    ∀ (n : Nat) (i : Nat), n + i = a.length → Ev (fun k => spec_Written.l5 k (P ++ x :: Q) (P.length : Int) (a.length : Int) (i : Int) o.f0 o.f1) res := by
  obtain ⟨e1, e2⟩ := idx_bound P Q x
  intro n
  induction n with
  | zero =>
    intro i hi
    refine Ev.step (fun _ => spec_Written.l5.eq_2 _ _ _ _ _ _ _) (Ev.neg (by omega) ?_)
    rw [w64 (by omega) (by omega)]
    exact hgo
  | succ n ih =>
    intro i hi
    have hil : i < a.length := by omega
    have hl2 : ((x.f2.length : Nat) : Int) = (a.length : Int) + 1 + (r.length : Int) := by rw [hx]; simp; omega
    refine Ev.step (fun _ => spec_Written.l5.eq_2 _ _ _ _ _ _ _) (Ev.pos (by omega) (Ev.pos e1 (Ev.pos e2 (Ev.pos (by omega) ?_))))
    rw [rdS_mid P Q x _ rfl]
    refine Ev.pos (by omega) ?_
    have e : rd_T53 x.f2 (i : Int) = a[i] := by
      unfold rd_T53
      rw [hx]
      simp [List.getD_eq_getElem?_getD, List.getElem?_append_left hil, List.getElem?_eq_getElem hil]
    rw [e]
    refine Ev.neg (fun h => hno _ (List.getElem_mem hil) ((toList_iff _ _).1 h)) ?_
    rw [w64 (by omega) (by omega)]
    exact ih (i + 1) (by omega)
theorem l5_same (P Q : List S50) (x : S50) (o : S53) (a r : List S53) (hx : x.f2 = a ++ o :: r) (hal : a.length ≤ 2147483647) (j : Nat) (hj : j < a.length) (he : a[j].f0 = o.f0) (hno : ∀ i (h : i < j), (a[i]'(by omega)).f0 ≠ o.f0) :
    ∀ (n : Nat) (i : Nat), n + i = j → Ev (fun k => spec_Written.l5 k (P ++ x :: Q) (P.length : Int) (a.length : Int) (i : Int) o.f0 o.f1) false := by
  obtain ⟨e1, e2⟩ := idx_bound P Q x
  have hl2 : ((x.f2.length : Nat) : Int) = (a.length : Int) + 1 + (r.length : Int) := by rw [hx]; simp; omega
  have hat : ∀ i (hi : i < a.length), rd_T53 x.f2 (i : Int) = a[i] := by
    intro i hi
    unfold rd_T53
    rw [hx]
    simp [List.getD_eq_getElem?_getD, List.getElem?_append_left hi, List.getElem?_eq_getElem hi]
  intro n
  induction n with
  | zero =>
    intro i hi
    obtain rfl : i = j := by omega
    refine Ev.step (fun _ => spec_Written.l5.eq_2 _ _ _ _ _ _ _) (Ev.pos (by omega) (Ev.pos e1 (Ev.pos e2 (Ev.pos (by omega) ?_))))
    rw [rdS_mid P Q x _ rfl]
    refine Ev.pos (by omega) ?_
    rw [hat i hj]
    exact Ev.pos ((toList_iff _ _).2 he) (Ev.now _)
  | succ n ih =>
    intro i hi
    refine Ev.step (fun _ => spec_Written.l5.eq_2 _ _ _ _ _ _ _) (Ev.pos (by omega) (Ev.pos e1 (Ev.pos e2 (Ev.pos (by omega) ?_))))
    rw [rdS_mid P Q x _ rfl]
    refine Ev.pos (by omega) ?_
    rw [hat i (by omega)]
    refine Ev.neg (fun h => hno i (by omega) ((toList_iff _ _).1 h)) ?_
    rw [w64 (by omega) (by omega)]
    exact ih (i + 1) (by omega)
/-- the first place where a key stands -/
theorem first_at (o : ByteArray) : ∀ (a : List S53), (∀ y ∈ a, y.f0 ≠ o) ∨ ∃ j, ∃ hj : j < a.length, a[j].f0 = o ∧ ∀ i (h : i < j), (a[i]'(by omega)).f0 ≠ o
  | [] => .inl (by simp)
  | x :: a => by
    by_cases h : x.f0 = o
    · exact .inr ⟨0, by simp, h, fun i hi => by omega⟩
    · rcases first_at o a with h2 | ⟨j, hj, e, hn⟩
      · refine .inl (fun y hy => ?_)
        rcases List.mem_cons.1 hy with rfl | hy
        · exact h
        · exact h2 y hy
      · refine .inr ⟨j + 1, by simpa using hj, by simpa using e, fun i hi => ?_⟩
        cases i with
        | zero => exact h
        | succ i => simpa using hn i (by omega)
/-- the parts of an option's value -/
theorem l4_loop (P Q : List S50) (x : S50) (o : S53) (m : Int) (res : Bool) (hgo : Ev (fun k => spec_Written.l5 k (P ++ x :: Q) (P.length : Int) m 0 o.f0 o.f1) res) (hz : ∀ v ∈ o.f1, v.size ≤ 2147483647) (hl : o.f1.length ≤ 2147483647) :
    ∀ (q p : List ByteArray), o.f1 = p ++ q → ∃ b, Ev (fun k => spec_Written.l4 k (P ++ x :: Q) (P.length : Int) m (p.length : Int) o.f0 o.f1) b ∧ (b = res ∨ b = false) ∧ (b = true → (∀ v ∈ q, Val v.data.toList) ∧ ∀ v ∈ (if p = [] then q.tail else q), v.data.toList.head? ≠ some 91) := by
  intro q
  induction q with
  | nil =>
    intro p hp
    rw [List.append_nil] at hp
    refine ⟨res, Ev.step (fun _ => spec_Written.l4.eq_2 _ _ _ _ _ _ _) (Ev.neg (by rw [hp]; omega) hgo), .inl rfl, fun _ => ⟨by simp, by split <;> simp⟩⟩
  | cons c q ih =>
    intro p hp
    have hcl : (p.length : Int) < ((o.f1.length : Nat) : Int) := by rw [hp]; simp; omega
    have hpl : p.length ≤ 2147483647 := by rw [hp] at hl; rw [List.length_append] at hl; omega
    obtain ⟨b, hb, hbr, hs⟩ := ih (p ++ [c]) (by rw [hp]; simp)
    have hc := hz c (by rw [hp]; simp)
    obtain ⟨bv, hv1, hv2⟩ := valued_f c hc
    have hrd : rdOf ByteArray.empty o.f1 (p.length : Int) = c := by rw [hp]; exact rdOf_mid _ p q c _ rfl
    have hw : wrap64 ((p.length : Int) + 1) = (((p ++ [c]).length : Nat) : Int) := by rw [w64 (by omega) (by omega)]; simp
    have key : ∀ r, Ev (fun k => (spec_Valued.f k c).bind fun t => (if t = true then (if (p.length : Int) > 0 then (if 0 < (c.size : Int) then (if (bt c 0) = 91 then (some false) else (if (bt c 0) = 61 then (some false) else (spec_Written.l4 k (P ++ x :: Q) (P.length : Int) m (wrap64 ((p.length : Int) + 1)) o.f0 o.f1))) else (none)) else (spec_Written.l4 k (P ++ x :: Q) (P.length : Int) m (wrap64 ((p.length : Int) + 1)) o.f0 o.f1)) else (some false))) r → Ev (fun k => spec_Written.l4 k (P ++ x :: Q) (P.length : Int) m (p.length : Int) o.f0 o.f1) r := by
      intro r h
      refine Ev.step (fun _ => spec_Written.l4.eq_2 _ _ _ _ _ _ _) (Ev.pos hcl (Ev.pos (by omega) ?_))
      rw [hrd]
      exact h
    cases bv with
    | false => exact ⟨false, key _ (Ev.bind hv1 (Ev.neg (by simp) (Ev.now _))), .inr rfl, by simp⟩
    | true =>
      have hval := hv2 rfl
      by_cases hp0 : p = []
      · refine ⟨b, key _ (Ev.bind hv1 (Ev.pos rfl (Ev.neg (by rw [hp0]; simp) ?_))), hbr, fun e => ?_⟩
        · rw [hw]; exact hb
        · obtain ⟨g1, g2⟩ := hs e
          rw [if_neg (by simp)] at g2
          refine ⟨fun v hv => ?_, ?_⟩
          · rcases List.mem_cons.1 hv with rfl | hv
            · exact hval
            · exact g1 v hv
          · rw [if_pos hp0]
            exact g2
      · have hpos : (p.length : Int) > 0 := by have := List.length_pos_iff.2 hp0; omega
        obtain ⟨d, r, hd⟩ := List.exists_cons_of_ne_nil hval.ne
        have hcB : c = B (d :: r) := by rw [← hd, B_data]
        have hb0 : bt c 0 = (d.toNat : Int) := by rw [hcB]; exact bt_at _ [] r d rfl
        have hsz : 0 < (c.size : Int) := by rw [hcB, B_size]; simp only [List.length_cons]; omega
        by_cases h91 : d = 91
        · exact ⟨false, key _ (Ev.bind hv1 (Ev.pos rfl (Ev.pos hpos (Ev.pos hsz (Ev.pos (by rw [hb0, h91]; rfl) (Ev.now _)))))), .inr rfl, by simp⟩
        have h91' : ¬ bt c 0 = 91 := by rw [hb0]; exact fun e => h91 ((byte_eq d 91 (by omega)).1 e)
        by_cases h61 : d = 61
        · exact ⟨false, key _ (Ev.bind hv1 (Ev.pos rfl (Ev.pos hpos (Ev.pos hsz (Ev.neg h91' (Ev.pos (by rw [hb0, h61]; rfl) (Ev.now _))))))), .inr rfl, by simp⟩
        have h61' : ¬ bt c 0 = 61 := by rw [hb0]; exact fun e => h61 ((byte_eq d 61 (by omega)).1 e)
        refine ⟨b, key _ (Ev.bind hv1 (Ev.pos rfl (Ev.pos hpos (Ev.pos hsz (Ev.neg h91' (Ev.neg h61' ?_)))))), hbr, fun e => ?_⟩
        · rw [hw]; exact hb
        · obtain ⟨g1, g2⟩ := hs e
          rw [if_neg (by simp)] at g2
          refine ⟨fun v hv => ?_, ?_⟩
          · rcases List.mem_cons.1 hv with rfl | hv
            · exact hval
            · exact g1 v hv
          · rw [if_neg hp0]
            intro v hv
            rcases List.mem_cons.1 hv with rfl | hv
            · rw [hd]; simpa using h91
            · exact g2 v hv
theorem l3_loop (P Q : List S50) (x : S50) (hf : FitS x) (res : Bool) (hgo : Ev (fun k => spec_Written.l0 k (P ++ x :: Q) ((P.length : Int) + 1)) res) (hP : P.length ≤ 2147483647) :
    ∀ (q p : List S53), x.f2 = p ++ q → ∃ b, Ev (fun k => spec_Written.l3 k (P ++ x :: Q) (P.length : Int) (p.length : Int)) b ∧ (b = res ∨ b = false) ∧ (b = true → (∀ o ∈ q, OptOk o) ∧ ∀ (a : List S53) (o : S53) (r : List S53), q = a ++ o :: r → ∀ y ∈ p ++ a, y.f0 ≠ o.f0) := by
  obtain ⟨e1, e2⟩ := idx_bound P Q x
  intro q
  induction q with
  | nil =>
    intro p hp
    rw [List.append_nil] at hp
    refine ⟨res, Ev.step (fun _ => spec_Written.l3.eq_2 _ _ _ _) (Ev.pos e1 (Ev.pos e2 ?_)), .inl rfl, fun _ => ⟨by simp, fun a o r h => by simp at h⟩⟩
    rw [rdS_mid P Q x _ rfl]
    refine Ev.neg (by rw [hp]; omega) ?_
    rw [w64 (by omega) (by omega)]
    exact hgo
  | cons o q ih =>
    intro p hp
    have hpl : p.length ≤ 2147483647 := by have := hf.2.2.2.1; rw [hp, List.length_append] at this; omega
    have hfo := hf.2.2.2.2 o (by rw [hp]; simp)
    obtain ⟨b, hb, hbr, hs⟩ := ih (p ++ [o]) (by rw [hp]; simp)
    rw [show (((p ++ [o]).length : Nat) : Int) = (p.length : Int) + 1 from by simp] at hb
    have hrd : rd_T53 x.f2 (p.length : Int) = o := by rw [hp]; exact rdO_mid p q o _ rfl
    obtain ⟨bs, hs1, hs2⟩ := small_f o.f0 hfo.1
    have key : ∀ r, Ev (fun k => (spec_small.f k o.f0).bind fun t => (if t = true then (spec_Written.j5 k (P ++ x :: Q) (P.length : Int) (p.length : Int) (((o.f1.length : Nat) : Int) == 0) o.f0 o.f1) else (spec_Written.j5 k (P ++ x :: Q) (P.length : Int) (p.length : Int) true o.f0 o.f1))) r → Ev (fun k => spec_Written.l3 k (P ++ x :: Q) (P.length : Int) (p.length : Int)) r := by
      intro r h
      refine Ev.step (fun _ => spec_Written.l3.eq_2 _ _ _ _) (Ev.pos e1 (Ev.pos e2 ?_))
      rw [rdS_mid P Q x _ rfl]
      refine Ev.pos (by rw [hp]; simp; omega) (Ev.pos (by omega) ?_)
      rw [hrd]
      exact h
    have jt : Ev (fun k => spec_Written.j5 k (P ++ x :: Q) (P.length : Int) (p.length : Int) true o.f0 o.f1) false := Ev.step (fun _ => spec_Written.j5.eq_2 _ _ _ _ _ _ _) (Ev.pos rfl (Ev.now _))
    cases bs with
    | false => exact ⟨false, key _ (Ev.bind hs1 (Ev.neg (by simp) jt)), .inr rfl, by simp⟩
    | true =>
      have hsm := hs2 rfl
      by_cases hne : o.f1 = []
      · refine ⟨false, key _ (Ev.bind hs1 (Ev.pos rfl ?_)), .inr rfl, by simp⟩
        rw [show (((o.f1.length : Nat) : Int) == 0) = true from by rw [hne]; rfl]
        exact jt
      · have hz : (((o.f1.length : Nat) : Int) == 0) = false := by have := List.length_pos_iff.2 hne; rw [beq_eq_false_iff_ne]; omega
        -- the keys before it
        have h5 : ∃ b5, Ev (fun k => spec_Written.l5 k (P ++ x :: Q) (P.length : Int) (p.length : Int) 0 o.f0 o.f1) b5 ∧ (b5 = b ∨ b5 = false) ∧ (b5 = true → ∀ y ∈ p, y.f0 ≠ o.f0) := by
          rcases first_at o.f0 p with hno | ⟨j, hj, e, hn⟩
          · exact ⟨b, l5_loop P Q x o p q hp hpl b hb hno p.length 0 (by omega), .inl rfl, fun _ => hno⟩
          · exact ⟨false, l5_same P Q x o p q hp hpl j hj e hn j 0 (by omega), .inr rfl, by simp⟩
        obtain ⟨b5, h5a, h5b, h5c⟩ := h5
        obtain ⟨b4, h4a, h4b, h4c⟩ := l4_loop P Q x o (p.length : Int) b5 h5a hfo.2.2 hfo.2.1 o.f1 [] rfl
        refine ⟨b4, key _ (Ev.bind hs1 (Ev.pos rfl ?_)), ?_, fun h => ?_⟩
        · rw [hz]
          exact Ev.step (fun _ => spec_Written.j5.eq_2 _ _ _ _ _ _ _) (Ev.neg (by simp) h4a)
        · rcases h4b with h4b | h4b
          · rcases h5b with h5b | h5b
            · rcases hbr with hbr | hbr
              · exact .inl (by rw [h4b, h5b, hbr])
              · exact .inr (by rw [h4b, h5b, hbr])
            · exact .inr (by rw [h4b, h5b])
          · exact .inr h4b
        · obtain ⟨g1, g2⟩ := h4c h
          rw [if_pos rfl] at g2
          have h5t : b5 = true := by
            rcases h4b with h4b | h4b
            · rw [← h4b, h]
            · rw [h] at h4b; cases h4b
          have hbt : b = true := by
            rcases h5b with h5b | h5b
            · rw [← h5b, h5t]
            · rw [h5t] at h5b; cases h5b
          obtain ⟨g3, g4⟩ := hs hbt
          refine ⟨fun y hy => ?_, fun a y r ha z hz2 => ?_⟩
          · rcases List.mem_cons.1 hy with rfl | hy
            · exact ⟨hsm, hne, g1, g2⟩
            · exact g3 y hy
          · cases a with
            | nil =>
              simp only [List.nil_append, List.cons.injEq] at ha
              rw [← ha.1]
              exact h5c h5t z (by simpa using hz2)
            | cons w a =>
              simp only [List.cons_append, List.cons.injEq] at ha
              rw [← ha.1] at hz2
              exact g4 a y r ha.2 z (by simpa using hz2)

/-- what holds of a section that is written, but for its place -/
structure SOk (x : S50) : Prop where
  name : x.f0.data.toList ≠ [] → Sml x.f0.data.toList ∧ x.f0.data.toList ≠ DEF
  notes : ∀ n ∈ x.f1, n.data.toList = [] ∨ Val n.data.toList
  opts : ∀ o ∈ x.f2, OptOk o
  keys : (x.f2.map (·.f0)).Nodup
theorem nodup_of_firsts {α β : Type} (f : α → β) : ∀ l : List α, (∀ a x r, l = a ++ x :: r → ∀ y ∈ a, f y ≠ f x) → (l.map f).Nodup
  | [], _ => by simp
  | x :: l, h => by
    rw [List.map_cons, List.nodup_cons]
    refine ⟨fun hm => ?_, nodup_of_firsts f l (fun a y r e z hz => h (x :: a) y r (by rw [e]; rfl) z (List.mem_cons_of_mem _ hz))⟩
    obtain ⟨y, hy, e⟩ := List.mem_map.1 hm
    obtain ⟨a, r, rfl⟩ := List.append_of_mem hy
    exact h (x :: a) y r rfl x (by simp) e.symm
theorem l2_loop (P Q : List S50) (x : S50) (hf : FitS x) (hP : P.length ≤ 2147483647) (res : Bool) (hgo : Ev (fun k => spec_Written.l3 k (P ++ x :: Q) (P.length : Int) 0) res) :
    ∀ (q p : List ByteArray), x.f1 = p ++ q → ∃ b, Ev (fun k => spec_Written.l2 k (P ++ x :: Q) (P.length : Int) (p.length : Int)) b ∧ (b = res ∨ b = false) ∧ (b = true → ∀ n ∈ q, n.data.toList = [] ∨ Val n.data.toList) := by
  obtain ⟨e1, e2⟩ := idx_bound P Q x
  intro q
  induction q with
  | nil =>
    intro p hp
    rw [List.append_nil] at hp
    refine ⟨res, Ev.step (fun _ => spec_Written.l2.eq_2 _ _ _ _) (Ev.pos e1 (Ev.pos e2 ?_)), .inl rfl, fun _ => by simp⟩
    rw [rdS_mid P Q x _ rfl]
    exact Ev.neg (by rw [hp]; omega) hgo
  | cons c q ih =>
    intro p hp
    have hpl : p.length ≤ 2147483647 := by have := hf.2.1; rw [hp, List.length_append] at this; omega
    have hc := hf.2.2.1 c (by rw [hp]; simp)
    obtain ⟨b, hb, hbr, hs⟩ := ih (p ++ [c]) (by rw [hp]; simp)
    have hw : wrap64 ((p.length : Int) + 1) = (((p ++ [c]).length : Nat) : Int) := by rw [w64 (by omega) (by omega)]; simp
    have hrd : rdOf ByteArray.empty x.f1 (p.length : Int) = c := by rw [hp]; exact rdOf_mid _ p q c _ rfl
    have key : ∀ r, Ev (fun k => if c.toList = ([] : List UInt8) then (spec_Written.l2 k (P ++ x :: Q) (P.length : Int) (wrap64 ((p.length : Int) + 1))) else ((spec_Valued.f k c).bind fun t => (if t = true then (spec_Written.l2 k (P ++ x :: Q) (P.length : Int) (wrap64 ((p.length : Int) + 1))) else (some false)))) r → Ev (fun k => spec_Written.l2 k (P ++ x :: Q) (P.length : Int) (p.length : Int)) r := by
      intro r h
      refine Ev.step (fun _ => spec_Written.l2.eq_2 _ _ _ _) (Ev.pos e1 (Ev.pos e2 ?_))
      rw [rdS_mid P Q x _ rfl]
      refine Ev.pos (by rw [hp]; simp; omega) (Ev.pos (by omega) ?_)
      rw [hrd]
      exact h
    by_cases hcn : c.toList = ([] : List UInt8)
    · refine ⟨b, key _ (Ev.pos hcn ?_), hbr, fun e n hn => ?_⟩
      · rw [hw]; exact hb
      · rcases List.mem_cons.1 hn with rfl | hn
        · exact .inl (by rw [← ByteArray.toList_eq]; exact hcn)
        · exact hs e n hn
    · obtain ⟨bv, hv1, hv2⟩ := valued_f c hc
      cases bv with
      | false => exact ⟨false, key _ (Ev.neg hcn (Ev.bind hv1 (Ev.neg (by simp) (Ev.now _)))), .inr rfl, by simp⟩
      | true =>
        refine ⟨b, key _ (Ev.neg hcn (Ev.bind hv1 (Ev.pos rfl ?_))), hbr, fun e n hn => ?_⟩
        · rw [hw]; exact hb
        · rcases List.mem_cons.1 hn with rfl | hn
          · exact .inr (hv2 rfl)
          · exact hs e n hn
theorem firstS_at (o : ByteArray) : ∀ (a : List S50), (∀ y ∈ a, y.f0 ≠ o) ∨ ∃ j, ∃ hj : j < a.length, a[j].f0 = o ∧ ∀ i (h : i < j), (a[i]'(by omega)).f0 ≠ o
  | [] => .inl (by simp)
  | x :: a => by
    by_cases h : x.f0 = o
    · exact .inr ⟨0, by simp, h, fun i hi => by omega⟩
    · rcases firstS_at o a with h2 | ⟨j, hj, e, hn⟩
      · refine .inl (fun y hy => ?_)
        rcases List.mem_cons.1 hy with rfl | hy
        · exact h
        · exact h2 y hy
      · refine .inr ⟨j + 1, by simpa using hj, by simpa using e, fun i hi => ?_⟩
        cases i with
        | zero => exact h
        | succ i => simpa using hn i (by omega)
theorem rdS_before (P Q : List S50) (x : S50) (i : Nat) (hi : i < P.length) : rd_T50 (P ++ x :: Q) (i : Int) = P[i] := by
  unfold rd_T50
  simp [List.getD_eq_getElem?_getD, List.getElem?_append_left hi, List.getElem?_eq_getElem hi]
theorem l1_loop (P Q : List S50) (x : S50) (hP : P.length ≤ 2147483647) (res : Bool) (hgo : Ev (fun k => spec_Written.l2 k (P ++ x :: Q) (P.length : Int) 0) res) (hno : ∀ y ∈ P, y.f0 ≠ x.f0) :
    ∀ (n i : Nat), n + i = P.length → Ev (fun k => spec_Written.l1 k (P ++ x :: Q) (P.length : Int) (i : Int)) res := by
  obtain ⟨e1, e2⟩ := idx_bound P Q x
  intro n
  induction n with
  | zero => intro i hi; exact Ev.step (fun _ => spec_Written.l1.eq_2 _ _ _ _) (Ev.neg (by omega) hgo)
  | succ n ih =>
    intro i hi
    have hil : i < P.length := by omega
    refine Ev.step (fun _ => spec_Written.l1.eq_2 _ _ _ _) (Ev.pos (by omega) (Ev.pos (by omega) (Ev.pos (by omega) (Ev.pos e1 (Ev.pos e2 ?_)))))
    rw [rdS_mid P Q x _ rfl, rdS_before P Q x i hil]
    refine Ev.neg (fun h => hno _ (List.getElem_mem hil) ((toList_iff _ _).1 h)) ?_
    rw [w64 (by omega) (by omega)]
    exact ih (i + 1) (by omega)
theorem l1_same (P Q : List S50) (x : S50) (hP : P.length ≤ 2147483647) (j : Nat) (hj : j < P.length) (he : P[j].f0 = x.f0) (hno : ∀ i (h : i < j), (P[i]'(by omega)).f0 ≠ x.f0) :
    ∀ (n i : Nat), n + i = j → Ev (fun k => spec_Written.l1 k (P ++ x :: Q) (P.length : Int) (i : Int)) false := by
  obtain ⟨e1, e2⟩ := idx_bound P Q x
  intro n
  induction n with
  | zero =>
    intro i hi
    obtain rfl : i = j := by omega
    refine Ev.step (fun _ => spec_Written.l1.eq_2 _ _ _ _) (Ev.pos (by omega) (Ev.pos (by omega) (Ev.pos (by omega) (Ev.pos e1 (Ev.pos e2 ?_)))))
    rw [rdS_mid P Q x _ rfl, rdS_before P Q x i hj]
    exact Ev.pos ((toList_iff _ _).2 he) (Ev.now _)
  | succ n ih =>
    intro i hi
    refine Ev.step (fun _ => spec_Written.l1.eq_2 _ _ _ _) (Ev.pos (by omega) (Ev.pos (by omega) (Ev.pos (by omega) (Ev.pos e1 (Ev.pos e2 ?_)))))
    rw [rdS_mid P Q x _ rfl, rdS_before P Q x i (by omega)]
    refine Ev.neg (fun h => hno i (by omega) ((toList_iff _ _).1 h)) ?_
    rw [w64 (by omega) (by omega)]
    exact ih (i + 1) (by omega)
theorem written_loop : ∀ (Q P : List S50), (∀ x ∈ Q, FitS x) → (P ++ Q).length ≤ 2147483647 → ∃ b, Ev (fun k => spec_Written.l0 k (P ++ Q) (P.length : Int)) b ∧ (b = true → (∀ x ∈ Q, SOk x) ∧ (∀ a x r, Q = a ++ x :: r → (∀ y ∈ P ++ a, y.f0 ≠ x.f0) ∧ (P ++ a ≠ [] → x.f0.data.toList ≠ []))) := by
  intro Q
  induction Q with
  | nil =>
    intro P _ _
    refine ⟨true, Ev.step (fun _ => spec_Written.l0.eq_2 _ _ _) (Ev.neg (by simp) (Ev.now _)), fun _ => ⟨by simp, fun a x r h => by simp at h⟩⟩
  | cons x Q ih =>
    intro P hf hl
    obtain ⟨e1, e2⟩ := idx_bound P Q x
    have hP : P.length ≤ 2147483647 := by rw [List.length_append] at hl; omega
    have hfx := hf x (by simp)
    obtain ⟨b, hb, hs⟩ := ih (P ++ [x]) (fun y hy => hf y (List.mem_cons_of_mem _ hy)) (by simpa using hl)
    rw [show (P ++ [x]) ++ Q = P ++ x :: Q from by simp, show (((P ++ [x]).length : Nat) : Int) = (P.length : Int) + 1 from by simp] at hb
    obtain ⟨b3, h3a, h3b, h3c⟩ := l3_loop P Q x hfx b hb hP x.f2 [] rfl
    obtain ⟨b2, h2a, h2b, h2c⟩ := l2_loop P Q x hfx hP b3 h3a x.f1 [] rfl
    have h1 : ∃ b1, Ev (fun k => spec_Written.l1 k (P ++ x :: Q) (P.length : Int) 0) b1 ∧ (b1 = b2 ∨ b1 = false) ∧ (b1 = true → ∀ y ∈ P, y.f0 ≠ x.f0) := by
      rcases firstS_at x.f0 P with hno | ⟨j, hj, e, hn⟩
      · exact ⟨b2, l1_loop P Q x hP b2 h2a hno P.length 0 (by omega), .inl rfl, fun _ => hno⟩
      · exact ⟨false, l1_same P Q x hP j hj e hn j 0 (by omega), .inr rfl, by simp⟩
    obtain ⟨b1, h1a, h1b, h1c⟩ := h1
    have j1t : Ev (fun k => spec_Written.j1 k (P ++ x :: Q) (P.length : Int) true) false := Ev.step (fun _ => spec_Written.j1.eq_2 _ _ _ _) (Ev.pos rfl (Ev.now _))
    have j1f : Ev (fun k => spec_Written.j1 k (P ++ x :: Q) (P.length : Int) false) b1 := Ev.step (fun _ => spec_Written.j1.eq_2 _ _ _ _) (Ev.neg (by simp) h1a)
    have key : ∀ r, Ev (fun k => if x.f0.toList = ([] : List UInt8) then (if (P.length : Int) > 0 then (spec_Written.j1 k (P ++ x :: Q) (P.length : Int) true) else (spec_Written.j1 k (P ++ x :: Q) (P.length : Int) false)) else ((spec_small.f k x.f0).bind fun t => (if t = true then (spec_Written.j1 k (P ++ x :: Q) (P.length : Int) (x.f0.toList == ([100, 101, 102, 97, 117, 108, 116] : List UInt8))) else (spec_Written.j1 k (P ++ x :: Q) (P.length : Int) true)))) r → Ev (fun k => spec_Written.l0 k (P ++ x :: Q) (P.length : Int)) r := by
      intro r h
      refine Ev.step (fun _ => spec_Written.l0.eq_2 _ _ _) (Ev.pos e2 (Ev.pos e1 ?_))
      rw [rdS_mid P Q x _ rfl]
      exact h
    -- what follows where the head is right
    have fin : (x.f0.data.toList ≠ [] → Sml x.f0.data.toList ∧ x.f0.data.toList ≠ DEF) → (P ≠ [] → x.f0.data.toList ≠ []) → b1 = true → (∀ y ∈ x :: Q, SOk y) ∧ (∀ a y r, x :: Q = a ++ y :: r → (∀ z ∈ P ++ a, z.f0 ≠ y.f0) ∧ (P ++ a ≠ [] → y.f0.data.toList ≠ [])) := by
      intro hn hp h
      have g1 := h1c h
      have h2t : b2 = true := by
        rcases h1b with q | q
        · rw [← q, h]
        · rw [h] at q; cases q
      have g2 := h2c h2t
      have h3t : b3 = true := by
        rcases h2b with q | q
        · rw [← q, h2t]
        · rw [h2t] at q; cases q
      obtain ⟨g3, g4⟩ := h3c h3t
      have hbt : b = true := by
        rcases h3b with q | q
        · rw [← q, h3t]
        · rw [h3t] at q; cases q
      obtain ⟨g5, g6⟩ := hs hbt
      refine ⟨fun y hy => ?_, fun a y r ha => ?_⟩
      · rcases List.mem_cons.1 hy with rfl | hy
        · exact ⟨hn, g2, g3, nodup_of_firsts (·.f0) _ (fun a o r e z hz => g4 a o r e z (by simpa using hz))⟩
        · exact g5 y hy
      · cases a with
        | nil =>
          simp only [List.nil_append, List.cons.injEq] at ha
          rw [← ha.1]
          exact ⟨fun z hz => g1 z (by simpa using hz), fun h => hp (by simpa using h)⟩
        | cons w a =>
          simp only [List.cons_append, List.cons.injEq] at ha
          obtain ⟨q1, q2⟩ := g6 a y r ha.2
          rw [← ha.1]
          exact ⟨fun z hz => q1 z (by simpa using hz), fun h => q2 (by simp)⟩
    by_cases hxn : x.f0.toList = ([] : List UInt8)
    · have hxn2 : x.f0.data.toList = [] := by rw [← ByteArray.toList_eq]; exact hxn
      by_cases hp0 : P = []
      · refine ⟨b1, key _ (Ev.pos hxn (Ev.neg (by rw [hp0]; simp) j1f)), fin (fun h => absurd hxn2 h) (fun h => absurd hp0 h)⟩
      · have := List.length_pos_iff.2 hp0
        exact ⟨false, key _ (Ev.pos hxn (Ev.pos (by omega) j1t)), by simp⟩
    · have hxn2 : x.f0.data.toList ≠ [] := by rw [← ByteArray.toList_eq]; exact hxn
      obtain ⟨bs, hs1, hs2⟩ := small_f x.f0 hfx.1
      cases bs with
      | false => exact ⟨false, key _ (Ev.neg hxn (Ev.bind hs1 (Ev.neg (by simp) j1t))), by simp⟩
      | true =>
        by_cases hd : x.f0.data.toList = DEF
        · refine ⟨false, key _ (Ev.neg hxn (Ev.bind hs1 (Ev.pos rfl ?_))), by simp⟩
          rw [show (x.f0.toList == ([100, 101, 102, 97, 117, 108, 116] : List UInt8)) = true from by rw [ByteArray.toList_eq, hd]; rfl]
          exact j1t
        · refine ⟨b1, key _ (Ev.neg hxn (Ev.bind hs1 (Ev.pos rfl ?_))), fin (fun _ => ⟨hs2 rfl, hd⟩) (fun _ => hxn2)⟩
          rw [show (x.f0.toList == ([100, 101, 102, 97, 117, 108, 116] : List UInt8)) = false from by rw [beq_eq_false_iff_ne, ByteArray.toList_eq]; exact hd]
          exact j1f
/-- sections that are written -/
structure WOk (l : List S50) : Prop where
  secs : ∀ x ∈ l, SOk x
  names : (l.map (·.f0)).Nodup
  heads : ∀ x ∈ l.tail, x.f0.data.toList ≠ []
theorem written_f (l : List S50) (hf : ∀ x ∈ l, FitS x) (hl : l.length ≤ 2147483647) : ∃ b, Ev (fun k => spec_Written.f k l) b ∧ (b = true → WOk l) := by
  obtain ⟨b, hb, hs⟩ := written_loop l [] hf (by simpa using hl)
  refine ⟨b, hb, fun e => ?_⟩
  obtain ⟨g1, g2⟩ := hs e
  refine ⟨g1, nodup_of_firsts (·.f0) _ (fun a x r h z hz => (g2 a x r h).1 z (by simpa using hz)), fun x hx => ?_⟩
  cases l with
  | nil => cases hx
  | cons y l =>
    obtain ⟨a, r, h⟩ := List.append_of_mem (show x ∈ l from hx)
    exact (g2 (y :: a) x r (by rw [h]; rfl)).2 (by simp)

/-! ### The text, the key, the value -/
theorem conf_l1 (P Q : List S50) (x : S50) (hf : FitS x) (hP : P.length ≤ 2147483647) (res : Bool) (hgo : Ev (fun k => laws_conf.l0 k (P ++ x :: Q) ((P.length : Int) + 1)) res) :
    ∀ (q p : List S53), x.f2 = p ++ q → ∃ b, Ev (fun k => laws_conf.l1 k (P ++ x :: Q) (P.length : Int) (p.length : Int)) b ∧ (b = res ∨ b = false) ∧ (b = true → ∀ o ∈ q, o.f1.length ≤ 4) := by
  obtain ⟨e1, e2⟩ := idx_bound P Q x
  intro q
  induction q with
  | nil =>
    intro p hp
    rw [List.append_nil] at hp
    refine ⟨res, Ev.step (fun _ => laws_conf.l1.eq_2 _ _ _ _) (Ev.pos e1 (Ev.pos e2 ?_)), .inl rfl, fun _ => by simp⟩
    rw [rdS_mid P Q x _ rfl]
    refine Ev.neg (by rw [hp]; omega) ?_
    rw [w64 (by omega) (by omega)]
    exact hgo
  | cons o q ih =>
    intro p hp
    have hpl : p.length ≤ 2147483647 := by have := hf.2.2.2.1; rw [hp, List.length_append] at this; omega
    obtain ⟨b, hb, hbr, hs⟩ := ih (p ++ [o]) (by rw [hp]; simp)
    have hw : wrap64 ((p.length : Int) + 1) = (((p ++ [o]).length : Nat) : Int) := by rw [w64 (by omega) (by omega)]; simp
    have hrd : rd_T53 x.f2 (p.length : Int) = o := by rw [hp]; exact rdO_mid p q o _ rfl
    have key : ∀ r, Ev (fun k => if ((o.f1.length : Nat) : Int) > 4 then (some false) else (laws_conf.l1 k (P ++ x :: Q) (P.length : Int) (wrap64 ((p.length : Int) + 1)))) r → Ev (fun k => laws_conf.l1 k (P ++ x :: Q) (P.length : Int) (p.length : Int)) r := by
      intro r h
      refine Ev.step (fun _ => laws_conf.l1.eq_2 _ _ _ _) (Ev.pos e1 (Ev.pos e2 ?_))
      rw [rdS_mid P Q x _ rfl]
      refine Ev.pos (by rw [hp]; simp; omega) (Ev.pos (by omega) ?_)
      rw [hrd]
      exact h
    by_cases h4 : ((o.f1.length : Nat) : Int) > 4
    · exact ⟨false, key _ (Ev.pos h4 (Ev.now _)), .inr rfl, by simp⟩
    · refine ⟨b, key _ (Ev.neg h4 ?_), hbr, fun e y hy => ?_⟩
      · rw [hw]; exact hb
      · rcases List.mem_cons.1 hy with rfl | hy
        · omega
        · exact hs e y hy
/-- a configuration of which the laws speak -/
structure COk (l : List S50) : Prop where
  w : WOk l
  secs : l.length ≤ 5
  notes : ∀ x ∈ l, x.f1.length ≤ 4
  opts : ∀ x ∈ l, x.f2.length ≤ 6
  parts : ∀ x ∈ l, ∀ o ∈ x.f2, o.f1.length ≤ 4
theorem conf_loop : ∀ (Q P : List S50), (∀ x ∈ P ++ Q, FitS x) → (P ++ Q).length ≤ 5 → ∃ b, Ev (fun k => laws_conf.l0 k (P ++ Q) (P.length : Int)) b ∧ (b = true → WOk (P ++ Q) ∧ ∀ x ∈ Q, x.f1.length ≤ 4 ∧ x.f2.length ≤ 6 ∧ ∀ o ∈ x.f2, o.f1.length ≤ 4) := by
  intro Q
  induction Q with
  | nil =>
    intro P hf hl
    rw [List.append_nil] at hf hl ⊢
    obtain ⟨b, hb, hs⟩ := written_f P hf (by omega)
    exact ⟨b, Ev.step (fun _ => laws_conf.l0.eq_2 _ _ _) (Ev.neg (by omega) (Ev.pos (by omega) (Ev.bind hb (Ev.now _)))), fun e => ⟨hs e, by simp⟩⟩
  | cons x Q ih =>
    intro P hf hl
    obtain ⟨e1, e2⟩ := idx_bound P Q x
    have hP : P.length ≤ 5 := by rw [List.length_append] at hl; omega
    have hfx := hf x (by simp)
    obtain ⟨b, hb, hs⟩ := ih (P ++ [x]) (by simpa using hf) (by simpa using hl)
    rw [show (P ++ [x]) ++ Q = P ++ x :: Q from by simp] at hb hs
    rw [show (((P ++ [x]).length : Nat) : Int) = (P.length : Int) + 1 from by simp] at hb
    obtain ⟨b1, h1a, h1b, h1c⟩ := conf_l1 P Q x hfx (by omega) b hb x.f2 [] rfl
    have key : ∀ r, Ev (fun k => if ((x.f1.length : Nat) : Int) > 4 then (laws_conf.j1 k (P ++ x :: Q) (P.length : Int) true) else (laws_conf.j1 k (P ++ x :: Q) (P.length : Int) (decide (((x.f2.length : Nat) : Int) > 6)))) r → Ev (fun k => laws_conf.l0 k (P ++ x :: Q) (P.length : Int)) r := by
      intro r h
      refine Ev.step (fun _ => laws_conf.l0.eq_2 _ _ _) (Ev.pos e2 (Ev.pos e1 ?_))
      rw [rdS_mid P Q x _ rfl]
      exact h
    have j1t : Ev (fun k => laws_conf.j1 k (P ++ x :: Q) (P.length : Int) true) false := Ev.step (fun _ => laws_conf.j1.eq_2 _ _ _ _) (Ev.pos rfl (Ev.now _))
    by_cases h4 : ((x.f1.length : Nat) : Int) > 4
    · exact ⟨false, key _ (Ev.pos h4 j1t), by simp⟩
    by_cases h6 : ((x.f2.length : Nat) : Int) > 6
    · refine ⟨false, key _ (Ev.neg h4 ?_), by simp⟩
      rw [decide_eq_true h6]
      exact j1t
    · refine ⟨b1, key _ (Ev.neg h4 ?_), fun e => ?_⟩
      · rw [decide_eq_false h6]
        exact Ev.step (fun _ => laws_conf.j1.eq_2 _ _ _ _) (Ev.neg (by simp) h1a)
      · have hbt : b = true := by
          rcases h1b with q | q
          · rw [← q, e]
          · rw [e] at q; cases q
        obtain ⟨g1, g2⟩ := hs hbt
        refine ⟨g1, fun y hy => ?_⟩
        rcases List.mem_cons.1 hy with rfl | hy
        · exact ⟨by omega, by omega, h1c e⟩
        · exact g2 y hy
theorem conf_f (l : List S50) (hf : ∀ x ∈ l, FitS x) : ∃ b, Ev (fun k => laws_conf.f k l) b ∧ (b = true → COk l) := by
  by_cases g : (l.length : Int) > 5
  · exact ⟨false, Ev.pos g (Ev.now _), by simp⟩
  · obtain ⟨b, hb, hs⟩ := conf_loop l [] (by simpa using hf) (by simp; omega)
    refine ⟨b, Ev.neg g hb, fun e => ?_⟩
    obtain ⟨g1, g2⟩ := hs e
    exact ⟨g1, by omega, fun x hx => (g2 x hx).1, fun x hx => (g2 x hx).2.1, fun x hx => (g2 x hx).2.2⟩
theorem key_f (a b : ByteArray) (ha : a.size ≤ 2147483647) (hb : b.size ≤ 2147483647) : ∃ r, Ev (fun k => laws_key.f k a b) r ∧ (r = true → (a.data.toList = [] ∨ Sml a.data.toList) ∧ a.data.toList ≠ DEF ∧ Sml b.data.toList) := by
  obtain ⟨r, h1, h2⟩ := written_f [⟨a, [], [⟨b, [⟨#[120]⟩]⟩]⟩] (by
    intro x hx
    obtain rfl := List.mem_singleton.1 hx
    refine ⟨ha, by simp, by simp, by simp, fun o ho => ?_⟩
    obtain rfl := List.mem_singleton.1 ho
    refine ⟨hb, by simp, fun v hv => ?_⟩
    obtain rfl := List.mem_singleton.1 hv
    decide) (by simp)
  refine ⟨r, Ev.bind h1 (Ev.now _), fun e => ?_⟩
  have h3 := (h2 e).secs _ (List.mem_singleton.2 rfl)
  have h4 := (h3.opts _ (List.mem_singleton.2 rfl)).key
  by_cases hn : a.data.toList = []
  · exact ⟨.inl hn, by rw [hn]; simp [DEF], h4⟩
  · exact ⟨.inr (h3.name hn).1, (h3.name hn).2, h4⟩
/-! joined -/
theorem joinL_snoc (sep p : List UInt8) : ∀ (r : List (List UInt8)) (q : List UInt8), joinL sep (q :: r ++ [p]) = joinL sep (q :: r) ++ (sep ++ p)
  | [], q => rfl
  | s :: r, q => by
    have ih := joinL_snoc sep p r s
    simp only [List.cons_append] at ih ⊢
    simp only [joinL]
    rw [ih]
    simp
theorem joined_loop (sep : List UInt8) (hsep : sep.length ≤ 10) : ∀ (q p : List ByteArray), p.length + q.length ≤ 20 → (∀ v ∈ p ++ q, v.size ≤ 2147483647) → p ≠ [] →
    Ev (fun k => spec_Joined.l0 k (p ++ q) (B sep) (B (joinL sep (p.map (·.data.toList)))) (p.length : Int)) (B (joinL sep ((p ++ q).map (·.data.toList)))) := by
  intro q
  induction q with
  | nil =>
    intro p hp hs hn
    simp only [List.append_nil]
    exact Ev.step (fun _ => spec_Joined.l0.eq_2 _ _ _ _ _) (Ev.neg (by omega) (Ev.now _))
  | cons c q ih =>
    intro p hp hs hn
    simp only [List.length_cons] at hp
    have hpos := List.length_pos_iff.2 hn
    have hc := hs c (by simp)
    have hcB : c = B c.data.toList := (B_data c).symm
    have hlen := joinL_len (sep := sep) (m := 2147483647) (p.map (·.data.toList)) (by
      intro x hx
      obtain ⟨v, hv, rfl⟩ := List.mem_map.1 hx
      exact hs v (by simp [hv]))
    rw [List.length_map] at hlen
    have hm : p.length * (2147483647 + sep.length) ≤ 20 * (2147483647 + 10) := Nat.mul_le_mul (by omega) (by omega)
    have hcl : c.data.toList.length = c.size := rfl
    have := ih (p ++ [c]) (by simp; omega) (by simpa using hs) (by simp)
    rw [show (p ++ [c]) ++ q = p ++ c :: q from by simp, show (((p ++ [c]).length : Nat) : Int) = (p.length : Int) + 1 from by simp] at this
    refine Ev.step (fun _ => spec_Joined.l0.eq_2 _ _ _ _ _) (Ev.pos (by simp; omega) (Ev.pos (by omega) (Ev.pos (by rw [B_size, B_size]; omega) (Ev.pos (by omega) ?_))))
    rw [rdOf_mid _ p q c _ rfl, w64 (by omega) (by omega), B_app]
    have e : joinL sep ((p ++ [c]).map (·.data.toList)) = joinL sep (p.map (·.data.toList)) ++ (sep ++ c.data.toList) := by
      obtain ⟨d, r, rfl⟩ := List.exists_cons_of_ne_nil hn
      rw [List.map_append, List.map_cons]
      exact joinL_snoc sep c.data.toList (r.map (·.data.toList)) d.data.toList
    refine Ev.pos (by rw [B_size, List.length_append]; omega) ?_
    rw [e, ← List.append_assoc] at this
    rw [show B (joinL sep (p.map (·.data.toList)) ++ sep) ++ c = B (joinL sep (p.map (·.data.toList)) ++ sep ++ c.data.toList) from by conv => { lhs; rw [hcB] }; rw [B_app]]
    exact this
theorem joined_f (sep : List UInt8) (hsep : sep.length ≤ 10) (l : List ByteArray) (h : l.length ≤ 20) (hs : ∀ v ∈ l, v.size ≤ 2147483647) : Ev (fun k => spec_Joined.f k l (B sep)) (B (joinL sep (l.map (·.data.toList)))) := by
  unfold spec_Joined.f
  cases l with
  | nil => exact Ev.step (fun _ => spec_Joined.l0.eq_2 _ _ _ _ _) (Ev.neg (by simp) (Ev.now _))
  | cons c q =>
    have hc := hs c (by simp)
    have hcB : c = B c.data.toList := (B_data c).symm
    have := joined_loop sep hsep q [c] (by simpa [Nat.add_comm] using h) (by simpa using hs) (by simp)
    refine Ev.step (fun _ => spec_Joined.l0.eq_2 _ _ _ _ _) (Ev.pos (by simp <;> omega) (Ev.neg (by omega) (Ev.pos (by omega) ?_)))
    have e : rdOf ByteArray.empty (c :: q) 0 = c := rfl
    rw [e, w64 (by omega) (by omega), B_nil, show B [] ++ c = B (c.data.toList) from by conv => { lhs; rw [hcB] }; rw [B_app]; rfl]
    refine Ev.pos (by show 0 + c.size ≤ _; omega) ?_
    exact this
/-! the text -/
theorem optOk_parts {o : S53} (h : OptOk o) (h4 : o.f1.length ≤ 4) : Parts (psO o).2 := by
  refine ⟨by simpa [psO] using h.ne, fun x hx => ?_, fun x hx => ?_, by simpa [psO] using h4⟩
  · obtain ⟨v, hv, rfl⟩ := List.mem_map.1 hx
    exact h.ok v hv
  · have : x ∈ (o.f1.tail).map (·.data.toList) := by simpa [psO, List.map_tail] using hx
    obtain ⟨v, hv, rfl⟩ := List.mem_map.1 this
    exact h.rest v hv
theorem secOk_of {x : S50} (h : SOk x) (h4 : ∀ o ∈ x.f2, o.f1.length ≤ 4) : SecOk (psS x) := by
  refine ⟨fun hn => (h.name hn).1, fun n hn => ?_, fun o ho => ?_⟩
  · obtain ⟨v, hv, rfl⟩ := List.mem_map.1 hn
    exact h.notes v hv
  · obtain ⟨v, hv, rfl⟩ := List.mem_map.1 ho
    exact ⟨(h.opts v hv).key, optOk_parts (h.opts v hv) (h4 v hv)⟩
theorem ct_l0 : ∀ (Q P : List S50) (s : List UInt8), (∀ x ∈ Q, SecOk (psS x) ∧ x.f1.length ≤ 4 ∧ x.f2.length ≤ 6) → (P ++ Q).length ≤ 20 → s.length + Q.length * 3000 ≤ 100000 → Ev (fun k => spec_ConfText.l0 k (P ++ Q) (B s) (P.length : Int)) (B (s ++ confT (Q.map psS))) := by
  intro Q
  induction Q with
  | nil =>
    intro P s _ hl _
    rw [List.append_nil] at hl ⊢
    refine Ev.step (fun _ => spec_ConfText.l0.eq_2 _ _ _ _) (Ev.neg (by omega) ?_)
    simpa [confT] using Ev.now (B s)
  | cons x Q ih =>
    intro P s hQ hl hs
    obtain ⟨e1, e2⟩ := idx_bound P Q x
    have hP : P.length ≤ 20 := by rw [List.length_append] at hl; omega
    obtain ⟨hx, h4, h6⟩ := hQ x (by simp)
    have hsl := sec_len hx (by simpa [psS] using h4) (by simpa [psS] using h6)
    simp only [List.length_cons, Nat.succ_mul] at hs
    -- behind the options
    have g2 : ∀ t : List UInt8, t = s ++ secText (psS x) → Ev (fun k => spec_ConfText.l0 k (P ++ x :: Q) (B t) ((P.length : Int) + 1)) (B (t ++ confT (Q.map psS))) := by
      intro t ht
      have := ih (P ++ [x]) t (fun y hy => hQ y (List.mem_cons_of_mem _ hy)) (by simpa using hl) (by rw [ht, List.length_append]; omega)
      rw [show (P ++ [x]) ++ Q = P ++ x :: Q from by simp, show (((P ++ [x]).length : Nat) : Int) = (P.length : Int) + 1 from by simp] at this
      exact this
    have hsec : secText (psS x) = headText x.f0.data.toList ++ (notesText 0 (x.f1.map (·.data.toList)) ++ (x.f2.map fun o => optText (psO o)).flatten) := by
      simp only [secText, psS, List.map_map]
      rfl
    have ho : ∀ (q p : List S53) (t : List UInt8), x.f2 = p ++ q → s ++ secText (psS x) = t ++ (q.map fun o => optText (psO o)).flatten → Ev (fun k => spec_ConfText.l2 k (P ++ x :: Q) (B t) (P.length : Int) (p.length : Int)) (B (t ++ ((q.map fun o => optText (psO o)).flatten ++ confT (Q.map psS)))) := by
      intro q
      induction q with
      | nil =>
        intro p t hp ht
        rw [List.append_nil] at hp
        refine Ev.step (fun _ => spec_ConfText.l2.eq_2 _ _ _ _ _) (Ev.pos e1 (Ev.pos e2 ?_))
        rw [rdS_mid P Q x _ rfl]
        refine Ev.neg (by rw [hp]; omega) ?_
        rw [w64 (by omega) (by omega)]
        simpa using g2 t (by simpa using ht.symm)
      | cons o q ih2 =>
        intro p t hp ht
        have hpl : p.length ≤ 6 := by rw [hp, List.length_append] at h6; omega
        obtain ⟨hk, hpa⟩ := hx.opts (psO o) (List.mem_map_of_mem (by rw [hp]; simp))
        have hol := opt_len hk hpa
        have htl : t.length ≤ 103000 := by
          have := congrArg List.length ht
          simp only [List.length_append] at this
          omega
        have hj : joinL SEP (o.f1.map (·.data.toList)) = joinL SEP (psO o).2 := rfl
        have hjo := joined_f SEP (by decide) o.f1 (by have := hpa.few; simp [psO] at this; omega) (fun v hv => by
          have := (hpa.ok v.data.toList (List.mem_map_of_mem hv)).len
          rw [← B_data v, B_size]; omega)
        have hoT : optText (psO o) = ((o.f0.data.toList ++ [32, 61, 32]) ++ joinL SEP (psO o).2) ++ [10] := by simp [optText, psO]
        have hkB : o.f0 = B o.f0.data.toList := (B_data _).symm
        have hol2 := hol
        rw [hoT] at hol2
        simp only [List.length_append, List.length_cons, List.length_nil] at hol2
        have := ih2 (p ++ [o]) (t ++ optText (psO o)) (by rw [hp]; simp) (by rw [ht]; simp)
        rw [show (((p ++ [o]).length : Nat) : Int) = (p.length : Int) + 1 from by simp] at this
        refine Ev.step (fun _ => spec_ConfText.l2.eq_2 _ _ _ _ _) (Ev.pos e1 (Ev.pos e2 ?_))
        rw [rdS_mid P Q x _ rfl]
        have hrd : rd_T53 x.f2 (p.length : Int) = o := by rw [hp]; exact rdO_mid p q o _ rfl
        refine Ev.pos (by rw [hp]; simp; omega) (Ev.pos (by omega) ?_)
        rw [hrd]
        have hos : o.f0.size = o.f0.data.toList.length := rfl
        refine Ev.pos (by omega) (Ev.bind hjo ?_)
        have eA : o.f0 ++ (⟨#[32, 61, 32]⟩ : ByteArray) = B (o.f0.data.toList ++ [32, 61, 32]) := by
          conv => { lhs; rw [hkB] }
          exact B_app _ [32, 61, 32]
        have eB : o.f0 ++ (⟨#[32, 61, 32]⟩ : ByteArray) ++ B (joinL SEP (o.f1.map (·.data.toList))) = B ((o.f0.data.toList ++ [32, 61, 32]) ++ joinL SEP (psO o).2) := by
          rw [eA, B_app, hj]
        have eC : o.f0 ++ (⟨#[32, 61, 32]⟩ : ByteArray) ++ B (joinL SEP (o.f1.map (·.data.toList))) ++ (⟨#[10]⟩ : ByteArray) = B (optText (psO o)) := by
          rw [eB, hoT]
          exact B_app _ [10]
        refine Ev.pos (by rw [eA, B_size, B_size, hj]; simp only [List.length_append, List.length_cons, List.length_nil]; omega) (Ev.pos (by rw [eB, B_size]; simp only [List.length_append, List.length_cons, List.length_nil]; omega) ?_)
        rw [eC]
        refine Ev.pos (by rw [B_size, B_size]; omega) ?_
        rw [B_app, w64 (by omega) (by omega)]
        simpa using this
    have hnn : ∀ (q p : List ByteArray) (t : List UInt8), x.f1 = p ++ q → s ++ secText (psS x) = t ++ (notesText p.length (q.map (·.data.toList)) ++ (x.f2.map fun o => optText (psO o)).flatten) → Ev (fun k => spec_ConfText.l1 k (P ++ x :: Q) (B t) (P.length : Int) (p.length : Int)) (B (s ++ secText (psS x) ++ confT (Q.map psS))) := by
      intro q
      induction q with
      | nil =>
        intro p t hp ht
        rw [List.append_nil] at hp
        refine Ev.step (fun _ => spec_ConfText.l1.eq_2 _ _ _ _ _) (Ev.pos e1 (Ev.pos e2 ?_))
        rw [rdS_mid P Q x _ rfl]
        refine Ev.neg (by rw [hp]; omega) ?_
        have := ho x.f2 [] t rfl (by simpa [notesText] using ht)
        rw [ht]
        simpa [notesText] using this
      | cons c q ih2 =>
        intro p t hp ht
        have hpl : p.length ≤ 4 := by rw [hp, List.length_append] at h4; omega
        have hcn : c.data.toList.length ≤ 80 := by
          rcases hx.notes c.data.toList (List.mem_map_of_mem (by rw [hp]; simp)) with h | h
          · rw [h]; simp
          · exact h.len
        have htl : t.length ≤ 103000 := by
          have := congrArg List.length ht
          simp only [List.length_append] at this
          omega
        have hcB : c = B c.data.toList := (B_data c).symm
        have hnl : (noteText p.length c.data.toList).length ≤ 84 := by unfold noteText; split <;> simp only [List.length_append, List.length_cons, List.length_nil] <;> omega
        have := ih2 (p ++ [c]) (t ++ noteText p.length c.data.toList) (by rw [hp]; simp) (by rw [ht]; simp [notesText])
        rw [show (((p ++ [c]).length : Nat) : Int) = (p.length : Int) + 1 from by simp] at this
        have hrd : rdOf ByteArray.empty x.f1 (p.length : Int) = c := by rw [hp]; exact rdOf_mid _ p q c _ rfl
        have hcs : c.size = c.data.toList.length := rfl
        refine Ev.step (fun _ => spec_ConfText.l1.eq_2 _ _ _ _ _) (Ev.pos e1 (Ev.pos e2 ?_))
        rw [rdS_mid P Q x _ rfl]
        refine Ev.pos (by rw [hp]; simp; omega) ?_
        rw [hrd, w64 (by omega) (by omega)]
        by_cases hev : p.length % 2 = 0
        · have em : Int.tmod (p.length : Int) 2 = 0 := by rw [Int.tmod_eq_emod_of_nonneg (by omega)]; omega
          have eN : noteText p.length c.data.toList = 35 :: 32 :: (c.data.toList ++ [10]) := by unfold noteText; rw [if_pos hev]
          have eA : (⟨#[35, 32]⟩ : ByteArray) ++ c = B (35 :: 32 :: c.data.toList) := by
            conv => { lhs; rw [hcB] }
            exact B_app [35, 32] _
          have eB : (⟨#[35, 32]⟩ : ByteArray) ++ c ++ (⟨#[10]⟩ : ByteArray) = B (noteText p.length c.data.toList) := by
            rw [eA, eN]
            exact B_app _ [10]
          refine Ev.pos em (Ev.pos (by omega) (Ev.pos (by omega) (Ev.pos (by rw [eA, B_size]; simp; omega) ?_)))
          rw [eB]
          refine Ev.pos (by rw [B_size, B_size]; omega) ?_
          rw [B_app]
          exact this
        · have em : ¬ Int.tmod (p.length : Int) 2 = 0 := by rw [Int.tmod_eq_emod_of_nonneg (by omega)]; omega
          have eN : noteText p.length c.data.toList = 59 :: 32 :: (c.data.toList ++ [10, 10]) := by unfold noteText; rw [if_neg hev]
          have eA : (⟨#[59, 32]⟩ : ByteArray) ++ c = B (59 :: 32 :: c.data.toList) := by
            conv => { lhs; rw [hcB] }
            exact B_app [59, 32] _
          have eB : (⟨#[59, 32]⟩ : ByteArray) ++ c ++ (⟨#[10, 10]⟩ : ByteArray) = B (noteText p.length c.data.toList) := by
            rw [eA, eN]
            exact B_app _ [10, 10]
          refine Ev.neg em (Ev.pos (by omega) (Ev.pos (by omega) (Ev.pos (by rw [eA, B_size]; simp; omega) ?_)))
          rw [eB]
          refine Ev.pos (by rw [B_size, B_size]; omega) ?_
          rw [B_app]
          exact this
    have hend : B (s ++ confT ((x :: Q).map psS)) = B (s ++ secText (psS x) ++ confT (Q.map psS)) := by simp [confT]
    rw [hend]
    have hnB : x.f0 = B x.f0.data.toList := (B_data _).symm
    have j1 : ∀ t : List UInt8, t = s ++ headText x.f0.data.toList → Ev (fun k => spec_ConfText.j1 k (P ++ x :: Q) (B t) (P.length : Int)) (B (s ++ secText (psS x) ++ confT (Q.map psS))) := by
      intro t ht
      exact Ev.step (fun _ => spec_ConfText.j1.eq_2 _ _ _ _) (hnn x.f1 [] t rfl (by rw [ht, hsec]; simp))
    refine Ev.step (fun _ => spec_ConfText.l0.eq_2 _ _ _ _) (Ev.pos e2 (Ev.pos e1 ?_))
    rw [rdS_mid P Q x _ rfl]
    by_cases hn : x.f0.data.toList = []
    · refine Ev.pos (by rw [ByteArray.toList_eq]; exact hn) ?_
      exact j1 s (by rw [hn]; simp [headText])
    · have hnl := (hx.name hn).len
      have hnl2 : x.f0.data.toList.length ≤ 30 := hnl
      have eN : headText x.f0.data.toList = 91 :: (x.f0.data.toList ++ [93, 10]) := by unfold headText; rw [if_neg hn]
      have eA : (⟨#[91]⟩ : ByteArray) ++ x.f0 = B (91 :: x.f0.data.toList) := by
        conv => { lhs; rw [hnB] }
        exact B_app [91] _
      have eB : (⟨#[91]⟩ : ByteArray) ++ x.f0 ++ (⟨#[93, 10]⟩ : ByteArray) = B (headText x.f0.data.toList) := by
        rw [eA, eN]
        exact B_app _ [93, 10]
      have hxs : x.f0.size = x.f0.data.toList.length := rfl
      refine Ev.neg (by rw [ByteArray.toList_eq]; exact hn) (Ev.pos (by omega) (Ev.pos (by rw [eA, B_size]; simp; omega) ?_))
      rw [eB]
      refine Ev.pos (by rw [B_size, B_size, eN]; simp; omega) ?_
      rw [B_app]
      exact j1 _ rfl
theorem text_f {l : List S50} (h : COk l) : Ev (fun k => spec_ConfText.f k l) (B (confT (l.map psS))) := by
  have := ct_l0 l [] [] (fun x hx => ⟨secOk_of (h.w.secs x hx) (h.parts x hx), h.notes x hx, h.opts x hx⟩) (by have := h.secs; simp; omega) (by have := h.secs; simp; omega)
  simp only [List.nil_append] at this
  exact this
theorem confKey_f (a b : ByteArray) (ha : a.data.toList = [] ∨ Sml a.data.toList) (hb : Sml b.data.toList) : spec_ConfKey.f a b = some (B (keyOf a.data.toList b.data.toList)) := by
  unfold spec_ConfKey.f keyOf
  by_cases hn : a.data.toList = []
  · rw [if_pos (by rw [ByteArray.toList_eq]; exact hn), if_pos hn, B_data]
  · have h1 := (ha.resolve_left hn).len
    have h2 := hb.len
    have e1 : a.size = a.data.toList.length := rfl
    have e2 : b.size = b.data.toList.length := rfl
    have eA : a ++ (⟨#[58, 58]⟩ : ByteArray) = B (a.data.toList ++ [58, 58]) := by
      conv => { lhs; rw [← B_data a] }
      exact B_app _ [58, 58]
    rw [if_neg (by rw [ByteArray.toList_eq]; exact hn), if_neg hn, if_pos (by omega), eA, if_pos (by rw [B_size]; simp; omega)]
    congr 1
    conv => { lhs; rw [← B_data b] }
    rw [B_app]
    simp

/-! ### The value that is meant -/
def cvRes (s o : ByteArray) : List S50 → ByteArray
  | [] => B []
  | x :: Q => if x.f0 = s then (match x.f2.find? (fun y => decide (y.f0 = o)) with | some y => B (joinL [32] (y.f1.map (·.data.toList))) | none => cvRes s o Q) else cvRes s o Q
theorem cv_l1 (P Q : List S50) (x : S50) (s o : ByteArray) (hx : x.f0 = s) (hP : P.length ≤ 5) (hl : x.f2.length ≤ 6) (hf : ∀ y ∈ x.f2, y.f1.length ≤ 4 ∧ ∀ v ∈ y.f1, v.size ≤ 2147483647) (res : ByteArray) (hgo : Ev (fun k => spec_ConfValue.l0 k (P ++ x :: Q) s o ((P.length : Int) + 1)) res) :
    ∀ (q p : List S53), x.f2 = p ++ q → Ev (fun k => spec_ConfValue.l1 k (P ++ x :: Q) s o (P.length : Int) (p.length : Int)) (match q.find? (fun y => decide (y.f0 = o)) with | some y => B (joinL [32] (y.f1.map (·.data.toList))) | none => res) := by
  obtain ⟨e1, e2⟩ := idx_bound P Q x
  intro q
  induction q with
  | nil =>
    intro p hp
    rw [List.append_nil] at hp
    refine Ev.step (fun _ => spec_ConfValue.l1.eq_2 _ _ _ _ _ _) (Ev.pos e1 (Ev.pos e2 ?_))
    rw [rdS_mid P Q x _ rfl]
    refine Ev.neg (by rw [hp]; omega) (Ev.step (fun _ => spec_ConfValue.j2.eq_2 _ _ _ _ _ _ _) (Ev.neg (by simp) ?_))
    rw [w64 (by omega) (by omega)]
    exact hgo
  | cons y q ih =>
    intro p hp
    have hpl : p.length ≤ 6 := by rw [hp, List.length_append] at hl; omega
    have hrd : rd_T53 x.f2 (p.length : Int) = y := by rw [hp]; exact rdO_mid p q y _ rfl
    have hlt : (p.length : Int) < ((x.f2.length : Nat) : Int) := by rw [hp]; simp; omega
    have := ih (p ++ [y]) (by rw [hp]; simp)
    rw [show (((p ++ [y]).length : Nat) : Int) = (p.length : Int) + 1 from by simp] at this
    have hy := hf y (by rw [hp]; simp)
    refine Ev.step (fun _ => spec_ConfValue.l1.eq_2 _ _ _ _ _ _) (Ev.pos e1 (Ev.pos e2 ?_))
    rw [rdS_mid P Q x _ rfl]
    refine Ev.pos hlt (Ev.step (fun _ => spec_ConfValue.j2.eq_2 _ _ _ _ _ _ _) (Ev.pos (by rw [hx]; simp) (Ev.pos e1 (Ev.pos e2 ?_))))
    rw [rdS_mid P Q x _ rfl]
    refine Ev.pos (by omega) (Ev.pos hlt ?_)
    rw [hrd]
    by_cases he : y.f0 = o
    · rw [List.find?_cons_of_pos (by simpa using he)]
      exact Ev.pos ((toList_iff _ _).2 he) (Ev.bind (joined_f [32] (by simp) y.f1 (by omega) hy.2) (Ev.now _))
    · rw [List.find?_cons_of_neg (by simpa using he)]
      refine Ev.neg (fun h => he ((toList_iff _ _).1 h)) ?_
      rw [w64 (by omega) (by omega)]
      exact this
theorem cv_other (P Q : List S50) (x : S50) (s o : ByteArray) (hx : ¬ x.f0 = s) (hP : P.length ≤ 5) (res : ByteArray) (hgo : Ev (fun k => spec_ConfValue.l0 k (P ++ x :: Q) s o ((P.length : Int) + 1)) res) :
    Ev (fun k => spec_ConfValue.l1 k (P ++ x :: Q) s o (P.length : Int) 0) res := by
  obtain ⟨e1, e2⟩ := idx_bound P Q x
  have j : Ev (fun k => spec_ConfValue.j2 k (P ++ x :: Q) s o (P.length : Int) 0 false) res := by
    refine Ev.step (fun _ => spec_ConfValue.j2.eq_2 _ _ _ _ _ _ _) (Ev.neg (by simp) ?_)
    rw [w64 (by omega) (by omega)]
    exact hgo
  refine Ev.step (fun _ => spec_ConfValue.l1.eq_2 _ _ _ _ _ _) (Ev.pos e1 (Ev.pos e2 ?_))
  rw [rdS_mid P Q x _ rfl]
  by_cases h0 : (0 : Int) < ((x.f2.length : Nat) : Int)
  · refine Ev.pos h0 ?_
    rw [show (x.f0.toList == s.toList) = false from beq_eq_false_iff_ne.2 (fun h => hx ((toList_iff _ _).1 h))]
    exact j
  · exact Ev.neg h0 j
theorem cv_l0 (s o : ByteArray) : ∀ (Q P : List S50), (P ++ Q).length ≤ 5 → (∀ x ∈ Q, x.f2.length ≤ 6 ∧ ∀ y ∈ x.f2, y.f1.length ≤ 4 ∧ ∀ v ∈ y.f1, v.size ≤ 2147483647) → Ev (fun k => spec_ConfValue.l0 k (P ++ Q) s o (P.length : Int)) (cvRes s o Q) := by
  intro Q
  induction Q with
  | nil =>
    intro P hl _
    rw [List.append_nil] at hl ⊢
    exact Ev.step (fun _ => spec_ConfValue.l0.eq_2 _ _ _ _ _) (Ev.neg (by omega) (Ev.now _))
  | cons x Q ih =>
    intro P hl hQ
    obtain ⟨e1, e2⟩ := idx_bound P Q x
    have hP : P.length ≤ 5 := by rw [List.length_append] at hl; omega
    have := ih (P ++ [x]) (by simpa using hl) (fun y hy => hQ y (List.mem_cons_of_mem _ hy))
    rw [show (P ++ [x]) ++ Q = P ++ x :: Q from by simp, show (((P ++ [x]).length : Nat) : Int) = (P.length : Int) + 1 from by simp] at this
    obtain ⟨h6, hf⟩ := hQ x (by simp)
    refine Ev.step (fun _ => spec_ConfValue.l0.eq_2 _ _ _ _ _) (Ev.pos e2 ?_)
    unfold cvRes
    by_cases hx : x.f0 = s
    · rw [if_pos hx]
      exact cv_l1 P Q x s o hx hP h6 hf _ this x.f2 [] rfl
    · rw [if_neg hx]
      exact cv_other P Q x s o hx hP _ this
theorem cvRes_none (s o : ByteArray) : ∀ Q : List S50, (∀ y ∈ Q, y.f0 ≠ s) → cvRes s o Q = B []
  | [], _ => rfl
  | x :: Q, h => by
    unfold cvRes
    rw [if_neg (h x (by simp)), cvRes_none s o Q (fun y hy => h y (List.mem_cons_of_mem _ hy))]
theorem data_iff (a b : ByteArray) : a.data.toList = b.data.toList ↔ a = b := by
  rw [← ByteArray.toList_eq, ← ByteArray.toList_eq]
  exact toList_iff a b
theorem findO (o : ByteArray) : ∀ l : List S53, (l.map psO).find? (fun x => decide (x.1 = o.data.toList)) = (l.find? (fun y => decide (y.f0 = o))).map psO
  | [] => rfl
  | y :: l => by
    rw [List.map_cons]
    have e : (decide ((psO y).1 = o.data.toList)) = decide (y.f0 = o) := by
      rw [decide_eq_decide]
      exact data_iff y.f0 o
    rw [List.find?_cons, List.find?_cons, e]
    cases decide (y.f0 = o) with
    | true => rfl
    | false => exact findO o l
theorem cvRes_find (s o : ByteArray) : ∀ l : List S50, (l.map (·.f0)).Nodup → cvRes s o l = B ((findV (l.map psS) s.data.toList o.data.toList).getD [])
  | [], _ => rfl
  | x :: l, h => by
    rw [List.map_cons, List.nodup_cons] at h
    unfold cvRes findV
    rw [List.map_cons]
    by_cases hx : x.f0 = s
    · rw [if_pos hx, List.find?_cons_of_pos (by simp [psS, hx])]
      simp only [Option.bind_some]
      rw [show (psS x).opts = x.f2.map psO from rfl, findO]
      cases x.f2.find? (fun y => decide (y.f0 = o)) with
      | none => exact cvRes_none s o l (fun y hy e => h.1 (by rw [hx, ← e]; exact List.mem_map_of_mem hy))
      | some y => rfl
    · rw [if_neg hx, List.find?_cons_of_neg (by simpa [psS] using fun e => hx ((data_iff _ _).1 (by simpa using e)))]
      exact cvRes_find s o l h.2
theorem value_f {l : List S50} (h : COk l) (s o : ByteArray) : Ev (fun k => spec_ConfValue.f k l s o) (B ((findV (l.map psS) s.data.toList o.data.toList).getD [])) := by
  have := cv_l0 s o l [] (by simpa using h.secs) (fun x hx => ⟨h.opts x hx, fun y hy => ⟨h.parts x hx y hy, fun v hv => by
    have hz := (((h.w.secs x hx).opts y hy).ok v hv).len
    have e : v.size = v.data.toList.length := rfl
    omega⟩⟩)
  rw [← cvRes_find s o l h.w.names]
  exact this

/-! ### What holds of a configuration that is written -/
theorem nodup_data {α : Type} (f : α → ByteArray) : ∀ l : List α, (l.map f).Nodup → (l.map fun x => (f x).data.toList).Nodup
  | [], _ => by simp
  | x :: l, h => by
    rw [List.map_cons, List.nodup_cons] at h ⊢
    refine ⟨fun hm => h.1 ?_, nodup_data f l h.2⟩
    obtain ⟨y, hy, e⟩ := List.mem_map.1 hm
    exact List.mem_map.2 ⟨y, hy, (data_iff _ _).1 e⟩
theorem COk.secOk {l : List S50} (h : COk l) : ∀ S ∈ l.map psS, SecOk S := by
  intro S hS
  obtain ⟨x, hx, rfl⟩ := List.mem_map.1 hS
  exact secOk_of (h.w.secs x hx) (h.parts x hx)
theorem COk.few {l : List S50} (h : COk l) : Few (l.map psS) := by
  refine ⟨by simpa using h.secs, fun S hS => ?_, fun S hS => ?_⟩
  · obtain ⟨x, hx, rfl⟩ := List.mem_map.1 hS
    simpa [psS] using h.notes x hx
  · obtain ⟨x, hx, rfl⟩ := List.mem_map.1 hS
    simpa [psS] using h.opts x hx
theorem COk.heads {l : List S50} (h : COk l) : Heads (l.map psS) := by
  cases l with
  | nil => trivial
  | cons x l =>
    intro S hS
    obtain ⟨y, hy, rfl⟩ := List.mem_map.1 hS
    exact h.w.heads y hy
theorem COk.names {l : List S50} (h : COk l) : ((l.map psS).map (·.name)).Nodup := by
  rw [List.map_map]
  exact nodup_data (·.f0) l h.w.names
theorem COk.keys {l : List S50} (h : COk l) : ∀ S ∈ l.map psS, S.name ≠ DEF ∧ (S.opts.map (·.1)).Nodup := by
  intro S hS
  obtain ⟨x, hx, rfl⟩ := List.mem_map.1 hS
  have hs := h.w.secs x hx
  refine ⟨?_, ?_⟩
  · by_cases hn : x.f0.data.toList = []
    · show x.f0.data.toList ≠ DEF
      rw [hn]; simp [DEF]
    · exact (hs.name hn).2
  · show ((x.f2.map psO).map (·.1)).Nodup
    rw [List.map_map]
    exact nodup_data (·.f0) x.f2 hs.keys

/-! ### A value between commas -/
def splitC : List UInt8 → List UInt8 → List (List UInt8)
  | a, [] => [a]
  | a, c :: q => if c = 44 then a :: splitC [] q else splitC (a ++ [c]) q
theorem no44 : ∀ l : List UInt8, 44 ∉ l → findSub [44] l = none
  | [], _ => by simp [findSub]
  | c :: l, h => by
    have hc : c ≠ 44 := fun e => h (by simp [e])
    unfold findSub
    rw [if_neg (by simp [List.isPrefixOf, hc.symm]), no44 l (fun e => h (List.mem_cons_of_mem _ e))]
    rfl
theorem at44 : ∀ (s q : List UInt8), 44 ∉ s → findSub [44] (s ++ 44 :: q) = some s.length
  | [], q, _ => by simp [findSub, List.isPrefixOf]
  | c :: s, q, h => by
    have hc : c ≠ 44 := fun e => h (by simp [e])
    rw [List.cons_append]
    unfold findSub
    rw [if_neg (by simp [List.isPrefixOf, hc.symm]), at44 s q (fun e => h (List.mem_cons_of_mem _ e))]
    rfl
theorem split_comma : ∀ (q a : List UInt8) (n : Nat), 44 ∉ a → (a ++ q).length ≤ n → splitB comma n (B (a ++ q)) = (splitC a q).map B
  | [], a, n, ha, hn => by
    rw [List.append_nil] at hn ⊢
    cases n with
    | zero => rfl
    | succ n =>
      unfold splitB
      rw [data_B, show comma.data.toList = [44] from rfl, no44 a ha]
      rfl
  | c :: q, a, n, ha, hn => by
    by_cases hc : c = 44
    · subst hc
      obtain ⟨m, rfl⟩ : ∃ m, n = m + 1 := ⟨n - 1, by simp at hn; omega⟩
      unfold splitB splitC
      rw [data_B, show comma.data.toList = [44] from rfl, at44 a q ha, if_pos rfl]
      simp only []
      rw [B_ext, B_ext, B_size, show comma.size = 1 from rfl, List.map_cons]
      have e1 : List.take (a.length - 0) (List.drop 0 (a ++ 44 :: q)) = a := by simp
      have e2 : List.take ((a ++ 44 :: q).length - (a.length + 1)) (List.drop (a.length + 1) (a ++ 44 :: q)) = [] ++ q := by
        rw [← List.drop_drop, List.drop_left' rfl]
        simp
        rw [List.take_of_length_le (by omega)]
      rw [e1, e2, split_comma q [] m (by simp) (by simp at hn ⊢; omega)]
    · have := split_comma q (a ++ [c]) n (by simp; exact ⟨ha, fun e => hc e.symm⟩) (by simpa using hn)
      rw [show (a ++ [c]) ++ q = a ++ c :: q from by simp] at this
      rw [this]
      conv => rhs; unfold splitC
      rw [if_neg hc]
theorem val_len {v : List UInt8} (l : List (List UInt8)) (h : Parts l) : (joinL [32] l).length ≤ 400 := by
  have h1 := joinL_len (sep := [32]) (m := 80) l (fun x hx => (h.ok x hx).len)
  have h2 := h.few
  have h3 : l.length * (80 + [32].length) ≤ 4 * 81 := Nat.mul_le_mul h2 (by simp)
  omega
theorem findV_len {l : List PSec} (h : ∀ S ∈ l, SecOk S) (s o : List UInt8) : ((findV l s o).getD []).length ≤ 400 := by
  unfold findV
  cases hf : l.find? (fun S => decide (S.name = s)) with
  | none => simp
  | some S =>
    simp only [Option.bind_some]
    cases hg : S.opts.find? (fun x => decide (x.1 = o)) with
    | none => simp
    | some x =>
      simp only [Option.map_some, Option.getD_some]
      exact val_len (v := []) _ ((h S (List.mem_of_find?_eq_some hf)).opts x (List.mem_of_find?_eq_some hg)).2

/-! ### Whole numbers -/
theorem uP_step {c : UInt8} {l : List UInt8} {n : Int} (hd : 48 ≤ c.toNat ∧ c.toNat ≤ 57) (h0 : 0 ≤ n) (h1 : n ≤ 1000000000000000000) : uP (c :: l) n = uP l (n * 10 + ((c.toNat : Int) - 48)) := by
  conv => lhs; unfold uP
  rw [if_pos hd, if_neg (by unfold MOST; omega)]
theorem uP_bad {c : UInt8} {l : List UInt8} {n : Int} (hd : ¬ (48 ≤ c.toNat ∧ c.toNat ≤ 57)) : uP (c :: l) n = (0, 1) := by
  unfold uP
  rw [if_neg hd]
theorem pow10 {m : Nat} (h : m ≤ 18) : (10 : Nat) ^ m ≤ 1000000000000000000 := Nat.pow_le_pow_right (by omega) h

/-! ### What is meant by a value: a list, a truth, a whole number -/
theorem split_loop (q : List UInt8) : ∀ (pre p : List UInt8) (o : List ByteArray), (pre ++ p ++ q).length ≤ 1000 → o.length ≤ pre.length → Ev (fun k => spec_Split.l0 k (B (pre ++ p ++ q)) o (pre.length : Int) ((pre ++ p).length : Int)) (o ++ (splitC p q).map B) := by
  induction q with
  | nil =>
    intro pre p o hl ho
    rw [List.append_nil] at hl ⊢
    have hll := hl
    rw [List.length_append] at hll
    refine Ev.step (fun _ => spec_Split.l0.eq_2 _ _ _ _ _) (Ev.neg (by rw [B_size]; omega) (Ev.pos (by omega) (Ev.pos (by rw [B_size, List.length_append]; omega) (Ev.pos (by omega) ?_))))
    have e : (B (pre ++ p)).extract ((pre.length : Int)).toNat (B (pre ++ p)).size = B p := by
      rw [Int.toNat_natCast, B_ext, List.drop_left' rfl, B_size, List.length_append, Nat.add_sub_cancel_left, List.take_of_length_le (Nat.le_refl _)]
    rw [e]
    exact Ev.now _
  | cons c q ih =>
    intro pre p o hl ho
    have hll := hl
    simp only [List.length_append, List.length_cons] at hll
    have hb : bt (B (pre ++ p ++ c :: q)) ((pre ++ p).length : Int) = (c.toNat : Int) := bt_at _ (pre ++ p) q c rfl
    have hlen : ((pre ++ p).length : Int) = (pre.length : Int) + (p.length : Int) := by rw [List.length_append]; omega
    refine Ev.step (fun _ => spec_Split.l0.eq_2 _ _ _ _ _) (Ev.pos (by rw [B_size]; simp; omega) (Ev.pos (by omega) ?_))
    rw [hb]
    have hw : wrap64 (((pre ++ p).length : Int) + 1) = ((pre ++ p).length : Int) + 1 := w64 (by omega) (by omega)
    rw [hw]
    by_cases hc : c = 44
    · subst hc
      have := ih (pre ++ p ++ [44]) [] (o ++ [B p]) (by simpa using hl) (by simp; omega)
      have hE : ((pre ++ p ++ [(44 : UInt8)]).length : Int) = ((pre ++ p).length : Int) + 1 := by rw [List.length_append]; simp
      rw [List.append_nil, show (pre ++ p ++ [(44 : UInt8)]) ++ q = pre ++ p ++ 44 :: q from by simp, hE] at this
      refine Ev.pos rfl (Ev.pos (by omega) (Ev.pos (by omega) (Ev.pos (by rw [B_size]; simp; omega) (Ev.pos (by omega) ?_))))
      have e : (B (pre ++ p ++ 44 :: q)).extract ((pre.length : Int)).toNat (((pre ++ p).length : Int)).toNat = B p := by
        rw [Int.toNat_natCast, Int.toNat_natCast, B_ext, List.append_assoc, List.drop_left' rfl, List.length_append, Nat.add_sub_cancel_left, List.take_left' rfl]
      rw [e]
      unfold splitC
      rw [if_pos rfl, List.map_cons]
      simpa using this
    · have := ih pre (p ++ [c]) o (by simpa using hl) ho
      have hE : ((pre ++ (p ++ [c])).length : Int) = ((pre ++ p).length : Int) + 1 := by rw [← List.append_assoc, List.length_append]; simp
      rw [show pre ++ (p ++ [c]) ++ q = pre ++ p ++ c :: q from by simp, hE] at this
      unfold splitC
      rw [if_neg hc]
      exact Ev.neg (fun e => hc ((byte_eq c 44 (by omega)).1 e)) this
theorem split_f (l : List UInt8) (h : l.length ≤ 1000) : Ev (fun k => spec_Split.f k (B l)) ((splitC [] l).map B) := by
  have := split_loop l [] [] [] (by simpa using h) (by simp)
  simp at this
  exact this
theorem truth_f (v : ByteArray) : Ev (fun k => spec_TruthOf.f k v) ((boolP v).1, decide ((boolP v).2 = 0)) := by
  refine ⟨1, fun k hk => ?_⟩
  obtain ⟨k, rfl⟩ : ∃ j, k = j + 1 := ⟨k - 1, by omega⟩
  unfold boolP
  by_cases hT : v.toList ∈ TL
  · rw [if_pos hT]
    simp only [TL, List.mem_cons, List.mem_nil_iff, or_false] at hT
    rcases hT with h | h | h | h | h | h <;> simp [spec_TruthOf.f, spec_TruthOf.j0, h]
  · rw [if_neg hT]
    have hT2 := hT
    simp only [TL, List.mem_cons, List.mem_nil_iff, or_false, not_or] at hT2
    obtain ⟨h0, h1, h2, h3, h4, h5⟩ := hT2
    by_cases hF : v.toList ∈ FL
    · rw [if_pos hF]
      simp only [FL, List.mem_cons, List.mem_nil_iff, or_false] at hF
      rcases hF with h | h | h | h | h | h <;> simp [spec_TruthOf.f, spec_TruthOf.j0, h]
    · rw [if_neg hF]
      simp only [FL, List.mem_cons, List.mem_nil_iff, or_false, not_or] at hF
      obtain ⟨h6, h7, h8, h9, h10, h11⟩ := hF
      simp [spec_TruthOf.f, spec_TruthOf.j0, h0, h1, h2, h3, h4, h5, h6, h7, h8, h9, h10, h11]
/-- the digits, at most 18 of them -/
theorem int_loop (neg : Bool) (l pre : List UInt8) (hl : l.length ≤ 1000) (hne : l ≠ []) (h0 : bt (B l) 0 = 45 ↔ neg = true) : ∀ (q p : List UInt8) (n : Int), l = pre ++ p ++ q → (p ++ q).length ≤ 18 → 0 ≤ n → n < ((10 : Nat) ^ (18 - q.length) : Nat) → (p ++ q) ≠ [] →
    Ev (fun k => spec_IntOf.l0 k (B l) n (pre.length : Int) ((pre ++ p).length : Int)) (if (uP q n).2 = 0 then (if neg then -(uP q n).1 else (uP q n).1, true) else (0, false)) ∧ 0 ≤ (uP q n).1 ∧ (uP q n).1 ≤ 1000000000000000000 ∧ ((uP q n).2 = 0 ∨ (uP q n).2 = 1) := by
  intro q
  induction q with
  | nil =>
    intro p n hp hlen hn0 hn1 hpq
    rw [List.append_nil] at hp hlen hpq
    have hn2 : n ≤ 1000000000000000000 := by
      have := pow10 (m := 18 - ([] : List UInt8).length) (by simp)
      omega
    have hpp := List.length_pos_iff.2 hpq
    have hlp := List.length_pos_iff.2 hne
    have hll : l.length = pre.length + p.length := by rw [hp, List.length_append]
    refine ⟨?_, hn0, hn2, .inl rfl⟩
    refine Ev.step (fun _ => spec_IntOf.l0.eq_2 _ _ _ _ _) (Ev.neg (by rw [B_size, hll, List.length_append]; omega) (Ev.neg (by rw [B_size]; omega) (Ev.pos (by rw [B_size]; omega) ?_)))
    rw [if_pos (show (uP [] n).2 = 0 from rfl)]
    cases neg with
    | true =>
      refine Ev.pos (h0.2 rfl) ?_
      rw [w64 (by omega) (by omega)]
      exact Ev.now _
    | false => exact Ev.neg (fun e => by have := h0.1 e; simp at this) (Ev.now _)
  | cons c q ih =>
    intro p n hp hlen hn0 hn1 hpq
    have hlen2 := hlen
    simp only [List.length_append, List.length_cons] at hlen2
    have hll : l.length = pre.length + p.length + q.length + 1 := by rw [hp]; simp; omega
    have hb : bt (B l) ((pre ++ p).length : Int) = (c.toNat : Int) := bt_at l (pre ++ p) q c hp
    have hpl : ((pre ++ p).length : Int) = (pre.length : Int) + (p.length : Int) := by rw [List.length_append]; omega
    have key : ∀ r, Ev (fun k => if (c.toNat : Int) < 48 then (some (0, false)) else (if (c.toNat : Int) > 57 then (some (0, false)) else (spec_IntOf.l0 k (B l) (wrap64 ((wrap64 (10 * n)) + (((c.toNat : Int) - 48) % 256))) (pre.length : Int) (wrap64 (((pre ++ p).length : Int) + 1))))) r → Ev (fun k => spec_IntOf.l0 k (B l) n (pre.length : Int) ((pre ++ p).length : Int)) r := by
      intro r h
      refine Ev.step (fun _ => spec_IntOf.l0.eq_2 _ _ _ _ _) (Ev.pos (by rw [B_size]; omega) (Ev.pos (by omega) ?_))
      rw [hb]
      by_cases c1 : (c.toNat : Int) < 48
      · refine Ev.pos c1 ?_
        obtain ⟨m, hm⟩ := h
        exact ⟨m, fun k hk => by have := hm k hk; simp only [if_pos c1] at this; exact this⟩
      · refine Ev.neg c1 ?_
        by_cases c2 : (c.toNat : Int) > 57
        · refine Ev.pos c2 ?_
          obtain ⟨m, hm⟩ := h
          exact ⟨m, fun k hk => by have := hm k hk; simp only [if_neg c1, if_pos c2] at this; exact this⟩
        · refine Ev.neg c2 (Ev.neg (by rw [B_size, w64 (by omega) (by omega)]; omega) ?_)
          obtain ⟨m, hm⟩ := h
          exact ⟨m, fun k hk => by have := hm k hk; simp only [if_neg c1, if_neg c2] at this; exact this⟩
    by_cases hd : 48 ≤ c.toNat ∧ c.toNat ≤ 57
    · have hpw : n ≤ 100000000000000000 := by
        have h1 : (10 : Nat) ^ (18 - (c :: q).length) ≤ 10 ^ 17 := Nat.pow_le_pow_right (by omega) (by simp <;> omega)
        have : (10 : Nat) ^ 17 = 100000000000000000 := by decide
        omega
      have hstep := uP_step (l := q) (n := n) hd hn0 (by omega)
      have hw : wrap64 ((wrap64 (10 * n)) + (((c.toNat : Int) - 48) % 256)) = n * 10 + ((c.toNat : Int) - 48) := by
        rw [w64 (x := 10 * n) (by omega) (by omega), w64 (by omega) (by omega)]
        omega
      have hpow : (10 : Nat) ^ (18 - q.length) = 10 ^ (18 - (c :: q).length) * 10 := by
        rw [← Nat.pow_succ]
        congr 1
        simp
        omega
      obtain ⟨g1, g2, g3, g4⟩ := ih (p ++ [c]) (n * 10 + ((c.toNat : Int) - 48)) (by rw [hp]; simp) (by simpa using hlen) (by omega) (by rw [hpow]; omega) (by simp)
      rw [hstep]
      refine ⟨key _ (Ev.neg (by omega) (Ev.neg (by omega) ?_)), g2, g3, g4⟩
      rw [hw, w64 (by omega) (by omega)]
      rw [show (((pre ++ (p ++ [c])).length : Nat) : Int) = ((pre ++ p).length : Int) + 1 from by simp; omega] at g1
      exact g1
    · rw [uP_bad hd]
      refine ⟨?_, by decide, by decide, .inr rfl⟩
      rw [if_neg (by decide)]
      refine key _ ?_
      by_cases c1 : (c.toNat : Int) < 48
      · exact Ev.pos c1 (Ev.now _)
      · exact Ev.neg c1 (Ev.pos (by omega) (Ev.now _))
/-- more than 18 bytes behind the sign: no number is meant -/
theorem int_long (l pre q : List UInt8) (hl : l.length ≤ 1000) (hp : l = pre ++ q) (hq : 18 < q.length) : Ev (fun k => spec_IntOf.l0 k (B l) 0 (pre.length : Int) (pre.length : Int)) (0, false) := by
  have hll : l.length = pre.length + q.length := by rw [hp, List.length_append]
  obtain ⟨c, r, rfl⟩ := List.exists_cons_of_ne_nil (show q ≠ [] from by rintro rfl; simp at hq)
  have hb : bt (B l) (pre.length : Int) = (c.toNat : Int) := bt_at l pre r c hp
  refine Ev.step (fun _ => spec_IntOf.l0.eq_2 _ _ _ _ _) (Ev.pos (by rw [B_size]; omega) (Ev.pos (by omega) ?_))
  rw [hb]
  by_cases c1 : (c.toNat : Int) < 48
  · exact Ev.pos c1 (Ev.now _)
  · by_cases c2 : (c.toNat : Int) > 57
    · exact Ev.neg c1 (Ev.pos c2 (Ev.now _))
    · exact Ev.neg c1 (Ev.neg c2 (Ev.pos (by rw [B_size, w64 (by omega) (by omega)]; omega) (Ev.now _)))
theorem int_tail (neg : Bool) (l pre q : List UInt8) (hl : l.length ≤ 1000) (hp : l = pre ++ q) (hne : l ≠ []) (h0 : bt (B l) 0 = 45 ↔ neg = true)
    (hI : iP l = if (uP0 q).2 = 1 then (0, 1) else if neg then (if CUTU < (uP0 q).1 then (-CUTU, 2) else (-(uP0 q).1, 0)) else (if CUTU ≤ (uP0 q).1 then (CUTU - 1, 2) else ((uP0 q).1, 0))) :
    ∃ n ok, Ev (fun k => spec_IntOf.l0 k (B l) 0 (pre.length : Int) (pre.length : Int)) (n, ok) ∧ (ok = true → atoiP (B l) = (n, 0)) ∧ (ok = false → (atoiP (B l)).2 = 0 → 18 < l.length) := by
  have hll : l.length = pre.length + q.length := by rw [hp, List.length_append]
  by_cases h18 : 18 < q.length
  · exact ⟨0, false, int_long l pre q hl hp h18, by simp, fun _ _ => by omega⟩
  by_cases hq : q = []
  · refine ⟨0, false, ?_, by simp, fun _ h => ?_⟩
    · subst hq
      rw [List.length_nil] at hll
      exact Ev.step (fun _ => spec_IntOf.l0.eq_2 _ _ _ _ _) (Ev.neg (by rw [B_size]; omega) (Ev.pos (by rw [B_size]; omega) (Ev.now _)))
    · exfalso
      rw [hq] at hI
      have e : iP l = (0, 1) := hI
      unfold atoiP at h
      rw [data_B, e] at h
      simp at h
  · obtain ⟨g1, g2, g3, g4⟩ := int_loop neg l pre hl hne h0 q [] 0 (by simpa using hp) (by simpa using h18) (Int.le_refl _) (by
      have : 0 < (10 : Nat) ^ (18 - q.length) := Nat.pow_pos (by omega)
      omega) (by simpa using hq)
    rw [List.append_nil] at g1
    have hu : uP0 q = uP q 0 := by unfold uP0; rw [if_neg hq]
    rw [hu] at hI
    rcases g4 with g4 | g4
    · rw [if_pos g4] at g1
      refine ⟨_, true, g1, fun _ => ?_, by simp⟩
      rw [if_neg (by omega)] at hI
      cases neg with
      | true =>
        have e : iP l = (-(uP q 0).1, 0) := by rw [hI, if_pos rfl, if_neg (by unfold CUTU; omega)]
        unfold atoiP
        rw [data_B, e]
        rfl
      | false =>
        have e : iP l = ((uP q 0).1, 0) := by rw [hI, if_neg (by simp), if_neg (by unfold CUTU; omega)]
        unfold atoiP
        rw [data_B, e]
        rfl
    · rw [if_neg (by omega)] at g1
      refine ⟨_, false, g1, by simp, fun _ h => ?_⟩
      exfalso
      rw [if_pos g4] at hI
      unfold atoiP at h
      rw [data_B, hI] at h
      simp at h
theorem iP_neg (r : List UInt8) : iP (45 :: r) = if (uP0 r).2 = 1 then (0, 1) else if CUTU < (uP0 r).1 then (-CUTU, 2) else (-(uP0 r).1, 0) := rfl
theorem int_f (l : List UInt8) (hl : l.length ≤ 1000) (hne : l ≠ []) : ∃ n ok, Ev (fun k => spec_IntOf.f k (B l)) (n, ok) ∧ (ok = true → atoiP (B l) = (n, 0)) ∧ (ok = false → (atoiP (B l)).2 = 0 → 18 < l.length) := by
  obtain ⟨c, r, rfl⟩ := List.exists_cons_of_ne_nil hne
  have hb : bt (B (c :: r)) 0 = (c.toNat : Int) := bt_at _ [] r c rfl
  have start : ∀ res : Int × Bool, Ev (fun k => if bt (B (c :: r)) 0 = 45 then (spec_IntOf.j0 k (B (c :: r)) 0 0 true) else (spec_IntOf.j0 k (B (c :: r)) 0 0 (bt (B (c :: r)) 0 == 43))) res → Ev (fun k => spec_IntOf.f k (B (c :: r))) res := by
    intro res h
    unfold spec_IntOf.f
    exact Ev.neg (by rw [B_toList]; simp) (Ev.pos (by rw [B_size]; simp <;> omega) h)
  have jt : ∀ res : Int × Bool, Ev (fun k => spec_IntOf.l0 k (B (c :: r)) 0 1 1) res → Ev (fun k => spec_IntOf.j0 k (B (c :: r)) 0 0 true) res := fun res h => Ev.step (fun _ => spec_IntOf.j0.eq_2 _ _ _ _ _) (Ev.pos rfl (Ev.step (fun _ => spec_IntOf.j1.eq_2 _ _ _ _) h))
  have jf : ∀ res : Int × Bool, Ev (fun k => spec_IntOf.l0 k (B (c :: r)) 0 0 0) res → Ev (fun k => spec_IntOf.j0 k (B (c :: r)) 0 0 false) res := fun res h => Ev.step (fun _ => spec_IntOf.j0.eq_2 _ _ _ _ _) (Ev.neg (by simp) (Ev.step (fun _ => spec_IntOf.j1.eq_2 _ _ _ _) h))
  by_cases h45 : c = 45
  · subst h45
    obtain ⟨n, ok, g1, g2, g3⟩ := int_tail true (45 :: r) [45] r hl rfl hne (by rw [hb]; exact ⟨fun _ => rfl, fun _ => rfl⟩) (by rw [iP_neg]; simp only [if_true])
    exact ⟨n, ok, start _ (Ev.pos (by rw [hb]; rfl) (jt _ g1)), g2, g3⟩
  · have n45 : ¬ bt (B (c :: r)) 0 = 45 := by rw [hb]; exact fun e => h45 ((byte_eq c 45 (by omega)).1 e)
    by_cases h43 : c = 43
    · subst h43
      obtain ⟨n, ok, g1, g2, g3⟩ := int_tail false (43 :: r) [43] r hl rfl hne (by simpa using n45) (by rw [iP_plus]; simp only [Bool.false_eq_true, if_false])
      refine ⟨n, ok, start _ (Ev.neg n45 ?_), g2, g3⟩
      rw [show (bt (B (43 :: r)) 0 == 43) = true from by rw [hb]; rfl]
      exact jt _ g1
    · have n43 : ¬ bt (B (c :: r)) 0 = 43 := by rw [hb]; exact fun e => h43 ((byte_eq c 43 (by omega)).1 e)
      obtain ⟨n, ok, g1, g2, g3⟩ := int_tail false (c :: r) [] (c :: r) hl rfl hne (by simpa using n45) (by rw [iP_bare h45 h43]; simp only [Bool.false_eq_true, if_false])
      refine ⟨n, ok, start _ (Ev.neg n45 ?_), g2, g3⟩
      rw [show (bt (B (c :: r)) 0 == 43) = false from by simpa using n43]
      exact jf _ g1

/-! ### The law -/
theorem fcv_strings {l : List PSec} {s o v : List UInt8} (hS : ∀ S ∈ l, SecOk S) (hf : Few l) (hh : Heads l) (hs : s = [] ∨ Sml s) (hd : s ≠ DEF) (ho : Sml o) (hn : (l.map (·.name)).Nodup) (hk : ∀ S ∈ l, S.name ≠ DEF ∧ (S.opts.map (·.1)).Nodup) (hv : (findV l s o).getD [] = v) (hne : v ≠ []) :
    impl_ConfigStrings.f (B (confT l)) (B (keyOf s o)) = some ((splitC [] v).map B, 0) ∧ impl_ConfigBool.f (B (confT l)) (B (keyOf s o)) = some (boolP (B v)) ∧ impl_ConfigInt.f (B (confT l)) (B (keyOf s o)) = some (if (atoiP (B v)).2 = 0 then ((atoiP (B v)).1, 0) else (0, 1)) := by
  have hg := get_conf hs hd ho hn hk
  rw [hv] at hg
  have hz := findV_len hS s o
  rw [hv] at hz
  have h1 := good_conf hS hf
  have h2 := low_key s o hs ho
  have h3 := parse_conf l hS hh
  refine ⟨?_, ?_, ?_⟩
  · unfold impl_ConfigStrings.f
    rw [h1, h2, if_pos (by rfl), data_B, h3]
    simp only [Option.bind_some]
    rw [hg, if_neg (by rw [B_toList, B_size]; rw [not_or]; exact ⟨hne, by omega⟩), B_size]
    rw [show splitB comma v.length (B v) = (splitC [] v).map B from split_comma v [] v.length (by simp) (by simp)]
  · unfold impl_ConfigBool.f
    rw [h1, h2, if_pos (by rfl), data_B, h3]
    simp only [Option.map_some]
    rw [hg]
  · unfold impl_ConfigInt.f
    rw [h1, h2, if_pos (by rfl), data_B, h3]
    simp only [Option.bind_some]
    rw [hg, if_neg (by rw [B_size]; omega)]
theorem splitC_len : ∀ (q a : List UInt8), (splitC a q).length ≤ q.length + 1
  | [], a => by simp [splitC]
  | c :: q, a => by
    unfold splitC
    split
    · have := splitC_len q []
      simp
      omega
    · have := splitC_len q (a ++ [c])
      simp
      omega
theorem fcv_j1 {l : List S50} (a b : ByteArray) (h : COk l) (ha : (a.data.toList = [] ∨ Sml a.data.toList)) (hd : a.data.toList ≠ DEF) (hb : Sml b.data.toList) : Ev (fun k => laws_FnConfigValues.j1 k l a b false) true := by
  obtain ⟨v, hv⟩ : ∃ v, (findV (l.map psS) a.data.toList b.data.toList).getD [] = v := ⟨_, rfl⟩
  have hval := value_f h a b
  rw [hv] at hval
  have aw : ∀ {α : Type} , Ev (fun _ : Nat => (laws_awakeConf.f).bind fun t => (some t)) true := fun {_} => Ev.const (by rw [awake]; rfl)
  refine Ev.step (fun _ => laws_FnConfigValues.j1.eq_2 _ _ _ _ _) (Ev.neg (by simp) (Ev.bind (text_f h) (Ev.bind (Ev.const (confKey_f a b ha hb)) (Ev.bind hval ?_))))
  by_cases hne : v = []
  · exact Ev.pos (by rw [B_toList]; exact hne) (aw (α := Unit))
  · have hlen : v.length ≤ 1000 := by
      have := findV_len h.secOk a.data.toList b.data.toList
      rw [hv] at this
      omega
    obtain ⟨f1, f2, f3⟩ := fcv_strings h.secOk h.few h.heads ha hd hb h.names h.keys hv hne
    refine Ev.neg (by rw [B_toList]; exact hne) (Ev.bind (Ev.const f1) (Ev.pos rfl (Ev.bind (split_f v hlen) (Ev.bind (SameList_f _ _ (by rw [List.length_map]; have := splitC_len v []; omega)) ?_))))
    rw [show (!decide ((splitC [] v).map B = (splitC [] v).map B)) = false from by simp]
    refine Ev.step (fun _ => laws_FnConfigValues.j2.eq_2 _ _ _ _ _) (Ev.neg (by simp) (Ev.bind (truth_f (B v)) (Ev.bind (Ev.const f2) ?_)))
    have j3 : Ev (fun k => laws_FnConfigValues.j3 k (B (confT (l.map psS))) (B (keyOf a.data.toList b.data.toList)) (B v) false) true := by
      obtain ⟨n, ok, g1, g2, g3⟩ := int_f v hlen hne
      refine Ev.step (fun _ => laws_FnConfigValues.j3.eq_2 _ _ _ _ _) (Ev.neg (by simp) (Ev.bind g1 (Ev.bind (Ev.const f3) ?_)))
      cases ok with
      | true =>
        have e := g2 rfl
        rw [e]
        exact Ev.pos rfl (Ev.step (fun _ => laws_FnConfigValues.j4.eq_2 _ _ _ _ _ _ _) (Ev.neg (by simp) (Ev.pos rfl (Ev.pos rfl (Ev.pos rfl (aw (α := Unit)))))))
      | false =>
        refine Ev.neg (by simp) (Ev.step (fun _ => laws_FnConfigValues.j4.eq_2 _ _ _ _ _ _ _) ?_)
        by_cases hk : (atoiP (B v)).2 = 0
        · rw [if_pos hk]
          have := g3 rfl hk
          exact Ev.pos rfl (Ev.pos (by rw [B_size]; omega) (aw (α := Unit)))
        · rw [if_neg hk]
          exact Ev.neg (by simp) (Ev.neg (by simp) (aw (α := Unit)))
    obtain ⟨tb, tk⟩ := boolP (B v)
    simp only
    refine Ev.neg (by
      by_cases e : tk = 0 <;> simp [e]) ?_
    by_cases e : tk = 0
    · refine Ev.pos (by simp [e]) ?_
      rw [show (tb != tb) = false from by simp]
      exact j3
    · exact Ev.neg (by simp [e]) j3
theorem fcv_quiet (l : List S50) (a b : ByteArray) : Ev (fun k => laws_FnConfigValues.j1 k l a b true) true :=
  Ev.step (fun _ => laws_FnConfigValues.j1.eq_2 _ _ _ _ _) (Ev.pos rfl (Ev.const (by rw [awake]; rfl)))
theorem FnConfigValues (l : List S50) (a b : ByteArray) (h : l.length ≤ 9223372036854775807) (hl : ∀ x ∈ l, LenS x) (ha : a.size ≤ 140737488351232) (hb : b.size ≤ 140737488351232) : ∃ k, laws_FnConfigValues.f k l a b = some true := by
  have j0t : Ev (fun k => laws_FnConfigValues.j0 k l a b true) true := Ev.step (fun _ => laws_FnConfigValues.j0.eq_2 _ _ _ _ _) (Ev.pos rfl (Ev.now _))
  have j0f : l.length ≤ 2147483647 → (∀ x ∈ l, FitS x) → a.size ≤ 2147483647 → b.size ≤ 2147483647 → Ev (fun k => laws_FnConfigValues.j0 k l a b false) true := by
    intro hl1 hfx ha1 hb1
    obtain ⟨bc, h1, h2⟩ := conf_f l hfx
    cases bc with
    | false => exact Ev.step (fun _ => laws_FnConfigValues.j0.eq_2 _ _ _ _ _) (Ev.neg (by simp) (Ev.bind h1 (Ev.neg (by simp) (fcv_quiet l a b))))
    | true =>
      obtain ⟨bk, h3, h4⟩ := key_f a b ha1 hb1
      refine Ev.step (fun _ => laws_FnConfigValues.j0.eq_2 _ _ _ _ _) (Ev.neg (by simp) (Ev.bind h1 (Ev.pos rfl (Ev.bind h3 ?_))))
      cases bk with
      | false => exact fcv_quiet l a b
      | true =>
        obtain ⟨g1, g2, g3⟩ := h4 rfl
        exact fcv_j1 a b (h2 rfl) g1 g2 g3
  obtain ⟨bf, hf, hs⟩ := fits15 l h hl
  have all : Ev (fun k => laws_FnConfigValues.f k l a b) true := by
    unfold laws_FnConfigValues.f
    refine Ev.bind hf ?_
    cases bf with
    | false => exact j0t
    | true =>
      refine Ev.pos rfl ?_
      by_cases c1 : (a.size : Int) > 2147483647
      · exact Ev.pos c1 j0t
      · refine Ev.neg c1 ?_
        by_cases c2 : (b.size : Int) > 2147483647
        · rw [decide_eq_true c2]; exact j0t
        · rw [decide_eq_false c2]
          obtain ⟨q1, q2⟩ := hs rfl
          exact j0f q1 q2 (by omega) (by omega)
  exact Ev.rounds (g := fun k => laws_FnConfigValues.f k l a b) all

/-! ### How a section that reads as data is met -/
set_option maxRecDepth 100000 in
theorem opens_T53 : Opens.Opens Tryz.prog k53 53 LenO := by
  intro H enc w base spare held n cs x h
  obtain ⟨xs, m, _, rfl, hl, hlen, hf⟩ := DataW.trod_struct Tryz.underlying53 h
  have h0 := hf 0 _ rfl
  have h1 := hf 1 _ rfl
  have hc : Tryz.prog.cellsOf 53 = 2 := by kernel_rfl
  have hc9 : Tryz.prog.cellsOf 9 = 1 := by kernel_rfl
  have hc35 : Tryz.prog.cellsOf 35 = 1 := by kernel_rfl
  rw [hc] at hl
  match cs, hl with
  | [a, b], _ =>
    match xs, hlen with
    | [y0, y1], _ =>
      obtain ⟨s0, e0, _⟩ := Opens.opens_string Tryz.underlying9 h0
      obtain ⟨s1, ⟨A1, c1, e1, l1, g1⟩, q1, _⟩ := Opens.opens_slice Tryz.underlying35 (by kernel_rfl) (Opens.opens_string Tryz.underlying9) h1
      replace e0 : ([a, b].drop 0).take (Tryz.prog.cellsOf 9) = [.string s0] := e0
      replace e1 : ([a, b].drop 1).take (Tryz.prog.cellsOf 35) = [.slice A1 s1.length c1] := e1
      rw [hc9] at e0
      rw [hc35] at e1
      obtain rfl : a = .string s0 := by simpa using e0
      obtain rfl : b = .slice A1 s1.length c1 := by simpa using e1
      exact ⟨⟨s0, s1⟩, k53_mk _ _ l1 g1, q1⟩
set_option maxRecDepth 100000 in
theorem opens_T50 : Opens.Opens Tryz.prog k50 50 LenS := by
  intro H enc w base spare held n cs x h
  obtain ⟨xs, m, _, rfl, hl, hlen, hf⟩ := DataW.trod_struct Tryz.underlying50 h
  have h0 := hf 0 _ rfl
  have h1 := hf 1 _ rfl
  have h2 := hf 2 _ rfl
  have hc : Tryz.prog.cellsOf 50 = 3 := by kernel_rfl
  have hc9 : Tryz.prog.cellsOf 9 = 1 := by kernel_rfl
  have hc35 : Tryz.prog.cellsOf 35 = 1 := by kernel_rfl
  have hc48 : Tryz.prog.cellsOf 48 = 1 := by kernel_rfl
  rw [hc] at hl
  match cs, hl with
  | [a, b, c], _ =>
    match xs, hlen with
    | [y0, y1, y2], _ =>
      obtain ⟨s0, e0, _⟩ := Opens.opens_string Tryz.underlying9 h0
      obtain ⟨s1, ⟨A1, c1, e1, l1, g1⟩, q1, _⟩ := Opens.opens_slice Tryz.underlying35 (by kernel_rfl) (Opens.opens_string Tryz.underlying9) h1
      obtain ⟨s2, ⟨A2, c2, e2, l2, g2⟩, q2, q3⟩ := Opens.opens_slice Tryz.underlying48 (by kernel_rfl) opens_T53 h2
      replace e0 : ([a, b, c].drop 0).take (Tryz.prog.cellsOf 9) = [.string s0] := e0
      replace e1 : ([a, b, c].drop 1).take (Tryz.prog.cellsOf 35) = [.slice A1 s1.length c1] := e1
      replace e2 : ([a, b, c].drop 2).take (Tryz.prog.cellsOf 48) = [.slice A2 s2.length c2] := e2
      rw [hc9] at e0
      rw [hc35] at e1
      rw [hc48] at e2
      obtain rfl : a = .string s0 := by simpa using e0
      obtain rfl : b = .slice A1 s1.length c1 := by simpa using e1
      obtain rfl : c = .slice A2 s2.length c2 := by simpa using e2
      exact ⟨⟨s0, s1, s2⟩, k50_mk _ _ l1 g1 l2 g2, q1, q2, q3⟩

end Go.Proofs.YtbomcdnijklgjaaGreatDoor.Pure
