/- For all assertions and every number: laws.FnModelAdd answers true (the plain statement that its printed walk asks for). No condition beyond the form's own sizes. -/
import Derived.Test.YtjglpjlbnmpdfaaGreatDoorOFnModelAddx12
import Derived.Test.YtjglpjlbnmpdfaaGreatDoorBase
import Derived.Test.YtjglpjlbnmpdfaaGreatDoorOpens
set_option linter.unusedSimpArgs false
set_option linter.unusedVariables false
namespace Go.Proofs.YtjglpjlbnmpdfaaGreatDoor.Pure
open Go.RowKit Go.Proofs.YtjglpjlbnmpdfaaGreatDoor.PFnModelAdd Go.Proofs.YtjglpjlbnmpdfaaGreatDoorW.PrintWords Go.Proofs.YtjglpjlbnmpdfaaGreatDoorW.PrintLast Go.Proofs.YtjglpjlbnmpdfaaGreatDoor.Base

/-! ### What a written configuration is read as -/
/-- a part of a value -/
structure Val (v : List UInt8) : Prop where
  ok : ∀ c ∈ v, 32 ≤ c.toNat ∧ c.toNat ≤ 126 ∧ c ≠ 35 ∧ c ≠ 59 ∧ c ≠ 92
  ne : v ≠ []
  len : v.length ≤ 80
  hd : v.head? ≠ some 32
  tl : v.getLast? ≠ some 32
/-- a small word -/
structure Sml (v : List UInt8) : Prop where
  ok : ∀ c ∈ v, (97 ≤ c.toNat ∧ c.toNat ≤ 122) ∨ (48 ≤ c.toNat ∧ c.toNat ≤ 57) ∨ c.toNat = 95
  ne : v ≠ []
  len : v.length ≤ 30
theorem sp_iff (c : UInt8) (h : 32 ≤ c.toNat) : Lib.isSp c = true ↔ c = 32 := by
  unfold Lib.isSp
  constructor
  · intro e
    simp only [Bool.or_eq_true, beq_iff_eq] at e
    rcases e with ((((rfl | rfl) | rfl) | rfl) | rfl) | rfl
    all_goals first | rfl | exact absurd h (by decide)
  · rintro rfl; rfl
theorem trim_same (l : List UInt8) (h1 : ∀ c, l.head? = some c → Lib.isSp c = false) (h2 : ∀ c, l.getLast? = some c → Lib.isSp c = false) : Lib.trimSpace l = l := by
  unfold Lib.trimSpace
  have e1 : l.dropWhile Lib.isSp = l := by
    cases l with
    | nil => rfl
    | cons c r => rw [List.dropWhile_cons, h1 c rfl]; rfl
  rw [e1]
  have e2 : l.reverse.dropWhile Lib.isSp = l.reverse := by
    cases hr : l.reverse with
    | nil => rfl
    | cons c r =>
      have : l.getLast? = some c := by rw [List.getLast?_eq_head?_reverse, hr]; rfl
      rw [List.dropWhile_cons, h2 c this]; rfl
  rw [e2, List.reverse_reverse]
theorem trim_behead (c : UInt8) (l : List UInt8) (h : Lib.isSp c = true) : Lib.trimSpace (c :: l) = Lib.trimSpace l := by
  unfold Lib.trimSpace
  rw [List.dropWhile_cons, if_pos h]
theorem trim_head (c : UInt8) (l : List UInt8) (h : Lib.isSp c = false) : (Lib.trimSpace (c :: l)).head? = some c := by
  unfold Lib.trimSpace
  rw [List.dropWhile_cons, h]
  simp only [Bool.false_eq_true, if_false, List.reverse_cons]
  generalize l.reverse = m
  have key : ∀ m : List UInt8, ((m ++ [c]).dropWhile Lib.isSp).reverse.head? = some c := by
    intro m
    induction m with
    | nil => simp [List.dropWhile_cons, h]
    | cons x m ih =>
      rw [List.cons_append, List.dropWhile_cons]
      split
      · exact ih
      · simp
  exact key m
theorem not32 {c : UInt8} (h : 32 ≤ c.toNat) (h2 : c ≠ 32) : Lib.isSp c = false := by
  rw [Bool.eq_false_iff]
  intro e
  exact h2 ((sp_iff c h).1 e)
theorem Sml.nat {v : List UInt8} (h : Sml v) : ∀ c ∈ v, 48 ≤ c.toNat ∧ c.toNat ≤ 122 ∧ c ≠ 59 ∧ c ≠ 61 ∧ c ≠ 91 ∧ c ≠ 92 ∧ c ≠ 93 ∧ c ≠ 58 := by
  intro c hc
  have h1 := h.ok c hc
  refine ⟨by omega, by omega, ?_, ?_, ?_, ?_, ?_, ?_⟩ <;> (rintro rfl; revert h1; decide)
theorem head_mem {l : List UInt8} {c : UInt8} (h : l.head? = some c) : c ∈ l := by cases l with
  | nil => cases h
  | cons x r => cases h; simp
theorem last_mem {l : List UInt8} {c : UInt8} (h : l.getLast? = some c) : c ∈ l := by
  rw [List.getLast?_eq_head?_reverse] at h
  have := head_mem h
  simpa using this
theorem last_app (a : List UInt8) {b : List UInt8} (hb : b ≠ []) : (a ++ b).getLast? = b.getLast? := by
  rw [List.getLast?_append]
  cases h : b.getLast? with
  | none => rw [List.getLast?_eq_none_iff] at h; exact absurd h hb
  | some c => rfl
theorem head_app {a : List UInt8} (b : List UInt8) (ha : a ≠ []) : (a ++ b).head? = a.head? := by
  cases a with
  | nil => exact absurd rfl ha
  | cons x r => rfl
theorem noteCut_id {l : List UInt8} (h : ∀ c ∈ l, c ≠ 35 ∧ c ≠ 59) : noteCut l = l := by
  unfold noteCut
  induction l with
  | nil => rfl
  | cons x l ih =>
    have hx : (x != 35 && x != 59) = true := by simpa using h x (by simp)
    rw [List.takeWhile_cons, if_pos hx, ih (fun c hc => h c (List.mem_cons_of_mem _ hc))]
/-- behind a line: what is to be flushed gives D -/
structure Bd (s : PS) (sec : ByteArray) (D : Conf) : Prop where
  fl : flushP s = some ⟨sec, [], false, D⟩
  cw : s.buf ≠ [] → s.cw = true
  sc : s.sec = sec
theorem Bd.head {s : PS} {sec : ByteArray} {D : Conf} (h : Bd s sec D) : headP s = some ⟨sec, [], false, D⟩ := by
  unfold headP
  cases hc : s.cw with
  | true => rw [if_pos rfl]; exact h.fl
  | false =>
    rw [if_neg (by simp)]
    have hb : s.buf = [] := by
      by_cases hb : s.buf = []
      · exact hb
      · have := h.cw hb; rw [hc] at this; cases this
    have h1 := h.fl
    unfold flushP at h1
    rw [if_pos hb] at h1
    cases s
    simp only at hc hb
    subst hc hb
    exact h1
theorem bd_empty (sec : ByteArray) (cw : Bool) (D : Conf) : Bd ⟨sec, [], cw, D⟩ sec D := ⟨by simp [flushP], fun h => absurd rfl h, rfl⟩
theorem step_note {s : PS} {sec : ByteArray} {D : Conf} (h : Bd s sec D) (c : UInt8) (hc : c = 35 ∨ c = 59) (ln : List UInt8) : stepP s (c :: ln) = some ⟨sec, [], true, D⟩ := by
  unfold stepP
  rw [h.head, Option.bind_some]
  unfold bodyP
  have h1 := trim_head c ln (by rcases hc with rfl | rfl <;> decide)
  rw [if_pos]
  rcases hc with rfl | rfl
  · exact .inr (.inr h1)
  · exact .inr (.inl h1)
theorem step_blank {s : PS} {sec : ByteArray} {D : Conf} (h : Bd s sec D) : stepP s [] = some ⟨sec, [], true, D⟩ := by
  unfold stepP
  rw [h.head, Option.bind_some]
  rfl
theorem step_sect {s : PS} {sec : ByteArray} {D : Conf} (h : Bd s sec D) {name : List UInt8} (hn : Sml name) : stepP s (91 :: (name ++ [93])) = some ⟨B name, [], false, D⟩ := by
  unfold stepP
  rw [h.head, Option.bind_some, trim_same (91 :: (name ++ [93])) (by rintro c hc; cases hc; decide) (by
    intro c hc
    rw [show (91 : UInt8) :: (name ++ [93]) = (91 :: name) ++ [93] from rfl, last_app _ (by simp)] at hc
    cases hc; decide)]
  unfold bodyP
  have hl : ((91 : UInt8) :: (name ++ [93])).getLast? = some 93 := by
    rw [show (91 : UInt8) :: (name ++ [93]) = (91 :: name) ++ [93] from rfl, last_app _ (by simp)]; rfl
  rw [if_neg (by simp), if_pos ⟨rfl, hl⟩]
  simp [flushP, B]
theorem body_last (s : PS) (l : List UInt8) (h0 : l ≠ []) (h1 : ∀ c ∈ l, c ≠ 35 ∧ c ≠ 59) (h2 : l.head? ≠ some 91) (h3 : l.getLast? ≠ some 92) : bodyP s l = some { s with buf := s.buf ++ l, cw := true } := by
  unfold bodyP
  rw [if_neg, if_neg (fun e => h2 e.1), if_neg h3, noteCut_id h1]
  rintro (e | e | e)
  · exact h0 e
  · exact (h1 _ (head_mem e)).2 rfl
  · exact (h1 _ (head_mem e)).1 rfl
theorem body_more (s : PS) (q : List UInt8) (h0 : q ≠ []) (h1 : ∀ c ∈ q, c ≠ 35 ∧ c ≠ 59) (h2 : q.head? ≠ some 91) (h3 : Lib.trimSpace q = q) : bodyP s (q ++ [32, 92]) = some { s with buf := s.buf ++ (q ++ [32]) } := by
  have hh : (q ++ [32, 92]).head? = q.head? := head_app _ h0
  have hl : (q ++ [32, 92]).getLast? = some 92 := last_app _ (by simp)
  have hd : (q ++ [32, 92]).dropLast = q ++ [32] := by
    rw [show q ++ [32, 92] = (q ++ [32]) ++ [92] from by simp, List.dropLast_concat]
  have ht : Lib.trimSpace (q ++ [32]) = q := by rw [trim_snoc _ _ (by decide), h3]
  unfold bodyP
  rw [hd, ht, if_neg, if_neg (fun e => h2 (hh ▸ e.1)), if_pos hl, if_neg h0, noteCut_id]
  · intro c hc
    rcases List.mem_append.1 hc with hc | hc
    · exact h1 c hc
    · obtain rfl := List.mem_singleton.1 hc
      decide
  · rw [hh]
    rintro (e | e | e)
    · simp at e
    · exact (h1 _ (head_mem e)).2 rfl
    · exact (h1 _ (head_mem e)).1 rfl
/-- an option's line: its key, =, a part -/
def optLine (key v : List UInt8) : List UInt8 := key ++ ([32, 61, 32] ++ v)
theorem Val.sp {v : List UInt8} (h : Val v) : ∀ c ∈ v, c ≠ 35 ∧ c ≠ 59 := fun c hc => ⟨(h.ok c hc).2.2.1, (h.ok c hc).2.2.2.1⟩
theorem optLine_ok {key v : List UInt8} (hk : Sml key) (hv : Val v) : (optLine key v) ≠ [] ∧ (∀ c ∈ optLine key v, c ≠ 35 ∧ c ≠ 59) ∧ (optLine key v).head? ≠ some 91 ∧ (optLine key v).getLast? = v.getLast? ∧ Lib.trimSpace (optLine key v) = optLine key v := by
  have hh : (optLine key v).head? = key.head? := head_app _ hk.ne
  have hl : (optLine key v).getLast? = v.getLast? := by
    unfold optLine
    rw [last_app _ (by simp), last_app _ hv.ne]
  refine ⟨by unfold optLine; simp [hk.ne], fun c hc => ?_, ?_, hl, trim_same _ (fun c hc => ?_) (fun c hc => ?_)⟩
  · unfold optLine at hc
    simp only [List.mem_append, List.mem_cons, List.not_mem_nil, or_false] at hc
    rcases hc with hc | (rfl | rfl | rfl) | hc
    · have h1 := hk.ok c hc
      constructor <;> (rintro rfl; revert h1; decide)
    · decide
    · decide
    · decide
    · exact hv.sp c hc
  · rw [hh]
    intro e
    exact (hk.nat _ (head_mem e)).2.2.2.2.1 rfl
  · rw [hh] at hc
    have := hk.nat c (head_mem hc)
    exact not32 (by omega) (by rintro rfl; exact absurd this.1 (by decide))
  · rw [hl] at hc
    exact not32 (hv.ok c (last_mem hc)).1 (by rintro rfl; exact hv.tl hc)
theorem Val.last92 {v : List UInt8} (h : Val v) : v.getLast? ≠ some 92 := fun e => (h.ok _ (last_mem e)).2.2.2.2 rfl
theorem step_one {s : PS} {sec : ByteArray} {D : Conf} (h : Bd s sec D) {key v : List UInt8} (hk : Sml key) (hv : Val v) : stepP s (optLine key v) = some ⟨sec, optLine key v, true, D⟩ := by
  obtain ⟨h0, h1, h2, h3, h4⟩ := optLine_ok hk hv
  unfold stepP
  rw [h.head, Option.bind_some, h4, body_last _ _ h0 h1 h2 (by rw [h3]; exact hv.last92)]
  rfl
theorem step_first {s : PS} {sec : ByteArray} {D : Conf} (h : Bd s sec D) {key v : List UInt8} (hk : Sml key) (hv : Val v) : stepP s (optLine key v ++ [32, 92]) = some ⟨sec, optLine key v ++ [32], false, D⟩ := by
  obtain ⟨h0, h1, h2, h3, h4⟩ := optLine_ok hk hv
  unfold stepP
  rw [h.head, Option.bind_some, trim_same, body_more _ _ h0 h1 h2 h4]
  · rfl
  · intro c hc
    rw [head_app _ h0] at hc
    have e := congrArg List.head? h4
    have hh : (optLine key v).head? = key.head? := head_app _ hk.ne
    rw [hh] at hc
    have := hk.nat c (head_mem hc)
    exact not32 (by omega) (by rintro rfl; exact absurd this.1 (by decide))
  · intro c hc
    rw [last_app _ (by simp)] at hc
    cases hc
    decide
theorem Val.trim {v : List UInt8} (h : Val v) : Lib.trimSpace v = v :=
  trim_same v (fun c hc => not32 (h.ok c (head_mem hc)).1 (by rintro rfl; exact h.hd hc)) (fun c hc => not32 (h.ok c (last_mem hc)).1 (by rintro rfl; exact h.tl hc))
theorem step_mid (sec : ByteArray) (buf : List UInt8) (D : Conf) {v : List UInt8} (hv : Val v) (h91 : v.head? ≠ some 91) : stepP ⟨sec, buf, false, D⟩ ([32, 32] ++ (v ++ [32, 92])) = some ⟨sec, buf ++ (v ++ [32]), false, D⟩ := by
  have ht : Lib.trimSpace ([32, 32] ++ (v ++ [32, 92])) = v ++ [32, 92] := by
    rw [show [32, 32] ++ (v ++ [32, 92]) = 32 :: 32 :: (v ++ [32, 92]) from rfl, trim_behead _ _ (by decide), trim_behead _ _ (by decide)]
    refine trim_same _ (fun c hc => ?_) (fun c hc => ?_)
    · rw [head_app _ hv.ne] at hc
      exact not32 (hv.ok c (head_mem hc)).1 (by rintro rfl; exact hv.hd hc)
    · rw [last_app _ (by simp)] at hc
      cases hc; decide
  unfold stepP
  simp only [headP, Bool.false_eq_true, if_false, Option.bind_some]
  rw [ht, body_more _ _ hv.ne hv.sp h91 hv.trim]
theorem step_last (sec : ByteArray) (buf : List UInt8) (D : Conf) {v : List UInt8} (hv : Val v) (h91 : v.head? ≠ some 91) : stepP ⟨sec, buf, false, D⟩ ([32, 32] ++ v) = some ⟨sec, buf ++ v, true, D⟩ := by
  have ht : Lib.trimSpace ([32, 32] ++ v) = v := by
    rw [show [32, 32] ++ v = 32 :: 32 :: v from rfl, trim_behead _ _ (by decide), trim_behead _ _ (by decide), hv.trim]
  unfold stepP
  simp only [headP, Bool.false_eq_true, if_false, Option.bind_some]
  rw [ht, body_last _ _ hv.ne hv.sp h91 hv.last92]
theorem run_line (s : PS) (ln r : List UInt8) (h : 10 ∉ ln) : runP s (ln ++ 10 :: r) = (stepP s ln).bind fun s' => runP s' r := by
  obtain ⟨h1, h2⟩ := line_found (ln ++ 10 :: r) ln.length (by simp) (by rw [List.take_left']; exact h; rfl)
  rw [List.take_left' rfl] at h1
  rw [show (ln ++ 10 :: r).drop (ln.length + 1) = r from by rw [← List.drop_drop, List.drop_left' rfl]; rfl] at h2
  cases hL : ln ++ 10 :: r with
  | nil => simp at hL
  | cons b t =>
    rw [hL] at h1 h2
    conv => lhs; unfold runP
    rw [h1, h2]
/-- texts with a separator between -/
def joinL (sep : List UInt8) : List (List UInt8) → List UInt8
  | [] => []
  | [p] => p
  | p :: q :: r => p ++ (sep ++ joinL sep (q :: r))
theorem joinL_ne {sep p : List UInt8} {r : List (List UInt8)} (hp : p ≠ []) : joinL sep (p :: r) ≠ [] := by
  cases r with
  | nil => exact hp
  | cons q r => simp [joinL, hp]
theorem joinL_head {sep p : List UInt8} {r : List (List UInt8)} (hp : p ≠ []) : (joinL sep (p :: r)).head? = p.head? := by
  cases r with
  | nil => rfl
  | cons q r => exact head_app _ hp
theorem joinL_last (sep : List UInt8) : ∀ (r : List (List UInt8)) (p : List UInt8), (∀ x ∈ p :: r, x ≠ []) → ∃ x ∈ p :: r, (joinL sep (p :: r)).getLast? = x.getLast?
  | [], p, _ => ⟨p, by simp, rfl⟩
  | q :: r, p, h => by
    obtain ⟨x, hx, e⟩ := joinL_last sep r q (fun x hx => h x (List.mem_cons_of_mem _ hx))
    refine ⟨x, List.mem_cons_of_mem _ hx, ?_⟩
    rw [← e]
    have h1 : joinL sep (q :: r) ≠ [] := joinL_ne (h q (by simp))
    show (p ++ (sep ++ joinL sep (q :: r))).getLast? = _
    rw [last_app _ (by simp [h1]), last_app _ h1]
theorem joinL_mem {sep : List UInt8} {c : UInt8} : ∀ {l : List (List UInt8)}, c ∈ joinL sep l → c ∈ sep ∨ ∃ x ∈ l, c ∈ x
  | [], h => by cases h
  | [p], h => .inr ⟨p, by simp, h⟩
  | p :: q :: r, h => by
    simp only [joinL, List.mem_append] at h
    rcases h with h | h | h
    · exact .inr ⟨p, by simp, h⟩
    · exact .inl h
    · rcases joinL_mem h with h | ⟨x, hx, hc⟩
      · exact .inl h
      · exact .inr ⟨x, List.mem_cons_of_mem _ hx, hc⟩
theorem Val.no10 {v : List UInt8} (h : Val v) : 10 ∉ v := fun e => absurd (h.ok 10 e).1 (by decide)
theorem Sml.no10 {v : List UInt8} (h : Sml v) : 10 ∉ v := fun e => absurd (h.nat 10 e).1 (by decide)
def SEP : List UInt8 := [32, 92, 10, 32, 32]
theorem run_parts (sec : ByteArray) (D : Conf) (rest : List UInt8) : ∀ (r : List (List UInt8)) (q buf : List UInt8), (∀ x ∈ q :: r, Val x ∧ x.head? ≠ some 91) →
    runP ⟨sec, buf, false, D⟩ ([32, 32] ++ (joinL SEP (q :: r) ++ 10 :: rest)) = runP ⟨sec, buf ++ joinL [32] (q :: r), true, D⟩ rest
  | [], q, buf, h => by
    obtain ⟨hv, h91⟩ := h q (by simp)
    rw [show [32, 32] ++ (joinL SEP [q] ++ 10 :: rest) = ([32, 32] ++ q) ++ 10 :: rest from by simp [joinL], run_line _ _ _ (by simpa using hv.no10), step_last _ _ _ hv h91]
    rfl
  | q2 :: r, q, buf, h => by
    obtain ⟨hv, h91⟩ := h q (by simp)
    have ih := run_parts sec D rest r q2 (buf ++ (q ++ [32])) (fun x hx => h x (List.mem_cons_of_mem _ hx))
    rw [show [32, 32] ++ (joinL SEP (q :: q2 :: r) ++ 10 :: rest) = ([32, 32] ++ (q ++ [32, 92])) ++ 10 :: ([32, 32] ++ (joinL SEP (q2 :: r) ++ 10 :: rest)) from by simp [joinL, SEP], run_line _ _ _ (by simpa using hv.no10), step_mid _ _ _ hv h91]
    simp only [Option.bind_some]
    rw [ih]
    simp [joinL]
/-- parts of a value as they are written -/
structure Parts (l : List (List UInt8)) : Prop where
  ne : l ≠ []
  ok : ∀ x ∈ l, Val x
  rest : ∀ x ∈ l.tail, x.head? ≠ some 91
  few : l.length ≤ 4
theorem run_option {s : PS} {sec : ByteArray} {D : Conf} (h : Bd s sec D) {key : List UInt8} (hk : Sml key) {parts : List (List UInt8)} (hp : Parts parts) (rest : List UInt8) :
    runP s (key ++ ([32, 61, 32] ++ (joinL SEP parts ++ 10 :: rest))) = runP ⟨sec, optLine key (joinL [32] parts), true, D⟩ rest := by
  match parts, hp with
  | [], hp => exact absurd rfl hp.ne
  | [p], hp =>
    have hv := hp.ok p (by simp)
    rw [show key ++ ([32, 61, 32] ++ (joinL SEP [p] ++ 10 :: rest)) = optLine key p ++ 10 :: rest from by simp [joinL, optLine], run_line _ _ _ (by
      intro e
      simp only [optLine, List.mem_append] at e
      rcases e with e | e | e
      · exact hk.no10 e
      · exact absurd e (by decide)
      · exact hv.no10 e), step_one h hk hv]
    rfl
  | p :: q :: r, hp =>
    have hv := hp.ok p (by simp)
    rw [show key ++ ([32, 61, 32] ++ (joinL SEP (p :: q :: r) ++ 10 :: rest)) = (optLine key p ++ [32, 92]) ++ 10 :: ([32, 32] ++ (joinL SEP (q :: r) ++ 10 :: rest)) from by simp [joinL, optLine, SEP], run_line _ _ _ (by
      intro e
      simp only [optLine, List.mem_append] at e
      rcases e with (e | e | e) | e
      · exact hk.no10 e
      · exact absurd e (by decide)
      · exact hv.no10 e
      · exact absurd e (by decide)), step_first h hk hv]
    simp only [Option.bind_some]
    rw [run_parts _ _ _ _ _ _ (fun x hx => ⟨hp.ok x (List.mem_cons_of_mem _ hx), hp.rest x hx⟩)]
    simp [joinL, optLine]
theorem cutAt_app (a b : List UInt8) (c : UInt8) (h : c ∉ a) : cutAt c (a ++ c :: b) = some (a, b) := by
  induction a with
  | nil => simp [cutAt]
  | cons x a ih =>
    have hx : x ≠ c := fun e => h (by simp [e])
    simp [cutAt, hx, ih (fun e => h (by simp [e]))]
theorem Parts.ends {parts : List (List UInt8)} (hp : Parts parts) : (joinL [32] parts ≠ []) ∧ (joinL [32] parts).head? ≠ some 32 ∧ (joinL [32] parts).getLast? ≠ some 32 ∧ ∀ c ∈ joinL [32] parts, 32 ≤ c.toNat ∧ c.toNat ≤ 126 ∧ c ≠ 35 ∧ c ≠ 59 ∧ c ≠ 92 := by
  match parts, hp with
  | [], hp => exact absurd rfl hp.ne
  | p :: r, hp =>
    have hv := hp.ok p (by simp)
    refine ⟨joinL_ne hv.ne, by rw [joinL_head hv.ne]; exact hv.hd, ?_, fun c hc => ?_⟩
    · obtain ⟨x, hx, e⟩ := joinL_last [32] r p (fun x hx => (hp.ok x hx).ne)
      rw [e]
      exact (hp.ok x hx).tl
    · rcases joinL_mem hc with hc | ⟨x, hx, hc⟩
      · obtain rfl := List.mem_singleton.1 hc
        decide
      · exact (hp.ok x hx).ok c hc
theorem bd_option (sec : ByteArray) (D : Conf) {key v : List UInt8} (hk : Sml key) (h1 : v.head? ≠ some 32) (h2 : v.getLast? ≠ some 32) (hok : ∀ c ∈ v, 32 ≤ c.toNat) : Bd ⟨sec, optLine key v, true, D⟩ sec (addC D sec (B key) (B v)) := by
  refine ⟨?_, fun _ => rfl, rfl⟩
  have h61 : (61 : UInt8) ∉ key ++ [32] := by
    intro e
    rcases List.mem_append.1 e with e | e
    · exact (hk.nat _ e).2.2.2.1 rfl
    · exact absurd e (by decide)
  have hcut : cutAt 61 (optLine key v) = some (key ++ [32], 32 :: v) := by
    rw [show optLine key v = (key ++ [32]) ++ 61 :: (32 :: v) from by simp [optLine]]
    exact cutAt_app _ _ _ h61
  have ht1 : Lib.trimSpace (key ++ [32]) = key := by
    rw [trim_snoc _ _ (by decide)]
    refine trim_same _ (fun c hc => ?_) (fun c hc => ?_)
    · have := hk.nat c (head_mem hc)
      exact not32 (by omega) (by rintro rfl; exact absurd this.1 (by decide))
    · have := hk.nat c (last_mem hc)
      exact not32 (by omega) (by rintro rfl; exact absurd this.1 (by decide))
  have ht2 : Lib.trimSpace (32 :: v) = v := by
    rw [trim_behead _ _ (by decide)]
    exact trim_same _ (fun c hc => not32 (hok c (head_mem hc)) (by rintro rfl; exact h1 hc)) (fun c hc => not32 (hok c (last_mem hc)) (by rintro rfl; exact h2 hc))
  unfold flushP
  simp only []
  rw [if_neg (by unfold optLine; simp [hk.ne]), hcut]
  simp only [Option.map_some, ht1, ht2]
  rfl

/-- a byte of a word -/
def wd (c : UInt8) : Bool := (97 ≤ c && c ≤ 122) || (65 ≤ c && c ≤ 90) || (48 ≤ c && c ≤ 57) || c == 95
/-- a digit -/
def dg (c : UInt8) : Bool := 48 ≤ c && c ≤ 57
/-- the name of a request or a policy -/
def dfn : List UInt8 → Bool
  | [] => false
  | c :: l => (c == 114 || c == 112) && l.all dg
/-- what may stand ahead of such a name -/
def okA (c : UInt8) : Bool := c == 32 || c == 9 || c == 10 || c == 12 || c == 13 || c == 40 || c == 41 || c == 124 || c == 38 || c == 44 || c == 61 || c == 33 || c == 62 || c == 60 || c == 43 || c == 45 || c == 42 || c == 47
/-- each such name with a point behind it stands where it may -/
def apart : List UInt8 → UInt8 → List UInt8 → Bool
  | _, _, [] => true
  | w, a, c :: l => if wd c then apart (w ++ [c]) a l else if c = 46 ∧ dfn w = true ∧ okA a = false then false else apart [] c l
/-- the points behind such names turned -/
def esc : Bool → List UInt8 → List UInt8 → List UInt8
  | _, w, [] => w
  | own, w, c :: l => if wd c then esc own (w ++ [c]) l else if c = 46 then w ++ (if own && dfn w then 95 else 46) :: esc false [] l else w ++ c :: esc true [] l
/-- the word that stands here is such a name with a point behind it -/
def named : List UInt8 → List UInt8 → Bool
  | _, [] => false
  | w, c :: l => if wd c then named (w ++ [c]) l else c == 46 && dfn w

theorem u8_lt (c : UInt8) : (c.toNat : Int) < 256 := by have := c.toNat_lt; omega
theorem wd_int (c : UInt8) : wd c = decide ((97 ≤ (c.toNat : Int) ∧ (c.toNat : Int) ≤ 122) ∨ (65 ≤ (c.toNat : Int) ∧ (c.toNat : Int) ≤ 90) ∨ (48 ≤ (c.toNat : Int) ∧ (c.toNat : Int) ≤ 57) ∨ (c.toNat : Int) = 95) := by
  rw [Bool.eq_iff_iff]
  simp only [wd, Bool.or_eq_true, Bool.and_eq_true, decide_eq_true_eq, beq_iff_eq, UInt8.le_iff_toNat_le, ← UInt8.toNat_inj]
  simp only [show (97 : UInt8).toNat = 97 from rfl, show (122 : UInt8).toNat = 122 from rfl, show (65 : UInt8).toNat = 65 from rfl, show (90 : UInt8).toNat = 90 from rfl, show (48 : UInt8).toNat = 48 from rfl, show (57 : UInt8).toNat = 57 from rfl, show (95 : UInt8).toNat = 95 from rfl]
  omega
theorem dg_int (c : UInt8) : dg c = decide (48 ≤ (c.toNat : Int) ∧ (c.toNat : Int) ≤ 57) := by
  rw [Bool.eq_iff_iff]
  simp only [dg, Bool.and_eq_true, decide_eq_true_eq, UInt8.le_iff_toNat_le]
  simp only [show (48 : UInt8).toNat = 48 from rfl, show (57 : UInt8).toNat = 57 from rfl]
  omega
/-- what may stand ahead, as a number -/
def okI (a : Int) : Prop := a = 32 ∨ a = 9 ∨ a = 10 ∨ a = 12 ∨ a = 13 ∨ a = 40 ∨ a = 41 ∨ a = 124 ∨ a = 38 ∨ a = 44 ∨ a = 61 ∨ a = 33 ∨ a = 62 ∨ a = 60 ∨ a = 43 ∨ a = 45 ∨ a = 42 ∨ a = 47
theorem okA_int (c : UInt8) : okA c = true ↔ okI (c.toNat : Int) := by
  simp only [okA, okI, Bool.or_eq_true, beq_iff_eq, ← UInt8.toNat_inj]
  simp only [show (32 : UInt8).toNat = 32 from rfl, show (9 : UInt8).toNat = 9 from rfl, show (10 : UInt8).toNat = 10 from rfl, show (12 : UInt8).toNat = 12 from rfl, show (13 : UInt8).toNat = 13 from rfl, show (40 : UInt8).toNat = 40 from rfl, show (41 : UInt8).toNat = 41 from rfl, show (124 : UInt8).toNat = 124 from rfl, show (38 : UInt8).toNat = 38 from rfl, show (44 : UInt8).toNat = 44 from rfl, show (61 : UInt8).toNat = 61 from rfl, show (33 : UInt8).toNat = 33 from rfl, show (62 : UInt8).toNat = 62 from rfl, show (60 : UInt8).toNat = 60 from rfl, show (43 : UInt8).toNat = 43 from rfl, show (45 : UInt8).toNat = 45 from rfl, show (42 : UInt8).toNat = 42 from rfl, show (47 : UInt8).toNat = 47 from rfl]
  omega
theorem okA_not_wd {c : UInt8} (h : okA c = true) : wd c = false := by
  have h := (okA_int c).1 h
  unfold okI at h
  rw [wd_int, decide_eq_false_iff_not]
  omega
theorem dg_wd {c : UInt8} (h : dg c = true) : wd c = true := by
  rw [dg_int, decide_eq_true_eq] at h
  rw [wd_int, decide_eq_true_eq]
  omega

theorem dfn_snoc {w : List UInt8} (hw : w ≠ []) (c : UInt8) : dfn (w ++ [c]) = (dfn w && dg c) := by
  cases w with
  | nil => exact absurd rfl hw
  | cons d w => simp [dfn, List.all_append, Bool.and_assoc]
theorem not_named_of_not_dfn (l : List UInt8) : ∀ w : List UInt8, w ≠ [] → dfn w = false → named w l = false := by
  induction l with
  | nil => intro w _ _; rfl
  | cons c l ih =>
    intro w hw hd
    unfold named
    by_cases h : wd c = true
    · rw [if_pos h]
      exact ih _ (by simp) (by rw [dfn_snoc hw, hd]; rfl)
    · rw [if_neg h, hd]
      simp
theorem not_named_of_apart (l : List UInt8) : ∀ (w : List UInt8) (a : UInt8), apart w a l = true → okA a = false → named w l = false := by
  induction l with
  | nil => intro w a _ _; rfl
  | cons c l ih =>
    intro w a h ha
    unfold named
    unfold apart at h
    by_cases hc : wd c = true
    · rw [if_pos hc] at h ⊢
      exact ih _ _ h ha
    · rw [if_neg hc] at h ⊢
      by_cases h2 : c = 46 ∧ dfn w = true ∧ okA a = false
      · rw [if_pos h2] at h; cases h
      · by_cases h3 : c = 46
        · have : dfn w = false := by
            cases hd : dfn w
            · rfl
            · exact absurd ⟨h3, hd, ha⟩ h2
          rw [this]; simp
        · simp [h3]
/-- where such a name stands: its letters, the point, and the rest -/
theorem named_parts (l : List UInt8) : ∀ w : List UInt8, named w l = true → ∃ v t, l = v ++ 46 :: t ∧ dfn (w ++ v) = true ∧ (∀ own, esc own w l = w ++ v ++ (if own then 95 else 46) :: esc false [] t) ∧ (∀ a, apart w a l = true → apart [] 46 t = true) := by
  induction l with
  | nil => intro w h; cases h
  | cons c l ih =>
    intro w h
    unfold named at h
    by_cases hc : wd c = true
    · rw [if_pos hc] at h
      obtain ⟨v, t, e, hd, he, ha⟩ := ih _ h
      refine ⟨c :: v, t, by rw [e]; rfl, by simpa using hd, fun own => ?_, fun a hA => ?_⟩
      · rw [esc, if_pos hc, he own]; simp
      · rw [apart, if_pos hc] at hA
        exact ha a hA
    · rw [if_neg hc] at h
      simp only [Bool.and_eq_true, beq_iff_eq] at h
      obtain ⟨rfl, hd⟩ := h
      refine ⟨[], l, rfl, by simpa using hd, fun own => ?_, fun a hA => ?_⟩
      · rw [esc, if_neg hc, if_pos rfl, hd]; simp
      · rw [apart, if_neg hc] at hA
        by_cases h2 : (46 : UInt8) = 46 ∧ dfn w = true ∧ okA a = false
        · rw [if_pos h2] at hA; cases hA
        · rw [if_neg h2] at hA; exact hA
theorem apart_join (b : List UInt8) (a : List UInt8) : ∀ (w : List UInt8) (h : UInt8), apart w h (a ++ 32 :: b) = (apart w h a && apart [] 32 b) := by
  induction a with
  | nil =>
    intro w h
    show apart w h (32 :: b) = _
    simp [apart, show wd 32 = false from rfl]
  | cons c a ih =>
    intro w h
    show apart w h (c :: (a ++ 32 :: b)) = _
    rw [apart, apart]
    by_cases hc : wd c = true
    · rw [if_pos hc, if_pos hc, ih]
    · rw [if_neg hc, if_neg hc]
      by_cases h2 : c = 46 ∧ dfn w = true ∧ okA h = false
      · rw [if_pos h2, if_pos h2]; rfl
      · rw [if_neg h2, if_neg h2, ih]
theorem esc_join (b : List UInt8) (a : List UInt8) : ∀ (own : Bool) (w : List UInt8), esc own w (a ++ 32 :: b) = esc own w a ++ 32 :: esc true [] b := by
  induction a with
  | nil =>
    intro own w
    show esc own w (32 :: b) = _
    simp [esc, show wd 32 = false from rfl]
  | cons c a ih =>
    intro own w
    show esc own w (c :: (a ++ 32 :: b)) = _
    rw [esc, esc]
    by_cases hc : wd c = true
    · rw [if_pos hc, if_pos hc, ih]
    · rw [if_neg hc, if_neg hc]
      by_cases h2 : c = 46
      · rw [if_pos h2, if_pos h2, ih]; simp
      · rw [if_neg h2, if_neg h2, ih]; simp
theorem esc_len (l : List UInt8) : ∀ (own : Bool) (w : List UInt8), (esc own w l).length = w.length + l.length := by
  induction l with
  | nil => intro own w; simp [esc]
  | cons c l ih =>
    intro own w
    rw [esc]
    by_cases hc : wd c = true
    · rw [if_pos hc, ih]; simp; omega
    · rw [if_neg hc]
      by_cases h2 : c = 46
      · rw [if_pos h2]; simp [ih]
      · rw [if_neg h2]; simp [ih]

theorem zzBefore_f (c : UInt8) : util_zzBefore.f (c.toNat : Int) = some (okA c) := by
  have h := okA_int c
  unfold okI at h
  generalize (c.toNat : Int) = x at h
  unfold util_zzBefore.f
  cases ho : okA c with
  | true =>
    have h := h.1 ho
    rcases h with h | h | h | h | h | h | h | h | h | h | h | h | h | h | h | h | h | h <;> (subst h; rfl)
  | false =>
    have h : ¬ _ := fun e => by rw [h.2 e] at ho; cases ho
    repeat rw [if_neg (by omega)]
/-- the digits and the point behind a name's first letter -/
theorem zzName_loop (l : List UInt8) : ∀ (p w : List UInt8), dfn w = true → p.length + l.length ≤ 140737488351232 * 8 →
    Ev (fun k => util_zzName.l0 k (B (p ++ l)) (p.length : Int)) (if named w l then (p.length : Int) + (l.takeWhile wd).length + 1 else -1) := by
  induction l with
  | nil =>
    intro p w _ _
    refine Ev.step (fun _ => util_zzName.l0.eq_2 _ _ _) (Ev.neg (by rw [B_size]; simp) ?_)
    exact Ev.now _
  | cons c l ih =>
    intro p w hw hp
    simp only [List.length_cons] at hp
    have hw0 : w ≠ [] := by rintro rfl; cases hw
    refine Ev.step (fun _ => util_zzName.l0.eq_2 _ _ _) (Ev.pos (by rw [B_size]; simp <;> omega) (Ev.pos (by omega) ?_))
    rw [bt_mid p l c _ rfl, w64 (by omega) (by omega)]
    have hrest : dg c = false → Ev (fun _ => if (c.toNat : Int) = 46 then some ((p.length : Int) + 1) else some (-1)) (if named w (c :: l) then (p.length : Int) + ((c :: l).takeWhile wd).length + 1 else -1) := by
      intro hd
      by_cases h46 : c = 46
      · subst h46
        refine Ev.pos rfl ?_
        have hn : named w (46 :: l) = true := by rw [named, if_neg (by decide), hw]; rfl
        rw [if_pos hn, List.takeWhile_cons_of_neg (by decide)]
        refine Ev.eqr ?_ (Ev.now _)
        simp
      · refine Ev.neg (fun e => h46 ((byte_eq c 46 (by omega)).1 e)) ?_
        have : named w (c :: l) = false := by
          rw [named]
          by_cases hc : wd c = true
          · rw [if_pos hc]
            exact not_named_of_not_dfn l _ (by simp) (by rw [dfn_snoc hw0, hd, Bool.and_false])
          · rw [if_neg hc]; simp [h46]
        rw [this]
        exact Ev.now _
    by_cases h48 : (c.toNat : Int) ≥ 48
    · refine Ev.pos h48 ?_
      by_cases h57 : (c.toNat : Int) ≤ 57
      · refine Ev.pos h57 ?_
        have hd : dg c = true := by rw [dg_int, decide_eq_true_eq]; omega
        have hc := dg_wd hd
        have := ih (p ++ [c]) (w ++ [c]) (by rw [dfn_snoc hw0, hw, hd]; rfl) (by simp <;> omega)
        rw [named, if_pos hc, List.takeWhile_cons_of_pos hc]
        simp only [List.append_assoc, List.cons_append, List.nil_append, List.length_append, List.length_cons, List.length_nil] at this ⊢
        refine Ev.eqr ?_ this
        split
        · omega
        · rfl
      · exact Ev.neg h57 (hrest (by rw [dg_int, decide_eq_false_iff_not]; omega))
    · exact Ev.neg h48 (hrest (by rw [dg_int, decide_eq_false_iff_not]; omega))
theorem zzName_f (p l : List UInt8) (hp : p.length + l.length ≤ 140737488351232 * 8) :
    Ev (fun k => util_zzName.f k (B (p ++ l)) (p.length : Int)) (if named [] l then (p.length : Int) + (l.takeWhile wd).length + 1 else -1) := by
  cases l with
  | nil =>
    refine Ev.pos (by rw [B_size]; simp) (Ev.step (fun _ => util_zzName.j0.eq_2 _ _ _ _) (Ev.pos rfl ?_))
    exact Ev.now _
  | cons c l =>
    simp only [List.length_cons] at hp
    refine Ev.neg (by rw [B_size]; simp <;> omega) (Ev.pos (by omega) (Ev.pos (by rw [B_size]; simp <;> omega) ?_))
    rw [bt_mid p l c _ rfl]
    have hgo : dfn [c] = true → Ev (fun k => util_zzName.j0 k (B (p ++ c :: l)) (p.length : Int) false) (if named [] (c :: l) then (p.length : Int) + ((c :: l).takeWhile wd).length + 1 else -1) := by
      intro hd
      have hc : wd c = true := by
        simp only [dfn, List.all_nil, Bool.and_true, Bool.or_eq_true, beq_iff_eq] at hd
        rcases hd with rfl | rfl <;> rfl
      refine Ev.step (fun _ => util_zzName.j0.eq_2 _ _ _ _) (Ev.neg (by simp) ?_)
      rw [w64 (by omega) (by omega)]
      have := zzName_loop l (p ++ [c]) [c] hd (by simp <;> omega)
      rw [named, if_pos hc, List.takeWhile_cons_of_pos hc]
      simp only [List.append_assoc, List.cons_append, List.nil_append, List.length_append, List.length_cons, List.length_nil] at this ⊢
      refine Ev.eqr ?_ this
      split
      · omega
      · rfl
    by_cases h1 : c = 114
    · subst h1
      exact Ev.pos rfl (hgo rfl)
    · refine Ev.neg (fun e => h1 ((byte_eq c 114 (by omega)).1 e)) ?_
      by_cases h2 : c = 112
      · subst h2
        exact hgo rfl
      · have hn : named [] (c :: l) = false := by
          rw [named]
          by_cases hc : wd c = true
          · rw [if_pos hc]
            exact not_named_of_not_dfn l _ (by simp) (by simp [dfn, h1, h2])
          · rw [if_neg hc]; simp [dfn]
        have hb : ((c.toNat : Int) != 112) = true := by
          rw [bne_iff_ne]
          exact fun e => h2 ((byte_eq c 112 (by omega)).1 e)
        rw [hn, hb]
        refine Ev.step (fun _ => util_zzName.j0.eq_2 _ _ _ _) (Ev.pos rfl ?_)
        exact Ev.now _

theorem take_word {v t : List UInt8} (h : ∀ c, c ∈ v → wd c = true) : (v ++ 46 :: t).takeWhile wd = v := by
  induction v with
  | nil => rfl
  | cons c v ih => rw [List.cons_append, List.takeWhile_cons_of_pos (h c (by simp)), ih (fun d hd => h d (by simp [hd]))]
theorem dfn_word {v : List UInt8} (h : dfn v = true) : ∀ c, c ∈ v → wd c = true := by
  cases v with
  | nil => cases h
  | cons d v =>
    simp only [dfn, Bool.and_eq_true, Bool.or_eq_true, beq_iff_eq, List.all_eq_true] at h
    intro c hc
    rcases List.mem_cons.1 hc with rfl | hc
    · rcases h.1 with h | h <;> (rw [h]; rfl)
    · exact dg_wd (h.2 c hc)

/-- the copying step -/
theorem zz_copy (p l out : List UInt8) (c : UInt8) (x5 x6 : Int) (b : Bool) (R : List UInt8) (hx : x6 < 0) (hb : b = true → named [] (c :: l) = false ∧ p = [])
    (hp : p.length + l.length + 1 ≤ 140737488351232 * 8) (ho : out.length ≤ 140737488351232 * 8)
    (h : Ev (fun k => util_zzEscape.l0 k (B (p ++ c :: l)) (B (out ++ [c])) ((p.length : Int) + 1)) (B R)) :
    Ev (fun k => util_zzEscape.j2 k (B (p ++ c :: l)) (B out) (p.length : Int) x5 x6 b) (B R) := by
  have hx1 : wrap64 ((p.length : Int) + 1) = (p.length : Int) + 1 := w64 (by omega) (by omega)
  have hcopy : Ev (fun k => if 0 ≤ (p.length : Int) then (if (p.length : Int) ≤ (wrap64 ((p.length : Int) + 1)) then (if (wrap64 ((p.length : Int) + 1)) ≤ ((B (p ++ c :: l)).size : Int) then (if (B out).size + ((B (p ++ c :: l)).extract ((p.length : Int) : Int).toNat ((wrap64 ((p.length : Int) + 1)) : Int).toNat).size ≤ 9223372036854775807 then (util_zzEscape.l0 k (B (p ++ c :: l)) ((B out) ++ ((B (p ++ c :: l)).extract ((p.length : Int) : Int).toNat ((wrap64 ((p.length : Int) + 1)) : Int).toNat)) (wrap64 ((p.length : Int) + 1))) else (none)) else (none)) else (none)) else (none)) (B R) := by
    rw [hx1, ext_mid p l c _ _ (by omega) (by omega), B_app]
    exact Ev.pos (by omega) (Ev.pos (by omega) (Ev.pos (by rw [B_size]; simp <;> omega) (Ev.pos (by rw [B_size, B_size]; simp <;> omega) h)))
  refine Ev.step (fun _ => util_zzEscape.j2.eq_2 _ _ _ _ _ _ _) ?_
  cases b with
  | false => exact Ev.neg (by simp) (Ev.pos hx hcopy)
  | true =>
    obtain ⟨hn, rfl⟩ := hb rfl
    refine Ev.pos rfl ?_
    have := zzName_f [] (c :: l) (by simp at hp ⊢; omega)
    rw [hn] at this
    refine Ev.bind this (Ev.pos (by simp) ?_)
    exact hcopy
/-- the step over a name -/
theorem zz_jump (p v t out pre : List UInt8) (x6 : Int) (R : List UInt8) (hx : x6 = (p.length : Int) + pre.length + v.length + 1)
    (hp : p.length + pre.length + v.length + t.length + 1 ≤ 140737488351232 * 8) (ho : out.length ≤ 140737488351232 * 8)
    (h : Ev (fun k => util_zzEscape.l0 k (B (p ++ (pre ++ (v ++ 46 :: t)))) (B (out ++ (pre ++ v ++ [95]))) x6) (B R)) :
    Ev (fun k => if 0 ≤ (p.length : Int) then (if (p.length : Int) ≤ (wrap64 (x6 - 1)) then (if (wrap64 (x6 - 1)) ≤ ((B (p ++ (pre ++ (v ++ 46 :: t)))).size : Int) then (if ((B (p ++ (pre ++ (v ++ 46 :: t)))).extract ((p.length : Int) : Int).toNat ((wrap64 (x6 - 1)) : Int).toNat).size + 1 ≤ 9223372036854775807 then (if (B out).size + (((B (p ++ (pre ++ (v ++ 46 :: t)))).extract ((p.length : Int) : Int).toNat ((wrap64 (x6 - 1)) : Int).toNat) ++ (⟨#[95]⟩ : ByteArray)).size ≤ 9223372036854775807 then (util_zzEscape.l0 k (B (p ++ (pre ++ (v ++ 46 :: t)))) ((B out) ++ (((B (p ++ (pre ++ (v ++ 46 :: t)))).extract ((p.length : Int) : Int).toNat ((wrap64 (x6 - 1)) : Int).toNat) ++ (⟨#[95]⟩ : ByteArray))) x6) else (none)) else (none)) else (none)) else (none)) else (none)) (B R) := by
  have hw : wrap64 (x6 - 1) = (p.length : Int) + pre.length + v.length := by rw [w64 (by omega) (by omega)]; omega
  have he : (B (p ++ (pre ++ (v ++ 46 :: t)))).extract ((p.length : Int) : Int).toNat ((p.length : Int) + pre.length + v.length).toNat = B (pre ++ v) := by
    rw [B_ext]
    congr 1
    rw [show ((p.length : Int)).toNat = p.length from by omega, List.drop_left, show ((p.length : Int) + pre.length + v.length).toNat - p.length = (pre ++ v).length from by simp; omega, ← List.append_assoc, List.take_left]
  rw [hw, he, show (⟨#[95]⟩ : ByteArray) = B [95] from rfl, B_app, B_app]
  simp only [B_size, List.length_append, List.length_cons, List.length_nil]
  exact Ev.pos (by omega) (Ev.pos (by omega) (Ev.pos (by omega) (Ev.pos (by omega) (Ev.pos (by omega) h))))

/-- the loop, from a place on at which no name is open to be turned -/
theorem zz_loop (n : Nat) : ∀ (l p o w : List UInt8) (a : UInt8) (own : Bool), l.length ≤ n → p ≠ [] → apart w a l = true → named w l = false →
    p.length + l.length ≤ 140737488351232 → o.length + w.length ≤ p.length →
    Ev (fun k => util_zzEscape.l0 k (B (p ++ l)) (B (o ++ w)) (p.length : Int)) (B (o ++ esc own w l)) := by
  induction n with
  | zero =>
    intro l p o w a own hn hp0 hA hN hp ho
    obtain rfl := List.length_eq_zero_iff.1 (Nat.le_zero.1 hn)
    refine Ev.step (fun _ => util_zzEscape.l0.eq_2 _ _ _ _) (Ev.neg (by rw [B_size]; simp) (Ev.now _))
  | succ n ih =>
    intro l p o w a own hn hp0 hA hN hp ho
    cases l with
    | nil => exact Ev.step (fun _ => util_zzEscape.l0.eq_2 _ _ _ _) (Ev.neg (by rw [B_size]; simp) (Ev.now _))
    | cons c l =>
      simp only [List.length_cons] at hn hp
      have hp1 : 1 ≤ p.length := by cases p with
        | nil => exact absurd rfl hp0
        | cons _ _ => simp
      refine Ev.step (fun _ => util_zzEscape.l0.eq_2 _ _ _ _) (Ev.pos (by rw [B_size]; simp <;> omega) (Ev.pos (by omega) ?_))
      rw [bt_mid p l c _ rfl, w64 (by omega) (by omega)]
      refine Ev.bind (Ev.const (zzBefore_f c)) ?_
      have hcopy : ∀ (w' : List UInt8) (a' : UInt8) (own' : Bool) (o' : List UInt8), o' ++ w' = (o ++ w) ++ [c] → apart w' a' l = true → named w' l = false → o' ++ esc own' w' l = o ++ esc own w (c :: l) →
          Ev (fun k => util_zzEscape.j1 k (B (p ++ c :: l)) (B (o ++ w)) (p.length : Int) (p.length : Int) (-1)) (B (o ++ esc own w (c :: l))) := by
        intro w' a' own' o' e1 e2 e3 e4
        refine Ev.step (fun _ => util_zzEscape.j1.eq_2 _ _ _ _ _ _) (Ev.pos (by omega) ?_)
        refine zz_copy p l (o ++ w) c _ _ _ _ (by omega) (fun e => ?_) (by omega) (by simp <;> omega) ?_
        · rw [beq_iff_eq] at e; omega
        · have hle : o'.length + w'.length = o.length + w.length + 1 := by have := congrArg List.length e1; simp at this; omega
          have := ih l (p ++ [c]) o' w' a' own' (by omega) (by simp) e2 e3 (by simp <;> omega) (by simp <;> omega)
          rw [e1, e4] at this
          simpa using this
      unfold apart at hA
      unfold named at hN
      by_cases hc : wd c = true
      · rw [if_pos hc] at hA hN
        have hk : okA c = false := by
          cases h : okA c
          · rfl
          · rw [okA_not_wd h] at hc; cases hc
        rw [hk]
        exact Ev.neg (by simp) (hcopy (w ++ [c]) a own o (by simp) hA hN (by rw [esc, if_pos hc]))
      · rw [if_neg hc] at hA hN
        by_cases h46 : c = 46
        · subst h46
          have hd : dfn w = false := by simpa using hN
          rw [if_neg (by rw [hd]; simp)] at hA
          rw [show okA 46 = false from rfl]
          exact Ev.neg (by simp) (hcopy [] 46 false (o ++ w ++ [46]) (by simp) hA (not_named_of_apart l [] 46 hA rfl) (by rw [esc, if_neg hc, if_pos rfl, hd]; simp))
        · rw [if_neg (fun e => h46 e.1)] at hA
          have e4 : (o ++ w ++ [c]) ++ esc true [] l = o ++ esc own w (c :: l) := by rw [esc, if_neg hc, if_neg h46]; simp
          cases hk : okA c with
          | false => exact Ev.neg (by simp) (hcopy [] c true (o ++ w ++ [c]) (by simp) hA (not_named_of_apart l [] c hA hk) e4)
          | true =>
            refine Ev.pos rfl ?_
            have hz := zzName_f (p ++ [c]) l (by simp <;> omega)
            simp only [List.append_assoc, List.cons_append, List.nil_append, List.length_append, List.length_cons, List.length_nil] at hz
            refine Ev.bind hz ?_
            cases hm : named [] l with
            | false => exact hcopy [] c true (o ++ w ++ [c]) (by simp) hA hm e4
            | true =>
              obtain ⟨v, t, rfl, hd, he, ha⟩ := named_parts l [] hm
              simp only [List.nil_append] at hd he
              rw [take_word (dfn_word hd)]
              simp only [List.length_append, List.length_cons] at hn hp
              have e5 : o ++ esc own w (c :: (v ++ 46 :: t)) = (o ++ w ++ c :: v ++ [95]) ++ esc false [] t := by rw [← e4, he true]; simp
              refine Ev.step (fun _ => util_zzEscape.j1.eq_2 _ _ _ _ _ _) (Ev.neg (by rw [if_pos rfl] <;> omega) ?_)
              refine Ev.step (fun _ => util_zzEscape.j2.eq_2 _ _ _ _ _ _ _) (Ev.neg (by simp) (Ev.neg (by rw [if_pos rfl] <;> omega) ?_))
              refine zz_jump p v t (o ++ w) [c] _ _ (by rw [if_pos rfl]; simp <;> omega) (by simp <;> omega) (by simp <;> omega) ?_
              rw [e5, if_pos rfl]
              have := ih t (p ++ c :: (v ++ [46])) (o ++ w ++ c :: v ++ [95]) [] 46 false (by omega) (by simp) (ha c hA) (not_named_of_apart t [] 46 (ha c hA) rfl) (by simp <;> omega) (by simp <;> omega)
              simp only [List.append_assoc, List.cons_append, List.nil_append, List.length_append, List.length_cons, List.length_nil, List.append_nil] at this ⊢
              refine Ev.congr (fun k => ?_) this
              congr 1
              omega

theorem EscapeAssertion_f (s : List UInt8) (hA : apart [] 32 s = true) (hs : s.length ≤ 140737488351232) :
    Ev (fun k => util_EscapeAssertion.f k (B s)) (B (esc true [] s)) := by
  refine Ev.bind (a := B (esc true [] s)) ?_ (Ev.now _)
  show Ev (fun k => util_zzEscape.l0 k (B s) (B []) 0) _
  cases s with
  | nil => exact Ev.step (fun _ => util_zzEscape.l0.eq_2 _ _ _ _) (Ev.neg (by rw [B_size]; simp) (Ev.now _))
  | cons c l =>
    simp only [List.length_cons] at hs
    refine Ev.step (fun _ => util_zzEscape.l0.eq_2 _ _ _ _) (Ev.pos (by rw [B_size]; simp <;> omega) (Ev.pos (by omega) ?_))
    have hbt : bt (B (c :: l)) 0 = (c.toNat : Int) := bt_mid [] l c 0 rfl
    rw [hbt, show wrap64 (0 + 1) = 1 from w64 (by omega) (by omega)]
    refine Ev.bind (Ev.const (zzBefore_f c)) ?_
    have hcopy : ∀ (w' : List UInt8) (a' : UInt8) (own' : Bool) (o' : List UInt8) (b : Bool), o' ++ w' = [c] → apart w' a' l = true → named w' l = false → named [] (c :: l) = false → o' ++ esc own' w' l = esc true [] (c :: l) →
        Ev (fun k => util_zzEscape.j2 k (B (c :: l)) (B []) 0 0 (-1) b) (B (esc true [] (c :: l))) := by
      intro w' a' own' o' b e1 e2 e3 e5 e4
      have hle : o'.length + w'.length = 1 := by have := congrArg List.length e1; simpa using this
      have := zz_loop l.length l [c] o' w' a' own' (Nat.le_refl _) (by simp) e2 e3 (by simp <;> omega) (by simp <;> omega)
      rw [e1, e4] at this
      exact zz_copy [] l [] c 0 (-1) b _ (by omega) (fun _ => ⟨e5, rfl⟩) (by simp <;> omega) (by simp) this
    have hj1 : Ev (fun k => util_zzEscape.j2 k (B (c :: l)) (B []) 0 0 (-1) true) (B (esc true [] (c :: l))) →
        Ev (fun k => util_zzEscape.j1 k (B (c :: l)) (B []) 0 0 (-1)) (B (esc true [] (c :: l))) :=
      fun h => Ev.step (fun _ => util_zzEscape.j1.eq_2 _ _ _ _ _ _) (Ev.pos (by omega) h)
    cases hm : named [] (c :: l) with
    | true =>
      obtain ⟨v, t, e, hd, he, ha⟩ := named_parts (c :: l) [] hm
      have hk : okA c = false := by
        cases h : okA c
        · rfl
        · exfalso
          have hw := okA_not_wd h
          rw [named, hw] at hm
          simp [dfn] at hm
      rw [hk]
      refine Ev.neg (by simp) (hj1 ?_)
      simp only [List.nil_append] at hd
      have he1 := he true
      simp only [List.nil_append, if_true] at he1
      have hz := zzName_f [] (c :: l) (by simp <;> omega)
      rw [hm, if_pos rfl, e, take_word (dfn_word hd)] at hz
      have hlen : v.length + t.length = l.length := by have := congrArg List.length e; simp at this; omega
      rw [he1, e]
      refine Ev.step (fun _ => util_zzEscape.j2.eq_2 _ _ _ _ _ _ _) (Ev.pos rfl ?_)
      refine Ev.bind hz (Ev.neg (by simp <;> omega) ?_)
      refine zz_jump [] v t [] [] _ _ (by simp) (by simp <;> omega) (by simp) ?_
      have hA' := ha 32 hA
      have := zz_loop t.length t (v ++ [46]) (v ++ [95]) [] 46 false (Nat.le_refl _) (by simp) hA' (not_named_of_apart t [] 46 hA' rfl) (by simp <;> omega) (by simp)
      simp only [List.append_assoc, List.cons_append, List.nil_append, List.length_append, List.length_cons, List.length_nil, List.append_nil] at this ⊢
      refine Ev.congr (fun k => ?_) this
      congr 1
      simp
    | false =>
      unfold apart at hA
      have hm' := hm
      unfold named at hm'
      by_cases hc : wd c = true
      · rw [if_pos hc] at hA hm'
        have hk : okA c = false := by
          cases h : okA c
          · rfl
          · rw [okA_not_wd h] at hc; cases hc
        rw [hk]
        exact Ev.neg (by simp) (hj1 (hcopy [c] 32 true [] true rfl hA hm' hm (by rw [esc, if_pos hc]; rfl)))
      · rw [if_neg hc] at hA
        rw [if_neg (by intro e; simp [dfn] at e)] at hA
        by_cases h46 : c = 46
        · subst h46
          rw [show okA 46 = false from rfl]
          exact Ev.neg (by simp) (hj1 (hcopy [] 46 false [46] true rfl hA (not_named_of_apart l [] 46 hA rfl) hm (by rw [esc, if_neg hc, if_pos rfl]; simp [dfn])))
        · have e4 : [c] ++ esc true [] l = esc true [] (c :: l) := by rw [esc, if_neg hc, if_neg h46]; rfl
          cases hk : okA c with
          | false => exact Ev.neg (by simp) (hj1 (hcopy [] c true [c] true rfl hA (not_named_of_apart l [] c hA hk) hm e4))
          | true =>
            refine Ev.pos rfl ?_
            have hz := zzName_f [c] l (by simp <;> omega)
            simp only [List.cons_append, List.nil_append, List.length_cons, List.length_nil] at hz
            refine Ev.bind hz ?_
            cases hl : named [] l with
            | false => exact hj1 (hcopy [] c true [c] true rfl hA hl hm e4)
            | true =>
              obtain ⟨v, t, rfl, hd, he, ha⟩ := named_parts l [] hl
              simp only [List.nil_append] at hd he
              rw [take_word (dfn_word hd), if_pos rfl]
              simp only [List.length_append, List.length_cons] at hs
              refine Ev.step (fun _ => util_zzEscape.j1.eq_2 _ _ _ _ _ _) (Ev.neg (by omega) ?_)
              refine Ev.step (fun _ => util_zzEscape.j2.eq_2 _ _ _ _ _ _ _) (Ev.neg (by simp) (Ev.neg (by omega) ?_))
              refine zz_jump [] v t [] [c] _ _ (by simp <;> omega) (by simp <;> omega) (by simp) ?_
              have hA' := ha c hA
              have := zz_loop t.length t (c :: (v ++ [46])) (c :: v ++ [95]) [] 46 false (Nat.le_refl _) (by simp) hA' (not_named_of_apart t [] 46 hA' rfl) (by simp <;> omega) (by simp)
              rw [← e4, he true]
              simp only [List.append_assoc, List.cons_append, List.nil_append, List.length_append, List.length_cons, List.length_nil, List.append_nil] at this ⊢
              refine Ev.congr (fun k => ?_) this
              congr 1
              simp <;> omega

/-- a text as it is written: the bytes of the rest; the quote, 0: none -/
def dbl : List UInt8 → Int → List UInt8
  | [], _ => []
  | c :: t, q => if q = 0 then (if c = 39 ∨ c = 34 then c :: dbl t (c.toNat : Int) else c :: dbl t 0)
    else if (c.toNat : Int) = q then c :: dbl t 0 else if c = 92 then 92 :: c :: dbl t q else c :: dbl t q
theorem enc_one (c : UInt8) (h : c.toNat ≤ 127) : Lib.encodeRune (c.toNat : Int) = [c] := by
  unfold Lib.encodeRune
  rw [Lib.encodeRuneZ_one (by omega) (by omega)]
  simp
theorem lit_loop (t : List UInt8) : ∀ (p l : List UInt8) (s : Bool) (q : Int), p.length + t.length ≤ 300 → l.length ≤ 2 * p.length → (∀ c ∈ t, c.toNat ≤ 126) → (s = true → q = 39 ∨ q = 34) →
    Ev (fun k => lit k (B (p ++ t)) l (p.length : Int) s q) (B (l ++ dbl t (if s = true then q else 0))) := by
  induction t with
  | nil =>
    intro p l s q _ _ _ _
    refine Ev.step (fun _ => lit.eq_2 _ _ _ _ _ _) (Ev.neg (by rw [B_size]; simp) ?_)
    simp only [dbl, List.append_nil]
    exact Ev.now _
  | cons c t ih =>
    intro p l s q hp hl hc hs
    simp only [List.length_cons] at hp
    have h1 := hc c (List.mem_cons_self ..)
    have hc' : ∀ x ∈ t, x.toNat ≤ 126 := fun x hx => hc x (List.mem_cons_of_mem _ hx)
    have e1 := enc_one c (by omega)
    have e92 : Lib.encodeRune 92 = [92] := enc_one 92 (by decide)
    have nx : ∀ (l' : List UInt8) (s' : Bool) (q' : Int), l'.length ≤ l.length + 2 → (s' = true → q' = 39 ∨ q' = 34) → Ev (fun k => lit k (B (p ++ c :: t)) l' ((p.length : Int) + 1) s' q') (B (l' ++ dbl t (if s' = true then q' else 0))) := by
      intro l' s' q' hl' hs'
      have := ih (p ++ [c]) l' s' q' (by simp <;> omega) (by simp <;> omega) hc' hs'
      simpa using this
    refine Ev.step (fun _ => lit.eq_2 _ _ _ _ _ _) (Ev.pos (by rw [B_size]; simp <;> omega) (Ev.pos (by omega) (Ev.pos (by omega) ?_)))
    rw [bt_mid p t c _ rfl, e1, e92, w64 (by omega) (by omega)]
    have b92 : (c.toNat : Int) = 92 ↔ c = 92 := byte_eq c 92 (by decide)
    have b39 : (c.toNat : Int) = 39 ↔ c = 39 := byte_eq c 39 (by decide)
    have b34 : (c.toNat : Int) = 34 ↔ c = 34 := byte_eq c 34 (by decide)
    cases s with
    | true =>
      have hq := hs rfl
      have q0 : ¬ q = 0 := by omega
      refine Ev.pos rfl ?_
      simp only [if_true, dbl, if_neg q0]
      by_cases z : (c.toNat : Int) = 92
      · have zc : c = 92 := b92.1 z
        have := nx ((l ++ [c]) ++ [92]) true q (by simp) (fun _ => hq)
        refine Ev.pos z (Ev.eqr ?_ this)
        rw [if_neg (by omega : ¬ (c.toNat : Int) = q), if_pos zc, zc]
        simp
      · refine Ev.neg z ?_
        by_cases y : (c.toNat : Int) = q
        · have := nx (l ++ [c]) false q (by simp) (by simp)
          refine Ev.pos y (Ev.eqr ?_ this)
          rw [if_pos y]; simp
        · have := nx (l ++ [c]) true q (by simp) (fun _ => hq)
          refine Ev.neg y (Ev.eqr ?_ this)
          rw [if_neg y, if_neg (fun x => z (b92.2 x))]; simp
    | false =>
      refine Ev.neg (by simp) ?_
      simp only [dbl, if_true, Bool.false_eq_true, if_false]
      by_cases z : (c.toNat : Int) = 39
      · have := nx (l ++ [c]) true (c.toNat : Int) (by simp) (fun _ => .inl z)
        refine Ev.pos z (Ev.eqr ?_ this)
        rw [if_pos (Or.inl (b39.1 z))]; simp
      · refine Ev.neg z ?_
        by_cases y : (c.toNat : Int) = 34
        · have := nx (l ++ [c]) true (c.toNat : Int) (by simp) (fun _ => .inr y)
          refine Ev.pos y (Ev.eqr ?_ this)
          rw [if_pos (Or.inr (b34.1 y))]; simp
        · have := nx (l ++ [c]) false q (by simp) (by simp)
          refine Ev.neg y (Ev.eqr ?_ this)
          rw [if_neg (fun x : c = 39 ∨ c = 34 => x.elim (fun x => z (b39.2 x)) (fun x => y (b34.2 x)))]; simp

/-! ### What is kept of a value -/
theorem esc_mem (l : List UInt8) : ∀ (own : Bool) (w : List UInt8) (c : UInt8), c ∈ esc own w l → c ∈ w ∨ c ∈ l ∨ c = 95 ∨ c = 46 := by
  induction l with
  | nil => intro own w c h; simp only [esc] at h; exact .inl h
  | cons b l ih =>
    intro own w c h
    unfold esc at h
    have tl : ∀ own2, (c ∈ w ∨ c = b ∨ c = 95 ∨ c = 46) ∨ c ∈ esc own2 [] l → c ∈ w ∨ c ∈ b :: l ∨ c = 95 ∨ c = 46 := by
      rintro own2 ((h | rfl | h) | h)
      · exact .inl h
      · exact .inr (.inl (List.mem_cons_self ..))
      · exact .inr (.inr h)
      · rcases ih _ _ _ h with h | h | h
        · cases h
        · exact .inr (.inl (List.mem_cons_of_mem _ h))
        · exact .inr (.inr h)
    split at h
    · rcases ih _ _ _ h with h | h | h
      · rcases List.mem_append.1 h with h | h
        · exact .inl h
        · exact .inr (.inl (by rw [List.mem_singleton.1 h]; exact List.mem_cons_self ..))
      · exact .inr (.inl (List.mem_cons_of_mem _ h))
      · exact .inr (.inr h)
    · split at h
      · rcases List.mem_append.1 h with h | h
        · exact .inl h
        · rcases List.mem_cons.1 h with h | h
          · refine tl false (.inl (.inr (.inr ?_)))
            split at h
            · exact .inl h
            · exact .inr h
          · exact tl false (.inr h)
      · rcases List.mem_append.1 h with h | h
        · exact .inl h
        · rcases List.mem_cons.1 h with h | h
          · exact tl true (.inl (.inr (.inl h)))
          · exact tl true (.inr h)
theorem dbl_same : ∀ (l : List UInt8) (q : Int), 92 ∉ l → dbl l q = l
  | [], _, _ => rfl
  | c :: t, q, h => by
    have hc : ¬ c = 92 := fun e => h (by simp [e])
    have ht : (92 : UInt8) ∉ t := fun e => h (List.mem_cons_of_mem _ e)
    unfold dbl
    repeat' split
    all_goals first
      | contradiction
      | rw [dbl_same t _ ht]
theorem zzIndex_some (p : List UInt8) (hp : p.length ≤ 100) : ∀ (n : Nat) (s : List UInt8) (i : Nat), s.length ≤ 1000 → i + n = s.length + 1 → ∃ r, Ev (fun k => model_zzIndex.l0 k (B s) (B p) (i : Int)) r
  | 0, s, i, hs, hi => ⟨-1, Ev.step (fun _ => model_zzIndex.l0.eq_2 _ _ _ _) (Ev.neg (by rw [B_size, B_size, w64 (by omega) (by omega)]; omega) (Ev.now _))⟩
  | n + 1, s, i, hs, hi => by
    obtain ⟨r, hr⟩ := zzIndex_some p hp n s (i + 1) hs (by omega)
    by_cases h : i + p.length ≤ s.length
    · by_cases he : (B s |>.extract (i : Int).toNat (wrap64 ((i : Int) + ((B p).size : Int))).toNat).toList = (B p).toList
      · exact ⟨_, Ev.step (fun _ => model_zzIndex.l0.eq_2 _ _ _ _) (Ev.pos (by rw [B_size, B_size, w64 (by omega) (by omega)]; omega) (Ev.pos (by omega) (Ev.pos (by rw [B_size, w64 (by omega) (by omega)]; omega) (Ev.pos he (Ev.now _)))))⟩
      · refine ⟨r, Ev.step (fun _ => model_zzIndex.l0.eq_2 _ _ _ _) (Ev.pos (by rw [B_size, B_size, w64 (by omega) (by omega)]; omega) (Ev.pos (by omega) (Ev.pos (by rw [B_size, w64 (by omega) (by omega)]; omega) (Ev.neg he ?_))))⟩
        rw [w64 (by omega) (by omega)]
        simpa using hr
    · exact ⟨-1, Ev.step (fun _ => model_zzIndex.l0.eq_2 _ _ _ _) (Ev.neg (by rw [B_size, B_size, w64 (by omega) (by omega)]; omega) (Ev.now _))⟩
theorem zzContains_some (s p : List UInt8) (hp : p.length ≤ 100) (hs : s.length ≤ 1000) : ∃ b, Ev (fun k => model_zzContains.f k (B s) (B p)) b := by
  obtain ⟨r, hr⟩ := zzIndex_some p hp (s.length + 1) s 0 hs (by omega)
  exact ⟨_, Ev.bind hr (Ev.now _)⟩
theorem zzReplace_same (c d : UInt8) (q : List UInt8) : ∀ p : List UInt8, (p ++ q).length ≤ 1000 → c ∉ q → Ev (fun k => model_zzReplace.l0 k (B (p ++ q)) (B [c]) (B [d]) (B p) (p.length : Int)) (B (p ++ q)) := by
  induction q with
  | nil =>
    intro p _ _
    rw [List.append_nil]
    exact Ev.step (fun _ => model_zzReplace.l0.eq_2 _ _ _ _ _ _) (Ev.neg (by rw [B_size]; omega) (Ev.now _))
  | cons b q ih =>
    intro p hp hc
    have hbc : ¬ b = c := fun e => hc (by simp [e])
    have := ih (p ++ [b]) (by simpa using hp) (fun e => hc (List.mem_cons_of_mem _ e))
    rw [show (p ++ [b]) ++ q = p ++ b :: q from by simp, show (((p ++ [b]).length : Nat) : Int) = (p.length : Int) + 1 from by simp] at this
    simp only [List.length_append, List.length_cons] at hp
    have hw : wrap64 ((p.length : Int) + ((B [c]).size : Int)) = (p.length : Int) + 1 := by rw [B_size]; exact w64 (by omega) (by simp; omega)
    have hw2 : wrap64 ((p.length : Int) + 1) = (p.length : Int) + 1 := w64 (by omega) (by omega)
    refine Ev.step (fun _ => model_zzReplace.l0.eq_2 _ _ _ _ _ _) (Ev.pos (by rw [B_size]; simp; omega) ?_)
    rw [hw, hw2, ext_mid p q b _ _ (by omega) (by omega), B_app]
    refine Ev.pos (by rw [B_size]; simp; omega) (Ev.pos (by omega) (Ev.pos (by omega) (Ev.neg ?_ (Ev.pos (by omega) (Ev.pos (by rw [B_size]; simp; omega) (Ev.pos (by rw [B_size, B_size]; simp; omega) this))))))
    rw [B_toList, B_toList]
    simpa using hbc
/-- what is meant by a value -/
def meansB (sec v : ByteArray) : ByteArray := if sec = ⟨#[101]⟩ ∨ sec = ⟨#[109]⟩ then B (esc true [] v.data.toList) else v
theorem Val.esc {v : List UInt8} (h : Val v) : (esc true [] v).length ≤ 80 ∧ ∀ c ∈ esc true [] v, c.toNat ≤ 126 ∧ c ≠ 35 ∧ c ≠ 92 ∧ (c = 91 → c ∈ v) ∧ (c = 93 → c ∈ v) := by
  refine ⟨by rw [esc_len]; simpa using h.len, fun c hc => ?_⟩
  rcases esc_mem _ _ _ _ hc with hc | hc | rfl | rfl
  · cases hc
  · have := h.ok c hc
    exact ⟨this.2.1, this.2.2.1, this.2.2.2.2, fun _ => hc, fun _ => hc⟩
  · exact ⟨by decide, by decide, by decide, fun e => absurd e (by decide), fun e => absurd e (by decide)⟩
  · exact ⟨by decide, by decide, by decide, fun e => absurd e (by decide), fun e => absurd e (by decide)⟩
theorem cookEM_f (m : Bool) (v : List UInt8) (h : Val v) (ha : apart [] 32 v = true) (hb : m = true → 91 ∉ v ∧ 93 ∉ v) : Ev (fun k => cookEM k m (B v)) (B (esc true [] v)) := by
  obtain ⟨h1, h2⟩ := h.esc
  have hl := h.len
  refine Ev.bind (EscapeAssertion_f v ha (by omega)) (Ev.neg ?_ ?_)
  · rw [data_B, B_size]
    rintro (e | e)
    · exact (h2 _ e).2.1 rfl
    · omega
  cases m with
  | false => exact Ev.neg (by simp) (Ev.now _)
  | true =>
    have hq := hb rfl
    have l1 : Ev (fun k => util_EscapeStringLiterals.f k (B (esc true [] v))) (B (esc true [] v)) := by
      have := lit_loop (esc true [] v) [] [] false 0 (by simp; omega) (by simp) (fun c hc => (h2 c hc).1) (by simp)
      rw [dbl_same _ _ (fun e => (h2 _ e).2.2.1 rfl)] at this
      simpa [util_EscapeStringLiterals.f] using this
    obtain ⟨b, l2⟩ := zzContains_some (esc true [] v) [105, 110] (by simp) (by omega)
    have l3 := zzReplace_same 91 40 (esc true [] v) [] (by simp; omega) (fun e => hq.1 ((h2 _ e).2.2.2.1 rfl))
    have l4 := zzReplace_same 93 41 (esc true [] v) [] (by simp; omega) (fun e => hq.2 ((h2 _ e).2.2.2.2 rfl))
    refine Ev.pos rfl (Ev.bind l1 (Ev.bind l2 ?_))
    cases b with
    | false => exact Ev.neg (by simp) (Ev.now _)
    | true => exact Ev.pos rfl (Ev.bind l3 l4)
theorem cook_f (sec key : ByteArray) (v : ByteArray) (hs : sec = ⟨#[114]⟩ ∨ sec = ⟨#[112]⟩ ∨ sec = ⟨#[103]⟩ ∨ sec = ⟨#[101]⟩ ∨ sec = ⟨#[109]⟩) (hk : key.size ≤ 100000) (h : Val v.data.toList) (ha : apart [] 32 v.data.toList = true)
    (hg : sec = ⟨#[103]⟩ → 40 ∉ v.data.toList) (hb : sec = ⟨#[109]⟩ → 91 ∉ v.data.toList ∧ 93 ∉ v.data.toList) : ∃ x : Asr, Ev (fun k => cook k sec key v) x ∧ x.1 = meansB sec v := by
  have hl : v.size ≤ 80 := h.len
  have h0 : ¬ (smallB v = false ∨ 100000 < key.size ∨ v.size = 0) := by
    rintro (e | e | e)
    · have : smallB v = true := by
        unfold smallB
        rw [Bool.and_eq_true, List.all_eq_true]
        exact ⟨fun c hc => decide_eq_true (by have := h.ok c hc; omega), decide_eq_true (by omega)⟩
      rw [this] at e; cases e
    · omega
    · exact h.ne (List.length_eq_zero_iff.1 e)
  rcases hs with rfl | rfl | rfl | rfl | rfl
  · exact ⟨(v, toksB key v), Ev.neg h0 (Ev.pos (.inl rfl) (Ev.now _)), by unfold meansB; rw [if_neg (by decide)]⟩
  · exact ⟨(v, toksB key v), Ev.neg h0 (Ev.pos (.inr rfl) (Ev.now _)), by unfold meansB; rw [if_neg (by decide)]⟩
  · exact ⟨(v, splitB comB v.size v), Ev.neg h0 (Ev.neg (by decide) (Ev.pos rfl (Ev.neg (hg rfl) (Ev.now _)))), by unfold meansB; rw [if_neg (by decide)]⟩
  · have := cookEM_f false v.data.toList h ha (by simp)
    rw [B_data] at this
    obtain ⟨K, hK⟩ := this
    refine ⟨(B (esc true [] v.data.toList), []), Ev.neg h0 (Ev.neg (by decide) (Ev.neg (by decide) (Ev.pos rfl ⟨K, fun k hk => ?_⟩))), by unfold meansB; rw [if_pos (.inl rfl)]⟩
    simp only [hK k hk, Option.map_some]
  · have := cookEM_f true v.data.toList h ha (fun _ => hb rfl)
    rw [B_data] at this
    obtain ⟨K, hK⟩ := this
    refine ⟨(B (esc true [] v.data.toList), []), Ev.neg h0 (Ev.neg (by decide) (Ev.neg (by decide) (Ev.neg (by decide) (Ev.pos rfl ⟨K, fun k hk => ?_⟩)))), by unfold meansB; rw [if_pos (.inr rfl)]⟩
    simp only [hK k hk, Option.map_some]

/-! ### A model as a configuration, and what is read of it -/
abbrev MV := ByteArray → List S28
/-- the assertions of a section, from the i-th on -/
def DOk (sec : ByteArray) : Nat → List S28 → Prop
  | _, [] => True
  | i, d :: l => (d.f1 = sec ++ numB i ∧ Val d.f2.data.toList ∧ (sec = ⟨#[103]⟩ → 40 ∉ d.f2.data.toList)) ∧ DOk sec (i + 1) l
structure VOk (V : MV) : Prop where
  few : ∀ s ∈ secTab, (V s.1).length ≤ 9
  ok : ∀ s ∈ secTab, DOk s.1 1 (V s.1)
  ap : ∀ s ∈ secTab, ∀ d ∈ V s.1, apart [] 32 d.f2.data.toList = true
  br : ∀ d ∈ V ⟨#[109]⟩, 91 ∉ d.f2.data.toList ∧ 93 ∉ d.f2.data.toList
def smlb (v : List UInt8) : Bool := v.all (fun c => decide ((97 ≤ c.toNat ∧ c.toNat ≤ 122) ∨ (48 ≤ c.toNat ∧ c.toNat ≤ 57) ∨ c.toNat = 95)) && !v.isEmpty && decide (v.length ≤ 30)
theorem smlb_ok {v : List UInt8} (h : smlb v = true) : Sml v := by
  unfold smlb at h
  rw [Bool.and_eq_true, Bool.and_eq_true] at h
  refine ⟨fun c hc => of_decide_eq_true (List.all_eq_true.1 h.1.1 c hc), fun e => ?_, of_decide_eq_true h.2⟩
  rw [e] at h; simp at h
def keyB (sec : ByteArray) (i : Nat) : List UInt8 := (sec ++ numB i).data.toList
theorem tab_kb : secTab.all (fun s => (List.range 11).all fun i => smlb (keyB s.1 i)) = true := by decide +kernel
theorem tab_key {s : ByteArray × ByteArray} (h : s ∈ secTab) {i : Nat} (hi : i ≤ 10) : Sml (keyB s.1 i) :=
  smlb_ok (List.all_eq_true.1 (List.all_eq_true.1 tab_kb s h) i (List.mem_range.2 (by omega)))
theorem tab_ib : secTab.all (fun s => (List.range 11).all fun i => (List.range 11).all fun j => decide (1 ≤ i → 1 ≤ j → keyB s.1 i = keyB s.1 j → i = j)) = true := by decide +kernel
theorem tab_inj {s : ByteArray × ByteArray} (h : s ∈ secTab) {i j : Nat} (hi : i ≤ 10) (hj : j ≤ 10) (h1 : 1 ≤ i) (h2 : 1 ≤ j) (e : keyB s.1 i = keyB s.1 j) : i = j :=
  of_decide_eq_true (List.all_eq_true.1 (List.all_eq_true.1 (List.all_eq_true.1 tab_ib s h) i (List.mem_range.2 (by omega))) j (List.mem_range.2 (by omega))) h1 h2 e
theorem tab_secs : ∀ s ∈ secTab, s.1 = ⟨#[114]⟩ ∨ s.1 = ⟨#[112]⟩ ∨ s.1 = ⟨#[103]⟩ ∨ s.1 = ⟨#[101]⟩ ∨ s.1 = ⟨#[109]⟩ := by
  intro s hs
  simp only [secTab, List.mem_cons, List.not_mem_nil, or_false] at hs
  rcases hs with rfl | rfl | rfl | rfl | rfl <;> simp
theorem DOk.mem {sec : ByteArray} : ∀ {l : List S28} {i : Nat}, DOk sec i l → ∀ d ∈ l, Val d.f2.data.toList ∧ (sec = ⟨#[103]⟩ → 40 ∉ d.f2.data.toList) ∧ ∃ m, i ≤ m ∧ m < i + l.length ∧ d.f1 = sec ++ numB m
  | [], _, _, d, hd => by cases hd
  | x :: l, i, h, d, hd => by
    rcases List.mem_cons.1 hd with rfl | hd
    · exact ⟨h.1.2.1, h.1.2.2, i, Nat.le_refl _, by simp, h.1.1⟩
    · obtain ⟨h1, h2, m, h3, h4, h5⟩ := DOk.mem h.2 d hd
      exact ⟨h1, h2, m, by omega, by simp only [List.length_cons]; omega, h5⟩
theorem DOk.keys {s : ByteArray × ByteArray} (hs : s ∈ secTab) : ∀ {l : List S28} {i : Nat}, DOk s.1 i l → 1 ≤ i → i + l.length ≤ 10 → (l.map fun d => d.f1.data.toList).Nodup
  | [], _, _, _, _ => by simp
  | x :: l, i, h, hi, hl => by
    simp only [List.length_cons] at hl
    rw [List.map_cons, List.nodup_cons]
    refine ⟨fun hm => ?_, DOk.keys hs h.2 (by omega) (by omega)⟩
    obtain ⟨d, hd, e⟩ := List.mem_map.1 hm
    obtain ⟨_, _, m, h3, h4, h5⟩ := DOk.mem h.2 d hd
    rw [h5, h.1.1] at e
    have := tab_inj hs (i := m) (j := i) (by omega) (by omega) (by omega) hi e
    omega

theorem awake : Ev laws_awakeModel.f true := Ev.of laws_awakeModel.mono (k := 300) (by decide +kernel)

section
variable {α : Type} {r : α}
theorem Ev.ite {c : Prop} [Decidable c] {f g : Nat → Option α} (h : c → Ev f r) (k : ¬ c → Ev g r) : Ev (fun n => if c then f n else g n) r := by
  by_cases e : c
  · exact Ev.pos e (h e)
  · exact Ev.neg e (k e)
end
theorem WordByte_f (c : UInt8) : spec_WordByte.f (c.toNat : Int) = some (wd c) := by
  rw [wd_int]
  generalize (c.toNat : Int) = x
  unfold spec_WordByte.f
  repeat' split
  all_goals (congr 1; rw [Bool.eq_iff_iff]; simp only [beq_iff_eq, decide_eq_true_eq, true_iff]; omega)
theorem Definition_loop (l : List UInt8) : ∀ p : List UInt8, p.length + l.length ≤ 140737488351232 * 8 →
    Ev (fun k => spec_Definition.l0 k (B (p ++ l)) (p.length : Int)) (l.all dg) := by
  induction l with
  | nil =>
    intro p _
    exact Ev.step (fun _ => spec_Definition.l0.eq_2 _ _ _) (Ev.neg (by rw [B_size]; simp) (Ev.now _))
  | cons c l ih =>
    intro p hp
    simp only [List.length_cons] at hp
    refine Ev.step (fun _ => spec_Definition.l0.eq_2 _ _ _) (Ev.pos (by rw [B_size]; simp <;> omega) (Ev.pos (by omega) ?_))
    rw [bt_mid p l c _ rfl, w64 (by omega) (by omega), List.all_cons]
    have hno : dg c = false → Ev (fun _ => some false) (dg c && l.all dg) := by
      intro h; rw [h]; exact Ev.now _
    by_cases h1 : (c.toNat : Int) < 48
    · exact Ev.pos h1 (hno (by rw [dg_int, decide_eq_false_iff_not]; omega))
    · refine Ev.neg h1 ?_
      by_cases h2 : (c.toNat : Int) > 57
      · exact Ev.pos h2 (hno (by rw [dg_int, decide_eq_false_iff_not]; omega))
      · refine Ev.neg h2 ?_
        rw [show dg c = true from by rw [dg_int, decide_eq_true_eq]; omega, Bool.true_and]
        have := ih (p ++ [c]) (by simp <;> omega)
        simpa using this
theorem Definition_f (w : List UInt8) (hw : w.length ≤ 140737488351232 * 8) : Ev (fun k => spec_Definition.f k (B w)) (dfn w) := by
  cases w with
  | nil =>
    refine Ev.pos (by rw [B_toList]) (Ev.step (fun _ => spec_Definition.j0.eq_2 _ _ _) (Ev.pos rfl (Ev.now _)))
  | cons c w =>
    simp only [List.length_cons] at hw
    refine Ev.neg (by rw [B_toList]; simp) (Ev.pos (by rw [B_size]; simp <;> omega) ?_)
    have hbt : bt (B (c :: w)) 0 = (c.toNat : Int) := bt_mid [] w c 0 rfl
    rw [hbt]
    have hgo : (c == 114 || c == 112) = true → Ev (fun k => spec_Definition.j0 k (B (c :: w)) false) (dfn (c :: w)) := by
      intro h
      refine Ev.step (fun _ => spec_Definition.j0.eq_2 _ _ _) (Ev.neg (by simp) ?_)
      rw [dfn, h, Bool.true_and]
      exact Definition_loop w [c] (by simp <;> omega)
    by_cases h1 : c = 114
    · subst h1
      exact Ev.pos rfl (hgo rfl)
    · refine Ev.neg (fun e => h1 ((byte_eq c 114 (by omega)).1 e)) ?_
      by_cases h2 : c = 112
      · subst h2
        exact hgo rfl
      · have hb : ((c.toNat : Int) != 112) = true := by
          rw [bne_iff_ne]
          exact fun e => h2 ((byte_eq c 112 (by omega)).1 e)
        rw [hb, show dfn (c :: w) = false from by simp [dfn, h1, h2]]
        exact Ev.step (fun _ => spec_Definition.j0.eq_2 _ _ _) (Ev.pos rfl (Ev.now _))
theorem Blank_f (x : Int) : spec_Blank.f x = some (decide (x = 32 ∨ x = 9 ∨ x = 10 ∨ x = 13 ∨ x = 12 ∨ x = 11)) := by
  unfold spec_Blank.f
  repeat' split
  all_goals (congr 1; rw [Bool.eq_iff_iff]; simp only [beq_iff_eq, decide_eq_true_eq, true_iff]; omega)

set_option maxHeartbeats 2000000 in
theorem Apart_loop (l : List UInt8) : ∀ (p w : List UInt8) (a : UInt8), w.length ≤ p.length → p.length + l.length ≤ 140737488351232 →
    Ev (fun k => spec_Apart.l0 k (B (p ++ l)) (B w) (a.toNat : Int) (p.length : Int)) (apart w a l) := by
  induction l with
  | nil =>
    intro p w a _ _
    exact Ev.step (fun _ => spec_Apart.l0.eq_2 _ _ _ _ _) (Ev.neg (by rw [B_size]; simp) (Ev.now _))
  | cons c l ih =>
    intro p w a hw hp
    simp only [List.length_cons] at hp
    refine Ev.step (fun _ => spec_Apart.l0.eq_2 _ _ _ _ _) (Ev.pos (by rw [B_size]; simp <;> omega) (Ev.pos (by omega) ?_))
    rw [bt_mid p l c _ rfl, w64 (by omega) (by omega), ext_mid p l c _ _ (by omega) (by omega), B_app]
    refine Ev.bind (Ev.const (WordByte_f c)) ?_
    rw [apart]
    have hnext : Ev (fun k => spec_Apart.l0 k (B (p ++ c :: l)) (⟨#[]⟩ : ByteArray) (c.toNat : Int) ((p.length : Int) + 1)) (apart [] c l) := by
      have := ih (p ++ [c]) [] c (by simp) (by simp <;> omega)
      rw [show (⟨#[]⟩ : ByteArray) = B [] from rfl]
      simpa using this
    by_cases hc : wd c = true
    · rw [if_pos hc]
      refine Ev.pos hc (Ev.pos (by omega) (Ev.pos (by rw [B_size]; simp <;> omega) (Ev.pos (by rw [B_size, B_size]; simp <;> omega) ?_)))
      have := ih (p ++ [c]) (w ++ [c]) a (by simp <;> omega) (by simp <;> omega)
      simpa using this
    · rw [if_neg hc]
      refine Ev.neg hc ?_
      by_cases h46 : c = 46
      · refine Ev.pos (by rw [h46]; rfl) (Ev.bind (Definition_f w (by omega)) ?_)
        by_cases hd : dfn w = true
        · refine Ev.pos hd (Ev.bind (Ev.const (Blank_f _)) ?_)
          by_cases ha : okI (a.toNat : Int)
          · have hk := (okA_int a).2 ha
            rw [if_neg (by rw [hk]; simp)]
            unfold okI at ha
            generalize (a.toNat : Int) = x at ha
            rcases ha with ha | ha | ha | ha | ha | ha | ha | ha | ha | ha | ha | ha | ha | ha | ha | ha | ha | ha <;> (subst ha; simpa using hnext)
          · have hk : okA a = false := by
              cases h : okA a
              · rfl
              · exact absurd ((okA_int a).1 h) ha
            rw [if_pos ⟨h46, hd, hk⟩]
            unfold okI at ha
            generalize (a.toNat : Int) = x at ha
            refine Ev.ite (fun hb => ?_) (fun hb => ?_)
            · simp only [decide_eq_true_eq] at hb
              refine Ev.pos (by omega) ?_
              repeat refine Ev.neg (by omega) ?_
              exact Ev.now _
            · repeat refine Ev.neg (by omega) ?_
              exact Ev.now _
        · rw [if_neg (fun e => hd e.2.1)]
          exact Ev.neg hd hnext
      · rw [if_neg (fun e => h46 e.1)]
        exact Ev.neg (fun e => h46 ((byte_eq c 46 (by omega)).1 e)) hnext
theorem Apart_f (s : List UInt8) (h : s.length ≤ 140737488351232) : Ev (fun k => spec_Apart.f k (B s)) (apart [] 32 s) := by
  have := Apart_loop s [] [] 32 (by simp) (by simpa using h)
  exact this


theorem Escaped_loop (l : List UInt8) : ∀ (p o w : List UInt8) (own : Bool), o.length + w.length ≤ p.length → p.length + l.length ≤ 140737488351232 →
    Ev (fun k => spec_Escaped.l0 k (B (p ++ l)) (B o) (B w) own (p.length : Int)) (B (o ++ esc own w l)) := by
  induction l with
  | nil =>
    intro p o w own ho hp
    refine Ev.step (fun _ => spec_Escaped.l0.eq_2 _ _ _ _ _ _) (Ev.neg (by rw [B_size]; simp) (Ev.pos ?_ ?_))
    · rw [B_size, B_size]; omega
    · rw [B_app]; exact Ev.now _
  | cons c l ih =>
    intro p o w own ho hp
    simp only [List.length_cons] at hp
    refine Ev.step (fun _ => spec_Escaped.l0.eq_2 _ _ _ _ _ _) (Ev.pos (by rw [B_size]; simp <;> omega) (Ev.pos (by omega) ?_))
    rw [bt_mid p l c _ rfl, w64 (by omega) (by omega), ext_mid p l c _ _ (by omega) (by omega)]
    rw [show (⟨#[46]⟩ : ByteArray) = B [46] from rfl, show (⟨#[95]⟩ : ByteArray) = B [95] from rfl]
    simp only [B_app, B_size, List.length_append, List.length_cons, List.length_nil]
    refine Ev.bind (Ev.const (WordByte_f c)) ?_
    have hnext : ∀ (o' w' : List UInt8) (own' : Bool), o'.length + w'.length = o.length + w.length + 1 → o' ++ esc own' w' l = o ++ esc own w (c :: l) →
        Ev (fun k => spec_Escaped.l0 k (B (p ++ c :: l)) (B o') (B w') own' ((p.length : Int) + 1)) (B (o ++ esc own w (c :: l))) := by
      intro o' w' own' h1 h2
      have := ih (p ++ [c]) o' w' own' (by simp <;> omega) (by simp <;> omega)
      rw [h2] at this
      simpa using this
    by_cases hc : wd c = true
    · exact Ev.pos hc (Ev.pos (by omega) (Ev.pos (by omega) (Ev.pos (by omega) (hnext o (w ++ [c]) own (by simp <;> omega) (by rw [esc, if_pos hc])))))
    · refine Ev.neg hc ?_
      by_cases h46 : c = 46
      · refine Ev.pos (by rw [h46]; rfl) ?_
        have hp46 : (own && dfn w) = false → Ev (fun k => if w.length + (0 + 1) ≤ 9223372036854775807 then (if o.length + (w.length + (0 + 1)) ≤ 9223372036854775807 then spec_Escaped.l0 k (B (p ++ c :: l)) (B (o ++ (w ++ [46]))) (⟨#[]⟩ : ByteArray) false ((p.length : Int) + 1) else none) else none) (B (o ++ esc own w (c :: l))) := by
          intro h
          exact Ev.pos (by omega) (Ev.pos (by omega) (hnext (o ++ (w ++ [46])) [] false (by simp <;> omega) (by rw [esc, if_neg hc, if_pos h46, h]; simp)))
        cases own with
        | false => exact Ev.neg (by simp) (hp46 rfl)
        | true =>
          refine Ev.pos rfl (Ev.bind (Definition_f w (by omega)) ?_)
          cases hd : dfn w with
          | false => exact Ev.neg (by simp) (hp46 (by rw [hd]; rfl))
          | true => exact Ev.pos rfl (Ev.pos (by omega) (Ev.pos (by omega) (hnext (o ++ (w ++ [95])) [] false (by simp <;> omega) (by rw [esc, if_neg hc, if_pos h46, hd]; simp))))
      · refine Ev.neg (fun e => h46 ((byte_eq c 46 (by omega)).1 e)) ?_
        exact Ev.pos (by omega) (Ev.pos (by omega) (Ev.pos (by omega) (Ev.pos (by omega) (hnext (o ++ (w ++ [c])) [] true (by simp <;> omega) (by rw [esc, if_neg hc, if_neg h46]; simp)))))
theorem Escaped_f (s : List UInt8) (h : s.length ≤ 140737488351232) : Ev (fun k => spec_Escaped.f k (B s)) (B (esc true [] s)) := by
  have := Escaped_loop s [] [] [] true (by simp) (by simpa using h)
  exact this

/-! ### What may be written -/
theorem bt_at (s : List UInt8) (p q : List UInt8) (c : UInt8) (h : s = p ++ c :: q) : bt (B s) (p.length : Int) = (c.toNat : Int) := by
  rw [h]
  exact bt_mid p q c _ rfl
theorem valued_loop (q : List UInt8) : ∀ p : List UInt8, (p ++ q).length ≤ 2147483647 → ∃ b, Ev (fun k => spec_Valued.l0 k (B (p ++ q)) (p.length : Int)) b ∧ (b = true → (∀ c ∈ q, 32 ≤ c.toNat ∧ c.toNat ≤ 126 ∧ c ≠ 35 ∧ c ≠ 59 ∧ c ≠ 92) ∧ (p ++ q) ≠ [] ∧ (p ++ q).length ≤ 80 ∧ (p ++ q).head? ≠ some 32 ∧ (p ++ q).getLast? ≠ some 32) := by
  induction q with
  | nil =>
    intro p hp
    rw [List.append_nil] at hp ⊢
    have e0 : ¬ ((p.length : Int) < ((B p).size : Int)) := by rw [B_size]; omega
    by_cases hn : p = []
    · exact ⟨false, Ev.step (fun _ => spec_Valued.l0.eq_2 _ _ _) (Ev.neg e0 (Ev.pos (by rw [B_toList]; exact hn) (Ev.now _))), by simp⟩
    · have hpos := List.length_pos_iff.2 hn
      have e1 : ¬ (B p).toList = ([] : List UInt8) := by rw [B_toList]; exact hn
      by_cases h80 : p.length ≤ 80
      · have e2 : ((B p).size : Int) ≤ 80 := by rw [B_size]; omega
        have e3 : 0 < ((B p).size : Int) := by rw [B_size]; omega
        obtain ⟨c, r, hc⟩ := List.exists_cons_of_ne_nil hn
        have hb0 : bt (B p) 0 = (c.toNat : Int) := bt_at p [] r c hc
        by_cases h32 : c = 32
        · exact ⟨false, Ev.step (fun _ => spec_Valued.l0.eq_2 _ _ _) (Ev.neg e0 (Ev.neg e1 (Ev.pos e2 (Ev.pos e3 (Ev.pos (by rw [hb0, h32]; rfl) (Ev.now _)))))), by simp⟩
        · have hl : p = p.dropLast ++ [p.getLast hn] := (List.dropLast_concat_getLast hn).symm
          have hdl : p.dropLast.length = p.length - 1 := List.length_dropLast
          have e4 : wrap64 (((B p).size : Int) - 1) = ((p.dropLast.length : Nat) : Int) := by rw [B_size, hdl, w64 (by omega) (by omega)]; omega
          have hb1 : bt (B p) ((p.dropLast.length : Nat) : Int) = ((p.getLast hn).toNat : Int) := bt_at p p.dropLast [] _ hl
          refine ⟨decide (p.getLast hn ≠ 32), Ev.step (fun _ => spec_Valued.l0.eq_2 _ _ _) (Ev.neg e0 (Ev.neg e1 (Ev.pos e2 (Ev.pos e3 (Ev.neg (by rw [hb0]; intro e; exact h32 ((byte_eq c 32 (by omega)).1 e)) ?_))))), ?_⟩
          · rw [e4, hb1]
            refine Ev.pos (by omega) (Ev.pos (by rw [B_size]; omega) (Ev.const ?_))
            congr 1
            rw [Bool.eq_iff_iff]
            simp only [bne_iff_ne, ne_eq, decide_eq_true_eq]
            exact not_congr (byte_eq _ 32 (by omega))
          · intro h
            have h2 := of_decide_eq_true h
            refine ⟨by simp, hn, h80, by rw [hc]; simpa using h32, ?_⟩
            rw [List.getLast?_eq_some_getLast hn]
            simpa using h2
      · exact ⟨false, Ev.step (fun _ => spec_Valued.l0.eq_2 _ _ _) (Ev.neg e0 (Ev.neg e1 (Ev.neg (by rw [B_size]; omega) (Ev.now _)))), by simp⟩
  | cons c q ih =>
    intro p hp
    have e0 : (p.length : Int) < ((B (p ++ c :: q)).size : Int) := by rw [B_size]; simp; omega
    have hb : bt (B (p ++ c :: q)) (p.length : Int) = (c.toNat : Int) := bt_at _ p q c rfl
    obtain ⟨b, hb2, hs⟩ := ih (p ++ [c]) (by simpa using hp)
    have hp2 : p.length ≤ 2147483647 := by rw [List.length_append] at hp; omega
    have key : ∀ r, Ev (fun k => if bt (B (p ++ c :: q)) (p.length : Int) < 32 then some false else (if bt (B (p ++ c :: q)) (p.length : Int) > 126 then some false else (if bt (B (p ++ c :: q)) (p.length : Int) = 35 then some false else (if bt (B (p ++ c :: q)) (p.length : Int) = 59 then some false else (if bt (B (p ++ c :: q)) (p.length : Int) = 92 then some false else spec_Valued.l0 k (B (p ++ c :: q)) (wrap64 ((p.length : Int) + 1))))))) r → Ev (fun k => spec_Valued.l0 k (B (p ++ c :: q)) (p.length : Int)) r :=
      fun r h => Ev.step (fun _ => spec_Valued.l0.eq_2 _ _ _) (Ev.pos e0 (Ev.pos (by omega) h))
    by_cases h1 : c.toNat < 32
    · exact ⟨false, key _ (Ev.pos (by rw [hb]; omega) (Ev.now _)), by simp⟩
    by_cases h2 : 126 < c.toNat
    · exact ⟨false, key _ (Ev.neg (by rw [hb]; omega) (Ev.pos (by rw [hb]; omega) (Ev.now _))), by simp⟩
    by_cases h3 : c = 35
    · exact ⟨false, key _ (Ev.neg (by rw [hb]; omega) (Ev.neg (by rw [hb]; omega) (Ev.pos (by rw [hb, h3]; rfl) (Ev.now _)))), by simp⟩
    have h3' : ¬ bt (B (p ++ c :: q)) (p.length : Int) = 35 := by rw [hb]; exact fun e => h3 ((byte_eq c 35 (by omega)).1 e)
    by_cases h4 : c = 59
    · exact ⟨false, key _ (Ev.neg (by rw [hb]; omega) (Ev.neg (by rw [hb]; omega) (Ev.neg h3' (Ev.pos (by rw [hb, h4]; rfl) (Ev.now _))))), by simp⟩
    have h4' : ¬ bt (B (p ++ c :: q)) (p.length : Int) = 59 := by rw [hb]; exact fun e => h4 ((byte_eq c 59 (by omega)).1 e)
    by_cases h5 : c = 92
    · exact ⟨false, key _ (Ev.neg (by rw [hb]; omega) (Ev.neg (by rw [hb]; omega) (Ev.neg h3' (Ev.neg h4' (Ev.pos (by rw [hb, h5]; rfl) (Ev.now _)))))), by simp⟩
    have h5' : ¬ bt (B (p ++ c :: q)) (p.length : Int) = 92 := by rw [hb]; exact fun e => h5 ((byte_eq c 92 (by omega)).1 e)
    refine ⟨b, key _ (Ev.neg (by rw [hb]; omega) (Ev.neg (by rw [hb]; omega) (Ev.neg h3' (Ev.neg h4' (Ev.neg h5' ?_))))), ?_⟩
    · rw [w64 (by omega) (by omega)]
      simpa using hb2
    · intro h
      obtain ⟨g1, g2, g3, g4, g5⟩ := hs h
      rw [List.append_assoc, List.singleton_append] at g2 g3 g4 g5
      refine ⟨fun x hx => ?_, g2, g3, g4, g5⟩
      rcases List.mem_cons.1 hx with rfl | hx
      · exact ⟨by omega, by omega, h3, h4, h5⟩
      · exact g1 x hx
theorem valued_f (v : ByteArray) (h : v.size ≤ 2147483647) : ∃ b, Ev (fun k => spec_Valued.f k v) b ∧ (b = true → Val v.data.toList) := by
  have h0 := valued_loop v.data.toList [] (by simpa using h)
  rw [List.nil_append, B_data] at h0
  obtain ⟨b, h1, h2⟩ := h0
  exact ⟨b, h1, fun e => ⟨(h2 e).1, (h2 e).2.1, (h2 e).2.2.1, (h2 e).2.2.2.1, (h2 e).2.2.2.2⟩⟩

/-! ### What the law asks of assertions: sizes, brackets, numerals -/
def FitD (d : S28) : Prop := d.f0.size ≤ 2147483647 ∧ d.f1.size ≤ 2147483647 ∧ d.f2.size ≤ 2147483647
theorem rdD_mid (p q : List S28) (c : S28) (i : Int) (h : i = (p.length : Int)) : rd_T28 (p ++ c :: q) i = c := getD_mid _ p q c i h
theorem fits20 (a b c : ByteArray) : ∃ r, laws_zzFits20.f a b c = some r ∧ (r = true → FitD ⟨a, b, c⟩) := by
  unfold laws_zzFits20.f
  by_cases h1 : (a.size : Int) > 2147483647
  · exact ⟨false, by rw [if_pos h1], by simp⟩
  by_cases h2 : (b.size : Int) > 2147483647
  · exact ⟨false, by rw [if_neg h1, if_pos h2], by simp⟩
  by_cases h3 : (c.size : Int) > 2147483647
  · exact ⟨false, by rw [if_neg h1, if_neg h2, if_pos h3], by simp⟩
  · exact ⟨true, by rw [if_neg h1, if_neg h2, if_neg h3], fun _ => ⟨by show a.size ≤ _; omega, by show b.size ≤ _; omega, by show c.size ≤ _; omega⟩⟩
theorem fits19_loop (q : List S28) : ∀ p : List S28, p.length + q.length ≤ 2147483647 → ∃ b, Ev (fun k => laws_zzFits19.l0 k (p ++ q) (((p ++ q).length : Nat) : Int) (p.length : Int)) b ∧ (b = true → ∀ d ∈ q, FitD d) := by
  induction q with
  | nil =>
    intro p hp
    rw [List.append_nil]
    exact ⟨true, Ev.step (fun _ => laws_zzFits19.l0.eq_2 _ _ _ _) (Ev.neg (by omega) (Ev.now _)), by simp⟩
  | cons d q ih =>
    intro p hp
    simp only [List.length_cons] at hp
    obtain ⟨b, hb, hs⟩ := ih (p ++ [d]) (by simp; omega)
    rw [show (p ++ [d]) ++ q = p ++ d :: q from by simp, show (((p ++ [d]).length : Nat) : Int) = (p.length : Int) + 1 from by simp] at hb
    obtain ⟨r, hr, hf⟩ := fits20 d.f0 d.f1 d.f2
    have key : ∀ x, Ev (fun k => if r = true then laws_zzFits19.l0 k (p ++ d :: q) (((p ++ d :: q).length : Nat) : Int) ((p.length : Int) + 1) else some false) x → Ev (fun k => laws_zzFits19.l0 k (p ++ d :: q) (((p ++ d :: q).length : Nat) : Int) (p.length : Int)) x := by
      intro x h
      refine Ev.step (fun _ => laws_zzFits19.l0.eq_2 _ _ _ _) (Ev.pos (by simp; omega) (Ev.pos (by omega) (Ev.pos (by simp; omega) ?_)))
      rw [rdD_mid p q d _ rfl, w64 (by omega) (by omega)]
      exact Ev.bind (Ev.const hr) h
    cases r with
    | false => exact ⟨false, key _ (Ev.neg (by simp) (Ev.now _)), by simp⟩
    | true =>
      refine ⟨b, key _ (Ev.pos rfl hb), fun e y hy => ?_⟩
      rcases List.mem_cons.1 hy with rfl | hy
      · exact hf rfl
      · exact hs e y hy
theorem fits19 (l : List S28) : ∃ b, Ev (fun k => laws_zzFits19.f k l) b ∧ (b = true → ∀ d ∈ l, FitD d) := by
  by_cases h : (l.length : Int) > 2147483647
  · exact ⟨false, Ev.pos h (Ev.now _), by simp⟩
  · obtain ⟨b, hb, hs⟩ := fits19_loop l [] (by simp; omega)
    exact ⟨b, Ev.neg h hb, hs⟩
theorem holds_loop (c : UInt8) (q : List UInt8) : ∀ p : List UInt8, (p ++ q).length ≤ 2147483647 → Ev (fun k => laws_holds.l0 k (B (p ++ q)) (B [c]) (p.length : Int)) (decide (c ∈ q)) := by
  induction q with
  | nil =>
    intro p hp
    rw [List.append_nil] at hp ⊢
    exact Ev.step (fun _ => laws_holds.l0.eq_2 _ _ _ _) (Ev.neg (by rw [B_size, B_size, w64 (by omega) (by simp; omega)]; simp; omega) (Ev.now _))
  | cons b q ih =>
    intro p hp
    have ih := ih (p ++ [b]) (by simpa using hp)
    rw [show (p ++ [b]) ++ q = p ++ b :: q from by simp, show (((p ++ [b]).length : Nat) : Int) = (p.length : Int) + 1 from by simp] at ih
    simp only [List.length_append, List.length_cons] at hp
    have hw : wrap64 ((p.length : Int) + ((B [c]).size : Int)) = (p.length : Int) + 1 := by rw [B_size]; exact w64 (by omega) (by simp; omega)
    refine Ev.step (fun _ => laws_holds.l0.eq_2 _ _ _ _) ?_
    rw [hw, ext_mid p q b _ _ (by omega) (by omega)]
    refine Ev.pos (by rw [B_size]; simp; omega) (Ev.pos (by omega) (Ev.pos (by omega) ?_))
    by_cases h : b = c
    · refine Ev.pos (by rw [B_toList, B_toList, h]) ?_
      rw [show decide (c ∈ b :: q) = true from decide_eq_true (by simp [h])]
      exact Ev.now _
    · refine Ev.neg (by rw [B_toList, B_toList]; simpa using h) ?_
      rw [w64 (by omega) (by omega), show decide (c ∈ b :: q) = decide (c ∈ q) from by rw [decide_eq_decide]; simp [Ne.symm h]]
      exact ih
theorem holds_f (v : ByteArray) (c : UInt8) (h : v.size ≤ 2147483647) : Ev (fun k => laws_holds.f k v ⟨#[c]⟩) (decide (c ∈ v.data.toList)) := by
  have := holds_loop c v.data.toList [] (by simpa using h)
  rw [List.nil_append, B_data] at this
  exact this
theorem numeral_d : (List.range 10).all (fun n => decide (2 ≤ n → strOfNums [(wrap64 (48 + Int.tmod (n : Int) 10)) % 256] = numB n)) = true := by decide +kernel
theorem numeral_f (n : Nat) (h2 : 2 ≤ n) (h9 : n ≤ 9) : Ev (fun k => spec_Numeral.f k (n : Int)) (numB n) := by
  have e := of_decide_eq_true (List.all_eq_true.1 numeral_d n (List.mem_range.2 (by omega))) h2
  rw [← e]
  exact Ev.step (fun _ => spec_Numeral.l0.eq_2 _ _ _) (Ev.neg (by omega) (Ev.now _))

/-! ### What the law asks of assertions: that they are a model -/
def S5 : List S71 := secTab.map fun s => ⟨s.2, s.1⟩
theorem sections_f : spec_sections.f = some S5 := rfl
theorem S5_rd (P Q : List (ByteArray × ByteArray)) (s : ByteArray × ByteArray) (h : secTab = P ++ s :: Q) : rd_T71 S5 (P.length : Int) = ⟨s.2, s.1⟩ := by
  unfold S5
  rw [h, List.map_append, List.map_cons]
  exact getD_mid _ _ _ _ _ (by simp)
def dOf (l : List S28) (sec : ByteArray) : List S28 := l.filter fun d => decide (d.f0 = sec)
theorem defs_loop (sec : ByteArray) (q : List S28) : ∀ (p acc : List S28), p.length + q.length ≤ 1000 → acc.length ≤ p.length → Ev (fun k => spec_defs.l0 k (p ++ q) sec acc (p.length : Int)) (acc ++ dOf q sec) := by
  induction q with
  | nil =>
    intro p acc _ _
    rw [List.append_nil]
    refine Ev.step (fun _ => spec_defs.l0.eq_2 _ _ _ _ _) (Ev.neg (by omega) ?_)
    simpa [dOf] using Ev.now acc
  | cons d q ih =>
    intro p acc hp ha
    simp only [List.length_cons] at hp
    have h1 := ih (p ++ [d]) acc (by simp; omega) (by simp; omega)
    have h2 := ih (p ++ [d]) (acc ++ [d]) (by simp; omega) (by simp; omega)
    rw [show (p ++ [d]) ++ q = p ++ d :: q from by simp, show (((p ++ [d]).length : Nat) : Int) = (p.length : Int) + 1 from by simp] at h1 h2
    refine Ev.step (fun _ => spec_defs.l0.eq_2 _ _ _ _ _) (Ev.pos (by simp; omega) (Ev.pos (by omega) ?_))
    rw [rdD_mid p q d _ rfl, w64 (by omega) (by omega)]
    by_cases h : d.f0 = sec
    · refine Ev.pos ((toList_iff _ _).2 h) (Ev.pos (by omega) ?_)
      have e : dOf (d :: q) sec = d :: dOf q sec := List.filter_cons_of_pos (by simpa using h)
      rw [e, show acc ++ d :: dOf q sec = (acc ++ [d]) ++ dOf q sec from by simp]
      exact h2
    · refine Ev.neg (fun e => h ((toList_iff _ _).1 e)) ?_
      have e : dOf (d :: q) sec = dOf q sec := List.filter_cons_of_neg (by simpa using h)
      rw [e]
      exact h1
theorem defs_f (l : List S28) (sec : ByteArray) (h : l.length ≤ 1000) : Ev (fun k => spec_defs.f k l sec) (dOf l sec) := defs_loop sec l [] [] (by simpa using h) (by simp)
theorem mod_l1 (x0 : List S28) (x3 x4 : Int) (sec : ByteArray) (D : List S28) (hD : D.length ≤ 9) (hf : ∀ d ∈ D, FitD d) (hsec : sec.size ≤ 1) (h4 : 0 ≤ x4 ∧ x4 < 5) (res : Bool) (hgo : Ev (fun k => spec_Modelled.l0 k x0 x3 (x4 + 1)) res) :
    ∀ (q p : List S28), D = p ++ q → ∃ b, Ev (fun k => spec_Modelled.l1 k x0 x3 x4 sec D (p.length : Int)) b ∧ (b = true → res = true ∧ DOk sec (p.length + 1) q) := by
  intro q
  induction q with
  | nil =>
    intro p hp
    rw [List.append_nil] at hp
    refine ⟨res, Ev.step (fun _ => spec_Modelled.l1.eq_2 _ _ _ _ _ _ _) (Ev.neg (by rw [hp]; omega) ?_), fun e => ⟨e, trivial⟩⟩
    rw [w64 (by omega) (by omega)]
    exact hgo
  | cons d q ih =>
    intro p hp
    have hpl : p.length ≤ 8 := by rw [hp] at hD; simp at hD; omega
    obtain ⟨bn, hn, hs⟩ := ih (p ++ [d]) (by rw [hp]; simp)
    rw [show (((p ++ [d]).length : Nat) : Int) = (p.length : Int) + 1 from by simp] at hn
    rw [show (p ++ [d]).length + 1 = p.length + 1 + 1 from by simp] at hs
    have hd := hf d (by rw [hp]; simp)
    have hrd : rd_T28 D (p.length : Int) = d := by rw [hp]; exact rdD_mid p q d _ rfl
    have hlt : (p.length : Int) < ((D.length : Nat) : Int) := by rw [hp]; simp; omega
    have hw : wrap64 ((p.length : Int) + 1) = (p.length : Int) + 1 := w64 (by omega) (by omega)
    -- the value
    have hval : ∃ b, Ev (fun k => (spec_Valued.f k d.f2).bind fun t => if t = true then (if sec.toList = ([103] : List UInt8) then (if (d.f2).toList = ([95, 44, 32, 95] : List UInt8) then spec_Modelled.l1 k x0 x3 x4 sec D ((p.length : Int) + 1) else (if (d.f2).toList = ([95, 44, 32, 95, 44, 32, 95] : List UInt8) then spec_Modelled.l1 k x0 x3 x4 sec D ((p.length : Int) + 1) else some false)) else spec_Modelled.l1 k x0 x3 x4 sec D ((p.length : Int) + 1)) else some false) b ∧ (b = true → bn = true ∧ Val d.f2.data.toList ∧ (sec = ⟨#[103]⟩ → 40 ∉ d.f2.data.toList)) := by
      obtain ⟨bv, hv, hvs⟩ := valued_f d.f2 hd.2.2
      cases bv with
      | false => exact ⟨false, Ev.bind hv (Ev.neg (by simp) (Ev.now _)), by simp⟩
      | true =>
        have hV := hvs rfl
        by_cases hg : sec.toList = ([103] : List UInt8)
        · by_cases h1 : (d.f2).toList = ([95, 44, 32, 95] : List UInt8)
          · refine ⟨bn, Ev.bind hv (Ev.pos rfl (Ev.pos hg (Ev.pos h1 hn))), fun e => ⟨e, hV, fun _ => ?_⟩⟩
            rw [← ByteArray.toList_eq, h1]; decide
          · by_cases h2 : (d.f2).toList = ([95, 44, 32, 95, 44, 32, 95] : List UInt8)
            · refine ⟨bn, Ev.bind hv (Ev.pos rfl (Ev.pos hg (Ev.neg h1 (Ev.pos h2 hn)))), fun e => ⟨e, hV, fun _ => ?_⟩⟩
              rw [← ByteArray.toList_eq, h2]; decide
            · exact ⟨false, Ev.bind hv (Ev.pos rfl (Ev.pos hg (Ev.neg h1 (Ev.neg h2 (Ev.now _))))), by simp⟩
        · refine ⟨bn, Ev.bind hv (Ev.pos rfl (Ev.neg hg hn)), fun e => ⟨e, hV, fun h => ?_⟩⟩
          rw [h] at hg
          exact absurd (B_toList [103]) hg
    obtain ⟨bv, hv, hvs⟩ := hval
    cases p with
    | nil =>
      have key : ∀ r, Ev (fun k => if (d.f1).toList = sec.toList then ((spec_Valued.f k d.f2).bind fun t => if t = true then (if sec.toList = ([103] : List UInt8) then (if (d.f2).toList = ([95, 44, 32, 95] : List UInt8) then spec_Modelled.l1 k x0 x3 x4 sec D ((([] : List S28).length : Int) + 1) else (if (d.f2).toList = ([95, 44, 32, 95, 44, 32, 95] : List UInt8) then spec_Modelled.l1 k x0 x3 x4 sec D ((([] : List S28).length : Int) + 1) else some false)) else spec_Modelled.l1 k x0 x3 x4 sec D ((([] : List S28).length : Int) + 1)) else some false) else some false) r → Ev (fun k => spec_Modelled.l1 k x0 x3 x4 sec D ((([] : List S28).length : Nat) : Int)) r := by
        intro r h
        refine Ev.step (fun _ => spec_Modelled.l1.eq_2 _ _ _ _ _ _ _) (Ev.pos hlt (Ev.neg (by simp) (Ev.pos (by simp) ?_)))
        rw [hrd, hw]
        exact h
      by_cases he : d.f1 = sec
      · refine ⟨bv, key _ (Ev.pos ((toList_iff _ _).2 he) hv), fun e => ?_⟩
        obtain ⟨g1, g2, g3⟩ := hvs e
        obtain ⟨g4, g5⟩ := hs g1
        refine ⟨g4, ⟨?_, g2, g3⟩, g5⟩
        rw [he]
        apply WideShapes.bytes_inj
        simp [numB, ByteArray.data_append]
      · exact ⟨false, key _ (Ev.neg (fun e => he ((toList_iff _ _).1 e)) (Ev.now _)), by simp⟩
    | cons z p =>
      have hnum := numeral_f ((z :: p).length + 1) (by simp) (by omega)
      rw [show ((((z :: p).length + 1 : Nat)) : Int) = ((z :: p).length : Int) + 1 from by simp] at hnum
      have hns : (numB ((z :: p).length + 1)).size ≤ 1 := by
        unfold numB
        rw [if_neg (by simp), if_pos (by omega)]
        exact Nat.le_refl _
      have key : ∀ r, Ev (fun k => if (d.f1).toList = (sec ++ numB ((z :: p).length + 1)).toList then ((spec_Valued.f k d.f2).bind fun t => if t = true then (if sec.toList = ([103] : List UInt8) then (if (d.f2).toList = ([95, 44, 32, 95] : List UInt8) then spec_Modelled.l1 k x0 x3 x4 sec D (((z :: p).length : Int) + 1) else (if (d.f2).toList = ([95, 44, 32, 95, 44, 32, 95] : List UInt8) then spec_Modelled.l1 k x0 x3 x4 sec D (((z :: p).length : Int) + 1) else some false)) else spec_Modelled.l1 k x0 x3 x4 sec D (((z :: p).length : Int) + 1)) else some false) else some false) r → Ev (fun k => spec_Modelled.l1 k x0 x3 x4 sec D (((z :: p).length : Nat) : Int)) r := by
        intro r h
        refine Ev.step (fun _ => spec_Modelled.l1.eq_2 _ _ _ _ _ _ _) (Ev.pos hlt (Ev.pos (by first | (simp; done) | (simp; omega)) ?_))
        rw [hw, hrd]
        exact Ev.bind hnum (Ev.pos (by omega) (Ev.pos (by omega) h))
      by_cases he : d.f1 = sec ++ numB ((z :: p).length + 1)
      · refine ⟨bv, key _ (Ev.pos ((toList_iff _ _).2 he) hv), fun e => ?_⟩
        obtain ⟨g1, g2, g3⟩ := hvs e
        obtain ⟨g4, g5⟩ := hs g1
        exact ⟨g4, ⟨he, g2, g3⟩, g5⟩
      · exact ⟨false, key _ (Ev.neg (fun e => he ((toList_iff _ _).1 e)) (Ev.now _)), by simp⟩
theorem dOf_mem {l : List S28} {sec : ByteArray} {d : S28} (h : d ∈ dOf l sec) : d ∈ l ∧ d.f0 = sec := ⟨(List.mem_filter.1 h).1, of_decide_eq_true (List.mem_filter.1 h).2⟩
theorem mod_l0 (l : List S28) (hl : l.length ≤ 12) (hf : ∀ d ∈ l, FitD d) : ∀ (Q P : List (ByteArray × ByteArray)) (n : Nat), secTab = P ++ Q → n ≤ 12 * P.length → ∃ b, Ev (fun k => spec_Modelled.l0 k l (n : Int) (P.length : Int)) b ∧
    (b = true → (∀ s ∈ Q, (dOf l s.1 ≠ [] ∨ s.1 = ⟨#[103]⟩) ∧ (dOf l s.1).length ≤ 9 ∧ DOk s.1 1 (dOf l s.1)) ∧ n + (Q.map fun s => (dOf l s.1).length).sum = l.length) := by
  intro Q
  induction Q with
  | nil =>
    intro P n hP _
    have h5 : P.length = 5 := by rw [List.append_nil] at hP; rw [← hP]; rfl
    refine ⟨(n : Int) == (l.length : Int), Ev.step (fun _ => spec_Modelled.l0.eq_2 _ _ _ _) (Ev.neg (by omega) (Ev.now _)), fun e => ⟨by simp, ?_⟩⟩
    have : (n : Int) = (l.length : Int) := by simpa using e
    simp; omega
  | cons s Q ih =>
    intro P n hP hn
    have h5 : P.length + Q.length + 1 = 5 := by have := congrArg List.length hP; simp at this; have e : secTab.length = 5 := rfl; omega
    have hs : s ∈ secTab := by rw [hP]; simp
    have hdl : (dOf l s.1).length ≤ l.length := List.length_filter_le _ _
    obtain ⟨b, hb, hq⟩ := ih (P ++ [s]) (n + (dOf l s.1).length) (by rw [hP]; simp) (by simp; omega)
    rw [show (((P ++ [s]).length : Nat) : Int) = (P.length : Int) + 1 from by simp, show ((n + (dOf l s.1).length : Nat) : Int) = (n : Int) + ((dOf l s.1).length : Int) from by simp] at hb
    have hsz : s.1.size ≤ 1 := by rcases tab_secs s hs with e | e | e | e | e <;> rw [e] <;> decide
    have hw : wrap64 ((n : Int) + ((dOf l s.1).length : Int)) = (n : Int) + ((dOf l s.1).length : Int) := w64 (by omega) (by omega)
    have key : ∀ r, Ev (fun k => if ((dOf l s.1).length : Int) = 0 then (if s.1.toList = ([103] : List UInt8) then spec_Modelled.j1 k l ((n : Int) + ((dOf l s.1).length : Int)) (P.length : Int) s.1 (dOf l s.1) (decide (((dOf l s.1).length : Int) > 9)) else spec_Modelled.j1 k l ((n : Int) + ((dOf l s.1).length : Int)) (P.length : Int) s.1 (dOf l s.1) true) else spec_Modelled.j1 k l ((n : Int) + ((dOf l s.1).length : Int)) (P.length : Int) s.1 (dOf l s.1) (decide (((dOf l s.1).length : Int) > 9))) r → Ev (fun k => spec_Modelled.l0 k l (n : Int) (P.length : Int)) r := by
      intro r h
      refine Ev.step (fun _ => spec_Modelled.l0.eq_2 _ _ _ _) (Ev.pos (by omega) (Ev.bind (Ev.const sections_f) (Ev.pos (by omega) (Ev.pos (by show (P.length : Int) < 5; omega) ?_))))
      rw [S5_rd P Q s hP]
      refine Ev.bind (defs_f l s.1 (by omega)) ?_
      rw [hw]
      exact h
    have j1 : ((dOf l s.1 ≠ [] ∨ s.1 = ⟨#[103]⟩)) → ∃ r, Ev (fun k => spec_Modelled.j1 k l ((n : Int) + ((dOf l s.1).length : Int)) (P.length : Int) s.1 (dOf l s.1) (decide (((dOf l s.1).length : Int) > 9))) r ∧ (r = true → (∀ t ∈ s :: Q, (dOf l t.1 ≠ [] ∨ t.1 = ⟨#[103]⟩) ∧ (dOf l t.1).length ≤ 9 ∧ DOk t.1 1 (dOf l t.1)) ∧ n + ((s :: Q).map fun s => (dOf l s.1).length).sum = l.length) := by
      intro hne
      by_cases h9 : ((dOf l s.1).length : Int) > 9
      · exact ⟨false, Ev.step (fun _ => spec_Modelled.j1.eq_2 _ _ _ _ _ _ _) (Ev.pos (decide_eq_true h9) (Ev.now _)), by simp⟩
      · obtain ⟨r, h1, h2⟩ := mod_l1 l _ (P.length : Int) s.1 (dOf l s.1) (by omega) (fun d hd => hf d (dOf_mem hd).1) hsz ⟨by omega, by omega⟩ b hb (dOf l s.1) [] rfl
        refine ⟨r, Ev.step (fun _ => spec_Modelled.j1.eq_2 _ _ _ _ _ _ _) (Ev.neg (by rw [decide_eq_false h9]; simp) h1), fun e => ?_⟩
        obtain ⟨g1, g2⟩ := h2 e
        obtain ⟨g3, g4⟩ := hq g1
        refine ⟨fun t ht => ?_, by rw [List.map_cons, List.sum_cons]; omega⟩
        rcases List.mem_cons.1 ht with rfl | ht
        · exact ⟨hne, by omega, g2⟩
        · exact g3 t ht
    by_cases h0 : ((dOf l s.1).length : Int) = 0
    · by_cases hg : s.1.toList = ([103] : List UInt8)
      · obtain ⟨r, h1, h2⟩ := j1 (.inr ((toList_iff _ _).1 (by rw [hg]; exact (B_toList [103]).symm)))
        exact ⟨r, key _ (Ev.pos h0 (Ev.pos hg h1)), h2⟩
      · exact ⟨false, key _ (Ev.pos h0 (Ev.neg hg (Ev.step (fun _ => spec_Modelled.j1.eq_2 _ _ _ _ _ _ _) (Ev.pos rfl (Ev.now _))))), by simp⟩
    · obtain ⟨r, h1, h2⟩ := j1 (.inl (fun e => h0 (by rw [e]; rfl)))
      exact ⟨r, key _ (Ev.neg h0 h1), h2⟩
/-- assertions of which the law speaks -/
structure MOk (l : List S28) : Prop where
  few : l.length ≤ 12
  ap : ∀ d ∈ l, apart [] 32 d.f2.data.toList = true
  br : ∀ d ∈ l, d.f0 = ⟨#[109]⟩ → 91 ∉ d.f2.data.toList ∧ 93 ∉ d.f2.data.toList
  secs : ∀ s ∈ secTab, (dOf l s.1 ≠ [] ∨ s.1 = ⟨#[103]⟩) ∧ (dOf l s.1).length ≤ 9 ∧ DOk s.1 1 (dOf l s.1)
  sum : (secTab.map fun s => (dOf l s.1).length).sum = l.length
theorem modelled_loop (q : List S28) : ∀ p : List S28, (p ++ q).length ≤ 12 → (∀ d ∈ p ++ q, FitD d) → ∃ b, Ev (fun k => laws_modelled.l0 k (p ++ q) (p.length : Int)) b ∧ (b = true → (∀ d ∈ q, apart [] 32 d.f2.data.toList = true ∧ (d.f0 = ⟨#[109]⟩ → 91 ∉ d.f2.data.toList ∧ 93 ∉ d.f2.data.toList)) ∧
    (∀ s ∈ secTab, (dOf (p ++ q) s.1 ≠ [] ∨ s.1 = ⟨#[103]⟩) ∧ (dOf (p ++ q) s.1).length ≤ 9 ∧ DOk s.1 1 (dOf (p ++ q) s.1)) ∧ (secTab.map fun s => (dOf (p ++ q) s.1).length).sum = (p ++ q).length) := by
  induction q with
  | nil =>
    intro p hl hf
    rw [List.append_nil] at hl hf ⊢
    obtain ⟨b, h1, h2⟩ := mod_l0 p hl hf secTab [] 0 rfl (by simp)
    refine ⟨b, Ev.step (fun _ => laws_modelled.l0.eq_2 _ _ _) (Ev.neg (by omega) (Ev.pos (by omega) (Ev.bind h1 (Ev.now _)))), fun e => ?_⟩
    obtain ⟨g1, g2⟩ := h2 e
    exact ⟨by simp, g1, by simpa using g2⟩
  | cons d q ih =>
    intro p hl hf
    obtain ⟨b, hb, hs⟩ := ih (p ++ [d]) (by simpa using hl) (by simpa using hf)
    rw [show (p ++ [d]) ++ q = p ++ d :: q from by simp] at hb hs
    rw [show (((p ++ [d]).length : Nat) : Int) = (p.length : Int) + 1 from by simp] at hb
    have hd := hf d (by simp)
    have hpl : p.length ≤ 12 := by rw [List.length_append] at hl; omega
    have key : ∀ r, Ev (fun k => (spec_Apart.f k d.f2).bind fun t142 => if t142 = true then (if (d.f0).toList = ([109] : List UInt8) then ((laws_holds.f k d.f2 (⟨#[91]⟩ : ByteArray)).bind fun t145 => (if t145 = true then (some false) else ((laws_holds.f k d.f2 (⟨#[93]⟩ : ByteArray)).bind fun t147 => (if t147 = true then (some false) else (laws_modelled.l0 k (p ++ d :: q) ((p.length : Int) + 1)))))) else (laws_modelled.l0 k (p ++ d :: q) ((p.length : Int) + 1))) else (some false)) r → Ev (fun k => laws_modelled.l0 k (p ++ d :: q) (p.length : Int)) r := by
      intro r h
      refine Ev.step (fun _ => laws_modelled.l0.eq_2 _ _ _) (Ev.pos (by simp; omega) (Ev.pos (by omega) ?_))
      rw [rdD_mid p q d _ rfl, w64 (by omega) (by omega)]
      exact h
    have hap := Apart_f d.f2.data.toList (by have := hd.2.2; show d.f2.size ≤ _; omega)
    rw [B_data] at hap
    cases ha : apart [] 32 d.f2.data.toList with
    | false =>
      rw [ha] at hap
      exact ⟨false, key _ (Ev.bind hap (Ev.neg (by simp) (Ev.now _))), by simp⟩
    | true =>
      rw [ha] at hap
      have fin : (d.f0 = ⟨#[109]⟩ → 91 ∉ d.f2.data.toList ∧ 93 ∉ d.f2.data.toList) → b = true → (∀ x ∈ d :: q, apart [] 32 x.f2.data.toList = true ∧ (x.f0 = ⟨#[109]⟩ → 91 ∉ x.f2.data.toList ∧ 93 ∉ x.f2.data.toList)) ∧
          (∀ s ∈ secTab, (dOf (p ++ d :: q) s.1 ≠ [] ∨ s.1 = ⟨#[103]⟩) ∧ (dOf (p ++ d :: q) s.1).length ≤ 9 ∧ DOk s.1 1 (dOf (p ++ d :: q) s.1)) ∧ (secTab.map fun s => (dOf (p ++ d :: q) s.1).length).sum = (p ++ d :: q).length := by
        intro hm e
        obtain ⟨g1, g2, g3⟩ := hs e
        refine ⟨fun x hx => ?_, g2, g3⟩
        rcases List.mem_cons.1 hx with rfl | hx
        · exact ⟨ha, hm⟩
        · exact g1 x hx
      by_cases hm : d.f0 = ⟨#[109]⟩
      · have hm2 : (d.f0).toList = ([109] : List UInt8) := by rw [hm]; exact B_toList [109]
        have h91 := holds_f d.f2 91 hd.2.2
        have h93 := holds_f d.f2 93 hd.2.2
        by_cases m1 : 91 ∈ d.f2.data.toList
        · rw [decide_eq_true m1] at h91
          exact ⟨false, key _ (Ev.bind hap (Ev.pos rfl (Ev.pos hm2 (Ev.bind h91 (Ev.pos rfl (Ev.now _)))))), by simp⟩
        · rw [decide_eq_false m1] at h91
          by_cases m2 : 93 ∈ d.f2.data.toList
          · rw [decide_eq_true m2] at h93
            exact ⟨false, key _ (Ev.bind hap (Ev.pos rfl (Ev.pos hm2 (Ev.bind h91 (Ev.neg (by simp) (Ev.bind h93 (Ev.pos rfl (Ev.now _)))))))), by simp⟩
          · rw [decide_eq_false m2] at h93
            exact ⟨b, key _ (Ev.bind hap (Ev.pos rfl (Ev.pos hm2 (Ev.bind h91 (Ev.neg (by simp) (Ev.bind h93 (Ev.neg (by simp) hb))))))), fin (fun _ => ⟨m1, m2⟩)⟩
      · have hm2 : ¬ (d.f0).toList = ([109] : List UInt8) := fun e => hm ((toList_iff _ _).1 (by rw [e]; exact (B_toList [109]).symm))
        exact ⟨b, key _ (Ev.bind hap (Ev.pos rfl (Ev.neg hm2 hb))), fin (fun e => absurd e hm)⟩
theorem modelled_f (l : List S28) (hf : ∀ d ∈ l, FitD d) : ∃ b, Ev (fun k => laws_modelled.f k l) b ∧ (b = true → MOk l) := by
  by_cases h : (l.length : Int) > 12
  · exact ⟨false, Ev.pos h (Ev.now _), by simp⟩
  · obtain ⟨b, h1, h2⟩ := modelled_loop l [] (by simp; omega) (by simpa using hf)
    refine ⟨b, Ev.neg h h1, fun e => ?_⟩
    obtain ⟨g1, g2, g3⟩ := h2 e
    exact ⟨by omega, fun d hd => (g1 d hd).1, fun d hd => (g1 d hd).2, g2, g3⟩

/-! ### What is meant, and the law -/
def meanD (d : S28) : S28 := ⟨d.f0, d.f1, meansB d.f0 d.f2⟩
theorem means_loop (x0 : List S28) (hx : x0.length ≤ 12) (hf : ∀ d ∈ x0, FitD d) : ∀ (q p : List S28), x0 = p ++ q → Ev (fun k => spec_ModelMeans.l0 k x0 (p.map meanD) (p.length : Int)) (x0.map meanD) := by
  intro q
  induction q with
  | nil =>
    intro p hp
    rw [List.append_nil] at hp
    subst hp
    exact Ev.step (fun _ => spec_ModelMeans.l0.eq_2 _ _ _ _) (Ev.neg (by omega) (Ev.now _))
  | cons d q ih =>
    intro p hp
    have hpl : p.length ≤ 12 := by rw [hp, List.length_append] at hx; omega
    have ih := ih (p ++ [d]) (by rw [hp]; simp)
    rw [show (((p ++ [d]).length : Nat) : Int) = (p.length : Int) + 1 from by simp, List.map_append] at ih
    have hrd : rd_T28 x0 (p.length : Int) = d := by rw [hp]; exact rdD_mid p q d _ rfl
    have hd := hf d (by rw [hp]; simp)
    have he := Escaped_f d.f2.data.toList (by have := hd.2.2; show d.f2.size ≤ _; omega)
    rw [B_data] at he
    refine Ev.step (fun _ => spec_ModelMeans.l0.eq_2 _ _ _ _) (Ev.pos (by rw [hp]; simp; omega) (Ev.pos (by omega) ?_))
    rw [hrd, w64 (by omega) (by omega)]
    have t1 : ∀ c : UInt8, (d.f0).toList = ([c] : List UInt8) ↔ d.f0 = ⟨#[c]⟩ := fun c => ⟨fun e => (toList_iff _ _).1 (by rw [e]; exact (B_toList [c]).symm), fun e => by rw [e]; exact B_toList [c]⟩
    have hml : (p.map meanD).length < 2932031007402 := by rw [List.length_map]; omega
    by_cases h1 : (d.f0).toList = ([101] : List UInt8)
    · refine Ev.pos h1 (Ev.bind he (Ev.pos hml ?_))
      rw [show (⟨d.f0, d.f1, B (esc true [] d.f2.data.toList)⟩ : S28) = meanD d from by unfold meanD meansB; rw [if_pos (.inl ((t1 101).1 h1))]]
      exact ih
    · by_cases h2 : (d.f0).toList = ([109] : List UInt8)
      · refine Ev.neg h1 (Ev.pos h2 (Ev.bind he (Ev.pos hml ?_)))
        rw [show (⟨d.f0, d.f1, B (esc true [] d.f2.data.toList)⟩ : S28) = meanD d from by unfold meanD meansB; rw [if_pos (.inr ((t1 109).1 h2))]]
        exact ih
      · refine Ev.neg h1 (Ev.neg h2 (Ev.pos hml ?_))
        rw [show (⟨d.f0, d.f1, d.f2⟩ : S28) = meanD d from by unfold meanD meansB; rw [if_neg (fun e => e.elim (fun e => h1 ((t1 101).2 e)) (fun e => h2 ((t1 109).2 e)))]]
        exact ih
theorem means_f (l : List S28) (hx : l.length ≤ 12) (hf : ∀ d ∈ l, FitD d) : Ev (fun k => spec_ModelMeans.f k l) (l.map meanD) := means_loop l hx hf l [] rfl
theorem secs_perm (l : List S28) : ∀ T : List (ByteArray × ByteArray), (T.map (·.1)).Nodup → (T.flatMap fun s => dOf l s.1).Perm (l.filter fun d => T.any fun s => decide (d.f0 = s.1))
  | [], _ => by simp
  | t :: T, hn => by
    rw [List.map_cons, List.nodup_cons] at hn
    have ih := secs_perm l T hn.2
    have hp := List.filter_append_perm (fun d : S28 => decide (d.f0 = t.1)) (l.filter fun d => (t :: T).any fun s => decide (d.f0 = s.1))
    rw [List.filter_filter, List.filter_filter] at hp
    have e1 : (l.filter fun d => decide (d.f0 = t.1) && (t :: T).any fun s => decide (d.f0 = s.1)) = dOf l t.1 := by
      refine List.filter_congr (fun d _ => ?_)
      by_cases h : d.f0 = t.1 <;> simp [h]
    have e2 : (l.filter fun d => (!decide (d.f0 = t.1)) && (t :: T).any fun s => decide (d.f0 = s.1)) = l.filter fun d => T.any fun s => decide (d.f0 = s.1) := by
      refine List.filter_congr (fun d _ => ?_)
      by_cases h : d.f0 = t.1
      · have : (T.any fun s => decide (d.f0 = s.1)) = false := by
          rw [List.any_eq_false]
          intro s hs e
          exact hn.1 (by rw [← h, of_decide_eq_true e]; exact List.mem_map_of_mem hs)
        rw [this, decide_eq_true h]
        rfl
      · rw [List.any_cons, decide_eq_false h]
        rfl
    rw [e1, e2] at hp
    rw [List.flatMap_cons]
    exact (List.Perm.append_left _ ih).trans hp
theorem same_true {a b : List S28} (h : a.Perm b) : sameB a b = true := by
  unfold sameB
  rw [decide_eq_true h.length_eq, Bool.true_and, List.all_eq_true]
  exact fun d _ => decide_eq_true (h.filter _).length_eq
/-! ### Assertions that are added one by one -/
def keyOf (d : S28) : ByteArray × ByteArray := (d.f0, d.f1)
theorem defs_put (sec key : ByteArray) (x : Asr) (hs : sec ≠ logB) : ∀ ab : Ab, (∀ d ∈ defsAb ab, keyOf d ≠ (sec, key)) → (defsAb (putD ab sec key x)).Perm (defsAb ab ++ [⟨sec, key, x.1⟩])
  | [], _ => by
    have : defsAb (putD [] sec key x) = [⟨sec, key, x.1⟩] := by
      show (if sec = logB then [] else _) ++ [] = _
      rw [if_neg hs]; rfl
    rw [this]; exact List.Perm.refl _
  | q :: m, h => by
    have e : ∀ q : ByteArray × List (ByteArray × Asr), defsAb (q :: m) = (if q.1 = logB then [] else q.2.map fun y => (⟨q.1, y.1, y.2.1⟩ : S28)) ++ defsAb m := fun q => rfl
    have e2 : ∀ (q : ByteArray × List (ByteArray × Asr)) (m : Ab), defsAb (q :: m) = (if q.1 = logB then [] else q.2.map fun y => (⟨q.1, y.1, y.2.1⟩ : S28)) ++ defsAb m := fun q m => rfl
    rw [putD_cons]
    by_cases g : sec = q.1
    · rw [if_pos g]
      rw [g] at hs h ⊢
      rw [e2, e2]
      rw [e2, if_neg hs] at h
      simp only
      rw [if_neg hs, if_neg hs, putC_none (fun p hp ek => h ⟨q.1, p.1, p.2.1⟩ (List.mem_append_left _ (List.mem_map_of_mem (f := fun y : ByteArray × Asr => (⟨q.1, y.1, y.2.1⟩ : S28)) hp)) (by unfold keyOf; rw [ek]))]
      rw [List.map_append, List.append_assoc, List.append_assoc]
      exact List.Perm.append_left _ List.perm_append_comm
    · rw [if_neg g, e2, e2, List.append_assoc]
      rw [e2] at h
      exact List.Perm.append_left _ (defs_put sec key x hs m (fun d hd => h d (List.mem_append_right _ hd)))
def GoodD (d : S28) : Prop := d.f0 ≠ logB ∧ ∃ x : Asr, Ev (fun k => cook k d.f0 d.f1 d.f2) x ∧ x.1 = meansB d.f0 d.f2
def fullD (d : S28) : Bool := !decide (d.f2.size = 0)
theorem adds_ok : ∀ (l : List S28) (ab : Ab), (∀ d ∈ l, fullD d = true → GoodD d) → ((defsAb ab ++ l.filter fullD).map keyOf).Nodup →
    ∃ abF, Ev (fun k => addsAb k ab l) (l.map fullD, abF) ∧ (defsAb abF).Perm (defsAb ab ++ (l.filter fullD).map meanD)
  | [], ab, _, _ => ⟨ab, Ev.now _, by simp⟩
  | d :: l, ab, hg, hn => by
    have step : ∀ (b : Bool) (ab2 : Ab), fullD d = b → Ev (fun k => addStep k ab d) (b, ab2) → (∃ abF, Ev (fun k => addsAb k ab2 l) (l.map fullD, abF) ∧ (defsAb abF).Perm (defsAb ab2 ++ (l.filter fullD).map meanD)) → (defsAb ab2).Perm (defsAb ab ++ (if b then [meanD d] else [])) →
        ∃ abF, Ev (fun k => addsAb k ab (d :: l)) ((d :: l).map fullD, abF) ∧ (defsAb abF).Perm (defsAb ab ++ ((d :: l).filter fullD).map meanD) := by
      rintro b ab2 hb hs ⟨abF, h1, h2⟩ hp
      obtain ⟨K, hK⟩ := h1
      refine ⟨abF, Ev.bind hs ⟨K, fun k hk => ?_⟩, h2.trans ?_⟩
      · simp only [hK k hk, Option.map_some, List.map_cons, hb]
      · rw [List.filter_cons, hb]
        cases b with
        | false => simpa using List.Perm.append_right _ hp
        | true =>
          have := List.Perm.append_right ((l.filter fullD).map meanD) hp
          simpa using this
    cases hf : fullD d with
    | false =>
      have h0 : d.f2.size = 0 := by unfold fullD at hf; simpa using hf
      refine step false ab hf (Ev.pos h0 (Ev.now _)) (adds_ok l ab (fun x hx => hg x (List.mem_cons_of_mem _ hx)) ?_) (by simp)
      rw [List.filter_cons, hf, if_neg (by simp)] at hn
      exact hn
    | true =>
      have h0 : ¬ d.f2.size = 0 := by unfold fullD at hf; simpa using hf
      obtain ⟨hlog, x, hx, hx1⟩ := hg d (List.mem_cons_self ..) hf
      rw [List.filter_cons, hf, if_pos rfl, List.map_append, List.map_cons] at hn
      have hmid := List.perm_middle.nodup_iff.1 hn
      rw [List.nodup_cons] at hmid
      have hp := defs_put d.f0 d.f1 x hlog ab (fun y hy ek => hmid.1 (List.mem_append_left _ (by
        have := List.mem_map_of_mem (f := keyOf) hy
        rw [ek] at this
        exact this)))
      have hq : (defsAb (putD ab d.f0 d.f1 x)).Perm (defsAb ab ++ [meanD d]) := by
        unfold meanD
        rw [← hx1]; exact hp
      obtain ⟨K, hK⟩ := hx
      refine step true (putD ab d.f0 d.f1 x) hf (Ev.neg h0 ⟨K, fun k hk => by simp only [hK k hk, Option.map_some]⟩) (adds_ok l _ (fun x hx => hg x (List.mem_cons_of_mem _ hx)) ?_) (by simpa using hq)
      rw [List.map_append]
      have hk := (hq.map keyOf).append_right ((l.filter fullD).map keyOf)
      refine (hk.nodup_iff).2 ?_
      rw [List.map_append, List.append_assoc]
      exact hn
theorem keys_nodup {l : List S28} (h : MOk l) : (l.map keyOf).Nodup := by
  have hp := secs_perm l secTab secTab_names.1
  have hl : (l.filter fun d => secTab.any fun s => decide (d.f0 = s.1)).length = l.length := by
    rw [← hp.length_eq, List.length_flatMap]
    exact h.sum
  rw [List.filter_eq_self.2 (List.length_filter_eq_length_iff.1 hl)] at hp
  refine ((hp.map keyOf).nodup_iff).1 ?_
  have each : ∀ s ∈ secTab, ((dOf l s.1).map keyOf).Nodup := fun s hs => by
    have := (h.secs s hs).2.2
    have hk := DOk.keys hs this (Nat.le_refl _) (by have := (h.secs s hs).2.1; omega)
    have e : (dOf l s.1).map (fun d => d.f1.data.toList) = ((dOf l s.1).map keyOf).map (fun p => p.2.data.toList) := by rw [List.map_map]; rfl
    rw [e] at hk
    exact List.Pairwise.imp (fun h e => h (by rw [e])) (List.pairwise_map.1 hk)
  have gen : ∀ T : List (ByteArray × ByteArray), (∀ s ∈ T, ((dOf l s.1).map keyOf).Nodup) → (T.map (·.1)).Nodup → ((T.flatMap fun s => dOf l s.1).map keyOf).Nodup := by
    intro T
    induction T with
    | nil => intro _ _; simp
    | cons t T ih =>
      intro hT hn
      rw [List.map_cons, List.nodup_cons] at hn
      rw [List.flatMap_cons, List.map_append, List.nodup_append]
      refine ⟨hT t (List.mem_cons_self ..), ih (fun s hs => hT s (List.mem_cons_of_mem _ hs)) hn.2, fun a ha b hb e => ?_⟩
      obtain ⟨x, hx, rfl⟩ := List.mem_map.1 ha
      obtain ⟨y, hy, rfl⟩ := List.mem_map.1 hb
      obtain ⟨s, hs, hy⟩ := List.mem_flatMap.1 hy
      have e1 : x.f0 = y.f0 := congrArg Prod.fst e
      rw [(dOf_mem hx).2, (dOf_mem hy).2] at e1
      exact hn.1 (by rw [e1]; exact List.mem_map_of_mem hs)
  exact gen secTab each secTab_names.1

theorem ab0_none : defsAb ab0 = [] := by
  unfold defsAb ab0
  simp
def P9 : S28 := ⟨⟨#[112]⟩, ⟨#[112, 57]⟩, ⟨#[]⟩⟩
theorem full_good {l : List S28} (h : MOk l) (hd : ∀ d ∈ l, ∃ s ∈ secTab, d.f0 = s.1) : ∀ d ∈ l, fullD d = true ∧ GoodD d := by
  intro d hdl
  obtain ⟨s, hs, e⟩ := hd d hdl
  have hdo : d ∈ dOf l s.1 := List.mem_filter.2 ⟨hdl, decide_eq_true e⟩
  obtain ⟨h1, h2, m, h3, h4, h5⟩ := DOk.mem (h.secs s hs).2.2 d hdo
  have h9 := (h.secs s hs).2.1
  refine ⟨?_, ?_, ?_⟩
  · unfold fullD
    rw [decide_eq_false (show ¬ d.f2.size = 0 from fun e0 => h1.ne (List.length_eq_zero_iff.1 e0))]
    rfl
  · rw [e]
    rcases tab_secs s hs with e2 | e2 | e2 | e2 | e2 <;> rw [e2] <;> decide
  · rw [h5, e]
    refine cook_f s.1 (s.1 ++ numB m) d.f2 (tab_secs s hs) ?_ h1 (h.ap d hdl) h2 (fun e3 => h.br d hdl (e.trans e3))
    have hk := (tab_key hs (i := m) (by omega)).len
    show (s.1 ++ numB m).size ≤ _
    have : (keyB s.1 m).length = (s.1 ++ numB m).size := rfl
    omega
theorem in_tab {l : List S28} (h : MOk l) : ∀ d ∈ l, ∃ s ∈ secTab, d.f0 = s.1 := by
  have hp := secs_perm l secTab secTab_names.1
  have hl : (l.filter fun d => secTab.any fun s => decide (d.f0 = s.1)).length = l.length := by
    rw [← hp.length_eq, List.length_flatMap]
    exact h.sum
  intro d hd
  have := List.length_filter_eq_length_iff.1 hl d hd
  obtain ⟨s, hs, e⟩ := List.any_eq_true.1 this
  exact ⟨s, hs, of_decide_eq_true e⟩
theorem done_loop (l : List S28) (m : Nat) (B : List Bool) (D : List S28) (hB : B.length ≤ 1000) (hb : ∀ i, i < B.length → B.getD i false = decide (i ≠ m))
    (hgo : Ev (fun k => (spec_ModelMeans.f k l).bind fun t211 => (spec_SameDefs.f k D t211).bind fun t214 => if t214 = true then (laws_awakeModel.f k).bind fun t215 => some t215 else some false) true) :
    ∀ (n i : Nat), i + n = B.length → Ev (fun k => laws_FnModelAdd.l0 k l (m : Int) B D (i : Int)) true
  | 0, i, h => Ev.step (fun _ => laws_FnModelAdd.l0.eq_2 _ _ _ _ _ _) (Ev.neg (by omega) hgo)
  | n + 1, i, h => by
    have ih := done_loop l m B D hB hb hgo n (i + 1) (by omega)
    rw [show (((i + 1 : Nat)) : Int) = (i : Int) + 1 from by simp] at ih
    have hbi := hb i (by omega)
    refine Ev.step (fun _ => laws_FnModelAdd.l0.eq_2 _ _ _ _ _ _) (Ev.pos (by omega) (Ev.pos (by omega) (Ev.neg ?_ ?_)))
    · have e : rdOf false B (i : Int) = decide (i ≠ m) := by rw [← hbi]; rfl
      rw [e]
      by_cases hm : i = m
      · subst hm; simp
      · have : ¬ (i : Int) = (m : Int) := by omega
        simp [hm, this]
    · rw [w64 (by omega) (by omega)]
      exact ih
theorem FnModelAdd (l : List S28) (a : Int) (_ : l.length ≤ 9223372036854775807) (_ : ∀ x ∈ l, True) (_ : (Lit.int .i64 a).wf = true) : ∃ k, laws_FnModelAdd.f k l a = some true := by
  obtain ⟨bf, hf, hs⟩ := fits19 l
  have all : Ev (fun k => laws_FnModelAdd.f k l a) true := by
    unfold laws_FnModelAdd.f
    refine Ev.bind hf ?_
    cases bf with
    | false => exact Ev.neg (by simp) (Ev.now _)
    | true =>
      obtain ⟨bm, hm, hms⟩ := modelled_f l (hs rfl)
      refine Ev.pos rfl (Ev.bind hm ?_)
      cases bm with
      | false => exact Ev.neg (by simp) (Ev.bind awake (Ev.now _))
      | true =>
        have hM := hms rfl
        have h12 := hM.few
        have hw1 : wrap64 ((l.length : Int) + 1) = (l.length : Int) + 1 := w64 (by omega) (by omega)
        have hu1 : IntKind.u64.wrap ((l.length : Int) + 1) = (l.length : Int) + 1 := by
          show ((l.length : Int) + 1) % 18446744073709551616 = _
          omega
        have hw : ∃ m : Nat, m ≤ l.length ∧ Int.tmod (IntKind.u64.wrap a) ((l.length : Int) + 1) = (m : Int) := by
          have h0 : 0 ≤ IntKind.u64.wrap a := by
            show 0 ≤ a % 18446744073709551616
            omega
          rw [Int.tmod_eq_emod_of_nonneg h0]
          have e1 := Int.emod_nonneg (IntKind.u64.wrap a) (b := (l.length : Int) + 1) (by omega)
          have e2 := Int.emod_lt_of_pos (IntKind.u64.wrap a) (b := (l.length : Int) + 1) (by omega)
          exact ⟨(IntKind.u64.wrap a % ((l.length : Int) + 1)).toNat, by omega, by omega⟩
        obtain ⟨m, hml, e⟩ := hw
        have hwm : wrap64 (m : Int) = (m : Int) := w64 (by omega) (by omega)
        have hgood := full_good hM (in_tab hM)
        have fl : ∀ q : List S28, (∀ d ∈ q, d ∈ l) → q.filter fullD = q := fun q hq => List.filter_eq_self.2 (fun d hd => (hgood d (hq d hd)).1)
        have p9 : fullD P9 = false := by decide
        have hfil : (([] ++ l.take m) ++ [P9] ++ l.drop m).filter fullD = l := by
          rw [List.filter_append, List.filter_append, List.nil_append, fl _ (fun d hd => List.mem_of_mem_take hd), fl _ (fun d hd => List.mem_of_mem_drop hd), List.filter_cons_of_neg (by rw [p9]; simp)]
          simp
        obtain ⟨abF, hA, hP⟩ := adds_ok (([] ++ l.take m) ++ [P9] ++ l.drop m) ab0 (fun d hd hfd => (hgood d (by
            rw [← hfil]
            exact List.mem_filter.2 ⟨hd, hfd⟩)).2) (by
          rw [hfil, ab0_none, List.nil_append]
          exact keys_nodup hM)
        rw [hfil, ab0_none, List.nil_append] at hP
        have hlen : (([] ++ l.take m) ++ [P9] ++ l.drop m).length = l.length + 1 := by
          simp only [List.length_append, List.length_take, List.length_drop, List.length_cons, List.length_nil]
          omega
        have hadd : Ev (fun k => impl_ModelAdd.f k (([] ++ l.take m) ++ [P9] ++ l.drop m)) ((([] ++ l.take m) ++ [P9] ++ l.drop m).map fullD, defsAb abF) :=
          Ev.pos (by omega) (Ev.bind hA (Ev.pos (by rw [hP.length_eq, List.length_map]; omega) (Ev.now _)))
        have hsame := same_f (defsAb abF) (l.map meanD) (by rw [hP.length_eq, List.length_map]; omega)
        rw [same_true hP] at hsame
        have hb : ∀ i, i < ((([] ++ l.take m) ++ [P9] ++ l.drop m).map fullD).length → ((([] ++ l.take m) ++ [P9] ++ l.drop m).map fullD).getD i false = decide (i ≠ m) := by
          intro i hi
          rw [List.length_map, hlen] at hi
          have e1 : (l.take m).map fullD = List.replicate m true := by
            rw [List.eq_replicate_iff]
            refine ⟨by rw [List.length_map, List.length_take]; omega, fun b hb => ?_⟩
            obtain ⟨d, hd, rfl⟩ := List.mem_map.1 hb
            exact (hgood d (List.mem_of_mem_take hd)).1
          have e2 : (l.drop m).map fullD = List.replicate (l.length - m) true := by
            rw [List.eq_replicate_iff]
            refine ⟨by rw [List.length_map, List.length_drop], fun b hb => ?_⟩
            obtain ⟨d, hd, rfl⟩ := List.mem_map.1 hb
            exact (hgood d (List.mem_of_mem_drop hd)).1
          rw [List.nil_append, List.map_append, List.map_append, e1, e2, List.map_cons, List.map_nil, p9, List.getD_eq_getElem?_getD, List.append_assoc]
          by_cases h1 : i < m
          · rw [List.getElem?_append_left (by simpa using h1), List.getElem?_replicate, if_pos h1, decide_eq_true (by omega)]
            rfl
          · rw [List.getElem?_append_right (by simpa using h1), List.length_replicate]
            by_cases h2 : i = m
            · subst h2; simp
            · obtain ⟨j, hj⟩ : ∃ j, i - m = j + 1 := ⟨i - m - 1, by omega⟩
              rw [hj, List.singleton_append, List.getElem?_cons_succ, List.getElem?_replicate, if_pos (by omega), decide_eq_true h2]
              rfl
        have hloop := done_loop l m _ (defsAb abF) (by rw [List.length_map, hlen]; omega) hb (Ev.bind (means_f l h12 (hs rfl)) (Ev.bind hsame (Ev.pos rfl (Ev.bind awake (Ev.now _))))) _ 0 (Nat.zero_add _)
        refine Ev.pos rfl ?_
        rw [hw1, hu1, e, hwm]
        refine Ev.neg (by omega) (Ev.bind (Ev.now _) (Ev.pos (by omega) (Ev.pos (by omega) (Ev.bind (Ev.now _) ?_))))
        rw [Int.toNat_natCast]
        refine Ev.pos (by simp only [List.length_nil, List.length_take]; omega) (Ev.bind (Ev.now _) (Ev.bind (Ev.now _) (Ev.pos (by simp only [List.length_append, List.length_nil, List.length_take, List.length_cons]; omega) (Ev.bind (Ev.now _) (Ev.bind (Ev.now _) (Ev.pos (by simp only [List.length_append, List.length_nil, List.length_take, List.length_cons, List.length_drop]; omega) (Ev.bind (Ev.now _) (Ev.bind hadd (Ev.pos ?_ ?_)))))))))
        · show (((([] ++ l.take m) ++ [P9] ++ l.drop m).map fullD).length : Int) = ((([] ++ l.take m) ++ [P9] ++ l.drop m).length : Int)
          rw [List.length_map]
        · exact hloop
  exact Ev.rounds (g := fun k => laws_FnModelAdd.f k l a) all

/-! ### How an assertion that reads as data is met -/
set_option maxRecDepth 100000 in
theorem opens_T28 : Opens.Opens Tryz.prog k28 28 (fun _ => True) := by
  intro H enc w base spare held n cs x h
  obtain ⟨xs, m, _, rfl, hl, hlen, hf⟩ := DataW.trod_struct Tryz.underlying28 h
  have h0 := hf 0 _ rfl
  have h1 := hf 1 _ rfl
  have h2 := hf 2 _ rfl
  have hc : Tryz.prog.cellsOf 28 = 3 := by kernel_rfl
  have hc9 : Tryz.prog.cellsOf 9 = 1 := by kernel_rfl
  rw [hc] at hl
  match cs, hl with
  | [a, b, c], _ =>
    match xs, hlen with
    | [y0, y1, y2], _ =>
      obtain ⟨s0, e0, _⟩ := Opens.opens_string Tryz.underlying9 h0
      obtain ⟨s1, e1, _⟩ := Opens.opens_string Tryz.underlying9 h1
      obtain ⟨s2, e2, _⟩ := Opens.opens_string Tryz.underlying9 h2
      replace e0 : ([a, b, c].drop 0).take (Tryz.prog.cellsOf 9) = [.string s0] := e0
      replace e1 : ([a, b, c].drop 1).take (Tryz.prog.cellsOf 9) = [.string s1] := e1
      replace e2 : ([a, b, c].drop 2).take (Tryz.prog.cellsOf 9) = [.string s2] := e2
      rw [hc9] at e0 e1 e2
      obtain rfl : a = .string s0 := by simpa using e0
      obtain rfl : b = .string s1 := by simpa using e1
      obtain rfl : c = .string s2 := by simpa using e2
      exact ⟨⟨s0, s1, s2⟩, k28_mk _ _, trivial⟩

end Go.Proofs.YtjglpjlbnmpdfaaGreatDoor.Pure
