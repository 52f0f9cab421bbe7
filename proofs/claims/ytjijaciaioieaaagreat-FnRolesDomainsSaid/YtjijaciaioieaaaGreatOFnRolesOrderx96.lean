/- The machine side of laws.FnRolesOrder: what laws.has and one question answer (plain words). No condition beyond what each theorem says. -/
import Derived.Test.YtjijaciaioieaaaGreatOFnRolesOrderx2
import Derived.Test.YtjijaciaioieaaaGreatOFnRolesOrderx95
import Derived.Test.YtjijaciaioieaaaGreatBase
namespace Go.Proofs.YtjijaciaioieaaaGreat.PFnRolesOrder
open Go.RowKit Go.Proofs.YtjijaciaioieaaaGreatW.PrintWords Go.Proofs.YtjijaciaioieaaaGreatW.PrintLast Go.Proofs.YtjijaciaioieaaaGreatW.PrintMore Go.Proofs.YtjijaciaioieaaaGreat.Base
attribute [local go_sem] max2_int min2_int max_two min_two max_three min_three max_four min_four   -- for this text's walks alone
set_option linter.unusedVariables false
set_option linter.unusedSimpArgs false
/-! ### whether a text is one of some; one question -/
theorem has_l0 (l : List ByteArray) (s : ByteArray) (hl : l.length < 9223372036854775807) (q : List ByteArray) : ∀ p, l = p ++ q → Ev (fun k => laws_has.l0 k l s (p.length : Int)) (decide (s ∈ q)) := by
 induction q with
 | nil =>
  intro p hp
  rw [List.append_nil] at hp
  subst hp
  rw [decide_eq_false (by simp)]
  exact Ev.step (fun _ => laws_has.l0.eq_2 _ _ _ _) (Ev.neg (by omega) (Ev.now _))
 | cons c q ih =>
  intro p hp
  have hlen : l.length = p.length + (q.length + 1) := by rw [hp]; simp
  have hr : rdOf ByteArray.empty l (p.length : Int) = c := by rw [hp]; exact rdOf_mid _ p q c _ rfl
  refine Ev.step (fun _ => laws_has.l0.eq_2 _ _ _ _) (Ev.pos (by omega) (Ev.pos (by omega) ?_))
  rw [hr, w64 (by omega) (by omega)]
  by_cases h : c.toList = s.toList
  ·rw [decide_eq_true (by rw [(toList_iff c s).1 h]; exact List.mem_cons_self ..)]
   exact Ev.pos h (Ev.now _)
  ·refine Ev.neg h ?_
   have e : decide (s ∈ c :: q) = decide (s ∈ q) := by
    rw [decide_eq_decide, List.mem_cons]
    exact ⟨fun g => g.resolve_left (fun e => h (by rw [e])), .inr⟩
   rw [e]
   have := ih (p ++ [c]) (by rw [hp]; simp)
   rw [show (((p ++ [c]).length : Nat) : Int) = (p.length : Int) + 1 by simp] at this
   exact this
theorem has_any (l : List ByteArray) (s : ByteArray) (hl : l.length < 9223372036854775807) : Ev (fun k => laws_has.f k l s) (decide (s ∈ l)) := has_l0 l s hl l [] rfl
def okRun (D : List S54) : Bool := decide (D.length ≤ 100000) && D.all okDeed
theorem question_yes (k : Nat) (lv : Int) (b : Bool) (D : List S54) (op : Int) (a c d : ByteArray) (h0 : 0 ≤ lv) (h1 : lv ≤ 20) (hD : okRun D = true) (hop : 0 ≤ op ∧ op ≤ 4) :
  laws_question.f k lv b D op a c d = some ((ansR lv b (deedsE b (fun _ => []) D) ⟨op, a, c, d⟩).f0, (ansR lv b (deedsE b (fun _ => []) D) ⟨op, a, c, d⟩).f1, (ansR lv b (deedsE b (fun _ => []) D) ⟨op, a, c, d⟩).f2, true) := by
 unfold okRun at hD
 rw [Bool.and_eq_true, decide_eq_true_iff] at hD
 have hr : impl_Roles.f k lv b 0 0 D [⟨op, a, c, d⟩] = some (D.map fun _ => 0, [ansR lv b (deedsE b (fun _ => []) D) ⟨op, a, c, d⟩]) := by
  have ho : okAsk ⟨op, a, c, d⟩ = true := by simp [okAsk, hop.1, hop.2]
  unfold impl_Roles.f
  rw [if_pos]
  ·rw [List.map_singleton, ansQ_few ho]
  simp only [Bool.and_eq_true, decide_eq_true_iff]
  refine ⟨⟨⟨⟨⟨⟨⟨h0, by omega⟩, trivial⟩, trivial⟩, hD.1⟩, by simp⟩, hD.2⟩, ?_⟩
  simp [okAsk5, ho]
 unfold laws_question.f
 rw [hr, Option.bind_some]
 show (laws_told1.f [_]).bind _ = _
 unfold laws_told1.f
 rw [if_neg (by simp), if_pos (by simp), Option.bind_some]
 rw [if_pos (by simp)]
 rfl
theorem question_no (k : Nat) (lv : Int) (b : Bool) (D : List S54) (op : Int) (a c d : ByteArray) (hD : okRun D = false) : laws_question.f k lv b D op a c d = none := by
 have hr : impl_Roles.f k lv b 0 0 D [⟨op, a, c, d⟩] = none := by
  unfold impl_Roles.f
  rw [if_neg]
  intro h
  simp only [Bool.and_eq_true, decide_eq_true_iff] at h
  unfold okRun at hD
  rw [decide_eq_true h.1.1.1.2, h.1.2] at hD
  cases hD
 unfold laws_question.f
 rw [hr]; rfl
theorem question_few {k : Nat} {lv : Int} {b : Bool} {D : List S54} {op : Int} {a c d : ByteArray} {n : Int} {is : Bool} {l : List ByteArray} {f : Bool} (h0 : 0 ≤ lv) (h1 : lv ≤ 20) (hop : 0 ≤ op ∧ op ≤ 4) (h : laws_question.f k lv b D op a c d = some (n, is, l, f)) : l.length < 9223372036854775807 := by
 cases hD : okRun D with
 | false => rw [question_no k lv b D op a c d hD] at h; cases h
 | true =>
  rw [question_yes k lv b D op a c d h0 h1 hD hop] at h
  simp only [Option.some.injEq, Prod.mk.injEq] at h
  obtain ⟨_, _, rfl, _⟩ := h
  unfold okRun at hD
  rw [Bool.and_eq_true, decide_eq_true_iff] at hD
  have h3 := (okLinks0.deeds b D hD.2).few (kd b d)
  generalize hE : deedsE b (fun _ => []) D (kd b d) = E at h3
  have key : ∀ q : S44, kd b q.f3 = kd b d → (ansR lv b (deedsE b (fun _ => []) D) q).f2.length ≤ E.length := fun q hq => by
   have hr : ∀ x y, y ∈ rolesE E x → y ∈ E.map (·.2) := fun x y h => by
    rw [rolesE_mem] at h
    exact List.mem_map.2 ⟨_, h, rfl⟩
   have hu : ∀ x y, y ∈ usersE E x → y ∈ E.map (·.1) := fun x y h => by
    rw [usersE_mem] at h
    exact List.mem_map.2 ⟨_, h, rfl⟩
   have hi : ∀ {nx : Nx} (T : List ByteArray) (hT : ∀ x y, y ∈ nx x → y ∈ T) (n : Nat) (a : ByteArray), (impl nx n a).length ≤ T.length := fun {nx} T hT n a => by
    refine few_of_nodup _ T (impl_iff nx n a).1 (fun x hx => ?_)
    obtain ⟨hne, k, _, hr⟩ := ((impl_iff nx n a).2 x).1 hx
    cases k with
    | zero => exact absurd hr hne
    | succ k =>
     obtain ⟨y, _, hy⟩ := hr
     exact hT y x hy
   unfold ansR
   rw [hq, hE]
   split
   ·exact Nat.zero_le _
   split
   ·show (rolesE E _).length ≤ _
    unfold rolesE; rw [List.length_map]; exact List.length_filter_le ..
   split
   ·show (usersE E _).length ≤ _
    unfold usersE; rw [List.length_map]; exact List.length_filter_le ..
   split
   ·exact Nat.le_trans (hi _ hr _ _) (by rw [List.length_map]; exact Nat.le_refl _)
   ·exact Nat.le_trans (hi _ hu _ _) (by rw [List.length_map]; exact Nat.le_refl _)
  have := key ⟨op, a, c, d⟩ rfl
  omega
end Go.Proofs.YtjijaciaioieaaaGreat.PFnRolesOrder
