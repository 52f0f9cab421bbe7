/- The machine side of laws.FnRolesReach: the law itself answers what its Lean function answers. No condition beyond what each theorem says. -/
import Derived.Test.YtjijaciaioieaaaGreatOFnRolesOrderx1
import Derived.Test.YtjijaciaioieaaaGreatOFnRolesOrderx2
import Derived.Test.YtjijaciaioieaaaGreatOFnRolesOrderx85
import Derived.Test.YtjijaciaioieaaaGreatOFnRolesOrderx95
import Derived.Test.YtjijaciaioieaaaGreatOFnRolesOrderx96
namespace Go.Proofs.YtjijaciaioieaaaGreat.PFnRolesOrder
open Go.RowKit Go.Proofs.YtjijaciaioieaaaGreatW.PrintWords Go.Proofs.YtjijaciaioieaaaGreatW.PrintLast Go.Proofs.YtjijaciaioieaaaGreatW.PrintMore
attribute [local go_sem] max2_int min2_int max_two min_two max_three min_three max_four min_four   -- for this text's walks alone
set_option linter.unusedVariables false
set_option linter.unusedSimpArgs false
/-! ### laws_FnRolesReach: function 7 -/
mutual
def laws_FnRolesReach.j0 : Nat → Bool → List (S28) → ByteArray → ByteArray → ByteArray → Bool → Option (Bool)
 | 0, _, _, _, _, _, _ => none
 | k + 1, x0, x1, x2, x3, x4, x39 => if x39 = true then (some true) else ((laws_links.f k x1 x0).bind fun t152 => (if t152 = true then ((laws_named.f k x2 x3 x4 x0).bind fun t153 => (laws_FnRolesReach.j1 k x0 x1 x2 x3 x4 (!t153))) else (laws_FnRolesReach.j1 k x0 x1 x2 x3 x4 true)))
def laws_FnRolesReach.j1 : Nat → Bool → List (S28) → ByteArray → ByteArray → ByteArray → Bool → Option (Bool)
 | 0, _, _, _, _, _, _ => none
 | k + 1, x0, x1, x2, x3, x4, x51 => if x51 = true then ((laws_awakeRoles.f k).bind fun t154 => (some t154)) else ((laws_added.f k x1).bind fun t155 => ((laws_question.f k 20 x0 t155 0 x2 x3 x4).bind fun bt158 => ((laws_question.f k 20 x0 t155 1 x2 (⟨#[]⟩ : ByteArray) x4).bind fun bt165 => ((laws_question.f k 20 x0 t155 3 x2 (⟨#[]⟩ : ByteArray) x4).bind fun bt172 => (if bt158.2.2.2 = true then (if bt165.2.2.2 = true then (if bt172.2.2.2 = true then (laws_FnRolesReach.j2 k x0 x2 x3 x4 t155 (bt158.1 != 0) bt158.1 bt158.2.1 bt158.2.2.1 bt165.1 bt165.2.1 bt165.2.2.1 bt172.1 bt172.2.1 bt172.2.2.1) else (laws_FnRolesReach.j2 k x0 x2 x3 x4 t155 true bt158.1 bt158.2.1 bt158.2.2.1 bt165.1 bt165.2.1 bt165.2.2.1 bt172.1 bt172.2.1 bt172.2.2.1)) else (laws_FnRolesReach.j2 k x0 x2 x3 x4 t155 true bt158.1 bt158.2.1 bt158.2.2.1 bt165.1 bt165.2.1 bt165.2.2.1 bt172.1 bt172.2.1 bt172.2.2.1)) else (laws_FnRolesReach.j2 k x0 x2 x3 x4 t155 true bt158.1 bt158.2.1 bt158.2.2.1 bt165.1 bt165.2.1 bt165.2.2.1 bt172.1 bt172.2.1 bt172.2.2.1))))))
def laws_FnRolesReach.j2 : Nat → Bool → ByteArray → ByteArray → ByteArray → List (S54) → Bool → Int → Bool → List ByteArray → Int → Bool → List ByteArray → Int → Bool → List ByteArray → Option (Bool)
 | 0, _, _, _, _, _, _, _, _, _, _, _, _, _, _, _ => none
 | k + 1, x0, x2, x3, x4, x11, x97, x165000, x165001, x165002, x172000, x172001, x172002, x179000, x179001, x179002 => if x97 = true then (some false) else (laws_FnRolesReach.l0 k x0 x2 x3 x4 x11 (x2.toList == x3.toList) 0 x165000 x165001 x165002 x172000 x172001 x172002 x179000 x179001 x179002)
def laws_FnRolesReach.l0 : Nat → Bool → ByteArray → ByteArray → ByteArray → List (S54) → Bool → Int → Int → Bool → List ByteArray → Int → Bool → List ByteArray → Int → Bool → List ByteArray → Option (Bool)
 | 0, _, _, _, _, _, _, _, _, _, _, _, _, _, _, _, _ => none
 | k + 1, x0, x2, x3, x4, x11, x18, x19, x165000, x165001, x165002, x172000, x172001, x172002, x179000, x179001, x179002 => if x19 < (x172002.length : Int) then (if 0 ≤ x19 then ((laws_question.f k 20 x0 x11 0 (rdOf ByteArray.empty x172002 x19) x3 x4).bind fun bt180 => (if bt180.2.2.2 = true then (if bt180.1 = 0 then (if x18 = true then (laws_FnRolesReach.l0 k x0 x2 x3 x4 x11 true (wrap64 (x19 + 1)) x165000 x165001 x165002 x172000 x172001 x172002 x179000 x179001 x179002) else (laws_FnRolesReach.l0 k x0 x2 x3 x4 x11 bt180.2.1 (wrap64 (x19 + 1)) x165000 x165001 x165002 x172000 x172001 x172002 x179000 x179001 x179002)) else (some false)) else (some false))) else (none)) else (if (x165001 == x18) = true then (if x2.toList = x3.toList then ((laws_awakeRoles.f k).bind fun t187 => (some t187)) else ((laws_has.f k x179002 x3).bind fun t188 => (if (t188 == x165001) = true then ((laws_awakeRoles.f k).bind fun t189 => (some t189)) else (some false)))) else (some false))
end
def laws_FnRolesReach.f (k : Nat) (a0 : Bool) (l1 : List (S28)) (a2 : ByteArray) (a3 : ByteArray) (a4 : ByteArray) : Option (Bool) := (laws_zzFits25.f k l1).bind fun t151 => (if t151 = true then (if (a2.size : Int) > 2147483647 then (laws_FnRolesReach.j0 k a0 l1 a2 a3 a4 true) else (if (a3.size : Int) > 2147483647 then (laws_FnRolesReach.j0 k a0 l1 a2 a3 a4 true) else (laws_FnRolesReach.j0 k a0 l1 a2 a3 a4 (decide ((a4.size : Int) > 2147483647))))) else (laws_FnRolesReach.j0 k a0 l1 a2 a3 a4 true))
theorem laws_FnRolesReach.mono_l : ∀ k, (∀ y0 y1 y2 y3 y4 y5, LeO (laws_FnRolesReach.j0 k y0 y1 y2 y3 y4 y5) (laws_FnRolesReach.j0 (k + 1) y0 y1 y2 y3 y4 y5)) ∧ (∀ y0 y1 y2 y3 y4 y5, LeO (laws_FnRolesReach.j1 k y0 y1 y2 y3 y4 y5) (laws_FnRolesReach.j1 (k + 1) y0 y1 y2 y3 y4 y5)) ∧ (∀ y0 y1 y2 y3 y4 y5 y6 y7 y8 y9 y10 y11 y12 y13 y14, LeO (laws_FnRolesReach.j2 k y0 y1 y2 y3 y4 y5 y6 y7 y8 y9 y10 y11 y12 y13 y14) (laws_FnRolesReach.j2 (k + 1) y0 y1 y2 y3 y4 y5 y6 y7 y8 y9 y10 y11 y12 y13 y14)) ∧ (∀ y0 y1 y2 y3 y4 y5 y6 y7 y8 y9 y10 y11 y12 y13 y14 y15, LeO (laws_FnRolesReach.l0 k y0 y1 y2 y3 y4 y5 y6 y7 y8 y9 y10 y11 y12 y13 y14 y15) (laws_FnRolesReach.l0 (k + 1) y0 y1 y2 y3 y4 y5 y6 y7 y8 y9 y10 y11 y12 y13 y14 y15))
 | 0 => ⟨fun _ _ _ _ _ _ r h => by simp [laws_FnRolesReach.j0] at h, fun _ _ _ _ _ _ r h => by simp [laws_FnRolesReach.j1] at h, fun _ _ _ _ _ _ _ _ _ _ _ _ _ _ _ r h => by simp [laws_FnRolesReach.j2] at h, fun _ _ _ _ _ _ _ _ _ _ _ _ _ _ _ _ r h => by simp [laws_FnRolesReach.l0] at h⟩
 | k + 1 => by
  obtain ⟨ih0, ih1, ih2, ih3⟩ := laws_FnRolesReach.mono_l k
  refine ⟨?_, ?_, ?_, ?_⟩
  ·intro y0 y1 y2 y3 y4 y5
   unfold laws_FnRolesReach.j0
   repeat' first
   | (with_reducible exact ih0 _ _ _ _ _ _)
   | (with_reducible exact ih1 _ _ _ _ _ _)
   | (with_reducible exact ih2 _ _ _ _ _ _ _ _ _ _ _ _ _ _ _)
   | (with_reducible exact ih3 _ _ _ _ _ _ _ _ _ _ _ _ _ _ _ _)
   | (with_reducible exact laws_added.mono _ _)
   | (with_reducible exact laws_awakeRoles.mono _)
   | (with_reducible exact laws_has.mono _ _ _)
   | (with_reducible exact laws_links.mono _ _ _)
   | (with_reducible exact laws_named.mono _ _ _ _ _)
   | (with_reducible exact laws_question.mono _ _ _ _ _ _ _ _)
   | (with_reducible exact laws_zzFits25.mono _ _)
   | (with_reducible exact LeO.refl _)
   | (with_reducible exact LeO.none _)
   | (with_reducible refine LeO.ite ?_ ?_)
   | (with_reducible refine LeO.bind ?_ (fun _ => ?_))
   | exact ih0 _ _ _ _ _ _
   | exact ih1 _ _ _ _ _ _
   | exact ih2 _ _ _ _ _ _ _ _ _ _ _ _ _ _ _
   | exact ih3 _ _ _ _ _ _ _ _ _ _ _ _ _ _ _ _
   | exact laws_added.mono _ _
   | exact laws_awakeRoles.mono _
   | exact laws_has.mono _ _ _
   | exact laws_links.mono _ _ _
   | exact laws_named.mono _ _ _ _ _
   | exact laws_question.mono _ _ _ _ _ _ _ _
   | exact laws_zzFits25.mono _ _
   | exact LeO.none _
   | refine LeO.ite ?_ ?_
   | refine LeO.bind ?_ (fun _ => ?_)
  ·intro y0 y1 y2 y3 y4 y5
   unfold laws_FnRolesReach.j1
   repeat' first
   | (with_reducible exact ih0 _ _ _ _ _ _)
   | (with_reducible exact ih1 _ _ _ _ _ _)
   | (with_reducible exact ih2 _ _ _ _ _ _ _ _ _ _ _ _ _ _ _)
   | (with_reducible exact ih3 _ _ _ _ _ _ _ _ _ _ _ _ _ _ _ _)
   | (with_reducible exact laws_added.mono _ _)
   | (with_reducible exact laws_awakeRoles.mono _)
   | (with_reducible exact laws_has.mono _ _ _)
   | (with_reducible exact laws_links.mono _ _ _)
   | (with_reducible exact laws_named.mono _ _ _ _ _)
   | (with_reducible exact laws_question.mono _ _ _ _ _ _ _ _)
   | (with_reducible exact laws_zzFits25.mono _ _)
   | (with_reducible exact LeO.refl _)
   | (with_reducible exact LeO.none _)
   | (with_reducible refine LeO.ite ?_ ?_)
   | (with_reducible refine LeO.bind ?_ (fun _ => ?_))
   | exact ih0 _ _ _ _ _ _
   | exact ih1 _ _ _ _ _ _
   | exact ih2 _ _ _ _ _ _ _ _ _ _ _ _ _ _ _
   | exact ih3 _ _ _ _ _ _ _ _ _ _ _ _ _ _ _ _
   | exact laws_added.mono _ _
   | exact laws_awakeRoles.mono _
   | exact laws_has.mono _ _ _
   | exact laws_links.mono _ _ _
   | exact laws_named.mono _ _ _ _ _
   | exact laws_question.mono _ _ _ _ _ _ _ _
   | exact laws_zzFits25.mono _ _
   | exact LeO.none _
   | refine LeO.ite ?_ ?_
   | refine LeO.bind ?_ (fun _ => ?_)
  ·intro y0 y1 y2 y3 y4 y5 y6 y7 y8 y9 y10 y11 y12 y13 y14
   unfold laws_FnRolesReach.j2
   repeat' first
   | (with_reducible exact ih0 _ _ _ _ _ _)
   | (with_reducible exact ih1 _ _ _ _ _ _)
   | (with_reducible exact ih2 _ _ _ _ _ _ _ _ _ _ _ _ _ _ _)
   | (with_reducible exact ih3 _ _ _ _ _ _ _ _ _ _ _ _ _ _ _ _)
   | (with_reducible exact laws_added.mono _ _)
   | (with_reducible exact laws_awakeRoles.mono _)
   | (with_reducible exact laws_has.mono _ _ _)
   | (with_reducible exact laws_links.mono _ _ _)
   | (with_reducible exact laws_named.mono _ _ _ _ _)
   | (with_reducible exact laws_question.mono _ _ _ _ _ _ _ _)
   | (with_reducible exact laws_zzFits25.mono _ _)
   | (with_reducible exact LeO.refl _)
   | (with_reducible exact LeO.none _)
   | (with_reducible refine LeO.ite ?_ ?_)
   | (with_reducible refine LeO.bind ?_ (fun _ => ?_))
   | exact ih0 _ _ _ _ _ _
   | exact ih1 _ _ _ _ _ _
   | exact ih2 _ _ _ _ _ _ _ _ _ _ _ _ _ _ _
   | exact ih3 _ _ _ _ _ _ _ _ _ _ _ _ _ _ _ _
   | exact laws_added.mono _ _
   | exact laws_awakeRoles.mono _
   | exact laws_has.mono _ _ _
   | exact laws_links.mono _ _ _
   | exact laws_named.mono _ _ _ _ _
   | exact laws_question.mono _ _ _ _ _ _ _ _
   | exact laws_zzFits25.mono _ _
   | exact LeO.none _
   | refine LeO.ite ?_ ?_
   | refine LeO.bind ?_ (fun _ => ?_)
  ·intro y0 y1 y2 y3 y4 y5 y6 y7 y8 y9 y10 y11 y12 y13 y14 y15
   unfold laws_FnRolesReach.l0
   repeat' first
   | (with_reducible exact ih0 _ _ _ _ _ _)
   | (with_reducible exact ih1 _ _ _ _ _ _)
   | (with_reducible exact ih2 _ _ _ _ _ _ _ _ _ _ _ _ _ _ _)
   | (with_reducible exact ih3 _ _ _ _ _ _ _ _ _ _ _ _ _ _ _ _)
   | (with_reducible exact laws_added.mono _ _)
   | (with_reducible exact laws_awakeRoles.mono _)
   | (with_reducible exact laws_has.mono _ _ _)
   | (with_reducible exact laws_links.mono _ _ _)
   | (with_reducible exact laws_named.mono _ _ _ _ _)
   | (with_reducible exact laws_question.mono _ _ _ _ _ _ _ _)
   | (with_reducible exact laws_zzFits25.mono _ _)
   | (with_reducible exact LeO.refl _)
   | (with_reducible exact LeO.none _)
   | (with_reducible refine LeO.ite ?_ ?_)
   | (with_reducible refine LeO.bind ?_ (fun _ => ?_))
   | exact ih0 _ _ _ _ _ _
   | exact ih1 _ _ _ _ _ _
   | exact ih2 _ _ _ _ _ _ _ _ _ _ _ _ _ _ _
   | exact ih3 _ _ _ _ _ _ _ _ _ _ _ _ _ _ _ _
   | exact laws_added.mono _ _
   | exact laws_awakeRoles.mono _
   | exact laws_has.mono _ _ _
   | exact laws_links.mono _ _ _
   | exact laws_named.mono _ _ _ _ _
   | exact laws_question.mono _ _ _ _ _ _ _ _
   | exact laws_zzFits25.mono _ _
   | exact LeO.none _
   | refine LeO.ite ?_ ?_
   | refine LeO.bind ?_ (fun _ => ?_)
theorem laws_FnRolesReach.mono : ∀ a0 a1 a2 a3 a4 k, LeO (laws_FnRolesReach.f k a0 a1 a2 a3 a4) (laws_FnRolesReach.f (k + 1) a0 a1 a2 a3 a4) := by
 intro a0 a1 a2 a3 a4 k
 obtain ⟨ih0, ih1, ih2, ih3⟩ := laws_FnRolesReach.mono_l k
 unfold laws_FnRolesReach.f
 repeat' first
   | (with_reducible exact ih0 _ _ _ _ _ _)
   | (with_reducible exact ih1 _ _ _ _ _ _)
   | (with_reducible exact ih2 _ _ _ _ _ _ _ _ _ _ _ _ _ _ _)
   | (with_reducible exact ih3 _ _ _ _ _ _ _ _ _ _ _ _ _ _ _ _)
   | (with_reducible exact laws_added.mono _ _)
   | (with_reducible exact laws_awakeRoles.mono _)
   | (with_reducible exact laws_has.mono _ _ _)
   | (with_reducible exact laws_links.mono _ _ _)
   | (with_reducible exact laws_named.mono _ _ _ _ _)
   | (with_reducible exact laws_question.mono _ _ _ _ _ _ _ _)
   | (with_reducible exact laws_zzFits25.mono _ _)
   | (with_reducible exact LeO.refl _)
   | (with_reducible exact LeO.none _)
   | (with_reducible refine LeO.ite ?_ ?_)
   | (with_reducible refine LeO.bind ?_ (fun _ => ?_))
   | exact ih0 _ _ _ _ _ _
   | exact ih1 _ _ _ _ _ _
   | exact ih2 _ _ _ _ _ _ _ _ _ _ _ _ _ _ _
   | exact ih3 _ _ _ _ _ _ _ _ _ _ _ _ _ _ _ _
   | exact laws_added.mono _ _
   | exact laws_awakeRoles.mono _
   | exact laws_has.mono _ _ _
   | exact laws_links.mono _ _ _
   | exact laws_named.mono _ _ _ _ _
   | exact laws_question.mono _ _ _ _ _ _ _ _
   | exact laws_zzFits25.mono _ _
   | exact LeO.none _
   | refine LeO.ite ?_ ?_
   | refine LeO.bind ?_ (fun _ => ?_)
def laws_FnRolesReach.T19 : Bool × List (List Nat × List Nat) := (true, [([], []), ([0], [0]), ([], []), ([1, 2], [1, 2]), ([3], [3]), ([4], [4]), ([4], [4]), ([5, 6, 4], [4, 5, 6]), ([7, 4, 4], [4, 7]), ([8], [8]), ([9, 8], [8, 9]), ([8], [8]), ([10, 11, 8, 8], [8, 10, 11]), ([8], [8]), ([13, 8], [8, 13]), ([12, 14, 8], [8, 12, 14]), ([8, 15, 4], [4, 8, 15]), ([4, 16], [4, 16]), ([17, 12], [17]), ([18, 18], [18]), ([18, 19], [18, 19]), ([20, 19, 0, 1, 2, 3, 4, 5, 6, 7, 8, 9, 10, 11, 12, 13, 14, 15, 16, 17, 18, 19, 20], [20])])
def laws_FnRolesReach.B19 : List Nat := [0, 1, 0, 7, 15, 31, 31, 127, 255, 511, 1023, 511, 4095, 511, 8703, 32767, 65535, 131071, 262143, 524287, 1048575, 2097151]
theorem laws_FnRolesReach.tab19 : rtab .any (opsOf Tryz.f7 19) = laws_FnRolesReach.T19 := by kernel_rfl
theorem laws_FnRolesReach.bits19 : waitsOk laws_FnRolesReach.T19.2 laws_FnRolesReach.B19 = true := by kernel_rfl
section
open Go.Proofs.YtjijaciaioieaaaGreat.Base
theorem reach_awake : Ev (fun k => laws_awakeRoles.f k) true := Ev.of (k := 5) (fun k => laws_awakeRoles.mono k) (by decide +kernel)
theorem Ev_one {α : Type} {g : Nat → Option α} {r s : α} (h : Ev g r) (hm : ∀ k, LeO (g k) (g (k + 1))) {k : Nat} (hk : g k = some s) : s = r := by
 obtain ⟨K, hK⟩ := h
 have h1 := at_rounds hm (Nat.le_max_left k K) hk
 have h2 := hK (max k K) (Nat.le_max_right k K)
 rw [h1] at h2
 exact Option.some.inj h2
/-- what the law answers, once it is known whether a is it or one of its roles has it -/
def reachA (a c : ByteArray) (is w : Bool) (I : List ByteArray) : Bool := if (is == w) = true then (if a.toList = c.toList then true else (decide (c ∈ I) == is)) else false
theorem reach_tail (a c : ByteArray) (is w : Bool) (I : List ByteArray) (hI : I.length < 9223372036854775807) : Ev (fun k => if (is == w) = true then (if a.toList = c.toList then ((laws_awakeRoles.f k).bind fun t187 => (some t187)) else ((laws_has.f k I c).bind fun t188 => (if (t188 == is) = true then ((laws_awakeRoles.f k).bind fun t189 => (some t189)) else (some false)))) else (some false)) (reachA a c is w I) := by
 unfold reachA
 by_cases h1 : (is == w) = true
 ·rw [if_pos h1]
  refine Ev.pos h1 ?_
  by_cases h2 : a.toList = c.toList
  ·rw [if_pos h2]
   exact Ev.pos h2 (Ev.bind reach_awake (Ev.now _))
  ·rw [if_neg h2]
   refine Ev.neg h2 (Ev.bind (has_any I c hI) ?_)
   cases h3 : (decide (c ∈ I) == is) with
   | true => exact Ev.pos rfl (Ev.bind reach_awake (Ev.now _))
   | false => exact Ev.neg (by simp) (Ev.now _)
 ·rw [if_neg h1]
  exact Ev.neg h1 (Ev.now _)
def reachV (b : Bool) (D : List S54) (c d x : ByteArray) : Bool := (ansR 20 b (deedsE b (fun _ => []) D) ⟨0, x, c, d⟩).f1
theorem reach_l0 (b : Bool) (a c d : ByteArray) (D : List S54) (hD : okRun D = true) (n1 : Int) (is : Bool) (s1 : List ByteArray) (n2 : Int) (i2 : Bool) (R : List ByteArray) (n3 : Int) (i3 : Bool) (I : List ByteArray) (hR : R.length < 9223372036854775807) (hI : I.length < 9223372036854775807) (q : List ByteArray) : ∀ (p : List ByteArray) (w : Bool), R = p ++ q →
  Ev (fun k => laws_FnRolesReach.l0 k b a c d D w (p.length : Int) n1 is s1 n2 i2 R n3 i3 I) (reachA a c is (w || q.any (reachV b D c d)) I) := by
 induction q with
 | nil =>
  intro p w hp
  rw [List.append_nil] at hp
  subst hp
  rw [List.any_nil, Bool.or_false]
  exact Ev.step (fun _ => laws_FnRolesReach.l0.eq_2 _ _ _ _ _ _ _ _ _ _ _ _ _ _ _ _ _) (Ev.neg (by omega) (reach_tail a c is w I hI))
 | cons x q ih =>
  intro p w hp
  have hlen : R.length = p.length + (q.length + 1) := by rw [hp]; simp
  have hr : rdOf ByteArray.empty R (p.length : Int) = x := by rw [hp]; exact rdOf_mid _ p q x _ rfl
  refine Ev.step (fun _ => laws_FnRolesReach.l0.eq_2 _ _ _ _ _ _ _ _ _ _ _ _ _ _ _ _ _) (Ev.pos (by omega) (Ev.pos (by omega) ?_))
  rw [hr, w64 (by omega) (by omega)]
  refine Ev.bind (Ev.at (fun k => question_yes k 20 b D 0 x c d (by omega) (by omega) hD ⟨by omega, by omega⟩)) (Ev.pos rfl (Ev.pos rfl ?_))
  have hn : ∀ w', Ev (fun k => laws_FnRolesReach.l0 k b a c d D w' ((p.length : Int) + 1) n1 is s1 n2 i2 R n3 i3 I) (reachA a c is (w' || q.any (reachV b D c d)) I) := fun w' => by
   have := ih (p ++ [x]) w' (by rw [hp]; simp)
   rw [show (((p ++ [x]).length : Nat) : Int) = (p.length : Int) + 1 by simp] at this
   exact this
  by_cases hw : w = true
  ·subst hw
   rw [Bool.true_or]
   refine Ev.pos rfl ?_
   have := hn true
   rw [Bool.true_or] at this
   exact this
  ·refine Ev.neg hw ?_
   rw [Bool.not_eq_true] at hw
   subst hw
   rw [List.any_cons, Bool.false_or]
   exact hn (reachV b D c d x)
theorem any_perm {α : Type} {f : α → Bool} {l m : List α} (h : l.Perm m) : l.any f = m.any f := by
 rw [Bool.eq_iff_iff, List.any_eq_true, List.any_eq_true]
 exact ⟨fun ⟨x, hx, hf⟩ => ⟨x, h.mem_iff.1 hx, hf⟩, fun ⟨x, hx, hf⟩ => ⟨x, h.mem_iff.2 hx, hf⟩⟩
theorem reachA_perm (a c : ByteArray) (is w : Bool) {I J : List ByteArray} (h : J.Perm I) : reachA a c is w J = reachA a c is w I := by
 unfold reachA
 rw [show decide (c ∈ J) = decide (c ∈ I) from by rw [decide_eq_decide]; exact h.mem_iff]
theorem reach_j2 (b : Bool) (a c d : ByteArray) (D : List S54) (fl : Bool) (n1 : Int) (is : Bool) (n2 : Int) (i2 : Bool) (n3 : Int) (i3 : Bool) {s1 R I s1' R' I' : List ByteArray} (hR : R'.Perm R) (hI : I'.Perm I) (lR : R.length < 9223372036854775807) (lI : I.length < 9223372036854775807) {k : Nat} {r : Bool} (h : laws_FnRolesReach.j2 k b a c d D fl n1 is s1 n2 i2 R n3 i3 I = some r) : ∃ k', laws_FnRolesReach.j2 k' b a c d D fl n1 is s1' n2 i2 R' n3 i3 I' = some r := by
 have mono := fun k => (laws_FnRolesReach.mono_l k).2.2.1 b a c d D fl n1 is s1 n2 i2 R n3 i3 I
 cases fl with
 | true =>
  have e : Ev (fun k => laws_FnRolesReach.j2 k b a c d D true n1 is s1 n2 i2 R n3 i3 I) false := Ev.step (fun _ => laws_FnRolesReach.j2.eq_2 _ _ _ _ _ _ _ _ _ _ _ _ _ _ _ _) (Ev.pos rfl (Ev.now _))
  rw [Ev_one e mono h]
  exact (Ev.step (g := fun k => laws_FnRolesReach.j2 k b a c d D true n1 is s1' n2 i2 R' n3 i3 I') (fun _ => laws_FnRolesReach.j2.eq_2 _ _ _ _ _ _ _ _ _ _ _ _ _ _ _ _) (Ev.pos rfl (Ev.now _))).rounds
 | false =>
  cases hD : okRun D with
  | true =>
   have go : ∀ (s1 R I : List ByteArray), R.length < 9223372036854775807 → I.length < 9223372036854775807 → Ev (fun k => laws_FnRolesReach.j2 k b a c d D false n1 is s1 n2 i2 R n3 i3 I) (reachA a c is ((a.toList == c.toList) || R.any (reachV b D c d)) I) := fun s1 R I h1 h2 =>
    Ev.step (fun _ => laws_FnRolesReach.j2.eq_2 _ _ _ _ _ _ _ _ _ _ _ _ _ _ _ _) (Ev.neg (by simp) (reach_l0 b a c d D hD n1 is s1 n2 i2 R n3 i3 I h1 h2 R [] _ rfl))
   rw [Ev_one (go s1 R I lR lI) mono h]
   have := go s1' R' I' (by rw [hR.length_eq]; exact lR) (by rw [hI.length_eq]; exact lI)
   rw [any_perm hR, reachA_perm a c is _ hI] at this
   exact this.rounds
  | false =>
   cases R with
   | nil =>
    obtain rfl : R' = [] := hR.eq_nil
    have go : ∀ (s1 I : List ByteArray), I.length < 9223372036854775807 → Ev (fun k => laws_FnRolesReach.j2 k b a c d D false n1 is s1 n2 i2 [] n3 i3 I) (reachA a c is (a.toList == c.toList) I) := fun s1 I h2 =>
     Ev.step (fun _ => laws_FnRolesReach.j2.eq_2 _ _ _ _ _ _ _ _ _ _ _ _ _ _ _ _) (Ev.neg (by simp) (Ev.step (fun _ => laws_FnRolesReach.l0.eq_2 _ _ _ _ _ _ _ _ _ _ _ _ _ _ _ _ _) (Ev.neg (by simp) (reach_tail a c is _ I h2))))
    rw [Ev_one (go s1 I lI) mono h]
    have := go s1' I' (by rw [hI.length_eq]; exact lI)
    rw [reachA_perm a c is _ hI] at this
    exact this.rounds
   | cons x R =>
    exfalso
    cases k with
    | zero => simp [laws_FnRolesReach.j2] at h
    | succ k =>
     rw [laws_FnRolesReach.j2.eq_2, if_neg (by simp)] at h
     cases k with
     | zero => simp [laws_FnRolesReach.l0] at h
     | succ k =>
      rw [laws_FnRolesReach.l0.eq_2, if_pos (by simp <;> omega), if_pos (by omega), question_no _ _ _ _ _ _ _ _ hD] at h
      cases h
/-- the law is blind to the order of the names that were told -/
theorem reach_blind {b : Bool} {a c d : ByteArray} {D : List S54} {p q s : Bool} {n1 : Int} {is : Bool} {n2 : Int} {i2 : Bool} {n3 : Int} {i3 : Bool} {s1 R I s1' R' I' : List ByteArray} (hR : R'.Perm R) (hI : I'.Perm I) (lR : R.length < 9223372036854775807) (lI : I.length < 9223372036854775807) {k : Nat} {r : Bool}
  (h : (if p = true then (if q = true then (if s = true then (laws_FnRolesReach.j2 k b a c d D (n1 != 0) n1 is s1 n2 i2 R n3 i3 I) else (laws_FnRolesReach.j2 k b a c d D true n1 is s1 n2 i2 R n3 i3 I)) else (laws_FnRolesReach.j2 k b a c d D true n1 is s1 n2 i2 R n3 i3 I)) else (laws_FnRolesReach.j2 k b a c d D true n1 is s1 n2 i2 R n3 i3 I)) = some r) :
  ∃ k, (if p = true then (if q = true then (if s = true then (laws_FnRolesReach.j2 k b a c d D (n1 != 0) n1 is s1' n2 i2 R' n3 i3 I') else (laws_FnRolesReach.j2 k b a c d D true n1 is s1' n2 i2 R' n3 i3 I')) else (laws_FnRolesReach.j2 k b a c d D true n1 is s1' n2 i2 R' n3 i3 I')) else (laws_FnRolesReach.j2 k b a c d D true n1 is s1' n2 i2 R' n3 i3 I')) = some r := by
 split at h
 ·split at h
  ·split at h
   ·obtain ⟨k', e⟩ := reach_j2 b a c d D _ n1 is n2 i2 n3 i3 (s1' := s1') hR hI lR lI h
    exact ⟨k', by rw [if_pos ‹_›, if_pos ‹_›, if_pos ‹_›]; exact e⟩
   ·obtain ⟨k', e⟩ := reach_j2 b a c d D _ n1 is n2 i2 n3 i3 (s1' := s1') hR hI lR lI h
    exact ⟨k', by rw [if_pos ‹_›, if_pos ‹_›, if_neg ‹_›]; exact e⟩
  ·obtain ⟨k', e⟩ := reach_j2 b a c d D _ n1 is n2 i2 n3 i3 (s1' := s1') hR hI lR lI h
   exact ⟨k', by rw [if_pos ‹_›, if_neg ‹_›]; exact e⟩
 ·obtain ⟨k', e⟩ := reach_j2 b a c d D _ n1 is n2 i2 n3 i3 (s1' := s1') hR hI lR lI h
  exact ⟨k', by rw [if_neg ‹_›]; exact e⟩
theorem question_few {k : Nat} {lv : Int} {b : Bool} {D : List S54} {op : Int} {a c d : ByteArray} {n : Int} {is : Bool} {l : List ByteArray} {f : Bool} (h0 : 0 ≤ lv) (h1 : lv ≤ 20) (hop : 0 ≤ op ∧ op ≤ 4) (h : laws_question.f k lv b D op a c d = some (n, is, l, f)) : l.length < 9223372036854775807 := by
 cases hD : okRun D with
 | false => rw [question_no k lv b D op a c d hD] at h; cases h
 | true =>
  rw [question_yes k lv b D op a c d h0 h1 hD hop] at h
  simp only [Option.some.injEq, Prod.mk.injEq] at h
  obtain ⟨_, _, rfl, _⟩ := h
  unfold okRun at hD
  rw [Bool.and_eq_true, decide_eq_true_iff] at hD
  have h3 := (okLinks0.deeds b D hD.2).few (kd b d)
  generalize hE : deedsE b (fun _ => []) D (kd b d) = E at h3
  have key : ∀ q : S44, kd b q.f3 = kd b d → (ansR lv b (deedsE b (fun _ => []) D) q).f2.length ≤ E.length := fun q hq => by
   have hr : ∀ x y, y ∈ rolesE E x → y ∈ E.map (·.2) := fun x y h => by
    rw [rolesE_mem] at h
    exact List.mem_map.2 ⟨_, h, rfl⟩
   have hu : ∀ x y, y ∈ usersE E x → y ∈ E.map (·.1) := fun x y h => by
    rw [usersE_mem] at h
    exact List.mem_map.2 ⟨_, h, rfl⟩
   have hi : ∀ {nx : Nx} (T : List ByteArray) (hT : ∀ x y, y ∈ nx x → y ∈ T) (n : Nat) (a : ByteArray), (impl nx n a).length ≤ T.length := fun {nx} T hT n a => by
    refine few_of_nodup _ T (impl_iff nx n a).1 (fun x hx => ?_)
    obtain ⟨hne, k, _, hr⟩ := ((impl_iff nx n a).2 x).1 hx
    cases k with
    | zero => exact absurd hr hne
    | succ k =>
     obtain ⟨y, _, hy⟩ := hr
     exact hT y x hy
   unfold ansR
   rw [hq, hE]
   split
   ·exact Nat.zero_le _
   split
   ·show (rolesE E _).length ≤ _
    unfold rolesE; rw [List.length_map]; exact List.length_filter_le ..
   split
   ·show (usersE E _).length ≤ _
    unfold usersE; rw [List.length_map]; exact List.length_filter_le ..
   split
   ·exact Nat.le_trans (hi _ hr _ _) (by rw [List.length_map]; exact Nat.le_refl _)
   ·exact Nat.le_trans (hi _ hu _ _) (by rw [List.length_map]; exact Nat.le_refl _)
  have := key ⟨op, a, c, d⟩ rfl
  omega
end
set_option maxHeartbeats 8000000 in
set_option maxRecDepth 100000 in
theorem laws_FnRolesReach.calls (k : Nat) (a0 : Bool) (A1 : Option Addr) (c1 : Nat) (l1 : List (S28)) (a2 : ByteArray) (a3 : ByteArray) (a4 : ByteArray) (r : Bool) (w : World) (hr1 : Kd.C k28 w A1 l1.length l1) (hc1 : l1.length ≤ c1) (h : laws_FnRolesReach.f k a0 l1 a2 a3 a4 = some r) :
  Calls Tryz.prog 7 #[.bool a0, .slice A1 l1.length c1, .string a2, .string a3, .string a4] w fun e w' => e = .returned (.bool r) ∧ Below w.heap.size w w' := by
 have hu44 := Tryz.underlying44
 have hu40 := Tryz.underlying40
 have HR1 := Aside0.mk hr1
 have HC1 := Aside0.mk hc1
 clear hr1 hc1
 have HB := Aside0.mk (Below.refl w.heap.size w)
 have H : ((laws_zzFits25.f k l1).bind fun t151 => (if t151 = true then (if (a2.size : Int) > 2147483647 then (laws_FnRolesReach.j0 k a0 l1 a2 a3 a4 true) else (if (a3.size : Int) > 2147483647 then (laws_FnRolesReach.j0 k a0 l1 a2 a3 a4 true) else (laws_FnRolesReach.j0 k a0 l1 a2 a3 a4 (decide ((a4.size : Int) > 2147483647))))) else (laws_FnRolesReach.j0 k a0 l1 a2 a3 a4 true))) = some r := h
 clear h
 have HC6 := Aside0.mk H
 clear H
 go_enter Tryz.func7, Tryz.ntmps7
 go_upto_region 1 with (fail)
 go_cut [39] (fun v39 wc => ∃ (kq : Nat) (x39_5 : Bool), v39 = .bool x39_5 ∧ Aside0 (laws_FnRolesReach.j0 kq a0 l1 a2 a3 a4 x39_5 = some r) ∧ Aside0 (kq ≤ k) ∧ Aside0 (Below w.heap.size w wc))
 case first =>
  have H := HC6.out
  clear HC6
  replace H := Option.bind_eq_some_iff.mp H
  obtain ⟨t151, A70, H⟩ := H
  replace H : (if t151 = true then (if (a2.size : Int) > 2147483647 then (laws_FnRolesReach.j0 k a0 l1 a2 a3 a4 true) else (if (a3.size : Int) > 2147483647 then (laws_FnRolesReach.j0 k a0 l1 a2 a3 a4 true) else (laws_FnRolesReach.j0 k a0 l1 a2 a3 a4 (decide ((a4.size : Int) > 2147483647))))) else (laws_FnRolesReach.j0 k a0 l1 a2 a3 a4 true)) = some r := H
  have A7 := Aside0.mk A70
  clear A70
  by_cases c8 : t151 = true
  ·subst c8
   have H1 : (if (a2.size : Int) > 2147483647 then (laws_FnRolesReach.j0 k a0 l1 a2 a3 a4 true) else (if (a3.size : Int) > 2147483647 then (laws_FnRolesReach.j0 k a0 l1 a2 a3 a4 true) else (laws_FnRolesReach.j0 k a0 l1 a2 a3 a4 (decide ((a4.size : Int) > 2147483647))))) = some r := by rw [if_pos rfl] at H; exact H
   clear H
   have H := H1
   clear H1
   by_cases c9 : (a2.size : Int) > 2147483647
   ·rw [if_pos c9] at H
    have c9b0 : decide (2147483647 < (a2.size : Int)) = true := decide_eq_true c9
    have c9b1 : decide (2147483647 < a2.size) = true := decide_eq_true (by omega)
    clear c9
    (first | rw [c9b0] | (simp only [i64_w, i32_w]; rw [c9b0]) | skip)
    have H' := Aside0.mk H
    clear H
    go_wp2_with (first | ((with_reducible refine gate_callee (f := 9) rfl ?_); refine goesL_ (some 23) rfl rfl Tryz.func9 (by kernel_rfl) rfl #[.slice A1 l1.length c1] rfl (by (try simp only [List.map_toArray, List.map_cons, List.map_nil]); first | done | rfl | (simp only [List.length_drop, List.length_take]; rfl)) ?_; (with_reducible refine (laws_zzFits25.calls k _ _ l1 true _ ?side1 ?side2 A7.out).mono ?_); (case side1 => repeat (first | exact (Kd.C_below HR1.out HB.out) | (with_reducible refine Kd.C_alloc ?_ _) | (with_reducible refine Kd.C_drewN ?_ _) | (with_reducible refine Kd.C_drew ?_))); (case side2 => exact HC1.out); rintro e w10 ⟨rfl, hb⟩; refine ⟨_, rfl, ?_⟩; have n0_ := Aside0.mk (below_step (by repeat (first | (with_reducible first | exact HB.out | apply below_alloc | apply pw_below_drewN | apply below_drew1) | exact HB.out)) hb); clear HB; have HB := n0_; clear n0_; (try clear hb); (try clear hb2); (try clear hk); (try clear hi)))
    go_meet
    case rel => exact ⟨_, (true), (by first | rfl | (simp; done) | (simp [*]; done)), H', ⟨by first | omega | exact Nat.le_refl _⟩, ⟨by repeat (first | (with_reducible first | exact HB.out | apply below_alloc | apply pw_below_drewN | apply below_drew1) | exact HB.out)⟩⟩
   ·rw [if_neg c9] at H
    have c9b0 : decide (2147483647 < (a2.size : Int)) = false := decide_eq_false c9
    have c9b1 : decide (2147483647 < a2.size) = false := decide_eq_false (by omega)
    clear c9
    (first | rw [c9b0] | (simp only [i64_w, i32_w]; rw [c9b0]) | skip)
    by_cases c11 : (a3.size : Int) > 2147483647
    ·rw [if_pos c11] at H
     have c11b0 : decide (2147483647 < (a3.size : Int)) = true := decide_eq_true c11
     have c11b1 : decide (2147483647 < a3.size) = true := decide_eq_true (by omega)
     clear c11
     have H' := Aside0.mk H
     clear H
     go_wp2_with (first | ((with_reducible refine gate_callee (f := 9) rfl ?_); refine goesL_ (some 23) rfl rfl Tryz.func9 (by kernel_rfl) rfl #[.slice A1 l1.length c1] rfl (by (try simp only [List.map_toArray, List.map_cons, List.map_nil]); first | done | rfl | (simp only [List.length_drop, List.length_take]; rfl)) ?_; (with_reducible refine (laws_zzFits25.calls k _ _ l1 true _ ?side1 ?side2 A7.out).mono ?_); (case side1 => repeat (first | exact (Kd.C_below HR1.out HB.out) | (with_reducible refine Kd.C_alloc ?_ _) | (with_reducible refine Kd.C_drewN ?_ _) | (with_reducible refine Kd.C_drew ?_))); (case side2 => exact HC1.out); rintro e w12 ⟨rfl, hb⟩; refine ⟨_, rfl, ?_⟩; have n0_ := Aside0.mk (below_step (by repeat (first | (with_reducible first | exact HB.out | apply below_alloc | apply pw_below_drewN | apply below_drew1) | exact HB.out)) hb); clear HB; have HB := n0_; clear n0_; (try clear hb); (try clear hb2); (try clear hk); (try clear hi)))
     go_meet
     case rel => exact ⟨_, (true), (by first | rfl | (simp; done) | (simp [*]; done)), H', ⟨by first | omega | exact Nat.le_refl _⟩, ⟨by repeat (first | (with_reducible first | exact HB.out | apply below_alloc | apply pw_below_drewN | apply below_drew1) | exact HB.out)⟩⟩
    ·rw [if_neg c11] at H
     have c11b0 : decide (2147483647 < (a3.size : Int)) = false := decide_eq_false c11
     have c11b1 : decide (2147483647 < a3.size) = false := decide_eq_false (by omega)
     clear c11
     have H' := Aside0.mk H
     clear H
     go_wp2_with (first | ((with_reducible refine gate_callee (f := 9) rfl ?_); refine goesL_ (some 23) rfl rfl Tryz.func9 (by kernel_rfl) rfl #[.slice A1 l1.length c1] rfl (by (try simp only [List.map_toArray, List.map_cons, List.map_nil]); first | done | rfl | (simp only [List.length_drop, List.length_take]; rfl)) ?_; (with_reducible refine (laws_zzFits25.calls k _ _ l1 true _ ?side1 ?side2 A7.out).mono ?_); (case side1 => repeat (first | exact (Kd.C_below HR1.out HB.out) | (with_reducible refine Kd.C_alloc ?_ _) | (with_reducible refine Kd.C_drewN ?_ _) | (with_reducible refine Kd.C_drew ?_))); (case side2 => exact HC1.out); rintro e w13 ⟨rfl, hb⟩; refine ⟨_, rfl, ?_⟩; have n0_ := Aside0.mk (below_step (by repeat (first | (with_reducible first | exact HB.out | apply below_alloc | apply pw_below_drewN | apply below_drew1) | exact HB.out)) hb); clear HB; have HB := n0_; clear n0_; (try clear hb); (try clear hb2); (try clear hk); (try clear hi)))
     go_meet
     case rel => exact ⟨_, (decide ((a4.size : Int) > 2147483647)), (by first | rfl | (simp; done) | (simp [*]; done)), H', ⟨by first | omega | exact Nat.le_refl _⟩, ⟨by repeat (first | (with_reducible first | exact HB.out | apply below_alloc | apply pw_below_drewN | apply below_drew1) | exact HB.out)⟩⟩
  ·replace c8 := Bool.eq_false_iff.mpr c8
   subst c8
   have H1 : (laws_FnRolesReach.j0 k a0 l1 a2 a3 a4 true) = some r := by rw [if_neg (show ¬ (false = true) by decide)] at H; exact H
   clear H
   have H := H1
   clear H1
   have H' := Aside0.mk H
   clear H
   go_wp2_with (first | ((with_reducible refine gate_callee (f := 9) rfl ?_); refine goesL_ (some 23) rfl rfl Tryz.func9 (by kernel_rfl) rfl #[.slice A1 l1.length c1] rfl (by (try simp only [List.map_toArray, List.map_cons, List.map_nil]); first | done | rfl | (simp only [List.length_drop, List.length_take]; rfl)) ?_; (with_reducible refine (laws_zzFits25.calls k _ _ l1 false _ ?side1 ?side2 A7.out).mono ?_); (case side1 => repeat (first | exact (Kd.C_below HR1.out HB.out) | (with_reducible refine Kd.C_alloc ?_ _) | (with_reducible refine Kd.C_drewN ?_ _) | (with_reducible refine Kd.C_drew ?_))); (case side2 => exact HC1.out); rintro e w14 ⟨rfl, hb⟩; refine ⟨_, rfl, ?_⟩; have n0_ := Aside0.mk (below_step (by repeat (first | (with_reducible first | exact HB.out | apply below_alloc | apply pw_below_drewN | apply below_drew1) | exact HB.out)) hb); clear HB; have HB := n0_; clear n0_; (try clear hb); (try clear hb2); (try clear hk); (try clear hi)))
   go_meet
   case rel => exact ⟨_, (true), (by first | rfl | (simp; done) | (simp [*]; done)), H', ⟨by first | omega | exact Nat.le_refl _⟩, ⟨by repeat (first | (with_reducible first | exact HB.out | apply below_alloc | apply pw_below_drewN | apply below_drew1) | exact HB.out)⟩⟩
 case rest =>
  clear HC6
  try clear c1
  try clear p2
  try clear c7
  try clear c8
  try clear c9
  try clear c9b0
  try clear c9b1
  try clear c11
  try clear c11b0
  try clear c11b1
  obtain ⟨kq, x39_5, rfl, HA, HJ5, HB⟩ := hcut
  cases kq with
  | zero => exact absurd HA.out (by simp [laws_FnRolesReach.j0])
  | succ kj5 =>
   have H := HA.out
   clear HA
   simp only [laws_FnRolesReach.j0] at H
   by_cases c15 : x39_5 = true
   ·subst c15
    have H1 : (some true) = some r := by rw [if_pos rfl] at H; exact H
    clear H
    have H := H1
    clear H1
    obtain rfl := Option.some.inj H
    go_wp2
    go_ret
    exact ⟨by first | rfl | (simp [errW_none, errW_some] <;> rfl) | (simp [*, errW_none, errW_some] <;> rfl), by repeat (first | (with_reducible first | exact HB.out | apply below_alloc | apply pw_below_drewN | apply below_drew1) | exact HB.out)⟩
   ·replace c15 := Bool.eq_false_iff.mpr c15
    subst c15
    have H1 : ((laws_links.f kj5 l1 a0).bind fun t152 => (if t152 = true then ((laws_named.f kj5 a2 a3 a4 a0).bind fun t153 => (laws_FnRolesReach.j1 kj5 a0 l1 a2 a3 a4 (!t153))) else (laws_FnRolesReach.j1 kj5 a0 l1 a2 a3 a4 true))) = some r := by rw [if_neg (show ¬ (false = true) by decide)] at H; exact H
    clear H
    have H := H1
    clear H1
    have HC16 := Aside0.mk H
    clear H
    go_upto_region 3 with (fail)
    go_cut [51] (fun v51 wc => ∃ (kq : Nat) (x51_15 : Bool), v51 = .bool x51_15 ∧ Aside0 (laws_FnRolesReach.j1 kq a0 l1 a2 a3 a4 x51_15 = some r) ∧ Aside0 (kq ≤ kj5) ∧ Aside0 (Below w.heap.size w wc))
    case first =>
     have H := HC16.out
     clear HC16
     replace H := Option.bind_eq_some_iff.mp H
     obtain ⟨t152, A170, H⟩ := H
     replace H : (if t152 = true then ((laws_named.f kj5 a2 a3 a4 a0).bind fun t153 => (laws_FnRolesReach.j1 kj5 a0 l1 a2 a3 a4 (!t153))) else (laws_FnRolesReach.j1 kj5 a0 l1 a2 a3 a4 true)) = some r := H
     have A17 := Aside0.mk A170
     clear A170
     by_cases c18 : t152 = true
     ·subst c18
      have H1 : ((laws_named.f kj5 a2 a3 a4 a0).bind fun t153 => (laws_FnRolesReach.j1 kj5 a0 l1 a2 a3 a4 (!t153))) = some r := by rw [if_pos rfl] at H; exact H
      clear H
      have H := H1
      clear H1
      replace H := Option.bind_eq_some_iff.mp H
      obtain ⟨t153, A190, H⟩ := H
      replace H : (laws_FnRolesReach.j1 kj5 a0 l1 a2 a3 a4 (!t153)) = some r := H
      have A19 := Aside0.mk A190
      clear A190
      have H' := Aside0.mk H
      clear H
      go_wp2_with (first | ((with_reducible refine gate_callee (f := 10) rfl ?_); refine goesL_ (some 42) rfl rfl Tryz.func10 (by kernel_rfl) rfl #[.slice A1 l1.length c1, .bool a0] rfl (by (try simp only [List.map_toArray, List.map_cons, List.map_nil]); first | done | rfl | (simp only [List.length_drop, List.length_take]; rfl)) ?_; (with_reducible refine (laws_links.calls kj5 _ _ l1 a0 true _ ?side1 ?side2 A17.out).mono ?_); (case side1 => repeat (first | exact (Kd.C_below HR1.out HB.out) | (with_reducible refine Kd.C_alloc ?_ _) | (with_reducible refine Kd.C_drewN ?_ _) | (with_reducible refine Kd.C_drew ?_))); (case side2 => exact HC1.out); rintro e w' ⟨rfl, ⟨nd, rfl⟩⟩; refine ⟨_, rfl, ?_⟩) | (go_at_call 11; (with_reducible refine (laws_named.calls kj5 a2 a3 a4 a0 t153 _ A19.out).mono ?_); rintro e w' ⟨rfl, ⟨nd, rfl⟩⟩))
      go_meet
      case rel => exact ⟨_, (!t153), (by first | rfl | (simp; done) | (simp [*]; done)), H', ⟨by have := HJ5.out; first | omega | exact Nat.le_refl _⟩, ⟨by repeat (first | (with_reducible first | exact HB.out | apply below_alloc | apply pw_below_drewN | apply below_drew1) | exact HB.out)⟩⟩
     ·replace c18 := Bool.eq_false_iff.mpr c18
      subst c18
      have H1 : (laws_FnRolesReach.j1 kj5 a0 l1 a2 a3 a4 true) = some r := by rw [if_neg (show ¬ (false = true) by decide)] at H; exact H
      clear H
      have H := H1
      clear H1
      have H' := Aside0.mk H
      clear H
      go_wp2_with (first | ((with_reducible refine gate_callee (f := 10) rfl ?_); refine goesL_ (some 42) rfl rfl Tryz.func10 (by kernel_rfl) rfl #[.slice A1 l1.length c1, .bool a0] rfl (by (try simp only [List.map_toArray, List.map_cons, List.map_nil]); first | done | rfl | (simp only [List.length_drop, List.length_take]; rfl)) ?_; (with_reducible refine (laws_links.calls kj5 _ _ l1 a0 false _ ?side1 ?side2 A17.out).mono ?_); (case side1 => repeat (first | exact (Kd.C_below HR1.out HB.out) | (with_reducible refine Kd.C_alloc ?_ _) | (with_reducible refine Kd.C_drewN ?_ _) | (with_reducible refine Kd.C_drew ?_))); (case side2 => exact HC1.out); rintro e w' ⟨rfl, ⟨nd, rfl⟩⟩; refine ⟨_, rfl, ?_⟩))
      go_meet
      case rel => exact ⟨_, (true), (by first | rfl | (simp; done) | (simp [*]; done)), H', ⟨by have := HJ5.out; first | omega | exact Nat.le_refl _⟩, ⟨by repeat (first | (with_reducible first | exact HB.out | apply below_alloc | apply pw_below_drewN | apply below_drew1) | exact HB.out)⟩⟩
    case rest =>
     clear HC16
     try clear c1
     try clear p2
     try clear c7
     try clear c8
     try clear c9
     try clear c9b0
     try clear c9b1
     try clear c10
     try clear c11
     try clear c11b0
     try clear c11b1
     try clear c15
     try clear c18
     try clear p2
     obtain ⟨kq, x51_15, rfl, HA, HJ15, HB⟩ := hcut
     cases kq with
     | zero => exact absurd HA.out (by simp [laws_FnRolesReach.j1])
     | succ kj15 =>
      have H := HA.out
      clear HA
      simp only [laws_FnRolesReach.j1] at H
      by_cases c20 : x51_15 = true
      ·subst c20
       have H1 : ((laws_awakeRoles.f kj15).bind fun t154 => (some t154)) = some r := by rw [if_pos rfl] at H; exact H
       clear H
       have H := H1
       clear H1
       replace H := Option.bind_eq_some_iff.mp H
       obtain ⟨t154, A210, H⟩ := H
       replace H : (some t154) = some r := H
       have A21 := Aside0.mk A210
       clear A210
       obtain rfl := Option.some.inj H
       go_wp2_with (first | ((with_reducible refine gate_callee (f := 12) rfl ?_); refine goesL_ (some 52) rfl rfl Tryz.func12 (by kernel_rfl) rfl #[] rfl (by (try simp only [List.map_toArray, List.map_cons, List.map_nil]); first | done | rfl | (simp only [List.length_drop, List.length_take]; rfl)) ?_; (with_reducible refine (laws_awakeRoles.calls kj15  t154 _ A21.out).mono ?_); rintro e w22 ⟨rfl, hb⟩; refine ⟨_, rfl, ?_⟩; have n0_ := Aside0.mk (below_step (by repeat (first | (with_reducible first | exact HB.out | apply below_alloc | apply pw_below_drewN | apply below_drew1) | exact HB.out)) hb); clear HB; have HB := n0_; clear n0_; (try clear hb); (try clear hb2); (try clear hk); (try clear hi)))
       go_ret
       exact ⟨by first | rfl | (simp [errW_none, errW_some] <;> rfl) | (simp [*, errW_none, errW_some] <;> rfl), by repeat (first | (with_reducible first | exact HB.out | apply below_alloc | apply pw_below_drewN | apply below_drew1) | exact HB.out)⟩
      ·replace c20 := Bool.eq_false_iff.mpr c20
       subst c20
       have H1 : ((laws_added.f kj15 l1).bind fun t155 => ((laws_question.f kj15 20 a0 t155 0 a2 a3 a4).bind fun bt158 => ((laws_question.f kj15 20 a0 t155 1 a2 (⟨#[]⟩ : ByteArray) a4).bind fun bt165 => ((laws_question.f kj15 20 a0 t155 3 a2 (⟨#[]⟩ : ByteArray) a4).bind fun bt172 => (if bt158.2.2.2 = true then (if bt165.2.2.2 = true then (if bt172.2.2.2 = true then (laws_FnRolesReach.j2 kj15 a0 a2 a3 a4 t155 (bt158.1 != 0) bt158.1 bt158.2.1 bt158.2.2.1 bt165.1 bt165.2.1 bt165.2.2.1 bt172.1 bt172.2.1 bt172.2.2.1) else (laws_FnRolesReach.j2 kj15 a0 a2 a3 a4 t155 true bt158.1 bt158.2.1 bt158.2.2.1 bt165.1 bt165.2.1 bt165.2.2.1 bt172.1 bt172.2.1 bt172.2.2.1)) else (laws_FnRolesReach.j2 kj15 a0 a2 a3 a4 t155 true bt158.1 bt158.2.1 bt158.2.2.1 bt165.1 bt165.2.1 bt165.2.2.1 bt172.1 bt172.2.1 bt172.2.2.1)) else (laws_FnRolesReach.j2 kj15 a0 a2 a3 a4 t155 true bt158.1 bt158.2.1 bt158.2.2.1 bt165.1 bt165.2.1 bt165.2.2.1 bt172.1 bt172.2.1 bt172.2.2.1)))))) = some r := by rw [if_neg (show ¬ (false = true) by decide)] at H; exact H
       clear H
       have H := H1
       clear H1
       replace H := Option.bind_eq_some_iff.mp H
       obtain ⟨t155, A230, H⟩ := H
       replace H : ((laws_question.f kj15 20 a0 t155 0 a2 a3 a4).bind fun bt158 => ((laws_question.f kj15 20 a0 t155 1 a2 (⟨#[]⟩ : ByteArray) a4).bind fun bt165 => ((laws_question.f kj15 20 a0 t155 3 a2 (⟨#[]⟩ : ByteArray) a4).bind fun bt172 => (if bt158.2.2.2 = true then (if bt165.2.2.2 = true then (if bt172.2.2.2 = true then (laws_FnRolesReach.j2 kj15 a0 a2 a3 a4 t155 (bt158.1 != 0) bt158.1 bt158.2.1 bt158.2.2.1 bt165.1 bt165.2.1 bt165.2.2.1 bt172.1 bt172.2.1 bt172.2.2.1) else (laws_FnRolesReach.j2 kj15 a0 a2 a3 a4 t155 true bt158.1 bt158.2.1 bt158.2.2.1 bt165.1 bt165.2.1 bt165.2.2.1 bt172.1 bt172.2.1 bt172.2.2.1)) else (laws_FnRolesReach.j2 kj15 a0 a2 a3 a4 t155 true bt158.1 bt158.2.1 bt158.2.2.1 bt165.1 bt165.2.1 bt165.2.2.1 bt172.1 bt172.2.1 bt172.2.2.1)) else (laws_FnRolesReach.j2 kj15 a0 a2 a3 a4 t155 true bt158.1 bt158.2.1 bt158.2.2.1 bt165.1 bt165.2.1 bt165.2.2.1 bt172.1 bt172.2.1 bt172.2.2.1))))) = some r := H
       have A23 := Aside0.mk A230
       clear A230
       replace H := Option.bind_eq_some_iff.mp H
       obtain ⟨⟨t158, t159, t160, t163⟩, A240, H⟩ := H
       replace H : ((laws_question.f kj15 20 a0 t155 1 a2 (⟨#[]⟩ : ByteArray) a4).bind fun bt165 => ((laws_question.f kj15 20 a0 t155 3 a2 (⟨#[]⟩ : ByteArray) a4).bind fun bt172 => (if t163 = true then (if bt165.2.2.2 = true then (if bt172.2.2.2 = true then (laws_FnRolesReach.j2 kj15 a0 a2 a3 a4 t155 (t158 != 0) t158 t159 t160 bt165.1 bt165.2.1 bt165.2.2.1 bt172.1 bt172.2.1 bt172.2.2.1) else (laws_FnRolesReach.j2 kj15 a0 a2 a3 a4 t155 true t158 t159 t160 bt165.1 bt165.2.1 bt165.2.2.1 bt172.1 bt172.2.1 bt172.2.2.1)) else (laws_FnRolesReach.j2 kj15 a0 a2 a3 a4 t155 true t158 t159 t160 bt165.1 bt165.2.1 bt165.2.2.1 bt172.1 bt172.2.1 bt172.2.2.1)) else (laws_FnRolesReach.j2 kj15 a0 a2 a3 a4 t155 true t158 t159 t160 bt165.1 bt165.2.1 bt165.2.2.1 bt172.1 bt172.2.1 bt172.2.2.1)))) = some r := H
       have A24 := Aside0.mk A240
       clear A240
       replace H := Option.bind_eq_some_iff.mp H
       obtain ⟨⟨t165, t166, t167, t170⟩, A250, H⟩ := H
       replace H : ((laws_question.f kj15 20 a0 t155 3 a2 (⟨#[]⟩ : ByteArray) a4).bind fun bt172 => (if t163 = true then (if t170 = true then (if bt172.2.2.2 = true then (laws_FnRolesReach.j2 kj15 a0 a2 a3 a4 t155 (t158 != 0) t158 t159 t160 t165 t166 t167 bt172.1 bt172.2.1 bt172.2.2.1) else (laws_FnRolesReach.j2 kj15 a0 a2 a3 a4 t155 true t158 t159 t160 t165 t166 t167 bt172.1 bt172.2.1 bt172.2.2.1)) else (laws_FnRolesReach.j2 kj15 a0 a2 a3 a4 t155 true t158 t159 t160 t165 t166 t167 bt172.1 bt172.2.1 bt172.2.2.1)) else (laws_FnRolesReach.j2 kj15 a0 a2 a3 a4 t155 true t158 t159 t160 t165 t166 t167 bt172.1 bt172.2.1 bt172.2.2.1))) = some r := H
       have A25 := Aside0.mk A250
       clear A250
       replace H := Option.bind_eq_some_iff.mp H
       obtain ⟨⟨t172, t173, t174, t177⟩, A260, H⟩ := H
       replace H : (if t163 = true then (if t170 = true then (if t177 = true then (laws_FnRolesReach.j2 kj15 a0 a2 a3 a4 t155 (t158 != 0) t158 t159 t160 t165 t166 t167 t172 t173 t174) else (laws_FnRolesReach.j2 kj15 a0 a2 a3 a4 t155 true t158 t159 t160 t165 t166 t167 t172 t173 t174)) else (laws_FnRolesReach.j2 kj15 a0 a2 a3 a4 t155 true t158 t159 t160 t165 t166 t167 t172 t173 t174)) else (laws_FnRolesReach.j2 kj15 a0 a2 a3 a4 t155 true t158 t159 t160 t165 t166 t167 t172 t173 t174)) = some r := H
       have A26 := Aside0.mk A260
       clear A260
       have HC27 := Aside0.mk H
       clear H
       go_upto_region 9 with (first | ((with_reducible refine gate_callee (f := 14) rfl ?_); refine goesL_ (some 54) rfl rfl Tryz.func14 (by kernel_rfl) rfl #[.slice A1 l1.length c1] rfl (by (try simp only [List.map_toArray, List.map_cons, List.map_nil]); first | done | rfl | (simp only [List.length_drop, List.length_take]; rfl)) ?_; (with_reducible refine (laws_added.calls kj15 _ _ l1 t155 _ ?side1 ?side2 A23.out).mono ?_); (case side1 => repeat (first | exact (Kd.C_below HR1.out HB.out) | (with_reducible refine Kd.C_alloc ?_ _) | (with_reducible refine Kd.C_drewN ?_ _) | (with_reducible refine Kd.C_drew ?_))); (case side2 => exact HC1.out); rintro e w28 ⟨v156, rfl, ho0, hb⟩; refine ⟨_, rfl, ?_⟩; have n0_ := Aside0.mk (Kd.R_lower ho0 (below_size (by repeat (first | (with_reducible first | exact HB.out | apply below_alloc | apply pw_below_drewN | apply below_drew1) | exact HB.out)))); have n1_ := Aside0.mk (below_step (by repeat (first | (with_reducible first | exact HB.out | apply below_alloc | apply pw_below_drewN | apply below_drew1) | exact HB.out)) hb); clear HB; have HO157 := n0_; have HB := n1_; clear n0_ n1_; (try clear hb); (try clear hb2); (try clear hk); (try clear hi); (try clear ho0); obtain ⟨Ao29, co29, eo29⟩ := Kd.R_slice HO157.out; subst eo29) | ((with_reducible refine gate_callee (f := 17) rfl ?_); refine goesL_ (some 62) rfl rfl Tryz.func17 (by kernel_rfl) rfl #[.int .i64 20, .bool a0, .slice Ao29 t155.length co29, .agg #[.int .i64 0, .string a2, .string a3, .string a4]] rfl (by (try simp only [List.map_toArray, List.map_cons, List.map_nil]); first | done | rfl | (simp only [List.length_drop, List.length_take]; rfl)) ?_; (with_reducible refine (laws_question.calls kj15 20 a0 _ _ t155 0 a2 a3 a4 t158 t159 t160 t163 _ ?side1 ?side2 A24.out).mono ?_); (case side1 => repeat (first | exact (Kd.R_reads' HO157.out).2.2 | (with_reducible refine Kd.C_alloc ?_ _) | (with_reducible refine Kd.C_drewN ?_ _) | (with_reducible refine Kd.C_drew ?_))); (case side2 => exact (Kd.R_reads' HO157.out).2.1); rintro e w30 ⟨v161, rfl, ⟨lq_t160, hq_, ho0⟩, hb⟩; have HQt160 := Aside0.mk hq_; clear hq_; refine ⟨_, rfl, ?_⟩; have n0_ := Aside0.mk (Kd.R_below (by (with_reducible repeat (first | apply Kd.R_alloc | apply Kd.R_drewN | apply Kd.R_drew)); exact HO157.out) hb); have n1_ := Aside0.mk (Kd.V_lower (Kd.V_mono (ok' := fun k_ => some k_ ≠ (.slice Ao29 t155.length co29 : Value).ownBlock) ho0 (fun k_ hk_ => (Kd.fresh' (Kd.R_lt (by (with_reducible repeat (first | apply Kd.R_alloc | apply Kd.R_drewN | apply Kd.R_drew)); exact HO157.out)) k_ hk_))) (below_size (by repeat (first | (with_reducible first | exact HB.out | apply below_alloc | apply pw_below_drewN | apply below_drew1) | exact HB.out)))); have n2_ := Aside0.mk (below_step (by repeat (first | (with_reducible first | exact HB.out | apply below_alloc | apply pw_below_drewN | apply below_drew1) | exact HB.out)) hb); clear HO157; clear HB; have HO157 := n0_; have HO162 := n1_; have HB := n2_; clear n0_ n1_ n2_; (try clear hb); (try clear hb2); (try clear hk); (try clear hi); (try clear ho0)) | ((with_reducible refine gate_dst (N := 12) rfl ?_); (try (refine gate_guard (by rfl) ?_; dsimp only)); refine box_event ?hg (N := 12) ?hd (cs := #[.int .i64 0, .bool false, .slice none 0 0]) (t := 40) ?hr ?_; (case hd => rfl); (case hg => rfl); (case hr => first | (go_simp; done) | (go_simp; rfl)); intro gb164 hg w31 hbox hb; have n0_ := Aside0.mk (Kd.R_below (by (with_reducible repeat (first | apply Kd.R_alloc | apply Kd.R_drewN | apply Kd.R_drew)); exact HO157.out) hb); have n1_ := Aside0.mk (Kd.V_below (Kd.V_elderB (by (with_reducible repeat (first | apply Kd.V_alloc | apply Kd.V_drewN | apply Kd.V_drew)); exact HO162.out) gb164 (Nat.le_of_eq hg.symm)) hb); have n2_ := Aside0.mk (below_step (by repeat (first | (with_reducible first | exact HB.out | apply below_alloc | apply pw_below_drewN | apply below_drew1) | exact HB.out)) hb); have n3_ := Aside0.mk (hbox); have n4_ := Aside0.mk ((by rw [hg]; exact (below_size (by repeat (first | (with_reducible first | exact HB.out | apply below_alloc | apply pw_below_drewN | apply below_drew1) | exact HB.out))) : w.heap.size ≤ gb164)); have n5_ := Aside0.mk ((by rw [hg]; exact (below_size (by repeat (first | (with_reducible first | exact HB.out | apply below_alloc | apply pw_below_drewN | apply below_drew1) | exact HB.out))) : w.heap.size ≤ gb164)); clear HO157; clear HO162; clear HB; have HO157 := n0_; have HO162 := n1_; have HB := n2_; have BK164 := n3_; have GW164 := n4_; have GE164 := n5_; clear n0_ n1_ n2_ n3_ n4_ n5_; clear hb hbox hg; have hcz32_0 : w31.cell? ⟨gb164, 0, none⟩ = some (.int .i64 0) := (blk_cell BK164.out 0).trans rfl; have hcz32_1 : w31.cell? ⟨gb164, 1, none⟩ = some (.bool false) := (blk_cell BK164.out 1).trans rfl; have hcz32_2 : w31.cell? ⟨gb164, 2, none⟩ = some (.slice none 0 0) := (blk_cell BK164.out 2).trans rfl; have hfz32_0 := blk_frozen BK164.out 0; have hfz32_1 := blk_frozen BK164.out 1; have hfz32_2 := blk_frozen BK164.out 2; obtain ⟨Ao33, co33, eo33⟩ := Kd.V_slice HO162.out; subst eo33) | ((with_reducible refine gate_callee (f := 17) rfl ?_); refine goesL_ (some 71) rfl rfl Tryz.func17 (by kernel_rfl) rfl #[.int .i64 20, .bool a0, .slice Ao29 t155.length co29, .agg #[.int .i64 1, .string a2, .string (⟨#[]⟩ : ByteArray), .string a4]] rfl (by (try simp only [List.map_toArray, List.map_cons, List.map_nil]); first | done | rfl | (simp only [List.length_drop, List.length_take]; rfl)) ?_; (with_reducible refine (laws_question.calls kj15 20 a0 _ _ t155 1 a2 (⟨#[]⟩ : ByteArray) a4 t165 t166 t167 t170 _ ?side1 ?side2 A25.out).mono ?_); (case side1 => refine (Kd.R_reads' (e := 54) (base := w.heap.size) (ok := fun k_ => True) (n := t155.length) (c := co29) ?_).2.2; exact (by (with_reducible repeat (first | apply Kd.R_alloc | apply Kd.R_drewN | apply Kd.R_drew)); exact (Kd.R_mono (Kd.R_far (p := ⟨gb164, 2, none⟩) (Kd.R_far (p := ⟨gb164, 1, none⟩) (Kd.R_far (p := ⟨gb164, 0, none⟩) (Kd.R_types HO157.out BK164.out (by decide)) (fun _ hk => hk.2) (.int .i64 t158)) (fun _ hk => hk.2) (.bool t159)) (fun _ hk => hk.2) (.slice Ao33 lq_t160.length co33)) (fun _ h_ => h_.1)))); (case side2 => exact (Kd.R_reads' HO157.out).2.1); rintro e w34 ⟨v168, rfl, ⟨lq_t167, hq_, ho0⟩, hb⟩; have HQt167 := Aside0.mk hq_; clear hq_; refine ⟨_, rfl, ?_⟩; have n0_ := Aside0.mk (Kd.R_below (by (with_reducible repeat (first | apply Kd.R_alloc | apply Kd.R_drewN | apply Kd.R_drew)); exact (Kd.R_mono (Kd.R_far (p := ⟨gb164, 2, none⟩) (Kd.R_far (p := ⟨gb164, 1, none⟩) (Kd.R_far (p := ⟨gb164, 0, none⟩) (Kd.R_types HO157.out BK164.out (by decide)) (fun _ hk => hk.2) (.int .i64 t158)) (fun _ hk => hk.2) (.bool t159)) (fun _ hk => hk.2) (.slice Ao33 lq_t160.length co33)) (fun _ h_ => h_.1))) hb); have n1_ := Aside0.mk (Kd.V_below (by (with_reducible repeat (first | apply Kd.V_alloc | apply Kd.V_drewN | apply Kd.V_drew)); exact (Kd.V_mono (Kd.V_far (p := ⟨gb164, 2, none⟩) (Kd.V_far (p := ⟨gb164, 1, none⟩) (Kd.V_far (p := ⟨gb164, 0, none⟩) (Kd.V_mono HO162.out (fun k_ hk => (⟨hk, hk.2⟩ : _ ∧ k_ ≠ gb164))) (fun _ hk => hk.2) (.int .i64 t158)) (fun _ hk => hk.2) (.bool t159)) (fun _ hk => hk.2) (.slice Ao33 lq_t160.length co33)) (fun _ h_ => h_.1))) hb); have n2_ := Aside0.mk (Kd.V_lower (Kd.V_mono (ok' := fun k_ => some k_ ≠ (.slice Ao29 t155.length co29 : Value).ownBlock ∧ k_ ≠ gb164) ho0 (fun k_ hk_ => ⟨(Kd.fresh' (Kd.R_lt (by (with_reducible repeat (first | apply Kd.R_alloc | apply Kd.R_drewN | apply Kd.R_drew)); exact (Kd.R_mono (Kd.R_far (p := ⟨gb164, 2, none⟩) (Kd.R_far (p := ⟨gb164, 1, none⟩) (Kd.R_far (p := ⟨gb164, 0, none⟩) (Kd.R_types HO157.out BK164.out (by decide)) (fun _ hk => hk.2) (.int .i64 t158)) (fun _ hk => hk.2) (.bool t159)) (fun _ hk => hk.2) (.slice Ao33 lq_t160.length co33)) (fun _ h_ => h_.1)))) k_ hk_), (Kd.freshB (g := gb164) (o := .cells #[.int .i64 t158, .bool t159, .slice Ao33 lq_t160.length co33] 40 (0, 0)) (by (with_reducible repeat (first | refine blk_drewN ?_ _ | refine blk_drew ?_ | refine blk_alloc ?_ _)); refine blk_put (cs := #[.int .i64 t158, .bool t159, .slice none 0 0]) ?_ 2 _ rfl; (with_reducible repeat (first | refine blk_drewN ?_ _ | refine blk_drew ?_ | refine blk_alloc ?_ _)); refine blk_put (cs := #[.int .i64 t158, .bool false, .slice none 0 0]) ?_ 1 _ rfl; (with_reducible repeat (first | refine blk_drewN ?_ _ | refine blk_drew ?_ | refine blk_alloc ?_ _)); refine blk_put (cs := #[.int .i64 0, .bool false, .slice none 0 0]) ?_ 0 _ rfl; (with_reducible repeat (first | refine blk_drewN ?_ _ | refine blk_drew ?_ | refine blk_alloc ?_ _)); exact BK164.out) k_ hk_)⟩)) (below_size (by repeat (first | (with_reducible first | exact HB.out | apply below_alloc | apply pw_below_drewN | apply below_drew1 | refine below_set ?_ GE164.out) | exact HB.out)))); have n3_ := Aside0.mk (blk_below (g := gb164) (o := .cells #[.int .i64 t158, .bool t159, .slice Ao33 lq_t160.length co33] 40 (0, 0)) (by (with_reducible repeat (first | refine blk_drewN ?_ _ | refine blk_drew ?_ | refine blk_alloc ?_ _)); refine blk_put (cs := #[.int .i64 t158, .bool t159, .slice none 0 0]) ?_ 2 _ rfl; (with_reducible repeat (first | refine blk_drewN ?_ _ | refine blk_drew ?_ | refine blk_alloc ?_ _)); refine blk_put (cs := #[.int .i64 t158, .bool false, .slice none 0 0]) ?_ 1 _ rfl; (with_reducible repeat (first | refine blk_drewN ?_ _ | refine blk_drew ?_ | refine blk_alloc ?_ _)); refine blk_put (cs := #[.int .i64 0, .bool false, .slice none 0 0]) ?_ 0 _ rfl; (with_reducible repeat (first | refine blk_drewN ?_ _ | refine blk_drew ?_ | refine blk_alloc ?_ _)); exact BK164.out) hb); have n4_ := Aside0.mk (below_step (by repeat (first | (with_reducible first | exact HB.out | apply below_alloc | apply pw_below_drewN | apply below_drew1 | refine below_set ?_ GE164.out) | exact HB.out)) hb); clear HO157; clear HO162; clear BK164; clear HB; have HO157 := n0_; have HO162 := n1_; have HO169 := n2_; have BK164 := n3_; have HB := n4_; clear n0_ n1_ n2_ n3_ n4_; (try clear hb); (try clear hb2); (try clear hk); (try clear hi); (try clear ho0)) | ((with_reducible refine gate_dst (N := 14) rfl ?_); (try (refine gate_guard (by rfl) ?_; dsimp only)); refine box_event ?hg (N := 14) ?hd (cs := #[.int .i64 0, .bool false, .slice none 0 0]) (t := 40) ?hr ?_; (case hd => rfl); (case hg => rfl); (case hr => first | (go_simp; done) | (go_simp; rfl)); intro gb171 hg w35 hbox hb; have n0_ := Aside0.mk (Kd.R_below (by (with_reducible repeat (first | apply Kd.R_alloc | apply Kd.R_drewN | apply Kd.R_drew)); exact HO157.out) hb); have n1_ := Aside0.mk (Kd.V_below (Kd.V_elderB (by (with_reducible repeat (first | apply Kd.V_alloc | apply Kd.V_drewN | apply Kd.V_drew)); exact HO162.out) gb171 (Nat.le_of_eq hg.symm)) hb); have n2_ := Aside0.mk (Kd.V_below (Kd.V_elderB (by (with_reducible repeat (first | apply Kd.V_alloc | apply Kd.V_drewN | apply Kd.V_drew)); exact HO169.out) gb171 (Nat.le_of_eq hg.symm)) hb); have n3_ := Aside0.mk (blk_below (g := gb164) (o := .cells #[.int .i64 t158, .bool t159, .slice Ao33 lq_t160.length co33] 40 (0, 0)) (by (with_reducible repeat (first | refine blk_drewN ?_ _ | refine blk_drew ?_ | refine blk_alloc ?_ _)); exact BK164.out) hb); have n4_ := Aside0.mk (below_step (by repeat (first | (with_reducible first | exact HB.out | apply below_alloc | apply pw_below_drewN | apply below_drew1 | refine below_set ?_ GE164.out) | exact HB.out)) hb); have n5_ := Aside0.mk (hbox); have n6_ := Aside0.mk ((by rw [hg]; exact (below_size (by repeat (first | (with_reducible first | exact HB.out | apply below_alloc | apply pw_below_drewN | apply below_drew1 | refine below_set ?_ GE164.out) | exact HB.out))) : w.heap.size ≤ gb171)); have n7_ := Aside0.mk ((by rw [hg]; exact (below_size (by repeat (first | (with_reducible first | exact HB.out | apply below_alloc | apply pw_below_drewN | apply below_drew1 | refine below_set ?_ GE164.out) | exact HB.out))) : w.heap.size ≤ gb171)); have n8_ := Aside0.mk ((by rw [hg]; exact Nat.ne_of_lt (blk_lt (g := gb164) (o := .cells #[.int .i64 t158, .bool t159, .slice Ao33 lq_t160.length co33] 40 (0, 0)) (by (with_reducible repeat (first | refine blk_drewN ?_ _ | refine blk_drew ?_ | refine blk_alloc ?_ _)); exact BK164.out)) : gb164 ≠ gb171)); have n9_ := Aside0.mk ((by rw [hg]; exact Nat.ne_of_gt (blk_lt (g := gb164) (o := .cells #[.int .i64 t158, .bool t159, .slice Ao33 lq_t160.length co33] 40 (0, 0)) (by (with_reducible repeat (first | refine blk_drewN ?_ _ | refine blk_drew ?_ | refine blk_alloc ?_ _)); exact BK164.out)) : gb171 ≠ gb164)); clear HO157; clear HO162; clear HO169; clear BK164; clear HB; have HO157 := n0_; have HO162 := n1_; have HO169 := n2_; have BK164 := n3_; have HB := n4_; have BK171 := n5_; have GW171 := n6_; have GE171 := n7_; have NB164_171 := n8_; have NB171_164 := n9_; clear n0_ n1_ n2_ n3_ n4_ n5_ n6_ n7_ n8_ n9_; clear hb hbox hg; have hnb36 := NB171_164.out; have hnc36 := NB164_171.out; have hcz37_0 : w35.cell? ⟨gb171, 0, none⟩ = some (.int .i64 0) := (blk_cell BK171.out 0).trans rfl; have hcz37_1 : w35.cell? ⟨gb171, 1, none⟩ = some (.bool false) := (blk_cell BK171.out 1).trans rfl; have hcz37_2 : w35.cell? ⟨gb171, 2, none⟩ = some (.slice none 0 0) := (blk_cell BK171.out 2).trans rfl; have hfz37_0 := blk_frozen BK171.out 0; have hfz37_1 := blk_frozen BK171.out 1; have hfz37_2 := blk_frozen BK171.out 2; obtain ⟨Ao38, co38, eo38⟩ := Kd.V_slice HO169.out; subst eo38) | ((with_reducible refine gate_callee (f := 17) rfl ?_); refine goesL_ (some 80) rfl rfl Tryz.func17 (by kernel_rfl) rfl #[.int .i64 20, .bool a0, .slice Ao29 t155.length co29, .agg #[.int .i64 3, .string a2, .string (⟨#[]⟩ : ByteArray), .string a4]] rfl (by (try simp only [List.map_toArray, List.map_cons, List.map_nil]); first | done | rfl | (simp only [List.length_drop, List.length_take]; rfl)) ?_; (with_reducible refine (laws_question.calls kj15 20 a0 _ _ t155 3 a2 (⟨#[]⟩ : ByteArray) a4 t172 t173 t174 t177 _ ?side1 ?side2 A26.out).mono ?_); (case side1 => refine (Kd.R_reads' (e := 54) (base := w.heap.size) (ok := fun k_ => True) (n := t155.length) (c := co29) ?_).2.2; exact (by (with_reducible repeat (first | apply Kd.R_alloc | apply Kd.R_drewN | apply Kd.R_drew)); exact (Kd.R_mono (Kd.R_far (p := ⟨gb171, 2, none⟩) (Kd.R_far (p := ⟨gb171, 1, none⟩) (Kd.R_far (p := ⟨gb171, 0, none⟩) (Kd.R_types HO157.out BK171.out (by decide)) (fun _ hk => hk.2) (.int .i64 t165)) (fun _ hk => hk.2) (.bool t166)) (fun _ hk => hk.2) (.slice Ao38 lq_t167.length co38)) (fun _ h_ => h_.1)))); (case side2 => exact (Kd.R_reads' HO157.out).2.1); rintro e w39 ⟨v175, rfl, ⟨lq_t174, hq_, ho0⟩, hb⟩; have HQt174 := Aside0.mk hq_; clear hq_; refine ⟨_, rfl, ?_⟩; have n0_ := Aside0.mk (Kd.R_below (by (with_reducible repeat (first | apply Kd.R_alloc | apply Kd.R_drewN | apply Kd.R_drew)); exact (Kd.R_mono (Kd.R_far (p := ⟨gb171, 2, none⟩) (Kd.R_far (p := ⟨gb171, 1, none⟩) (Kd.R_far (p := ⟨gb171, 0, none⟩) (Kd.R_types HO157.out BK171.out (by decide)) (fun _ hk => hk.2) (.int .i64 t165)) (fun _ hk => hk.2) (.bool t166)) (fun _ hk => hk.2) (.slice Ao38 lq_t167.length co38)) (fun _ h_ => h_.1))) hb); have n1_ := Aside0.mk (Kd.V_below (by (with_reducible repeat (first | apply Kd.V_alloc | apply Kd.V_drewN | apply Kd.V_drew)); exact (Kd.V_mono (Kd.V_far (p := ⟨gb171, 2, none⟩) (Kd.V_far (p := ⟨gb171, 1, none⟩) (Kd.V_far (p := ⟨gb171, 0, none⟩) (Kd.V_mono HO162.out (fun k_ hk => (⟨hk, hk.2⟩ : _ ∧ k_ ≠ gb171))) (fun _ hk => hk.2) (.int .i64 t165)) (fun _ hk => hk.2) (.bool t166)) (fun _ hk => hk.2) (.slice Ao38 lq_t167.length co38)) (fun _ h_ => h_.1))) hb); have n2_ := Aside0.mk (Kd.V_below (by (with_reducible repeat (first | apply Kd.V_alloc | apply Kd.V_drewN | apply Kd.V_drew)); exact (Kd.V_mono (Kd.V_far (p := ⟨gb171, 2, none⟩) (Kd.V_far (p := ⟨gb171, 1, none⟩) (Kd.V_far (p := ⟨gb171, 0, none⟩) (Kd.V_mono HO169.out (fun k_ hk => (⟨hk, hk.2⟩ : _ ∧ k_ ≠ gb171))) (fun _ hk => hk.2) (.int .i64 t165)) (fun _ hk => hk.2) (.bool t166)) (fun _ hk => hk.2) (.slice Ao38 lq_t167.length co38)) (fun _ h_ => h_.1))) hb); have n3_ := Aside0.mk (Kd.V_lower (Kd.V_mono (ok' := fun k_ => some k_ ≠ (.slice Ao29 t155.length co29 : Value).ownBlock ∧ k_ ≠ gb164 ∧ k_ ≠ gb171) ho0 (fun k_ hk_ => ⟨(Kd.fresh' (Kd.R_lt (by (with_reducible repeat (first | apply Kd.R_alloc | apply Kd.R_drewN | apply Kd.R_drew)); exact (Kd.R_mono (Kd.R_far (p := ⟨gb171, 2, none⟩) (Kd.R_far (p := ⟨gb171, 1, none⟩) (Kd.R_far (p := ⟨gb171, 0, none⟩) (Kd.R_types HO157.out BK171.out (by decide)) (fun _ hk => hk.2) (.int .i64 t165)) (fun _ hk => hk.2) (.bool t166)) (fun _ hk => hk.2) (.slice Ao38 lq_t167.length co38)) (fun _ h_ => h_.1)))) k_ hk_), (Kd.freshB (g := gb164) (o := .cells #[.int .i64 t158, .bool t159, .slice Ao33 lq_t160.length co33] 40 (0, 0)) (by (with_reducible repeat (first | refine blk_drewN ?_ _ | refine blk_drew ?_ | refine blk_alloc ?_ _)); refine blk_far ?_ NB164_171.out _; (with_reducible repeat (first | refine blk_drewN ?_ _ | refine blk_drew ?_ | refine blk_alloc ?_ _)); refine blk_far ?_ NB164_171.out _; (with_reducible repeat (first | refine blk_drewN ?_ _ | refine blk_drew ?_ | refine blk_alloc ?_ _)); refine blk_far ?_ NB164_171.out _; (with_reducible repeat (first | refine blk_drewN ?_ _ | refine blk_drew ?_ | refine blk_alloc ?_ _)); exact BK164.out) k_ hk_), (Kd.freshB (g := gb171) (o := .cells #[.int .i64 t165, .bool t166, .slice Ao38 lq_t167.length co38] 40 (0, 0)) (by (with_reducible repeat (first | refine blk_drewN ?_ _ | refine blk_drew ?_ | refine blk_alloc ?_ _)); refine blk_put (cs := #[.int .i64 t165, .bool t166, .slice none 0 0]) ?_ 2 _ rfl; (with_reducible repeat (first | refine blk_drewN ?_ _ | refine blk_drew ?_ | refine blk_alloc ?_ _)); refine blk_put (cs := #[.int .i64 t165, .bool false, .slice none 0 0]) ?_ 1 _ rfl; (with_reducible repeat (first | refine blk_drewN ?_ _ | refine blk_drew ?_ | refine blk_alloc ?_ _)); refine blk_put (cs := #[.int .i64 0, .bool false, .slice none 0 0]) ?_ 0 _ rfl; (with_reducible repeat (first | refine blk_drewN ?_ _ | refine blk_drew ?_ | refine blk_alloc ?_ _)); exact BK171.out) k_ hk_)⟩)) (below_size (by repeat (first | (with_reducible first | exact HB.out | apply below_alloc | apply pw_below_drewN | apply below_drew1 | refine below_set ?_ GE164.out | refine below_set ?_ GE171.out) | exact HB.out)))); have n4_ := Aside0.mk (blk_below (g := gb164) (o := .cells #[.int .i64 t158, .bool t159, .slice Ao33 lq_t160.length co33] 40 (0, 0)) (by (with_reducible repeat (first | refine blk_drewN ?_ _ | refine blk_drew ?_ | refine blk_alloc ?_ _)); refine blk_far ?_ NB164_171.out _; (with_reducible repeat (first | refine blk_drewN ?_ _ | refine blk_drew ?_ | refine blk_alloc ?_ _)); refine blk_far ?_ NB164_171.out _; (with_reducible repeat (first | refine blk_drewN ?_ _ | refine blk_drew ?_ | refine blk_alloc ?_ _)); refine blk_far ?_ NB164_171.out _; (with_reducible repeat (first | refine blk_drewN ?_ _ | refine blk_drew ?_ | refine blk_alloc ?_ _)); exact BK164.out) hb); have n5_ := Aside0.mk (blk_below (g := gb171) (o := .cells #[.int .i64 t165, .bool t166, .slice Ao38 lq_t167.length co38] 40 (0, 0)) (by (with_reducible repeat (first | refine blk_drewN ?_ _ | refine blk_drew ?_ | refine blk_alloc ?_ _)); refine blk_put (cs := #[.int .i64 t165, .bool t166, .slice none 0 0]) ?_ 2 _ rfl; (with_reducible repeat (first | refine blk_drewN ?_ _ | refine blk_drew ?_ | refine blk_alloc ?_ _)); refine blk_put (cs := #[.int .i64 t165, .bool false, .slice none 0 0]) ?_ 1 _ rfl; (with_reducible repeat (first | refine blk_drewN ?_ _ | refine blk_drew ?_ | refine blk_alloc ?_ _)); refine blk_put (cs := #[.int .i64 0, .bool false, .slice none 0 0]) ?_ 0 _ rfl; (with_reducible repeat (first | refine blk_drewN ?_ _ | refine blk_drew ?_ | refine blk_alloc ?_ _)); exact BK171.out) hb); have n6_ := Aside0.mk (below_step (by repeat (first | (with_reducible first | exact HB.out | apply below_alloc | apply pw_below_drewN | apply below_drew1 | refine below_set ?_ GE164.out | refine below_set ?_ GE171.out) | exact HB.out)) hb); clear HO157; clear HO162; clear HO169; clear BK164; clear BK171; clear HB; have HO157 := n0_; have HO162 := n1_; have HO169 := n2_; have HO176 := n3_; have BK164 := n4_; have BK171 := n5_; have HB := n6_; clear n0_ n1_ n2_ n3_ n4_ n5_ n6_; (try clear hb); (try clear hb2); (try clear hk); (try clear hi); (try clear ho0)) | ((with_reducible refine gate_dst (N := 16) rfl ?_); (try (refine gate_guard (by rfl) ?_; dsimp only)); refine box_event ?hg (N := 16) ?hd (cs := #[.int .i64 0, .bool false, .slice none 0 0]) (t := 40) ?hr ?_; (case hd => rfl); (case hg => rfl); (case hr => first | (go_simp; done) | (go_simp; rfl)); intro gb178 hg w40 hbox hb; have n0_ := Aside0.mk (Kd.R_below (by (with_reducible repeat (first | apply Kd.R_alloc | apply Kd.R_drewN | apply Kd.R_drew)); exact HO157.out) hb); have n1_ := Aside0.mk (Kd.V_below (Kd.V_elderB (by (with_reducible repeat (first | apply Kd.V_alloc | apply Kd.V_drewN | apply Kd.V_drew)); exact HO162.out) gb178 (Nat.le_of_eq hg.symm)) hb); have n2_ := Aside0.mk (Kd.V_below (Kd.V_elderB (by (with_reducible repeat (first | apply Kd.V_alloc | apply Kd.V_drewN | apply Kd.V_drew)); exact HO169.out) gb178 (Nat.le_of_eq hg.symm)) hb); have n3_ := Aside0.mk (Kd.V_below (Kd.V_elderB (by (with_reducible repeat (first | apply Kd.V_alloc | apply Kd.V_drewN | apply Kd.V_drew)); exact HO176.out) gb178 (Nat.le_of_eq hg.symm)) hb); have n4_ := Aside0.mk (blk_below (g := gb164) (o := .cells #[.int .i64 t158, .bool t159, .slice Ao33 lq_t160.length co33] 40 (0, 0)) (by (with_reducible repeat (first | refine blk_drewN ?_ _ | refine blk_drew ?_ | refine blk_alloc ?_ _)); exact BK164.out) hb); have n5_ := Aside0.mk (blk_below (g := gb171) (o := .cells #[.int .i64 t165, .bool t166, .slice Ao38 lq_t167.length co38] 40 (0, 0)) (by (with_reducible repeat (first | refine blk_drewN ?_ _ | refine blk_drew ?_ | refine blk_alloc ?_ _)); exact BK171.out) hb); have n6_ := Aside0.mk (below_step (by repeat (first | (with_reducible first | exact HB.out | apply below_alloc | apply pw_below_drewN | apply below_drew1 | refine below_set ?_ GE164.out | refine below_set ?_ GE171.out) | exact HB.out)) hb); have n7_ := Aside0.mk (hbox); have n8_ := Aside0.mk ((by rw [hg]; exact (below_size (by repeat (first | (with_reducible first | exact HB.out | apply below_alloc | apply pw_below_drewN | apply below_drew1 | refine below_set ?_ GE164.out | refine below_set ?_ GE171.out) | exact HB.out))) : w.heap.size ≤ gb178)); have n9_ := Aside0.mk ((by rw [hg]; exact (below_size (by repeat (first | (with_reducible first | exact HB.out | apply below_alloc | apply pw_below_drewN | apply below_drew1 | refine below_set ?_ GE164.out | refine below_set ?_ GE171.out) | exact HB.out))) : w.heap.size ≤ gb178)); have n10_ := Aside0.mk ((by rw [hg]; exact Nat.ne_of_lt (blk_lt (g := gb164) (o := .cells #[.int .i64 t158, .bool t159, .slice Ao33 lq_t160.length co33] 40 (0, 0)) (by (with_reducible repeat (first | refine blk_drewN ?_ _ | refine blk_drew ?_ | refine blk_alloc ?_ _)); exact BK164.out)) : gb164 ≠ gb178)); have n11_ := Aside0.mk ((by rw [hg]; exact Nat.ne_of_gt (blk_lt (g := gb164) (o := .cells #[.int .i64 t158, .bool t159, .slice Ao33 lq_t160.length co33] 40 (0, 0)) (by (with_reducible repeat (first | refine blk_drewN ?_ _ | refine blk_drew ?_ | refine blk_alloc ?_ _)); exact BK164.out)) : gb178 ≠ gb164)); have n12_ := Aside0.mk ((by rw [hg]; exact Nat.ne_of_lt (blk_lt (g := gb171) (o := .cells #[.int .i64 t165, .bool t166, .slice Ao38 lq_t167.length co38] 40 (0, 0)) (by (with_reducible repeat (first | refine blk_drewN ?_ _ | refine blk_drew ?_ | refine blk_alloc ?_ _)); exact BK171.out)) : gb171 ≠ gb178)); have n13_ := Aside0.mk ((by rw [hg]; exact Nat.ne_of_gt (blk_lt (g := gb171) (o := .cells #[.int .i64 t165, .bool t166, .slice Ao38 lq_t167.length co38] 40 (0, 0)) (by (with_reducible repeat (first | refine blk_drewN ?_ _ | refine blk_drew ?_ | refine blk_alloc ?_ _)); exact BK171.out)) : gb178 ≠ gb171)); clear HO157; clear HO162; clear HO169; clear HO176; clear BK164; clear BK171; clear HB; have HO157 := n0_; have HO162 := n1_; have HO169 := n2_; have HO176 := n3_; have BK164 := n4_; have BK171 := n5_; have HB := n6_; have BK178 := n7_; have GW178 := n8_; have GE178 := n9_; have NB164_178 := n10_; have NB178_164 := n11_; have NB171_178 := n12_; have NB178_171 := n13_; clear n0_ n1_ n2_ n3_ n4_ n5_ n6_ n7_ n8_ n9_ n10_ n11_ n12_ n13_; clear hb hbox hg; have hnb41 := NB178_164.out; have hnc41 := NB164_178.out; have hnb42 := NB178_171.out; have hnc42 := NB171_178.out; have hcz43_0 : w40.cell? ⟨gb178, 0, none⟩ = some (.int .i64 0) := (blk_cell BK178.out 0).trans rfl; have hcz43_1 : w40.cell? ⟨gb178, 1, none⟩ = some (.bool false) := (blk_cell BK178.out 1).trans rfl; have hcz43_2 : w40.cell? ⟨gb178, 2, none⟩ = some (.slice none 0 0) := (blk_cell BK178.out 2).trans rfl; have hfz43_0 := blk_frozen BK178.out 0; have hfz43_1 := blk_frozen BK178.out 1; have hfz43_2 := blk_frozen BK178.out 2; obtain ⟨Ao44, co44, eo44⟩ := Kd.V_slice HO176.out; subst eo44))
       obtain ⟨kz_, HZ_⟩ := reach_blind (s1' := lq_t160) HQt167.out HQt174.out (question_few (by omega) (by omega) ⟨by omega, by omega⟩ A25.out) (question_few (by omega) (by omega) ⟨by omega, by omega⟩ A26.out) HC27.out
       clear HC27
       have HC27 := Aside0.mk HZ_
       have HJ15 := Aside0.mk (Nat.le_refl kz_)
       clear HZ_
       (try simp only [Act.put, List.setIfInBounds_toArray, List.set_cons_zero, List.set_cons_succ])
       go_cut [97] (fun v97 wc => ∃ (kq : Nat) (x97_26 : Bool), v97 = .bool x97_26 ∧ Aside0 (laws_FnRolesReach.j2 kq a0 a2 a3 a4 t155 x97_26 t158 t159 lq_t160 t165 t166 lq_t167 t172 t173 lq_t174 = some r) ∧ Aside0 (kq ≤ kz_) ∧ Aside0 (Kd.R k54 54 wc w.heap.size (fun _ => True) (.slice Ao29 t155.length co29) t155) ∧ Aside0 (Kd.V Kd.string 9 wc w.heap.size (fun k_ => some k_ ≠ ((.slice Ao29 t155.length co29) : Value).ownBlock ∧ k_ ≠ gb164 ∧ k_ ≠ gb171 ∧ k_ ≠ gb178) (.slice Ao33 lq_t160.length co33) lq_t160) ∧ Aside0 (Kd.V Kd.string 9 wc w.heap.size (fun k_ => some k_ ≠ ((.slice Ao29 t155.length co29) : Value).ownBlock ∧ k_ ≠ gb164 ∧ k_ ≠ gb171 ∧ k_ ≠ gb178) (.slice Ao38 lq_t167.length co38) lq_t167) ∧ Aside0 (Kd.V Kd.string 9 wc w.heap.size (fun k_ => some k_ ≠ ((.slice Ao29 t155.length co29) : Value).ownBlock ∧ k_ ≠ gb164 ∧ k_ ≠ gb171 ∧ k_ ≠ gb178) (.slice Ao44 lq_t174.length co44) lq_t174) ∧ Aside0 (wc.heap[gb164]? = some (.cells #[.int .i64 t158, .bool t159, (.slice Ao33 lq_t160.length co33)] 40 (0, 0))) ∧ Aside0 (wc.heap[gb171]? = some (.cells #[.int .i64 t165, .bool t166, (.slice Ao38 lq_t167.length co38)] 40 (0, 0))) ∧ Aside0 (wc.heap[gb178]? = some (.cells #[.int .i64 t172, .bool t173, (.slice Ao44 lq_t174.length co44)] 40 (0, 0))) ∧ Aside0 (Below w.heap.size w wc))
       case first =>
        have H := HC27.out
        clear HC27
        by_cases c45 : t163 = true
        ·subst c45
         have H1 : (if t170 = true then (if t177 = true then (laws_FnRolesReach.j2 kz_ a0 a2 a3 a4 t155 (t158 != 0) t158 t159 lq_t160 t165 t166 lq_t167 t172 t173 lq_t174) else (laws_FnRolesReach.j2 kz_ a0 a2 a3 a4 t155 true t158 t159 lq_t160 t165 t166 lq_t167 t172 t173 lq_t174)) else (laws_FnRolesReach.j2 kz_ a0 a2 a3 a4 t155 true t158 t159 lq_t160 t165 t166 lq_t167 t172 t173 lq_t174)) = some r := by rw [if_pos rfl] at H; exact H
         clear H
         have H := H1
         clear H1
         by_cases c46 : t170 = true
         ·subst c46
          have H1 : (if t177 = true then (laws_FnRolesReach.j2 kz_ a0 a2 a3 a4 t155 (t158 != 0) t158 t159 lq_t160 t165 t166 lq_t167 t172 t173 lq_t174) else (laws_FnRolesReach.j2 kz_ a0 a2 a3 a4 t155 true t158 t159 lq_t160 t165 t166 lq_t167 t172 t173 lq_t174)) = some r := by rw [if_pos rfl] at H; exact H
          clear H
          have H := H1
          clear H1
          by_cases c47 : t177 = true
          ·subst c47
           have H1 : (laws_FnRolesReach.j2 kz_ a0 a2 a3 a4 t155 (t158 != 0) t158 t159 lq_t160 t165 t166 lq_t167 t172 t173 lq_t174) = some r := by rw [if_pos rfl] at H; exact H
           clear H
           have H := H1
           clear H1
           have H' := Aside0.mk H
           clear H
           have hnb48 := NB164_171.out
           have hnc48 := NB171_164.out
           have hnb49 := NB164_178.out
           have hnc49 := NB178_164.out
           have hcz50_0 : w40.cell? ⟨gb164, 0, none⟩ = some (.int .i64 t158) := (blk_cell BK164.out 0).trans rfl
           have hcz50_1 : w40.cell? ⟨gb164, 1, none⟩ = some (.bool t159) := (blk_cell BK164.out 1).trans rfl
           have hcz50_2 : w40.cell? ⟨gb164, 2, none⟩ = some (.slice Ao33 lq_t160.length co33) := (blk_cell BK164.out 2).trans rfl
           have hfz50_0 := blk_frozen BK164.out 0
           have hfz50_1 := blk_frozen BK164.out 1
           have hfz50_2 := blk_frozen BK164.out 2
           go_wp2
           go_meet
           case rel => exact ⟨_, ((t158 != 0)), (by first | rfl | (simp; done) | (simp [*]; done)), H', ⟨by have := HJ5.out; have := HJ15.out; first | omega | exact Nat.le_refl _⟩, ⟨by (with_reducible repeat (first | apply Kd.R_alloc | apply Kd.R_drewN | apply Kd.R_drew)); exact Kd.R_mono (Kd.R_far (p := ⟨gb178, 2, none⟩) (Kd.R_far (p := ⟨gb178, 1, none⟩) (Kd.R_far (p := ⟨gb178, 0, none⟩) (Kd.R_types HO157.out BK178.out (by decide)) (fun _ hk => hk.2) (.int .i64 t172)) (fun _ hk => hk.2) (.bool t173)) (fun _ hk => hk.2) (.slice Ao44 lq_t174.length co44)) (fun _ hk => trivial)⟩, ⟨by (with_reducible repeat (first | apply Kd.V_alloc | apply Kd.V_drewN | apply Kd.V_drew)); exact Kd.V_mono (Kd.V_far (p := ⟨gb178, 2, none⟩) (Kd.V_far (p := ⟨gb178, 1, none⟩) (Kd.V_far (p := ⟨gb178, 0, none⟩) (Kd.V_mono HO162.out (fun k_ hk => (⟨hk, hk.2⟩ : _ ∧ k_ ≠ gb178))) (fun _ hk => hk.2) (.int .i64 t172)) (fun _ hk => hk.2) (.bool t173)) (fun _ hk => hk.2) (.slice Ao44 lq_t174.length co44)) (fun _ hk => ⟨hk.1.1.1.1, ⟨hk.1.1.1.2, ⟨hk.1.1.2, hk.1.2⟩⟩⟩)⟩, ⟨by (with_reducible repeat (first | apply Kd.V_alloc | apply Kd.V_drewN | apply Kd.V_drew)); exact Kd.V_mono (Kd.V_far (p := ⟨gb178, 2, none⟩) (Kd.V_far (p := ⟨gb178, 1, none⟩) (Kd.V_far (p := ⟨gb178, 0, none⟩) (Kd.V_mono HO169.out (fun k_ hk => (⟨hk, hk.2⟩ : _ ∧ k_ ≠ gb178))) (fun _ hk => hk.2) (.int .i64 t172)) (fun _ hk => hk.2) (.bool t173)) (fun _ hk => hk.2) (.slice Ao44 lq_t174.length co44)) (fun _ hk => ⟨hk.1.1.1.1, ⟨hk.1.1.1.2, ⟨hk.1.1.2, hk.1.2⟩⟩⟩)⟩, ⟨by (with_reducible repeat (first | apply Kd.V_alloc | apply Kd.V_drewN | apply Kd.V_drew)); exact Kd.V_mono (Kd.V_far (p := ⟨gb178, 2, none⟩) (Kd.V_far (p := ⟨gb178, 1, none⟩) (Kd.V_far (p := ⟨gb178, 0, none⟩) (Kd.V_mono HO176.out (fun k_ hk => (⟨hk, hk.2⟩ : _ ∧ k_ ≠ gb178))) (fun _ hk => hk.2) (.int .i64 t172)) (fun _ hk => hk.2) (.bool t173)) (fun _ hk => hk.2) (.slice Ao44 lq_t174.length co44)) (fun _ hk => ⟨hk.1.1.1, ⟨hk.1.1.2.1, ⟨hk.1.1.2.2, hk.1.2⟩⟩⟩)⟩, ⟨by (with_reducible repeat (first | refine blk_drewN ?_ _ | refine blk_drew ?_ | refine blk_alloc ?_ _)); refine blk_far ?_ NB164_178.out _; (with_reducible repeat (first | refine blk_drewN ?_ _ | refine blk_drew ?_ | refine blk_alloc ?_ _)); refine blk_far ?_ NB164_178.out _; (with_reducible repeat (first | refine blk_drewN ?_ _ | refine blk_drew ?_ | refine blk_alloc ?_ _)); refine blk_far ?_ NB164_178.out _; (with_reducible repeat (first | refine blk_drewN ?_ _ | refine blk_drew ?_ | refine blk_alloc ?_ _)); exact BK164.out⟩, ⟨by (with_reducible repeat (first | refine blk_drewN ?_ _ | refine blk_drew ?_ | refine blk_alloc ?_ _)); refine blk_far ?_ NB171_178.out _; (with_reducible repeat (first | refine blk_drewN ?_ _ | refine blk_drew ?_ | refine blk_alloc ?_ _)); refine blk_far ?_ NB171_178.out _; (with_reducible repeat (first | refine blk_drewN ?_ _ | refine blk_drew ?_ | refine blk_alloc ?_ _)); refine blk_far ?_ NB171_178.out _; (with_reducible repeat (first | refine blk_drewN ?_ _ | refine blk_drew ?_ | refine blk_alloc ?_ _)); exact BK171.out⟩, ⟨by (with_reducible repeat (first | refine blk_drewN ?_ _ | refine blk_drew ?_ | refine blk_alloc ?_ _)); refine blk_put (cs := #[.int .i64 t172, .bool t173, .slice none 0 0]) ?_ 2 _ rfl; (with_reducible repeat (first | refine blk_drewN ?_ _ | refine blk_drew ?_ | refine blk_alloc ?_ _)); refine blk_put (cs := #[.int .i64 t172, .bool false, .slice none 0 0]) ?_ 1 _ rfl; (with_reducible repeat (first | refine blk_drewN ?_ _ | refine blk_drew ?_ | refine blk_alloc ?_ _)); refine blk_put (cs := #[.int .i64 0, .bool false, .slice none 0 0]) ?_ 0 _ rfl; (with_reducible repeat (first | refine blk_drewN ?_ _ | refine blk_drew ?_ | refine blk_alloc ?_ _)); exact BK178.out⟩, ⟨by repeat (first | (with_reducible first | exact HB.out | apply below_alloc | apply pw_below_drewN | apply below_drew1 | refine below_set ?_ GE164.out | refine below_set ?_ GE171.out | refine below_set ?_ GE178.out) | exact HB.out)⟩⟩
          ·replace c47 := Bool.eq_false_iff.mpr c47
           subst c47
           have H1 : (laws_FnRolesReach.j2 kz_ a0 a2 a3 a4 t155 true t158 t159 lq_t160 t165 t166 lq_t167 t172 t173 lq_t174) = some r := by rw [if_neg (show ¬ (false = true) by decide)] at H; exact H
           clear H
           have H := H1
           clear H1
           have H' := Aside0.mk H
           clear H
           go_wp2
           go_meet
           case rel => exact ⟨_, (true), (by first | rfl | (simp; done) | (simp [*]; done)), H', ⟨by have := HJ5.out; have := HJ15.out; first | omega | exact Nat.le_refl _⟩, ⟨by (with_reducible repeat (first | apply Kd.R_alloc | apply Kd.R_drewN | apply Kd.R_drew)); exact Kd.R_mono (Kd.R_far (p := ⟨gb178, 2, none⟩) (Kd.R_far (p := ⟨gb178, 1, none⟩) (Kd.R_far (p := ⟨gb178, 0, none⟩) (Kd.R_types HO157.out BK178.out (by decide)) (fun _ hk => hk.2) (.int .i64 t172)) (fun _ hk => hk.2) (.bool t173)) (fun _ hk => hk.2) (.slice Ao44 lq_t174.length co44)) (fun _ hk => trivial)⟩, ⟨by (with_reducible repeat (first | apply Kd.V_alloc | apply Kd.V_drewN | apply Kd.V_drew)); exact Kd.V_mono (Kd.V_far (p := ⟨gb178, 2, none⟩) (Kd.V_far (p := ⟨gb178, 1, none⟩) (Kd.V_far (p := ⟨gb178, 0, none⟩) (Kd.V_mono HO162.out (fun k_ hk => (⟨hk, hk.2⟩ : _ ∧ k_ ≠ gb178))) (fun _ hk => hk.2) (.int .i64 t172)) (fun _ hk => hk.2) (.bool t173)) (fun _ hk => hk.2) (.slice Ao44 lq_t174.length co44)) (fun _ hk => ⟨hk.1.1.1.1, ⟨hk.1.1.1.2, ⟨hk.1.1.2, hk.1.2⟩⟩⟩)⟩, ⟨by (with_reducible repeat (first | apply Kd.V_alloc | apply Kd.V_drewN | apply Kd.V_drew)); exact Kd.V_mono (Kd.V_far (p := ⟨gb178, 2, none⟩) (Kd.V_far (p := ⟨gb178, 1, none⟩) (Kd.V_far (p := ⟨gb178, 0, none⟩) (Kd.V_mono HO169.out (fun k_ hk => (⟨hk, hk.2⟩ : _ ∧ k_ ≠ gb178))) (fun _ hk => hk.2) (.int .i64 t172)) (fun _ hk => hk.2) (.bool t173)) (fun _ hk => hk.2) (.slice Ao44 lq_t174.length co44)) (fun _ hk => ⟨hk.1.1.1.1, ⟨hk.1.1.1.2, ⟨hk.1.1.2, hk.1.2⟩⟩⟩)⟩, ⟨by (with_reducible repeat (first | apply Kd.V_alloc | apply Kd.V_drewN | apply Kd.V_drew)); exact Kd.V_mono (Kd.V_far (p := ⟨gb178, 2, none⟩) (Kd.V_far (p := ⟨gb178, 1, none⟩) (Kd.V_far (p := ⟨gb178, 0, none⟩) (Kd.V_mono HO176.out (fun k_ hk => (⟨hk, hk.2⟩ : _ ∧ k_ ≠ gb178))) (fun _ hk => hk.2) (.int .i64 t172)) (fun _ hk => hk.2) (.bool t173)) (fun _ hk => hk.2) (.slice Ao44 lq_t174.length co44)) (fun _ hk => ⟨hk.1.1.1, ⟨hk.1.1.2.1, ⟨hk.1.1.2.2, hk.1.2⟩⟩⟩)⟩, ⟨by (with_reducible repeat (first | refine blk_drewN ?_ _ | refine blk_drew ?_ | refine blk_alloc ?_ _)); refine blk_far ?_ NB164_178.out _; (with_reducible repeat (first | refine blk_drewN ?_ _ | refine blk_drew ?_ | refine blk_alloc ?_ _)); refine blk_far ?_ NB164_178.out _; (with_reducible repeat (first | refine blk_drewN ?_ _ | refine blk_drew ?_ | refine blk_alloc ?_ _)); refine blk_far ?_ NB164_178.out _; (with_reducible repeat (first | refine blk_drewN ?_ _ | refine blk_drew ?_ | refine blk_alloc ?_ _)); exact BK164.out⟩, ⟨by (with_reducible repeat (first | refine blk_drewN ?_ _ | refine blk_drew ?_ | refine blk_alloc ?_ _)); refine blk_far ?_ NB171_178.out _; (with_reducible repeat (first | refine blk_drewN ?_ _ | refine blk_drew ?_ | refine blk_alloc ?_ _)); refine blk_far ?_ NB171_178.out _; (with_reducible repeat (first | refine blk_drewN ?_ _ | refine blk_drew ?_ | refine blk_alloc ?_ _)); refine blk_far ?_ NB171_178.out _; (with_reducible repeat (first | refine blk_drewN ?_ _ | refine blk_drew ?_ | refine blk_alloc ?_ _)); exact BK171.out⟩, ⟨by (with_reducible repeat (first | refine blk_drewN ?_ _ | refine blk_drew ?_ | refine blk_alloc ?_ _)); refine blk_put (cs := #[.int .i64 t172, .bool t173, .slice none 0 0]) ?_ 2 _ rfl; (with_reducible repeat (first | refine blk_drewN ?_ _ | refine blk_drew ?_ | refine blk_alloc ?_ _)); refine blk_put (cs := #[.int .i64 t172, .bool false, .slice none 0 0]) ?_ 1 _ rfl; (with_reducible repeat (first | refine blk_drewN ?_ _ | refine blk_drew ?_ | refine blk_alloc ?_ _)); refine blk_put (cs := #[.int .i64 0, .bool false, .slice none 0 0]) ?_ 0 _ rfl; (with_reducible repeat (first | refine blk_drewN ?_ _ | refine blk_drew ?_ | refine blk_alloc ?_ _)); exact BK178.out⟩, ⟨by repeat (first | (with_reducible first | exact HB.out | apply below_alloc | apply pw_below_drewN | apply below_drew1 | refine below_set ?_ GE164.out | refine below_set ?_ GE171.out | refine below_set ?_ GE178.out) | exact HB.out)⟩⟩
         ·replace c46 := Bool.eq_false_iff.mpr c46
          subst c46
          have H1 : (laws_FnRolesReach.j2 kz_ a0 a2 a3 a4 t155 true t158 t159 lq_t160 t165 t166 lq_t167 t172 t173 lq_t174) = some r := by rw [if_neg (show ¬ (false = true) by decide)] at H; exact H
          clear H
          have H := H1
          clear H1
          have H' := Aside0.mk H
          clear H
          go_wp2
          go_meet
          case rel => exact ⟨_, (true), (by first | rfl | (simp; done) | (simp [*]; done)), H', ⟨by have := HJ5.out; have := HJ15.out; first | omega | exact Nat.le_refl _⟩, ⟨by (with_reducible repeat (first | apply Kd.R_alloc | apply Kd.R_drewN | apply Kd.R_drew)); exact Kd.R_mono (Kd.R_far (p := ⟨gb178, 2, none⟩) (Kd.R_far (p := ⟨gb178, 1, none⟩) (Kd.R_far (p := ⟨gb178, 0, none⟩) (Kd.R_types HO157.out BK178.out (by decide)) (fun _ hk => hk.2) (.int .i64 t172)) (fun _ hk => hk.2) (.bool t173)) (fun _ hk => hk.2) (.slice Ao44 lq_t174.length co44)) (fun _ hk => trivial)⟩, ⟨by (with_reducible repeat (first | apply Kd.V_alloc | apply Kd.V_drewN | apply Kd.V_drew)); exact Kd.V_mono (Kd.V_far (p := ⟨gb178, 2, none⟩) (Kd.V_far (p := ⟨gb178, 1, none⟩) (Kd.V_far (p := ⟨gb178, 0, none⟩) (Kd.V_mono HO162.out (fun k_ hk => (⟨hk, hk.2⟩ : _ ∧ k_ ≠ gb178))) (fun _ hk => hk.2) (.int .i64 t172)) (fun _ hk => hk.2) (.bool t173)) (fun _ hk => hk.2) (.slice Ao44 lq_t174.length co44)) (fun _ hk => ⟨hk.1.1.1.1, ⟨hk.1.1.1.2, ⟨hk.1.1.2, hk.1.2⟩⟩⟩)⟩, ⟨by (with_reducible repeat (first | apply Kd.V_alloc | apply Kd.V_drewN | apply Kd.V_drew)); exact Kd.V_mono (Kd.V_far (p := ⟨gb178, 2, none⟩) (Kd.V_far (p := ⟨gb178, 1, none⟩) (Kd.V_far (p := ⟨gb178, 0, none⟩) (Kd.V_mono HO169.out (fun k_ hk => (⟨hk, hk.2⟩ : _ ∧ k_ ≠ gb178))) (fun _ hk => hk.2) (.int .i64 t172)) (fun _ hk => hk.2) (.bool t173)) (fun _ hk => hk.2) (.slice Ao44 lq_t174.length co44)) (fun _ hk => ⟨hk.1.1.1.1, ⟨hk.1.1.1.2, ⟨hk.1.1.2, hk.1.2⟩⟩⟩)⟩, ⟨by (with_reducible repeat (first | apply Kd.V_alloc | apply Kd.V_drewN | apply Kd.V_drew)); exact Kd.V_mono (Kd.V_far (p := ⟨gb178, 2, none⟩) (Kd.V_far (p := ⟨gb178, 1, none⟩) (Kd.V_far (p := ⟨gb178, 0, none⟩) (Kd.V_mono HO176.out (fun k_ hk => (⟨hk, hk.2⟩ : _ ∧ k_ ≠ gb178))) (fun _ hk => hk.2) (.int .i64 t172)) (fun _ hk => hk.2) (.bool t173)) (fun _ hk => hk.2) (.slice Ao44 lq_t174.length co44)) (fun _ hk => ⟨hk.1.1.1, ⟨hk.1.1.2.1, ⟨hk.1.1.2.2, hk.1.2⟩⟩⟩)⟩, ⟨by (with_reducible repeat (first | refine blk_drewN ?_ _ | refine blk_drew ?_ | refine blk_alloc ?_ _)); refine blk_far ?_ NB164_178.out _; (with_reducible repeat (first | refine blk_drewN ?_ _ | refine blk_drew ?_ | refine blk_alloc ?_ _)); refine blk_far ?_ NB164_178.out _; (with_reducible repeat (first | refine blk_drewN ?_ _ | refine blk_drew ?_ | refine blk_alloc ?_ _)); refine blk_far ?_ NB164_178.out _; (with_reducible repeat (first | refine blk_drewN ?_ _ | refine blk_drew ?_ | refine blk_alloc ?_ _)); exact BK164.out⟩, ⟨by (with_reducible repeat (first | refine blk_drewN ?_ _ | refine blk_drew ?_ | refine blk_alloc ?_ _)); refine blk_far ?_ NB171_178.out _; (with_reducible repeat (first | refine blk_drewN ?_ _ | refine blk_drew ?_ | refine blk_alloc ?_ _)); refine blk_far ?_ NB171_178.out _; (with_reducible repeat (first | refine blk_drewN ?_ _ | refine blk_drew ?_ | refine blk_alloc ?_ _)); refine blk_far ?_ NB171_178.out _; (with_reducible repeat (first | refine blk_drewN ?_ _ | refine blk_drew ?_ | refine blk_alloc ?_ _)); exact BK171.out⟩, ⟨by (with_reducible repeat (first | refine blk_drewN ?_ _ | refine blk_drew ?_ | refine blk_alloc ?_ _)); refine blk_put (cs := #[.int .i64 t172, .bool t173, .slice none 0 0]) ?_ 2 _ rfl; (with_reducible repeat (first | refine blk_drewN ?_ _ | refine blk_drew ?_ | refine blk_alloc ?_ _)); refine blk_put (cs := #[.int .i64 t172, .bool false, .slice none 0 0]) ?_ 1 _ rfl; (with_reducible repeat (first | refine blk_drewN ?_ _ | refine blk_drew ?_ | refine blk_alloc ?_ _)); refine blk_put (cs := #[.int .i64 0, .bool false, .slice none 0 0]) ?_ 0 _ rfl; (with_reducible repeat (first | refine blk_drewN ?_ _ | refine blk_drew ?_ | refine blk_alloc ?_ _)); exact BK178.out⟩, ⟨by repeat (first | (with_reducible first | exact HB.out | apply below_alloc | apply pw_below_drewN | apply below_drew1 | refine below_set ?_ GE164.out | refine below_set ?_ GE171.out | refine below_set ?_ GE178.out) | exact HB.out)⟩⟩
        ·replace c45 := Bool.eq_false_iff.mpr c45
         subst c45
         have H1 : (laws_FnRolesReach.j2 kz_ a0 a2 a3 a4 t155 true t158 t159 lq_t160 t165 t166 lq_t167 t172 t173 lq_t174) = some r := by rw [if_neg (show ¬ (false = true) by decide)] at H; exact H
         clear H
         have H := H1
         clear H1
         have H' := Aside0.mk H
         clear H
         go_wp2
         go_meet
         case rel => exact ⟨_, (true), (by first | rfl | (simp; done) | (simp [*]; done)), H', ⟨by have := HJ5.out; have := HJ15.out; first | omega | exact Nat.le_refl _⟩, ⟨by (with_reducible repeat (first | apply Kd.R_alloc | apply Kd.R_drewN | apply Kd.R_drew)); exact Kd.R_mono (Kd.R_far (p := ⟨gb178, 2, none⟩) (Kd.R_far (p := ⟨gb178, 1, none⟩) (Kd.R_far (p := ⟨gb178, 0, none⟩) (Kd.R_types HO157.out BK178.out (by decide)) (fun _ hk => hk.2) (.int .i64 t172)) (fun _ hk => hk.2) (.bool t173)) (fun _ hk => hk.2) (.slice Ao44 lq_t174.length co44)) (fun _ hk => trivial)⟩, ⟨by (with_reducible repeat (first | apply Kd.V_alloc | apply Kd.V_drewN | apply Kd.V_drew)); exact Kd.V_mono (Kd.V_far (p := ⟨gb178, 2, none⟩) (Kd.V_far (p := ⟨gb178, 1, none⟩) (Kd.V_far (p := ⟨gb178, 0, none⟩) (Kd.V_mono HO162.out (fun k_ hk => (⟨hk, hk.2⟩ : _ ∧ k_ ≠ gb178))) (fun _ hk => hk.2) (.int .i64 t172)) (fun _ hk => hk.2) (.bool t173)) (fun _ hk => hk.2) (.slice Ao44 lq_t174.length co44)) (fun _ hk => ⟨hk.1.1.1.1, ⟨hk.1.1.1.2, ⟨hk.1.1.2, hk.1.2⟩⟩⟩)⟩, ⟨by (with_reducible repeat (first | apply Kd.V_alloc | apply Kd.V_drewN | apply Kd.V_drew)); exact Kd.V_mono (Kd.V_far (p := ⟨gb178, 2, none⟩) (Kd.V_far (p := ⟨gb178, 1, none⟩) (Kd.V_far (p := ⟨gb178, 0, none⟩) (Kd.V_mono HO169.out (fun k_ hk => (⟨hk, hk.2⟩ : _ ∧ k_ ≠ gb178))) (fun _ hk => hk.2) (.int .i64 t172)) (fun _ hk => hk.2) (.bool t173)) (fun _ hk => hk.2) (.slice Ao44 lq_t174.length co44)) (fun _ hk => ⟨hk.1.1.1.1, ⟨hk.1.1.1.2, ⟨hk.1.1.2, hk.1.2⟩⟩⟩)⟩, ⟨by (with_reducible repeat (first | apply Kd.V_alloc | apply Kd.V_drewN | apply Kd.V_drew)); exact Kd.V_mono (Kd.V_far (p := ⟨gb178, 2, none⟩) (Kd.V_far (p := ⟨gb178, 1, none⟩) (Kd.V_far (p := ⟨gb178, 0, none⟩) (Kd.V_mono HO176.out (fun k_ hk => (⟨hk, hk.2⟩ : _ ∧ k_ ≠ gb178))) (fun _ hk => hk.2) (.int .i64 t172)) (fun _ hk => hk.2) (.bool t173)) (fun _ hk => hk.2) (.slice Ao44 lq_t174.length co44)) (fun _ hk => ⟨hk.1.1.1, ⟨hk.1.1.2.1, ⟨hk.1.1.2.2, hk.1.2⟩⟩⟩)⟩, ⟨by (with_reducible repeat (first | refine blk_drewN ?_ _ | refine blk_drew ?_ | refine blk_alloc ?_ _)); refine blk_far ?_ NB164_178.out _; (with_reducible repeat (first | refine blk_drewN ?_ _ | refine blk_drew ?_ | refine blk_alloc ?_ _)); refine blk_far ?_ NB164_178.out _; (with_reducible repeat (first | refine blk_drewN ?_ _ | refine blk_drew ?_ | refine blk_alloc ?_ _)); refine blk_far ?_ NB164_178.out _; (with_reducible repeat (first | refine blk_drewN ?_ _ | refine blk_drew ?_ | refine blk_alloc ?_ _)); exact BK164.out⟩, ⟨by (with_reducible repeat (first | refine blk_drewN ?_ _ | refine blk_drew ?_ | refine blk_alloc ?_ _)); refine blk_far ?_ NB171_178.out _; (with_reducible repeat (first | refine blk_drewN ?_ _ | refine blk_drew ?_ | refine blk_alloc ?_ _)); refine blk_far ?_ NB171_178.out _; (with_reducible repeat (first | refine blk_drewN ?_ _ | refine blk_drew ?_ | refine blk_alloc ?_ _)); refine blk_far ?_ NB171_178.out _; (with_reducible repeat (first | refine blk_drewN ?_ _ | refine blk_drew ?_ | refine blk_alloc ?_ _)); exact BK171.out⟩, ⟨by (with_reducible repeat (first | refine blk_drewN ?_ _ | refine blk_drew ?_ | refine blk_alloc ?_ _)); refine blk_put (cs := #[.int .i64 t172, .bool t173, .slice none 0 0]) ?_ 2 _ rfl; (with_reducible repeat (first | refine blk_drewN ?_ _ | refine blk_drew ?_ | refine blk_alloc ?_ _)); refine blk_put (cs := #[.int .i64 t172, .bool false, .slice none 0 0]) ?_ 1 _ rfl; (with_reducible repeat (first | refine blk_drewN ?_ _ | refine blk_drew ?_ | refine blk_alloc ?_ _)); refine blk_put (cs := #[.int .i64 0, .bool false, .slice none 0 0]) ?_ 0 _ rfl; (with_reducible repeat (first | refine blk_drewN ?_ _ | refine blk_drew ?_ | refine blk_alloc ?_ _)); exact BK178.out⟩, ⟨by repeat (first | (with_reducible first | exact HB.out | apply below_alloc | apply pw_below_drewN | apply below_drew1 | refine below_set ?_ GE164.out | refine below_set ?_ GE171.out | refine below_set ?_ GE178.out) | exact HB.out)⟩⟩
       case rest =>
        clear HC27
        try clear c1
        try clear c2
        try clear p2
        try clear c3
        try clear c4
        try clear c7
        try clear c8
        try clear c9
        try clear c9b0
        try clear c9b1
        try clear c10
        try clear c11
        try clear c11b0
        try clear c11b1
        try clear c12
        try clear c14
        try clear c15
        try clear c17
        try clear c18
        try clear c20
        try clear c36
        try clear c41
        try clear c42
        try clear c45
        try clear c46
        try clear c47
        try clear c48
        try clear c49
        try clear hcz32_0
        try clear hcz32_1
        try clear hcz32_2
        try clear hcz37_0
        try clear hcz37_1
        try clear hcz37_2
        try clear hcz43_0
        try clear hcz43_1
        try clear hcz43_2
        try clear hcz50_0
        try clear hcz50_1
        try clear hcz50_2
        try clear hfz32_0
        try clear hfz32_1
        try clear hfz32_2
        try clear hfz37_0
        try clear hfz37_1
        try clear hfz37_2
        try clear hfz43_0
        try clear hfz43_1
        try clear hfz43_2
        try clear hfz50_0
        try clear hfz50_1
        try clear hfz50_2
        try clear p2
        obtain ⟨kq, x97_26, rfl, HA, HJ26, HO_11, HO_165002, HO_172002, HO_179002, BK164, BK171, BK178, HB⟩ := hcut
        cases kq with
        | zero => exact absurd HA.out (by simp [laws_FnRolesReach.j2])
        | succ kj26 =>
         have H := HA.out
         clear HA
         simp only [laws_FnRolesReach.j2] at H
         by_cases c51 : x97_26 = true
         ·subst c51
          have H1 : (some false) = some r := by rw [if_pos rfl] at H; exact H
          clear H
          have H := H1
          clear H1
          obtain rfl := Option.some.inj H
          go_wp2
          go_ret
          exact ⟨by first | rfl | (simp [errW_none, errW_some] <;> rfl) | (simp [*, errW_none, errW_some] <;> rfl), by repeat (first | (with_reducible first | exact HB.out | apply below_alloc | apply pw_below_drewN | apply below_drew1 | refine below_set ?_ GE164.out | refine below_set ?_ GE171.out | refine below_set ?_ GE178.out) | exact HB.out)⟩
         ·replace c51 := Bool.eq_false_iff.mpr c51
          subst c51
          have H1 : (laws_FnRolesReach.l0 kj26 a0 a2 a3 a4 t155 (a2.toList == a3.toList) 0 t158 t159 lq_t160 t165 t166 lq_t167 t172 t173 lq_t174) = some r := by rw [if_neg (show ¬ (false = true) by decide)] at H; exact H
          clear H
          have H := H1
          clear H1
          have H' := Aside0.mk H
          clear H
          go_wp2
          go_loopg [18, 19] kj26 (fun kq v18 v19 w' => ∃ (x18_4 : Bool) (x19_4 : Int), v18 = .bool x18_4 ∧ v19 = .int .i64 x19_4 ∧ Aside0 (laws_FnRolesReach.l0 kq a0 a2 a3 a4 t155 x18_4 x19_4 t158 t159 lq_t160 t165 t166 lq_t167 t172 t173 lq_t174 = some r) ∧ Aside0 (kq ≤ kj26) ∧ Aside0 (Kd.R k54 54 w' w.heap.size (fun _ => True) (.slice Ao29 t155.length co29) t155) ∧ Aside0 (Kd.V Kd.string 9 w' w.heap.size (fun k_ => some k_ ≠ ((.slice Ao29 t155.length co29) : Value).ownBlock ∧ k_ ≠ gb164 ∧ k_ ≠ gb171 ∧ k_ ≠ gb178) (.slice Ao33 lq_t160.length co33) lq_t160) ∧ Aside0 (Kd.V Kd.string 9 w' w.heap.size (fun k_ => some k_ ≠ ((.slice Ao29 t155.length co29) : Value).ownBlock ∧ k_ ≠ gb164 ∧ k_ ≠ gb171 ∧ k_ ≠ gb178) (.slice Ao38 lq_t167.length co38) lq_t167) ∧ Aside0 (Kd.V Kd.string 9 w' w.heap.size (fun k_ => some k_ ≠ ((.slice Ao29 t155.length co29) : Value).ownBlock ∧ k_ ≠ gb164 ∧ k_ ≠ gb171 ∧ k_ ≠ gb178) (.slice Ao44 lq_t174.length co44) lq_t174) ∧ Aside0 (w'.heap[gb164]? = some (.cells #[.int .i64 t158, .bool t159, (.slice Ao33 lq_t160.length co33)] 40 (0, 0))) ∧ Aside0 (w'.heap[gb171]? = some (.cells #[.int .i64 t165, .bool t166, (.slice Ao38 lq_t167.length co38)] 40 (0, 0))) ∧ Aside0 (w'.heap[gb178]? = some (.cells #[.int .i64 t172, .bool t173, (.slice Ao44 lq_t174.length co44)] 40 (0, 0))) ∧ Aside0 (Below w.heap.size w w'))
          case atStart => exact ⟨((a2.toList == a3.toList)), (0), (by first | rfl | (simp; done) | (simp [*]; done)), (by first | rfl | (simp; done) | (simp [*]; done)), H', ⟨Nat.le_refl _⟩, ⟨by (with_reducible repeat (first | apply Kd.R_alloc | apply Kd.R_drewN | apply Kd.R_drew)); exact HO_11.out⟩, ⟨by (with_reducible repeat (first | apply Kd.V_alloc | apply Kd.V_drewN | apply Kd.V_drew)); exact HO_165002.out⟩, ⟨by (with_reducible repeat (first | apply Kd.V_alloc | apply Kd.V_drewN | apply Kd.V_drew)); exact HO_172002.out⟩, ⟨by (with_reducible repeat (first | apply Kd.V_alloc | apply Kd.V_drewN | apply Kd.V_drew)); exact HO_179002.out⟩, ⟨by (with_reducible repeat (first | refine blk_drewN ?_ _ | refine blk_drew ?_ | refine blk_alloc ?_ _)); exact BK164.out⟩, ⟨by (with_reducible repeat (first | refine blk_drewN ?_ _ | refine blk_drew ?_ | refine blk_alloc ?_ _)); exact BK171.out⟩, ⟨by (with_reducible repeat (first | refine blk_drewN ?_ _ | refine blk_drew ?_ | refine blk_alloc ?_ _)); exact BK178.out⟩, ⟨by repeat (first | (with_reducible first | exact HB.out | apply below_alloc | apply pw_below_drewN | apply below_drew1 | refine below_set ?_ GE164.out | refine below_set ?_ GE171.out | refine below_set ?_ GE178.out) | exact HB.out)⟩⟩
          case round =>
           clear H'
           try clear c1
           try clear c2
           try clear p2
           try clear c3
           try clear c4
           try clear c5
           try clear c7
           try clear c8
           try clear c9
           try clear c9b0
           try clear c9b1
           try clear c10
           try clear c11
           try clear c11b0
           try clear c11b1
           try clear c12
           try clear c14
           try clear c15
           try clear c17
           try clear c18
           try clear c20
           try clear c36
           try clear c41
           try clear c42
           try clear c45
           try clear c46
           try clear c47
           try clear c48
           try clear c49
           try clear c51
           try clear hcz32_0
           try clear hcz32_1
           try clear hcz32_2
           try clear hcz37_0
           try clear hcz37_1
           try clear hcz37_2
           try clear hcz43_0
           try clear hcz43_1
           try clear hcz43_2
           try clear hcz50_0
           try clear hcz50_1
           try clear hcz50_2
           try clear hfz32_0
           try clear hfz32_1
           try clear hfz32_2
           try clear hfz37_0
           try clear hfz37_1
           try clear hfz37_2
           try clear hfz43_0
           try clear hfz43_1
           try clear hfz43_2
           try clear hfz50_0
           try clear hfz50_1
           try clear hfz50_2
           try clear p2
           obtain ⟨x18_4, x19_4, rfl, rfl, HA, HK4, HO_11, HO_165002, HO_172002, HO_179002, BK164, BK171, BK178, HB⟩ := hrel
           cases gk with
           | zero => exact absurd HA.out (by simp [laws_FnRolesReach.l0])
           | succ k4 =>
            have H := HA.out
            clear HA
            simp only [laws_FnRolesReach.l0] at H
            by_cases c52 : x19_4 < (lq_t167.length : Int)
            ·rw [if_pos c52] at H
             have c52b0 : decide (x19_4 < (lq_t167.length : Int)) = true := decide_eq_true c52
             clear c52
             by_cases c53 : 0 ≤ x19_4
             ·rw [if_pos c53] at H
              have c53b0 : decide (0 ≤ x19_4) = true := decide_eq_true c53
              clear c53
              replace H := Option.bind_eq_some_iff.mp H
              obtain ⟨⟨t180, t181, t182, t185⟩, A540, H⟩ := H
              replace H : (if t185 = true then (if t180 = 0 then (if x18_4 = true then (laws_FnRolesReach.l0 k4 a0 a2 a3 a4 t155 true (wrap64 (x19_4 + 1)) t158 t159 lq_t160 t165 t166 lq_t167 t172 t173 lq_t174) else (laws_FnRolesReach.l0 k4 a0 a2 a3 a4 t155 t181 (wrap64 (x19_4 + 1)) t158 t159 lq_t160 t165 t166 lq_t167 t172 t173 lq_t174)) else (some false)) else (some false)) = some r := H
              have A54 := Aside0.mk A540
              clear A540
              by_cases c55 : t185 = true
              ·subst c55
               have H1 : (if t180 = 0 then (if x18_4 = true then (laws_FnRolesReach.l0 k4 a0 a2 a3 a4 t155 true (wrap64 (x19_4 + 1)) t158 t159 lq_t160 t165 t166 lq_t167 t172 t173 lq_t174) else (laws_FnRolesReach.l0 k4 a0 a2 a3 a4 t155 t181 (wrap64 (x19_4 + 1)) t158 t159 lq_t160 t165 t166 lq_t167 t172 t173 lq_t174)) else (some false)) = some r := by rw [if_pos rfl] at H; exact H
               clear H
               have H := H1
               clear H1
               by_cases c56 : t180 = 0
               ·rw [if_pos c56] at H
                have c56b0 : (t180 == 0) = true := beq_iff_eq.mpr c56
                have c56b1 : (t180 != 0) = false := bne_eq_false_iff_eq.mpr c56
                clear c56
                by_cases c57 : x18_4 = true
                ·subst c57
                 have H1 : (laws_FnRolesReach.l0 k4 a0 a2 a3 a4 t155 true (wrap64 (x19_4 + 1)) t158 t159 lq_t160 t165 t166 lq_t167 t172 t173 lq_t174) = some r := by rw [if_pos rfl] at H; exact H
                 clear H
                 have H := H1
                 clear H1
                 have H' := Aside0.mk H
                 clear H
                 have hnb58 := NB171_164.out
                 have hnc58 := NB164_171.out
                 have hnb59 := NB171_178.out
                 have hnc59 := NB178_171.out
                 have hcz60_0 : wr.cell? ⟨gb171, 0, none⟩ = some (.int .i64 t165) := (blk_cell BK171.out 0).trans rfl
                 have hcz60_1 : wr.cell? ⟨gb171, 1, none⟩ = some (.bool t166) := (blk_cell BK171.out 1).trans rfl
                 have hcz60_2 : wr.cell? ⟨gb171, 2, none⟩ = some (.slice Ao38 lq_t167.length co38) := (blk_cell BK171.out 2).trans rfl
                 have hfz60_0 := blk_frozen BK171.out 0
                 have hfz60_1 := blk_frozen BK171.out 1
                 have hfz60_2 := blk_frozen BK171.out 2
                 have p179 : 0 ≤ (x19_4 : Int) := of_decide_eq_true (by first | (with_reducible assumption) | assumption)
                 have q179 : x19_4 < (lq_t167.length : Int) := of_decide_eq_true (by first | (with_reducible assumption) | assumption)
                 obtain ⟨ad179, e179, hx179_0⟩ := Kd.at_string (Kd.V_reads' HO_172002.out).2.2 x19_4 p179 q179
                 cases e179
                 replace p179 := eq_true p179
                 replace q179 := eq_true q179
                 go_wp2_with (first | ((with_reducible refine gate_callee (f := 17) rfl ?_); refine goesL_ (some 119) rfl rfl Tryz.func17 (by kernel_rfl) rfl #[.int .i64 20, .bool a0, .slice Ao29 t155.length co29, .agg #[.int .i64 0, .string (rdOf ByteArray.empty lq_t167 x19_4), .string a3, .string a4]] rfl (by (try simp only [List.map_toArray, List.map_cons, List.map_nil]); first | done | rfl | (simp only [List.length_drop, List.length_take]; rfl)) ?_; (with_reducible refine (laws_question.calls k4 20 a0 _ _ t155 0 (rdOf ByteArray.empty lq_t167 x19_4) a3 a4 t180 t181 t182 true _ ?side1 ?side2 A54.out).mono ?_); (case side1 => repeat (first | exact (Kd.R_reads' HO_11.out).2.2 | (with_reducible refine Kd.C_alloc ?_ _) | (with_reducible refine Kd.C_drewN ?_ _) | (with_reducible refine Kd.C_drew ?_))); (case side2 => exact (Kd.R_reads' HO_11.out).2.1); rintro e w61 ⟨v183, rfl, ⟨lq_t182, hq_, ho0⟩, hb⟩; have HQt182 := Aside0.mk hq_; clear hq_; refine ⟨_, rfl, ?_⟩; have n0_ := Aside0.mk (Kd.R_below (by (with_reducible repeat (first | apply Kd.R_alloc | apply Kd.R_drewN | apply Kd.R_drew)); exact HO_11.out) hb); have n1_ := Aside0.mk (Kd.V_below (by (with_reducible repeat (first | apply Kd.V_alloc | apply Kd.V_drewN | apply Kd.V_drew)); exact HO_165002.out) hb); have n2_ := Aside0.mk (Kd.V_below (by (with_reducible repeat (first | apply Kd.V_alloc | apply Kd.V_drewN | apply Kd.V_drew)); exact HO_172002.out) hb); have n3_ := Aside0.mk (Kd.V_below (by (with_reducible repeat (first | apply Kd.V_alloc | apply Kd.V_drewN | apply Kd.V_drew)); exact HO_179002.out) hb); have n4_ := Aside0.mk (Kd.V_lower (Kd.V_mono (ok' := fun k_ => some k_ ≠ (.slice Ao29 t155.length co29 : Value).ownBlock ∧ k_ ≠ gb164 ∧ k_ ≠ gb171 ∧ k_ ≠ gb178) ho0 (fun k_ hk_ => ⟨(Kd.fresh' (Kd.R_lt (by (with_reducible repeat (first | apply Kd.R_alloc | apply Kd.R_drewN | apply Kd.R_drew)); exact HO_11.out)) k_ hk_), (Kd.freshB (g := gb164) (o := .cells #[.int .i64 t158, .bool t159, .slice Ao33 lq_t160.length co33] 40 (0, 0)) (by (with_reducible repeat (first | refine blk_drewN ?_ _ | refine blk_drew ?_ | refine blk_alloc ?_ _)); exact BK164.out) k_ hk_), (Kd.freshB (g := gb171) (o := .cells #[.int .i64 t165, .bool t166, .slice (some ad179) lq_t167.length co38] 40 (0, 0)) (by (with_reducible repeat (first | refine blk_drewN ?_ _ | refine blk_drew ?_ | refine blk_alloc ?_ _)); exact BK171.out) k_ hk_), (Kd.freshB (g := gb178) (o := .cells #[.int .i64 t172, .bool t173, .slice Ao44 lq_t174.length co44] 40 (0, 0)) (by (with_reducible repeat (first | refine blk_drewN ?_ _ | refine blk_drew ?_ | refine blk_alloc ?_ _)); exact BK178.out) k_ hk_)⟩)) (below_size (by repeat (first | (with_reducible first | exact HB.out | apply below_alloc | apply pw_below_drewN | apply below_drew1 | refine below_set ?_ GE164.out | refine below_set ?_ GE171.out | refine below_set ?_ GE178.out) | exact HB.out)))); have n5_ := Aside0.mk (blk_below (g := gb164) (o := .cells #[.int .i64 t158, .bool t159, .slice Ao33 lq_t160.length co33] 40 (0, 0)) (by (with_reducible repeat (first | refine blk_drewN ?_ _ | refine blk_drew ?_ | refine blk_alloc ?_ _)); exact BK164.out) hb); have n6_ := Aside0.mk (blk_below (g := gb171) (o := .cells #[.int .i64 t165, .bool t166, .slice (some ad179) lq_t167.length co38] 40 (0, 0)) (by (with_reducible repeat (first | refine blk_drewN ?_ _ | refine blk_drew ?_ | refine blk_alloc ?_ _)); exact BK171.out) hb); have n7_ := Aside0.mk (blk_below (g := gb178) (o := .cells #[.int .i64 t172, .bool t173, .slice Ao44 lq_t174.length co44] 40 (0, 0)) (by (with_reducible repeat (first | refine blk_drewN ?_ _ | refine blk_drew ?_ | refine blk_alloc ?_ _)); exact BK178.out) hb); have n8_ := Aside0.mk (below_step (by repeat (first | (with_reducible first | exact HB.out | apply below_alloc | apply pw_below_drewN | apply below_drew1 | refine below_set ?_ GE164.out | refine below_set ?_ GE171.out | refine below_set ?_ GE178.out) | exact HB.out)) hb); clear HO_11; clear HO_165002; clear HO_172002; clear HO_179002; clear BK164; clear BK171; clear BK178; clear HB; have HO_11 := n0_; have HO_165002 := n1_; have HO_172002 := n2_; have HO_179002 := n3_; have HO184 := n4_; have BK164 := n5_; have BK171 := n6_; have BK178 := n7_; have HB := n8_; clear n0_ n1_ n2_ n3_ n4_ n5_ n6_ n7_ n8_; (try clear hb); (try clear hb2); (try clear hk); (try clear hi); (try clear ho0)) | ((with_reducible refine gate_dst (N := 20) rfl ?_); (try (refine gate_guard (by rfl) ?_; dsimp only)); refine box_event ?hg (N := 20) ?hd (cs := #[.int .i64 0, .bool false, .slice none 0 0]) (t := 40) ?hr ?_; (case hd => rfl); (case hg => rfl); (case hr => first | (go_simp; done) | (go_simp; rfl)); intro gb186 hg w62 hbox hb; have n0_ := Aside0.mk (Kd.R_below (by (with_reducible repeat (first | apply Kd.R_alloc | apply Kd.R_drewN | apply Kd.R_drew)); exact HO_11.out) hb); have n1_ := Aside0.mk (Kd.V_below (Kd.V_elderB (by (with_reducible repeat (first | apply Kd.V_alloc | apply Kd.V_drewN | apply Kd.V_drew)); exact HO_165002.out) gb186 (Nat.le_of_eq hg.symm)) hb); have n2_ := Aside0.mk (Kd.V_below (Kd.V_elderB (by (with_reducible repeat (first | apply Kd.V_alloc | apply Kd.V_drewN | apply Kd.V_drew)); exact HO_172002.out) gb186 (Nat.le_of_eq hg.symm)) hb); have n3_ := Aside0.mk (Kd.V_below (Kd.V_elderB (by (with_reducible repeat (first | apply Kd.V_alloc | apply Kd.V_drewN | apply Kd.V_drew)); exact HO_179002.out) gb186 (Nat.le_of_eq hg.symm)) hb); have n4_ := Aside0.mk (Kd.V_below (Kd.V_elderB (by (with_reducible repeat (first | apply Kd.V_alloc | apply Kd.V_drewN | apply Kd.V_drew)); exact HO184.out) gb186 (Nat.le_of_eq hg.symm)) hb); have n5_ := Aside0.mk (blk_below (g := gb164) (o := .cells #[.int .i64 t158, .bool t159, .slice Ao33 lq_t160.length co33] 40 (0, 0)) (by (with_reducible repeat (first | refine blk_drewN ?_ _ | refine blk_drew ?_ | refine blk_alloc ?_ _)); exact BK164.out) hb); have n6_ := Aside0.mk (blk_below (g := gb171) (o := .cells #[.int .i64 t165, .bool t166, .slice (some ad179) lq_t167.length co38] 40 (0, 0)) (by (with_reducible repeat (first | refine blk_drewN ?_ _ | refine blk_drew ?_ | refine blk_alloc ?_ _)); exact BK171.out) hb); have n7_ := Aside0.mk (blk_below (g := gb178) (o := .cells #[.int .i64 t172, .bool t173, .slice Ao44 lq_t174.length co44] 40 (0, 0)) (by (with_reducible repeat (first | refine blk_drewN ?_ _ | refine blk_drew ?_ | refine blk_alloc ?_ _)); exact BK178.out) hb); have n8_ := Aside0.mk (below_step (by repeat (first | (with_reducible first | exact HB.out | apply below_alloc | apply pw_below_drewN | apply below_drew1 | refine below_set ?_ GE164.out | refine below_set ?_ GE171.out | refine below_set ?_ GE178.out) | exact HB.out)) hb); have n9_ := Aside0.mk (hbox); have n10_ := Aside0.mk ((by rw [hg]; exact (below_size (by repeat (first | (with_reducible first | exact HB.out | apply below_alloc | apply pw_below_drewN | apply below_drew1 | refine below_set ?_ GE164.out | refine below_set ?_ GE171.out | refine below_set ?_ GE178.out) | exact HB.out))) : w.heap.size ≤ gb186)); have n11_ := Aside0.mk ((by rw [hg]; exact (below_size (by repeat (first | (with_reducible first | exact HB.out | apply below_alloc | apply pw_below_drewN | apply below_drew1 | refine below_set ?_ GE164.out | refine below_set ?_ GE171.out | refine below_set ?_ GE178.out) | exact HB.out))) : w.heap.size ≤ gb186)); have n12_ := Aside0.mk ((by rw [hg]; exact Nat.ne_of_lt (blk_lt (g := gb164) (o := .cells #[.int .i64 t158, .bool t159, .slice Ao33 lq_t160.length co33] 40 (0, 0)) (by (with_reducible repeat (first | refine blk_drewN ?_ _ | refine blk_drew ?_ | refine blk_alloc ?_ _)); exact BK164.out)) : gb164 ≠ gb186)); have n13_ := Aside0.mk ((by rw [hg]; exact Nat.ne_of_gt (blk_lt (g := gb164) (o := .cells #[.int .i64 t158, .bool t159, .slice Ao33 lq_t160.length co33] 40 (0, 0)) (by (with_reducible repeat (first | refine blk_drewN ?_ _ | refine blk_drew ?_ | refine blk_alloc ?_ _)); exact BK164.out)) : gb186 ≠ gb164)); have n14_ := Aside0.mk ((by rw [hg]; exact Nat.ne_of_lt (blk_lt (g := gb171) (o := .cells #[.int .i64 t165, .bool t166, .slice (some ad179) lq_t167.length co38] 40 (0, 0)) (by (with_reducible repeat (first | refine blk_drewN ?_ _ | refine blk_drew ?_ | refine blk_alloc ?_ _)); exact BK171.out)) : gb171 ≠ gb186)); have n15_ := Aside0.mk ((by rw [hg]; exact Nat.ne_of_gt (blk_lt (g := gb171) (o := .cells #[.int .i64 t165, .bool t166, .slice (some ad179) lq_t167.length co38] 40 (0, 0)) (by (with_reducible repeat (first | refine blk_drewN ?_ _ | refine blk_drew ?_ | refine blk_alloc ?_ _)); exact BK171.out)) : gb186 ≠ gb171)); have n16_ := Aside0.mk ((by rw [hg]; exact Nat.ne_of_lt (blk_lt (g := gb178) (o := .cells #[.int .i64 t172, .bool t173, .slice Ao44 lq_t174.length co44] 40 (0, 0)) (by (with_reducible repeat (first | refine blk_drewN ?_ _ | refine blk_drew ?_ | refine blk_alloc ?_ _)); exact BK178.out)) : gb178 ≠ gb186)); have n17_ := Aside0.mk ((by rw [hg]; exact Nat.ne_of_gt (blk_lt (g := gb178) (o := .cells #[.int .i64 t172, .bool t173, .slice Ao44 lq_t174.length co44] 40 (0, 0)) (by (with_reducible repeat (first | refine blk_drewN ?_ _ | refine blk_drew ?_ | refine blk_alloc ?_ _)); exact BK178.out)) : gb186 ≠ gb178)); clear HO_11; clear HO_165002; clear HO_172002; clear HO_179002; clear HO184; clear BK164; clear BK171; clear BK178; clear HB; have HO_11 := n0_; have HO_165002 := n1_; have HO_172002 := n2_; have HO_179002 := n3_; have HO184 := n4_; have BK164 := n5_; have BK171 := n6_; have BK178 := n7_; have HB := n8_; have BK186 := n9_; have GW186 := n10_; have GE186 := n11_; have NB164_186 := n12_; have NB186_164 := n13_; have NB171_186 := n14_; have NB186_171 := n15_; have NB178_186 := n16_; have NB186_178 := n17_; clear n0_ n1_ n2_ n3_ n4_ n5_ n6_ n7_ n8_ n9_ n10_ n11_ n12_ n13_ n14_ n15_ n16_ n17_; clear hb hbox hg; have hnb63 := NB186_164.out; have hnc63 := NB164_186.out; have hnb64 := NB186_171.out; have hnc64 := NB171_186.out; have hnb65 := NB186_178.out; have hnc65 := NB178_186.out; have hcz66_0 : w62.cell? ⟨gb186, 0, none⟩ = some (.int .i64 0) := (blk_cell BK186.out 0).trans rfl; have hcz66_1 : w62.cell? ⟨gb186, 1, none⟩ = some (.bool false) := (blk_cell BK186.out 1).trans rfl; have hcz66_2 : w62.cell? ⟨gb186, 2, none⟩ = some (.slice none 0 0) := (blk_cell BK186.out 2).trans rfl; have hfz66_0 := blk_frozen BK186.out 0; have hfz66_1 := blk_frozen BK186.out 1; have hfz66_2 := blk_frozen BK186.out 2; obtain ⟨Ao67, co67, eo67⟩ := Kd.V_slice HO184.out; subst eo67))
                 go_roundg k4
                 case measure => have := HJ5.out; have := HJ15.out; have := HJ26.out; have := HK4.out; omega
                 case rel => exact ⟨(true), (wrap64 (x19_4 + 1)), (by first | rfl | (simp; done) | (simp [*]; done)), (by first | rfl | (simp; done) | (simp [*]; done)), H', ⟨by have := HJ5.out; have := HJ15.out; have := HJ26.out; have := HK4.out; omega⟩, ⟨by (with_reducible repeat (first | apply Kd.R_alloc | apply Kd.R_drewN | apply Kd.R_drew)); exact Kd.R_mono (Kd.R_far (p := ⟨gb186, 2, none⟩) (Kd.R_far (p := ⟨gb186, 1, none⟩) (Kd.R_far (p := ⟨gb186, 0, none⟩) (Kd.R_types HO_11.out BK186.out (by decide)) (fun _ hk => hk.2) (.int .i64 t180)) (fun _ hk => hk.2) (.bool t181)) (fun _ hk => hk.2) (.slice Ao67 lq_t182.length co67)) (fun _ hk => trivial)⟩, ⟨by (with_reducible repeat (first | apply Kd.V_alloc | apply Kd.V_drewN | apply Kd.V_drew)); exact Kd.V_mono (Kd.V_far (p := ⟨gb186, 2, none⟩) (Kd.V_far (p := ⟨gb186, 1, none⟩) (Kd.V_far (p := ⟨gb186, 0, none⟩) (Kd.V_mono HO_165002.out (fun k_ hk => (⟨hk, hk.2⟩ : _ ∧ k_ ≠ gb186))) (fun _ hk => hk.2) (.int .i64 t180)) (fun _ hk => hk.2) (.bool t181)) (fun _ hk => hk.2) (.slice Ao67 lq_t182.length co67)) (fun _ hk => ⟨hk.1.1.1, ⟨hk.1.1.2.1, ⟨hk.1.1.2.2.1, hk.1.1.2.2.2⟩⟩⟩)⟩, ⟨by (with_reducible repeat (first | apply Kd.V_alloc | apply Kd.V_drewN | apply Kd.V_drew)); exact Kd.V_mono (Kd.V_far (p := ⟨gb186, 2, none⟩) (Kd.V_far (p := ⟨gb186, 1, none⟩) (Kd.V_far (p := ⟨gb186, 0, none⟩) (Kd.V_mono HO_172002.out (fun k_ hk => (⟨hk, hk.2⟩ : _ ∧ k_ ≠ gb186))) (fun _ hk => hk.2) (.int .i64 t180)) (fun _ hk => hk.2) (.bool t181)) (fun _ hk => hk.2) (.slice Ao67 lq_t182.length co67)) (fun _ hk => ⟨hk.1.1.1, ⟨hk.1.1.2.1, ⟨hk.1.1.2.2.1, hk.1.1.2.2.2⟩⟩⟩)⟩, ⟨by (with_reducible repeat (first | apply Kd.V_alloc | apply Kd.V_drewN | apply Kd.V_drew)); exact Kd.V_mono (Kd.V_far (p := ⟨gb186, 2, none⟩) (Kd.V_far (p := ⟨gb186, 1, none⟩) (Kd.V_far (p := ⟨gb186, 0, none⟩) (Kd.V_mono HO_179002.out (fun k_ hk => (⟨hk, hk.2⟩ : _ ∧ k_ ≠ gb186))) (fun _ hk => hk.2) (.int .i64 t180)) (fun _ hk => hk.2) (.bool t181)) (fun _ hk => hk.2) (.slice Ao67 lq_t182.length co67)) (fun _ hk => ⟨hk.1.1.1, ⟨hk.1.1.2.1, ⟨hk.1.1.2.2.1, hk.1.1.2.2.2⟩⟩⟩)⟩, ⟨by (with_reducible repeat (first | refine blk_drewN ?_ _ | refine blk_drew ?_ | refine blk_alloc ?_ _)); refine blk_far ?_ NB164_186.out _; (with_reducible repeat (first | refine blk_drewN ?_ _ | refine blk_drew ?_ | refine blk_alloc ?_ _)); refine blk_far ?_ NB164_186.out _; (with_reducible repeat (first | refine blk_drewN ?_ _ | refine blk_drew ?_ | refine blk_alloc ?_ _)); refine blk_far ?_ NB164_186.out _; (with_reducible repeat (first | refine blk_drewN ?_ _ | refine blk_drew ?_ | refine blk_alloc ?_ _)); exact BK164.out⟩, ⟨by (with_reducible repeat (first | refine blk_drewN ?_ _ | refine blk_drew ?_ | refine blk_alloc ?_ _)); refine blk_far ?_ NB171_186.out _; (with_reducible repeat (first | refine blk_drewN ?_ _ | refine blk_drew ?_ | refine blk_alloc ?_ _)); refine blk_far ?_ NB171_186.out _; (with_reducible repeat (first | refine blk_drewN ?_ _ | refine blk_drew ?_ | refine blk_alloc ?_ _)); refine blk_far ?_ NB171_186.out _; (with_reducible repeat (first | refine blk_drewN ?_ _ | refine blk_drew ?_ | refine blk_alloc ?_ _)); exact BK171.out⟩, ⟨by (with_reducible repeat (first | refine blk_drewN ?_ _ | refine blk_drew ?_ | refine blk_alloc ?_ _)); refine blk_far ?_ NB178_186.out _; (with_reducible repeat (first | refine blk_drewN ?_ _ | refine blk_drew ?_ | refine blk_alloc ?_ _)); refine blk_far ?_ NB178_186.out _; (with_reducible repeat (first | refine blk_drewN ?_ _ | refine blk_drew ?_ | refine blk_alloc ?_ _)); refine blk_far ?_ NB178_186.out _; (with_reducible repeat (first | refine blk_drewN ?_ _ | refine blk_drew ?_ | refine blk_alloc ?_ _)); exact BK178.out⟩, ⟨by repeat (first | (with_reducible first | exact HB.out | apply below_alloc | apply pw_below_drewN | apply below_drew1 | refine below_set ?_ GE164.out | refine below_set ?_ GE171.out | refine below_set ?_ GE178.out | refine below_set ?_ GE186.out) | exact HB.out)⟩⟩
                ·replace c57 := Bool.eq_false_iff.mpr c57
                 subst c57
                 have H1 : (laws_FnRolesReach.l0 k4 a0 a2 a3 a4 t155 t181 (wrap64 (x19_4 + 1)) t158 t159 lq_t160 t165 t166 lq_t167 t172 t173 lq_t174) = some r := by rw [if_neg (show ¬ (false = true) by decide)] at H; exact H
                 clear H
                 have H := H1
                 clear H1
                 have H' := Aside0.mk H
                 clear H
                 have hnb68 := NB171_164.out
                 have hnc68 := NB164_171.out
                 have hnb69 := NB171_178.out
                 have hnc69 := NB178_171.out
                 have hcz70_0 : wr.cell? ⟨gb171, 0, none⟩ = some (.int .i64 t165) := (blk_cell BK171.out 0).trans rfl
                 have hcz70_1 : wr.cell? ⟨gb171, 1, none⟩ = some (.bool t166) := (blk_cell BK171.out 1).trans rfl
                 have hcz70_2 : wr.cell? ⟨gb171, 2, none⟩ = some (.slice Ao38 lq_t167.length co38) := (blk_cell BK171.out 2).trans rfl
                 have hfz70_0 := blk_frozen BK171.out 0
                 have hfz70_1 := blk_frozen BK171.out 1
                 have hfz70_2 := blk_frozen BK171.out 2
                 have p179 : 0 ≤ (x19_4 : Int) := of_decide_eq_true (by first | (with_reducible assumption) | assumption)
                 have q179 : x19_4 < (lq_t167.length : Int) := of_decide_eq_true (by first | (with_reducible assumption) | assumption)
                 obtain ⟨ad179, e179, hx179_0⟩ := Kd.at_string (Kd.V_reads' HO_172002.out).2.2 x19_4 p179 q179
                 cases e179
                 replace p179 := eq_true p179
                 replace q179 := eq_true q179
                 go_wp2_with (first | ((with_reducible refine gate_callee (f := 17) rfl ?_); refine goesL_ (some 119) rfl rfl Tryz.func17 (by kernel_rfl) rfl #[.int .i64 20, .bool a0, .slice Ao29 t155.length co29, .agg #[.int .i64 0, .string (rdOf ByteArray.empty lq_t167 x19_4), .string a3, .string a4]] rfl (by (try simp only [List.map_toArray, List.map_cons, List.map_nil]); first | done | rfl | (simp only [List.length_drop, List.length_take]; rfl)) ?_; (with_reducible refine (laws_question.calls k4 20 a0 _ _ t155 0 (rdOf ByteArray.empty lq_t167 x19_4) a3 a4 t180 t181 t182 true _ ?side1 ?side2 A54.out).mono ?_); (case side1 => repeat (first | exact (Kd.R_reads' HO_11.out).2.2 | (with_reducible refine Kd.C_alloc ?_ _) | (with_reducible refine Kd.C_drewN ?_ _) | (with_reducible refine Kd.C_drew ?_))); (case side2 => exact (Kd.R_reads' HO_11.out).2.1); rintro e w71 ⟨v183, rfl, ⟨lq_t182, hq_, ho0⟩, hb⟩; have HQt182 := Aside0.mk hq_; clear hq_; refine ⟨_, rfl, ?_⟩; have n0_ := Aside0.mk (Kd.R_below (by (with_reducible repeat (first | apply Kd.R_alloc | apply Kd.R_drewN | apply Kd.R_drew)); exact HO_11.out) hb); have n1_ := Aside0.mk (Kd.V_below (by (with_reducible repeat (first | apply Kd.V_alloc | apply Kd.V_drewN | apply Kd.V_drew)); exact HO_165002.out) hb); have n2_ := Aside0.mk (Kd.V_below (by (with_reducible repeat (first | apply Kd.V_alloc | apply Kd.V_drewN | apply Kd.V_drew)); exact HO_172002.out) hb); have n3_ := Aside0.mk (Kd.V_below (by (with_reducible repeat (first | apply Kd.V_alloc | apply Kd.V_drewN | apply Kd.V_drew)); exact HO_179002.out) hb); have n4_ := Aside0.mk (Kd.V_lower (Kd.V_mono (ok' := fun k_ => some k_ ≠ (.slice Ao29 t155.length co29 : Value).ownBlock ∧ k_ ≠ gb164 ∧ k_ ≠ gb171 ∧ k_ ≠ gb178) ho0 (fun k_ hk_ => ⟨(Kd.fresh' (Kd.R_lt (by (with_reducible repeat (first | apply Kd.R_alloc | apply Kd.R_drewN | apply Kd.R_drew)); exact HO_11.out)) k_ hk_), (Kd.freshB (g := gb164) (o := .cells #[.int .i64 t158, .bool t159, .slice Ao33 lq_t160.length co33] 40 (0, 0)) (by (with_reducible repeat (first | refine blk_drewN ?_ _ | refine blk_drew ?_ | refine blk_alloc ?_ _)); exact BK164.out) k_ hk_), (Kd.freshB (g := gb171) (o := .cells #[.int .i64 t165, .bool t166, .slice (some ad179) lq_t167.length co38] 40 (0, 0)) (by (with_reducible repeat (first | refine blk_drewN ?_ _ | refine blk_drew ?_ | refine blk_alloc ?_ _)); exact BK171.out) k_ hk_), (Kd.freshB (g := gb178) (o := .cells #[.int .i64 t172, .bool t173, .slice Ao44 lq_t174.length co44] 40 (0, 0)) (by (with_reducible repeat (first | refine blk_drewN ?_ _ | refine blk_drew ?_ | refine blk_alloc ?_ _)); exact BK178.out) k_ hk_)⟩)) (below_size (by repeat (first | (with_reducible first | exact HB.out | apply below_alloc | apply pw_below_drewN | apply below_drew1 | refine below_set ?_ GE164.out | refine below_set ?_ GE171.out | refine below_set ?_ GE178.out) | exact HB.out)))); have n5_ := Aside0.mk (blk_below (g := gb164) (o := .cells #[.int .i64 t158, .bool t159, .slice Ao33 lq_t160.length co33] 40 (0, 0)) (by (with_reducible repeat (first | refine blk_drewN ?_ _ | refine blk_drew ?_ | refine blk_alloc ?_ _)); exact BK164.out) hb); have n6_ := Aside0.mk (blk_below (g := gb171) (o := .cells #[.int .i64 t165, .bool t166, .slice (some ad179) lq_t167.length co38] 40 (0, 0)) (by (with_reducible repeat (first | refine blk_drewN ?_ _ | refine blk_drew ?_ | refine blk_alloc ?_ _)); exact BK171.out) hb); have n7_ := Aside0.mk (blk_below (g := gb178) (o := .cells #[.int .i64 t172, .bool t173, .slice Ao44 lq_t174.length co44] 40 (0, 0)) (by (with_reducible repeat (first | refine blk_drewN ?_ _ | refine blk_drew ?_ | refine blk_alloc ?_ _)); exact BK178.out) hb); have n8_ := Aside0.mk (below_step (by repeat (first | (with_reducible first | exact HB.out | apply below_alloc | apply pw_below_drewN | apply below_drew1 | refine below_set ?_ GE164.out | refine below_set ?_ GE171.out | refine below_set ?_ GE178.out) | exact HB.out)) hb); clear HO_11; clear HO_165002; clear HO_172002; clear HO_179002; clear BK164; clear BK171; clear BK178; clear HB; have HO_11 := n0_; have HO_165002 := n1_; have HO_172002 := n2_; have HO_179002 := n3_; have HO184 := n4_; have BK164 := n5_; have BK171 := n6_; have BK178 := n7_; have HB := n8_; clear n0_ n1_ n2_ n3_ n4_ n5_ n6_ n7_ n8_; (try clear hb); (try clear hb2); (try clear hk); (try clear hi); (try clear ho0)) | ((with_reducible refine gate_dst (N := 20) rfl ?_); (try (refine gate_guard (by rfl) ?_; dsimp only)); refine box_event ?hg (N := 20) ?hd (cs := #[.int .i64 0, .bool false, .slice none 0 0]) (t := 40) ?hr ?_; (case hd => rfl); (case hg => rfl); (case hr => first | (go_simp; done) | (go_simp; rfl)); intro gb186 hg w72 hbox hb; have n0_ := Aside0.mk (Kd.R_below (by (with_reducible repeat (first | apply Kd.R_alloc | apply Kd.R_drewN | apply Kd.R_drew)); exact HO_11.out) hb); have n1_ := Aside0.mk (Kd.V_below (Kd.V_elderB (by (with_reducible repeat (first | apply Kd.V_alloc | apply Kd.V_drewN | apply Kd.V_drew)); exact HO_165002.out) gb186 (Nat.le_of_eq hg.symm)) hb); have n2_ := Aside0.mk (Kd.V_below (Kd.V_elderB (by (with_reducible repeat (first | apply Kd.V_alloc | apply Kd.V_drewN | apply Kd.V_drew)); exact HO_172002.out) gb186 (Nat.le_of_eq hg.symm)) hb); have n3_ := Aside0.mk (Kd.V_below (Kd.V_elderB (by (with_reducible repeat (first | apply Kd.V_alloc | apply Kd.V_drewN | apply Kd.V_drew)); exact HO_179002.out) gb186 (Nat.le_of_eq hg.symm)) hb); have n4_ := Aside0.mk (Kd.V_below (Kd.V_elderB (by (with_reducible repeat (first | apply Kd.V_alloc | apply Kd.V_drewN | apply Kd.V_drew)); exact HO184.out) gb186 (Nat.le_of_eq hg.symm)) hb); have n5_ := Aside0.mk (blk_below (g := gb164) (o := .cells #[.int .i64 t158, .bool t159, .slice Ao33 lq_t160.length co33] 40 (0, 0)) (by (with_reducible repeat (first | refine blk_drewN ?_ _ | refine blk_drew ?_ | refine blk_alloc ?_ _)); exact BK164.out) hb); have n6_ := Aside0.mk (blk_below (g := gb171) (o := .cells #[.int .i64 t165, .bool t166, .slice (some ad179) lq_t167.length co38] 40 (0, 0)) (by (with_reducible repeat (first | refine blk_drewN ?_ _ | refine blk_drew ?_ | refine blk_alloc ?_ _)); exact BK171.out) hb); have n7_ := Aside0.mk (blk_below (g := gb178) (o := .cells #[.int .i64 t172, .bool t173, .slice Ao44 lq_t174.length co44] 40 (0, 0)) (by (with_reducible repeat (first | refine blk_drewN ?_ _ | refine blk_drew ?_ | refine blk_alloc ?_ _)); exact BK178.out) hb); have n8_ := Aside0.mk (below_step (by repeat (first | (with_reducible first | exact HB.out | apply below_alloc | apply pw_below_drewN | apply below_drew1 | refine below_set ?_ GE164.out | refine below_set ?_ GE171.out | refine below_set ?_ GE178.out) | exact HB.out)) hb); have n9_ := Aside0.mk (hbox); have n10_ := Aside0.mk ((by rw [hg]; exact (below_size (by repeat (first | (with_reducible first | exact HB.out | apply below_alloc | apply pw_below_drewN | apply below_drew1 | refine below_set ?_ GE164.out | refine below_set ?_ GE171.out | refine below_set ?_ GE178.out) | exact HB.out))) : w.heap.size ≤ gb186)); have n11_ := Aside0.mk ((by rw [hg]; exact (below_size (by repeat (first | (with_reducible first | exact HB.out | apply below_alloc | apply pw_below_drewN | apply below_drew1 | refine below_set ?_ GE164.out | refine below_set ?_ GE171.out | refine below_set ?_ GE178.out) | exact HB.out))) : w.heap.size ≤ gb186)); have n12_ := Aside0.mk ((by rw [hg]; exact Nat.ne_of_lt (blk_lt (g := gb164) (o := .cells #[.int .i64 t158, .bool t159, .slice Ao33 lq_t160.length co33] 40 (0, 0)) (by (with_reducible repeat (first | refine blk_drewN ?_ _ | refine blk_drew ?_ | refine blk_alloc ?_ _)); exact BK164.out)) : gb164 ≠ gb186)); have n13_ := Aside0.mk ((by rw [hg]; exact Nat.ne_of_gt (blk_lt (g := gb164) (o := .cells #[.int .i64 t158, .bool t159, .slice Ao33 lq_t160.length co33] 40 (0, 0)) (by (with_reducible repeat (first | refine blk_drewN ?_ _ | refine blk_drew ?_ | refine blk_alloc ?_ _)); exact BK164.out)) : gb186 ≠ gb164)); have n14_ := Aside0.mk ((by rw [hg]; exact Nat.ne_of_lt (blk_lt (g := gb171) (o := .cells #[.int .i64 t165, .bool t166, .slice (some ad179) lq_t167.length co38] 40 (0, 0)) (by (with_reducible repeat (first | refine blk_drewN ?_ _ | refine blk_drew ?_ | refine blk_alloc ?_ _)); exact BK171.out)) : gb171 ≠ gb186)); have n15_ := Aside0.mk ((by rw [hg]; exact Nat.ne_of_gt (blk_lt (g := gb171) (o := .cells #[.int .i64 t165, .bool t166, .slice (some ad179) lq_t167.length co38] 40 (0, 0)) (by (with_reducible repeat (first | refine blk_drewN ?_ _ | refine blk_drew ?_ | refine blk_alloc ?_ _)); exact BK171.out)) : gb186 ≠ gb171)); have n16_ := Aside0.mk ((by rw [hg]; exact Nat.ne_of_lt (blk_lt (g := gb178) (o := .cells #[.int .i64 t172, .bool t173, .slice Ao44 lq_t174.length co44] 40 (0, 0)) (by (with_reducible repeat (first | refine blk_drewN ?_ _ | refine blk_drew ?_ | refine blk_alloc ?_ _)); exact BK178.out)) : gb178 ≠ gb186)); have n17_ := Aside0.mk ((by rw [hg]; exact Nat.ne_of_gt (blk_lt (g := gb178) (o := .cells #[.int .i64 t172, .bool t173, .slice Ao44 lq_t174.length co44] 40 (0, 0)) (by (with_reducible repeat (first | refine blk_drewN ?_ _ | refine blk_drew ?_ | refine blk_alloc ?_ _)); exact BK178.out)) : gb186 ≠ gb178)); clear HO_11; clear HO_165002; clear HO_172002; clear HO_179002; clear HO184; clear BK164; clear BK171; clear BK178; clear HB; have HO_11 := n0_; have HO_165002 := n1_; have HO_172002 := n2_; have HO_179002 := n3_; have HO184 := n4_; have BK164 := n5_; have BK171 := n6_; have BK178 := n7_; have HB := n8_; have BK186 := n9_; have GW186 := n10_; have GE186 := n11_; have NB164_186 := n12_; have NB186_164 := n13_; have NB171_186 := n14_; have NB186_171 := n15_; have NB178_186 := n16_; have NB186_178 := n17_; clear n0_ n1_ n2_ n3_ n4_ n5_ n6_ n7_ n8_ n9_ n10_ n11_ n12_ n13_ n14_ n15_ n16_ n17_; clear hb hbox hg; have hnb73 := NB186_164.out; have hnc73 := NB164_186.out; have hnb74 := NB186_171.out; have hnc74 := NB171_186.out; have hnb75 := NB186_178.out; have hnc75 := NB178_186.out; have hcz76_0 : w72.cell? ⟨gb186, 0, none⟩ = some (.int .i64 0) := (blk_cell BK186.out 0).trans rfl; have hcz76_1 : w72.cell? ⟨gb186, 1, none⟩ = some (.bool false) := (blk_cell BK186.out 1).trans rfl; have hcz76_2 : w72.cell? ⟨gb186, 2, none⟩ = some (.slice none 0 0) := (blk_cell BK186.out 2).trans rfl; have hfz76_0 := blk_frozen BK186.out 0; have hfz76_1 := blk_frozen BK186.out 1; have hfz76_2 := blk_frozen BK186.out 2; obtain ⟨Ao77, co77, eo77⟩ := Kd.V_slice HO184.out; subst eo77))
                 go_roundg k4
                 case measure => have := HJ5.out; have := HJ15.out; have := HJ26.out; have := HK4.out; omega
                 case rel => exact ⟨(t181), (wrap64 (x19_4 + 1)), (by first | rfl | (simp; done) | (simp [*]; done)), (by first | rfl | (simp; done) | (simp [*]; done)), H', ⟨by have := HJ5.out; have := HJ15.out; have := HJ26.out; have := HK4.out; omega⟩, ⟨by (with_reducible repeat (first | apply Kd.R_alloc | apply Kd.R_drewN | apply Kd.R_drew)); exact Kd.R_mono (Kd.R_far (p := ⟨gb186, 2, none⟩) (Kd.R_far (p := ⟨gb186, 1, none⟩) (Kd.R_far (p := ⟨gb186, 0, none⟩) (Kd.R_types HO_11.out BK186.out (by decide)) (fun _ hk => hk.2) (.int .i64 t180)) (fun _ hk => hk.2) (.bool t181)) (fun _ hk => hk.2) (.slice Ao77 lq_t182.length co77)) (fun _ hk => trivial)⟩, ⟨by (with_reducible repeat (first | apply Kd.V_alloc | apply Kd.V_drewN | apply Kd.V_drew)); exact Kd.V_mono (Kd.V_far (p := ⟨gb186, 2, none⟩) (Kd.V_far (p := ⟨gb186, 1, none⟩) (Kd.V_far (p := ⟨gb186, 0, none⟩) (Kd.V_mono HO_165002.out (fun k_ hk => (⟨hk, hk.2⟩ : _ ∧ k_ ≠ gb186))) (fun _ hk => hk.2) (.int .i64 t180)) (fun _ hk => hk.2) (.bool t181)) (fun _ hk => hk.2) (.slice Ao77 lq_t182.length co77)) (fun _ hk => ⟨hk.1.1.1, ⟨hk.1.1.2.1, ⟨hk.1.1.2.2.1, hk.1.1.2.2.2⟩⟩⟩)⟩, ⟨by (with_reducible repeat (first | apply Kd.V_alloc | apply Kd.V_drewN | apply Kd.V_drew)); exact Kd.V_mono (Kd.V_far (p := ⟨gb186, 2, none⟩) (Kd.V_far (p := ⟨gb186, 1, none⟩) (Kd.V_far (p := ⟨gb186, 0, none⟩) (Kd.V_mono HO_172002.out (fun k_ hk => (⟨hk, hk.2⟩ : _ ∧ k_ ≠ gb186))) (fun _ hk => hk.2) (.int .i64 t180)) (fun _ hk => hk.2) (.bool t181)) (fun _ hk => hk.2) (.slice Ao77 lq_t182.length co77)) (fun _ hk => ⟨hk.1.1.1, ⟨hk.1.1.2.1, ⟨hk.1.1.2.2.1, hk.1.1.2.2.2⟩⟩⟩)⟩, ⟨by (with_reducible repeat (first | apply Kd.V_alloc | apply Kd.V_drewN | apply Kd.V_drew)); exact Kd.V_mono (Kd.V_far (p := ⟨gb186, 2, none⟩) (Kd.V_far (p := ⟨gb186, 1, none⟩) (Kd.V_far (p := ⟨gb186, 0, none⟩) (Kd.V_mono HO_179002.out (fun k_ hk => (⟨hk, hk.2⟩ : _ ∧ k_ ≠ gb186))) (fun _ hk => hk.2) (.int .i64 t180)) (fun _ hk => hk.2) (.bool t181)) (fun _ hk => hk.2) (.slice Ao77 lq_t182.length co77)) (fun _ hk => ⟨hk.1.1.1, ⟨hk.1.1.2.1, ⟨hk.1.1.2.2.1, hk.1.1.2.2.2⟩⟩⟩)⟩, ⟨by (with_reducible repeat (first | refine blk_drewN ?_ _ | refine blk_drew ?_ | refine blk_alloc ?_ _)); refine blk_far ?_ NB164_186.out _; (with_reducible repeat (first | refine blk_drewN ?_ _ | refine blk_drew ?_ | refine blk_alloc ?_ _)); refine blk_far ?_ NB164_186.out _; (with_reducible repeat (first | refine blk_drewN ?_ _ | refine blk_drew ?_ | refine blk_alloc ?_ _)); refine blk_far ?_ NB164_186.out _; (with_reducible repeat (first | refine blk_drewN ?_ _ | refine blk_drew ?_ | refine blk_alloc ?_ _)); exact BK164.out⟩, ⟨by (with_reducible repeat (first | refine blk_drewN ?_ _ | refine blk_drew ?_ | refine blk_alloc ?_ _)); refine blk_far ?_ NB171_186.out _; (with_reducible repeat (first | refine blk_drewN ?_ _ | refine blk_drew ?_ | refine blk_alloc ?_ _)); refine blk_far ?_ NB171_186.out _; (with_reducible repeat (first | refine blk_drewN ?_ _ | refine blk_drew ?_ | refine blk_alloc ?_ _)); refine blk_far ?_ NB171_186.out _; (with_reducible repeat (first | refine blk_drewN ?_ _ | refine blk_drew ?_ | refine blk_alloc ?_ _)); exact BK171.out⟩, ⟨by (with_reducible repeat (first | refine blk_drewN ?_ _ | refine blk_drew ?_ | refine blk_alloc ?_ _)); refine blk_far ?_ NB178_186.out _; (with_reducible repeat (first | refine blk_drewN ?_ _ | refine blk_drew ?_ | refine blk_alloc ?_ _)); refine blk_far ?_ NB178_186.out _; (with_reducible repeat (first | refine blk_drewN ?_ _ | refine blk_drew ?_ | refine blk_alloc ?_ _)); refine blk_far ?_ NB178_186.out _; (with_reducible repeat (first | refine blk_drewN ?_ _ | refine blk_drew ?_ | refine blk_alloc ?_ _)); exact BK178.out⟩, ⟨by repeat (first | (with_reducible first | exact HB.out | apply below_alloc | apply pw_below_drewN | apply below_drew1 | refine below_set ?_ GE164.out | refine below_set ?_ GE171.out | refine below_set ?_ GE178.out | refine below_set ?_ GE186.out) | exact HB.out)⟩⟩
               ·rw [if_neg c56] at H
                have c56b0 : (t180 == 0) = false := beq_eq_false_iff_ne.mpr c56
                have c56b1 : (t180 != 0) = true := bne_iff_ne.mpr c56
                obtain rfl := Option.some.inj H
                have hnb78 := NB171_164.out
                have hnc78 := NB164_171.out
                have hnb79 := NB171_178.out
                have hnc79 := NB178_171.out
                have hcz80_0 : wr.cell? ⟨gb171, 0, none⟩ = some (.int .i64 t165) := (blk_cell BK171.out 0).trans rfl
                have hcz80_1 : wr.cell? ⟨gb171, 1, none⟩ = some (.bool t166) := (blk_cell BK171.out 1).trans rfl
                have hcz80_2 : wr.cell? ⟨gb171, 2, none⟩ = some (.slice Ao38 lq_t167.length co38) := (blk_cell BK171.out 2).trans rfl
                have hfz80_0 := blk_frozen BK171.out 0
                have hfz80_1 := blk_frozen BK171.out 1
                have hfz80_2 := blk_frozen BK171.out 2
                have p179 : 0 ≤ (x19_4 : Int) := of_decide_eq_true (by first | (with_reducible assumption) | assumption)
                have q179 : x19_4 < (lq_t167.length : Int) := of_decide_eq_true (by first | (with_reducible assumption) | assumption)
                obtain ⟨ad179, e179, hx179_0⟩ := Kd.at_string (Kd.V_reads' HO_172002.out).2.2 x19_4 p179 q179
                cases e179
                replace p179 := eq_true p179
                replace q179 := eq_true q179
                go_wp2_with (first | ((with_reducible refine gate_callee (f := 17) rfl ?_); refine goesL_ (some 119) rfl rfl Tryz.func17 (by kernel_rfl) rfl #[.int .i64 20, .bool a0, .slice Ao29 t155.length co29, .agg #[.int .i64 0, .string (rdOf ByteArray.empty lq_t167 x19_4), .string a3, .string a4]] rfl (by (try simp only [List.map_toArray, List.map_cons, List.map_nil]); first | done | rfl | (simp only [List.length_drop, List.length_take]; rfl)) ?_; (with_reducible refine (laws_question.calls k4 20 a0 _ _ t155 0 (rdOf ByteArray.empty lq_t167 x19_4) a3 a4 t180 t181 t182 true _ ?side1 ?side2 A54.out).mono ?_); (case side1 => repeat (first | exact (Kd.R_reads' HO_11.out).2.2 | (with_reducible refine Kd.C_alloc ?_ _) | (with_reducible refine Kd.C_drewN ?_ _) | (with_reducible refine Kd.C_drew ?_))); (case side2 => exact (Kd.R_reads' HO_11.out).2.1); rintro e w81 ⟨v183, rfl, ⟨lq_t182, hq_, ho0⟩, hb⟩; have HQt182 := Aside0.mk hq_; clear hq_; refine ⟨_, rfl, ?_⟩; have n0_ := Aside0.mk (Kd.R_below (by (with_reducible repeat (first | apply Kd.R_alloc | apply Kd.R_drewN | apply Kd.R_drew)); exact HO_11.out) hb); have n1_ := Aside0.mk (Kd.V_below (by (with_reducible repeat (first | apply Kd.V_alloc | apply Kd.V_drewN | apply Kd.V_drew)); exact HO_165002.out) hb); have n2_ := Aside0.mk (Kd.V_below (by (with_reducible repeat (first | apply Kd.V_alloc | apply Kd.V_drewN | apply Kd.V_drew)); exact HO_172002.out) hb); have n3_ := Aside0.mk (Kd.V_below (by (with_reducible repeat (first | apply Kd.V_alloc | apply Kd.V_drewN | apply Kd.V_drew)); exact HO_179002.out) hb); have n4_ := Aside0.mk (Kd.V_lower (Kd.V_mono (ok' := fun k_ => some k_ ≠ (.slice Ao29 t155.length co29 : Value).ownBlock ∧ k_ ≠ gb164 ∧ k_ ≠ gb171 ∧ k_ ≠ gb178) ho0 (fun k_ hk_ => ⟨(Kd.fresh' (Kd.R_lt (by (with_reducible repeat (first | apply Kd.R_alloc | apply Kd.R_drewN | apply Kd.R_drew)); exact HO_11.out)) k_ hk_), (Kd.freshB (g := gb164) (o := .cells #[.int .i64 t158, .bool t159, .slice Ao33 lq_t160.length co33] 40 (0, 0)) (by (with_reducible repeat (first | refine blk_drewN ?_ _ | refine blk_drew ?_ | refine blk_alloc ?_ _)); exact BK164.out) k_ hk_), (Kd.freshB (g := gb171) (o := .cells #[.int .i64 t165, .bool t166, .slice (some ad179) lq_t167.length co38] 40 (0, 0)) (by (with_reducible repeat (first | refine blk_drewN ?_ _ | refine blk_drew ?_ | refine blk_alloc ?_ _)); exact BK171.out) k_ hk_), (Kd.freshB (g := gb178) (o := .cells #[.int .i64 t172, .bool t173, .slice Ao44 lq_t174.length co44] 40 (0, 0)) (by (with_reducible repeat (first | refine blk_drewN ?_ _ | refine blk_drew ?_ | refine blk_alloc ?_ _)); exact BK178.out) k_ hk_)⟩)) (below_size (by repeat (first | (with_reducible first | exact HB.out | apply below_alloc | apply pw_below_drewN | apply below_drew1 | refine below_set ?_ GE164.out | refine below_set ?_ GE171.out | refine below_set ?_ GE178.out) | exact HB.out)))); have n5_ := Aside0.mk (blk_below (g := gb164) (o := .cells #[.int .i64 t158, .bool t159, .slice Ao33 lq_t160.length co33] 40 (0, 0)) (by (with_reducible repeat (first | refine blk_drewN ?_ _ | refine blk_drew ?_ | refine blk_alloc ?_ _)); exact BK164.out) hb); have n6_ := Aside0.mk (blk_below (g := gb171) (o := .cells #[.int .i64 t165, .bool t166, .slice (some ad179) lq_t167.length co38] 40 (0, 0)) (by (with_reducible repeat (first | refine blk_drewN ?_ _ | refine blk_drew ?_ | refine blk_alloc ?_ _)); exact BK171.out) hb); have n7_ := Aside0.mk (blk_below (g := gb178) (o := .cells #[.int .i64 t172, .bool t173, .slice Ao44 lq_t174.length co44] 40 (0, 0)) (by (with_reducible repeat (first | refine blk_drewN ?_ _ | refine blk_drew ?_ | refine blk_alloc ?_ _)); exact BK178.out) hb); have n8_ := Aside0.mk (below_step (by repeat (first | (with_reducible first | exact HB.out | apply below_alloc | apply pw_below_drewN | apply below_drew1 | refine below_set ?_ GE164.out | refine below_set ?_ GE171.out | refine below_set ?_ GE178.out) | exact HB.out)) hb); clear HO_11; clear HO_165002; clear HO_172002; clear HO_179002; clear BK164; clear BK171; clear BK178; clear HB; have HO_11 := n0_; have HO_165002 := n1_; have HO_172002 := n2_; have HO_179002 := n3_; have HO184 := n4_; have BK164 := n5_; have BK171 := n6_; have BK178 := n7_; have HB := n8_; clear n0_ n1_ n2_ n3_ n4_ n5_ n6_ n7_ n8_; (try clear hb); (try clear hb2); (try clear hk); (try clear hi); (try clear ho0)) | ((with_reducible refine gate_dst (N := 20) rfl ?_); (try (refine gate_guard (by rfl) ?_; dsimp only)); refine box_event ?hg (N := 20) ?hd (cs := #[.int .i64 0, .bool false, .slice none 0 0]) (t := 40) ?hr ?_; (case hd => rfl); (case hg => rfl); (case hr => first | (go_simp; done) | (go_simp; rfl)); intro gb186 hg w82 hbox hb; have n0_ := Aside0.mk (Kd.R_below (by (with_reducible repeat (first | apply Kd.R_alloc | apply Kd.R_drewN | apply Kd.R_drew)); exact HO_11.out) hb); have n1_ := Aside0.mk (Kd.V_below (Kd.V_elderB (by (with_reducible repeat (first | apply Kd.V_alloc | apply Kd.V_drewN | apply Kd.V_drew)); exact HO_165002.out) gb186 (Nat.le_of_eq hg.symm)) hb); have n2_ := Aside0.mk (Kd.V_below (Kd.V_elderB (by (with_reducible repeat (first | apply Kd.V_alloc | apply Kd.V_drewN | apply Kd.V_drew)); exact HO_172002.out) gb186 (Nat.le_of_eq hg.symm)) hb); have n3_ := Aside0.mk (Kd.V_below (Kd.V_elderB (by (with_reducible repeat (first | apply Kd.V_alloc | apply Kd.V_drewN | apply Kd.V_drew)); exact HO_179002.out) gb186 (Nat.le_of_eq hg.symm)) hb); have n4_ := Aside0.mk (Kd.V_below (Kd.V_elderB (by (with_reducible repeat (first | apply Kd.V_alloc | apply Kd.V_drewN | apply Kd.V_drew)); exact HO184.out) gb186 (Nat.le_of_eq hg.symm)) hb); have n5_ := Aside0.mk (blk_below (g := gb164) (o := .cells #[.int .i64 t158, .bool t159, .slice Ao33 lq_t160.length co33] 40 (0, 0)) (by (with_reducible repeat (first | refine blk_drewN ?_ _ | refine blk_drew ?_ | refine blk_alloc ?_ _)); exact BK164.out) hb); have n6_ := Aside0.mk (blk_below (g := gb171) (o := .cells #[.int .i64 t165, .bool t166, .slice (some ad179) lq_t167.length co38] 40 (0, 0)) (by (with_reducible repeat (first | refine blk_drewN ?_ _ | refine blk_drew ?_ | refine blk_alloc ?_ _)); exact BK171.out) hb); have n7_ := Aside0.mk (blk_below (g := gb178) (o := .cells #[.int .i64 t172, .bool t173, .slice Ao44 lq_t174.length co44] 40 (0, 0)) (by (with_reducible repeat (first | refine blk_drewN ?_ _ | refine blk_drew ?_ | refine blk_alloc ?_ _)); exact BK178.out) hb); have n8_ := Aside0.mk (below_step (by repeat (first | (with_reducible first | exact HB.out | apply below_alloc | apply pw_below_drewN | apply below_drew1 | refine below_set ?_ GE164.out | refine below_set ?_ GE171.out | refine below_set ?_ GE178.out) | exact HB.out)) hb); have n9_ := Aside0.mk (hbox); have n10_ := Aside0.mk ((by rw [hg]; exact (below_size (by repeat (first | (with_reducible first | exact HB.out | apply below_alloc | apply pw_below_drewN | apply below_drew1 | refine below_set ?_ GE164.out | refine below_set ?_ GE171.out | refine below_set ?_ GE178.out) | exact HB.out))) : w.heap.size ≤ gb186)); have n11_ := Aside0.mk ((by rw [hg]; exact (below_size (by repeat (first | (with_reducible first | exact HB.out | apply below_alloc | apply pw_below_drewN | apply below_drew1 | refine below_set ?_ GE164.out | refine below_set ?_ GE171.out | refine below_set ?_ GE178.out) | exact HB.out))) : w.heap.size ≤ gb186)); have n12_ := Aside0.mk ((by rw [hg]; exact Nat.ne_of_lt (blk_lt (g := gb164) (o := .cells #[.int .i64 t158, .bool t159, .slice Ao33 lq_t160.length co33] 40 (0, 0)) (by (with_reducible repeat (first | refine blk_drewN ?_ _ | refine blk_drew ?_ | refine blk_alloc ?_ _)); exact BK164.out)) : gb164 ≠ gb186)); have n13_ := Aside0.mk ((by rw [hg]; exact Nat.ne_of_gt (blk_lt (g := gb164) (o := .cells #[.int .i64 t158, .bool t159, .slice Ao33 lq_t160.length co33] 40 (0, 0)) (by (with_reducible repeat (first | refine blk_drewN ?_ _ | refine blk_drew ?_ | refine blk_alloc ?_ _)); exact BK164.out)) : gb186 ≠ gb164)); have n14_ := Aside0.mk ((by rw [hg]; exact Nat.ne_of_lt (blk_lt (g := gb171) (o := .cells #[.int .i64 t165, .bool t166, .slice (some ad179) lq_t167.length co38] 40 (0, 0)) (by (with_reducible repeat (first | refine blk_drewN ?_ _ | refine blk_drew ?_ | refine blk_alloc ?_ _)); exact BK171.out)) : gb171 ≠ gb186)); have n15_ := Aside0.mk ((by rw [hg]; exact Nat.ne_of_gt (blk_lt (g := gb171) (o := .cells #[.int .i64 t165, .bool t166, .slice (some ad179) lq_t167.length co38] 40 (0, 0)) (by (with_reducible repeat (first | refine blk_drewN ?_ _ | refine blk_drew ?_ | refine blk_alloc ?_ _)); exact BK171.out)) : gb186 ≠ gb171)); have n16_ := Aside0.mk ((by rw [hg]; exact Nat.ne_of_lt (blk_lt (g := gb178) (o := .cells #[.int .i64 t172, .bool t173, .slice Ao44 lq_t174.length co44] 40 (0, 0)) (by (with_reducible repeat (first | refine blk_drewN ?_ _ | refine blk_drew ?_ | refine blk_alloc ?_ _)); exact BK178.out)) : gb178 ≠ gb186)); have n17_ := Aside0.mk ((by rw [hg]; exact Nat.ne_of_gt (blk_lt (g := gb178) (o := .cells #[.int .i64 t172, .bool t173, .slice Ao44 lq_t174.length co44] 40 (0, 0)) (by (with_reducible repeat (first | refine blk_drewN ?_ _ | refine blk_drew ?_ | refine blk_alloc ?_ _)); exact BK178.out)) : gb186 ≠ gb178)); clear HO_11; clear HO_165002; clear HO_172002; clear HO_179002; clear HO184; clear BK164; clear BK171; clear BK178; clear HB; have HO_11 := n0_; have HO_165002 := n1_; have HO_172002 := n2_; have HO_179002 := n3_; have HO184 := n4_; have BK164 := n5_; have BK171 := n6_; have BK178 := n7_; have HB := n8_; have BK186 := n9_; have GW186 := n10_; have GE186 := n11_; have NB164_186 := n12_; have NB186_164 := n13_; have NB171_186 := n14_; have NB186_171 := n15_; have NB178_186 := n16_; have NB186_178 := n17_; clear n0_ n1_ n2_ n3_ n4_ n5_ n6_ n7_ n8_ n9_ n10_ n11_ n12_ n13_ n14_ n15_ n16_ n17_; clear hb hbox hg; have hnb83 := NB186_164.out; have hnc83 := NB164_186.out; have hnb84 := NB186_171.out; have hnc84 := NB171_186.out; have hnb85 := NB186_178.out; have hnc85 := NB178_186.out; have hcz86_0 : w82.cell? ⟨gb186, 0, none⟩ = some (.int .i64 0) := (blk_cell BK186.out 0).trans rfl; have hcz86_1 : w82.cell? ⟨gb186, 1, none⟩ = some (.bool false) := (blk_cell BK186.out 1).trans rfl; have hcz86_2 : w82.cell? ⟨gb186, 2, none⟩ = some (.slice none 0 0) := (blk_cell BK186.out 2).trans rfl; have hfz86_0 := blk_frozen BK186.out 0; have hfz86_1 := blk_frozen BK186.out 1; have hfz86_2 := blk_frozen BK186.out 2; obtain ⟨Ao87, co87, eo87⟩ := Kd.V_slice HO184.out; subst eo87))
                go_ret
                exact ⟨by first | rfl | (simp [errW_none, errW_some] <;> rfl) | (simp [*, errW_none, errW_some] <;> rfl), by repeat (first | (with_reducible first | exact HB.out | apply below_alloc | apply pw_below_drewN | apply below_drew1 | refine below_set ?_ GE164.out | refine below_set ?_ GE171.out | refine below_set ?_ GE178.out | refine below_set ?_ GE186.out) | exact HB.out)⟩
              ·replace c55 := Bool.eq_false_iff.mpr c55
               subst c55
               have H1 : (some false) = some r := by rw [if_neg (show ¬ (false = true) by decide)] at H; exact H
               clear H
               have H := H1
               clear H1
               obtain rfl := Option.some.inj H
               have hnb88 := NB171_164.out
               have hnc88 := NB164_171.out
               have hnb89 := NB171_178.out
               have hnc89 := NB178_171.out
               have hcz90_0 : wr.cell? ⟨gb171, 0, none⟩ = some (.int .i64 t165) := (blk_cell BK171.out 0).trans rfl
               have hcz90_1 : wr.cell? ⟨gb171, 1, none⟩ = some (.bool t166) := (blk_cell BK171.out 1).trans rfl
               have hcz90_2 : wr.cell? ⟨gb171, 2, none⟩ = some (.slice Ao38 lq_t167.length co38) := (blk_cell BK171.out 2).trans rfl
               have hfz90_0 := blk_frozen BK171.out 0
               have hfz90_1 := blk_frozen BK171.out 1
               have hfz90_2 := blk_frozen BK171.out 2
               have p179 : 0 ≤ (x19_4 : Int) := of_decide_eq_true (by first | (with_reducible assumption) | assumption)
               have q179 : x19_4 < (lq_t167.length : Int) := of_decide_eq_true (by first | (with_reducible assumption) | assumption)
               obtain ⟨ad179, e179, hx179_0⟩ := Kd.at_string (Kd.V_reads' HO_172002.out).2.2 x19_4 p179 q179
               cases e179
               replace p179 := eq_true p179
               replace q179 := eq_true q179
               go_wp2_with (first | ((with_reducible refine gate_callee (f := 17) rfl ?_); refine goesL_ (some 119) rfl rfl Tryz.func17 (by kernel_rfl) rfl #[.int .i64 20, .bool a0, .slice Ao29 t155.length co29, .agg #[.int .i64 0, .string (rdOf ByteArray.empty lq_t167 x19_4), .string a3, .string a4]] rfl (by (try simp only [List.map_toArray, List.map_cons, List.map_nil]); first | done | rfl | (simp only [List.length_drop, List.length_take]; rfl)) ?_; (with_reducible refine (laws_question.calls k4 20 a0 _ _ t155 0 (rdOf ByteArray.empty lq_t167 x19_4) a3 a4 t180 t181 t182 false _ ?side1 ?side2 A54.out).mono ?_); (case side1 => repeat (first | exact (Kd.R_reads' HO_11.out).2.2 | (with_reducible refine Kd.C_alloc ?_ _) | (with_reducible refine Kd.C_drewN ?_ _) | (with_reducible refine Kd.C_drew ?_))); (case side2 => exact (Kd.R_reads' HO_11.out).2.1); rintro e w91 ⟨v183, rfl, ⟨lq_t182, hq_, ho0⟩, hb⟩; have HQt182 := Aside0.mk hq_; clear hq_; refine ⟨_, rfl, ?_⟩; have n0_ := Aside0.mk (Kd.R_below (by (with_reducible repeat (first | apply Kd.R_alloc | apply Kd.R_drewN | apply Kd.R_drew)); exact HO_11.out) hb); have n1_ := Aside0.mk (Kd.V_below (by (with_reducible repeat (first | apply Kd.V_alloc | apply Kd.V_drewN | apply Kd.V_drew)); exact HO_165002.out) hb); have n2_ := Aside0.mk (Kd.V_below (by (with_reducible repeat (first | apply Kd.V_alloc | apply Kd.V_drewN | apply Kd.V_drew)); exact HO_172002.out) hb); have n3_ := Aside0.mk (Kd.V_below (by (with_reducible repeat (first | apply Kd.V_alloc | apply Kd.V_drewN | apply Kd.V_drew)); exact HO_179002.out) hb); have n4_ := Aside0.mk (Kd.V_lower (Kd.V_mono (ok' := fun k_ => some k_ ≠ (.slice Ao29 t155.length co29 : Value).ownBlock ∧ k_ ≠ gb164 ∧ k_ ≠ gb171 ∧ k_ ≠ gb178) ho0 (fun k_ hk_ => ⟨(Kd.fresh' (Kd.R_lt (by (with_reducible repeat (first | apply Kd.R_alloc | apply Kd.R_drewN | apply Kd.R_drew)); exact HO_11.out)) k_ hk_), (Kd.freshB (g := gb164) (o := .cells #[.int .i64 t158, .bool t159, .slice Ao33 lq_t160.length co33] 40 (0, 0)) (by (with_reducible repeat (first | refine blk_drewN ?_ _ | refine blk_drew ?_ | refine blk_alloc ?_ _)); exact BK164.out) k_ hk_), (Kd.freshB (g := gb171) (o := .cells #[.int .i64 t165, .bool t166, .slice (some ad179) lq_t167.length co38] 40 (0, 0)) (by (with_reducible repeat (first | refine blk_drewN ?_ _ | refine blk_drew ?_ | refine blk_alloc ?_ _)); exact BK171.out) k_ hk_), (Kd.freshB (g := gb178) (o := .cells #[.int .i64 t172, .bool t173, .slice Ao44 lq_t174.length co44] 40 (0, 0)) (by (with_reducible repeat (first | refine blk_drewN ?_ _ | refine blk_drew ?_ | refine blk_alloc ?_ _)); exact BK178.out) k_ hk_)⟩)) (below_size (by repeat (first | (with_reducible first | exact HB.out | apply below_alloc | apply pw_below_drewN | apply below_drew1 | refine below_set ?_ GE164.out | refine below_set ?_ GE171.out | refine below_set ?_ GE178.out) | exact HB.out)))); have n5_ := Aside0.mk (blk_below (g := gb164) (o := .cells #[.int .i64 t158, .bool t159, .slice Ao33 lq_t160.length co33] 40 (0, 0)) (by (with_reducible repeat (first | refine blk_drewN ?_ _ | refine blk_drew ?_ | refine blk_alloc ?_ _)); exact BK164.out) hb); have n6_ := Aside0.mk (blk_below (g := gb171) (o := .cells #[.int .i64 t165, .bool t166, .slice (some ad179) lq_t167.length co38] 40 (0, 0)) (by (with_reducible repeat (first | refine blk_drewN ?_ _ | refine blk_drew ?_ | refine blk_alloc ?_ _)); exact BK171.out) hb); have n7_ := Aside0.mk (blk_below (g := gb178) (o := .cells #[.int .i64 t172, .bool t173, .slice Ao44 lq_t174.length co44] 40 (0, 0)) (by (with_reducible repeat (first | refine blk_drewN ?_ _ | refine blk_drew ?_ | refine blk_alloc ?_ _)); exact BK178.out) hb); have n8_ := Aside0.mk (below_step (by repeat (first | (with_reducible first | exact HB.out | apply below_alloc | apply pw_below_drewN | apply below_drew1 | refine below_set ?_ GE164.out | refine below_set ?_ GE171.out | refine below_set ?_ GE178.out) | exact HB.out)) hb); clear HO_11; clear HO_165002; clear HO_172002; clear HO_179002; clear BK164; clear BK171; clear BK178; clear HB; have HO_11 := n0_; have HO_165002 := n1_; have HO_172002 := n2_; have HO_179002 := n3_; have HO184 := n4_; have BK164 := n5_; have BK171 := n6_; have BK178 := n7_; have HB := n8_; clear n0_ n1_ n2_ n3_ n4_ n5_ n6_ n7_ n8_; (try clear hb); (try clear hb2); (try clear hk); (try clear hi); (try clear ho0)) | ((with_reducible refine gate_dst (N := 20) rfl ?_); (try (refine gate_guard (by rfl) ?_; dsimp only)); refine box_event ?hg (N := 20) ?hd (cs := #[.int .i64 0, .bool false, .slice none 0 0]) (t := 40) ?hr ?_; (case hd => rfl); (case hg => rfl); (case hr => first | (go_simp; done) | (go_simp; rfl)); intro gb186 hg w92 hbox hb; have n0_ := Aside0.mk (Kd.R_below (by (with_reducible repeat (first | apply Kd.R_alloc | apply Kd.R_drewN | apply Kd.R_drew)); exact HO_11.out) hb); have n1_ := Aside0.mk (Kd.V_below (Kd.V_elderB (by (with_reducible repeat (first | apply Kd.V_alloc | apply Kd.V_drewN | apply Kd.V_drew)); exact HO_165002.out) gb186 (Nat.le_of_eq hg.symm)) hb); have n2_ := Aside0.mk (Kd.V_below (Kd.V_elderB (by (with_reducible repeat (first | apply Kd.V_alloc | apply Kd.V_drewN | apply Kd.V_drew)); exact HO_172002.out) gb186 (Nat.le_of_eq hg.symm)) hb); have n3_ := Aside0.mk (Kd.V_below (Kd.V_elderB (by (with_reducible repeat (first | apply Kd.V_alloc | apply Kd.V_drewN | apply Kd.V_drew)); exact HO_179002.out) gb186 (Nat.le_of_eq hg.symm)) hb); have n4_ := Aside0.mk (Kd.V_below (Kd.V_elderB (by (with_reducible repeat (first | apply Kd.V_alloc | apply Kd.V_drewN | apply Kd.V_drew)); exact HO184.out) gb186 (Nat.le_of_eq hg.symm)) hb); have n5_ := Aside0.mk (blk_below (g := gb164) (o := .cells #[.int .i64 t158, .bool t159, .slice Ao33 lq_t160.length co33] 40 (0, 0)) (by (with_reducible repeat (first | refine blk_drewN ?_ _ | refine blk_drew ?_ | refine blk_alloc ?_ _)); exact BK164.out) hb); have n6_ := Aside0.mk (blk_below (g := gb171) (o := .cells #[.int .i64 t165, .bool t166, .slice (some ad179) lq_t167.length co38] 40 (0, 0)) (by (with_reducible repeat (first | refine blk_drewN ?_ _ | refine blk_drew ?_ | refine blk_alloc ?_ _)); exact BK171.out) hb); have n7_ := Aside0.mk (blk_below (g := gb178) (o := .cells #[.int .i64 t172, .bool t173, .slice Ao44 lq_t174.length co44] 40 (0, 0)) (by (with_reducible repeat (first | refine blk_drewN ?_ _ | refine blk_drew ?_ | refine blk_alloc ?_ _)); exact BK178.out) hb); have n8_ := Aside0.mk (below_step (by repeat (first | (with_reducible first | exact HB.out | apply below_alloc | apply pw_below_drewN | apply below_drew1 | refine below_set ?_ GE164.out | refine below_set ?_ GE171.out | refine below_set ?_ GE178.out) | exact HB.out)) hb); have n9_ := Aside0.mk (hbox); have n10_ := Aside0.mk ((by rw [hg]; exact (below_size (by repeat (first | (with_reducible first | exact HB.out | apply below_alloc | apply pw_below_drewN | apply below_drew1 | refine below_set ?_ GE164.out | refine below_set ?_ GE171.out | refine below_set ?_ GE178.out) | exact HB.out))) : w.heap.size ≤ gb186)); have n11_ := Aside0.mk ((by rw [hg]; exact (below_size (by repeat (first | (with_reducible first | exact HB.out | apply below_alloc | apply pw_below_drewN | apply below_drew1 | refine below_set ?_ GE164.out | refine below_set ?_ GE171.out | refine below_set ?_ GE178.out) | exact HB.out))) : w.heap.size ≤ gb186)); have n12_ := Aside0.mk ((by rw [hg]; exact Nat.ne_of_lt (blk_lt (g := gb164) (o := .cells #[.int .i64 t158, .bool t159, .slice Ao33 lq_t160.length co33] 40 (0, 0)) (by (with_reducible repeat (first | refine blk_drewN ?_ _ | refine blk_drew ?_ | refine blk_alloc ?_ _)); exact BK164.out)) : gb164 ≠ gb186)); have n13_ := Aside0.mk ((by rw [hg]; exact Nat.ne_of_gt (blk_lt (g := gb164) (o := .cells #[.int .i64 t158, .bool t159, .slice Ao33 lq_t160.length co33] 40 (0, 0)) (by (with_reducible repeat (first | refine blk_drewN ?_ _ | refine blk_drew ?_ | refine blk_alloc ?_ _)); exact BK164.out)) : gb186 ≠ gb164)); have n14_ := Aside0.mk ((by rw [hg]; exact Nat.ne_of_lt (blk_lt (g := gb171) (o := .cells #[.int .i64 t165, .bool t166, .slice (some ad179) lq_t167.length co38] 40 (0, 0)) (by (with_reducible repeat (first | refine blk_drewN ?_ _ | refine blk_drew ?_ | refine blk_alloc ?_ _)); exact BK171.out)) : gb171 ≠ gb186)); have n15_ := Aside0.mk ((by rw [hg]; exact Nat.ne_of_gt (blk_lt (g := gb171) (o := .cells #[.int .i64 t165, .bool t166, .slice (some ad179) lq_t167.length co38] 40 (0, 0)) (by (with_reducible repeat (first | refine blk_drewN ?_ _ | refine blk_drew ?_ | refine blk_alloc ?_ _)); exact BK171.out)) : gb186 ≠ gb171)); have n16_ := Aside0.mk ((by rw [hg]; exact Nat.ne_of_lt (blk_lt (g := gb178) (o := .cells #[.int .i64 t172, .bool t173, .slice Ao44 lq_t174.length co44] 40 (0, 0)) (by (with_reducible repeat (first | refine blk_drewN ?_ _ | refine blk_drew ?_ | refine blk_alloc ?_ _)); exact BK178.out)) : gb178 ≠ gb186)); have n17_ := Aside0.mk ((by rw [hg]; exact Nat.ne_of_gt (blk_lt (g := gb178) (o := .cells #[.int .i64 t172, .bool t173, .slice Ao44 lq_t174.length co44] 40 (0, 0)) (by (with_reducible repeat (first | refine blk_drewN ?_ _ | refine blk_drew ?_ | refine blk_alloc ?_ _)); exact BK178.out)) : gb186 ≠ gb178)); clear HO_11; clear HO_165002; clear HO_172002; clear HO_179002; clear HO184; clear BK164; clear BK171; clear BK178; clear HB; have HO_11 := n0_; have HO_165002 := n1_; have HO_172002 := n2_; have HO_179002 := n3_; have HO184 := n4_; have BK164 := n5_; have BK171 := n6_; have BK178 := n7_; have HB := n8_; have BK186 := n9_; have GW186 := n10_; have GE186 := n11_; have NB164_186 := n12_; have NB186_164 := n13_; have NB171_186 := n14_; have NB186_171 := n15_; have NB178_186 := n16_; have NB186_178 := n17_; clear n0_ n1_ n2_ n3_ n4_ n5_ n6_ n7_ n8_ n9_ n10_ n11_ n12_ n13_ n14_ n15_ n16_ n17_; clear hb hbox hg; have hnb93 := NB186_164.out; have hnc93 := NB164_186.out; have hnb94 := NB186_171.out; have hnc94 := NB171_186.out; have hnb95 := NB186_178.out; have hnc95 := NB178_186.out; have hcz96_0 : w92.cell? ⟨gb186, 0, none⟩ = some (.int .i64 0) := (blk_cell BK186.out 0).trans rfl; have hcz96_1 : w92.cell? ⟨gb186, 1, none⟩ = some (.bool false) := (blk_cell BK186.out 1).trans rfl; have hcz96_2 : w92.cell? ⟨gb186, 2, none⟩ = some (.slice none 0 0) := (blk_cell BK186.out 2).trans rfl; have hfz96_0 := blk_frozen BK186.out 0; have hfz96_1 := blk_frozen BK186.out 1; have hfz96_2 := blk_frozen BK186.out 2; obtain ⟨Ao97, co97, eo97⟩ := Kd.V_slice HO184.out; subst eo97))
               go_ret
               exact ⟨by first | rfl | (simp [errW_none, errW_some] <;> rfl) | (simp [*, errW_none, errW_some] <;> rfl), by repeat (first | (with_reducible first | exact HB.out | apply below_alloc | apply pw_below_drewN | apply below_drew1 | refine below_set ?_ GE164.out | refine below_set ?_ GE171.out | refine below_set ?_ GE178.out | refine below_set ?_ GE186.out) | exact HB.out)⟩
             ·rw [if_neg c53] at H
              exact absurd H (by simp)
            ·rw [if_neg c52] at H
             have c52b0 : decide (x19_4 < (lq_t167.length : Int)) = false := decide_eq_false c52
             clear c52
             by_cases c98 : (t159 == x18_4) = true
             ·rw [if_pos c98] at H
              have c98b0 : (t159 == x18_4) = true := c98
              (try (have c98b1 : decide (t159 = x18_4) = true := by simpa using c98))
              (try (have c98b2 : (t159 == x18_4) = true := by simpa using c98))
              clear c98
              by_cases c99 : a2.toList = a3.toList
              ·rw [if_pos c99] at H
               have c99b0 : (a2.toList == a3.toList) = true := beq_iff_eq.mpr c99
               have c99b1 : (a2.toList != a3.toList) = false := bne_eq_false_iff_eq.mpr c99
               clear c99
               replace H := Option.bind_eq_some_iff.mp H
               obtain ⟨t187, A1000, H⟩ := H
               replace H : (some t187) = some r := H
               have A100 := Aside0.mk A1000
               clear A1000
               obtain rfl := Option.some.inj H
               have hnb101 := NB171_164.out
               have hnc101 := NB164_171.out
               have hnb102 := NB171_178.out
               have hnc102 := NB178_171.out
               have hcz103_0 : wr.cell? ⟨gb171, 0, none⟩ = some (.int .i64 t165) := (blk_cell BK171.out 0).trans rfl
               have hcz103_1 : wr.cell? ⟨gb171, 1, none⟩ = some (.bool t166) := (blk_cell BK171.out 1).trans rfl
               have hcz103_2 : wr.cell? ⟨gb171, 2, none⟩ = some (.slice Ao38 lq_t167.length co38) := (blk_cell BK171.out 2).trans rfl
               have hfz103_0 := blk_frozen BK171.out 0
               have hfz103_1 := blk_frozen BK171.out 1
               have hfz103_2 := blk_frozen BK171.out 2
               try go_wp2
               have n0_ := Aside0.mk (Kd.R_drew HO_11.out)
               have n1_ := Aside0.mk (Kd.V_drew HO_165002.out)
               have n2_ := Aside0.mk (Kd.V_drew HO_172002.out)
               have n3_ := Aside0.mk (Kd.V_drew HO_179002.out)
               have n4_ := Aside0.mk (blk_drew BK164.out)
               have n5_ := Aside0.mk (blk_drew BK171.out)
               have n6_ := Aside0.mk (blk_drew BK178.out)
               have n7_ := Aside0.mk (below_drew1 HB.out)
               clear HO_11
               clear HO_165002
               clear HO_172002
               clear HO_179002
               clear BK164
               clear BK171
               clear BK178
               clear HB
               have HO_11 := n0_
               have HO_165002 := n1_
               have HO_172002 := n2_
               have HO_179002 := n3_
               have BK164 := n4_
               have BK171 := n5_
               have BK178 := n6_
               have HB := n7_
               clear n0_ n1_ n2_ n3_ n4_ n5_ n6_ n7_
               refine start_ (n := 22) (S := fun w' => w'.cell? ⟨gb164, 0, none⟩ = some (.int .i64 t158) ∧ w'.cell? ⟨gb164, 1, none⟩ = some (.bool t159) ∧ w'.cell? ⟨gb164, 2, none⟩ = some (.slice Ao33 lq_t160.length co33)) (ds := []) #[false, false, false, false, false, false, false, false, false, false, false, false, false, false, false, false, false, false, false, false, false, false] (by kernel_rfl) rfl rfl ⟨(blk_cell BK164.out 0).trans rfl, (blk_cell BK164.out 1).trans rfl, (blk_cell BK164.out 2).trans rfl⟩ (fun hHeld => ?_); refine with_tabW laws_FnRolesReach.tab19 laws_FnRolesReach.bits19 (fun HT_ HW_ => ?_)
               generalize wr.drew = w104 at HO_11 HO_165002 HO_172002 HO_179002 BK164 BK171 BK178 HB hHeld ⊢
               refine pure_ (i := 0) (N := some 134) (v := ?_) (a' := ?_) #[true, false, false, false, false, false, false, false, false, false, false, false, false, false, false, false, false, false, false, false, false, false] rfl rfl (any_of HT_.out (by kernel_rfl)) (fun _ _ _ h => h) (Or.inl ⟨by rfl, ?_⟩) ?_ ?_
               rotate_left
               ·intro w'
                go_simp
                with_reducible rfl
               rotate_left
               ·simp only [Act.put, List.setIfInBounds_toArray, List.set_cons_zero, List.set_cons_succ, i64_w, i32_w]
                rfl
               refine pure_ (i := 2) (N := some 136) (v := ?_) (a' := ?_) #[true, false, true, false, false, false, false, false, false, false, false, false, false, false, false, false, false, false, false, false, false, false] rfl rfl (any_of HT_.out (by kernel_rfl)) (fun _ _ _ h => h) (Or.inl ⟨by rfl, ?_⟩) ?_ ?_
               rotate_left
               ·intro w'
                go_simp
                with_reducible rfl
               rotate_left
               ·simp only [Act.put, List.setIfInBounds_toArray, List.set_cons_zero, List.set_cons_succ, i64_w, i32_w]
                rfl
               refine take_ (i := 1) (N := some 135) (v := ?_) (a' := ?_) #[true, true, true, false, false, false, false, false, false, false, false, false, false, false, false, false, false, false, false, false, false, false] rfl rfl (take_ofW HT_.out HW_.out (by kernel_rfl)) (fun _ _ _ h => h) (Or.inl ⟨by rfl, ?_⟩) hHeld ?_ ?_
               rotate_left
               ·rintro w' ⟨s0, s1, s2⟩
                go_simp
                with_reducible rfl
               rotate_left
               ·simp only [Act.put, List.setIfInBounds_toArray, List.set_cons_zero, List.set_cons_succ, i64_w, i32_w]
                rfl
               refine pure_ (i := 3) (N := some 137) (v := ?_) (a' := ?_) #[true, true, true, true, false, false, false, false, false, false, false, false, false, false, false, false, false, false, false, false, false, false] rfl rfl (any_of HT_.out (by kernel_rfl)) (fun _ _ _ h => h) (Or.inl ⟨by rfl, ?_⟩) ?_ ?_
               rotate_left
               ·intro w'
                go_simp
                with_reducible rfl
               rotate_left
               ·simp only [Act.put, List.setIfInBounds_toArray, List.set_cons_zero, List.set_cons_succ, i64_w, i32_w]
                rfl
               refine pure_ (i := 4) (N := some 138) (v := ?_) (a' := ?_) #[true, true, true, true, true, false, false, false, false, false, false, false, false, false, false, false, false, false, false, false, false, false] rfl rfl (any_of HT_.out (by kernel_rfl)) (fun _ _ _ h => h) (Or.inl ⟨by rfl, ?_⟩) ?_ ?_
               rotate_left
               ·intro w'
                go_simp
                with_reducible rfl
               rotate_left
               ·simp only [Act.put, List.setIfInBounds_toArray, List.set_cons_zero, List.set_cons_succ, i64_w, i32_w]
                rfl
               refine pure_ (i := 5) (N := some 139) (v := ?_) (a' := ?_) #[true, true, true, true, true, true, false, false, false, false, false, false, false, false, false, false, false, false, false, false, false, false] rfl rfl (any_of HT_.out (by kernel_rfl)) (fun _ _ _ h => h) (Or.inl ⟨by rfl, ?_⟩) ?_ ?_
               rotate_left
               ·intro w'
                go_simp
                with_reducible rfl
               rotate_left
               ·simp only [Act.put, List.setIfInBounds_toArray, List.set_cons_zero, List.set_cons_succ, i64_w, i32_w]
                rfl
               refine pure_ (i := 6) (N := some 140) (v := ?_) (a' := ?_) #[true, true, true, true, true, true, true, false, false, false, false, false, false, false, false, false, false, false, false, false, false, false] rfl rfl (any_of HT_.out (by kernel_rfl)) (fun _ _ _ h => h) (Or.inl ⟨by rfl, ?_⟩) ?_ ?_
               rotate_left
               ·intro w'
                go_simp
                with_reducible rfl
               rotate_left
               ·simp only [Act.put, List.setIfInBounds_toArray, List.set_cons_zero, List.set_cons_succ, i64_w, i32_w]
                rfl
               refine pure_ (i := 7) (N := some 141) (v := ?_) (a' := ?_) #[true, true, true, true, true, true, true, true, false, false, false, false, false, false, false, false, false, false, false, false, false, false] rfl rfl (any_of HT_.out (by kernel_rfl)) (fun _ _ _ h => h) (Or.inl ⟨by rfl, ?_⟩) ?_ ?_
               rotate_left
               ·intro w'
                go_simp
                with_reducible rfl
               rotate_left
               ·simp only [Act.put, List.setIfInBounds_toArray, List.set_cons_zero, List.set_cons_succ, i64_w, i32_w]
                rfl
               refine pure_ (i := 8) (N := some 142) (v := ?_) (a' := ?_) #[true, true, true, true, true, true, true, true, true, false, false, false, false, false, false, false, false, false, false, false, false, false] rfl rfl (any_of HT_.out (by kernel_rfl)) (fun _ _ _ h => h) (Or.inl ⟨by rfl, ?_⟩) ?_ ?_
               rotate_left
               ·intro w'
                go_simp
                with_reducible rfl
               rotate_left
               ·simp only [Act.put, List.setIfInBounds_toArray, List.set_cons_zero, List.set_cons_succ, i64_w, i32_w]
                rfl
               refine pure_ (i := 9) (N := some 143) (v := undef) (a' := ?_) #[true, true, true, true, true, true, true, true, true, true, false, false, false, false, false, false, false, false, false, false, false, false] rfl rfl (any_of HT_.out (by kernel_rfl)) (fun _ _ _ h => h) (Or.inr ⟨by rfl, rfl⟩) ?_ ?_
               rotate_left
               ·simp only [Act.put, List.setIfInBounds_toArray, List.set_cons_zero, List.set_cons_succ, i64_w, i32_w]
                rfl
               refine pure_ (i := 10) (N := some 144) (v := undef) (a' := ?_) #[true, true, true, true, true, true, true, true, true, true, true, false, false, false, false, false, false, false, false, false, false, false] rfl rfl (any_of HT_.out (by kernel_rfl)) (fun _ _ _ h => h) (Or.inr ⟨by rfl, rfl⟩) ?_ ?_
               rotate_left
               ·simp only [Act.put, List.setIfInBounds_toArray, List.set_cons_zero, List.set_cons_succ, i64_w, i32_w]
                rfl
               refine pure_ (i := 11) (N := some 145) (v := undef) (a' := ?_) #[true, true, true, true, true, true, true, true, true, true, true, true, false, false, false, false, false, false, false, false, false, false] rfl rfl (any_of HT_.out (by kernel_rfl)) (fun _ _ _ h => h) (Or.inr ⟨by rfl, rfl⟩) ?_ ?_
               rotate_left
               ·simp only [Act.put, List.setIfInBounds_toArray, List.set_cons_zero, List.set_cons_succ, i64_w, i32_w]
                rfl
               refine pure_ (i := 12) (N := some 146) (v := undef) (a' := ?_) #[true, true, true, true, true, true, true, true, true, true, true, true, true, false, false, false, false, false, false, false, false, false] rfl rfl (any_of HT_.out (by kernel_rfl)) (fun _ _ _ h => h) (Or.inr ⟨by rfl, rfl⟩) ?_ ?_
               rotate_left
               ·simp only [Act.put, List.setIfInBounds_toArray, List.set_cons_zero, List.set_cons_succ, i64_w, i32_w]
                rfl
               refine pure_ (i := 13) (N := some 147) (v := undef) (a' := ?_) #[true, true, true, true, true, true, true, true, true, true, true, true, true, true, false, false, false, false, false, false, false, false] rfl rfl (any_of HT_.out (by kernel_rfl)) (fun _ _ _ h => h) (Or.inr ⟨by rfl, rfl⟩) ?_ ?_
               rotate_left
               ·simp only [Act.put, List.setIfInBounds_toArray, List.set_cons_zero, List.set_cons_succ, i64_w, i32_w]
                rfl
               refine pure_ (i := 14) (N := some 148) (v := undef) (a' := ?_) #[true, true, true, true, true, true, true, true, true, true, true, true, true, true, true, false, false, false, false, false, false, false] rfl rfl (any_of HT_.out (by kernel_rfl)) (fun _ _ _ h => h) (Or.inr ⟨by rfl, rfl⟩) ?_ ?_
               rotate_left
               ·simp only [Act.put, List.setIfInBounds_toArray, List.set_cons_zero, List.set_cons_succ, i64_w, i32_w]
                rfl
               refine pure_ (i := 15) (N := some 149) (v := undef) (a' := ?_) #[true, true, true, true, true, true, true, true, true, true, true, true, true, true, true, true, false, false, false, false, false, false] rfl rfl (any_of HT_.out (by kernel_rfl)) (fun _ _ _ h => h) (Or.inr ⟨by rfl, rfl⟩) ?_ ?_
               rotate_left
               ·simp only [Act.put, List.setIfInBounds_toArray, List.set_cons_zero, List.set_cons_succ, i64_w, i32_w]
                rfl
               refine pure_ (i := 16) (N := some 150) (v := ?_) (a' := ?_) #[true, true, true, true, true, true, true, true, true, true, true, true, true, true, true, true, true, false, false, false, false, false] rfl rfl (any_of HT_.out (by kernel_rfl)) (fun _ _ _ h => h) (Or.inl ⟨by rfl, ?_⟩) ?_ ?_
               rotate_left
               ·intro w'
                go_simp
                with_reducible rfl
               rotate_left
               ·simp only [Act.put, List.setIfInBounds_toArray, List.set_cons_zero, List.set_cons_succ, i64_w, i32_w]
                rfl
               refine pure_ (i := 17) (N := some 151) (v := ?_) (a' := ?_) #[true, true, true, true, true, true, true, true, true, true, true, true, true, true, true, true, true, true, false, false, false, false] rfl rfl (any_of HT_.out (by kernel_rfl)) (fun _ _ _ h => h) (Or.inl ⟨by rfl, ?_⟩) ?_ ?_
               rotate_left
               ·intro w'
                go_simp
                with_reducible rfl
               rotate_left
               ·simp only [Act.put, List.setIfInBounds_toArray, List.set_cons_zero, List.set_cons_succ, i64_w, i32_w]
                rfl
               refine pure_ (i := 18) (N := some 152) (v := ?_) (a' := ?_) #[true, true, true, true, true, true, true, true, true, true, true, true, true, true, true, true, true, true, true, false, false, false] rfl rfl (any_of HT_.out (by kernel_rfl)) (fun _ _ _ h => h) (Or.inl ⟨by rfl, ?_⟩) ?_ ?_
               rotate_left
               ·intro w'
                go_simp
                with_reducible rfl
               rotate_left
               ·simp only [Act.put, List.setIfInBounds_toArray, List.set_cons_zero, List.set_cons_succ, i64_w, i32_w]
                rfl
               refine one_ (i := 19) (N := some 153) #[true, true, true, true, true, true, true, true, true, true, true, true, true, true, true, true, true, true, true, true, false, false] rfl rfl (one_of HT_.out (by kernel_rfl)) (by decide) (fun K hK => ?_)
               refine goes_ Tryz.func12 (by kernel_rfl) rfl #[] (by rfl) rfl rfl (by (try simp only [List.map_toArray, List.map_cons, List.map_nil]); first | done | rfl | (simp only [List.length_drop, List.length_take]; rfl)) ?_
               with_reducible refine (laws_awakeRoles.calls k4  t187 _ A100.out).mono ?_
               rintro e w105 ⟨rfl, hb⟩
               refine ⟨_, rfl, ?_⟩
               have n0_ := Aside0.mk (Kd.R_below (by (with_reducible repeat (first | apply Kd.R_alloc | apply Kd.R_drewN | apply Kd.R_drew)); exact HO_11.out) hb)
               have n1_ := Aside0.mk (Kd.V_below (by (with_reducible repeat (first | apply Kd.V_alloc | apply Kd.V_drewN | apply Kd.V_drew)); exact HO_165002.out) hb)
               have n2_ := Aside0.mk (Kd.V_below (by (with_reducible repeat (first | apply Kd.V_alloc | apply Kd.V_drewN | apply Kd.V_drew)); exact HO_172002.out) hb)
               have n3_ := Aside0.mk (Kd.V_below (by (with_reducible repeat (first | apply Kd.V_alloc | apply Kd.V_drewN | apply Kd.V_drew)); exact HO_179002.out) hb)
               have n4_ := Aside0.mk (blk_below (g := gb164) (o := .cells #[.int .i64 t158, .bool t159, .slice Ao33 lq_t160.length co33] 40 (0, 0)) (by (with_reducible repeat (first | refine blk_drewN ?_ _ | refine blk_drew ?_ | refine blk_alloc ?_ _)); exact BK164.out) hb)
               have n5_ := Aside0.mk (blk_below (g := gb171) (o := .cells #[.int .i64 t165, .bool t166, .slice Ao38 lq_t167.length co38] 40 (0, 0)) (by (with_reducible repeat (first | refine blk_drewN ?_ _ | refine blk_drew ?_ | refine blk_alloc ?_ _)); exact BK171.out) hb)
               have n6_ := Aside0.mk (blk_below (g := gb178) (o := .cells #[.int .i64 t172, .bool t173, .slice Ao44 lq_t174.length co44] 40 (0, 0)) (by (with_reducible repeat (first | refine blk_drewN ?_ _ | refine blk_drew ?_ | refine blk_alloc ?_ _)); exact BK178.out) hb)
               have n7_ := Aside0.mk (below_step (by repeat (first | (with_reducible first | exact HB.out | apply below_alloc | apply pw_below_drewN | apply below_drew1 | refine below_set ?_ GE164.out | refine below_set ?_ GE171.out | refine below_set ?_ GE178.out) | exact HB.out)) hb)
               clear HO_11
               clear HO_165002
               clear HO_172002
               clear HO_179002
               clear BK164
               clear BK171
               clear BK178
               clear HB
               have HO_11 := n0_
               have HO_165002 := n1_
               have HO_172002 := n2_
               have HO_179002 := n3_
               have BK164 := n4_
               have BK171 := n5_
               have BK178 := n6_
               have HB := n7_
               clear n0_ n1_ n2_ n3_ n4_ n5_ n6_ n7_
               (try clear hb)
               (try clear hb2)
               (try clear hk)
               (try clear hi)
               refine hK.out _ _ ⟨(blk_cell BK164.out 0).trans rfl, (blk_cell BK164.out 1).trans rfl, (blk_cell BK164.out 2).trans rfl⟩ (fun hHeld => ?_)
               clear hK K
               refine norm_ (a' := ?_) ?_ ?_
               rotate_left
               ·show Act.put _ (some 153) _ = _
                simp only [Act.put, List.setIfInBounds_toArray, List.set_cons_zero, List.set_cons_succ, i64_w, i32_w]
                rfl
               refine pure_ (i := 20) (N := some 154) (v := ?_) (a' := ?_) #[true, true, true, true, true, true, true, true, true, true, true, true, true, true, true, true, true, true, true, true, true, false] rfl rfl (any_of HT_.out (by kernel_rfl)) (fun _ _ _ h => h) (Or.inl ⟨by rfl, ?_⟩) ?_ ?_
               rotate_left
               ·intro w'
                go_simp
                with_reducible rfl
               rotate_left
               ·simp only [Act.put, List.setIfInBounds_toArray, List.set_cons_zero, List.set_cons_succ, i64_w, i32_w]
                rfl
               refine pure_ (i := 21) (N := some 10) (v := ?_) (a' := ?_) #[true, true, true, true, true, true, true, true, true, true, true, true, true, true, true, true, true, true, true, true, true, true] rfl rfl (any_of HT_.out (by kernel_rfl)) (fun _ _ _ h => h) (Or.inl ⟨by rfl, ?_⟩) ?_ ?_
               rotate_left
               ·intro w'
                go_simp
                with_reducible rfl
               rotate_left
               ·simp only [Act.put, List.setIfInBounds_toArray, List.set_cons_zero, List.set_cons_succ, i64_w, i32_w]
                rfl
               refine done_ (done_of HT_.out (by kernel_rfl)) ?_
               try go_wp2
               go_ret
               exact ⟨by first | rfl | (simp [errW_none, errW_some] <;> rfl) | (simp [*, errW_none, errW_some] <;> rfl), by repeat (first | (with_reducible first | exact HB.out | apply below_alloc | apply pw_below_drewN | apply below_drew1 | refine below_set ?_ GE164.out | refine below_set ?_ GE171.out | refine below_set ?_ GE178.out) | exact HB.out)⟩
              ·rw [if_neg c99] at H
               have c99b0 : (a2.toList == a3.toList) = false := beq_eq_false_iff_ne.mpr c99
               have c99b1 : (a2.toList != a3.toList) = true := bne_iff_ne.mpr c99
               replace H := Option.bind_eq_some_iff.mp H
               obtain ⟨t188, A1060, H⟩ := H
               replace H : (if (t188 == t159) = true then ((laws_awakeRoles.f k4).bind fun t189 => (some t189)) else (some false)) = some r := H
               have A106 := Aside0.mk A1060
               clear A1060
               by_cases c107 : (t188 == t159) = true
               ·rw [if_pos c107] at H
                have c107b0 : (t188 == t159) = true := c107
                (try (have c107b1 : decide (t188 = t159) = true := by simpa using c107))
                (try (have c107b2 : (t188 == t159) = true := by simpa using c107))
                clear c107
                replace H := Option.bind_eq_some_iff.mp H
                obtain ⟨t189, A1080, H⟩ := H
                replace H : (some t189) = some r := H
                have A108 := Aside0.mk A1080
                clear A1080
                obtain rfl := Option.some.inj H
                have hnb109 := NB171_164.out
                have hnc109 := NB164_171.out
                have hnb110 := NB171_178.out
                have hnc110 := NB178_171.out
                have hcz111_0 : wr.cell? ⟨gb171, 0, none⟩ = some (.int .i64 t165) := (blk_cell BK171.out 0).trans rfl
                have hcz111_1 : wr.cell? ⟨gb171, 1, none⟩ = some (.bool t166) := (blk_cell BK171.out 1).trans rfl
                have hcz111_2 : wr.cell? ⟨gb171, 2, none⟩ = some (.slice Ao38 lq_t167.length co38) := (blk_cell BK171.out 2).trans rfl
                have hfz111_0 := blk_frozen BK171.out 0
                have hfz111_1 := blk_frozen BK171.out 1
                have hfz111_2 := blk_frozen BK171.out 2
                try go_wp2
                have n0_ := Aside0.mk (Kd.R_drew HO_11.out)
                have n1_ := Aside0.mk (Kd.V_drew HO_165002.out)
                have n2_ := Aside0.mk (Kd.V_drew HO_172002.out)
                have n3_ := Aside0.mk (Kd.V_drew HO_179002.out)
                have n4_ := Aside0.mk (blk_drew BK164.out)
                have n5_ := Aside0.mk (blk_drew BK171.out)
                have n6_ := Aside0.mk (blk_drew BK178.out)
                have n7_ := Aside0.mk (below_drew1 HB.out)
                clear HO_11
                clear HO_165002
                clear HO_172002
                clear HO_179002
                clear BK164
                clear BK171
                clear BK178
                clear HB
                have HO_11 := n0_
                have HO_165002 := n1_
                have HO_172002 := n2_
                have HO_179002 := n3_
                have BK164 := n4_
                have BK171 := n5_
                have BK178 := n6_
                have HB := n7_
                clear n0_ n1_ n2_ n3_ n4_ n5_ n6_ n7_
                refine start_ (n := 22) (S := fun w' => w'.cell? ⟨gb164, 0, none⟩ = some (.int .i64 t158) ∧ w'.cell? ⟨gb164, 1, none⟩ = some (.bool t159) ∧ w'.cell? ⟨gb164, 2, none⟩ = some (.slice Ao33 lq_t160.length co33) ∧ w'.cell? ⟨gb178, 0, none⟩ = some (.int .i64 t172) ∧ w'.cell? ⟨gb178, 1, none⟩ = some (.bool t173) ∧ w'.cell? ⟨gb178, 2, none⟩ = some (.slice Ao44 lq_t174.length co44)) (ds := []) #[false, false, false, false, false, false, false, false, false, false, false, false, false, false, false, false, false, false, false, false, false, false] (by kernel_rfl) rfl rfl ⟨(blk_cell BK164.out 0).trans rfl, (blk_cell BK164.out 1).trans rfl, (blk_cell BK164.out 2).trans rfl, (blk_cell BK178.out 0).trans rfl, (blk_cell BK178.out 1).trans rfl, (blk_cell BK178.out 2).trans rfl⟩ (fun hHeld => ?_); refine with_tabW laws_FnRolesReach.tab19 laws_FnRolesReach.bits19 (fun HT_ HW_ => ?_)
                generalize wr.drew = w112 at HO_11 HO_165002 HO_172002 HO_179002 BK164 BK171 BK178 HB hHeld ⊢
                refine pure_ (i := 0) (N := some 134) (v := ?_) (a' := ?_) #[true, false, false, false, false, false, false, false, false, false, false, false, false, false, false, false, false, false, false, false, false, false] rfl rfl (any_of HT_.out (by kernel_rfl)) (fun _ _ _ h => h) (Or.inl ⟨by rfl, ?_⟩) ?_ ?_
                rotate_left
                ·intro w'
                 go_simp
                 with_reducible rfl
                rotate_left
                ·simp only [Act.put, List.setIfInBounds_toArray, List.set_cons_zero, List.set_cons_succ, i64_w, i32_w]
                 rfl
                refine pure_ (i := 2) (N := some 136) (v := ?_) (a' := ?_) #[true, false, true, false, false, false, false, false, false, false, false, false, false, false, false, false, false, false, false, false, false, false] rfl rfl (any_of HT_.out (by kernel_rfl)) (fun _ _ _ h => h) (Or.inl ⟨by rfl, ?_⟩) ?_ ?_
                rotate_left
                ·intro w'
                 go_simp
                 with_reducible rfl
                rotate_left
                ·simp only [Act.put, List.setIfInBounds_toArray, List.set_cons_zero, List.set_cons_succ, i64_w, i32_w]
                 rfl
                refine take_ (i := 1) (N := some 135) (v := ?_) (a' := ?_) #[true, true, true, false, false, false, false, false, false, false, false, false, false, false, false, false, false, false, false, false, false, false] rfl rfl (take_ofW HT_.out HW_.out (by kernel_rfl)) (fun _ _ _ h => h) (Or.inl ⟨by rfl, ?_⟩) hHeld ?_ ?_
                rotate_left
                ·rintro w' ⟨s0, s1, s2, s3, s4, s5⟩
                 go_simp
                 with_reducible rfl
                rotate_left
                ·simp only [Act.put, List.setIfInBounds_toArray, List.set_cons_zero, List.set_cons_succ, i64_w, i32_w]
                 rfl
                refine pure_ (i := 3) (N := some 137) (v := ?_) (a' := ?_) #[true, true, true, true, false, false, false, false, false, false, false, false, false, false, false, false, false, false, false, false, false, false] rfl rfl (any_of HT_.out (by kernel_rfl)) (fun _ _ _ h => h) (Or.inl ⟨by rfl, ?_⟩) ?_ ?_
                rotate_left
                ·intro w'
                 go_simp
                 with_reducible rfl
                rotate_left
                ·simp only [Act.put, List.setIfInBounds_toArray, List.set_cons_zero, List.set_cons_succ, i64_w, i32_w]
                 rfl
                refine pure_ (i := 4) (N := some 138) (v := ?_) (a' := ?_) #[true, true, true, true, true, false, false, false, false, false, false, false, false, false, false, false, false, false, false, false, false, false] rfl rfl (any_of HT_.out (by kernel_rfl)) (fun _ _ _ h => h) (Or.inl ⟨by rfl, ?_⟩) ?_ ?_
                rotate_left
                ·intro w'
                 go_simp
                 with_reducible rfl
                rotate_left
                ·simp only [Act.put, List.setIfInBounds_toArray, List.set_cons_zero, List.set_cons_succ, i64_w, i32_w]
                 rfl
                refine pure_ (i := 5) (N := some 139) (v := ?_) (a' := ?_) #[true, true, true, true, true, true, false, false, false, false, false, false, false, false, false, false, false, false, false, false, false, false] rfl rfl (any_of HT_.out (by kernel_rfl)) (fun _ _ _ h => h) (Or.inl ⟨by rfl, ?_⟩) ?_ ?_
                rotate_left
                ·intro w'
                 go_simp
                 with_reducible rfl
                rotate_left
                ·simp only [Act.put, List.setIfInBounds_toArray, List.set_cons_zero, List.set_cons_succ, i64_w, i32_w]
                 rfl
                refine pure_ (i := 6) (N := some 140) (v := ?_) (a' := ?_) #[true, true, true, true, true, true, true, false, false, false, false, false, false, false, false, false, false, false, false, false, false, false] rfl rfl (any_of HT_.out (by kernel_rfl)) (fun _ _ _ h => h) (Or.inl ⟨by rfl, ?_⟩) ?_ ?_
                rotate_left
                ·intro w'
                 go_simp
                 with_reducible rfl
                rotate_left
                ·simp only [Act.put, List.setIfInBounds_toArray, List.set_cons_zero, List.set_cons_succ, i64_w, i32_w]
                 rfl
                refine pure_ (i := 7) (N := some 141) (v := ?_) (a' := ?_) #[true, true, true, true, true, true, true, true, false, false, false, false, false, false, false, false, false, false, false, false, false, false] rfl rfl (any_of HT_.out (by kernel_rfl)) (fun _ _ _ h => h) (Or.inl ⟨by rfl, ?_⟩) ?_ ?_
                rotate_left
                ·intro w'
                 go_simp
                 with_reducible rfl
                rotate_left
                ·simp only [Act.put, List.setIfInBounds_toArray, List.set_cons_zero, List.set_cons_succ, i64_w, i32_w]
                 rfl
                refine pure_ (i := 8) (N := some 142) (v := ?_) (a' := ?_) #[true, true, true, true, true, true, true, true, true, false, false, false, false, false, false, false, false, false, false, false, false, false] rfl rfl (any_of HT_.out (by kernel_rfl)) (fun _ _ _ h => h) (Or.inl ⟨by rfl, ?_⟩) ?_ ?_
                rotate_left
                ·intro w'
                 go_simp
                 with_reducible rfl
                rotate_left
                ·simp only [Act.put, List.setIfInBounds_toArray, List.set_cons_zero, List.set_cons_succ, i64_w, i32_w]
                 rfl
                refine pure_ (i := 9) (N := some 143) (v := ?_) (a' := ?_) #[true, true, true, true, true, true, true, true, true, true, false, false, false, false, false, false, false, false, false, false, false, false] rfl rfl (any_of HT_.out (by kernel_rfl)) (fun _ _ _ h => h) (Or.inl ⟨by rfl, ?_⟩) ?_ ?_
                rotate_left
                ·intro w'
                 go_simp
                 with_reducible rfl
                rotate_left
                ·simp only [Act.put, List.setIfInBounds_toArray, List.set_cons_zero, List.set_cons_succ, i64_w, i32_w]
                 rfl
                refine pure_ (i := 11) (N := some 145) (v := ?_) (a' := ?_) #[true, true, true, true, true, true, true, true, true, true, false, true, false, false, false, false, false, false, false, false, false, false] rfl rfl (any_of HT_.out (by kernel_rfl)) (fun _ _ _ h => h) (Or.inl ⟨by rfl, ?_⟩) ?_ ?_
                rotate_left
                ·intro w'
                 go_simp
                 with_reducible rfl
                rotate_left
                ·simp only [Act.put, List.setIfInBounds_toArray, List.set_cons_zero, List.set_cons_succ, i64_w, i32_w]
                 rfl
                refine pure_ (i := 13) (N := some 147) (v := ?_) (a' := ?_) #[true, true, true, true, true, true, true, true, true, true, false, true, false, true, false, false, false, false, false, false, false, false] rfl rfl (any_of HT_.out (by kernel_rfl)) (fun _ _ _ h => h) (Or.inl ⟨by rfl, ?_⟩) ?_ ?_
                rotate_left
                ·intro w'
                 go_simp
                 with_reducible rfl
                rotate_left
                ·simp only [Act.put, List.setIfInBounds_toArray, List.set_cons_zero, List.set_cons_succ, i64_w, i32_w]
                 rfl
                refine take_ (i := 10) (N := some 144) (v := ?_) (a' := ?_) #[true, true, true, true, true, true, true, true, true, true, true, true, false, true, false, false, false, false, false, false, false, false] rfl rfl (take_ofW HT_.out HW_.out (by kernel_rfl)) (fun _ _ _ h => h) (Or.inl ⟨by rfl, ?_⟩) hHeld ?_ ?_
                rotate_left
                ·rintro w' ⟨s0, s1, s2, s3, s4, s5⟩
                 go_simp
                 with_reducible rfl
                rotate_left
                ·simp only [Act.put, List.setIfInBounds_toArray, List.set_cons_zero, List.set_cons_succ, i64_w, i32_w]
                 rfl
                refine take_ (i := 14) (N := some 148) (v := ?_) (a' := ?_) #[true, true, true, true, true, true, true, true, true, true, true, true, false, true, true, false, false, false, false, false, false, false] rfl rfl (take_ofW HT_.out HW_.out (by kernel_rfl)) (fun _ _ _ h => h) (Or.inl ⟨by rfl, ?_⟩) hHeld ?_ ?_
                rotate_left
                ·rintro w' ⟨s0, s1, s2, s3, s4, s5⟩
                 go_simp
                 with_reducible rfl
                rotate_left
                ·simp only [Act.put, List.setIfInBounds_toArray, List.set_cons_zero, List.set_cons_succ, i64_w, i32_w]
                 rfl
                refine one_ (i := 12) (N := some 146) #[true, true, true, true, true, true, true, true, true, true, true, true, true, true, true, false, false, false, false, false, false, false] rfl rfl (one_of HT_.out (by kernel_rfl)) (by decide) (fun K hK => ?_)
                refine goes_ Tryz.func18 (by kernel_rfl) rfl #[.slice Ao44 lq_t174.length co44, .string a3] (by rfl) rfl rfl (by (try simp only [List.map_toArray, List.map_cons, List.map_nil]); first | done | rfl | (simp only [List.length_drop, List.length_take]; rfl)) ?_
                with_reducible refine (laws_has.calls k4 _ _ lq_t174 a3 t188 _ ?side1 ?side2 A106.out).mono ?_
                (case side1 => repeat (first | exact (Kd.V_reads' HO_179002.out).2.2 | (with_reducible refine Kd.C_alloc ?_ _) | (with_reducible refine Kd.C_drewN ?_ _) | (with_reducible refine Kd.C_drew ?_)))
                (case side2 => exact (Kd.V_reads' HO_179002.out).2.1)
                rintro e w' ⟨rfl, ⟨nd, rfl⟩⟩
                refine ⟨_, rfl, ?_⟩
                refine hK.out _ _ ⟨(blk_cell BK164.out 0).trans rfl, (blk_cell BK164.out 1).trans rfl, (blk_cell BK164.out 2).trans rfl, (blk_cell BK178.out 0).trans rfl, (blk_cell BK178.out 1).trans rfl, (blk_cell BK178.out 2).trans rfl⟩ (fun hHeld => ?_)
                clear hK K
                refine norm_ (a' := ?_) ?_ ?_
                rotate_left
                ·show Act.put _ (some 146) _ = _
                 simp only [Act.put, List.setIfInBounds_toArray, List.set_cons_zero, List.set_cons_succ, i64_w, i32_w]
                 rfl
                refine pure_ (i := 15) (N := some 149) (v := ?_) (a' := ?_) #[true, true, true, true, true, true, true, true, true, true, true, true, true, true, true, true, false, false, false, false, false, false] rfl rfl (any_of HT_.out (by kernel_rfl)) (fun _ _ _ h => h) (Or.inl ⟨by rfl, ?_⟩) ?_ ?_
                rotate_left
                ·intro w'
                 go_simp
                 with_reducible rfl
                rotate_left
                ·simp only [Act.put, List.setIfInBounds_toArray, List.set_cons_zero, List.set_cons_succ, i64_w, i32_w]
                 rfl
                refine pure_ (i := 16) (N := some 150) (v := ?_) (a' := ?_) #[true, true, true, true, true, true, true, true, true, true, true, true, true, true, true, true, true, false, false, false, false, false] rfl rfl (any_of HT_.out (by kernel_rfl)) (fun _ _ _ h => h) (Or.inl ⟨by rfl, ?_⟩) ?_ ?_
                rotate_left
                ·intro w'
                 go_simp
                 with_reducible rfl
                rotate_left
                ·simp only [Act.put, List.setIfInBounds_toArray, List.set_cons_zero, List.set_cons_succ, i64_w, i32_w]
                 rfl
                refine pure_ (i := 17) (N := some 151) (v := ?_) (a' := ?_) #[true, true, true, true, true, true, true, true, true, true, true, true, true, true, true, true, true, true, false, false, false, false] rfl rfl (any_of HT_.out (by kernel_rfl)) (fun _ _ _ h => h) (Or.inl ⟨by rfl, ?_⟩) ?_ ?_
                rotate_left
                ·intro w'
                 go_simp
                 with_reducible rfl
                rotate_left
                ·simp only [Act.put, List.setIfInBounds_toArray, List.set_cons_zero, List.set_cons_succ, i64_w, i32_w]
                 rfl
                refine pure_ (i := 18) (N := some 152) (v := ?_) (a' := ?_) #[true, true, true, true, true, true, true, true, true, true, true, true, true, true, true, true, true, true, true, false, false, false] rfl rfl (any_of HT_.out (by kernel_rfl)) (fun _ _ _ h => h) (Or.inl ⟨by rfl, ?_⟩) ?_ ?_
                rotate_left
                ·intro w'
                 go_simp
                 with_reducible rfl
                rotate_left
                ·simp only [Act.put, List.setIfInBounds_toArray, List.set_cons_zero, List.set_cons_succ, i64_w, i32_w]
                 rfl
                refine one_ (i := 19) (N := some 153) #[true, true, true, true, true, true, true, true, true, true, true, true, true, true, true, true, true, true, true, true, false, false] rfl rfl (one_of HT_.out (by kernel_rfl)) (by decide) (fun K hK => ?_)
                refine goes_ Tryz.func12 (by kernel_rfl) rfl #[] (by rfl) rfl rfl (by (try simp only [List.map_toArray, List.map_cons, List.map_nil]); first | done | rfl | (simp only [List.length_drop, List.length_take]; rfl)) ?_
                with_reducible refine (laws_awakeRoles.calls k4  t189 _ A108.out).mono ?_
                rintro e w113 ⟨rfl, hb⟩
                refine ⟨_, rfl, ?_⟩
                have n0_ := Aside0.mk (Kd.R_below (by (with_reducible repeat (first | apply Kd.R_alloc | apply Kd.R_drewN | apply Kd.R_drew)); exact HO_11.out) hb)
                have n1_ := Aside0.mk (Kd.V_below (by (with_reducible repeat (first | apply Kd.V_alloc | apply Kd.V_drewN | apply Kd.V_drew)); exact HO_165002.out) hb)
                have n2_ := Aside0.mk (Kd.V_below (by (with_reducible repeat (first | apply Kd.V_alloc | apply Kd.V_drewN | apply Kd.V_drew)); exact HO_172002.out) hb)
                have n3_ := Aside0.mk (Kd.V_below (by (with_reducible repeat (first | apply Kd.V_alloc | apply Kd.V_drewN | apply Kd.V_drew)); exact HO_179002.out) hb)
                have n4_ := Aside0.mk (blk_below (g := gb164) (o := .cells #[.int .i64 t158, .bool t159, .slice Ao33 lq_t160.length co33] 40 (0, 0)) (by (with_reducible repeat (first | refine blk_drewN ?_ _ | refine blk_drew ?_ | refine blk_alloc ?_ _)); exact BK164.out) hb)
                have n5_ := Aside0.mk (blk_below (g := gb171) (o := .cells #[.int .i64 t165, .bool t166, .slice Ao38 lq_t167.length co38] 40 (0, 0)) (by (with_reducible repeat (first | refine blk_drewN ?_ _ | refine blk_drew ?_ | refine blk_alloc ?_ _)); exact BK171.out) hb)
                have n6_ := Aside0.mk (blk_below (g := gb178) (o := .cells #[.int .i64 t172, .bool t173, .slice Ao44 lq_t174.length co44] 40 (0, 0)) (by (with_reducible repeat (first | refine blk_drewN ?_ _ | refine blk_drew ?_ | refine blk_alloc ?_ _)); exact BK178.out) hb)
                have n7_ := Aside0.mk (below_step (by repeat (first | (with_reducible first | exact HB.out | apply below_alloc | apply pw_below_drewN | apply below_drew1 | refine below_set ?_ GE164.out | refine below_set ?_ GE171.out | refine below_set ?_ GE178.out) | exact HB.out)) hb)
                clear HO_11
                clear HO_165002
                clear HO_172002
                clear HO_179002
                clear BK164
                clear BK171
                clear BK178
                clear HB
                have HO_11 := n0_
                have HO_165002 := n1_
                have HO_172002 := n2_
                have HO_179002 := n3_
                have BK164 := n4_
                have BK171 := n5_
                have BK178 := n6_
                have HB := n7_
                clear n0_ n1_ n2_ n3_ n4_ n5_ n6_ n7_
                (try clear hb)
                (try clear hb2)
                (try clear hk)
                (try clear hi)
                refine hK.out _ _ ⟨(blk_cell BK164.out 0).trans rfl, (blk_cell BK164.out 1).trans rfl, (blk_cell BK164.out 2).trans rfl, (blk_cell BK178.out 0).trans rfl, (blk_cell BK178.out 1).trans rfl, (blk_cell BK178.out 2).trans rfl⟩ (fun hHeld => ?_)
                clear hK K
                refine norm_ (a' := ?_) ?_ ?_
                rotate_left
                ·show Act.put _ (some 153) _ = _
                 simp only [Act.put, List.setIfInBounds_toArray, List.set_cons_zero, List.set_cons_succ, i64_w, i32_w]
                 rfl
                refine pure_ (i := 20) (N := some 154) (v := ?_) (a' := ?_) #[true, true, true, true, true, true, true, true, true, true, true, true, true, true, true, true, true, true, true, true, true, false] rfl rfl (any_of HT_.out (by kernel_rfl)) (fun _ _ _ h => h) (Or.inl ⟨by rfl, ?_⟩) ?_ ?_
                rotate_left
                ·intro w'
                 go_simp
                 with_reducible rfl
                rotate_left
                ·simp only [Act.put, List.setIfInBounds_toArray, List.set_cons_zero, List.set_cons_succ, i64_w, i32_w]
                 rfl
                refine pure_ (i := 21) (N := some 10) (v := ?_) (a' := ?_) #[true, true, true, true, true, true, true, true, true, true, true, true, true, true, true, true, true, true, true, true, true, true] rfl rfl (any_of HT_.out (by kernel_rfl)) (fun _ _ _ h => h) (Or.inl ⟨by rfl, ?_⟩) ?_ ?_
                rotate_left
                ·intro w'
                 go_simp
                 with_reducible rfl
                rotate_left
                ·simp only [Act.put, List.setIfInBounds_toArray, List.set_cons_zero, List.set_cons_succ, i64_w, i32_w]
                 rfl
                refine done_ (done_of HT_.out (by kernel_rfl)) ?_
                try go_wp2
                go_ret
                exact ⟨by first | rfl | (simp [errW_none, errW_some] <;> rfl) | (simp [*, errW_none, errW_some] <;> rfl), by repeat (first | (with_reducible first | exact HB.out | apply below_alloc | apply pw_below_drewN | apply below_drew1 | refine below_set ?_ GE164.out | refine below_set ?_ GE171.out | refine below_set ?_ GE178.out) | exact HB.out)⟩
               ·rw [if_neg c107] at H
                have c107b0 : (t188 == t159) = false := by simpa using c107
                (try (have c107b1 : decide (t188 = t159) = false := by simpa using c107))
                (try (have c107b2 : (t188 == t159) = false := by simpa using c107))
                (try (have c107b3 : ¬ (t188 = t159) := by simpa using c107))
                clear c107
                obtain rfl := Option.some.inj H
                have hnb114 := NB171_164.out
                have hnc114 := NB164_171.out
                have hnb115 := NB171_178.out
                have hnc115 := NB178_171.out
                have hcz116_0 : wr.cell? ⟨gb171, 0, none⟩ = some (.int .i64 t165) := (blk_cell BK171.out 0).trans rfl
                have hcz116_1 : wr.cell? ⟨gb171, 1, none⟩ = some (.bool t166) := (blk_cell BK171.out 1).trans rfl
                have hcz116_2 : wr.cell? ⟨gb171, 2, none⟩ = some (.slice Ao38 lq_t167.length co38) := (blk_cell BK171.out 2).trans rfl
                have hfz116_0 := blk_frozen BK171.out 0
                have hfz116_1 := blk_frozen BK171.out 1
                have hfz116_2 := blk_frozen BK171.out 2
                try go_wp2
                have n0_ := Aside0.mk (Kd.R_drew HO_11.out)
                have n1_ := Aside0.mk (Kd.V_drew HO_165002.out)
                have n2_ := Aside0.mk (Kd.V_drew HO_172002.out)
                have n3_ := Aside0.mk (Kd.V_drew HO_179002.out)
                have n4_ := Aside0.mk (blk_drew BK164.out)
                have n5_ := Aside0.mk (blk_drew BK171.out)
                have n6_ := Aside0.mk (blk_drew BK178.out)
                have n7_ := Aside0.mk (below_drew1 HB.out)
                clear HO_11
                clear HO_165002
                clear HO_172002
                clear HO_179002
                clear BK164
                clear BK171
                clear BK178
                clear HB
                have HO_11 := n0_
                have HO_165002 := n1_
                have HO_172002 := n2_
                have HO_179002 := n3_
                have BK164 := n4_
                have BK171 := n5_
                have BK178 := n6_
                have HB := n7_
                clear n0_ n1_ n2_ n3_ n4_ n5_ n6_ n7_
                refine start_ (n := 22) (S := fun w' => w'.cell? ⟨gb164, 0, none⟩ = some (.int .i64 t158) ∧ w'.cell? ⟨gb164, 1, none⟩ = some (.bool t159) ∧ w'.cell? ⟨gb164, 2, none⟩ = some (.slice Ao33 lq_t160.length co33) ∧ w'.cell? ⟨gb178, 0, none⟩ = some (.int .i64 t172) ∧ w'.cell? ⟨gb178, 1, none⟩ = some (.bool t173) ∧ w'.cell? ⟨gb178, 2, none⟩ = some (.slice Ao44 lq_t174.length co44)) (ds := []) #[false, false, false, false, false, false, false, false, false, false, false, false, false, false, false, false, false, false, false, false, false, false] (by kernel_rfl) rfl rfl ⟨(blk_cell BK164.out 0).trans rfl, (blk_cell BK164.out 1).trans rfl, (blk_cell BK164.out 2).trans rfl, (blk_cell BK178.out 0).trans rfl, (blk_cell BK178.out 1).trans rfl, (blk_cell BK178.out 2).trans rfl⟩ (fun hHeld => ?_); refine with_tabW laws_FnRolesReach.tab19 laws_FnRolesReach.bits19 (fun HT_ HW_ => ?_)
                generalize wr.drew = w117 at HO_11 HO_165002 HO_172002 HO_179002 BK164 BK171 BK178 HB hHeld ⊢
                refine pure_ (i := 0) (N := some 134) (v := ?_) (a' := ?_) #[true, false, false, false, false, false, false, false, false, false, false, false, false, false, false, false, false, false, false, false, false, false] rfl rfl (any_of HT_.out (by kernel_rfl)) (fun _ _ _ h => h) (Or.inl ⟨by rfl, ?_⟩) ?_ ?_
                rotate_left
                ·intro w'
                 go_simp
                 with_reducible rfl
                rotate_left
                ·simp only [Act.put, List.setIfInBounds_toArray, List.set_cons_zero, List.set_cons_succ, i64_w, i32_w]
                 rfl
                refine pure_ (i := 2) (N := some 136) (v := ?_) (a' := ?_) #[true, false, true, false, false, false, false, false, false, false, false, false, false, false, false, false, false, false, false, false, false, false] rfl rfl (any_of HT_.out (by kernel_rfl)) (fun _ _ _ h => h) (Or.inl ⟨by rfl, ?_⟩) ?_ ?_
                rotate_left
                ·intro w'
                 go_simp
                 with_reducible rfl
                rotate_left
                ·simp only [Act.put, List.setIfInBounds_toArray, List.set_cons_zero, List.set_cons_succ, i64_w, i32_w]
                 rfl
                refine take_ (i := 1) (N := some 135) (v := ?_) (a' := ?_) #[true, true, true, false, false, false, false, false, false, false, false, false, false, false, false, false, false, false, false, false, false, false] rfl rfl (take_ofW HT_.out HW_.out (by kernel_rfl)) (fun _ _ _ h => h) (Or.inl ⟨by rfl, ?_⟩) hHeld ?_ ?_
                rotate_left
                ·rintro w' ⟨s0, s1, s2, s3, s4, s5⟩
                 go_simp
                 with_reducible rfl
                rotate_left
                ·simp only [Act.put, List.setIfInBounds_toArray, List.set_cons_zero, List.set_cons_succ, i64_w, i32_w]
                 rfl
                refine pure_ (i := 3) (N := some 137) (v := ?_) (a' := ?_) #[true, true, true, true, false, false, false, false, false, false, false, false, false, false, false, false, false, false, false, false, false, false] rfl rfl (any_of HT_.out (by kernel_rfl)) (fun _ _ _ h => h) (Or.inl ⟨by rfl, ?_⟩) ?_ ?_
                rotate_left
                ·intro w'
                 go_simp
                 with_reducible rfl
                rotate_left
                ·simp only [Act.put, List.setIfInBounds_toArray, List.set_cons_zero, List.set_cons_succ, i64_w, i32_w]
                 rfl
                refine pure_ (i := 4) (N := some 138) (v := ?_) (a' := ?_) #[true, true, true, true, true, false, false, false, false, false, false, false, false, false, false, false, false, false, false, false, false, false] rfl rfl (any_of HT_.out (by kernel_rfl)) (fun _ _ _ h => h) (Or.inl ⟨by rfl, ?_⟩) ?_ ?_
                rotate_left
                ·intro w'
                 go_simp
                 with_reducible rfl
                rotate_left
                ·simp only [Act.put, List.setIfInBounds_toArray, List.set_cons_zero, List.set_cons_succ, i64_w, i32_w]
                 rfl
                refine pure_ (i := 5) (N := some 139) (v := ?_) (a' := ?_) #[true, true, true, true, true, true, false, false, false, false, false, false, false, false, false, false, false, false, false, false, false, false] rfl rfl (any_of HT_.out (by kernel_rfl)) (fun _ _ _ h => h) (Or.inl ⟨by rfl, ?_⟩) ?_ ?_
                rotate_left
                ·intro w'
                 go_simp
                 with_reducible rfl
                rotate_left
                ·simp only [Act.put, List.setIfInBounds_toArray, List.set_cons_zero, List.set_cons_succ, i64_w, i32_w]
                 rfl
                refine pure_ (i := 6) (N := some 140) (v := ?_) (a' := ?_) #[true, true, true, true, true, true, true, false, false, false, false, false, false, false, false, false, false, false, false, false, false, false] rfl rfl (any_of HT_.out (by kernel_rfl)) (fun _ _ _ h => h) (Or.inl ⟨by rfl, ?_⟩) ?_ ?_
                rotate_left
                ·intro w'
                 go_simp
                 with_reducible rfl
                rotate_left
                ·simp only [Act.put, List.setIfInBounds_toArray, List.set_cons_zero, List.set_cons_succ, i64_w, i32_w]
                 rfl
                refine pure_ (i := 7) (N := some 141) (v := ?_) (a' := ?_) #[true, true, true, true, true, true, true, true, false, false, false, false, false, false, false, false, false, false, false, false, false, false] rfl rfl (any_of HT_.out (by kernel_rfl)) (fun _ _ _ h => h) (Or.inl ⟨by rfl, ?_⟩) ?_ ?_
                rotate_left
                ·intro w'
                 go_simp
                 with_reducible rfl
                rotate_left
                ·simp only [Act.put, List.setIfInBounds_toArray, List.set_cons_zero, List.set_cons_succ, i64_w, i32_w]
                 rfl
                refine pure_ (i := 8) (N := some 142) (v := ?_) (a' := ?_) #[true, true, true, true, true, true, true, true, true, false, false, false, false, false, false, false, false, false, false, false, false, false] rfl rfl (any_of HT_.out (by kernel_rfl)) (fun _ _ _ h => h) (Or.inl ⟨by rfl, ?_⟩) ?_ ?_
                rotate_left
                ·intro w'
                 go_simp
                 with_reducible rfl
                rotate_left
                ·simp only [Act.put, List.setIfInBounds_toArray, List.set_cons_zero, List.set_cons_succ, i64_w, i32_w]
                 rfl
                refine pure_ (i := 9) (N := some 143) (v := ?_) (a' := ?_) #[true, true, true, true, true, true, true, true, true, true, false, false, false, false, false, false, false, false, false, false, false, false] rfl rfl (any_of HT_.out (by kernel_rfl)) (fun _ _ _ h => h) (Or.inl ⟨by rfl, ?_⟩) ?_ ?_
                rotate_left
                ·intro w'
                 go_simp
                 with_reducible rfl
                rotate_left
                ·simp only [Act.put, List.setIfInBounds_toArray, List.set_cons_zero, List.set_cons_succ, i64_w, i32_w]
                 rfl
                refine pure_ (i := 11) (N := some 145) (v := ?_) (a' := ?_) #[true, true, true, true, true, true, true, true, true, true, false, true, false, false, false, false, false, false, false, false, false, false] rfl rfl (any_of HT_.out (by kernel_rfl)) (fun _ _ _ h => h) (Or.inl ⟨by rfl, ?_⟩) ?_ ?_
                rotate_left
                ·intro w'
                 go_simp
                 with_reducible rfl
                rotate_left
                ·simp only [Act.put, List.setIfInBounds_toArray, List.set_cons_zero, List.set_cons_succ, i64_w, i32_w]
                 rfl
                refine pure_ (i := 13) (N := some 147) (v := ?_) (a' := ?_) #[true, true, true, true, true, true, true, true, true, true, false, true, false, true, false, false, false, false, false, false, false, false] rfl rfl (any_of HT_.out (by kernel_rfl)) (fun _ _ _ h => h) (Or.inl ⟨by rfl, ?_⟩) ?_ ?_
                rotate_left
                ·intro w'
                 go_simp
                 with_reducible rfl
                rotate_left
                ·simp only [Act.put, List.setIfInBounds_toArray, List.set_cons_zero, List.set_cons_succ, i64_w, i32_w]
                 rfl
                refine take_ (i := 10) (N := some 144) (v := ?_) (a' := ?_) #[true, true, true, true, true, true, true, true, true, true, true, true, false, true, false, false, false, false, false, false, false, false] rfl rfl (take_ofW HT_.out HW_.out (by kernel_rfl)) (fun _ _ _ h => h) (Or.inl ⟨by rfl, ?_⟩) hHeld ?_ ?_
                rotate_left
                ·rintro w' ⟨s0, s1, s2, s3, s4, s5⟩
                 go_simp
                 with_reducible rfl
                rotate_left
                ·simp only [Act.put, List.setIfInBounds_toArray, List.set_cons_zero, List.set_cons_succ, i64_w, i32_w]
                 rfl
                refine take_ (i := 14) (N := some 148) (v := ?_) (a' := ?_) #[true, true, true, true, true, true, true, true, true, true, true, true, false, true, true, false, false, false, false, false, false, false] rfl rfl (take_ofW HT_.out HW_.out (by kernel_rfl)) (fun _ _ _ h => h) (Or.inl ⟨by rfl, ?_⟩) hHeld ?_ ?_
                rotate_left
                ·rintro w' ⟨s0, s1, s2, s3, s4, s5⟩
                 go_simp
                 with_reducible rfl
                rotate_left
                ·simp only [Act.put, List.setIfInBounds_toArray, List.set_cons_zero, List.set_cons_succ, i64_w, i32_w]
                 rfl
                refine one_ (i := 12) (N := some 146) #[true, true, true, true, true, true, true, true, true, true, true, true, true, true, true, false, false, false, false, false, false, false] rfl rfl (one_of HT_.out (by kernel_rfl)) (by decide) (fun K hK => ?_)
                refine goes_ Tryz.func18 (by kernel_rfl) rfl #[.slice Ao44 lq_t174.length co44, .string a3] (by rfl) rfl rfl (by (try simp only [List.map_toArray, List.map_cons, List.map_nil]); first | done | rfl | (simp only [List.length_drop, List.length_take]; rfl)) ?_
                with_reducible refine (laws_has.calls k4 _ _ lq_t174 a3 t188 _ ?side1 ?side2 A106.out).mono ?_
                (case side1 => repeat (first | exact (Kd.V_reads' HO_179002.out).2.2 | (with_reducible refine Kd.C_alloc ?_ _) | (with_reducible refine Kd.C_drewN ?_ _) | (with_reducible refine Kd.C_drew ?_)))
                (case side2 => exact (Kd.V_reads' HO_179002.out).2.1)
                rintro e w' ⟨rfl, ⟨nd, rfl⟩⟩
                refine ⟨_, rfl, ?_⟩
                refine hK.out _ _ ⟨(blk_cell BK164.out 0).trans rfl, (blk_cell BK164.out 1).trans rfl, (blk_cell BK164.out 2).trans rfl, (blk_cell BK178.out 0).trans rfl, (blk_cell BK178.out 1).trans rfl, (blk_cell BK178.out 2).trans rfl⟩ (fun hHeld => ?_)
                clear hK K
                refine norm_ (a' := ?_) ?_ ?_
                rotate_left
                ·show Act.put _ (some 146) _ = _
                 simp only [Act.put, List.setIfInBounds_toArray, List.set_cons_zero, List.set_cons_succ, i64_w, i32_w]
                 rfl
                refine pure_ (i := 15) (N := some 149) (v := ?_) (a' := ?_) #[true, true, true, true, true, true, true, true, true, true, true, true, true, true, true, true, false, false, false, false, false, false] rfl rfl (any_of HT_.out (by kernel_rfl)) (fun _ _ _ h => h) (Or.inl ⟨by rfl, ?_⟩) ?_ ?_
                rotate_left
                ·intro w'
                 go_simp
                 with_reducible rfl
                rotate_left
                ·simp only [Act.put, List.setIfInBounds_toArray, List.set_cons_zero, List.set_cons_succ, i64_w, i32_w]
                 rfl
                refine pure_ (i := 16) (N := some 150) (v := ?_) (a' := ?_) #[true, true, true, true, true, true, true, true, true, true, true, true, true, true, true, true, true, false, false, false, false, false] rfl rfl (any_of HT_.out (by kernel_rfl)) (fun _ _ _ h => h) (Or.inl ⟨by rfl, ?_⟩) ?_ ?_
                rotate_left
                ·intro w'
                 go_simp
                 with_reducible rfl
                rotate_left
                ·simp only [Act.put, List.setIfInBounds_toArray, List.set_cons_zero, List.set_cons_succ, i64_w, i32_w]
                 rfl
                refine pure_ (i := 17) (N := some 151) (v := ?_) (a' := ?_) #[true, true, true, true, true, true, true, true, true, true, true, true, true, true, true, true, true, true, false, false, false, false] rfl rfl (any_of HT_.out (by kernel_rfl)) (fun _ _ _ h => h) (Or.inl ⟨by rfl, ?_⟩) ?_ ?_
                rotate_left
                ·intro w'
                 go_simp
                 with_reducible rfl
                rotate_left
                ·simp only [Act.put, List.setIfInBounds_toArray, List.set_cons_zero, List.set_cons_succ, i64_w, i32_w]
                 rfl
                refine pure_ (i := 18) (N := some 152) (v := ?_) (a' := ?_) #[true, true, true, true, true, true, true, true, true, true, true, true, true, true, true, true, true, true, true, false, false, false] rfl rfl (any_of HT_.out (by kernel_rfl)) (fun _ _ _ h => h) (Or.inl ⟨by rfl, ?_⟩) ?_ ?_
                rotate_left
                ·intro w'
                 go_simp
                 with_reducible rfl
                rotate_left
                ·simp only [Act.put, List.setIfInBounds_toArray, List.set_cons_zero, List.set_cons_succ, i64_w, i32_w]
                 rfl
                refine pure_ (i := 19) (N := some 153) (v := undef) (a' := ?_) #[true, true, true, true, true, true, true, true, true, true, true, true, true, true, true, true, true, true, true, true, false, false] rfl rfl (any_of HT_.out (by kernel_rfl)) (fun _ _ _ h => h) (Or.inr ⟨by rfl, rfl⟩) ?_ ?_
                rotate_left
                ·simp only [Act.put, List.setIfInBounds_toArray, List.set_cons_zero, List.set_cons_succ, i64_w, i32_w]
                 rfl
                refine pure_ (i := 20) (N := some 154) (v := ?_) (a' := ?_) #[true, true, true, true, true, true, true, true, true, true, true, true, true, true, true, true, true, true, true, true, true, false] rfl rfl (any_of HT_.out (by kernel_rfl)) (fun _ _ _ h => h) (Or.inl ⟨by rfl, ?_⟩) ?_ ?_
                rotate_left
                ·intro w'
                 go_simp
                 with_reducible rfl
                rotate_left
                ·simp only [Act.put, List.setIfInBounds_toArray, List.set_cons_zero, List.set_cons_succ, i64_w, i32_w]
                 rfl
                refine pure_ (i := 21) (N := some 10) (v := ?_) (a' := ?_) #[true, true, true, true, true, true, true, true, true, true, true, true, true, true, true, true, true, true, true, true, true, true] rfl rfl (any_of HT_.out (by kernel_rfl)) (fun _ _ _ h => h) (Or.inl ⟨by rfl, ?_⟩) ?_ ?_
                rotate_left
                ·intro w'
                 go_simp
                 with_reducible rfl
                rotate_left
                ·simp only [Act.put, List.setIfInBounds_toArray, List.set_cons_zero, List.set_cons_succ, i64_w, i32_w]
                 rfl
                refine done_ (done_of HT_.out (by kernel_rfl)) ?_
                try go_wp2
                go_ret
                exact ⟨by first | rfl | (simp [errW_none, errW_some] <;> rfl) | (simp [*, errW_none, errW_some] <;> rfl), by repeat (first | (with_reducible first | exact HB.out | apply below_alloc | apply pw_below_drewN | apply below_drew1 | refine below_set ?_ GE164.out | refine below_set ?_ GE171.out | refine below_set ?_ GE178.out) | exact HB.out)⟩
             ·rw [if_neg c98] at H
              have c98b0 : (t159 == x18_4) = false := by simpa using c98
              (try (have c98b1 : decide (t159 = x18_4) = false := by simpa using c98))
              (try (have c98b2 : (t159 == x18_4) = false := by simpa using c98))
              (try (have c98b3 : ¬ (t159 = x18_4) := by simpa using c98))
              clear c98
              obtain rfl := Option.some.inj H
              have hnb118 := NB171_164.out
              have hnc118 := NB164_171.out
              have hnb119 := NB171_178.out
              have hnc119 := NB178_171.out
              have hcz120_0 : wr.cell? ⟨gb171, 0, none⟩ = some (.int .i64 t165) := (blk_cell BK171.out 0).trans rfl
              have hcz120_1 : wr.cell? ⟨gb171, 1, none⟩ = some (.bool t166) := (blk_cell BK171.out 1).trans rfl
              have hcz120_2 : wr.cell? ⟨gb171, 2, none⟩ = some (.slice Ao38 lq_t167.length co38) := (blk_cell BK171.out 2).trans rfl
              have hfz120_0 := blk_frozen BK171.out 0
              have hfz120_1 := blk_frozen BK171.out 1
              have hfz120_2 := blk_frozen BK171.out 2
              try go_wp2
              have n0_ := Aside0.mk (Kd.R_drew HO_11.out)
              have n1_ := Aside0.mk (Kd.V_drew HO_165002.out)
              have n2_ := Aside0.mk (Kd.V_drew HO_172002.out)
              have n3_ := Aside0.mk (Kd.V_drew HO_179002.out)
              have n4_ := Aside0.mk (blk_drew BK164.out)
              have n5_ := Aside0.mk (blk_drew BK171.out)
              have n6_ := Aside0.mk (blk_drew BK178.out)
              have n7_ := Aside0.mk (below_drew1 HB.out)
              clear HO_11
              clear HO_165002
              clear HO_172002
              clear HO_179002
              clear BK164
              clear BK171
              clear BK178
              clear HB
              have HO_11 := n0_
              have HO_165002 := n1_
              have HO_172002 := n2_
              have HO_179002 := n3_
              have BK164 := n4_
              have BK171 := n5_
              have BK178 := n6_
              have HB := n7_
              clear n0_ n1_ n2_ n3_ n4_ n5_ n6_ n7_
              refine start_ (n := 22) (S := fun w' => w'.cell? ⟨gb164, 0, none⟩ = some (.int .i64 t158) ∧ w'.cell? ⟨gb164, 1, none⟩ = some (.bool t159) ∧ w'.cell? ⟨gb164, 2, none⟩ = some (.slice Ao33 lq_t160.length co33)) (ds := []) #[false, false, false, false, false, false, false, false, false, false, false, false, false, false, false, false, false, false, false, false, false, false] (by kernel_rfl) rfl rfl ⟨(blk_cell BK164.out 0).trans rfl, (blk_cell BK164.out 1).trans rfl, (blk_cell BK164.out 2).trans rfl⟩ (fun hHeld => ?_); refine with_tabW laws_FnRolesReach.tab19 laws_FnRolesReach.bits19 (fun HT_ HW_ => ?_)
              generalize wr.drew = w121 at HO_11 HO_165002 HO_172002 HO_179002 BK164 BK171 BK178 HB hHeld ⊢
              refine pure_ (i := 0) (N := some 134) (v := ?_) (a' := ?_) #[true, false, false, false, false, false, false, false, false, false, false, false, false, false, false, false, false, false, false, false, false, false] rfl rfl (any_of HT_.out (by kernel_rfl)) (fun _ _ _ h => h) (Or.inl ⟨by rfl, ?_⟩) ?_ ?_
              rotate_left
              ·intro w'
               go_simp
               with_reducible rfl
              rotate_left
              ·simp only [Act.put, List.setIfInBounds_toArray, List.set_cons_zero, List.set_cons_succ, i64_w, i32_w]
               rfl
              refine pure_ (i := 2) (N := some 136) (v := ?_) (a' := ?_) #[true, false, true, false, false, false, false, false, false, false, false, false, false, false, false, false, false, false, false, false, false, false] rfl rfl (any_of HT_.out (by kernel_rfl)) (fun _ _ _ h => h) (Or.inl ⟨by rfl, ?_⟩) ?_ ?_
              rotate_left
              ·intro w'
               go_simp
               with_reducible rfl
              rotate_left
              ·simp only [Act.put, List.setIfInBounds_toArray, List.set_cons_zero, List.set_cons_succ, i64_w, i32_w]
               rfl
              refine take_ (i := 1) (N := some 135) (v := ?_) (a' := ?_) #[true, true, true, false, false, false, false, false, false, false, false, false, false, false, false, false, false, false, false, false, false, false] rfl rfl (take_ofW HT_.out HW_.out (by kernel_rfl)) (fun _ _ _ h => h) (Or.inl ⟨by rfl, ?_⟩) hHeld ?_ ?_
              rotate_left
              ·rintro w' ⟨s0, s1, s2⟩
               go_simp
               with_reducible rfl
              rotate_left
              ·simp only [Act.put, List.setIfInBounds_toArray, List.set_cons_zero, List.set_cons_succ, i64_w, i32_w]
               rfl
              refine pure_ (i := 3) (N := some 137) (v := ?_) (a' := ?_) #[true, true, true, true, false, false, false, false, false, false, false, false, false, false, false, false, false, false, false, false, false, false] rfl rfl (any_of HT_.out (by kernel_rfl)) (fun _ _ _ h => h) (Or.inl ⟨by rfl, ?_⟩) ?_ ?_
              rotate_left
              ·intro w'
               go_simp
               with_reducible rfl
              rotate_left
              ·simp only [Act.put, List.setIfInBounds_toArray, List.set_cons_zero, List.set_cons_succ, i64_w, i32_w]
               rfl
              refine pure_ (i := 4) (N := some 138) (v := ?_) (a' := ?_) #[true, true, true, true, true, false, false, false, false, false, false, false, false, false, false, false, false, false, false, false, false, false] rfl rfl (any_of HT_.out (by kernel_rfl)) (fun _ _ _ h => h) (Or.inl ⟨by rfl, ?_⟩) ?_ ?_
              rotate_left
              ·intro w'
               go_simp
               with_reducible rfl
              rotate_left
              ·simp only [Act.put, List.setIfInBounds_toArray, List.set_cons_zero, List.set_cons_succ, i64_w, i32_w]
               rfl
              refine pure_ (i := 5) (N := some 139) (v := undef) (a' := ?_) #[true, true, true, true, true, true, false, false, false, false, false, false, false, false, false, false, false, false, false, false, false, false] rfl rfl (any_of HT_.out (by kernel_rfl)) (fun _ _ _ h => h) (Or.inr ⟨by rfl, rfl⟩) ?_ ?_
              rotate_left
              ·simp only [Act.put, List.setIfInBounds_toArray, List.set_cons_zero, List.set_cons_succ, i64_w, i32_w]
               rfl
              refine pure_ (i := 6) (N := some 140) (v := undef) (a' := ?_) #[true, true, true, true, true, true, true, false, false, false, false, false, false, false, false, false, false, false, false, false, false, false] rfl rfl (any_of HT_.out (by kernel_rfl)) (fun _ _ _ h => h) (Or.inr ⟨by rfl, rfl⟩) ?_ ?_
              rotate_left
              ·simp only [Act.put, List.setIfInBounds_toArray, List.set_cons_zero, List.set_cons_succ, i64_w, i32_w]
               rfl
              refine pure_ (i := 7) (N := some 141) (v := undef) (a' := ?_) #[true, true, true, true, true, true, true, true, false, false, false, false, false, false, false, false, false, false, false, false, false, false] rfl rfl (any_of HT_.out (by kernel_rfl)) (fun _ _ _ h => h) (Or.inr ⟨by rfl, rfl⟩) ?_ ?_
              rotate_left
              ·simp only [Act.put, List.setIfInBounds_toArray, List.set_cons_zero, List.set_cons_succ, i64_w, i32_w]
               rfl
              refine pure_ (i := 8) (N := some 142) (v := undef) (a' := ?_) #[true, true, true, true, true, true, true, true, true, false, false, false, false, false, false, false, false, false, false, false, false, false] rfl rfl (any_of HT_.out (by kernel_rfl)) (fun _ _ _ h => h) (Or.inr ⟨by rfl, rfl⟩) ?_ ?_
              rotate_left
              ·simp only [Act.put, List.setIfInBounds_toArray, List.set_cons_zero, List.set_cons_succ, i64_w, i32_w]
               rfl
              refine pure_ (i := 9) (N := some 143) (v := undef) (a' := ?_) #[true, true, true, true, true, true, true, true, true, true, false, false, false, false, false, false, false, false, false, false, false, false] rfl rfl (any_of HT_.out (by kernel_rfl)) (fun _ _ _ h => h) (Or.inr ⟨by rfl, rfl⟩) ?_ ?_
              rotate_left
              ·simp only [Act.put, List.setIfInBounds_toArray, List.set_cons_zero, List.set_cons_succ, i64_w, i32_w]
               rfl
              refine pure_ (i := 10) (N := some 144) (v := undef) (a' := ?_) #[true, true, true, true, true, true, true, true, true, true, true, false, false, false, false, false, false, false, false, false, false, false] rfl rfl (any_of HT_.out (by kernel_rfl)) (fun _ _ _ h => h) (Or.inr ⟨by rfl, rfl⟩) ?_ ?_
              rotate_left
              ·simp only [Act.put, List.setIfInBounds_toArray, List.set_cons_zero, List.set_cons_succ, i64_w, i32_w]
               rfl
              refine pure_ (i := 11) (N := some 145) (v := undef) (a' := ?_) #[true, true, true, true, true, true, true, true, true, true, true, true, false, false, false, false, false, false, false, false, false, false] rfl rfl (any_of HT_.out (by kernel_rfl)) (fun _ _ _ h => h) (Or.inr ⟨by rfl, rfl⟩) ?_ ?_
              rotate_left
              ·simp only [Act.put, List.setIfInBounds_toArray, List.set_cons_zero, List.set_cons_succ, i64_w, i32_w]
               rfl
              refine pure_ (i := 12) (N := some 146) (v := undef) (a' := ?_) #[true, true, true, true, true, true, true, true, true, true, true, true, true, false, false, false, false, false, false, false, false, false] rfl rfl (any_of HT_.out (by kernel_rfl)) (fun _ _ _ h => h) (Or.inr ⟨by rfl, rfl⟩) ?_ ?_
              rotate_left
              ·simp only [Act.put, List.setIfInBounds_toArray, List.set_cons_zero, List.set_cons_succ, i64_w, i32_w]
               rfl
              refine pure_ (i := 13) (N := some 147) (v := undef) (a' := ?_) #[true, true, true, true, true, true, true, true, true, true, true, true, true, true, false, false, false, false, false, false, false, false] rfl rfl (any_of HT_.out (by kernel_rfl)) (fun _ _ _ h => h) (Or.inr ⟨by rfl, rfl⟩) ?_ ?_
              rotate_left
              ·simp only [Act.put, List.setIfInBounds_toArray, List.set_cons_zero, List.set_cons_succ, i64_w, i32_w]
               rfl
              refine pure_ (i := 14) (N := some 148) (v := undef) (a' := ?_) #[true, true, true, true, true, true, true, true, true, true, true, true, true, true, true, false, false, false, false, false, false, false] rfl rfl (any_of HT_.out (by kernel_rfl)) (fun _ _ _ h => h) (Or.inr ⟨by rfl, rfl⟩) ?_ ?_
              rotate_left
              ·simp only [Act.put, List.setIfInBounds_toArray, List.set_cons_zero, List.set_cons_succ, i64_w, i32_w]
               rfl
              refine pure_ (i := 15) (N := some 149) (v := undef) (a' := ?_) #[true, true, true, true, true, true, true, true, true, true, true, true, true, true, true, true, false, false, false, false, false, false] rfl rfl (any_of HT_.out (by kernel_rfl)) (fun _ _ _ h => h) (Or.inr ⟨by rfl, rfl⟩) ?_ ?_
              rotate_left
              ·simp only [Act.put, List.setIfInBounds_toArray, List.set_cons_zero, List.set_cons_succ, i64_w, i32_w]
               rfl
              refine pure_ (i := 16) (N := some 150) (v := undef) (a' := ?_) #[true, true, true, true, true, true, true, true, true, true, true, true, true, true, true, true, true, false, false, false, false, false] rfl rfl (any_of HT_.out (by kernel_rfl)) (fun _ _ _ h => h) (Or.inr ⟨by rfl, rfl⟩) ?_ ?_
              rotate_left
              ·simp only [Act.put, List.setIfInBounds_toArray, List.set_cons_zero, List.set_cons_succ, i64_w, i32_w]
               rfl
              refine pure_ (i := 17) (N := some 151) (v := ?_) (a' := ?_) #[true, true, true, true, true, true, true, true, true, true, true, true, true, true, true, true, true, true, false, false, false, false] rfl rfl (any_of HT_.out (by kernel_rfl)) (fun _ _ _ h => h) (Or.inl ⟨by rfl, ?_⟩) ?_ ?_
              rotate_left
              ·intro w'
               go_simp
               with_reducible rfl
              rotate_left
              ·simp only [Act.put, List.setIfInBounds_toArray, List.set_cons_zero, List.set_cons_succ, i64_w, i32_w]
               rfl
              refine pure_ (i := 18) (N := some 152) (v := ?_) (a' := ?_) #[true, true, true, true, true, true, true, true, true, true, true, true, true, true, true, true, true, true, true, false, false, false] rfl rfl (any_of HT_.out (by kernel_rfl)) (fun _ _ _ h => h) (Or.inl ⟨by rfl, ?_⟩) ?_ ?_
              rotate_left
              ·intro w'
               go_simp
               with_reducible rfl
              rotate_left
              ·simp only [Act.put, List.setIfInBounds_toArray, List.set_cons_zero, List.set_cons_succ, i64_w, i32_w]
               rfl
              refine pure_ (i := 19) (N := some 153) (v := undef) (a' := ?_) #[true, true, true, true, true, true, true, true, true, true, true, true, true, true, true, true, true, true, true, true, false, false] rfl rfl (any_of HT_.out (by kernel_rfl)) (fun _ _ _ h => h) (Or.inr ⟨by rfl, rfl⟩) ?_ ?_
              rotate_left
              ·simp only [Act.put, List.setIfInBounds_toArray, List.set_cons_zero, List.set_cons_succ, i64_w, i32_w]
               rfl
              refine pure_ (i := 20) (N := some 154) (v := ?_) (a' := ?_) #[true, true, true, true, true, true, true, true, true, true, true, true, true, true, true, true, true, true, true, true, true, false] rfl rfl (any_of HT_.out (by kernel_rfl)) (fun _ _ _ h => h) (Or.inl ⟨by rfl, ?_⟩) ?_ ?_
              rotate_left
              ·intro w'
               go_simp
               with_reducible rfl
              rotate_left
              ·simp only [Act.put, List.setIfInBounds_toArray, List.set_cons_zero, List.set_cons_succ, i64_w, i32_w]
               rfl
              refine pure_ (i := 21) (N := some 10) (v := ?_) (a' := ?_) #[true, true, true, true, true, true, true, true, true, true, true, true, true, true, true, true, true, true, true, true, true, true] rfl rfl (any_of HT_.out (by kernel_rfl)) (fun _ _ _ h => h) (Or.inl ⟨by rfl, ?_⟩) ?_ ?_
              rotate_left
              ·intro w'
               go_simp
               with_reducible rfl
              rotate_left
              ·simp only [Act.put, List.setIfInBounds_toArray, List.set_cons_zero, List.set_cons_succ, i64_w, i32_w]
               rfl
              refine done_ (done_of HT_.out (by kernel_rfl)) ?_
              try go_wp2
              go_ret
              exact ⟨by first | rfl | (simp [errW_none, errW_some] <;> rfl) | (simp [*, errW_none, errW_some] <;> rfl), by repeat (first | (with_reducible first | exact HB.out | apply below_alloc | apply pw_below_drewN | apply below_drew1 | refine below_set ?_ GE164.out | refine below_set ?_ GE171.out | refine below_set ?_ GE178.out) | exact HB.out)⟩

end Go.Proofs.YtjijaciaioieaaaGreat.PFnRolesOrder
