/- The machine side of laws.FnRolesOrder: impl.Roles. Each theorem says its own conditions. -/
import Derived.Test.YtjijaciaioieaaaGreatOFnRolesOrderx84
import Derived.StillTailTactics
import Derived.Handy
import Derived.MapKept
import Derived.Maps.RangeRun
import Derived.OneCell
import Derived.LoopN
import Derived.Maps.OwnSet
import Derived.Maps.AppendAt
import Derived.Defers
import Derived.Conc.MuLone
import Derived.Conc.MuLib
namespace Go.Proofs.YtjijaciaioieaaaGreat.PFnRolesOrder
open Go.RowKit Go.Proofs.YtjijaciaioieaaaGreatW.PrintWords Go.Proofs.YtjijaciaioieaaaGreatW.PrintLast Go.Proofs.YtjijaciaioieaaaGreatW.PrintMore
set_option linter.unusedVariables false
set_option linter.unusedSimpArgs false
/-! impl.Roles: what it answers, in plain words, and that it does. -/
section
open Go.Proofs
def deedsE (b : Bool) : (ByteArray → Edges) → List S54 → ByteArray → Edges
 | Ef, [] => Ef
 | Ef, d :: l => deedsE b (deedE Ef d.f0 d.f1.f0 d.f1.f1 (kd b d.f1.f2)) l
theorem deedsE_snoc (b : Bool) : ∀ (l : List S54) (Ef : ByteArray → Edges) (d : S54), deedsE b Ef (l ++ [d]) = deedE (deedsE b Ef l) d.f0 d.f1.f0 d.f1.f1 (kd b d.f1.f2)
 | [], _, _ => rfl
 | x :: l, Ef, d => deedsE_snoc b l _ d
def deedsK (b : Bool) : List ByteArray → List S54 → List ByteArray
 | K, [] => K
 | K, d :: l => deedsK b (addK K (kd b d.f1.f2)) l
theorem deedsK_snoc (b : Bool) : ∀ (l : List S54) (K : List ByteArray) (d : S54), deedsK b K (l ++ [d]) = addK (deedsK b K l) (kd b d.f1.f2)
 | [], _, _ => rfl
 | x :: l, K, d => deedsK_snoc b l _ d
theorem addK_few (K : List ByteArray) (k : ByteArray) : (addK K k).length ≤ K.length + 1 := by
 unfold addK
 split
 ·omega
 ·simp
theorem deedsK_few (b : Bool) : ∀ (l : List S54) (K : List ByteArray), (deedsK b K l).length ≤ K.length + l.length
 | [], K => Nat.le_refl _
 | x :: l, K => by
  have h1 := deedsK_few b l (addK K (kd b x.f1.f2))
  have h2 := addK_few K (kd b x.f1.f2)
  show (deedsK b (addK K (kd b x.f1.f2)) l).length ≤ _
  rw [List.length_cons]
  omega
def ansR (max : Int) (b : Bool) (Ef : ByteArray → Edges) (q : S44) : S40 :=
 if q.f0 = 0 then ⟨0, hasF (rolesE (Ef (kd b q.f3))) q.f2 max.toNat [q.f1], []⟩
 else if q.f0 = 1 then ⟨0, false, rolesE (Ef (kd b q.f3)) q.f1⟩
 else if q.f0 = 2 then ⟨0, false, usersE (Ef (kd b q.f3)) q.f1⟩
 else if q.f0 = 3 then ⟨0, false, impl (rolesE (Ef (kd b q.f3))) max.toNat q.f1⟩
 else ⟨0, false, impl (usersE (Ef (kd b q.f3))) max.toNat q.f1⟩
def ansQ (max : Int) (b : Bool) (Ef : ByteArray → Edges) (K : List ByteArray) (q : S44) : S40 := if q.f0 = 5 then ⟨0, false, K.filter fun k => occ (Ef k) q.f1⟩ else ansR max b Ef q
def okDeed (d : S54) : Bool := (decide (d.f0 = 0) || decide (d.f0 = 1)) && decide (d.f1.f0.size ≤ 2147483647) && decide (d.f1.f1.size ≤ 2147483647)
def okAsk (q : S44) : Bool := decide (0 ≤ q.f0) && decide (q.f0 ≤ 4)
def okAsk5 (b : Bool) (q : S44) : Bool := okAsk q || (b && decide (q.f0 = 5))
theorem ansQ_few {max : Int} {b : Bool} {Ef : ByteArray → Edges} {K : List ByteArray} {q : S44} (h : okAsk q = true) : ansQ max b Ef K q = ansR max b Ef q := by
 unfold okAsk at h
 rw [Bool.and_eq_true, decide_eq_true_iff, decide_eq_true_iff] at h
 unfold ansQ
 rw [if_neg (by omega)]
def impl_Roles.f (_k : Nat) (a0 : Int) (a1 : Bool) (a2 a3 : Int) (l4 : List S54) (l5 : List S44) : Option (List Int × List S40) :=
 if (decide (0 ≤ a0) && decide (a0 ≤ 1000000) && decide (a2 = 0) && decide (a3 = 0) && decide (l4.length ≤ 100000) && decide (l5.length ≤ 100000) && l4.all okDeed && l5.all (okAsk5 a1)) = true then
  some (l4.map fun _ => 0, l5.map (ansQ a0 a1 (deedsE a1 (fun _ => []) l4) (deedsK a1 [] l4)))
 else none
theorem impl_Roles.mono (a0 : Int) (a1 : Bool) (a2 a3 : Int) (l4 : List S54) (l5 : List S44) (k : Nat) : LeO (impl_Roles.f k a0 a1 a2 a3 l4 l5) (impl_Roles.f (k + 1) a0 a1 a2 a3 l4 l5) := fun _ h => h
structure OkLinks (n : Nat) (Ef : ByteArray → Edges) : Prop where
 nd : ∀ k, (Ef k).Nodup
 few : ∀ k, (Ef k).length ≤ n
 sz : ∀ k, ∀ e ∈ Ef k, e.1.size ≤ 2147483647 ∧ e.2.size ≤ 2147483647
theorem OkLinks.eok {n : Nat} {Ef : ByteArray → Edges} (h : OkLinks n Ef) (hn : n ≤ 1000000) (k : ByteArray) : EOk (Ef k) :=
 ⟨h.nd k, Nat.le_trans (h.few k) hn, fun e he => ⟨Nat.le_trans (h.sz k e he).1 (by unfold maxLen; omega), Nat.le_trans (h.sz k e he).2 (by unfold maxLen; omega)⟩⟩
theorem OkLinks.deed {n : Nat} {Ef : ByteArray → Edges} (h : OkLinks n Ef) (op : Int) {u r : ByteArray} (k : ByteArray) (hu : u.size ≤ 2147483647) (hr : r.size ≤ 2147483647) : OkLinks (n + 1) (deedE Ef op u r k) := by
 refine ⟨fun j => deedE_nodup h.nd op u r k j, fun j => ?_, fun j e he => ?_⟩
 ·unfold deedE
  split
  ·split
   ·have := addE_length (Ef k) u r; have := h.few k; omega
   ·have := delE_length (Ef k) u r; have := h.few k; omega
  ·have := h.few j; omega
 ·rw [deedE_mem] at he
  split at he
  ·rcases he with he | ⟨_, rfl⟩
   ·exact h.sz j e he
   ·exact ⟨hu, hr⟩
  ·exact h.sz j e he.1
theorem OkLinks.deeds (b : Bool) : ∀ (l : List S54) {n : Nat} {Ef : ByteArray → Edges}, OkLinks n Ef → l.all okDeed = true → OkLinks (n + l.length) (deedsE b Ef l)
 | [], _, _, h, _ => h
 | d :: l, n, Ef, h, ha => by
  rw [List.all_cons, Bool.and_eq_true] at ha
  have hd := ha.1
  unfold okDeed at hd
  rw [Bool.and_eq_true, Bool.and_eq_true, decide_eq_true_iff, decide_eq_true_iff] at hd
  have := OkLinks.deeds b l (h.deed d.f0 (kd b d.f1.f2) hd.1.2 hd.2) ha.2
  rw [List.length_cons, Nat.add_comm l.length 1, ← Nat.add_assoc]
  exact this
theorem okLinks0 : OkLinks 0 (fun _ => []) := ⟨fun _ => List.nodup_nil, fun _ => Nat.le_refl _, fun _ e he => by cases he⟩
/-- answers whose names may stand in any order -/
def ToldR (x y : S40) : Prop := x.f0 = y.f0 ∧ x.f1 = y.f1 ∧ x.f2.Perm y.f2
def ToldL : List S40 → List S40 → Prop
 | [], [] => True
 | x :: l, y :: m => ToldR x y ∧ ToldL l m
 | _, _ => False
theorem ToldL.len : ∀ {l m : List S40}, ToldL l m → l.length = m.length
 | [], [], _ => rfl
 | _ :: _, _ :: _, h => congrArg (· + 1) h.2.len
 | [], _ :: _, h => h.elim
 | _ :: _, [], h => h.elim
theorem ToldL.snoc {x y : S40} (hx : ToldR x y) : ∀ {l m : List S40}, ToldL l m → ToldL (l ++ [x]) (m ++ [y])
 | [], [], _ => ⟨hx, trivial⟩
 | _ :: _, _ :: _, h => ⟨h.1, h.2.snoc hx⟩
 | [], _ :: _, h => h.elim
 | _ :: _, [], h => h.elim
theorem ToldL.at : ∀ {l m : List S40}, ToldL l m → ∀ i, ToldR (l.getD i z40) (m.getD i z40)
 | [], [], _, _ => ⟨rfl, rfl, List.Perm.refl _⟩
 | _ :: _, _ :: _, h, 0 => h.1
 | _ :: _, _ :: _, h, i + 1 => by simpa using h.2.at i
 | [], _ :: _, h, _ => h.elim
 | _ :: _, [], h, _ => h.elim
/-- a manager lies as it lay where its blocks do -/
theorem Mgr.keep {K : List ByteArray} {w w' : World} {v : Value} {max : Int} {Ef : ByteArray → Edges} {S : Nat → Prop} {b : Bool} (h : Mgr K w v max Ef S b) (hk : ∀ k, S k → w'.heap[k]? = w.heap[k]?) : Mgr K w' v max Ef S b := by
 cases b with
 | false =>
  obtain ⟨F, p, s, c, m, L, rfl, hM, hR, hG, hS⟩ := h
  exact ⟨F, p, s, c, m, L, rfl, fun k t pc hq => (hM k t pc hq).keep (hk k ((hS k).2 (by rw [hq]; exact Option.some_ne_none _))), hR, hG, hS⟩
 | true =>
  obtain ⟨F, d, s, c, m, D, rfl, hD, hE, hS, hK⟩ := h
  exact ⟨F, d, s, c, m, D, rfl, ⟨fun k t pc hq => (hD.mem k t pc hq).keep (hk k ((hS k).2 (.inl (by rw [hq]; exact Option.some_ne_none _)))), hD.dm, fun x hx => ⟨fun k t pc hq => ((hD.each x hx).mem k t pc hq).keep (hk k ((hS k).2 (.inr ⟨x, hx, by rw [hq]; exact Option.some_ne_none _⟩))), (hD.each x hx).rm, (hD.each x hx).gr⟩, hD.names, hD.dis, hD.own⟩, hE, hS, hK⟩
/-- without the blocks that are rows of texts (none is a manager's) -/
def thinF (F : Fp) : Fp := fun k => match F k with
 | some (t, .cells cs ty) => if ty = 9 then none else some (t, .cells cs ty)
 | x => x
theorem thinF_cells {F : Fp} {k : Nat} {t : Tag} {cs : Array Value} {ty : TypeId} (h : F k = some (t, .cells cs ty)) (hty : ty ≠ 9) : thinF F k = some (t, .cells cs ty) := by
 unfold thinF; rw [h]; exact if_neg hty
theorem thinF_map {F : Fp} {k : Nat} {t : Tag} {e : Ents} (h : F k = some (t, .map e)) : thinF F k = some (t, .map e) := by
 unfold thinF; rw [h]
theorem thinF_of {F : Fp} {k : Nat} {z : Tag × Piece} (h : thinF F k = some z) : F k = some z := by
 unfold thinF at h
 split at h
 ·rename_i t cs ty he
  split at h
  ·cases h
  ·rw [he]; exact h
 ·exact h
theorem thinF_ne {F : Fp} {k : Nat} (h : thinF F k ≠ none) : F k ≠ none := by
 cases hq : thinF F k with
 | none => exact absurd hq h
 | some z => rw [thinF_of hq]; exact Option.some_ne_none _
theorem thinF_no {w : World} {F : Fp} (hM : Mem w F) {k : Nat} (h : thinF F k ≠ none) : ¬ ∃ cells, w.heap[k]? = some (.cells cells 9 (0, 0)) := by
 rintro ⟨cells, hc⟩
 cases hq : thinF F k with
 | none => exact h hq
 | some z =>
  obtain ⟨t, pc⟩ := z
  have hf := thinF_of hq
  have hh := hM k t pc hf
  cases pc with
  | cells cs ty =>
   have hh : w.heap[k]? = some (.cells cs ty (0, 0)) := hh
   rw [hh] at hc
   injection hc with hc
   injection hc with _ h2 _
   unfold thinF at hq
   rw [hf] at hq
   dsimp only at hq
   rw [if_pos h2] at hq
   cases hq
  | map e =>
   obtain ⟨es, cc, hh, _⟩ := (show KM KY w k e from hh)
   rw [hh] at hc
   cases hc
theorem thinF_mem {w : World} {F : Fp} (hM : Mem w F) : Mem w (thinF F) := fun k t pc hq => hM k t pc (thinF_of hq)
theorem MapF.thin {F : Fp} {t : Tag} {m : Option Nat} {e : Ents} (h : MapF F t m e) : MapF (thinF F) t m e := by
 cases m with
 | none => exact h
 | some b => exact thinF_map h
theorem RMF.thin {F : Fp} {p s c : Nat} {max : Int} {mc : List Value} {m : Option Nat} {L : List RoleB} (h : RMF F p s c max mc m L) : RMF (thinF F) p s c max mc m L :=
 ⟨thinF_cells h.p (by decide), thinF_cells h.s (by decide), h.m.thin, fun x hx => ⟨thinF_cells (h.roles x hx).a (by decide), thinF_cells (h.roles x hx).sr (by decide), thinF_cells (h.roles x hx).su (by decide), thinF_cells (h.roles x hx).sm (by decide), thinF_cells (h.roles x hx).sb (by decide), (h.roles x hx).mr.thin, (h.roles x hx).mu.thin⟩, h.names⟩
def thinD (x : DomB) : DomB := { x with F := thinF x.F }
theorem domE_thin : ∀ (D : List DomB) (k : ByteArray), domE (D.map thinD) k = domE D k
 | [], _ => rfl
 | x :: D, k => by
  show (if x.name = k then x.E else domE (D.map thinD) k) = _
  rw [domE_thin D k]; rfl
theorem DMS.thin {w : World} {F : Fp} {d s c : Nat} {max : Int} {m : Option Nat} {D : List DomB} (h : DMS w F d s c max m D) : DMS w (thinF F) d s c max m (D.map thinD) := by
 have hn : (D.map thinD).map (·.name) = D.map (·.name) := by rw [List.map_map]; rfl
 have he : entsM (D.map thinD) = entsM D := by unfold entsM; rw [List.map_map]; rfl
 refine ⟨thinF_mem h.mem, ⟨thinF_cells h.dm.d (by decide), thinF_cells h.dm.s (by decide), by rw [he]; exact h.dm.m.thin⟩, fun x hx => ?_, by rw [hn]; exact h.names, ?_, fun x hx k hk => ?_⟩
 ·obtain ⟨y, hy, rfl⟩ := List.mem_map.1 hx
  exact ⟨thinF_mem (h.each y hy).mem, (h.each y hy).rm.thin, (h.each y hy).gr⟩
 ·refine List.pairwise_map.2 (h.dis.imp (fun {x y} hxy k hk => ?_))
  have := hxy k (thinF_ne hk)
  cases hq : thinF y.F k with
  | none => exact hq
  | some z => rw [thinF_of hq] at this; cases this
 ·obtain ⟨y, hy, rfl⟩ := List.mem_map.1 hx
  have := h.own y hy k (thinF_ne hk)
  cases hq : thinF y.F k with
  | none => exact hq
  | some z => rw [thinF_of hq] at this; cases this
theorem Mgr.thin {K : List ByteArray} {w : World} {v : Value} {max : Int} {Ef : ByteArray → Edges} {S : Nat → Prop} {b : Bool} (h : Mgr K w v max Ef S b) : ∃ S', Mgr K w v max Ef S' b ∧ (∀ k, S' k → S k) ∧ ∀ k, S' k → ¬ ∃ cells, w.heap[k]? = some (.cells cells 9 (0, 0)) := by
 cases b with
 | false =>
  obtain ⟨F, p, s, c, m, L, rfl, hM, hR, hG, hS⟩ := h
  exact ⟨fun k => thinF F k ≠ none, ⟨thinF F, p, s, c, m, L, rfl, thinF_mem hM, hR.thin, hG, fun k => Iff.rfl⟩, fun k hk => (hS k).2 (thinF_ne hk), fun k hk => thinF_no hM hk⟩
 | true =>
  obtain ⟨F, d, s, c, m, D, rfl, hD, hE, hS, hK⟩ := h
  refine ⟨DMS.S (thinF F) (D.map thinD), ⟨thinF F, d, s, c, m, D.map thinD, rfl, hD.thin, fun k => by rw [domE_thin]; exact hE k, fun k => Iff.rfl, by rw [← hK, List.map_map]; rfl⟩, fun k hk => (hS k).2 ?_, fun k hk => ?_⟩
  ·rcases hk with hk | ⟨x, hx, hk⟩
   ·exact .inl (thinF_ne hk)
   ·obtain ⟨y, hy, rfl⟩ := List.mem_map.1 hx
    exact .inr ⟨y, hy, thinF_ne hk⟩
  ·rcases hk with hk | ⟨x, hx, hk⟩
   ·exact thinF_no hD.mem hk
   ·obtain ⟨y, hy, rfl⟩ := List.mem_map.1 hx
    exact thinF_no (hD.each y hy).mem hk
/-- any deed, any question -/
theorem deed_any {K : List ByteArray} {w : World} {v : Value} {max : Int} {Ef : ByteArray → Edges} {S : Nat → Prop} {b : Bool} (h : Mgr K w v max Ef S b) (d : S54) (hd : okDeed d = true) :
  Calls Tryz.prog 25 #[v, .bool b, .agg #[.int .i64 d.f0, .string d.f1.f0, .string d.f1.f1, .string d.f1.f2]] w fun e w' => e = .returned .nilIface ∧ MPost (addK K (kd b d.f1.f2)) w v max (deedE Ef d.f0 d.f1.f0 d.f1.f1 (kd b d.f1.f2)) S b w' := by
 unfold okDeed at hd
 rw [Bool.and_eq_true, Bool.and_eq_true, Bool.or_eq_true, decide_eq_true_iff, decide_eq_true_iff] at hd
 obtain ⟨f0, f1, f2, f3⟩ := d
 rcases hd.1.1 with e | e
 ·obtain rfl : f0 = 0 := e
  exact deed_add h f1 f2 f3
 ·obtain rfl : f0 = 1 := e
  exact deed_del h f1 f2 f3
theorem ask_any {K : List ByteArray} {w : World} {v : Value} {max : Int} {Ef : ByteArray → Edges} {S : Nat → Prop} {b : Bool} (hmax : 0 ≤ max ∧ max ≤ 1000000) (h : Mgr K w v max Ef S b) (q : S44) (hK : K.length ≤ 1000000) (hq : okAsk5 b q = true) (hE : ∀ k, EOk (Ef k)) :
  Calls Tryz.prog 26 #[v, .bool b, .agg #[.int .i64 q.f0, .string q.f1, .string q.f2, .string q.f3]] w fun e w' => ∃ v2 x, e = .returned (.agg #[.int .i64 x.f0, .bool x.f1, v2]) ∧ ToldR x (ansQ max b Ef K q) ∧ Kd.R Kd.string 9 w' w.heap.size (fun _ => True) v2 x.f2 ∧ MPost K w v max Ef S b w' := by
 by_cases h4 : okAsk q = true
 case neg =>
  unfold okAsk5 at hq
  rw [Bool.eq_false_iff.mpr h4, Bool.false_or, Bool.and_eq_true, decide_eq_true_iff] at hq
  obtain ⟨f0, n1, n2, dom⟩ := q
  obtain ⟨rfl, hq⟩ := hq
  obtain rfl : f0 = 5 := hq
  refine (ask_doms h n1 n2 dom hE hK).mono ?_
  rintro e w' ⟨v2, l, rfl, hl, hr, hp⟩
  exact ⟨v2, ⟨0, false, l⟩, rfl, ⟨rfl, rfl, hl⟩, hr, hp⟩
 rw [ansQ_few h4]
 have hq := h4
 unfold okAsk at hq
 rw [Bool.and_eq_true, decide_eq_true_iff, decide_eq_true_iff] at hq
 obtain ⟨f0, n1, n2, dom⟩ := q
 rcases (show f0 = 0 ∨ f0 = 1 ∨ f0 = 2 ∨ f0 = 3 ∨ f0 = 4 from by have := hq.1; have := hq.2; dsimp only at *; omega) with rfl | rfl | rfl | rfl | rfl
 ·refine (ask_has hmax h n1 n2 dom (hE _)).mono ?_
  rintro e w' ⟨rfl, hp⟩
  exact ⟨_, ⟨0, hasF (rolesE (Ef (kd b dom))) n2 max.toNat [n1], []⟩, rfl, ⟨rfl, rfl, List.Perm.refl _⟩, Kd.R_nil _ _ _ _ _, hp⟩
 ·refine (ask_roles hmax h n1 n2 dom (hE _)).mono ?_
  rintro e w' ⟨v2, l, rfl, hl, hr, hp⟩
  exact ⟨v2, ⟨0, false, l⟩, rfl, ⟨rfl, rfl, hl⟩, hr, hp⟩
 ·refine (ask_users hmax h n1 n2 dom (hE _)).mono ?_
  rintro e w' ⟨v2, l, rfl, hl, hr, hp⟩
  exact ⟨v2, ⟨0, false, l⟩, rfl, ⟨rfl, rfl, hl⟩, hr, hp⟩
 ·refine (ask_imp_roles hmax h n1 n2 dom (hE _)).mono ?_
  rintro e w' ⟨v2, l, rfl, hl, hr, hp⟩
  exact ⟨v2, ⟨0, false, l⟩, rfl, ⟨rfl, rfl, hl⟩, hr, hp⟩
 ·refine (ask_imp_users hmax h n1 n2 dom (hE _)).mono ?_
  rintro e w' ⟨v2, l, rfl, hl, hr, hp⟩
  exact ⟨v2, ⟨0, false, l⟩, rfl, ⟨rfl, rfl, hl⟩, hr, hp⟩
end
/-! impl.Roles. -/
section
open Go.Proofs
variable {K : List ByteArray}
theorem infoN : (Tryz.prog.info? 3).map (fun i => (i.zero, i.size, i.bytes)) = some (some (.int .i64 0), 1, 8) := by kernel_rfl
theorem infoT40 : (Tryz.prog.info? 40).map (fun i => (i.zero, i.size, i.bytes)) = some (some (.agg #[.int .i64 0, .bool false, .slice none 0 0]), 3, 40) := by kernel_rfl
/-- a manager and the row of kinds, behind some deeds -/
structure RolesAt (K : List ByteArray) (w wr : World) (v : Value) (max : Int) (Ef : ByteArray → Edges) (b : Bool) (v12 : Value) (xs : List Int) (S : Nat → Prop) : Prop where
 m : Mgr K wr v max Ef S b
 s : ∀ k, S k → w.heap.size ≤ k
 r : Kd.R (Kd.int .i64) 3 wr w.heap.size (fun k => ¬ S k) v12 xs
 b : Below w.heap.size w wr
theorem RolesAt.deed {K' : List ByteArray} {w wr w' : World} {v v12 : Value} {max : Int} {Ef Ef' : ByteArray → Edges} {b : Bool} {xs : List Int} {S : Nat → Prop} (h : RolesAt K w wr v max Ef b v12 xs S) (hp : MPost K' wr v max Ef' S b w') : ∃ S', RolesAt K' w w' v max Ef' b v12 xs S' := by
 obtain ⟨S', h1, h2, h3⟩ := hp
 refine ⟨S', h1, fun k hk => (h2 k hk).elim (h.s k) (Nat.le_trans h.b.size), ?_, Turn.toBelow h.b h3 h.b.size h.s⟩
 exact Kd.R_mono (Kd.R_move (Kd.R_bound h.r) (fun k hk => h3.block k hk.2.2.1 hk.1)) (fun k hk hs => by
  rcases h2 k hs with g | g
  ·exact hk.1 g
  ·have := hk.2.2.1; omega)
theorem RolesAt.app {w W w1 : World} {v v12 v1 : Value} {max : Int} {Ef : ByteArray → Edges} {b : Bool} {xs ys : List Int} {S : Nat → Prop} (h : RolesAt K w W v max Ef b v12 xs S) (hr : Kd.R (Kd.int .i64) 3 w1 w.heap.size (fun k => ¬ S k) v1 ys) (hb : Below w.heap.size w w1) (hg : W.grownBy w1 v12.ownBlock) : RolesAt K w w1 v max Ef b v1 ys S :=
 ⟨h.m.keep (fun k hk => hg.block k (h.m.slt k hk) (fun e => h.r.1 k e.symm hk)), h.s, hr, hb⟩
/-- the row of answers beside them -/
structure ToldAt (K : List ByteArray) (w wr : World) (v : Value) (max : Int) (Ef : ByteArray → Edges) (b : Bool) (v12 : Value) (xs : List Int) (v13 : Value) (ys : List S40) (S : Nat → Prop) : Prop where
 m : Mgr K wr v max Ef S b
 s : ∀ k, S k → w.heap.size ≤ k
 r : Kd.R (Kd.int .i64) 3 wr w.heap.size (fun _ => True) v12 xs
 t : Kd.S k40 40 wr w.heap.size (fun k => ¬ S k ∧ some k ≠ v12.ownBlock) v13 ys
 b : Below w.heap.size w wr
 d : ∀ k, v12.ownBlock = some k → ¬ S k
theorem RolesAt.told {w wr : World} {v v12 : Value} {max : Int} {Ef : ByteArray → Edges} {b : Bool} {xs : List Int} {S : Nat → Prop} (h : RolesAt K w wr v max Ef b v12 xs S) : ToldAt K w wr v max Ef b v12 xs (.slice none 0 0) [] S :=
 ⟨h.m, h.s, Kd.R_mono h.r (fun _ _ => trivial), Kd.S_nil _ _ _ _ _, h.b, h.r.1⟩
/-- behind a question: the manager, the rows, and the names that were told -/
structure AskedAt (K : List ByteArray) (w wr W : World) (v : Value) (max : Int) (Ef : ByteArray → Edges) (b : Bool) (v12 : Value) (xs : List Int) (v13 : Value) (ys : List S40) (S : Nat → Prop) (x : S40) (v2 : Value) : Prop where
 m : Mgr K W v max Ef S b
 s : ∀ k, S k → w.heap.size ≤ k
 r : Kd.R (Kd.int .i64) 3 W w.heap.size (fun k => k < wr.heap.size) v12 xs
 t : Kd.S k40 40 W w.heap.size (fun k => (¬ S k ∧ some k ≠ v12.ownBlock) ∧ k < wr.heap.size) v13 ys
 b : Below w.heap.size w W
 z : wr.heap.size ≤ W.heap.size
 d : ∀ k, v12.ownBlock = some k → ¬ S k
 n : Kd.R Kd.string 9 W w.heap.size (fun k => wr.heap.size ≤ k ∧ ¬ S k) v2 x.f2
theorem ToldAt.ask {w wr W : World} {v v12 v13 v2 : Value} {max : Int} {Ef : ByteArray → Edges} {b : Bool} {xs : List Int} {ys : List S40} {S : Nat → Prop} (h : ToldAt K w wr v max Ef b v12 xs v13 ys S) {x : S40} (hn : Kd.R Kd.string 9 W wr.heap.size (fun _ => True) v2 x.f2) (hp : MPost K wr v max Ef S b W) : ∃ S', AskedAt K w wr W v max Ef b v12 xs v13 ys S' x v2 := by
 obtain ⟨S1, h1, h2, h3⟩ := hp
 obtain ⟨S', g1, g2, g3⟩ := h1.thin
 have old : ∀ k, ¬ S k → k < wr.heap.size → ¬ S' k := fun k hk hlt hs => by
  rcases h2 k (g2 k hs) with g | g
  ·exact hk g
  ·omega
 have row : ∀ k, v12.ownBlock = some k → k < wr.heap.size := fun k hk => Kd.R_lt h.r k hk
 refine ⟨S', g1, fun k hk => (h2 k (g2 k hk)).elim (h.s k) (Nat.le_trans h.b.size), ?_, ?_, Turn.toBelow h.b h3 h.b.size h.s, h3.size, fun k hk => old k (h.d k hk) (row k hk), ?_⟩
 ·have hr : Kd.R (Kd.int .i64) 3 wr w.heap.size (fun k => v12.ownBlock = some k ∧ k < wr.heap.size) v12 xs := Kd.R_mono (Kd.R_bound (Kd.R_tight rfl h.r)) (fun k hk => ⟨hk.1.symm, hk.2.2.1⟩)
  exact Kd.R_mono (Kd.R_move hr (fun k hk => h3.block k hk.2 (h.d k hk.1))) (fun k hk => hk.2)
 ·exact Kd.S_mono (Kd.S_move (Kd.S_bound h.t) (fun k hk => h3.block k hk.2.2.1 hk.1.1)) (fun k hk => ⟨⟨old k hk.1.1 hk.2.2.1, hk.1.2⟩, hk.2.2.1⟩)
 ·exact Kd.R_lower (Kd.R_mono (Kd.R_bound hn) (fun k hk => ⟨hk.2.1, fun hs => by
   obtain ⟨_, _, _, q, hq, hc⟩ := hk
   obtain rfl : q = 9 := by
    rcases List.mem_cons.1 hq with g | g
    ·exact g
    ·cases g
   exact g3 k hs hc⟩)) h.b.size
theorem AskedAt.app {w wr W w1 : World} {v v12 v13 v2 v1 : Value} {max : Int} {Ef : ByteArray → Edges} {b : Bool} {xs : List Int} {ys : List S40} {S : Nat → Prop} {x : S40} (h : AskedAt K w wr W v max Ef b v12 xs v13 ys S x v2) (ht : Kd.S k40 40 w1 w.heap.size (fun k => ¬ S k ∧ some k ≠ v12.ownBlock) v1 (ys ++ [x])) (hb : Below w.heap.size w w1) (hg : W.grownBy w1 v13.ownBlock) : ToldAt K w w1 v max Ef b v12 xs v1 (ys ++ [x]) S := by
 have hne : ∀ k, v13.ownBlock = some k → ¬ S k ∧ some k ≠ v12.ownBlock := fun k hk => by
  obtain ⟨f, hf, _⟩ := h.t
  exact (hf k hk).1
 refine ⟨h.m.keep (fun k hk => hg.block k (h.m.slt k hk) (fun e => (hne k e.symm).1 hk)), h.s, ?_, ht, hb, h.d⟩
 have hr : Kd.R (Kd.int .i64) 3 W w.heap.size (fun k => v12.ownBlock = some k ∧ k < W.heap.size) v12 xs := Kd.R_mono (Kd.R_bound (Kd.R_tight rfl h.r)) (fun k hk => ⟨hk.1.symm, hk.2.2.1⟩)
 exact Kd.R_mono (Kd.R_move hr (fun k hk => hg.block k hk.2 (fun e => (hne k e.symm).2 hk.1.symm))) (fun _ _ => trivial)
theorem AskedAt.new {w wr W : World} {v v12 v13 v2 : Value} {max : Int} {Ef : ByteArray → Edges} {b : Bool} {xs : List Int} {ys : List S40} {S : Nat → Prop} {x : S40} (h : AskedAt K w wr W v max Ef b v12 xs v13 ys S x v2) : ∀ k, (wr.heap.size ≤ k ∧ ¬ S k) → (¬ S k ∧ some k ≠ v12.ownBlock) ∧ some k ≠ v13.ownBlock := fun k hk => ⟨⟨hk.2, fun e => by have := h.r.1 k e.symm; omega⟩, fun e => by
 obtain ⟨f, hf, _⟩ := h.t
 have := (hf k e.symm).2
 omega⟩
theorem AskedAt.fresh {w wr W : World} {v v12 v13 v2 : Value} {max : Int} {Ef : ByteArray → Edges} {b : Bool} {xs : List Int} {ys : List S40} {S : Nat → Prop} {x : S40} (h : AskedAt K w wr W v max Ef b v12 xs v13 ys S x v2) : ∀ k, W.heap.size ≤ k → ¬ S k ∧ some k ≠ v12.ownBlock := fun k hk => ⟨fun hs => by have := h.m.slt k hs; omega, fun e => by have := h.r.1 k e.symm; have := h.z; omega⟩
theorem AskedAt.row {w wr W : World} {v v12 v13 v2 : Value} {max : Int} {Ef : ByteArray → Edges} {b : Bool} {xs : List Int} {ys : List S40} {S : Nat → Prop} {x : S40} (h : AskedAt K w wr W v max Ef b v12 xs v13 ys S x v2) : Kd.S k40 40 W w.heap.size (fun k => (¬ S k ∧ some k ≠ v12.ownBlock) ∧ ¬ (wr.heap.size ≤ k ∧ ¬ S k)) v13 ys := Kd.S_mono h.t (fun k hk => ⟨hk.1, fun g => by have := hk.2; omega⟩)
set_option maxHeartbeats 8000000 in
set_option maxRecDepth 100000 in
theorem impl_Roles.calls (k : Nat) (a0 : Int) (a1 : Bool) (a2 a3 : Int) (A4 : Option Addr) (c4 : Nat) (l4 : List S54) (A5 : Option Addr) (c5 : Nat) (l5 : List S44) (r0 : List Int) (r1 : List S40) (w : World) (hr4 : Kd.C k54 w A4 l4.length l4) (hc4 : l4.length ≤ c4) (hr5 : Kd.C k44 w A5 l5.length l5) (hc5 : l5.length ≤ c5) (h : impl_Roles.f k a0 a1 a2 a3 l4 l5 = some (r0, r1)) :
  Calls Tryz.prog 13 #[.int .i64 a0, .bool a1, .int .i64 a2, .int .i64 a3, .slice A4 l4.length c4, .slice A5 l5.length c5] w fun e w' => ∃ v0 v1, e = .returned (.tuple #[v0, v1]) ∧ Kd.R (Kd.int .i64) 3 w' w.heap.size (fun _ => True) v0 r0 ∧ (∃ l, ToldL l r1 ∧ Kd.S k40 40 w' w.heap.size (fun _ => True) v1 l) ∧ Below w.heap.size w w' := by
 unfold impl_Roles.f at h
 split at h
 case isFalse => cases h
 case isTrue hok =>
 injection h with h; injection h with h1 h2
 simp only [Bool.and_eq_true, decide_eq_true_iff] at hok
 obtain ⟨⟨⟨⟨⟨⟨⟨g0, g1⟩, rfl⟩, rfl⟩, g4⟩, g5⟩, hd⟩, ha⟩ := hok
 have HMX := Aside0.mk (And.intro g0 g1)
 have HD := Aside0.mk (List.all_eq_true.1 hd)
 have HA := Aside0.mk (List.all_eq_true.1 ha)
 have HOK := Aside0.mk ((okLinks0.deeds a1 l4 hd).eok (by omega))
 have HR4 := Aside0.mk hr4
 have HR5 := Aside0.mk hr5
 have H1 := Aside0.mk h1
 have H2 := Aside0.mk h2
 have G4 := Aside0.mk g4
 have HKK := Aside0.mk (show (deedsK a1 [] l4).length ≤ 1000000 from by have := deedsK_few a1 l4 []; simp at this; omega)
 have G5 := Aside0.mk g5
 clear g0 g1 hd ha hr4 hr5 h1 h2 g4 g5 hc4 hc5
 have hu33 := Tryz.underlying33
 have hu35 := Tryz.underlying35
 have hu54 := Tryz.underlying54
 have hu44 := Tryz.underlying44
 have hu40 := Tryz.underlying40
 go_enter Tryz.func13, Tryz.ntmps13
 go_wp2_with (go_at_call 23; refine (impl_made a0 a1 w).mono ?_; rintro e w1 ⟨v, S, rfl, hm, hs, hb⟩; have HL := Aside0.mk (RolesAt.mk (v12 := .slice none 0 0) (xs := []) hm hs (Kd.R_nil _ _ _ _ _) hb); clear hm hs hb)
 go_loopw [12, 15] (fun v12 v15 wr => ∃ (j : Nat) (S : Nat → Prop), v15 = .int .i64 (j : Int) ∧ j ≤ l4.length ∧ Aside0 (RolesAt (deedsK a1 [] (l4.take j)) w wr v a0 (deedsE a1 (fun _ => []) (l4.take j)) a1 v12 (List.replicate j 0) S))
  (fun _ v15 _ => l4.length - (intOf v15).toNat)
 case atStart => exact ⟨0, S, rfl, Nat.zero_le _, HL⟩
 case round =>
  clear HL
  obtain ⟨j, S, rfl, hj, HL⟩ := hrel
  by_cases hlt : j < l4.length
  ·obtain ⟨ad, e1, hx0, hx1, hx2, hx3⟩ := at_T54 (Kd.C_below HR4.out HL.out.b) (j : Int) (by omega) (by omega)
   cases e1
   have hrd : rd_T54 l4 (j : Int) = l4[j] := by simp [rd_T54, List.getD_eq_getElem?_getD, List.getElem?_eq_getElem hlt]
   rw [hrd, show ((j : Int)).toNat = j from by omega] at hx0 hx1 hx2 hx3
   clear hrd
   have HDJ := Aside0.mk (HD.out l4[j] (List.getElem_mem hlt))
   have HTK := Aside0.mk (show deedsE a1 (fun _ => []) (l4.take (j + 1)) = deedE (deedsE a1 (fun _ => []) (l4.take j)) l4[j].f0 l4[j].f1.f0 l4[j].f1.f1 (kd a1 l4[j].f1.f2) from by rw [List.take_add_one, List.getElem?_eq_getElem hlt, Option.toList_some, deedsE_snoc])
   have HTKK := Aside0.mk (show deedsK a1 [] (l4.take (j + 1)) = addK (deedsK a1 [] (l4.take j)) (kd a1 l4[j].f1.f2) from by rw [List.take_add_one, List.getElem?_eq_getElem hlt, Option.toList_some, deedsK_snoc])
   obtain ⟨x, hx⟩ : ∃ x, x = l4[j] := ⟨_, rfl⟩
   rw [← hx] at hx0 hx1 hx2 hx3 HDJ HTK HTKK
   clear hx
   have hj1 : 0 ≤ (j : Int) := by omega
   have hj2 : (j : Int) < (l4.length : Int) := by omega
   go_wp2_with (first
    | ((with_reducible refine gate_callee (f := 25) rfl ?_); refine goesL_ _ rfl rfl Tryz.func25 (by kernel_rfl) rfl #[v, .bool a1, .agg #[.int .i64 x.f0, .string x.f1.f0, .string x.f1.f1, .string x.f1.f2]] rfl (by (try simp only [List.map_toArray, List.map_cons, List.map_nil]); first | done | rfl) ?_; (with_reducible refine (deed_any HL.out.m x HDJ.out).mono ?_); rintro e w2 ⟨rfl, hp⟩; obtain ⟨S2, hl2⟩ := HL.out.deed hp; have HL2 := Aside0.mk hl2; clear hp hl2; refine ⟨_, rfl, ?_⟩)
    | (go_at_call 24; refine (one_nil _).mono ?_; rintro e w' ⟨rfl, rfl⟩)
    | ((with_reducible refine gate_builtin (b := .append) (xs := #[.tmp 28, .tmp 37]) rfl ?_); at_builtin; refine Kd.R_append (Kd.int .i64) (w0 := w) w.heap.size rfl (.tmp 28) (.tmp 37) 29 3 (.int .i64 0) 8 rfl Tryz.underlying29 infoN rfl (by decide) (by omega) u12 (List.replicate j 0) 0 [.int .i64 0] (fun k => ¬ S2 k) (fun _ => False) rfl ?aX ?aP (fun _ hk => hk.elim) ?aF HL2.out.r HL2.out.b ?aS ?aL ?_; (case aX => rfl); (case aP => exact rfl); (case aF => exact (fun k hk hs => by have := HL2.out.m.slt k hs; omega)); (case aS => exact HL2.out.b.size); (case aL => have := G4.out; rw [List.length_replicate]; omega); intro v1 w3 ho hb hg hat; have HL3 := Aside0.mk (HL2.out.app ho hb hg); clear ho hb hg hat))
   go_roundw
   case rel => exact ⟨j + 1, S2, by have := G4.out; rw [posw (by omega) (by omega)]; simp, by omega, ⟨by rw [HTK.out, HTKK.out, List.replicate_succ']; exact HL3.out⟩⟩
   case measure =>
    have := G4.out
    rw [posw (by omega) (by omega)]
    simp only [intOf]
    omega
  ·obtain rfl : j = l4.length := by omega
   rw [List.take_length] at HL
   have HT := Aside0.mk HL.out.told
   clear HL
   obtain ⟨wq, hwq⟩ : ∃ x, x = wr := ⟨wr, rfl⟩
   subst hwq
   obtain ⟨v12, hv12⟩ : ∃ y, y = u12 := ⟨_, rfl⟩
   subst hv12
   go_wp2
   go_loopw [13, 16] (fun v13 v16 wr => ∃ (j : Nat) (S : Nat → Prop) (ys : List S40), v16 = .int .i64 (j : Int) ∧ j ≤ l5.length ∧ Aside0 (ToldAt (deedsK a1 [] l4) w wr v a0 (deedsE a1 (fun _ => []) l4) a1 v12 (List.replicate l4.length 0) v13 ys S) ∧ Aside0 (ToldL ys ((l5.take j).map (ansQ a0 a1 (deedsE a1 (fun _ => []) l4) (deedsK a1 [] l4)))))
    (fun _ v16 _ => l5.length - (intOf v16).toNat)
   case atStart => exact ⟨0, S, [], rfl, Nat.zero_le _, HT, ⟨trivial⟩⟩
   case round =>
    clear HT
    obtain ⟨j, S, ys, rfl, hj, HT, HY⟩ := hrel
    by_cases hlt : j < l5.length
    ·obtain ⟨ad, e1, hx0, hx1, hx2, hx3⟩ := at_T44 (Kd.C_below HR5.out HT.out.b) (j : Int) (by omega) (by omega)
     cases e1
     have hrd : rd_T44 l5 (j : Int) = l5[j] := by simp [rd_T44, List.getD_eq_getElem?_getD, List.getElem?_eq_getElem hlt]
     rw [hrd, show ((j : Int)).toNat = j from by omega] at hx0 hx1 hx2 hx3
     clear hrd
     have HAJ := Aside0.mk (HA.out l5[j] (List.getElem_mem hlt))
     have HTK := Aside0.mk (show (l5.take (j + 1)).map (ansQ a0 a1 (deedsE a1 (fun _ => []) l4) (deedsK a1 [] l4)) = (l5.take j).map (ansQ a0 a1 (deedsE a1 (fun _ => []) l4) (deedsK a1 [] l4)) ++ [ansQ a0 a1 (deedsE a1 (fun _ => []) l4) (deedsK a1 [] l4) l5[j]] from by rw [List.take_add_one, List.getElem?_eq_getElem hlt, Option.toList_some, List.map_append]; rfl)
     obtain ⟨q, hq⟩ : ∃ q, q = l5[j] := ⟨_, rfl⟩
     rw [← hq] at hx0 hx1 hx2 hx3 HAJ HTK
     clear hq
     have hj1 : 0 ≤ (j : Int) := by omega
     have hj2 : (j : Int) < (l5.length : Int) := by omega
     have HYL := Aside0.mk (show ys.length = j from by rw [HY.out.len, List.length_map, List.length_take]; omega)
     go_wp2_with (first
      | ((with_reducible refine gate_callee (f := 26) rfl ?_); refine goesL_ _ rfl rfl Tryz.func26 (by kernel_rfl) rfl #[v, .bool a1, .agg #[.int .i64 q.f0, .string q.f1, .string q.f2, .string q.f3]] rfl (by (try simp only [List.map_toArray, List.map_cons, List.map_nil]); first | done | rfl) ?_; (with_reducible refine (ask_any HMX.out HT.out.m q HKK.out HAJ.out HOK.out).mono ?_); rintro e w2 ⟨v2, x, rfl, hx, hn, hp⟩; obtain ⟨S2, ha2⟩ := HT.out.ask hn hp; have HA2 := Aside0.mk ha2; have HX := Aside0.mk hx; clear hn hp ha2 hx; refine ⟨_, rfl, ?_⟩)
      | ((with_reducible refine gate_builtin (b := .append) (xs := #[.tmp 45, .tmp 53]) rfl ?_); at_builtin; refine Kd.S_append k40 (w0 := w) w.heap.size rfl (.tmp 45) (.tmp 53) 30 40 (.agg #[.int .i64 0, .bool false, .slice none 0 0]) 40 rfl Tryz.underlying30 infoT40 rfl (by decide) (by omega) u13 ys x [.int .i64 x.f0, .bool x.f1, v2] (fun k => ¬ S2 k ∧ some k ≠ v12.ownBlock) (fun k => wr.heap.size ≤ k ∧ ¬ S2 k) rfl ?aX (k40_mkM _ _ _ x HA2.out.n) ?aK ?aF ?aO HA2.out.b HA2.out.b.size ?aL ?_; (case aX => rfl); (case aK => exact HA2.out.new); (case aF => exact HA2.out.fresh); (case aO => exact HA2.out.row); (case aL => have := G5.out; rw [HYL.out]; omega); intro v1 w3 ho hb hg hat; have HT3 := Aside0.mk (HA2.out.app ho hb hg); clear ho hb hg hat))
     go_roundw
     case rel => exact ⟨j + 1, S2, ys ++ [x], by have := G5.out; rw [posw (by omega) (by omega)]; simp, by omega, HT3, ⟨by rw [HTK.out]; exact HY.out.snoc HX.out⟩⟩
     case measure =>
      have := G5.out
      rw [posw (by omega) (by omega)]
      simp only [intOf]
      omega
    ·obtain rfl : j = l5.length := by omega
     rw [List.take_length, H2.out] at HY
     have HZ := Aside0.mk (show Kd.R (Kd.int .i64) 3 wr w.heap.size (fun _ => True) v12 r0 from by rw [← H1.out, List.map_const']; exact HT.out.r)
     go_wp2
     go_ret2
     exact ⟨_, _, rfl, HZ.out, ⟨ys, HY.out, Kd.S_mono HT.out.t (fun _ _ => trivial)⟩, HT.out.b⟩
end

end Go.Proofs.YtjijaciaioieaaaGreat.PFnRolesOrder
