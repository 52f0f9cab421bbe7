/- laws.FnRolesDomains. For all arguments: the law answers true (the plain statement that its printed walk asks for). No condition beyond the form's own sizes. -/
import Derived.Test.YtjijaciaioieaaaGreatOFnRolesDomainsx70
import Derived.Test.YtjijaciaioieaaaGreatBase
import Derived.Test.YtjijaciaioieaaaGreatOpens
set_option linter.unusedSimpArgs false
set_option linter.unusedVariables false
namespace Go.Proofs.YtjijaciaioieaaaGreat.Pure
open Go.RowKit Go.Proofs.YtjijaciaioieaaaGreat.PFnRolesOrder Go.Proofs.YtjijaciaioieaaaGreatW.PrintWords Go.Proofs.YtjijaciaioieaaaGreatW.PrintLast Go.Proofs.YtjijaciaioieaaaGreat.Base

/-! ### what a law over role managers asks of its arguments -/
/-- some truth is come to, and P holds where it is yes -/
def Has (P : Prop) (g : Nat → Option Bool) : Prop := ∃ b, Ev g b ∧ (b = true → P)
theorem Has.no {P : Prop} : Has P (fun _ => some false) := ⟨false, Ev.now _, fun h => by cases h⟩
theorem Has.yes {P : Prop} (h : P) : Has P (fun _ => some true) := ⟨true, Ev.now _, fun _ => h⟩
theorem Has.dec {P Q : Prop} [Decidable Q] (h : Q → P) : Has P (fun _ => some (decide Q)) := ⟨decide Q, Ev.now _, fun e => h (of_decide_eq_true e)⟩
theorem Has.ite {P c : Prop} [Decidable c] {f g : Nat → Option Bool} (h1 : c → Has P f) (h2 : ¬ c → Has P g) : Has P (fun n => if c then f n else g n) := by
 by_cases h : c
 ·obtain ⟨b, hb, hp⟩ := h1 h
  exact ⟨b, Ev.pos h hb, hp⟩
 ·obtain ⟨b, hb, hp⟩ := h2 h
  exact ⟨b, Ev.neg h hb, hp⟩
theorem Has.bind {P Q : Prop} {g : Nat → Option Bool} {f : Nat → Bool → Option Bool} (h : Has Q g) (k : ∀ b, (b = true → Q) → Has P (fun n => f n b)) : Has P (fun n => (g n).bind (f n)) := by
 obtain ⟨b, hb, hq⟩ := h
 obtain ⟨c, hc, hp⟩ := k b hq
 exact ⟨c, Ev.bind hb hc, hp⟩
theorem Has.step {P : Prop} {g f : Nat → Option Bool} (h : ∀ k, g (k + 1) = f k) (k : Has P f) : Has P g := by
 obtain ⟨b, hb, hp⟩ := k
 exact ⟨b, Ev.step h hb, hp⟩
theorem Has.mono {P Q : Prop} {g : Nat → Option Bool} (h : Has P g) (k : P → Q) : Has Q g := by
 obtain ⟨b, hb, hp⟩ := h
 exact ⟨b, hb, fun e => k (hp e)⟩
theorem fits25_l0 (l : List S28) (hl : l.length ≤ 9223372036854775807) : ∀ (m i : Nat), l.length - i = m → Has True (fun k => laws_zzFits25.l0 k l (l.length : Int) (i : Int)) := by
 intro m
 induction m with
 | zero => exact fun i hi => Has.step (fun _ => laws_zzFits25.l0.eq_2 _ _ _ _) (Has.ite (fun h => absurd h (by omega)) (fun _ => Has.yes trivial))
 | succ m ih =>
  intro i hi
  have h1 := ih (i + 1) (by omega)
  refine Has.step (fun _ => laws_zzFits25.l0.eq_2 _ _ _ _) (Has.ite (fun _ => Has.ite (fun _ => Has.ite (fun _ => ?_) (fun h => absurd (by omega) h)) (fun h => absurd (by omega) h)) (fun _ => Has.yes trivial))
  rw [w64 (by omega) (by omega)]
  refine Has.bind (P := True) (Q := True) ?_ (fun b _ => Has.ite (fun _ => h1) (fun _ => Has.no))
  unfold laws_zzFits26.f
  exact Has.ite (fun _ => Has.no) (fun _ => Has.ite (fun _ => Has.no) (fun _ => Has.ite (fun _ => Has.no) (fun _ => Has.yes trivial)))
theorem fits25 (l : List S28) (hl : l.length ≤ 9223372036854775807) : Has True (fun k => laws_zzFits25.f k l) := Has.ite (fun _ => Has.no) (fun _ => fits25_l0 l hl l.length 0 rfl)
theorem label_l0 (s : ByteArray) (hs : s.size ≤ 9223372036854775807) : ∀ (m i : Nat), s.size - i = m → Has (s.size ≤ 20) (fun k => spec_Label.l0 k s (i : Int)) := by
 intro m
 induction m with
 | zero => exact fun i hi => Has.step (fun _ => spec_Label.l0.eq_2 _ _ _) (Has.ite (fun h => absurd h (by omega)) (fun _ => Has.ite (fun _ => Has.no) (fun _ => Has.dec (fun h => by omega))))
 | succ m ih =>
  intro i hi
  have h1 := ih (i + 1) (by omega)
  refine Has.step (fun _ => spec_Label.l0.eq_2 _ _ _) (Has.ite (fun _ => Has.ite (fun _ => ?_) (fun h => absurd (by omega) h)) (fun h => absurd (by omega) h))
  rw [w64 (by omega) (by omega)]
  repeat' first
   | exact h1
   | exact Has.no
   | refine Has.ite (fun _ => ?_) (fun _ => ?_)
theorem label (s : ByteArray) (hs : s.size ≤ 9223372036854775807) : Has (s.size ≤ 20) (fun k => spec_Label.f k s) := label_l0 s hs s.size 0 rfl
/-- a link of words, with a domain if there are domains -/
structure OkL (b : Bool) (x : S28) : Prop where
 u : x.f0.size ≤ 20
 r : x.f1.size ≤ 20
 d : b = false → x.f2 = ByteArray.empty
/-- a link's texts are as long as a text may be -/
structure SzL (x : S28) : Prop where
 u : x.f0.size ≤ 9223372036854775807
 r : x.f1.size ≤ 9223372036854775807
 d : x.f2.size ≤ 9223372036854775807
theorem toList_nil {s : ByteArray} (h : s.toList = ([] : List UInt8)) : s = ByteArray.empty := (toList_iff s ByteArray.empty).1 (by rw [h]; simp [ByteArray.toList_eq])
theorem links_l0 (l : List S28) (b : Bool) (hl : l.length ≤ 16) (hs : ∀ x ∈ l, SzL x) (q : List S28) : ∀ p, l = p ++ q → Has (∀ x ∈ q, OkL b x) (fun k => laws_links.l0 k l b (p.length : Int)) := by
 induction q with
 | nil =>
  intro p hp
  have : l.length = p.length := by rw [hp]; simp
  exact Has.step (fun _ => laws_links.l0.eq_2 _ _ _ _) (Has.ite (fun h => absurd h (by omega)) (fun _ => Has.yes (fun x hx => by cases hx)))
 | cons c q ih =>
  intro p hp
  have hlen : l.length = p.length + (q.length + 1) := by rw [hp]; simp
  have hr : rd_T28 l (p.length : Int) = c := by rw [hp]; exact getD_mid _ p q c _ rfl
  have hc := hs c (by rw [hp]; simp)
  have h1 := ih (p ++ [c]) (by rw [hp]; simp)
  rw [show (((p ++ [c]).length : Nat) : Int) = (p.length : Int) + 1 by simp] at h1
  refine Has.step (fun _ => laws_links.l0.eq_2 _ _ _ _) (Has.ite (fun _ => Has.ite (fun _ => ?_) (fun h => absurd (by omega) h)) (fun h => absurd (by omega) h))
  rw [hr, w64 (by omega) (by omega)]
  refine Has.bind (label c.f0 hc.u) (fun b0 q0 => Has.ite (fun e0 => ?_) (fun _ => Has.no))
  refine Has.bind (label c.f1 hc.r) (fun b1 q1 => Has.ite (fun e1 => ?_) (fun _ => Has.no))
  refine Has.ite (fun eb => ?_) (fun eb => ?_)
  ·refine Has.bind (label c.f2 hc.d) (fun b2 _ => Has.ite (fun _ => ?_) (fun _ => Has.no))
   exact h1.mono (fun h x hx => by
    rcases List.mem_cons.1 hx with rfl | hx
    ·exact ⟨q0 e0, q1 e1, fun e => by rw [eb] at e; cases e⟩
    ·exact h x hx)
  ·refine Has.ite (fun e2 => ?_) (fun _ => Has.no)
   exact h1.mono (fun h x hx => by
    rcases List.mem_cons.1 hx with rfl | hx
    ·exact ⟨q0 e0, q1 e1, fun _ => toList_nil e2⟩
    ·exact h x hx)
theorem links_f (l : List S28) (b : Bool) (hs : ∀ x ∈ l, SzL x) : Has (l.length ≤ 16 ∧ ∀ x ∈ l, OkL b x) (fun k => laws_links.f k l b) :=
 Has.ite (fun _ => Has.no) (fun h => (links_l0 l b (by omega) hs l [] rfl).mono (fun g => ⟨by omega, g⟩))
theorem named_f (a b d : ByteArray) (m : Bool) (ha : a.size ≤ 9223372036854775807) (hb : b.size ≤ 9223372036854775807) (hd : d.size ≤ 9223372036854775807) : Has (a.size ≤ 20 ∧ b.size ≤ 20) (fun k => laws_named.f k a b d m) := by
 refine Has.bind (label a ha) (fun b0 q0 => Has.ite (fun e0 => ?_) (fun _ => Has.no))
 refine Has.bind (label b hb) (fun b1 q1 => Has.ite (fun e1 => ?_) (fun _ => Has.no))
 refine Has.ite (fun _ => ?_) (fun _ => ?_)
 ·exact Has.bind (label d hd) (fun b2 _ => Has.ite (fun _ => Has.yes ⟨q0 e0, q1 e1⟩) (fun _ => Has.no))
 ·exact ⟨_, Ev.now _, fun _ => ⟨q0 e0, q1 e1⟩⟩
/-- deeds that add links -/
def adds (l : List S28) : List S54 := l.map fun x => ⟨0, x⟩
theorem added_l0 (l : List S28) (hl : l.length ≤ 1000) (q : List S28) : ∀ p, l = p ++ q → Ev (fun k => laws_added.l0 k l (adds p) (p.length : Int)) (adds l) := by
 induction q with
 | nil =>
  intro p hp
  rw [List.append_nil] at hp
  subst hp
  exact Ev.step (fun _ => laws_added.l0.eq_2 _ _ _ _) (Ev.neg (by omega) (Ev.now _))
 | cons c q ih =>
  intro p hp
  have hlen : l.length = p.length + (q.length + 1) := by rw [hp]; simp
  have hr : rd_T28 l (p.length : Int) = c := by rw [hp]; exact getD_mid _ p q c _ rfl
  refine Ev.step (fun _ => laws_added.l0.eq_2 _ _ _ _) (Ev.pos (by omega) (Ev.pos (by omega) (Ev.pos (by unfold adds; rw [List.length_map]; omega) ?_)))
  rw [hr, w64 (by omega) (by omega)]
  have := ih (p ++ [c]) (by rw [hp]; simp)
  rw [show (((p ++ [c]).length : Nat) : Int) = (p.length : Int) + 1 by simp] at this
  unfold adds at this ⊢
  rw [List.map_append] at this
  exact this
theorem added_f (l : List S28) (hl : l.length ≤ 1000) : Ev (fun k => laws_added.f k l) (adds l) := added_l0 l hl l [] rfl
/-! ### what deeds leave, and what is answered -/
theorem adds_mem (b : Bool) : ∀ (l : List S28) (Ef : ByteArray → Edges) (j : ByteArray) (e : ByteArray × ByteArray), e ∈ deedsE b Ef (adds l) j ↔ e ∈ Ef j ∨ ∃ x ∈ l, kd b x.f2 = j ∧ e = (x.f0, x.f1)
 | [], Ef, j, e => by simp [adds, deedsE]
 | x :: l, Ef, j, e => by
  show e ∈ deedsE b (deedE Ef 0 x.f0 x.f1 (kd b x.f2)) (adds l) j ↔ _
  rw [adds_mem b l, deedE_mem, if_pos rfl]
  constructor
  ·rintro ((h | ⟨h1, h2⟩) | ⟨y, hy, h1, h2⟩)
   ·exact .inl h
   ·exact .inr ⟨x, List.mem_cons_self .., h1.symm, h2⟩
   ·exact .inr ⟨y, List.mem_cons_of_mem _ hy, h1, h2⟩
  ·rintro (h | ⟨y, hy, h1, h2⟩)
   ·exact .inl (.inl h)
   ·rcases List.mem_cons.1 hy with rfl | hy
    ·exact .inl (.inr ⟨h1.symm, h2⟩)
    ·exact .inr ⟨y, hy, h1, h2⟩
theorem deedsE_nodup (b : Bool) : ∀ (l : List S54) (Ef : ByteArray → Edges), (∀ j, (Ef j).Nodup) → ∀ j, (deedsE b Ef l j).Nodup
 | [], _, h, j => h j
 | d :: l, Ef, h, j => deedsE_nodup b l _ (fun i => deedE_nodup h d.f0 d.f1.f0 d.f1.f1 (kd b d.f1.f2) i) j
/-- the same links -/
def SameE (Ef Eg : ByteArray → Edges) (j : ByteArray) : Prop := (Ef j).Nodup ∧ (Eg j).Nodup ∧ ∀ e, e ∈ Ef j ↔ e ∈ Eg j
theorem rolesE_same {E G : Edges} (hE : E.Nodup) (hG : G.Nodup) (h : ∀ e, e ∈ E ↔ e ∈ G) (a : ByteArray) : (rolesE E a).Perm (rolesE G a) := perm_of_mem (rolesE_nodup hE a) (rolesE_nodup hG a) (fun x => by rw [rolesE_mem, rolesE_mem, h])
theorem usersE_same {E G : Edges} (hE : E.Nodup) (hG : G.Nodup) (h : ∀ e, e ∈ E ↔ e ∈ G) (a : ByteArray) : (usersE E a).Perm (usersE G a) := perm_of_mem (usersE_nodup hE a) (usersE_nodup hG a) (fun x => by rw [usersE_mem, usersE_mem, h])
theorem ansR_same (max : Int) (b : Bool) {Ef Eg : ByteArray → Edges} (q : S44) (h : SameE Ef Eg (kd b q.f3)) : ToldR (ansR max b Ef q) (ansR max b Eg q) := by
 obtain ⟨h1, h2, h3⟩ := h
 have hr : ∀ a x, x ∈ rolesE (Ef (kd b q.f3)) a ↔ x ∈ rolesE (Eg (kd b q.f3)) a := fun a x => by rw [rolesE_mem, rolesE_mem, h3]
 have hu : ∀ a x, x ∈ usersE (Ef (kd b q.f3)) a ↔ x ∈ usersE (Eg (kd b q.f3)) a := fun a x => by rw [usersE_mem, usersE_mem, h3]
 unfold ansR
 split
 ·exact ⟨rfl, hasF_same hr _ _ (fun _ => Iff.rfl), List.Perm.refl _⟩
 split
 ·exact ⟨rfl, rfl, rolesE_same h1 h2 h3 _⟩
 split
 ·exact ⟨rfl, rfl, usersE_same h1 h2 h3 _⟩
 split
 ·exact ⟨rfl, rfl, impl_same hr _ _⟩
 ·exact ⟨rfl, rfl, impl_same hu _ _⟩
theorem told_map {f g : S44 → S40} : ∀ {l : List S44}, (∀ q ∈ l, ToldR (f q) (g q)) → ToldL (l.map f) (l.map g)
 | [], _ => trivial
 | _ :: _, h => ⟨h _ (List.mem_cons_self ..), told_map (fun q hq => h q (List.mem_cons_of_mem _ hq))⟩
theorem told_refl : ∀ (l : List S40), ToldL l l
 | [] => trivial
 | _ :: l => ⟨⟨rfl, rfl, List.Perm.refl _⟩, told_refl l⟩
theorem rolesE_few (E : Edges) (a : ByteArray) : (rolesE E a).length ≤ E.length := by
 unfold rolesE
 rw [List.length_map]
 exact List.length_filter_le ..
theorem usersE_few (E : Edges) (a : ByteArray) : (usersE E a).length ≤ E.length := by
 unfold usersE
 rw [List.length_map]
 exact List.length_filter_le ..
theorem impl_few {nx : Nx} (T : List ByteArray) (hT : ∀ x y, y ∈ nx x → y ∈ T) (n : Nat) (a : ByteArray) : (impl nx n a).length ≤ T.length := by
 refine few_of_nodup _ T (impl_iff nx n a).1 (fun x hx => ?_)
 obtain ⟨hne, k, _, hr⟩ := ((impl_iff nx n a).2 x).1 hx
 cases k with
 | zero => exact absurd hr hne
 | succ k =>
  obtain ⟨y, _, hy⟩ := hr
  exact hT y x hy
theorem ansR_few (max : Int) (b : Bool) (Ef : ByteArray → Edges) (q : S44) : (ansR max b Ef q).f2.length ≤ (Ef (kd b q.f3)).length := by
 have hr : ∀ x y, y ∈ rolesE (Ef (kd b q.f3)) x → y ∈ (Ef (kd b q.f3)).map (·.2) := fun x y h => by
  rw [rolesE_mem] at h
  exact List.mem_map.2 ⟨_, h, rfl⟩
 have hu : ∀ x y, y ∈ usersE (Ef (kd b q.f3)) x → y ∈ (Ef (kd b q.f3)).map (·.1) := fun x y h => by
  rw [usersE_mem] at h
  exact List.mem_map.2 ⟨_, h, rfl⟩
 unfold ansR
 split
 ·exact Nat.zero_le _
 split
 ·exact rolesE_few _ _
 split
 ·exact usersE_few _ _
 split
 ·exact Nat.le_trans (impl_few _ hr _ _) (by rw [List.length_map]; exact Nat.le_refl _)
 ·exact Nat.le_trans (impl_few _ hu _ _) (by rw [List.length_map]; exact Nat.le_refl _)
/-! ### a role manager is asked -/
theorem okDeed_add {b : Bool} {x : S28} (h : OkL b x) : okDeed ⟨0, x⟩ = true := by
 unfold okDeed
 rw [Bool.and_eq_true, Bool.and_eq_true]
 exact ⟨⟨rfl, decide_eq_true (Nat.le_trans h.u (by omega))⟩, decide_eq_true (Nat.le_trans h.r (by omega))⟩
theorem adds_ok {b : Bool} {l : List S28} (h : ∀ x ∈ l, OkL b x) : (adds l).all okDeed = true := by
 rw [List.all_eq_true]
 intro d hd
 obtain ⟨x, hx, rfl⟩ := List.mem_map.1 hd
 exact okDeed_add (h x hx)
theorem roles_run (k : Nat) (max : Int) (b : Bool) (l : List S54) (q : List S44) (h0 : 0 ≤ max) (h1 : max ≤ 20) (hl : l.length ≤ 1000) (hq : q.length ≤ 1000) (hd : l.all okDeed = true) (ha : q.all okAsk = true) :
  impl_Roles.f k max b 0 0 l q = some (l.map fun _ => 0, q.map (ansR max b (deedsE b (fun _ => []) l))) := by
 have hA : ∀ x ∈ q, okAsk x = true := List.all_eq_true.1 ha
 unfold impl_Roles.f
 rw [if_pos]
 ·rw [List.map_congr_left (fun x hx => ansQ_few (hA x hx))]
 simp only [Bool.and_eq_true, decide_eq_true_iff]
 exact ⟨⟨⟨⟨⟨⟨⟨h0, by omega⟩, trivial⟩, trivial⟩, by omega⟩, by omega⟩, hd⟩, List.all_eq_true.2 (fun x hx => by unfold okAsk5; rw [hA x hx]; rfl)⟩
theorem links_few (b : Bool) (l : List S54) (hd : l.all okDeed = true) (j : ByteArray) : (deedsE b (fun _ => []) l j).length ≤ l.length := by
 have := (okLinks0.deeds b l hd).few j
 rwa [Nat.zero_add] at this
theorem awakeRoles : Ev (fun k => laws_awakeRoles.f k) true := Ev.of (k := 5) (fun k => laws_awakeRoles.mono k) (by decide +kernel)

theorem sameTold_self (l : List S40) (hl : l.length ≤ 1000) (hf : ∀ x ∈ l, x.f2.length ≤ 100000) : Ev (fun k => laws_sameTold.f k l l) true := by
 have go : ∀ (q p : List S40), l = p ++ q → Ev (fun k => laws_sameTold.l0 k l l (p.length : Int)) true := by
  intro q
  induction q with
  | nil =>
   intro p hp
   have : l.length = p.length := by rw [hp]; simp
   exact Ev.step (fun _ => laws_sameTold.l0.eq_2 _ _ _ _) (Ev.neg (by omega) (Ev.now _))
  | cons c q ih =>
   intro p hp
   have hlen : l.length = p.length + (q.length + 1) := by rw [hp]; simp
   have hr : rd_T40 l (p.length : Int) = c := by rw [hp]; exact getD_mid _ p q c _ rfl
   have hc := hf c (by rw [hp]; simp)
   refine Ev.step (fun _ => laws_sameTold.l0.eq_2 _ _ _ _) (Ev.pos (by omega) (Ev.pos (by omega) (Ev.pos (by omega) ?_)))
   rw [hr, w64 (by omega) (by omega)]
   refine Ev.neg (by simp) (Ev.neg (by simp) (Ev.bind (sameSet_any c.f2 c.f2 (by omega) (by omega)) ?_))
   rw [decide_eq_true (List.Perm.refl _)]
   refine Ev.pos rfl ?_
   have := ih (p ++ [c]) (by rw [hp]; simp)
   rw [show (((p ++ [c]).length : Nat) : Int) = (p.length : Int) + 1 by simp] at this
   exact this
 unfold laws_sameTold.f
 exact Ev.pos rfl (go l [] rfl)
theorem sameTold_same {l m : List S40} (h : ToldL m l) (hl : l.length ≤ 1000) (hf : ∀ x ∈ l, x.f2.length ≤ 100000) : Ev (fun k => laws_sameTold.f k l m) true := by
 obtain ⟨k, hk⟩ := (sameTold_self l hl hf).rounds
 obtain ⟨k', hk'⟩ := sameTold_told (told_refl l) h hk
 exact Ev.of (fun k => laws_sameTold.mono l m k) hk'

theorem okRun_adds {b : Bool} {l : List S28} (hl : l.length ≤ 1000) (h : ∀ x ∈ l, OkL b x) : okRun (adds l) = true := by
 unfold okRun
 rw [Bool.and_eq_true, decide_eq_true_iff]
 exact ⟨by unfold adds; rw [List.length_map]; omega, adds_ok h⟩
theorem hasF_reach (nx : Nx) (a b : ByteArray) (n : Nat) : hasF nx b n [a] = true ↔ ∃ k, k ≤ n ∧ Rch nx a k b := by
 rw [hasF_iff nx a b n 0 [a] (fun x => by rw [List.mem_singleton]; exact Iff.rfl)]
 simp

def ownL (l : List S28) (d : ByteArray) : List S28 := l.filter fun x => x.f2.toList == d.toList
theorem own_mem (l : List S28) (d : ByteArray) (x : S28) : x ∈ ownL l d ↔ x ∈ l ∧ x.f2 = d := by
 unfold ownL
 rw [List.mem_filter, beq_iff_eq, toList_iff]
theorem own_e (l : List S28) (d : ByteArray) (e : ByteArray × ByteArray) : e ∈ deedsE true (fun _ => []) (adds (ownL l d)) d ↔ e ∈ deedsE true (fun _ => []) (adds l) d := by
 rw [adds_mem, adds_mem]
 have : ∀ x : S28, (x ∈ ownL l d ∧ kd true x.f2 = d ∧ e = (x.f0, x.f1)) ↔ (x ∈ l ∧ kd true x.f2 = d ∧ e = (x.f0, x.f1)) := fun x => by
  rw [own_mem]
  show ((x ∈ l ∧ x.f2 = d) ∧ x.f2 = d ∧ _) ↔ (x ∈ l ∧ x.f2 = d ∧ _)
  exact ⟨fun h => ⟨h.1.1, h.2⟩, fun h => ⟨⟨h.1, h.2.1⟩, h.2⟩⟩
 simp only [this]
theorem e_mem (l : List S28) (d x y : ByteArray) : (x, y) ∈ deedsE true (fun _ => []) (adds l) d ↔ ∃ z ∈ ownL l d, z.f0 = x ∧ z.f1 = y := by
 rw [adds_mem]
 constructor
 ·rintro (h | ⟨z, hz, h1, h2⟩)
  ·cases h
  ·injection h2 with e1 e2
   exact ⟨z, (own_mem l d z).2 ⟨hz, h1⟩, e1.symm, e2.symm⟩
 ·rintro ⟨z, hz, rfl, rfl⟩
  have := (own_mem l d z).1 hz
  exact .inr ⟨z, this.1, this.2, rfl⟩
theorem occ_iff (E : Edges) (n : ByteArray) : occ E n = true ↔ (∃ y, (n, y) ∈ E) ∨ ∃ x, (x, n) ∈ E := by
 unfold occ
 rw [Bool.or_eq_true]
 have h1 : (!(usersE E n).isEmpty) = true ↔ ∃ x, (x, n) ∈ E := by
  cases hq : usersE E n with
  | nil => simp only [List.isEmpty_nil, Bool.not_true, Bool.false_eq_true, false_iff]; rintro ⟨x, hx⟩; rw [← usersE_mem, hq] at hx; cases hx
  | cons a t => simp only [List.isEmpty_cons, Bool.not_false, true_iff]; exact ⟨a, (usersE_mem E n a).1 (by rw [hq]; exact List.mem_cons_self ..)⟩
 have h2 : (!(rolesE E n).isEmpty) = true ↔ ∃ y, (n, y) ∈ E := by
  cases hq : rolesE E n with
  | nil => simp only [List.isEmpty_nil, Bool.not_true, Bool.false_eq_true, false_iff]; rintro ⟨x, hx⟩; rw [← rolesE_mem, hq] at hx; cases hx
  | cons a t => simp only [List.isEmpty_cons, Bool.not_false, true_iff]; exact ⟨a, (rolesE_mem E n a).1 (by rw [hq]; exact List.mem_cons_self ..)⟩
 rw [h1, h2]
 exact or_comm
theorem addK_mem (K : List ByteArray) (k j : ByteArray) : j ∈ addK K k ↔ j ∈ K ∨ j = k := by
 unfold addK
 split
 ·rename_i h
  exact ⟨.inl, fun h2 => h2.elim id (fun e => by rw [e]; exact h)⟩
 ·rw [List.mem_append, List.mem_singleton]
theorem deedsK_mem (j : ByteArray) : ∀ (l : List S28) (K : List ByteArray), j ∈ deedsK true K (adds l) ↔ j ∈ K ∨ ∃ x ∈ l, x.f2 = j
 | [], K => by simp [adds, deedsK]
 | x :: l, K => by
  show j ∈ deedsK true (addK K (kd true x.f2)) (adds l) ↔ _
  rw [deedsK_mem j l, addK_mem]
  simp only [List.mem_cons, exists_eq_or_imp]
  rw [or_assoc]
  exact or_congr Iff.rfl (or_congr ⟨fun e => e.symm, fun e => e.symm⟩ Iff.rfl)
theorem doms_true (l : List S28) (a d : ByteArray) : domT d true 0 ((deedsK true [] (adds l)).filter fun j => occ (deedsE true (fun _ => []) (adds l) j) a) (false || (ownL l d).any fun x => x.f0.toList == a.toList) (false || (ownL l d).any fun x => x.f1.toList == a.toList) = true := by
 have hk : ∀ z ∈ ownL l d, d ∈ deedsK true [] (adds l) := fun z hz => (deedsK_mem d l []).2 (.inr ⟨z, ((own_mem l d z).1 hz).1, ((own_mem l d z).1 hz).2⟩)
 have hm : decide (d ∈ (deedsK true [] (adds l)).filter fun j => occ (deedsE true (fun _ => []) (adds l) j) a) = (((ownL l d).any fun x => x.f0.toList == a.toList) || ((ownL l d).any fun x => x.f1.toList == a.toList)) := by
  rw [Bool.eq_iff_iff, decide_eq_true_iff, List.mem_filter, occ_iff, Bool.or_eq_true, List.any_eq_true, List.any_eq_true]
  constructor
  ·rintro ⟨_, ⟨y, hy⟩ | ⟨x, hx⟩⟩
   ·obtain ⟨z, hz, h1, _⟩ := (e_mem l d a y).1 hy
    exact .inl ⟨z, hz, by rw [beq_iff_eq, h1]⟩
   ·obtain ⟨z, hz, _, h1⟩ := (e_mem l d x a).1 hx
    exact .inr ⟨z, hz, by rw [beq_iff_eq, h1]⟩
  ·rintro (⟨z, hz, h1⟩ | ⟨z, hz, h1⟩)
   ·rw [beq_iff_eq, toList_iff] at h1
    exact ⟨hk z hz, .inl ⟨z.f1, (e_mem l d a z.f1).2 ⟨z, hz, h1, rfl⟩⟩⟩
   ·rw [beq_iff_eq, toList_iff] at h1
    exact ⟨hk z hz, .inr ⟨z.f0, (e_mem l d z.f0 a).2 ⟨z, hz, rfl, h1⟩⟩⟩
 unfold domT
 rw [hm, if_pos rfl, if_pos rfl, Bool.false_or, Bool.false_or]
 cases ((ownL l d).any fun x => x.f0.toList == a.toList) <;> cases ((ownL l d).any fun x => x.f1.toList == a.toList) <;> rfl
theorem doms_j3 (l : List S28) (a d : ByteArray) (hl : l.length ≤ 16) (hs : ∀ x ∈ l, OkL true x) : Ev (fun k => laws_FnRolesDomains.j3 k l a d (ownL l d) false) true := by
 have hD := okRun_adds (b := true) (l := l) (by omega) hs
 have ho : (ownL l d).length ≤ l.length := List.length_filter_le ..
 have lk := deedsK_few true (adds l) []
 have la : (adds l).length = l.length := by unfold adds; rw [List.length_map]
 have lf := List.length_filter_le (fun j => occ (deedsE true (fun _ => []) (adds l) j) a) (deedsK true [] (adds l))
 rw [List.length_nil] at lk
 refine Ev.step (fun _ => laws_FnRolesDomains.j3.eq_2 _ _ _ _ _ _) (Ev.neg (by simp) (Ev.bind (added_f l (by omega)) ?_))
 refine Ev.bind (Ev.at (fun k => question5_yes k 20 (adds l) a ⟨#[]⟩ ⟨#[]⟩ (by omega) (by omega) hD)) ?_
 have := doms_l1 a d (ownL l d) (by omega) true 0 false ((deedsK true [] (adds l)).filter fun j => occ (deedsE true (fun _ => []) (adds l) j) a) (by omega) (ownL l d) [] false false rfl
 rw [doms_true] at this
 exact this
theorem doms_l0 (l : List S28) (a c d : ByteArray) (hl : l.length ≤ 16) (hs : ∀ x ∈ l, OkL true x) (q : List S28) : ∀ p, l = p ++ q → Ev (fun k => laws_FnRolesDomains.l0 k l a c d (ownL p d) (p.length : Int)) true := by
 induction q with
 | nil =>
  intro p hp
  rw [List.append_nil] at hp
  subst hp
  obtain ⟨A, hA⟩ : ∃ A, A = [(⟨0, a, c, d⟩ : S44), ⟨0, c, a, d⟩, ⟨1, a, ⟨#[]⟩, d⟩, ⟨2, a, ⟨#[]⟩, d⟩, ⟨3, a, ⟨#[]⟩, d⟩, ⟨4, a, ⟨#[]⟩, d⟩, ⟨1, c, ⟨#[]⟩, d⟩, ⟨4, c, ⟨#[]⟩, d⟩] := ⟨_, rfl⟩
  have hall : laws_all.f a c d = some A := by rw [hA]; rfl
  have hAl : A.length = 8 := by rw [hA]; rfl
  have hAo : A.all okAsk = true := by rw [hA]; rfl
  have hAd : ∀ q ∈ A, q.f3 = d := by rw [hA]; intro q hq; simp only [List.mem_cons, List.not_mem_nil, or_false] at hq; rcases hq with rfl | rfl | rfl | rfl | rfl | rfl | rfl | rfl <;> rfl
  have okl := adds_ok hs
  have okm := adds_ok (l := ownL l d) (fun x hx => hs x ((own_mem l d x).1 hx).1)
  have lena : ∀ z : List S28, (adds z).length = z.length := fun z => by unfold adds; rw [List.length_map]
  have ho : (ownL l d).length ≤ l.length := List.length_filter_le ..
  have r1 : ∀ k, impl_Roles.f k 20 true 0 0 (adds l) A = _ := fun k => roles_run k 20 true (adds l) A (by omega) (by omega) (by rw [lena]; omega) (by omega) okl hAo
  have r2 : ∀ k, impl_Roles.f k 20 true 0 0 (adds (ownL l d)) A = _ := fun k => roles_run k 20 true (adds (ownL l d)) A (by omega) (by omega) (by rw [lena]; omega) (by omega) okm hAo
  refine Ev.step (fun _ => laws_FnRolesDomains.l0.eq_2 _ _ _ _ _ _ _) (Ev.neg (by omega) ?_)
  refine Ev.bind (added_f l (by omega)) (Ev.bind (Ev.const hall) (Ev.bind (Ev.at r1) (Ev.bind (added_f (ownL l d) (by omega)) (Ev.bind (Ev.const hall) (Ev.bind (Ev.at r2) ?_)))))
  refine Ev.pos (by rw [List.length_map, hAl]; rfl) ?_
  refine Ev.bind (sameTold_same ?_ (by rw [List.length_map]; omega) (fun x hx => ?_)) (doms_j3 l a d hl hs)
  ·refine told_map (fun q hq => ansR_same 20 true q ⟨deedsE_nodup true _ _ (fun _ => List.nodup_nil) _, deedsE_nodup true _ _ (fun _ => List.nodup_nil) _, fun e => ?_⟩)
   show e ∈ deedsE true _ _ (kd true q.f3) ↔ e ∈ deedsE true _ _ (kd true q.f3)
   rw [hAd q hq]
   exact own_e l d e
  ·obtain ⟨q, _, rfl⟩ := List.mem_map.1 hx
   have := ansR_few 20 true (deedsE true (fun _ => []) (adds l)) q
   have := links_few true (adds l) okl (kd true q.f3)
   rw [lena] at this
   omega
 | cons x q ih =>
  intro p hp
  have hlen : l.length = p.length + (q.length + 1) := by rw [hp]; simp
  have hr : rd_T28 l (p.length : Int) = x := by rw [hp]; exact getD_mid _ p q x _ rfl
  have ho : (ownL p d).length ≤ p.length := List.length_filter_le ..
  refine Ev.step (fun _ => laws_FnRolesDomains.l0.eq_2 _ _ _ _ _ _ _) (Ev.pos (by omega) (Ev.pos (by omega) ?_))
  rw [hr, w64 (by omega) (by omega)]
  have hn := ih (p ++ [x]) (by rw [hp]; simp)
  rw [show (((p ++ [x]).length : Nat) : Int) = (p.length : Int) + 1 by simp] at hn
  by_cases h1 : x.f2.toList = d.toList
  ·refine Ev.pos h1 (Ev.pos (by omega) ?_)
   rw [show ownL (p ++ [x]) d = ownL p d ++ [x] from by unfold ownL; rw [List.filter_append, List.filter_cons_of_pos (by rw [beq_iff_eq]; exact h1), List.filter_nil]] at hn
   exact hn
  ·refine Ev.neg h1 ?_
   rw [show ownL (p ++ [x]) d = ownL p d from by unfold ownL; rw [List.filter_append, List.filter_cons_of_neg (by rw [beq_iff_eq]; exact h1), List.filter_nil, List.append_nil]] at hn
   exact hn
theorem doms_j0 (l : List S28) (a c d : ByteArray) (hs : ∀ x ∈ l, SzL x) (ha : a.size ≤ 140737488351232) (hc : c.size ≤ 140737488351232) (hd : d.size ≤ 140737488351232) (z : Bool) : Ev (fun k => laws_FnRolesDomains.j0 k l a c d z) true := by
 have aw : Ev (fun k => laws_FnRolesDomains.j1 k l a c d true) true := Ev.step (fun _ => laws_FnRolesDomains.j1.eq_2 _ _ _ _ _ _) (Ev.pos rfl (Ev.bind awakeRoles (Ev.now _)))
 refine Ev.step (fun _ => laws_FnRolesDomains.j0.eq_2 _ _ _ _ _ _) ?_
 cases z with
 | true => exact Ev.pos rfl (Ev.now _)
 | false =>
  refine Ev.neg (by simp) ?_
  obtain ⟨p, hp, hq⟩ := links_f l true hs
  refine Ev.bind hp ?_
  cases p with
  | false => exact Ev.neg (by simp) aw
  | true =>
   refine Ev.pos rfl ?_
   obtain ⟨r, hr, _⟩ := named_f a c d true (by omega) (by omega) (by omega)
   refine Ev.bind hr ?_
   cases r with
   | false => exact aw
   | true =>
    refine Ev.step (fun _ => laws_FnRolesDomains.j1.eq_2 _ _ _ _ _ _) (Ev.neg (by simp) ?_)
    exact doms_l0 l a c d (hq rfl).1 (hq rfl).2 l [] rfl
theorem FnRolesDomains (l : List S28) (a c d : ByteArray) (hl : l.length ≤ 9223372036854775807) (hs : ∀ x ∈ l, SzL x) (ha : a.size ≤ 140737488351232) (hc : c.size ≤ 140737488351232) (hd : d.size ≤ 140737488351232) : ∃ k, laws_FnRolesDomains.f k l a c d = some true := by
 refine Ev.rounds (g := fun k => laws_FnRolesDomains.f k l a c d) ?_
 obtain ⟨p, hp, _⟩ := fits25 l hl
 have hj := doms_j0 l a c d hs ha hc hd
 refine Ev.bind hp ?_
 cases p with
 | false => exact Ev.neg (by simp) (hj _)
 | true =>
  refine Ev.pos rfl ?_
  by_cases c1 : (a.size : Int) > 2147483647
  ·exact Ev.pos c1 (hj _)
  refine Ev.neg c1 ?_
  by_cases c2 : (c.size : Int) > 2147483647
  ·exact Ev.pos c2 (hj _)
  exact Ev.neg c2 (hj _)

set_option maxRecDepth 100000 in
/-- a link that reads as data is three texts -/
theorem opens_T28 : Opens.Opens Tryz.prog k28 28 SzL := by
 intro H enc w base spare held n cs x h
 obtain ⟨xs, m, _, rfl, hl, hlen, hf⟩ := DataW.trod_struct Tryz.underlying28 h
 have h0 := hf 0 _ rfl
 have h1 := hf 1 _ rfl
 have h2 := hf 2 _ rfl
 have hc : Tryz.prog.cellsOf 28 = 3 := by kernel_rfl
 have hc9 : Tryz.prog.cellsOf 9 = 1 := by kernel_rfl
 rw [hc] at hl
 match cs, hl with
 | [a, b, c], _ =>
  match xs, hlen with
  | [y0, y1, y2], _ =>
   obtain ⟨s0, e0, _, z0⟩ := DataW.trod_string Tryz.underlying9 h0
   obtain ⟨s1, e1, _, z1⟩ := DataW.trod_string Tryz.underlying9 h1
   obtain ⟨s2, e2, _, z2⟩ := DataW.trod_string Tryz.underlying9 h2
   replace e0 : ([a, b, c].drop 0).take (Tryz.prog.cellsOf 9) = [.string s0] := e0
   replace e1 : ([a, b, c].drop 1).take (Tryz.prog.cellsOf 9) = [.string s1] := e1
   replace e2 : ([a, b, c].drop 2).take (Tryz.prog.cellsOf 9) = [.string s2] := e2
   rw [hc9] at e0 e1 e2
   obtain rfl : a = .string s0 := by simpa using e0
   obtain rfl : b = .string s1 := by simpa using e1
   obtain rfl : c = .string s2 := by simpa using e2
   exact ⟨⟨s0, s1, s2⟩, k28_mk _ _, z0, z1, z2⟩

end Go.Proofs.YtjijaciaioieaaaGreat.Pure
