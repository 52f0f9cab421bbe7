/- laws.FnRolesLevels. For all arguments: the law answers true (the plain statement that its printed walk asks for). No condition beyond the form's own sizes. -/
import Derived.Test.YtjijaciaioieaaaGreatOFnRolesLevelsx70
import Derived.Test.YtjijaciaioieaaaGreatBase
import Derived.Test.YtjijaciaioieaaaGreatOpens
set_option linter.unusedSimpArgs false
set_option linter.unusedVariables false
namespace Go.Proofs.YtjijaciaioieaaaGreat.Pure
open Go.RowKit Go.Proofs.YtjijaciaioieaaaGreat.PFnRolesOrder Go.Proofs.YtjijaciaioieaaaGreatW.PrintWords Go.Proofs.YtjijaciaioieaaaGreatW.PrintLast Go.Proofs.YtjijaciaioieaaaGreat.Base

/-! ### what a law over role managers asks of its arguments -/
/-- some truth is come to, and P holds where it is yes -/
def Has (P : Prop) (g : Nat → Option Bool) : Prop := ∃ b, Ev g b ∧ (b = true → P)
theorem Has.no {P : Prop} : Has P (fun _ => some false) := ⟨false, Ev.now _, fun h => by cases h⟩
theorem Has.yes {P : Prop} (h : P) : Has P (fun _ => some true) := ⟨true, Ev.now _, fun _ => h⟩
theorem Has.dec {P Q : Prop} [Decidable Q] (h : Q → P) : Has P (fun _ => some (decide Q)) := ⟨decide Q, Ev.now _, fun e => h (of_decide_eq_true e)⟩
theorem Has.ite {P c : Prop} [Decidable c] {f g : Nat → Option Bool} (h1 : c → Has P f) (h2 : ¬ c → Has P g) : Has P (fun n => if c then f n else g n) := by
 by_cases h : c
 ·obtain ⟨b, hb, hp⟩ := h1 h
  exact ⟨b, Ev.pos h hb, hp⟩
 ·obtain ⟨b, hb, hp⟩ := h2 h
  exact ⟨b, Ev.neg h hb, hp⟩
theorem Has.bind {P Q : Prop} {g : Nat → Option Bool} {f : Nat → Bool → Option Bool} (h : Has Q g) (k : ∀ b, (b = true → Q) → Has P (fun n => f n b)) : Has P (fun n => (g n).bind (f n)) := by
 obtain ⟨b, hb, hq⟩ := h
 obtain ⟨c, hc, hp⟩ := k b hq
 exact ⟨c, Ev.bind hb hc, hp⟩
theorem Has.step {P : Prop} {g f : Nat → Option Bool} (h : ∀ k, g (k + 1) = f k) (k : Has P f) : Has P g := by
 obtain ⟨b, hb, hp⟩ := k
 exact ⟨b, Ev.step h hb, hp⟩
theorem Has.mono {P Q : Prop} {g : Nat → Option Bool} (h : Has P g) (k : P → Q) : Has Q g := by
 obtain ⟨b, hb, hp⟩ := h
 exact ⟨b, hb, fun e => k (hp e)⟩
theorem fits25_l0 (l : List S28) (hl : l.length ≤ 9223372036854775807) : ∀ (m i : Nat), l.length - i = m → Has True (fun k => laws_zzFits25.l0 k l (l.length : Int) (i : Int)) := by
 intro m
 induction m with
 | zero => exact fun i hi => Has.step (fun _ => laws_zzFits25.l0.eq_2 _ _ _ _) (Has.ite (fun h => absurd h (by omega)) (fun _ => Has.yes trivial))
 | succ m ih =>
  intro i hi
  have h1 := ih (i + 1) (by omega)
  refine Has.step (fun _ => laws_zzFits25.l0.eq_2 _ _ _ _) (Has.ite (fun _ => Has.ite (fun _ => Has.ite (fun _ => ?_) (fun h => absurd (by omega) h)) (fun h => absurd (by omega) h)) (fun _ => Has.yes trivial))
  rw [w64 (by omega) (by omega)]
  refine Has.bind (P := True) (Q := True) ?_ (fun b _ => Has.ite (fun _ => h1) (fun _ => Has.no))
  unfold laws_zzFits26.f
  exact Has.ite (fun _ => Has.no) (fun _ => Has.ite (fun _ => Has.no) (fun _ => Has.ite (fun _ => Has.no) (fun _ => Has.yes trivial)))
theorem fits25 (l : List S28) (hl : l.length ≤ 9223372036854775807) : Has True (fun k => laws_zzFits25.f k l) := Has.ite (fun _ => Has.no) (fun _ => fits25_l0 l hl l.length 0 rfl)
theorem label_l0 (s : ByteArray) (hs : s.size ≤ 9223372036854775807) : ∀ (m i : Nat), s.size - i = m → Has (s.size ≤ 20) (fun k => spec_Label.l0 k s (i : Int)) := by
 intro m
 induction m with
 | zero => exact fun i hi => Has.step (fun _ => spec_Label.l0.eq_2 _ _ _) (Has.ite (fun h => absurd h (by omega)) (fun _ => Has.ite (fun _ => Has.no) (fun _ => Has.dec (fun h => by omega))))
 | succ m ih =>
  intro i hi
  have h1 := ih (i + 1) (by omega)
  refine Has.step (fun _ => spec_Label.l0.eq_2 _ _ _) (Has.ite (fun _ => Has.ite (fun _ => ?_) (fun h => absurd (by omega) h)) (fun h => absurd (by omega) h))
  rw [w64 (by omega) (by omega)]
  repeat' first
   | exact h1
   | exact Has.no
   | refine Has.ite (fun _ => ?_) (fun _ => ?_)
theorem label (s : ByteArray) (hs : s.size ≤ 9223372036854775807) : Has (s.size ≤ 20) (fun k => spec_Label.f k s) := label_l0 s hs s.size 0 rfl
/-- a link of words, with a domain if there are domains -/
structure OkL (b : Bool) (x : S28) : Prop where
 u : x.f0.size ≤ 20
 r : x.f1.size ≤ 20
 d : b = false → x.f2 = ByteArray.empty
/-- a link's texts are as long as a text may be -/
structure SzL (x : S28) : Prop where
 u : x.f0.size ≤ 9223372036854775807
 r : x.f1.size ≤ 9223372036854775807
 d : x.f2.size ≤ 9223372036854775807
theorem toList_nil {s : ByteArray} (h : s.toList = ([] : List UInt8)) : s = ByteArray.empty := (toList_iff s ByteArray.empty).1 (by rw [h]; simp [ByteArray.toList_eq])
theorem links_l0 (l : List S28) (b : Bool) (hl : l.length ≤ 16) (hs : ∀ x ∈ l, SzL x) (q : List S28) : ∀ p, l = p ++ q → Has (∀ x ∈ q, OkL b x) (fun k => laws_links.l0 k l b (p.length : Int)) := by
 induction q with
 | nil =>
  intro p hp
  have : l.length = p.length := by rw [hp]; simp
  exact Has.step (fun _ => laws_links.l0.eq_2 _ _ _ _) (Has.ite (fun h => absurd h (by omega)) (fun _ => Has.yes (fun x hx => by cases hx)))
 | cons c q ih =>
  intro p hp
  have hlen : l.length = p.length + (q.length + 1) := by rw [hp]; simp
  have hr : rd_T28 l (p.length : Int) = c := by rw [hp]; exact getD_mid _ p q c _ rfl
  have hc := hs c (by rw [hp]; simp)
  have h1 := ih (p ++ [c]) (by rw [hp]; simp)
  rw [show (((p ++ [c]).length : Nat) : Int) = (p.length : Int) + 1 by simp] at h1
  refine Has.step (fun _ => laws_links.l0.eq_2 _ _ _ _) (Has.ite (fun _ => Has.ite (fun _ => ?_) (fun h => absurd (by omega) h)) (fun h => absurd (by omega) h))
  rw [hr, w64 (by omega) (by omega)]
  refine Has.bind (label c.f0 hc.u) (fun b0 q0 => Has.ite (fun e0 => ?_) (fun _ => Has.no))
  refine Has.bind (label c.f1 hc.r) (fun b1 q1 => Has.ite (fun e1 => ?_) (fun _ => Has.no))
  refine Has.ite (fun eb => ?_) (fun eb => ?_)
  ·refine Has.bind (label c.f2 hc.d) (fun b2 _ => Has.ite (fun _ => ?_) (fun _ => Has.no))
   exact h1.mono (fun h x hx => by
    rcases List.mem_cons.1 hx with rfl | hx
    ·exact ⟨q0 e0, q1 e1, fun e => by rw [eb] at e; cases e⟩
    ·exact h x hx)
  ·refine Has.ite (fun e2 => ?_) (fun _ => Has.no)
   exact h1.mono (fun h x hx => by
    rcases List.mem_cons.1 hx with rfl | hx
    ·exact ⟨q0 e0, q1 e1, fun _ => toList_nil e2⟩
    ·exact h x hx)
theorem links_f (l : List S28) (b : Bool) (hs : ∀ x ∈ l, SzL x) : Has (l.length ≤ 16 ∧ ∀ x ∈ l, OkL b x) (fun k => laws_links.f k l b) :=
 Has.ite (fun _ => Has.no) (fun h => (links_l0 l b (by omega) hs l [] rfl).mono (fun g => ⟨by omega, g⟩))
theorem named_f (a b d : ByteArray) (m : Bool) (ha : a.size ≤ 9223372036854775807) (hb : b.size ≤ 9223372036854775807) (hd : d.size ≤ 9223372036854775807) : Has (a.size ≤ 20 ∧ b.size ≤ 20) (fun k => laws_named.f k a b d m) := by
 refine Has.bind (label a ha) (fun b0 q0 => Has.ite (fun e0 => ?_) (fun _ => Has.no))
 refine Has.bind (label b hb) (fun b1 q1 => Has.ite (fun e1 => ?_) (fun _ => Has.no))
 refine Has.ite (fun _ => ?_) (fun _ => ?_)
 ·exact Has.bind (label d hd) (fun b2 _ => Has.ite (fun _ => Has.yes ⟨q0 e0, q1 e1⟩) (fun _ => Has.no))
 ·exact ⟨_, Ev.now _, fun _ => ⟨q0 e0, q1 e1⟩⟩
/-- deeds that add links -/
def adds (l : List S28) : List S54 := l.map fun x => ⟨0, x⟩
theorem added_l0 (l : List S28) (hl : l.length ≤ 1000) (q : List S28) : ∀ p, l = p ++ q → Ev (fun k => laws_added.l0 k l (adds p) (p.length : Int)) (adds l) := by
 induction q with
 | nil =>
  intro p hp
  rw [List.append_nil] at hp
  subst hp
  exact Ev.step (fun _ => laws_added.l0.eq_2 _ _ _ _) (Ev.neg (by omega) (Ev.now _))
 | cons c q ih =>
  intro p hp
  have hlen : l.length = p.length + (q.length + 1) := by rw [hp]; simp
  have hr : rd_T28 l (p.length : Int) = c := by rw [hp]; exact getD_mid _ p q c _ rfl
  refine Ev.step (fun _ => laws_added.l0.eq_2 _ _ _ _) (Ev.pos (by omega) (Ev.pos (by omega) (Ev.pos (by unfold adds; rw [List.length_map]; omega) ?_)))
  rw [hr, w64 (by omega) (by omega)]
  have := ih (p ++ [c]) (by rw [hp]; simp)
  rw [show (((p ++ [c]).length : Nat) : Int) = (p.length : Int) + 1 by simp] at this
  unfold adds at this ⊢
  rw [List.map_append] at this
  exact this
theorem added_f (l : List S28) (hl : l.length ≤ 1000) : Ev (fun k => laws_added.f k l) (adds l) := added_l0 l hl l [] rfl
/-! ### what deeds leave, and what is answered -/
theorem adds_mem (b : Bool) : ∀ (l : List S28) (Ef : ByteArray → Edges) (j : ByteArray) (e : ByteArray × ByteArray), e ∈ deedsE b Ef (adds l) j ↔ e ∈ Ef j ∨ ∃ x ∈ l, kd b x.f2 = j ∧ e = (x.f0, x.f1)
 | [], Ef, j, e => by simp [adds, deedsE]
 | x :: l, Ef, j, e => by
  show e ∈ deedsE b (deedE Ef 0 x.f0 x.f1 (kd b x.f2)) (adds l) j ↔ _
  rw [adds_mem b l, deedE_mem, if_pos rfl]
  constructor
  ·rintro ((h | ⟨h1, h2⟩) | ⟨y, hy, h1, h2⟩)
   ·exact .inl h
   ·exact .inr ⟨x, List.mem_cons_self .., h1.symm, h2⟩
   ·exact .inr ⟨y, List.mem_cons_of_mem _ hy, h1, h2⟩
  ·rintro (h | ⟨y, hy, h1, h2⟩)
   ·exact .inl (.inl h)
   ·rcases List.mem_cons.1 hy with rfl | hy
    ·exact .inl (.inr ⟨h1.symm, h2⟩)
    ·exact .inr ⟨y, hy, h1, h2⟩
theorem deedsE_nodup (b : Bool) : ∀ (l : List S54) (Ef : ByteArray → Edges), (∀ j, (Ef j).Nodup) → ∀ j, (deedsE b Ef l j).Nodup
 | [], _, h, j => h j
 | d :: l, Ef, h, j => deedsE_nodup b l _ (fun i => deedE_nodup h d.f0 d.f1.f0 d.f1.f1 (kd b d.f1.f2) i) j
/-- the same links -/
def SameE (Ef Eg : ByteArray → Edges) (j : ByteArray) : Prop := (Ef j).Nodup ∧ (Eg j).Nodup ∧ ∀ e, e ∈ Ef j ↔ e ∈ Eg j
theorem rolesE_same {E G : Edges} (hE : E.Nodup) (hG : G.Nodup) (h : ∀ e, e ∈ E ↔ e ∈ G) (a : ByteArray) : (rolesE E a).Perm (rolesE G a) := perm_of_mem (rolesE_nodup hE a) (rolesE_nodup hG a) (fun x => by rw [rolesE_mem, rolesE_mem, h])
theorem usersE_same {E G : Edges} (hE : E.Nodup) (hG : G.Nodup) (h : ∀ e, e ∈ E ↔ e ∈ G) (a : ByteArray) : (usersE E a).Perm (usersE G a) := perm_of_mem (usersE_nodup hE a) (usersE_nodup hG a) (fun x => by rw [usersE_mem, usersE_mem, h])
theorem ansR_same (max : Int) (b : Bool) {Ef Eg : ByteArray → Edges} (q : S44) (h : SameE Ef Eg (kd b q.f3)) : ToldR (ansR max b Ef q) (ansR max b Eg q) := by
 obtain ⟨h1, h2, h3⟩ := h
 have hr : ∀ a x, x ∈ rolesE (Ef (kd b q.f3)) a ↔ x ∈ rolesE (Eg (kd b q.f3)) a := fun a x => by rw [rolesE_mem, rolesE_mem, h3]
 have hu : ∀ a x, x ∈ usersE (Ef (kd b q.f3)) a ↔ x ∈ usersE (Eg (kd b q.f3)) a := fun a x => by rw [usersE_mem, usersE_mem, h3]
 unfold ansR
 split
 ·exact ⟨rfl, hasF_same hr _ _ (fun _ => Iff.rfl), List.Perm.refl _⟩
 split
 ·exact ⟨rfl, rfl, rolesE_same h1 h2 h3 _⟩
 split
 ·exact ⟨rfl, rfl, usersE_same h1 h2 h3 _⟩
 split
 ·exact ⟨rfl, rfl, impl_same hr _ _⟩
 ·exact ⟨rfl, rfl, impl_same hu _ _⟩
theorem told_map {f g : S44 → S40} : ∀ {l : List S44}, (∀ q ∈ l, ToldR (f q) (g q)) → ToldL (l.map f) (l.map g)
 | [], _ => trivial
 | _ :: _, h => ⟨h _ (List.mem_cons_self ..), told_map (fun q hq => h q (List.mem_cons_of_mem _ hq))⟩
theorem told_refl : ∀ (l : List S40), ToldL l l
 | [] => trivial
 | _ :: l => ⟨⟨rfl, rfl, List.Perm.refl _⟩, told_refl l⟩
theorem rolesE_few (E : Edges) (a : ByteArray) : (rolesE E a).length ≤ E.length := by
 unfold rolesE
 rw [List.length_map]
 exact List.length_filter_le ..
theorem usersE_few (E : Edges) (a : ByteArray) : (usersE E a).length ≤ E.length := by
 unfold usersE
 rw [List.length_map]
 exact List.length_filter_le ..
theorem impl_few {nx : Nx} (T : List ByteArray) (hT : ∀ x y, y ∈ nx x → y ∈ T) (n : Nat) (a : ByteArray) : (impl nx n a).length ≤ T.length := by
 refine few_of_nodup _ T (impl_iff nx n a).1 (fun x hx => ?_)
 obtain ⟨hne, k, _, hr⟩ := ((impl_iff nx n a).2 x).1 hx
 cases k with
 | zero => exact absurd hr hne
 | succ k =>
  obtain ⟨y, _, hy⟩ := hr
  exact hT y x hy
theorem ansR_few (max : Int) (b : Bool) (Ef : ByteArray → Edges) (q : S44) : (ansR max b Ef q).f2.length ≤ (Ef (kd b q.f3)).length := by
 have hr : ∀ x y, y ∈ rolesE (Ef (kd b q.f3)) x → y ∈ (Ef (kd b q.f3)).map (·.2) := fun x y h => by
  rw [rolesE_mem] at h
  exact List.mem_map.2 ⟨_, h, rfl⟩
 have hu : ∀ x y, y ∈ usersE (Ef (kd b q.f3)) x → y ∈ (Ef (kd b q.f3)).map (·.1) := fun x y h => by
  rw [usersE_mem] at h
  exact List.mem_map.2 ⟨_, h, rfl⟩
 unfold ansR
 split
 ·exact Nat.zero_le _
 split
 ·exact rolesE_few _ _
 split
 ·exact usersE_few _ _
 split
 ·exact Nat.le_trans (impl_few _ hr _ _) (by rw [List.length_map]; exact Nat.le_refl _)
 ·exact Nat.le_trans (impl_few _ hu _ _) (by rw [List.length_map]; exact Nat.le_refl _)
/-! ### a role manager is asked -/
theorem okDeed_add {b : Bool} {x : S28} (h : OkL b x) : okDeed ⟨0, x⟩ = true := by
 unfold okDeed
 rw [Bool.and_eq_true, Bool.and_eq_true]
 exact ⟨⟨rfl, decide_eq_true (Nat.le_trans h.u (by omega))⟩, decide_eq_true (Nat.le_trans h.r (by omega))⟩
theorem adds_ok {b : Bool} {l : List S28} (h : ∀ x ∈ l, OkL b x) : (adds l).all okDeed = true := by
 rw [List.all_eq_true]
 intro d hd
 obtain ⟨x, hx, rfl⟩ := List.mem_map.1 hd
 exact okDeed_add (h x hx)
theorem roles_run (k : Nat) (max : Int) (b : Bool) (l : List S54) (q : List S44) (h0 : 0 ≤ max) (h1 : max ≤ 20) (hl : l.length ≤ 1000) (hq : q.length ≤ 1000) (hd : l.all okDeed = true) (ha : q.all okAsk = true) :
  impl_Roles.f k max b 0 0 l q = some (l.map fun _ => 0, q.map (ansR max b (deedsE b (fun _ => []) l))) := by
 unfold impl_Roles.f
 rw [if_pos]
 simp only [Bool.and_eq_true, decide_eq_true_iff]
 exact ⟨⟨⟨⟨⟨⟨⟨h0, by omega⟩, trivial⟩, trivial⟩, by omega⟩, by omega⟩, hd⟩, ha⟩
theorem links_few (b : Bool) (l : List S54) (hd : l.all okDeed = true) (j : ByteArray) : (deedsE b (fun _ => []) l j).length ≤ l.length := by
 have := (okLinks0.deeds b l hd).few j
 rwa [Nat.zero_add] at this
theorem awakeRoles : Ev (fun k => laws_awakeRoles.f k) true := Ev.of (k := 5) (fun k => laws_awakeRoles.mono k) (by decide +kernel)

theorem okRun_adds {b : Bool} {l : List S28} (hl : l.length ≤ 1000) (h : ∀ x ∈ l, OkL b x) : okRun (adds l) = true := by
 unfold okRun
 rw [Bool.and_eq_true, decide_eq_true_iff]
 exact ⟨by unfold adds; rw [List.length_map]; omega, adds_ok h⟩
theorem hasF_reach (nx : Nx) (a b : ByteArray) (n : Nat) : hasF nx b n [a] = true ↔ ∃ k, k ≤ n ∧ Rch nx a k b := by
 rw [hasF_iff nx a b n 0 [a] (fun x => by rw [List.mem_singleton]; exact Iff.rfl)]
 simp

/-- the n-th name -/
def nm (n : Nat) : ByteArray := (laws_FnRolesLevels_1.f 10 (n : Int)).getD ByteArray.empty
theorem nm_all : (List.range 31).all (fun n => decide (laws_FnRolesLevels_1.f 10 (n : Int) = some (nm n)) && decide ((nm n).size ≤ 20)) = true := by decide +kernel
theorem nm_one : (List.range 31).all (fun i => (List.range 31).all fun j => decide (nm i = nm j → i = j)) = true := by decide +kernel
theorem nm_f (n : Nat) (h : n ≤ 30) : Ev (fun k => laws_FnRolesLevels_1.f k (n : Int)) (nm n) := by
 have := List.all_eq_true.1 nm_all n (List.mem_range.2 (by omega))
 rw [Bool.and_eq_true, decide_eq_true_iff] at this
 exact Ev.of (fun k => laws_FnRolesLevels_1.mono (n : Int) k) this.1
theorem nm_size (n : Nat) (h : n ≤ 30) : (nm n).size ≤ 20 := by
 have := List.all_eq_true.1 nm_all n (List.mem_range.2 (by omega))
 rw [Bool.and_eq_true] at this
 exact of_decide_eq_true this.2
theorem nm_inj {i j : Nat} (hi : i ≤ 30) (hj : j ≤ 30) (h : nm i = nm j) : i = j :=
 of_decide_eq_true (List.all_eq_true.1 (List.all_eq_true.1 nm_one i (List.mem_range.2 (by omega))) j (List.mem_range.2 (by omega))) h
def chain (n : Nat) : List S28 := (List.range n).map fun i => ⟨nm i, nm (i + 1), ⟨#[]⟩⟩
theorem chain_length (n : Nat) : (chain n).length = n := by unfold chain; rw [List.length_map, List.length_range]
theorem chain_ok (n : Nat) (h : n ≤ 30) : ∀ x ∈ chain n, OkL false x := fun x hx => by
 obtain ⟨i, hi, rfl⟩ := List.mem_map.1 hx
 have := List.mem_range.1 hi
 exact ⟨nm_size i (by omega), nm_size (i + 1) (by omega), fun _ => rfl⟩
abbrev chainE (n : Nat) : Edges := deedsE false (fun _ => []) (adds (chain n)) (kd false ⟨#[]⟩)
theorem chain_mem (n : Nat) (e : ByteArray × ByteArray) : e ∈ chainE n ↔ ∃ i, i < n ∧ e = (nm i, nm (i + 1)) := by
 rw [adds_mem]
 constructor
 ·rintro (h | ⟨x, hx, _, h⟩)
  ·cases h
  ·obtain ⟨i, hi, rfl⟩ := List.mem_map.1 hx
   exact ⟨i, List.mem_range.1 hi, h⟩
 ·rintro ⟨i, hi, rfl⟩
  exact .inr ⟨_, List.mem_map.2 ⟨i, List.mem_range.2 hi, rfl⟩, rfl, rfl⟩
theorem chain_rch (n : Nat) (hn : n ≤ 30) (a : Nat) (ha : a ≤ n) : ∀ (k : Nat) (x : ByteArray), Rch (rolesE (chainE n)) (nm a) k x ↔ a + k ≤ n ∧ x = nm (a + k)
 | 0, x => ⟨fun h => ⟨by omega, h⟩, fun h => h.2⟩
 | k + 1, x => by
  constructor
  ·rintro ⟨y, hy, hx⟩
   obtain ⟨h1, rfl⟩ := (chain_rch n hn a ha k y).1 hy
   rw [rolesE_mem, chain_mem] at hx
   obtain ⟨i, hi, he⟩ := hx
   injection he with e1 e2
   obtain rfl : a + k = i := nm_inj (by omega) (by omega) e1
   exact ⟨by omega, e2⟩
  ·rintro ⟨h1, rfl⟩
   exact ⟨nm (a + k), (chain_rch n hn a ha k _).2 ⟨by omega, rfl⟩, by rw [rolesE_mem, chain_mem]; exact ⟨a + k, by omega, rfl⟩⟩
theorem chain_has (n : Nat) (hn : n ≤ 30) (a b : Nat) (hab : a ≤ b) (hb : b ≤ n) (m : Nat) : hasF (rolesE (chainE n)) (nm b) m [nm a] = decide (b - a ≤ m) := by
 rw [Bool.eq_iff_iff, hasF_reach, decide_eq_true_iff]
 constructor
 ·rintro ⟨k, hk, hr⟩
  obtain ⟨h1, h2⟩ := (chain_rch n hn a (by omega) k _).1 hr
  have := nm_inj (by omega) (by omega) h2
  omega
 ·intro h
  exact ⟨b - a, h, (chain_rch n hn a (by omega) _ _).2 ⟨by omega, by rw [show a + (b - a) = b by omega]⟩⟩
theorem levels_end (lv : Int) (n a b : Nat) (h1 : 1 ≤ lv) (h2 : lv ≤ 20) (hn : n ≤ 30) (hab : a ≤ b) (hb : b ≤ n) : Ev (fun k => (laws_added.f k (chain n)).bind fun t149 => ((laws_FnRolesLevels_1.f k (a : Int)).bind fun t152 => ((laws_FnRolesLevels_1.f k (b : Int)).bind fun t153 => ((laws_question.f k lv false t149 0 t152 t153 (⟨#[]⟩ : ByteArray)).bind fun bt154 => (if bt154.2.2.2 = true then (if bt154.1 = 0 then (if (bt154.2.1 == (decide ((wrap64 ((b : Int) - (a : Int))) ≤ lv))) = true then ((laws_awakeRoles.f k).bind fun t161 => (some t161)) else (some false)) else (some false)) else (some false)))))) true := by
 refine Ev.bind (added_f (chain n) (by rw [chain_length]; omega)) (Ev.bind (nm_f a (by omega)) (Ev.bind (nm_f b (by omega)) ?_))
 refine Ev.bind (Ev.at (fun k => question_yes k lv false (adds (chain n)) 0 (nm a) (nm b) ⟨#[]⟩ (by omega) h2 (okRun_adds (by rw [chain_length]; omega) (chain_ok n hn)) ⟨by omega, by omega⟩)) (Ev.pos rfl (Ev.pos rfl (Ev.pos ?_ (Ev.bind awakeRoles (Ev.now _)))))
 rw [w64 (by omega) (by omega)]
 show (hasF (rolesE (chainE n)) (nm b) lv.toNat [nm a] == _) = true
 rw [chain_has n hn a b hab hb, beq_iff_eq, decide_eq_decide]
 omega
theorem levels_l0 (lv : Int) (n a b : Nat) (h1 : 1 ≤ lv) (h2 : lv ≤ 20) (hn : n ≤ 30) (hab : a ≤ b) (hb : b ≤ n) : ∀ (m i : Nat), n - i = m → i ≤ n → Ev (fun k => laws_FnRolesLevels.l0 k lv (n : Int) (a : Int) (b : Int) (chain i) (i : Int)) true := by
 intro m
 induction m with
 | zero =>
  intro i hi hin
  obtain rfl : i = n := by omega
  exact Ev.step (fun _ => laws_FnRolesLevels.l0.eq_2 _ _ _ _ _ _ _) (Ev.neg (by omega) (levels_end lv i a b h1 h2 hn hab hb))
 | succ m ih =>
  intro i hi hin
  refine Ev.step (fun _ => laws_FnRolesLevels.l0.eq_2 _ _ _ _ _ _ _) (Ev.pos (by omega) ?_)
  rw [w64 (by omega) (by omega)]
  refine Ev.bind (nm_f i (by omega)) (Ev.bind (nm_f (i + 1) (by omega)) (Ev.pos (by rw [chain_length]; omega) ?_))
  have := ih (i + 1) (by omega) (by omega)
  rw [show chain (i + 1) = chain i ++ [(⟨nm i, nm (i + 1), ⟨#[]⟩⟩ : S28)] by unfold chain; rw [List.range_succ, List.map_append]; rfl] at this
  exact this
theorem FnRolesLevels (lv n a b : Int) (_ : (Lit.int .i64 lv).wf = true) (_ : (Lit.int .i64 n).wf = true) (_ : (Lit.int .i64 a).wf = true) (_ : (Lit.int .i64 b).wf = true) : ∃ k, laws_FnRolesLevels.f k lv n a b = some true := by
 refine Ev.rounds (g := fun k => laws_FnRolesLevels.f k lv n a b) ?_
 have aw : Ev (fun k => laws_FnRolesLevels.j0 k lv n a b true) true := Ev.step (fun _ => laws_FnRolesLevels.j0.eq_2 _ _ _ _ _ _) (Ev.pos rfl (Ev.bind awakeRoles (Ev.now _)))
 unfold laws_FnRolesLevels.f
 by_cases c1 : lv < 1
 ·exact Ev.pos c1 aw
 refine Ev.neg c1 ?_
 by_cases c2 : lv > 20
 ·exact Ev.pos c2 aw
 refine Ev.neg c2 ?_
 by_cases c3 : n < 1
 ·exact Ev.pos c3 aw
 refine Ev.neg c3 ?_
 by_cases c4 : n > 30
 ·exact Ev.pos c4 aw
 refine Ev.neg c4 ?_
 by_cases c5 : a < 0
 ·exact Ev.pos c5 aw
 refine Ev.neg c5 ?_
 by_cases c6 : b < a
 ·exact Ev.pos c6 aw
 refine Ev.neg c6 ?_
 by_cases c7 : b > n
 ·rw [decide_eq_true c7]
  exact aw
 rw [decide_eq_false c7]
 obtain ⟨n', rfl⟩ := Int.eq_ofNat_of_zero_le (show 0 ≤ n by omega)
 obtain ⟨a', rfl⟩ := Int.eq_ofNat_of_zero_le (show 0 ≤ a by omega)
 obtain ⟨b', rfl⟩ := Int.eq_ofNat_of_zero_le (show 0 ≤ b by omega)
 refine Ev.step (fun _ => laws_FnRolesLevels.j0.eq_2 _ _ _ _ _ _) (Ev.neg (by simp) ?_)
 exact levels_l0 lv n' a' b' (by omega) (by omega) (by omega) (by omega) (by omega) n' 0 rfl (by omega)

end Go.Proofs.YtjijaciaioieaaaGreat.Pure
