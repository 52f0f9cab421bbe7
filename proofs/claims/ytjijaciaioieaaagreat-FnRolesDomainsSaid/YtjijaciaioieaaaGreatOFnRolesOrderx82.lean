/- The machine side of laws.FnRolesOrder: HasLink of a manager of roles; a manager made. Each theorem says its own conditions. -/
import Derived.Test.YtjijaciaioieaaaGreatOFnRolesOrderx81
import Derived.StillTailTactics
import Derived.Handy
import Derived.MapKept
import Derived.Maps.RangeRun
import Derived.OneCell
import Derived.LoopN
import Derived.Maps.OwnSet
import Derived.Maps.AppendAt
import Derived.Defers
import Derived.Conc.MuLone
import Derived.Conc.MuLib
namespace Go.Proofs.YtjijaciaioieaaaGreat.PFnRolesOrder
open Go.RowKit Go.Proofs.YtjijaciaioieaaaGreatW.PrintWords Go.Proofs.YtjijaciaioieaaaGreatW.PrintLast Go.Proofs.YtjijaciaioieaaaGreatW.PrintMore
set_option linter.unusedVariables false
set_option linter.unusedSimpArgs false
/-! Whether there is a link: the helper that goes by levels. -/
section
open Go.Proofs
def hasG (nx : Nx) (b : ByteArray) : Nat → List ByteArray → Bool
 | 0, _ => false
 | n + 1, F => decide (b ∈ F) || hasG nx b n (F.flatMap nx)
theorem hasG_hasF (nx : Nx) (b : ByteArray) : ∀ (n : Nat) (F : List ByteArray), hasG nx b (n + 1) F = hasF nx b n F
 | 0, F => by simp [hasG, hasF]
 | n + 1, F => by
  have := hasG_hasF nx b n (F.flatMap nx)
  rw [hasG, this]; rfl
theorem hasG_congr (nx : Nx) (b : ByteArray) : ∀ (n : Nat) {F G : List ByteArray}, (∀ x, x ∈ F ↔ x ∈ G) → hasG nx b n F = hasG nx b n G
 | 0, F, G, h => rfl
 | n + 1, F, G, h => by
  unfold hasG
  rw [decide_congr (h b), hasG_congr nx b n (F := F.flatMap nx) (G := G.flatMap nx) (fun x => by simp only [List.mem_flatMap, h])]
theorem hasG_none (nx : Nx) (b : ByteArray) : ∀ (n : Nat), hasG nx b n [] = false
 | 0 => rfl
 | n + 1 => by simp [hasG, hasG_none nx b n]
theorem ptrE_putR (k : ByteArray) (n : Nat) : ∀ l : List (ByteArray × Nat), putS k (PT n) (ptrE l) = ptrE (putR k n l)
 | [] => rfl
 | p :: l => by
  have ih := ptrE_putR k n l
  unfold putR
  show (if k = p.1 then _ else _) = _
  by_cases h : k = p.1
  ·rw [if_pos h, if_pos h]; rfl
  ·rw [if_neg h, if_neg h]
   show (p.1, PT p.2) :: putS k (PT n) (ptrE l) = _
   rw [ih]; rfl
theorem NN.put {L : List RoleB} {nn : List (ByteArray × Nat)} {M : ByteArray → Prop} (h : NN L [] nn M) {p : ByteArray × Nat} (hp : ∃ y ∈ L, y.name = p.1 ∧ y.a = p.2) : NN L [] (putR p.1 p.2 nn) (fun x => M x ∨ x = p.1) := by
 refine ⟨nodup_put h.nd, fun x => ?_, fun q hq => ?_⟩
 ·rw [keys_put, h.mem]; simp
 ·rcases putR_mem _ _ _ _ hq with rfl | hq
  ·exact hp
  ·exact h.loc q hq
/-- what the helper's closure has: the next level -/
structure HasAt (b9 mn : Nat) (nn : List (ByteArray × Nat)) (S : Nat → Prop) (W : World) : Prop where
 h9 : W.heap[b9]? = some (.cells #[.map (some mn)] 164 (0, 0))
 hn : KM .string W mn (ptrE nn)
 hS : ∀ k, S k ↔ k = mn
set_option maxHeartbeats 8000000 in
set_option maxRecDepth 100000 in
theorem has_step {b9 mn : Nat} {nn : List (ByteArray × Nat)} {S : Nat → Prop} {W : World} (h : HasAt b9 mn nn S W) (k : ByteArray) (a : Nat) :
  Calls Tryz.prog 129 #[KY k, PV a, PT b9] W fun e W' => e = .returned (.bool true) ∧ HasAt b9 mn (putR k a nn) S W' ∧ Turn S W W' := by
 have hts := as_string (.string k)
 have htr := as_role (PT a)
 have c9 := cell_of_one h.h9
 obtain ⟨es, c1, hrun, hk⟩ := (h.hn.keep (w' := W.drew) rfl).put uSR keyS k (PT a)
 rw [ptrE_putR] at hk
 have HF := Aside0.mk (show HasAt b9 mn (putR k a nn) S (setO W.drew mn (.map es c1)) ∧ Turn S W (setO W.drew mn (.map es c1)) from
  ⟨⟨(setO_ne (fun e => kmty h.hn h.h9 e.symm)).trans h.h9, hk, h.hS⟩, ⟨rfl, rfl, rfl, by rw [setO_size]; exact Nat.le_refl _, fun g _ hg => (setO_ne (fun e => hg ((h.hS g).2 e)))⟩⟩)
 clear h hk
 go_enter Tryz.func129, Tryz.ntmps129
 go_upto_region 1 with (fail)
 go_still_tail 5, (by kernel_rfl)
 change wpList _ _ _ _ _ W.drew
 go_wp2
 go_ret
 exact ⟨rfl, HF.out⟩
theorem has_rstep {w : World} {L : List RoleB} {E : Edges} {x : RoleB} (hG : Graph L E) (hx : x ∈ L) {b9 mn : Nat} {M : ByteArray → Prop} (h9 : b9 < w.heap.size) :
  RStep w (ents x.R) 129 #[PT b9] (fun done S W => ∃ nn, HasAt b9 mn nn S W ∧ NN L [] nn (fun b => M b ∨ b ∈ done.map (·.1))) := by
 refine ⟨fun done rest S W k v hp hq => ?_, fun done S W W' hq hk hsz _ => ?_, fun done S W hq => ?_⟩
 ·obtain ⟨nn, h1, h4⟩ := hq
  have hin : (k, v) ∈ ents x.R := hp.mem_iff.1 (by simp)
  obtain ⟨q, hq, he⟩ := List.mem_map.1 hin
  injection he with hk hv
  rw [← hv, ← hk]
  refine (has_step h1 q.1 q.2).mono ?_
  rintro e w' ⟨rfl, g1, g3⟩
  refine ⟨rfl, S, ⟨_, g1, (h4.put (p := q) (hG.cr x hx q hq)).iff (fun b => ?_)⟩, NextS.refl _ _, g3⟩
  rw [List.map_append, List.mem_append, List.map_cons, List.map_nil, List.mem_singleton, or_assoc]
 ·obtain ⟨nn, h1, h4⟩ := hq
  exact ⟨nn, ⟨(hk _ (Array.getElem?_eq_some_iff.1 h1.h9).1 (.inl h9)).trans h1.h9, h1.hn.keep (hk _ h1.hn.lt (.inr ((h1.hS _).2 rfl))), h1.hS⟩, h4⟩
 ·obtain ⟨nn, h1, _⟩ := hq
  exact fun k hk => by rw [(h1.hS k).1 hk]; exact h1.hn.lt
set_option maxHeartbeats 8000000 in
set_option maxRecDepth 100000 in
theorem has_helper {F : Fp} {p s c : Nat} {max : Int} {mc : List Value} {m : Option Nat} {L : List RoleB} {E : Edges} (b : ByteArray) (hR : RMF F p s c max mc m L) (hG : Graph L E) (hE : EOk E) : ∀ (n : Nat) {w : World} {M1 : Nat} {fr : List (ByteArray × Nat)} {lv : Int}, n ≤ 1000001 → lv = (n : Int) - 1 → Mem w F → KM .string w M1 (ptrE fr) → (∀ q ∈ fr, ∃ y ∈ L, y.name = q.1 ∧ y.a = q.2) →
  Calls Tryz.prog 115 #[PT p, .string b, .map (some M1), .int .i64 lv] w fun e w' => e = .returned (.bool (hasG (rolesE E) b n (fr.map (·.1)))) ∧ Below w.heap.size w w' := by
 intro n
 induction n with
 | zero =>
  intro w M1 fr lv hnn hn hM h1 hfr
  subst hn
  clear h1 hM hfr
  go_enter Tryz.func115, Tryz.ntmps115
  go_wp2
  go_ret
  exact ⟨rfl, Below.refl _ _⟩
 | succ n ih =>
  intro w M1 fr lv hnn hn hM h1 hfr
  have hlt : decide (lv < 0) = false := decide_eq_false (by omega)
  have hlen := h1.len (ty := 3) uSR
  have hel : (ptrE fr).length = fr.length := by unfold ptrE; rw [List.length_map]
  rw [hel] at hlen
  by_cases hfe : fr = []
  ·subst hfe
   clear h1 hM hn hnn hel ih hfr
   go_enter Tryz.func115, Tryz.ntmps115
   go_wp2
   go_ret
   exact ⟨by rw [List.map_nil, hasG_none]; rfl, Below.refl _ _⟩
  ·have hl0 : ((fr.length : Int) == 0) = false := by
    have := List.length_pos_iff.2 hfe
    exact beq_eq_false_iff_ne.2 (by omega)
   have H1 := Aside0.mk h1
   have HFR := Aside0.mk hfr
   have HM := Aside0.mk hM
   have HN := Aside0.mk (And.intro hn hnn)
   have HIH := Aside0.mk @ih
   have hmm := @run_makeMap Tryz.prog
   clear h1 hfr hM hn hnn hel ih hfe
   go_enter Tryz.func115, Tryz.ntmps115
   go_upto_region 4 with (fail)
   obtain ⟨W4, hW4⟩ : ∃ W4, W4 = ((w.alloc (Obj.map #[] 0)).alloc (Obj.cells #[Value.map (some w.heap.size)] 164)) := ⟨_, rfl⟩
   have hsz4 : W4.heap.size = w.heap.size + 2 := by rw [hW4]; simp
   have hb4 : Below w.heap.size w W4 := by rw [hW4]; exact ((Below.refl _ _).alloc (Nat.le_refl _) _).alloc (by simp <;> omega) _
   have hbn : KM .string W4 w.heap.size (ptrE []) := by
    rw [hW4]
    exact (KM.made w).keep (heap_alloc_old _ _ (by simp))
   have hb9 : W4.heap[w.heap.size + 1]? = some (.cells #[.map (some w.heap.size)] 164 (0, 0)) := by
    rw [hW4]
    have := heap_alloc_new (w.alloc (Obj.map #[] 0)) (Obj.cells #[Value.map (some w.heap.size)] 164)
    simpa using this
   rw [← hW4]
   clear hW4 hlen
   obtain ⟨o, hrun, hrg⟩ := (H1.out.below hb4).range uSR
   obtain ⟨W5, hW5⟩ : ∃ W5, W5 = W4.alloc o := ⟨_, rfl⟩
   have hb5 : Below w.heap.size w W5 := by rw [hW5]; exact hb4.alloc (by omega) _
   have hI5 := Aside0.mk (show HasAt (w.heap.size + 1) w.heap.size [] (fun k => k = w.heap.size) W5 from by
    rw [hW5]
    exact ⟨(heap_alloc_old _ _ (by omega)).trans hb9, hbn.keep (heap_alloc_old _ _ (by omega)), fun k => Iff.rfl⟩)
   rw [← hW5] at hrg hrun
   have HRG := Aside0.mk hrg
   have HB5 := Aside0.mk hb5
   have hr4 : w.heap.size + 2 ≤ W4.heap.size := by omega
   clear hb4 hsz4 hrg hb5 hW5 hbn hb9
   generalize W4.heap.size = r at *
   go_wp2
   go_loopw [11] (fun v11 wr => ∃ (D A : List (ByteArray × Nat)) (nn : List (ByteArray × Nat)) (S : Nat → Prop), Aside0 ((D ++ A).Perm fr) ∧ Aside0 (RgS .string wr r M1 (ptrE fr) (ptrE A)) ∧ Aside0 (HasAt (w.heap.size + 1) w.heap.size nn S wr) ∧ Aside0 (NN L [] nn (fun b => ∃ q ∈ D, (q.1, b) ∈ E)) ∧ Aside0 (∀ q ∈ D, q.1 ≠ b) ∧ Aside0 (Below w.heap.size w wr))
    (fun _ wr => leftS wr r M1)
   case atStart => exact ⟨[], fr, [], _, ⟨List.Perm.refl _⟩, HRG, hI5, ⟨(NN.start L []).iff (fun x => by simp)⟩, ⟨fun q hq => by cases hq⟩, HB5⟩
   case round =>
    clear HRG hI5 HB5 hrun
    obtain ⟨D, A, nn, S, HP, HRG, HI, HNN, HDB, HB⟩ := hrel
    have HMr := Aside0.mk (HM.out.below HB.out)
    rcases HRG.out.next (P := Tryz.prog) with ⟨hA, hnx⟩ | ⟨A', k, v, B', w1, hA, hnx, hrg1, hst1, hen⟩
    ·have hA0 : A = [] := List.map_eq_nil_iff.1 hA
     subst hA0
     rw [List.append_nil] at HP
     have c9 := cell_of_one HI.out.h9
     have hw1 : wrap64 (lv - 1) = lv - 1 := by
      have h1 := HN.out.1
      have h2 := HN.out.2
      unfold wrap64
      omega
     have HC := Aside0.mk (HIH.out (w := wr) (M1 := w.heap.size) (fr := nn) (lv := lv - 1) (by
      have := HN.out.2
      omega) (by
      have := HN.out.1
      omega) HMr.out HI.out.hn HNN.out.loc)
     have HEQ := Aside0.mk (show hasG (rolesE E) b (n + 1) (fr.map (·.1)) = hasG (rolesE E) b n (nn.map (·.1)) from by
      have h1 : decide (b ∈ fr.map (·.1)) = false := decide_eq_false (fun h => by
       obtain ⟨q, hq, he⟩ := List.mem_map.1 h
       exact HDB.out q (HP.out.mem_iff.2 hq) he)
      rw [hasG, h1, Bool.false_or]
      refine hasG_congr _ _ _ (fun x => ?_)
      rw [HNN.out.mem, List.mem_flatMap]
      constructor
      ·rintro ⟨y, hy, he⟩
       obtain ⟨q, hq, rfl⟩ := List.mem_map.1 hy
       exact ⟨⟨q, HP.out.mem_iff.2 hq, (rolesE_mem E _ _).1 he⟩, by simp⟩
      ·rintro ⟨⟨q, hq, he⟩, _⟩
       exact ⟨q.1, List.mem_map_of_mem (HP.out.mem_iff.1 hq), (rolesE_mem E _ _).2 he⟩)
     clear hA HIH
     go_wp2_with (go_at_call 115; refine HC.out.mono ?_; rintro e w3 ⟨rfl, hb3⟩; have HB3 := Aside0.mk hb3; clear hb3)
     go_ret
     exact ⟨by rw [HEQ.out]; rfl, HB.out.trans (HB3.out.mono HB.out.size)⟩
    ·obtain ⟨P1, P2, hAA, hA1, hB1⟩ := List.map_eq_append_iff.1 hA
     obtain ⟨q, P3, hP2, hq, hB2⟩ := List.map_eq_cons_iff.1 hB1
     injection hq with hqk hqv
     subst hqk hqv hP2 hAA hA1 hB2
     have hqf : q ∈ fr := HP.out.mem_iff.1 (by simp)
     obtain ⟨y, hy, hyn, hya⟩ := HFR.out q hqf
     have hrl := HRG.out.lt.1
     have hb1 : Below w.heap.size w w1 := HB.out.trans (hst1.below (by omega))
     have hM1 : Mem w1 F := HM.out.below hb1
     have c0 : w1.cell? ⟨y.a, 0, none⟩ = some (.string q.1) := by rw [← hyn]; exact load_cell hM1 (hR.roles y hy).a rfl
     have c2 : w1.cell? ⟨p, 2, none⟩ = some .nilFunc := load_cell hM1 hR.p rfl
     rw [← hya] at hen hnx
     by_cases hqb : q.1 = b
     ·have hbk : (b == q.1) = true := (MapKept.bytes_beq _ _).2 hqb.symm
      have HEQ := Aside0.mk (show hasG (rolesE E) b (n + 1) (fr.map (·.1)) = true from by
       rw [hasG, decide_eq_true (show b ∈ fr.map (·.1) from by rw [← hqb]; exact List.mem_map_of_mem hqf), Bool.true_or])
      have HB1 := Aside0.mk hb1
      clear hA hB1 hyn hya hrl hb1 hM1 hst1 hrg1 HRG HI HNN HMr HIH hy hqf
      go_wp2
      go_ret
      exact ⟨by rw [HEQ.out]; rfl, HB1.out⟩
     ·have hbk : (b.toList == q.1.toList) = false := by
       rw [beq_eq_false_iff_ne, ByteArray.toList_eq, ByteArray.toList_eq]
       exact fun h => hqb (ByteArray.ext (Array.ext' h.symm))
      have hnf : ∀ W : World, (binOp .neq 87 .nilFunc .nilFunc).run Tryz.prog W = .ok (.bool false) W := fun W => by kernel_rfl
      have hI1 : HasAt (w.heap.size + 1) w.heap.size nn S w1 := ⟨(hst1.block _ (by omega)).trans HI.out.h9, HI.out.hn.keep (hst1.block _ (by omega)), HI.out.hS⟩
      have hsz1 := hst1.size
      have hrs := has_rstep (w := w1) hG hy (b9 := w.heap.size + 1) (mn := w.heap.size) (M := fun b => ∃ q ∈ D, (q.1, b) ∈ E) (by omega)
      have HRR := Aside0.mk (range_roles hM1 hR hG hy (hG.pr hE hy).2.1 (n := 129) (caps := #[PT (w.heap.size + 1)]) (fun args w => by kernel_rfl) hrs ⟨nn, hI1, HNN.out.iff (fun b => by simp)⟩ (fun k hk => by rw [(HI.out.hS k).1 hk]; omega) (fun k hk => by
       rw [(HI.out.hS k).1 hk]
       cases hf : F w.heap.size with
       | none => rfl
       | some z => exact absurd (HM.out _ z.1 z.2 hf).lt (Nat.lt_irrefl _)))
      have hmf : ∀ (fn : Fn) (first cap : Array Value) (w : World), (Instr.makeFunc fn first cap).run Tryz.prog w = .ok (.func fn first cap) w := fun _ _ _ _ => rfl
      have HMV := Aside0.mk (fun (w' : World) (done : Ents) (S' : Nat → Prop) (nn' : List (ByteArray × Nat)) (hp : done.Perm (ents y.R)) (hn : NN L [] nn' (fun b => (∃ q ∈ D, (q.1, b) ∈ E) ∨ b ∈ done.map (·.1))) (hT2 : Turn S w1 w') => show RgS .string w' r M1 (ptrE fr) (ptrE (P1 ++ P3)) ∧ NN L [] nn' (fun b => ∃ z ∈ D ++ [q], (z.1, b) ∈ E) ∧ Below w.heap.size w w' from by
       refine ⟨?_, hn.iff (fun b => ?_), Turn.toBelow hb1 hT2 (by omega) (fun k hk => by rw [(HI.out.hS k).1 hk]; exact Nat.le_refl _)⟩
       ·have hrg2 : RgS .string w1 r M1 (ptrE fr) (ptrE (P1 ++ P3)) := by
         have e : ptrE (P1 ++ P3) = ptrE P1 ++ ptrE P3 := by unfold ptrE; rw [List.map_append]
         rw [e]; exact hrg1
        have hml := H1.out.lt
        exact hrg2.keep (hT2.block r (by omega) (fun h => by
         have := (HI.out.hS r).1 h
         omega)) (hT2.block M1 hrg1.lt.2 (fun h => by
         have := (HI.out.hS M1).1 h
         omega))
       ·have e1 : b ∈ done.map (·.1) ↔ (q.1, b) ∈ E := by
         rw [(hp.map (·.1)).mem_iff, ← hyn, ← hG.r y hy b]
         unfold ents
         rw [List.map_map]
         exact Iff.rfl
        rw [e1]
        constructor
        ·rintro (⟨z, hz, h⟩ | h)
         ·exact ⟨z, List.mem_append_left _ hz, h⟩
         ·exact ⟨q, by simp, h⟩
        ·rintro ⟨z, hz, h⟩
         rcases List.mem_append.1 hz with hz | hz
         ·exact .inl ⟨z, hz, h⟩
         ·rw [List.mem_singleton] at hz
          exact .inr (by rw [← hz]; exact h))
      have HCT := Aside0.mk (show ∀ w', RgS .string w' r M1 (ptrE fr) (ptrE (P1 ++ P3)) → leftS w' r M1 < leftS wr r M1 from fun w' h => by
       rw [h.count, HRG.out.count]
       unfold ptrE
       simp)
      have HPP := Aside0.mk (perm_mid HP.out)
      have HDD := Aside0.mk (show ∀ z ∈ D ++ [q], z.1 ≠ b from fun z hz => by
       rcases List.mem_append.1 hz with hz | hz
       ·exact HDB.out z hz
       ·rw [List.mem_singleton] at hz
        rw [hz]; exact hqb)
      have hyl := (hM1 _ _ _ (hR.roles y hy).a).lt
      have hpl := (hM1 _ _ _ hR.p).lt
      clear hA hB1 hyn hya hrl hb1 hM1 hI1 hsz1 hrs hst1 hrg1 HRG HI HNN HMr HIH hy hqf hqb
      go_wp2_with (go_at_call 120; refine HRR.out.mono ?_; rintro e w2 ⟨rfl, done, S', hp, ⟨nn', hI', hN'⟩, hNx, hTu⟩; obtain ⟨g1, g2, g3⟩ := HMV.out w2 done S' nn' hp hN' hTu; have G1 := Aside0.mk g1; have G2 := Aside0.mk g2; have G3 := Aside0.mk g3; have G5 := Aside0.mk hI'; clear g1 g2 g3 hI' hN' hNx hTu hp)
      go_roundw
      case rel => exact ⟨D ++ [q], P1 ++ P3, nn', S', HPP, G1, G5, G2, HDD, G3⟩
      case measure => exact HCT.out _ G1.out
end
/-! A region that draws its order: operations that only read (rd: where they stand, their slots), and a chain wherever it stands (ch), the last one last. -/
section
variable {P : Program} {ops : Array Oper} {Q : Exit → Act → World → Prop}
theorem region_mix {n id : Nat} {d : List Deferred} {t : Nat → Value} {w : World} (hm : P.follows .mixedOrders = true) (rd : List (Nat × Nat)) (ch : List Nat) (Cs : Nat → Option Nat) (V : Nat → Value) (Z : Nat → (Nat → Value) → World → Prop) (T : List (List Nat))
  (hT : (List.range ops.size).map (fun i => match ops[i]? with | some o => o.after.toList.filterMap (fun e => if Region.binds .any e = true then some e.on else none) | none => []) = T)
  (hlow : (T.zipIdx.all fun p => p.1.all fun n => decide (n < p.2)) = true)
  (hsz : ops.size = rd.length + ch.length + 1) (hcov : ∀ i, i < rd.length + ch.length → (∃ k, k < rd.length ∧ (rd.getD k (0, 0)).1 = i) ∨ ∃ k, k < ch.length ∧ ch.getD k 0 = i)
  (hnr : (rd.map (·.1)).Nodup) (hns : (rd.map (·.2)).Nodup) (hnc : ch.Nodup) (hrc : ∀ k, k < rd.length → ∀ j, j < ch.length → (rd.getD k (0, 0)).1 ≠ ch.getD j 0) (hcs : ∀ k, k < rd.length → ∀ j, j < ch.length → Cs j ≠ some (rd.getD k (0, 0)).2)
  (hrl : ∀ k, k < rd.length → (rd.getD k (0, 0)).1 < rd.length + ch.length) (hcl : ∀ k, k < ch.length → ch.getD k 0 < rd.length + ch.length) (hDn : ∀ k, k < rd.length → (rd.getD k (0, 0)).2 < n)
  (hchain : ∀ i, i < ch.length - 1 → ch.getD i 0 ∈ T.getD (ch.getD (i + 1) 0) []) (hfull : ∀ k, k < rd.length + ch.length → k ∈ T.getD (rd.length + ch.length) [])
  (hpure : ∀ i, i < rd.length → ∀ s W q, q ≤ ch.length → Z q s W → (∀ r, r < q → (rd.getD i (0, 0)).1 ∉ T.getD (ch.getD r 0) []) → (∀ k, k < rd.length → (rd.getD k (0, 0)).1 ∈ T.getD (rd.getD i (0, 0)).1 [] → s (rd.getD k (0, 0)).2 = V (rd.getD k (0, 0)).1) → (∀ j, j ∉ rd.map (·.2) → (∀ k, k < ch.length → Cs k ≠ some j) → s j = t j) →
   ∃ o, ops[(rd.getD i (0, 0)).1]? = some o ∧ o.dst = some (rd.getD i (0, 0)).2 ∧ (∀ a : Act, Region.wanted o (yielded ops a.tmps) = true) ∧ (execOp (mkN n d s).eval o).run P W = .ok (.value (V (rd.getD i (0, 0)).1)) W)
  (hz0 : Z 0 t w.drew) (hstab : ∀ q s x v W, x ∈ rd.map (·.2) → Z q s W → Z q (updN s x v) W)
  (hstep : ∀ i, i < ch.length → ∀ s W, (∀ k, k < rd.length → (rd.getD k (0, 0)).1 ∈ T.getD (ch.getD i 0) [] → s (rd.getD k (0, 0)).2 = V (rd.getD k (0, 0)).1) → (∀ j, j ∉ rd.map (·.2) → (∀ k, k < ch.length → Cs k ≠ some j) → s j = t j) → Z i s W → ∀ K : Act → World → Prop, (∀ s' W', Z (i + 1) s' W' → (∀ j, Cs i ≠ some j → s' j = s j) → K (mkN n d s') W') → wpOp P ops Q (ch.getD i 0) K (mkN n d s) W)
  (hlast : ∀ s W, Z ch.length s W → (∀ k, k < rd.length → s (rd.getD k (0, 0)).2 = V (rd.getD k (0, 0)).1) → (∀ j, j ∉ rd.map (·.2) → (∀ k, k < ch.length → Cs k ≠ some j) → s j = t j) → wpOp P ops Q (rd.length + ch.length) (fun a W => Q .normal a W) (mkN n d s) W) :
  (Code.region id ops true).wp P Q (mkN n d t) w := by
 have hmem2 : ∀ k, k < rd.length → (rd.getD k (0, 0)).2 ∈ rd.map (·.2) := fun k hk => by
  rw [List.getD_eq_getElem?_getD, List.getElem?_eq_getElem hk]
  exact List.mem_map_of_mem (List.getElem_mem hk)
 have hinjR : ∀ i k, i < rd.length → k < rd.length → (rd.getD i (0, 0)).2 = (rd.getD k (0, 0)).2 → i = k := fun i k hi hk e => by
  have h1 : (rd.map (·.2))[i]'(by simpa using hi) = (rd.map (·.2))[k]'(by simpa using hk) := by
   rw [List.getD_eq_getElem?_getD, List.getD_eq_getElem?_getD, List.getElem?_eq_getElem hi, List.getElem?_eq_getElem hk] at e
   simpa using e
  exact (List.getElem_inj hns).1 h1
 have hinjC : ∀ i k, i < ch.length → k < ch.length → ch.getD i 0 = ch.getD k 0 → i = k := fun i k hi hk e => by
  rw [List.getD_eq_getElem?_getD, List.getD_eq_getElem?_getD, List.getElem?_eq_getElem hi, List.getElem?_eq_getElem hk] at e
  exact (List.getElem_inj hnc).1 e
 have hinjP : ∀ i k, i < rd.length → k < rd.length → (rd.getD i (0, 0)).1 = (rd.getD k (0, 0)).1 → i = k := fun i k hi hk e => by
  have h1 : (rd.map (·.1))[i]'(by simpa using hi) = (rd.map (·.1))[k]'(by simpa using hk) := by
   rw [List.getD_eq_getElem?_getD, List.getD_eq_getElem?_getD, List.getElem?_eq_getElem hi, List.getElem?_eq_getElem hk] at e
   simpa using e
  exact (List.getElem_inj hnr).1 h1
 let J : Array Bool → Act → World → Prop := fun L a W =>
  (hasL_ L (rd.length + ch.length) = true ∧ (∀ k, k < rd.length + ch.length → hasL_ L k = true) ∧ Q .normal a W) ∨
  (hasL_ L (rd.length + ch.length) = false ∧ ∃ s q, a = mkN n d s ∧ q ≤ ch.length ∧ (∀ k, k < ch.length → hasL_ L (ch.getD k 0) = decide (k < q)) ∧ Z q s W ∧ (∀ k, k < rd.length → hasL_ L (rd.getD k (0, 0)).1 = true → s (rd.getD k (0, 0)).2 = V (rd.getD k (0, 0)).1) ∧ (∀ j, j ∉ rd.map (·.2) → (∀ k, k < ch.length → Cs k ≠ some j) → s j = t j) ∧ (∀ j k, k ∈ T.getD j [] → hasL_ L j = true → hasL_ L k = true))
 have hz : ∀ j, hasL_ (Array.replicate ops.size false) j = false := by
  intro j
  unfold hasL_
  rw [Array.getD_eq_getD_getElem?, Array.getElem?_replicate]
  split <;> rfl
 refine region_inv hm J T hT hlow ?_ ?_ ?_
 ·refine .inr ⟨hz _, t, 0, rfl, Nat.zero_le _, fun k _ => by rw [hz, decide_eq_false (by omega)], hz0, fun k _ h => ?_, fun _ _ _ => rfl, fun j k _ h => ?_⟩ <;> (rw [hz] at h; cases h)
 ·intro L a W i hL hi hn hneed hJ
  have hself : hasL_ (L.setIfInBounds i true) i = true := by rw [hasL_set (by omega), if_pos rfl]
  have hoth : ∀ j, j ≠ i → hasL_ (L.setIfInBounds i true) j = hasL_ L j := fun j hj => by rw [hasL_set (by omega), if_neg hj]
  rcases hJ with ⟨h1, h2, _⟩ | ⟨h1, s, q, rfl, hq, hst, hZ, hv, hold, hcl2⟩
  ·exfalso
   rcases Nat.lt_or_ge i (rd.length + ch.length) with g | g
   ·rw [h2 i g] at hn; cases hn
   ·obtain rfl : i = rd.length + ch.length := by omega
    rw [h1] at hn; cases hn
  ·have hcl' : ∀ j k, k ∈ T.getD j [] → hasL_ (L.setIfInBounds i true) j = true → hasL_ (L.setIfInBounds i true) k = true := fun j k hk hl => by
    by_cases e : k = i
    ·rw [e]; exact hself
    ·rw [hoth k e]
     by_cases e2 : j = i
     ·rw [e2] at hk; exact hneed k hk
     ·rw [hoth j e2] at hl; exact hcl2 j k hk hl
   by_cases g : i = rd.length + ch.length
   ·subst g
    have hall : ∀ k, k < rd.length + ch.length → hasL_ L k = true := fun k hk => hneed k (hfull k hk)
    have hqm : q = ch.length := by
     rcases Nat.eq_or_lt_of_le hq with e | e
     ·exact e
     ·have h3 := hst q e
      rw [hall _ (hcl q e)] at h3
      have := of_decide_eq_true h3.symm
      omega
    subst hqm
    refine wpOp_mono (fun a' W' hq2 => .inl ⟨hself, fun k hk => ?_, hq2⟩) (hlast s W hZ (fun k hk => hv k hk (hall _ (hrl k hk))) hold)
    rw [hoth k (by omega)]
    exact hall k hk
   ·have hlast0 : hasL_ (L.setIfInBounds i true) (rd.length + ch.length) = false := by rw [hoth _ (fun e => g e.symm)]; exact h1
    rcases hcov i (by omega) with ⟨r, hr, rfl⟩ | ⟨r, hr, rfl⟩
    ·obtain ⟨o, ho, hod, how, hrun⟩ := hpure r hr s W q hq hZ (fun z hz2 hmem => by
      have h5 := hcl2 _ _ hmem (by rw [hst z (by omega)]; exact decide_eq_true hz2)
      rw [hn] at h5; cases h5) (fun k hk hkT => hv k hk (hneed _ hkT)) hold
     refine YieldsIf.wpOp (S := fun x => x = W) ho (v := V (rd.getD r (0, 0)).1) (.inl ⟨how _, fun x hx => by rw [hx]; exact hrun⟩) rfl ?_
     rw [hod, mkN_put _ _ _ (hDn r hr)]
     refine .inr ⟨hlast0, _, q, rfl, hq, fun k hk => ?_, hstab _ _ _ _ _ (hmem2 r hr) hZ, fun k hk hl => ?_, fun j hj hj2 => ?_, hcl'⟩
     ·rw [hoth _ (fun e => hrc r hr k hk e.symm)]; exact hst k hk
     ·by_cases e : k = r
      ·subst e; exact updN_self _ _ _
      ·rw [updN_ne (fun z => e (hinjR k r hk hr z))]
       rw [hoth _ (fun z => e (hinjP k r hk hr z))] at hl
       exact hv k hk hl
     ·rw [updN_ne (fun e => hj (by rw [e]; exact hmem2 r hr))]
      exact hold j hj hj2
    ·have hqr : q = r := by
      have h2 := hst r hr
      rw [hn] at h2
      have h3 := of_decide_eq_false h2.symm
      rcases Nat.eq_zero_or_pos r with e | e
      ·omega
      ·have h4 := hneed (ch.getD (r - 1) 0) (by have := hchain (r - 1) (by omega); rwa [show r - 1 + 1 = r from by omega] at this)
       rw [hst _ (by omega)] at h4
       have := of_decide_eq_true h4
       omega
     subst hqr
     refine hstep q hr s W (fun k hk hkT => hv k hk (hneed _ hkT)) hold hZ _ (fun s' W' hZ' hs' => ?_)
     refine .inr ⟨hlast0, s', q + 1, rfl, by omega, fun k hk => ?_, hZ', fun k hk hl => ?_, fun j hj hj2 => ?_, hcl'⟩
     ·by_cases e : k = q
      ·subst e; rw [hself, decide_eq_true (by omega)]
      ·rw [hoth _ (fun z => e (hinjC k q hk hr z)), hst k hk]
       by_cases e2 : k < q
       ·rw [decide_eq_true e2, decide_eq_true (by omega)]
       ·rw [decide_eq_false e2, decide_eq_false (by omega)]
     ·rw [hs' _ (fun e => hcs k hk q hr e)]
      rw [hoth _ (fun z => hrc k hk q hr z)] at hl
      exact hv k hk hl
     ·rw [hs' _ (hj2 q hr)]
      exact hold j hj hj2
 ·intro L a W hL hall hJ
  rcases hJ with ⟨_, _, hq⟩ | ⟨h1, _⟩
  ·exact hq
  ·rw [hall _ (by omega)] at h1; cases h1
end
/-! The lock. -/
section
open Go.Proofs
abbrev muL : Go.Conc.Locks.MuLink := { lock := 113, unlock := 114, ilock := 127, iunlock := 128, lockSlow := 141, unlockSlow := 144, disable := 137, enable := 139, acquire := 140, relMerge := 142, cas32 := 138, add32 := 143, tMutex := 95, tIMutex := 93, tPMutex := 174, tPIMutex := 177, tPI32 := 179, tUP := 181, tNoCopy := 90, tU32 := 91 }
theorem muLib : Go.Conc.Locks.MuLib Tryz.prog muL := by
 refine ⟨?_, ?_, ?_, ?_, ?_, ?_, ?_, ?_, ?_, ?_, ?_, ?_, ?_, ?_, ?_, ?_, ?_, ?_, ?_, ?_, ?_, ?_, ?_, ?_, ?_, ?_, ?_, ?_, ?_, ?_, ?_, ?_, ?_, ?_, ?_, ?_, ?_, ?_, ?_, ?_, ?_, ?_, ?_, ?_, ?_, ?_, ?_, ?_, ?_, ?_, ?_⟩
 all_goals first
  | (intro w; kernel_rfl)
  | kernel_rfl
end
/-! HasLink of a role manager. -/
section
open Go.Proofs
structure Went (F F' : Fp) (w w' : World) : Prop where
 n : Next w.heap.size F F'
 t : TurnF F w w'
theorem Went.refl (F : Fp) (w : World) : Went F F w w := ⟨NextS.refl _ _, Turn.refl _ _⟩
theorem Went.trans {F G H : Fp} {a b c : World} (h : Went F G a b) (k : Went G H b c) : Went F H a c := ⟨h.n.trans k.n h.t.size, h.t.trans h.n k.t⟩
theorem Went.below {F : Fp} {a b : World} (h : Below a.heap.size a b) : Went F F a b := ⟨NextS.refl _ _, Turn.ofBelow _ h⟩
theorem RMF.withMc {F F' : Fp} {p s c : Nat} {max : Int} {mc mc' : List Value} {m : Option Nat} {L : List RoleB} (h : RMF F p s c max mc m L) (hs : Stay (fun t => t = .rm) F F') (hp : F' p = some (.rm, .cells (PT s :: .int .i64 max :: .nilFunc :: .nilFunc :: PT c :: mc').toArray 97)) : RMF F' p s c max mc' m L :=
 ⟨hp, hs _ _ _ h.s (by simp), h.m.stay (by simp) hs, fun x hx => (h.roles x hx).stay hs (fun t ht => by subst ht; simp [Tag.of]), h.names⟩
theorem rm_mu {F : Fp} {w : World} {p s c : Nat} {max : Int} {x y : Value} {m : Option Nat} {L : List RoleB} (u : Value) (hM : Mem w F) (hR : RMF F p s c max [x, y] m L) : ∃ F', Mem (w.setCell ⟨p, 5, none⟩ u) F' ∧ RMF F' p s c max [u, y] m L ∧ Went F F' w (w.setCell ⟨p, 5, none⟩ u) := by
 have hp : w.heap[p]? = some (.cells (PT s :: .int .i64 max :: .nilFunc :: .nilFunc :: PT c :: [x, y]).toArray 97 (0, 0)) := hM _ _ _ hR.p
 have hpl := (Array.getElem?_eq_some_iff.1 hp).1
 refine ⟨upd F p (.rm, .cells (PT s :: .int .i64 max :: .nilFunc :: .nilFunc :: PT c :: [u, y]).toArray 97), mem_upd hM (fun k hk _ => Below.heap_setCell _ _ _ _ hk) ?_, hR.withMc (fun q t pc hq hn => (upd_ne F _ (fun e => ?_)).trans hq) (upd_same _ _ _), ⟨next_upd (.inl (by rw [hR.p]; exact Option.some_ne_none _)), rfl, rfl, rfl, by simp, fun k hk hn => Below.heap_setCell _ _ _ _ (fun e => hn ?_)⟩⟩
 ·show (w.setCell ⟨p, 5, none⟩ u).heap[p]? = _
  simp [World.setCell, Array.getElem?_modify, hp]
 ·rw [e, hR.p] at hq
  injection hq with hq
  injection hq with h1 _
  exact hn h1.symm
 ·have e : k = p := e
  show F k ≠ none
  rw [e, hR.p]; exact Option.some_ne_none _
theorem rm_mu_free {F : Fp} {w : World} {p s c : Nat} {max : Int} {mc : List Value} {m : Option Nat} {L : List RoleB} (hM : Mem w F) (hR : RMF F p s c max mc m L) : w.frozen? ⟨p, 5, none⟩ = false := by
 have hp : w.heap[p]? = some (.cells (PT s :: .int .i64 max :: .nilFunc :: .nilFunc :: PT c :: mc).toArray 97 (0, 0)) := hM _ _ _ hR.p
 simp [World.frozen?, hp]
theorem mk78_lit (d : List Deferred) (s : Nat → Value) : mkN 78 d s = { tmps := #[s 0, s 1, s 2, s 3, s 4, s 5, s 6, s 7, s 8, s 9, s 10, s 11, s 12, s 13, s 14, s 15, s 16, s 17, s 18, s 19, s 20, s 21, s 22, s 23, s 24, s 25, s 26, s 27, s 28, s 29, s 30, s 31, s 32, s 33, s 34, s 35, s 36, s 37, s 38, s 39, s 40, s 41, s 42, s 43, s 44, s 45, s 46, s 47, s 48, s 49, s 50, s 51, s 52, s 53, s 54, s 55, s 56, s 57, s 58, s 59, s 60, s 61, s 62, s 63, s 64, s 65, s 66, s 67, s 68, s 69, s 70, s 71, s 72, s 73, s 74, s 75, s 76, s 77], defers := d } := rfl
set_option maxHeartbeats 16000000 in
set_option maxRecDepth 100000 in
theorem rm_has {F : Fp} {w : World} {p s c : Nat} {max : Int} {y : Value} {m : Option Nat} {L : List RoleB} {E : Edges} (hmax : 0 ≤ max ∧ max ≤ 1000000) (hM : Mem w F) (hR : RMF F p s c max [.int .i32 0, y] m L) (hG : Graph L E) (hE : EOk E) (n1 n2 : ByteArray) (dv : Value) :
  Calls Tryz.prog 105 #[PT p, .string n1, .string n2, dv] w fun e w' => e = .returned (.tuple #[.bool (hasF (rolesE E) n2 max.toNat [n1]), .nilIface]) ∧ RMPost F w p s c max [.int .i32 0, y] E w' := by
 have c2 : w.cell? ⟨p, 2, none⟩ = some .nilFunc := load_cell hM hR.p rfl
 have hnf : ∀ W : World, (binOp .neq 87 .nilFunc .nilFunc).run Tryz.prog W = .ok (.bool false) W := fun W => by kernel_rfl
 have hmm := @run_makeMap Tryz.prog
 by_cases hne : n1 = n2
 ·have hbk : (n1.toList == n2.toList) = true := by rw [hne, beq_iff_eq]
  have HF := Aside0.mk (show hasF (rolesE E) n2 max.toNat [n1] = true ∧ RMPost F w p s c max [.int .i32 0, y] E w from
   ⟨(hasF_iff (rolesE E) n1 n2 max.toNat 0 [n1] (fun x => by rw [List.mem_singleton]; rfl)).2 ⟨0, Nat.le_refl _, by omega, hne.symm⟩, F, m, L, hM, hR, hG, NextS.refl _ _, Turn.refl _ _⟩)
  clear hM hR hG hmm
  go_enter_defers Tryz.func105, Tryz.ntmps105
  go_wp2
  refine ⟨_, results_tmp2 rfl _ _ _, ?_⟩
  exact ⟨by rw [HF.out.1]; rfl, HF.out.2⟩
 ·have hbk : (n1.toList == n2.toList) = false := by
   rw [beq_eq_false_iff_ne, ByteArray.toList_eq, ByteArray.toList_eq]
   exact fun h => hne (ByteArray.ext (Array.ext' h))
  have HLK := Aside0.mk (Go.MuLone.lock_free muLib ⟨p, 5, none⟩ w (load_cell hM hR.p rfl) (rm_mu_free hM hR))
  obtain ⟨F1, hM1, hR1, hw1⟩ := rm_mu (.int .i32 1) hM hR
  clear hM hR
  by_cases hin1 : n1 ∈ L.map (·.name) <;> by_cases hin2 : n2 ∈ L.map (·.name)
  ·have HG1 := Aside0.mk (get_role_old hM1 hR1 hG hin1)
   have HGG := Aside0.mk hG
   have HW1 := Aside0.mk hw1
   clear hM1 hR1 hw1
   go_enter_defers Tryz.func105, Tryz.ntmps105
   go_upto_region 5 with (go_at_call 113; refine HLK.out.mono ?_; rintro e wl ⟨rfl, rfl⟩)
   generalize w.setCell ⟨p, 5, none⟩ (.int .i32 1) = wl at *
   go_upto_region 6 with (go_at_call 58; refine HG1.out.mono ?_; rintro e w2 ⟨x1, F2, m2, rfl, hM2, hR2, hx1, hn1, hx, ht⟩)
   have hG2 := HGG.out
   have hin3 := hin2
   have HG3 := Aside0.mk (get_role_old hM2 hR2 hG2 hin3)
   have HW2 := Aside0.mk (Went.mk hx ht)
   have hal2 := (hM2 _ _ _ (hR2.roles x1 hx1).a).lt
   have HG2 := Aside0.mk hG2
   clear hM2 hR2 hG2 hx ht HG1 hin3
   go_upto_region 7 with (go_at_call 58; refine HG3.out.mono ?_; rintro e W0 ⟨x2, F3, m3, rfl, hM3, hR3, hx2, hn2, hx, ht⟩)
   have hG3 := HG2.out
   have hx12 := hx1
   have c11 : W0.cell? ⟨x1.a, 0, none⟩ = some (.string n1) := by rw [← hn1]; exact load_cell hM3 (hR3.roles x1 hx12).a rfl
   have c12 : W0.cell? ⟨x2.a, 0, none⟩ = some (.string n2) := by rw [← hn2]; exact load_cell hM3 (hR3.roles x2 hx2).a rfl
   obtain ⟨es, cc, hrun, hk⟩ := (KM.made (ky := .string) W0.drew).put uSR keyS n1 (PT x1.a)
   obtain ⟨W7, hW7⟩ : ∃ W7, W7 = setO (W0.drew.alloc (.map #[] 0)) W0.heap.size (.map es cc) := ⟨_, rfl⟩
   have hrun : (Instr.mapUpdate 164 (.map (some W0.heap.size)) (.string n1) (PT x1.a)).run Tryz.prog (W0.drew.alloc (.map #[] 0)) = .ok () W7 := by rw [hW7]; exact hrun
   have hrun2 : (Instr.mapUpdate 164 (.map (some W0.heap.size)) (.string n1) (PT x1.a)).run Tryz.prog (W0.alloc (.map #[] 0)).drew = .ok () W7 := hrun
   have hk : KM .string W7 W0.heap.size (ptrE [(n1, x1.a)]) := by rw [hW7]; exact hk
   have hb7 : Below W0.heap.size W0 W7 := by
    rw [hW7]
    exact ⟨rfl, rfl, rfl, by rw [setO_size]; simp, fun k hk => (setO_ne (by omega)).trans (heap_alloc_old W0.drew _ hk)⟩
   have hba : Below W0.heap.size W0 (W0.drew.alloc (.map #[] 0)) := ⟨rfl, rfl, rfl, by simp, fun k hk => heap_alloc_old W0.drew _ hk⟩
   have HCW := Aside0.mk (show (W0.drew.cell? ⟨x1.a, 0, none⟩ = some (.string n1) ∧ W0.drew.cell? ⟨x2.a, 0, none⟩ = some (.string n2) ∧ W0.drew.cell? ⟨p, 1, none⟩ = some (.int .i64 max)) ∧ ((W0.drew.alloc (.map #[] 0)).cell? ⟨x1.a, 0, none⟩ = some (.string n1) ∧ (W0.drew.alloc (.map #[] 0)).cell? ⟨x2.a, 0, none⟩ = some (.string n2) ∧ (W0.drew.alloc (.map #[] 0)).cell? ⟨p, 1, none⟩ = some (.int .i64 max)) ∧ (W7.cell? ⟨x1.a, 0, none⟩ = some (.string n1) ∧ W7.cell? ⟨x2.a, 0, none⟩ = some (.string n2) ∧ W7.cell? ⟨p, 1, none⟩ = some (.int .i64 max)) from by
    have key : ∀ W, Mem W F3 → W.cell? ⟨x1.a, 0, none⟩ = some (.string n1) ∧ W.cell? ⟨x2.a, 0, none⟩ = some (.string n2) ∧ W.cell? ⟨p, 1, none⟩ = some (.int .i64 max) := fun W hW => ⟨by rw [← hn1]; exact load_cell hW (hR3.roles x1 hx12).a rfl, by rw [← hn2]; exact load_cell hW (hR3.roles x2 hx2).a rfl, load_cell hW hR3.p rfl⟩
    exact ⟨key _ hM3.drew, key _ (hM3.below hba), key _ (hM3.below hb7)⟩)
   obtain ⟨B, hB⟩ : ∃ B, B = hasF (rolesE E) n2 max.toNat [n1] := ⟨_, rfl⟩
   have HH := Aside0.mk ((has_helper n2 hR3 hG3 hE (max.toNat + 1) (w := W7) (M1 := W0.heap.size) (fr := [(n1, x1.a)]) (lv := max) (by omega) (by omega) (hM3.below hb7) hk (fun q hq => by
    rw [List.mem_singleton] at hq
    exact ⟨x1, hx12, by rw [hq]; exact hn1, by rw [hq]⟩)).mono (R' := fun e w' => e = .returned (.bool B) ∧ Below W0.heap.size W0 w') (by
    rintro e w' ⟨rfl, hb⟩
    refine ⟨by rw [hB, ← hasG_hasF]; rfl, hb7.trans (hb.mono hb7.size)⟩))
   have HM3 := Aside0.mk hM3
   have HR3 := Aside0.mk hR3
   have HW3 := Aside0.mk (Went.mk hx ht)
   have HBB := Aside0.mk hB
   have hal3 := (hM3 _ _ _ (hR3.roles x1 hx12).a).lt
   have hal4 := (hM3 _ _ _ (hR3.roles x2 hx2).a).lt
   have hpl3 := (hM3 _ _ _ hR3.p).lt
   clear hM3 hR3 hx ht hk hba hb7 hB hx1 hx2 hx12 HG3 hG3 HG2 hin1 hin2 hW7
   go_upto_region 11 with (fail)
   refine at_mkN (n := 78) (d := _) rfl rfl ?_
   refine region_mix (by kernel_rfl) [(0, 61), (1, 62), (2, 63), (3, 64), (4, 65), (6, 67), (7, 68), (8, 69), (9, 70), (10, 71), (13, 73), (14, 74), (15, 75), (16, 76)] [5, 11, 12, 17, 18] (fun k_ => match k_ with | 0 => some 66 | 1 => none | 2 => some 72 | 3 => some 77 | 4 => some 8 | _ => none) (fun k_ => match k_ with | 0 => (PT p) | 1 => (PT x2.a) | 2 => (PT x2.a) | 3 => (PT x2.a) | 4 => (.string n2) | 6 => (PT x1.a) | 7 => (PT x1.a) | 8 => (PT x1.a) | 9 => (.string n1) | 10 => (PT x1.a) | 13 => (PT p) | 14 => (PT p) | 15 => (.pointer (some ⟨p, 1, none⟩)) | 16 => (.int .i64 max) | _ => undef) (fun i_ s_ W_ => match i_ with | 0 => W_ = W0.drew | 1 => s_ 66 = .map (some W0.heap.size) ∧ W_ = W0.drew.alloc (.map #[] 0) | 2 => s_ 66 = .map (some W0.heap.size) ∧ W_ = W7 | 3 => s_ 72 = .map (some W0.heap.size) ∧ W_ = W7 | 4 => s_ 77 = .bool B ∧ Below W0.heap.size W0 W_ | _ => s_ 8 = .bool B ∧ Below W0.heap.size W0 W_) [[], [], [1], [2], [3], [], [], [6], [7], [8], [], [5, 9, 10], [5, 6, 7, 8, 9, 10, 11], [], [13], [14], [15], [0, 4, 12, 16], [17, 17, 0, 1, 2, 3, 4, 5, 6, 7, 8, 9, 10, 11, 12, 13, 14, 15, 16, 17], [18, 0, 1, 2, 3, 4, 5, 6, 7, 8, 9, 10, 11, 12, 13, 14, 15, 16, 17, 18]] (by kernel_rfl) (by decide) rfl (by decide) (by decide) (by decide) (by decide) (by decide) (by decide) (by decide) (by decide) (by decide) (by decide) (by decide) ?_ ?_ ?_ ?_ ?_
   ·intro i_ hi_ s_ W_ q_ hq_ hz_ hno_ hg_ ho_
    rcases (show i_ = 0 ∨ i_ = 1 ∨ i_ = 2 ∨ i_ = 3 ∨ i_ = 4 ∨ i_ = 5 ∨ i_ = 6 ∨ i_ = 7 ∨ i_ = 8 ∨ i_ = 9 ∨ i_ = 10 ∨ i_ = 11 ∨ i_ = 12 ∨ i_ = 13 from by have : i_ < 14 := hi_; omega) with rfl | rfl | rfl | rfl | rfl | rfl | rfl | rfl | rfl | rfl | rfl | rfl | rfl | rfl
    ·refine ⟨_, rfl, rfl, fun _ => rfl, ?_⟩
     have g0_ : s_ 0 = _ := ho_ 0 (by decide) (by decide)
     clear hg_ ho_ hno_ hz_ hq_
     first | (simp [execOp, mkN_eval, Result.andThen, *]; done) | (go_simp; simp [mkN_get, Result.andThen, *]; done)
    ·refine ⟨_, rfl, rfl, fun _ => rfl, ?_⟩
     have g12_ : s_ 12 = _ := ho_ 12 (by decide) (by decide)
     clear hg_ ho_ hno_ hz_ hq_
     first | (simp [execOp, mkN_eval, Result.andThen, *]; done) | (go_simp; simp [mkN_get, Result.andThen, *]; done)
    ·refine ⟨_, rfl, rfl, fun _ => rfl, ?_⟩
     have g62_ : s_ 62 = (PT x2.a) := hg_ 1 (by decide) (by decide)
     clear hg_ ho_ hno_ hz_ hq_
     first | (simp [execOp, mkN_eval, Result.andThen, *]; done) | (go_simp; simp [mkN_get, Result.andThen, *]; done)
    ·refine ⟨_, rfl, rfl, fun _ => rfl, ?_⟩
     have g63_ : s_ 63 = (PT x2.a) := hg_ 2 (by decide) (by decide)
     clear hg_ ho_ hno_ hz_ hq_
     first | (simp [execOp, mkN_eval, Result.andThen, *]; done) | (go_simp; simp [mkN_get, Result.andThen, *]; done)
    ·refine ⟨_, rfl, rfl, fun _ => rfl, ?_⟩
     have g64_ : s_ 64 = (PT x2.a) := hg_ 3 (by decide) (by decide)
     obtain hq3_ : q_ ≤ 3 := by rcases Nat.lt_or_ge 3 q_ with h | h; exact absurd (by decide) (hno_ 3 h); exact h
     have hc_ : W_.cell? ⟨x2.a, 0, none⟩ = some (.string n2) := by
      rcases (show q_ = 0 ∨ q_ = 1 ∨ q_ = 2 ∨ q_ = 3 from by omega) with rfl | rfl | rfl | rfl
      ·exact (show W_ = _ from hz_) ▸ (HCW.out).1.2.1
      ·exact (show s_ 66 = _ ∧ W_ = _ from hz_).2 ▸ (HCW.out).2.1.2.1
      ·exact (show s_ 66 = _ ∧ W_ = _ from hz_).2 ▸ (HCW.out).2.2.2.1
      ·exact (show s_ 72 = _ ∧ W_ = _ from hz_).2 ▸ (HCW.out).2.2.2.1
     clear hg_ ho_ hno_ hz_ hq_
     first | (simp [execOp, mkN_eval, Result.andThen, *]; done) | (go_simp; simp [mkN_get, Result.andThen, *]; done)
    ·refine ⟨_, rfl, rfl, fun _ => rfl, ?_⟩
     have g10_ : s_ 10 = _ := ho_ 10 (by decide) (by decide)
     clear hg_ ho_ hno_ hz_ hq_
     first | (simp [execOp, mkN_eval, Result.andThen, *]; done) | (go_simp; simp [mkN_get, Result.andThen, *]; done)
    ·refine ⟨_, rfl, rfl, fun _ => rfl, ?_⟩
     have g67_ : s_ 67 = (PT x1.a) := hg_ 5 (by decide) (by decide)
     clear hg_ ho_ hno_ hz_ hq_
     first | (simp [execOp, mkN_eval, Result.andThen, *]; done) | (go_simp; simp [mkN_get, Result.andThen, *]; done)
    ·refine ⟨_, rfl, rfl, fun _ => rfl, ?_⟩
     have g68_ : s_ 68 = (PT x1.a) := hg_ 6 (by decide) (by decide)
     clear hg_ ho_ hno_ hz_ hq_
     first | (simp [execOp, mkN_eval, Result.andThen, *]; done) | (go_simp; simp [mkN_get, Result.andThen, *]; done)
    ·refine ⟨_, rfl, rfl, fun _ => rfl, ?_⟩
     have g69_ : s_ 69 = (PT x1.a) := hg_ 7 (by decide) (by decide)
     obtain hq3_ : q_ ≤ 1 := by rcases Nat.lt_or_ge 1 q_ with h | h; exact absurd (by decide) (hno_ 1 h); exact h
     have hc_ : W_.cell? ⟨x1.a, 0, none⟩ = some (.string n1) := by
      rcases (show q_ = 0 ∨ q_ = 1 from by omega) with rfl | rfl
      ·exact (show W_ = _ from hz_) ▸ (HCW.out).1.1
      ·exact (show s_ 66 = _ ∧ W_ = _ from hz_).2 ▸ (HCW.out).2.1.1
     clear hg_ ho_ hno_ hz_ hq_
     first | (simp [execOp, mkN_eval, Result.andThen, *]; done) | (go_simp; simp [mkN_get, Result.andThen, *]; done)
    ·refine ⟨_, rfl, rfl, fun _ => rfl, ?_⟩
     have g10_ : s_ 10 = _ := ho_ 10 (by decide) (by decide)
     clear hg_ ho_ hno_ hz_ hq_
     first | (simp [execOp, mkN_eval, Result.andThen, *]; done) | (go_simp; simp [mkN_get, Result.andThen, *]; done)
    ·refine ⟨_, rfl, rfl, fun _ => rfl, ?_⟩
     have g0_ : s_ 0 = _ := ho_ 0 (by decide) (by decide)
     clear hg_ ho_ hno_ hz_ hq_
     first | (simp [execOp, mkN_eval, Result.andThen, *]; done) | (go_simp; simp [mkN_get, Result.andThen, *]; done)
    ·refine ⟨_, rfl, rfl, fun _ => rfl, ?_⟩
     have g73_ : s_ 73 = (PT p) := hg_ 10 (by decide) (by decide)
     clear hg_ ho_ hno_ hz_ hq_
     first | (simp [execOp, mkN_eval, Result.andThen, *]; done) | (go_simp; simp [mkN_get, Result.andThen, *]; done)
    ·refine ⟨_, rfl, rfl, fun _ => rfl, ?_⟩
     have g74_ : s_ 74 = (PT p) := hg_ 11 (by decide) (by decide)
     clear hg_ ho_ hno_ hz_ hq_
     first | (simp [execOp, mkN_eval, Result.andThen, *]; done) | (go_simp; simp [mkN_get, Result.andThen, *]; done)
    ·refine ⟨_, rfl, rfl, fun _ => rfl, ?_⟩
     have g75_ : s_ 75 = (.pointer (some ⟨p, 1, none⟩)) := hg_ 12 (by decide) (by decide)
     obtain hq3_ : q_ ≤ 3 := by rcases Nat.lt_or_ge 3 q_ with h | h; exact absurd (by decide) (hno_ 3 h); exact h
     have hc_ : W_.cell? ⟨p, 1, none⟩ = some (.int .i64 max) := by
      rcases (show q_ = 0 ∨ q_ = 1 ∨ q_ = 2 ∨ q_ = 3 from by omega) with rfl | rfl | rfl | rfl
      ·exact (show W_ = _ from hz_) ▸ (HCW.out).1.2.2
      ·exact (show s_ 66 = _ ∧ W_ = _ from hz_).2 ▸ (HCW.out).2.1.2.2
      ·exact (show s_ 66 = _ ∧ W_ = _ from hz_).2 ▸ (HCW.out).2.2.2.2
      ·exact (show s_ 72 = _ ∧ W_ = _ from hz_).2 ▸ (HCW.out).2.2.2.2
     clear hg_ ho_ hno_ hz_ hq_
     first | (simp [execOp, mkN_eval, Result.andThen, *]; done) | (go_simp; simp [mkN_get, Result.andThen, *]; done)
   ·exact rfl
   ·intro q_ s_ x_ v_ W_ hx_ hZ_
    have e66_ : updN s_ x_ v_ 66 = s_ 66 := updN_ne (fun e => by subst e; exact absurd hx_ (by decide))
    have e72_ : updN s_ x_ v_ 72 = s_ 72 := updN_ne (fun e => by subst e; exact absurd hx_ (by decide))
    have e77_ : updN s_ x_ v_ 77 = s_ 77 := updN_ne (fun e => by subst e; exact absurd hx_ (by decide))
    have e8_ : updN s_ x_ v_ 8 = s_ 8 := updN_ne (fun e => by subst e; exact absurd hx_ (by decide))
    clear hx_
    rcases (show q_ = 0 ∨ q_ = 1 ∨ q_ = 2 ∨ q_ = 3 ∨ q_ = 4 ∨ ∃ z_, q_ = z_ + 5 from by by_cases h : 5 ≤ q_; exact .inr (.inr (.inr (.inr (.inr (⟨q_ - 5, by omega⟩))))); omega) with rfl | rfl | rfl | rfl | rfl | ⟨z_, rfl⟩
    ·exact hZ_
    ·simpa only [e66_, e72_, e77_, e8_] using hZ_
    ·simpa only [e66_, e72_, e77_, e8_] using hZ_
    ·simpa only [e66_, e72_, e77_, e8_] using hZ_
    ·simpa only [e66_, e72_, e77_, e8_] using hZ_
    ·simpa only [e66_, e72_, e77_, e8_] using hZ_
   ·intro i_ hi_ s_ W_ hg_ ho_ hZ_ K_ hK_
    rcases (show i_ = 0 ∨ i_ = 1 ∨ i_ = 2 ∨ i_ = 3 ∨ i_ = 4 from by have : i_ < 5 := hi_; omega) with rfl | rfl | rfl | rfl | rfl
    ·skip
     obtain rfl : W_ = W0.drew := hZ_
     clear hg_ ho_
     refine wpOp_step rfl (fun K' hK => ?_)
     go_simp
     try simp [mkN_get, hmm]
     refine hK _ _ ?_
     show K_ ((mkN 78 _ s_).put (some 66) (.map (some W0.heap.size))) (W0.drew.alloc (.map #[] 0))
     rw [mkN_put _ _ _ (by decide)]
     exact hK_ _ _ ⟨updN_self _ _ _, rfl⟩ (fun j hj => updN_ne (fun e => hj (by subst e; rfl)))
    ·have g70_ : s_ 70 = (.string n1) := hg_ 8 (by decide) (by decide)
     have g71_ : s_ 71 = (PT x1.a) := hg_ 9 (by decide) (by decide)
     obtain ⟨g66_, rfl⟩ := (show s_ 66 = _ ∧ W_ = _ from hZ_)
     clear hg_ ho_
     refine wpOp_step rfl (fun K' hK => ?_)
     go_simp
     simp [mkN_get, g66_, g70_, g71_, hrun, hrun2]
     refine hK _ _ ?_
     exact hK_ _ _ ⟨g66_, rfl⟩ (fun j hj => rfl)
    ·skip
     obtain ⟨g66_, rfl⟩ := (show s_ 66 = _ ∧ W_ = _ from hZ_)
     clear hg_ ho_
     refine wpOp_step rfl (fun K' hK => ?_)
     go_simp
     simp [mkN_get, g66_]
     refine hK _ _ ?_
     show K_ ((mkN 78 _ s_).put (some 72) (.map (some W0.heap.size))) W_
     rw [mkN_put _ _ _ (by decide)]
     exact hK_ _ _ ⟨updN_self _ _ _, rfl⟩ (fun j hj => updN_ne (fun e => hj (by subst e; rfl)))
    ·have g61_ : s_ 61 = (PT p) := hg_ 0 (by decide) (by decide)
     have g65_ : s_ 65 = (.string n2) := hg_ 4 (by decide) (by decide)
     have g76_ : s_ 76 = (.int .i64 max) := hg_ 13 (by decide) (by decide)
     obtain ⟨g72_, rfl⟩ := (show s_ 72 = _ ∧ W_ = _ from hZ_)
     clear hg_ ho_
     refine wpOp_step rfl (fun K' hK => ?_)
     go_simp
     simp [mkN_get, g61_, g65_, g72_, g76_]
     go_wp2_with (go_at_call 115; refine HH.out.mono ?_; rintro e w3 ⟨rfl, hb3⟩)
     show K_ ((mkN 78 _ s_).put (some 77) (.bool B)) w3
     rw [mkN_put _ _ _ (by decide)]
     exact hK_ _ _ ⟨updN_self _ _ _, hb3⟩ (fun j hj => updN_ne (fun e => hj (by subst e; rfl)))
    ·skip
     obtain ⟨g77_, hb_⟩ := (show s_ 77 = _ ∧ Below _ _ W_ from hZ_)
     clear hg_ ho_
     refine wpOp_step rfl (fun K' hK => ?_)
     go_simp
     simp [mkN_get, g77_]
     refine hK _ _ ?_
     show K_ ((mkN 78 _ s_).put (some 8) (.bool B)) W_
     rw [mkN_put _ _ _ (by decide)]
     exact hK_ _ _ ⟨updN_self _ _ _, hb_⟩ (fun j hj => updN_ne (fun e => hj (by subst e; rfl)))
   ·intro s_ W_ hZ_ hv_ ho_
    obtain ⟨g8_, hb_⟩ := (show s_ 8 = _ ∧ Below _ _ W_ from hZ_)
    have HB9 := Aside0.mk hb_
    clear hv_ ho_ hZ_ hb_ HH HCW
    refine wpOp_step rfl (fun K' hK => ?_)
    go_simp
    refine hK _ _ ?_
    rw [mk78_lit, g8_]
    clear hK g8_ hrun hrun2
    go_wp2
    have hM9 := HM3.out.below HB9.out
    have hR9 := HR3.out
    have hw9 : Went F F3 w W_ := HW1.out.trans (HW2.out.trans (HW3.out.trans (Went.below HB9.out)))
    refine leaves_cons (f := 114) (args := #[.pointer (some ⟨p, 5, none⟩)]) (by first | (simp; done) | (simp [settle]; done) | decide) (by simp [go_sem]) ?_
    refine (Go.MuLone.unlock_deferred muLib ⟨p, 5, none⟩ .returning W_ (load_cell hM9 hR9.p rfl) (rm_mu_free hM9 hR9)).mono ?_
    rintro e u' we ⟨rfl, rfl, rfl⟩
    obtain ⟨F9, hMe, hRe, hwe⟩ := rm_mu (.int .i32 0) hM9 hR9
    have hwz := hw9.trans hwe
    refine ⟨_, results_tmp2 rfl _ _ _, ?_⟩
    exact ⟨by rw [HBB.out]; rfl, F9, _, L, hMe, hRe, HGG.out, hwz.n, hwz.t⟩
  ·have HG1 := Aside0.mk (get_role_old hM1 hR1 hG hin1)
   have HGG := Aside0.mk hG
   have HW1 := Aside0.mk hw1
   clear hM1 hR1 hw1
   go_enter_defers Tryz.func105, Tryz.ntmps105
   go_upto_region 5 with (go_at_call 113; refine HLK.out.mono ?_; rintro e wl ⟨rfl, rfl⟩)
   generalize w.setCell ⟨p, 5, none⟩ (.int .i32 1) = wl at *
   go_upto_region 6 with (go_at_call 58; refine HG1.out.mono ?_; rintro e w2 ⟨x1, F2, m2, rfl, hM2, hR2, hx1, hn1, hx, ht⟩)
   have hG2 := HGG.out
   have hin3 := hin2
   have HG3 := Aside0.mk (get_role_new hM2 hR2 hG2 hin3)
   have HW2 := Aside0.mk (Went.mk hx ht)
   have hal2 := (hM2 _ _ _ (hR2.roles x1 hx1).a).lt
   have HG2 := Aside0.mk hG2
   clear hM2 hR2 hG2 hx ht HG1 hin3
   go_upto_region 7 with (go_at_call 58; refine HG3.out.mono ?_; rintro e W0 ⟨x2, F3, m3, rfl, hM3, hR3, hG3, hn2, hx, ht⟩)
   have hx2 : x2 ∈ (L ++ [x2]) := by simp
   have hx12 : x1 ∈ (L ++ [x2]) := List.mem_append_left _ hx1
   have c11 : W0.cell? ⟨x1.a, 0, none⟩ = some (.string n1) := by rw [← hn1]; exact load_cell hM3 (hR3.roles x1 hx12).a rfl
   have c12 : W0.cell? ⟨x2.a, 0, none⟩ = some (.string n2) := by rw [← hn2]; exact load_cell hM3 (hR3.roles x2 hx2).a rfl
   obtain ⟨es, cc, hrun, hk⟩ := (KM.made (ky := .string) W0.drew).put uSR keyS n1 (PT x1.a)
   obtain ⟨W7, hW7⟩ : ∃ W7, W7 = setO (W0.drew.alloc (.map #[] 0)) W0.heap.size (.map es cc) := ⟨_, rfl⟩
   have hrun : (Instr.mapUpdate 164 (.map (some W0.heap.size)) (.string n1) (PT x1.a)).run Tryz.prog (W0.drew.alloc (.map #[] 0)) = .ok () W7 := by rw [hW7]; exact hrun
   have hrun2 : (Instr.mapUpdate 164 (.map (some W0.heap.size)) (.string n1) (PT x1.a)).run Tryz.prog (W0.alloc (.map #[] 0)).drew = .ok () W7 := hrun
   have hk : KM .string W7 W0.heap.size (ptrE [(n1, x1.a)]) := by rw [hW7]; exact hk
   have hb7 : Below W0.heap.size W0 W7 := by
    rw [hW7]
    exact ⟨rfl, rfl, rfl, by rw [setO_size]; simp, fun k hk => (setO_ne (by omega)).trans (heap_alloc_old W0.drew _ hk)⟩
   have hba : Below W0.heap.size W0 (W0.drew.alloc (.map #[] 0)) := ⟨rfl, rfl, rfl, by simp, fun k hk => heap_alloc_old W0.drew _ hk⟩
   have HCW := Aside0.mk (show (W0.drew.cell? ⟨x1.a, 0, none⟩ = some (.string n1) ∧ W0.drew.cell? ⟨x2.a, 0, none⟩ = some (.string n2) ∧ W0.drew.cell? ⟨p, 1, none⟩ = some (.int .i64 max)) ∧ ((W0.drew.alloc (.map #[] 0)).cell? ⟨x1.a, 0, none⟩ = some (.string n1) ∧ (W0.drew.alloc (.map #[] 0)).cell? ⟨x2.a, 0, none⟩ = some (.string n2) ∧ (W0.drew.alloc (.map #[] 0)).cell? ⟨p, 1, none⟩ = some (.int .i64 max)) ∧ (W7.cell? ⟨x1.a, 0, none⟩ = some (.string n1) ∧ W7.cell? ⟨x2.a, 0, none⟩ = some (.string n2) ∧ W7.cell? ⟨p, 1, none⟩ = some (.int .i64 max)) from by
    have key : ∀ W, Mem W F3 → W.cell? ⟨x1.a, 0, none⟩ = some (.string n1) ∧ W.cell? ⟨x2.a, 0, none⟩ = some (.string n2) ∧ W.cell? ⟨p, 1, none⟩ = some (.int .i64 max) := fun W hW => ⟨by rw [← hn1]; exact load_cell hW (hR3.roles x1 hx12).a rfl, by rw [← hn2]; exact load_cell hW (hR3.roles x2 hx2).a rfl, load_cell hW hR3.p rfl⟩
    exact ⟨key _ hM3.drew, key _ (hM3.below hba), key _ (hM3.below hb7)⟩)
   obtain ⟨B, hB⟩ : ∃ B, B = hasF (rolesE E) n2 max.toNat [n1] := ⟨_, rfl⟩
   have HH := Aside0.mk ((has_helper n2 hR3 hG3 hE (max.toNat + 1) (w := W7) (M1 := W0.heap.size) (fr := [(n1, x1.a)]) (lv := max) (by omega) (by omega) (hM3.below hb7) hk (fun q hq => by
    rw [List.mem_singleton] at hq
    exact ⟨x1, hx12, by rw [hq]; exact hn1, by rw [hq]⟩)).mono (R' := fun e w' => e = .returned (.bool B) ∧ Below W0.heap.size W0 w') (by
    rintro e w' ⟨rfl, hb⟩
    refine ⟨by rw [hB, ← hasG_hasF]; rfl, hb7.trans (hb.mono hb7.size)⟩))
   have HM3 := Aside0.mk hM3
   have HR3 := Aside0.mk hR3
   have HW3 := Aside0.mk (Went.mk hx ht)
   have HBB := Aside0.mk hB
   have hal3 := (hM3 _ _ _ (hR3.roles x1 hx12).a).lt
   have hal4 := (hM3 _ _ _ (hR3.roles x2 hx2).a).lt
   have hpl3 := (hM3 _ _ _ hR3.p).lt
   clear hM3 hR3 hx ht hk hba hb7 hB hx1 hx2 hx12 HG3 hG3 HG2 hin1 hin2 hW7
   go_upto_region 11 with (fail)
   refine at_mkN (n := 78) (d := _) rfl rfl ?_
   refine region_mix (by kernel_rfl) [(0, 61), (1, 62), (2, 63), (3, 64), (4, 65), (6, 67), (7, 68), (8, 69), (9, 70), (10, 71), (13, 73), (14, 74), (15, 75), (16, 76)] [5, 11, 12, 17, 18] (fun k_ => match k_ with | 0 => some 66 | 1 => none | 2 => some 72 | 3 => some 77 | 4 => some 8 | _ => none) (fun k_ => match k_ with | 0 => (PT p) | 1 => (PT x2.a) | 2 => (PT x2.a) | 3 => (PT x2.a) | 4 => (.string n2) | 6 => (PT x1.a) | 7 => (PT x1.a) | 8 => (PT x1.a) | 9 => (.string n1) | 10 => (PT x1.a) | 13 => (PT p) | 14 => (PT p) | 15 => (.pointer (some ⟨p, 1, none⟩)) | 16 => (.int .i64 max) | _ => undef) (fun i_ s_ W_ => match i_ with | 0 => W_ = W0.drew | 1 => s_ 66 = .map (some W0.heap.size) ∧ W_ = W0.drew.alloc (.map #[] 0) | 2 => s_ 66 = .map (some W0.heap.size) ∧ W_ = W7 | 3 => s_ 72 = .map (some W0.heap.size) ∧ W_ = W7 | 4 => s_ 77 = .bool B ∧ Below W0.heap.size W0 W_ | _ => s_ 8 = .bool B ∧ Below W0.heap.size W0 W_) [[], [], [1], [2], [3], [], [], [6], [7], [8], [], [5, 9, 10], [5, 6, 7, 8, 9, 10, 11], [], [13], [14], [15], [0, 4, 12, 16], [17, 17, 0, 1, 2, 3, 4, 5, 6, 7, 8, 9, 10, 11, 12, 13, 14, 15, 16, 17], [18, 0, 1, 2, 3, 4, 5, 6, 7, 8, 9, 10, 11, 12, 13, 14, 15, 16, 17, 18]] (by kernel_rfl) (by decide) rfl (by decide) (by decide) (by decide) (by decide) (by decide) (by decide) (by decide) (by decide) (by decide) (by decide) (by decide) ?_ ?_ ?_ ?_ ?_
   ·intro i_ hi_ s_ W_ q_ hq_ hz_ hno_ hg_ ho_
    rcases (show i_ = 0 ∨ i_ = 1 ∨ i_ = 2 ∨ i_ = 3 ∨ i_ = 4 ∨ i_ = 5 ∨ i_ = 6 ∨ i_ = 7 ∨ i_ = 8 ∨ i_ = 9 ∨ i_ = 10 ∨ i_ = 11 ∨ i_ = 12 ∨ i_ = 13 from by have : i_ < 14 := hi_; omega) with rfl | rfl | rfl | rfl | rfl | rfl | rfl | rfl | rfl | rfl | rfl | rfl | rfl | rfl
    ·refine ⟨_, rfl, rfl, fun _ => rfl, ?_⟩
     have g0_ : s_ 0 = _ := ho_ 0 (by decide) (by decide)
     clear hg_ ho_ hno_ hz_ hq_
     first | (simp [execOp, mkN_eval, Result.andThen, *]; done) | (go_simp; simp [mkN_get, Result.andThen, *]; done)
    ·refine ⟨_, rfl, rfl, fun _ => rfl, ?_⟩
     have g12_ : s_ 12 = _ := ho_ 12 (by decide) (by decide)
     clear hg_ ho_ hno_ hz_ hq_
     first | (simp [execOp, mkN_eval, Result.andThen, *]; done) | (go_simp; simp [mkN_get, Result.andThen, *]; done)
    ·refine ⟨_, rfl, rfl, fun _ => rfl, ?_⟩
     have g62_ : s_ 62 = (PT x2.a) := hg_ 1 (by decide) (by decide)
     clear hg_ ho_ hno_ hz_ hq_
     first | (simp [execOp, mkN_eval, Result.andThen, *]; done) | (go_simp; simp [mkN_get, Result.andThen, *]; done)
    ·refine ⟨_, rfl, rfl, fun _ => rfl, ?_⟩
     have g63_ : s_ 63 = (PT x2.a) := hg_ 2 (by decide) (by decide)
     clear hg_ ho_ hno_ hz_ hq_
     first | (simp [execOp, mkN_eval, Result.andThen, *]; done) | (go_simp; simp [mkN_get, Result.andThen, *]; done)
    ·refine ⟨_, rfl, rfl, fun _ => rfl, ?_⟩
     have g64_ : s_ 64 = (PT x2.a) := hg_ 3 (by decide) (by decide)
     obtain hq3_ : q_ ≤ 3 := by rcases Nat.lt_or_ge 3 q_ with h | h; exact absurd (by decide) (hno_ 3 h); exact h
     have hc_ : W_.cell? ⟨x2.a, 0, none⟩ = some (.string n2) := by
      rcases (show q_ = 0 ∨ q_ = 1 ∨ q_ = 2 ∨ q_ = 3 from by omega) with rfl | rfl | rfl | rfl
      ·exact (show W_ = _ from hz_) ▸ (HCW.out).1.2.1
      ·exact (show s_ 66 = _ ∧ W_ = _ from hz_).2 ▸ (HCW.out).2.1.2.1
      ·exact (show s_ 66 = _ ∧ W_ = _ from hz_).2 ▸ (HCW.out).2.2.2.1
      ·exact (show s_ 72 = _ ∧ W_ = _ from hz_).2 ▸ (HCW.out).2.2.2.1
     clear hg_ ho_ hno_ hz_ hq_
     first | (simp [execOp, mkN_eval, Result.andThen, *]; done) | (go_simp; simp [mkN_get, Result.andThen, *]; done)
    ·refine ⟨_, rfl, rfl, fun _ => rfl, ?_⟩
     have g10_ : s_ 10 = _ := ho_ 10 (by decide) (by decide)
     clear hg_ ho_ hno_ hz_ hq_
     first | (simp [execOp, mkN_eval, Result.andThen, *]; done) | (go_simp; simp [mkN_get, Result.andThen, *]; done)
    ·refine ⟨_, rfl, rfl, fun _ => rfl, ?_⟩
     have g67_ : s_ 67 = (PT x1.a) := hg_ 5 (by decide) (by decide)
     clear hg_ ho_ hno_ hz_ hq_
     first | (simp [execOp, mkN_eval, Result.andThen, *]; done) | (go_simp; simp [mkN_get, Result.andThen, *]; done)
    ·refine ⟨_, rfl, rfl, fun _ => rfl, ?_⟩
     have g68_ : s_ 68 = (PT x1.a) := hg_ 6 (by decide) (by decide)
     clear hg_ ho_ hno_ hz_ hq_
     first | (simp [execOp, mkN_eval, Result.andThen, *]; done) | (go_simp; simp [mkN_get, Result.andThen, *]; done)
    ·refine ⟨_, rfl, rfl, fun _ => rfl, ?_⟩
     have g69_ : s_ 69 = (PT x1.a) := hg_ 7 (by decide) (by decide)
     obtain hq3_ : q_ ≤ 1 := by rcases Nat.lt_or_ge 1 q_ with h | h; exact absurd (by decide) (hno_ 1 h); exact h
     have hc_ : W_.cell? ⟨x1.a, 0, none⟩ = some (.string n1) := by
      rcases (show q_ = 0 ∨ q_ = 1 from by omega) with rfl | rfl
      ·exact (show W_ = _ from hz_) ▸ (HCW.out).1.1
      ·exact (show s_ 66 = _ ∧ W_ = _ from hz_).2 ▸ (HCW.out).2.1.1
     clear hg_ ho_ hno_ hz_ hq_
     first | (simp [execOp, mkN_eval, Result.andThen, *]; done) | (go_simp; simp [mkN_get, Result.andThen, *]; done)
    ·refine ⟨_, rfl, rfl, fun _ => rfl, ?_⟩
     have g10_ : s_ 10 = _ := ho_ 10 (by decide) (by decide)
     clear hg_ ho_ hno_ hz_ hq_
     first | (simp [execOp, mkN_eval, Result.andThen, *]; done) | (go_simp; simp [mkN_get, Result.andThen, *]; done)
    ·refine ⟨_, rfl, rfl, fun _ => rfl, ?_⟩
     have g0_ : s_ 0 = _ := ho_ 0 (by decide) (by decide)
     clear hg_ ho_ hno_ hz_ hq_
     first | (simp [execOp, mkN_eval, Result.andThen, *]; done) | (go_simp; simp [mkN_get, Result.andThen, *]; done)
    ·refine ⟨_, rfl, rfl, fun _ => rfl, ?_⟩
     have g73_ : s_ 73 = (PT p) := hg_ 10 (by decide) (by decide)
     clear hg_ ho_ hno_ hz_ hq_
     first | (simp [execOp, mkN_eval, Result.andThen, *]; done) | (go_simp; simp [mkN_get, Result.andThen, *]; done)
    ·refine ⟨_, rfl, rfl, fun _ => rfl, ?_⟩
     have g74_ : s_ 74 = (PT p) := hg_ 11 (by decide) (by decide)
     clear hg_ ho_ hno_ hz_ hq_
     first | (simp [execOp, mkN_eval, Result.andThen, *]; done) | (go_simp; simp [mkN_get, Result.andThen, *]; done)
    ·refine ⟨_, rfl, rfl, fun _ => rfl, ?_⟩
     have g75_ : s_ 75 = (.pointer (some ⟨p, 1, none⟩)) := hg_ 12 (by decide) (by decide)
     obtain hq3_ : q_ ≤ 3 := by rcases Nat.lt_or_ge 3 q_ with h | h; exact absurd (by decide) (hno_ 3 h); exact h
     have hc_ : W_.cell? ⟨p, 1, none⟩ = some (.int .i64 max) := by
      rcases (show q_ = 0 ∨ q_ = 1 ∨ q_ = 2 ∨ q_ = 3 from by omega) with rfl | rfl | rfl | rfl
      ·exact (show W_ = _ from hz_) ▸ (HCW.out).1.2.2
      ·exact (show s_ 66 = _ ∧ W_ = _ from hz_).2 ▸ (HCW.out).2.1.2.2
      ·exact (show s_ 66 = _ ∧ W_ = _ from hz_).2 ▸ (HCW.out).2.2.2.2
      ·exact (show s_ 72 = _ ∧ W_ = _ from hz_).2 ▸ (HCW.out).2.2.2.2
     clear hg_ ho_ hno_ hz_ hq_
     first | (simp [execOp, mkN_eval, Result.andThen, *]; done) | (go_simp; simp [mkN_get, Result.andThen, *]; done)
   ·exact rfl
   ·intro q_ s_ x_ v_ W_ hx_ hZ_
    have e66_ : updN s_ x_ v_ 66 = s_ 66 := updN_ne (fun e => by subst e; exact absurd hx_ (by decide))
    have e72_ : updN s_ x_ v_ 72 = s_ 72 := updN_ne (fun e => by subst e; exact absurd hx_ (by decide))
    have e77_ : updN s_ x_ v_ 77 = s_ 77 := updN_ne (fun e => by subst e; exact absurd hx_ (by decide))
    have e8_ : updN s_ x_ v_ 8 = s_ 8 := updN_ne (fun e => by subst e; exact absurd hx_ (by decide))
    clear hx_
    rcases (show q_ = 0 ∨ q_ = 1 ∨ q_ = 2 ∨ q_ = 3 ∨ q_ = 4 ∨ ∃ z_, q_ = z_ + 5 from by by_cases h : 5 ≤ q_; exact .inr (.inr (.inr (.inr (.inr (⟨q_ - 5, by omega⟩))))); omega) with rfl | rfl | rfl | rfl | rfl | ⟨z_, rfl⟩
    ·exact hZ_
    ·simpa only [e66_, e72_, e77_, e8_] using hZ_
    ·simpa only [e66_, e72_, e77_, e8_] using hZ_
    ·simpa only [e66_, e72_, e77_, e8_] using hZ_
    ·simpa only [e66_, e72_, e77_, e8_] using hZ_
    ·simpa only [e66_, e72_, e77_, e8_] using hZ_
   ·intro i_ hi_ s_ W_ hg_ ho_ hZ_ K_ hK_
    rcases (show i_ = 0 ∨ i_ = 1 ∨ i_ = 2 ∨ i_ = 3 ∨ i_ = 4 from by have : i_ < 5 := hi_; omega) with rfl | rfl | rfl | rfl | rfl
    ·skip
     obtain rfl : W_ = W0.drew := hZ_
     clear hg_ ho_
     refine wpOp_step rfl (fun K' hK => ?_)
     go_simp
     try simp [mkN_get, hmm]
     refine hK _ _ ?_
     show K_ ((mkN 78 _ s_).put (some 66) (.map (some W0.heap.size))) (W0.drew.alloc (.map #[] 0))
     rw [mkN_put _ _ _ (by decide)]
     exact hK_ _ _ ⟨updN_self _ _ _, rfl⟩ (fun j hj => updN_ne (fun e => hj (by subst e; rfl)))
    ·have g70_ : s_ 70 = (.string n1) := hg_ 8 (by decide) (by decide)
     have g71_ : s_ 71 = (PT x1.a) := hg_ 9 (by decide) (by decide)
     obtain ⟨g66_, rfl⟩ := (show s_ 66 = _ ∧ W_ = _ from hZ_)
     clear hg_ ho_
     refine wpOp_step rfl (fun K' hK => ?_)
     go_simp
     simp [mkN_get, g66_, g70_, g71_, hrun, hrun2]
     refine hK _ _ ?_
     exact hK_ _ _ ⟨g66_, rfl⟩ (fun j hj => rfl)
    ·skip
     obtain ⟨g66_, rfl⟩ := (show s_ 66 = _ ∧ W_ = _ from hZ_)
     clear hg_ ho_
     refine wpOp_step rfl (fun K' hK => ?_)
     go_simp
     simp [mkN_get, g66_]
     refine hK _ _ ?_
     show K_ ((mkN 78 _ s_).put (some 72) (.map (some W0.heap.size))) W_
     rw [mkN_put _ _ _ (by decide)]
     exact hK_ _ _ ⟨updN_self _ _ _, rfl⟩ (fun j hj => updN_ne (fun e => hj (by subst e; rfl)))
    ·have g61_ : s_ 61 = (PT p) := hg_ 0 (by decide) (by decide)
     have g65_ : s_ 65 = (.string n2) := hg_ 4 (by decide) (by decide)
     have g76_ : s_ 76 = (.int .i64 max) := hg_ 13 (by decide) (by decide)
     obtain ⟨g72_, rfl⟩ := (show s_ 72 = _ ∧ W_ = _ from hZ_)
     clear hg_ ho_
     refine wpOp_step rfl (fun K' hK => ?_)
     go_simp
     simp [mkN_get, g61_, g65_, g72_, g76_]
     go_wp2_with (go_at_call 115; refine HH.out.mono ?_; rintro e w3 ⟨rfl, hb3⟩)
     show K_ ((mkN 78 _ s_).put (some 77) (.bool B)) w3
     rw [mkN_put _ _ _ (by decide)]
     exact hK_ _ _ ⟨updN_self _ _ _, hb3⟩ (fun j hj => updN_ne (fun e => hj (by subst e; rfl)))
    ·skip
     obtain ⟨g77_, hb_⟩ := (show s_ 77 = _ ∧ Below _ _ W_ from hZ_)
     clear hg_ ho_
     refine wpOp_step rfl (fun K' hK => ?_)
     go_simp
     simp [mkN_get, g77_]
     refine hK _ _ ?_
     show K_ ((mkN 78 _ s_).put (some 8) (.bool B)) W_
     rw [mkN_put _ _ _ (by decide)]
     exact hK_ _ _ ⟨updN_self _ _ _, hb_⟩ (fun j hj => updN_ne (fun e => hj (by subst e; rfl)))
   ·intro s_ W_ hZ_ hv_ ho_
    obtain ⟨g8_, hb_⟩ := (show s_ 8 = _ ∧ Below _ _ W_ from hZ_)
    have HB9 := Aside0.mk hb_
    clear hv_ ho_ hZ_ hb_ HH HCW
    refine wpOp_step rfl (fun K' hK => ?_)
    go_simp
    refine hK _ _ ?_
    rw [mk78_lit, g8_]
    clear hK g8_ hrun hrun2
    go_wp2
    have hM9 := HM3.out.below HB9.out
    have hR9 := HR3.out
    have hw9 : Went F F3 w W_ := HW1.out.trans (HW2.out.trans (HW3.out.trans (Went.below HB9.out)))
    refine leaves_cons (f := 108) (args := #[PT p, .string n2]) (by first | (simp; done) | (simp [settle]; done) | decide) (by simp [go_sem]) ?_
    have hd2 := remove_role_d .returning hM9 hR9
    rw [hn2] at hd2
    refine hd2.mono ?_
    rintro e u' v2 ⟨rfl, rfl, ⟨G2, z2, hM22, hR22, hx22, ht22⟩⟩
    have hw22 : Went F G2 w v2 := hw9.trans ⟨hx22, ht22⟩
    refine leaves_cons (f := 114) (args := #[.pointer (some ⟨p, 5, none⟩)]) (by first | (simp; done) | (simp [settle]; done) | decide) (by simp [go_sem]) ?_
    refine (Go.MuLone.unlock_deferred muLib ⟨p, 5, none⟩ .returning v2 (load_cell hM22 hR22.p rfl) (rm_mu_free hM22 hR22)).mono ?_
    rintro e u' we ⟨rfl, rfl, rfl⟩
    obtain ⟨F9, hMe, hRe, hwe⟩ := rm_mu (.int .i32 0) hM22 hR22
    have hwz := hw22.trans hwe
    refine ⟨_, results_tmp2 rfl _ _ _, ?_⟩
    exact ⟨by rw [HBB.out]; rfl, F9, _, L, hMe, hRe, HGG.out, hwz.n, hwz.t⟩
  ·have HG1 := Aside0.mk (get_role_new hM1 hR1 hG hin1)
   have HGG := Aside0.mk hG
   have HW1 := Aside0.mk hw1
   clear hM1 hR1 hw1
   go_enter_defers Tryz.func105, Tryz.ntmps105
   go_upto_region 5 with (go_at_call 113; refine HLK.out.mono ?_; rintro e wl ⟨rfl, rfl⟩)
   generalize w.setCell ⟨p, 5, none⟩ (.int .i32 1) = wl at *
   go_upto_region 6 with (go_at_call 58; refine HG1.out.mono ?_; rintro e w2 ⟨x1, F2, m2, rfl, hM2, hR2, hG2, hn1, hx, ht⟩)
   have hx1 : x1 ∈ L ++ [x1] := by simp
   have hin3 : n2 ∈ (L ++ [x1]).map (·.name) := by rw [List.map_append]; exact List.mem_append_left _ hin2
   have HG3 := Aside0.mk (get_role_old hM2 hR2 hG2 hin3)
   have HW2 := Aside0.mk (Went.mk hx ht)
   have hal2 := (hM2 _ _ _ (hR2.roles x1 hx1).a).lt
   have c10 : w2.cell? ⟨x1.a, 0, none⟩ = some (.string n1) := by rw [← hn1]; exact load_cell hM2 (hR2.roles x1 hx1).a rfl
   have HG2 := Aside0.mk hG2
   clear hM2 hR2 hG2 hx ht HG1 hin3
   go_upto_region 7 with (go_at_call 58; refine HG3.out.mono ?_; rintro e W0 ⟨x2, F3, m3, rfl, hM3, hR3, hx2, hn2, hx, ht⟩)
   have hG3 := HG2.out
   have hx12 := hx1
   have c11 : W0.cell? ⟨x1.a, 0, none⟩ = some (.string n1) := by rw [← hn1]; exact load_cell hM3 (hR3.roles x1 hx12).a rfl
   have c12 : W0.cell? ⟨x2.a, 0, none⟩ = some (.string n2) := by rw [← hn2]; exact load_cell hM3 (hR3.roles x2 hx2).a rfl
   obtain ⟨es, cc, hrun, hk⟩ := (KM.made (ky := .string) W0.drew).put uSR keyS n1 (PT x1.a)
   obtain ⟨W7, hW7⟩ : ∃ W7, W7 = setO (W0.drew.alloc (.map #[] 0)) W0.heap.size (.map es cc) := ⟨_, rfl⟩
   have hrun : (Instr.mapUpdate 164 (.map (some W0.heap.size)) (.string n1) (PT x1.a)).run Tryz.prog (W0.drew.alloc (.map #[] 0)) = .ok () W7 := by rw [hW7]; exact hrun
   have hrun2 : (Instr.mapUpdate 164 (.map (some W0.heap.size)) (.string n1) (PT x1.a)).run Tryz.prog (W0.alloc (.map #[] 0)).drew = .ok () W7 := hrun
   have hk : KM .string W7 W0.heap.size (ptrE [(n1, x1.a)]) := by rw [hW7]; exact hk
   have hb7 : Below W0.heap.size W0 W7 := by
    rw [hW7]
    exact ⟨rfl, rfl, rfl, by rw [setO_size]; simp, fun k hk => (setO_ne (by omega)).trans (heap_alloc_old W0.drew _ hk)⟩
   have hba : Below W0.heap.size W0 (W0.drew.alloc (.map #[] 0)) := ⟨rfl, rfl, rfl, by simp, fun k hk => heap_alloc_old W0.drew _ hk⟩
   have HCW := Aside0.mk (show (W0.drew.cell? ⟨x1.a, 0, none⟩ = some (.string n1) ∧ W0.drew.cell? ⟨x2.a, 0, none⟩ = some (.string n2) ∧ W0.drew.cell? ⟨p, 1, none⟩ = some (.int .i64 max)) ∧ ((W0.drew.alloc (.map #[] 0)).cell? ⟨x1.a, 0, none⟩ = some (.string n1) ∧ (W0.drew.alloc (.map #[] 0)).cell? ⟨x2.a, 0, none⟩ = some (.string n2) ∧ (W0.drew.alloc (.map #[] 0)).cell? ⟨p, 1, none⟩ = some (.int .i64 max)) ∧ (W7.cell? ⟨x1.a, 0, none⟩ = some (.string n1) ∧ W7.cell? ⟨x2.a, 0, none⟩ = some (.string n2) ∧ W7.cell? ⟨p, 1, none⟩ = some (.int .i64 max)) from by
    have key : ∀ W, Mem W F3 → W.cell? ⟨x1.a, 0, none⟩ = some (.string n1) ∧ W.cell? ⟨x2.a, 0, none⟩ = some (.string n2) ∧ W.cell? ⟨p, 1, none⟩ = some (.int .i64 max) := fun W hW => ⟨by rw [← hn1]; exact load_cell hW (hR3.roles x1 hx12).a rfl, by rw [← hn2]; exact load_cell hW (hR3.roles x2 hx2).a rfl, load_cell hW hR3.p rfl⟩
    exact ⟨key _ hM3.drew, key _ (hM3.below hba), key _ (hM3.below hb7)⟩)
   obtain ⟨B, hB⟩ : ∃ B, B = hasF (rolesE E) n2 max.toNat [n1] := ⟨_, rfl⟩
   have HH := Aside0.mk ((has_helper n2 hR3 hG3 hE (max.toNat + 1) (w := W7) (M1 := W0.heap.size) (fr := [(n1, x1.a)]) (lv := max) (by omega) (by omega) (hM3.below hb7) hk (fun q hq => by
    rw [List.mem_singleton] at hq
    exact ⟨x1, hx12, by rw [hq]; exact hn1, by rw [hq]⟩)).mono (R' := fun e w' => e = .returned (.bool B) ∧ Below W0.heap.size W0 w') (by
    rintro e w' ⟨rfl, hb⟩
    refine ⟨by rw [hB, ← hasG_hasF]; rfl, hb7.trans (hb.mono hb7.size)⟩))
   have HM3 := Aside0.mk hM3
   have HR3 := Aside0.mk hR3
   have HW3 := Aside0.mk (Went.mk hx ht)
   have HBB := Aside0.mk hB
   have hal3 := (hM3 _ _ _ (hR3.roles x1 hx12).a).lt
   have hal4 := (hM3 _ _ _ (hR3.roles x2 hx2).a).lt
   have hpl3 := (hM3 _ _ _ hR3.p).lt
   clear hM3 hR3 hx ht hk hba hb7 hB hx1 hx2 hx12 HG3 hG3 HG2 hin1 hin2 hW7
   go_upto_region 11 with (fail)
   refine at_mkN (n := 78) (d := _) rfl rfl ?_
   refine region_mix (by kernel_rfl) [(0, 61), (1, 62), (2, 63), (3, 64), (4, 65), (6, 67), (7, 68), (8, 69), (9, 70), (10, 71), (13, 73), (14, 74), (15, 75), (16, 76)] [5, 11, 12, 17, 18] (fun k_ => match k_ with | 0 => some 66 | 1 => none | 2 => some 72 | 3 => some 77 | 4 => some 8 | _ => none) (fun k_ => match k_ with | 0 => (PT p) | 1 => (PT x2.a) | 2 => (PT x2.a) | 3 => (PT x2.a) | 4 => (.string n2) | 6 => (PT x1.a) | 7 => (PT x1.a) | 8 => (PT x1.a) | 9 => (.string n1) | 10 => (PT x1.a) | 13 => (PT p) | 14 => (PT p) | 15 => (.pointer (some ⟨p, 1, none⟩)) | 16 => (.int .i64 max) | _ => undef) (fun i_ s_ W_ => match i_ with | 0 => W_ = W0.drew | 1 => s_ 66 = .map (some W0.heap.size) ∧ W_ = W0.drew.alloc (.map #[] 0) | 2 => s_ 66 = .map (some W0.heap.size) ∧ W_ = W7 | 3 => s_ 72 = .map (some W0.heap.size) ∧ W_ = W7 | 4 => s_ 77 = .bool B ∧ Below W0.heap.size W0 W_ | _ => s_ 8 = .bool B ∧ Below W0.heap.size W0 W_) [[], [], [1], [2], [3], [], [], [6], [7], [8], [], [5, 9, 10], [5, 6, 7, 8, 9, 10, 11], [], [13], [14], [15], [0, 4, 12, 16], [17, 17, 0, 1, 2, 3, 4, 5, 6, 7, 8, 9, 10, 11, 12, 13, 14, 15, 16, 17], [18, 0, 1, 2, 3, 4, 5, 6, 7, 8, 9, 10, 11, 12, 13, 14, 15, 16, 17, 18]] (by kernel_rfl) (by decide) rfl (by decide) (by decide) (by decide) (by decide) (by decide) (by decide) (by decide) (by decide) (by decide) (by decide) (by decide) ?_ ?_ ?_ ?_ ?_
   ·intro i_ hi_ s_ W_ q_ hq_ hz_ hno_ hg_ ho_
    rcases (show i_ = 0 ∨ i_ = 1 ∨ i_ = 2 ∨ i_ = 3 ∨ i_ = 4 ∨ i_ = 5 ∨ i_ = 6 ∨ i_ = 7 ∨ i_ = 8 ∨ i_ = 9 ∨ i_ = 10 ∨ i_ = 11 ∨ i_ = 12 ∨ i_ = 13 from by have : i_ < 14 := hi_; omega) with rfl | rfl | rfl | rfl | rfl | rfl | rfl | rfl | rfl | rfl | rfl | rfl | rfl | rfl
    ·refine ⟨_, rfl, rfl, fun _ => rfl, ?_⟩
     have g0_ : s_ 0 = _ := ho_ 0 (by decide) (by decide)
     clear hg_ ho_ hno_ hz_ hq_
     first | (simp [execOp, mkN_eval, Result.andThen, *]; done) | (go_simp; simp [mkN_get, Result.andThen, *]; done)
    ·refine ⟨_, rfl, rfl, fun _ => rfl, ?_⟩
     have g12_ : s_ 12 = _ := ho_ 12 (by decide) (by decide)
     clear hg_ ho_ hno_ hz_ hq_
     first | (simp [execOp, mkN_eval, Result.andThen, *]; done) | (go_simp; simp [mkN_get, Result.andThen, *]; done)
    ·refine ⟨_, rfl, rfl, fun _ => rfl, ?_⟩
     have g62_ : s_ 62 = (PT x2.a) := hg_ 1 (by decide) (by decide)
     clear hg_ ho_ hno_ hz_ hq_
     first | (simp [execOp, mkN_eval, Result.andThen, *]; done) | (go_simp; simp [mkN_get, Result.andThen, *]; done)
    ·refine ⟨_, rfl, rfl, fun _ => rfl, ?_⟩
     have g63_ : s_ 63 = (PT x2.a) := hg_ 2 (by decide) (by decide)
     clear hg_ ho_ hno_ hz_ hq_
     first | (simp [execOp, mkN_eval, Result.andThen, *]; done) | (go_simp; simp [mkN_get, Result.andThen, *]; done)
    ·refine ⟨_, rfl, rfl, fun _ => rfl, ?_⟩
     have g64_ : s_ 64 = (PT x2.a) := hg_ 3 (by decide) (by decide)
     obtain hq3_ : q_ ≤ 3 := by rcases Nat.lt_or_ge 3 q_ with h | h; exact absurd (by decide) (hno_ 3 h); exact h
     have hc_ : W_.cell? ⟨x2.a, 0, none⟩ = some (.string n2) := by
      rcases (show q_ = 0 ∨ q_ = 1 ∨ q_ = 2 ∨ q_ = 3 from by omega) with rfl | rfl | rfl | rfl
      ·exact (show W_ = _ from hz_) ▸ (HCW.out).1.2.1
      ·exact (show s_ 66 = _ ∧ W_ = _ from hz_).2 ▸ (HCW.out).2.1.2.1
      ·exact (show s_ 66 = _ ∧ W_ = _ from hz_).2 ▸ (HCW.out).2.2.2.1
      ·exact (show s_ 72 = _ ∧ W_ = _ from hz_).2 ▸ (HCW.out).2.2.2.1
     clear hg_ ho_ hno_ hz_ hq_
     first | (simp [execOp, mkN_eval, Result.andThen, *]; done) | (go_simp; simp [mkN_get, Result.andThen, *]; done)
    ·refine ⟨_, rfl, rfl, fun _ => rfl, ?_⟩
     have g10_ : s_ 10 = _ := ho_ 10 (by decide) (by decide)
     clear hg_ ho_ hno_ hz_ hq_
     first | (simp [execOp, mkN_eval, Result.andThen, *]; done) | (go_simp; simp [mkN_get, Result.andThen, *]; done)
    ·refine ⟨_, rfl, rfl, fun _ => rfl, ?_⟩
     have g67_ : s_ 67 = (PT x1.a) := hg_ 5 (by decide) (by decide)
     clear hg_ ho_ hno_ hz_ hq_
     first | (simp [execOp, mkN_eval, Result.andThen, *]; done) | (go_simp; simp [mkN_get, Result.andThen, *]; done)
    ·refine ⟨_, rfl, rfl, fun _ => rfl, ?_⟩
     have g68_ : s_ 68 = (PT x1.a) := hg_ 6 (by decide) (by decide)
     clear hg_ ho_ hno_ hz_ hq_
     first | (simp [execOp, mkN_eval, Result.andThen, *]; done) | (go_simp; simp [mkN_get, Result.andThen, *]; done)
    ·refine ⟨_, rfl, rfl, fun _ => rfl, ?_⟩
     have g69_ : s_ 69 = (PT x1.a) := hg_ 7 (by decide) (by decide)
     obtain hq3_ : q_ ≤ 1 := by rcases Nat.lt_or_ge 1 q_ with h | h; exact absurd (by decide) (hno_ 1 h); exact h
     have hc_ : W_.cell? ⟨x1.a, 0, none⟩ = some (.string n1) := by
      rcases (show q_ = 0 ∨ q_ = 1 from by omega) with rfl | rfl
      ·exact (show W_ = _ from hz_) ▸ (HCW.out).1.1
      ·exact (show s_ 66 = _ ∧ W_ = _ from hz_).2 ▸ (HCW.out).2.1.1
     clear hg_ ho_ hno_ hz_ hq_
     first | (simp [execOp, mkN_eval, Result.andThen, *]; done) | (go_simp; simp [mkN_get, Result.andThen, *]; done)
    ·refine ⟨_, rfl, rfl, fun _ => rfl, ?_⟩
     have g10_ : s_ 10 = _ := ho_ 10 (by decide) (by decide)
     clear hg_ ho_ hno_ hz_ hq_
     first | (simp [execOp, mkN_eval, Result.andThen, *]; done) | (go_simp; simp [mkN_get, Result.andThen, *]; done)
    ·refine ⟨_, rfl, rfl, fun _ => rfl, ?_⟩
     have g0_ : s_ 0 = _ := ho_ 0 (by decide) (by decide)
     clear hg_ ho_ hno_ hz_ hq_
     first | (simp [execOp, mkN_eval, Result.andThen, *]; done) | (go_simp; simp [mkN_get, Result.andThen, *]; done)
    ·refine ⟨_, rfl, rfl, fun _ => rfl, ?_⟩
     have g73_ : s_ 73 = (PT p) := hg_ 10 (by decide) (by decide)
     clear hg_ ho_ hno_ hz_ hq_
     first | (simp [execOp, mkN_eval, Result.andThen, *]; done) | (go_simp; simp [mkN_get, Result.andThen, *]; done)
    ·refine ⟨_, rfl, rfl, fun _ => rfl, ?_⟩
     have g74_ : s_ 74 = (PT p) := hg_ 11 (by decide) (by decide)
     clear hg_ ho_ hno_ hz_ hq_
     first | (simp [execOp, mkN_eval, Result.andThen, *]; done) | (go_simp; simp [mkN_get, Result.andThen, *]; done)
    ·refine ⟨_, rfl, rfl, fun _ => rfl, ?_⟩
     have g75_ : s_ 75 = (.pointer (some ⟨p, 1, none⟩)) := hg_ 12 (by decide) (by decide)
     obtain hq3_ : q_ ≤ 3 := by rcases Nat.lt_or_ge 3 q_ with h | h; exact absurd (by decide) (hno_ 3 h); exact h
     have hc_ : W_.cell? ⟨p, 1, none⟩ = some (.int .i64 max) := by
      rcases (show q_ = 0 ∨ q_ = 1 ∨ q_ = 2 ∨ q_ = 3 from by omega) with rfl | rfl | rfl | rfl
      ·exact (show W_ = _ from hz_) ▸ (HCW.out).1.2.2
      ·exact (show s_ 66 = _ ∧ W_ = _ from hz_).2 ▸ (HCW.out).2.1.2.2
      ·exact (show s_ 66 = _ ∧ W_ = _ from hz_).2 ▸ (HCW.out).2.2.2.2
      ·exact (show s_ 72 = _ ∧ W_ = _ from hz_).2 ▸ (HCW.out).2.2.2.2
     clear hg_ ho_ hno_ hz_ hq_
     first | (simp [execOp, mkN_eval, Result.andThen, *]; done) | (go_simp; simp [mkN_get, Result.andThen, *]; done)
   ·exact rfl
   ·intro q_ s_ x_ v_ W_ hx_ hZ_
    have e66_ : updN s_ x_ v_ 66 = s_ 66 := updN_ne (fun e => by subst e; exact absurd hx_ (by decide))
    have e72_ : updN s_ x_ v_ 72 = s_ 72 := updN_ne (fun e => by subst e; exact absurd hx_ (by decide))
    have e77_ : updN s_ x_ v_ 77 = s_ 77 := updN_ne (fun e => by subst e; exact absurd hx_ (by decide))
    have e8_ : updN s_ x_ v_ 8 = s_ 8 := updN_ne (fun e => by subst e; exact absurd hx_ (by decide))
    clear hx_
    rcases (show q_ = 0 ∨ q_ = 1 ∨ q_ = 2 ∨ q_ = 3 ∨ q_ = 4 ∨ ∃ z_, q_ = z_ + 5 from by by_cases h : 5 ≤ q_; exact .inr (.inr (.inr (.inr (.inr (⟨q_ - 5, by omega⟩))))); omega) with rfl | rfl | rfl | rfl | rfl | ⟨z_, rfl⟩
    ·exact hZ_
    ·simpa only [e66_, e72_, e77_, e8_] using hZ_
    ·simpa only [e66_, e72_, e77_, e8_] using hZ_
    ·simpa only [e66_, e72_, e77_, e8_] using hZ_
    ·simpa only [e66_, e72_, e77_, e8_] using hZ_
    ·simpa only [e66_, e72_, e77_, e8_] using hZ_
   ·intro i_ hi_ s_ W_ hg_ ho_ hZ_ K_ hK_
    rcases (show i_ = 0 ∨ i_ = 1 ∨ i_ = 2 ∨ i_ = 3 ∨ i_ = 4 from by have : i_ < 5 := hi_; omega) with rfl | rfl | rfl | rfl | rfl
    ·skip
     obtain rfl : W_ = W0.drew := hZ_
     clear hg_ ho_
     refine wpOp_step rfl (fun K' hK => ?_)
     go_simp
     try simp [mkN_get, hmm]
     refine hK _ _ ?_
     show K_ ((mkN 78 _ s_).put (some 66) (.map (some W0.heap.size))) (W0.drew.alloc (.map #[] 0))
     rw [mkN_put _ _ _ (by decide)]
     exact hK_ _ _ ⟨updN_self _ _ _, rfl⟩ (fun j hj => updN_ne (fun e => hj (by subst e; rfl)))
    ·have g70_ : s_ 70 = (.string n1) := hg_ 8 (by decide) (by decide)
     have g71_ : s_ 71 = (PT x1.a) := hg_ 9 (by decide) (by decide)
     obtain ⟨g66_, rfl⟩ := (show s_ 66 = _ ∧ W_ = _ from hZ_)
     clear hg_ ho_
     refine wpOp_step rfl (fun K' hK => ?_)
     go_simp
     simp [mkN_get, g66_, g70_, g71_, hrun, hrun2]
     refine hK _ _ ?_
     exact hK_ _ _ ⟨g66_, rfl⟩ (fun j hj => rfl)
    ·skip
     obtain ⟨g66_, rfl⟩ := (show s_ 66 = _ ∧ W_ = _ from hZ_)
     clear hg_ ho_
     refine wpOp_step rfl (fun K' hK => ?_)
     go_simp
     simp [mkN_get, g66_]
     refine hK _ _ ?_
     show K_ ((mkN 78 _ s_).put (some 72) (.map (some W0.heap.size))) W_
     rw [mkN_put _ _ _ (by decide)]
     exact hK_ _ _ ⟨updN_self _ _ _, rfl⟩ (fun j hj => updN_ne (fun e => hj (by subst e; rfl)))
    ·have g61_ : s_ 61 = (PT p) := hg_ 0 (by decide) (by decide)
     have g65_ : s_ 65 = (.string n2) := hg_ 4 (by decide) (by decide)
     have g76_ : s_ 76 = (.int .i64 max) := hg_ 13 (by decide) (by decide)
     obtain ⟨g72_, rfl⟩ := (show s_ 72 = _ ∧ W_ = _ from hZ_)
     clear hg_ ho_
     refine wpOp_step rfl (fun K' hK => ?_)
     go_simp
     simp [mkN_get, g61_, g65_, g72_, g76_]
     go_wp2_with (go_at_call 115; refine HH.out.mono ?_; rintro e w3 ⟨rfl, hb3⟩)
     show K_ ((mkN 78 _ s_).put (some 77) (.bool B)) w3
     rw [mkN_put _ _ _ (by decide)]
     exact hK_ _ _ ⟨updN_self _ _ _, hb3⟩ (fun j hj => updN_ne (fun e => hj (by subst e; rfl)))
    ·skip
     obtain ⟨g77_, hb_⟩ := (show s_ 77 = _ ∧ Below _ _ W_ from hZ_)
     clear hg_ ho_
     refine wpOp_step rfl (fun K' hK => ?_)
     go_simp
     simp [mkN_get, g77_]
     refine hK _ _ ?_
     show K_ ((mkN 78 _ s_).put (some 8) (.bool B)) W_
     rw [mkN_put _ _ _ (by decide)]
     exact hK_ _ _ ⟨updN_self _ _ _, hb_⟩ (fun j hj => updN_ne (fun e => hj (by subst e; rfl)))
   ·intro s_ W_ hZ_ hv_ ho_
    obtain ⟨g8_, hb_⟩ := (show s_ 8 = _ ∧ Below _ _ W_ from hZ_)
    have HB9 := Aside0.mk hb_
    clear hv_ ho_ hZ_ hb_ HH HCW
    refine wpOp_step rfl (fun K' hK => ?_)
    go_simp
    refine hK _ _ ?_
    rw [mk78_lit, g8_]
    clear hK g8_ hrun hrun2
    go_wp2
    have hM9 := HM3.out.below HB9.out
    have hR9 := HR3.out
    have hw9 : Went F F3 w W_ := HW1.out.trans (HW2.out.trans (HW3.out.trans (Went.below HB9.out)))
    refine leaves_cons (f := 108) (args := #[PT p, .string n1]) (by first | (simp; done) | (simp [settle]; done) | decide) (by simp [go_sem]) ?_
    have hd1 := remove_role_d .returning hM9 hR9
    rw [hn1] at hd1
    refine hd1.mono ?_
    rintro e u' v1 ⟨rfl, rfl, ⟨G1, z1, hM11, hR11, hx11, ht11⟩⟩
    have hw11 : Went F G1 w v1 := hw9.trans ⟨hx11, ht11⟩
    refine leaves_cons (f := 114) (args := #[.pointer (some ⟨p, 5, none⟩)]) (by first | (simp; done) | (simp [settle]; done) | decide) (by simp [go_sem]) ?_
    refine (Go.MuLone.unlock_deferred muLib ⟨p, 5, none⟩ .returning v1 (load_cell hM11 hR11.p rfl) (rm_mu_free hM11 hR11)).mono ?_
    rintro e u' we ⟨rfl, rfl, rfl⟩
    obtain ⟨F9, hMe, hRe, hwe⟩ := rm_mu (.int .i32 0) hM11 hR11
    have hwz := hw11.trans hwe
    refine ⟨_, results_tmp2 rfl _ _ _, ?_⟩
    exact ⟨by rw [HBB.out]; rfl, F9, _, L, hMe, hRe, HGG.out, hwz.n, hwz.t⟩
  ·have HG1 := Aside0.mk (get_role_new hM1 hR1 hG hin1)
   have HGG := Aside0.mk hG
   have HW1 := Aside0.mk hw1
   clear hM1 hR1 hw1
   go_enter_defers Tryz.func105, Tryz.ntmps105
   go_upto_region 5 with (go_at_call 113; refine HLK.out.mono ?_; rintro e wl ⟨rfl, rfl⟩)
   generalize w.setCell ⟨p, 5, none⟩ (.int .i32 1) = wl at *
   go_upto_region 6 with (go_at_call 58; refine HG1.out.mono ?_; rintro e w2 ⟨x1, F2, m2, rfl, hM2, hR2, hG2, hn1, hx, ht⟩)
   have hx1 : x1 ∈ L ++ [x1] := by simp
   have hin3 : n2 ∉ (L ++ [x1]).map (·.name) := by rw [List.map_append, List.mem_append]; exact fun h => h.elim hin2 (fun h => hne (by rw [List.map_cons, List.map_nil, List.mem_singleton] at h; rw [h, hn1]))
   have HG3 := Aside0.mk (get_role_new hM2 hR2 hG2 hin3)
   have HW2 := Aside0.mk (Went.mk hx ht)
   have hal2 := (hM2 _ _ _ (hR2.roles x1 hx1).a).lt
   have c10 : w2.cell? ⟨x1.a, 0, none⟩ = some (.string n1) := by rw [← hn1]; exact load_cell hM2 (hR2.roles x1 hx1).a rfl
   have HG2 := Aside0.mk hG2
   clear hM2 hR2 hG2 hx ht HG1 hin3
   go_upto_region 7 with (go_at_call 58; refine HG3.out.mono ?_; rintro e W0 ⟨x2, F3, m3, rfl, hM3, hR3, hG3, hn2, hx, ht⟩)
   have hx2 : x2 ∈ ((L ++ [x1]) ++ [x2]) := by simp
   have hx12 : x1 ∈ ((L ++ [x1]) ++ [x2]) := List.mem_append_left _ hx1
   have c11 : W0.cell? ⟨x1.a, 0, none⟩ = some (.string n1) := by rw [← hn1]; exact load_cell hM3 (hR3.roles x1 hx12).a rfl
   have c12 : W0.cell? ⟨x2.a, 0, none⟩ = some (.string n2) := by rw [← hn2]; exact load_cell hM3 (hR3.roles x2 hx2).a rfl
   obtain ⟨es, cc, hrun, hk⟩ := (KM.made (ky := .string) W0.drew).put uSR keyS n1 (PT x1.a)
   obtain ⟨W7, hW7⟩ : ∃ W7, W7 = setO (W0.drew.alloc (.map #[] 0)) W0.heap.size (.map es cc) := ⟨_, rfl⟩
   have hrun : (Instr.mapUpdate 164 (.map (some W0.heap.size)) (.string n1) (PT x1.a)).run Tryz.prog (W0.drew.alloc (.map #[] 0)) = .ok () W7 := by rw [hW7]; exact hrun
   have hrun2 : (Instr.mapUpdate 164 (.map (some W0.heap.size)) (.string n1) (PT x1.a)).run Tryz.prog (W0.alloc (.map #[] 0)).drew = .ok () W7 := hrun
   have hk : KM .string W7 W0.heap.size (ptrE [(n1, x1.a)]) := by rw [hW7]; exact hk
   have hb7 : Below W0.heap.size W0 W7 := by
    rw [hW7]
    exact ⟨rfl, rfl, rfl, by rw [setO_size]; simp, fun k hk => (setO_ne (by omega)).trans (heap_alloc_old W0.drew _ hk)⟩
   have hba : Below W0.heap.size W0 (W0.drew.alloc (.map #[] 0)) := ⟨rfl, rfl, rfl, by simp, fun k hk => heap_alloc_old W0.drew _ hk⟩
   have HCW := Aside0.mk (show (W0.drew.cell? ⟨x1.a, 0, none⟩ = some (.string n1) ∧ W0.drew.cell? ⟨x2.a, 0, none⟩ = some (.string n2) ∧ W0.drew.cell? ⟨p, 1, none⟩ = some (.int .i64 max)) ∧ ((W0.drew.alloc (.map #[] 0)).cell? ⟨x1.a, 0, none⟩ = some (.string n1) ∧ (W0.drew.alloc (.map #[] 0)).cell? ⟨x2.a, 0, none⟩ = some (.string n2) ∧ (W0.drew.alloc (.map #[] 0)).cell? ⟨p, 1, none⟩ = some (.int .i64 max)) ∧ (W7.cell? ⟨x1.a, 0, none⟩ = some (.string n1) ∧ W7.cell? ⟨x2.a, 0, none⟩ = some (.string n2) ∧ W7.cell? ⟨p, 1, none⟩ = some (.int .i64 max)) from by
    have key : ∀ W, Mem W F3 → W.cell? ⟨x1.a, 0, none⟩ = some (.string n1) ∧ W.cell? ⟨x2.a, 0, none⟩ = some (.string n2) ∧ W.cell? ⟨p, 1, none⟩ = some (.int .i64 max) := fun W hW => ⟨by rw [← hn1]; exact load_cell hW (hR3.roles x1 hx12).a rfl, by rw [← hn2]; exact load_cell hW (hR3.roles x2 hx2).a rfl, load_cell hW hR3.p rfl⟩
    exact ⟨key _ hM3.drew, key _ (hM3.below hba), key _ (hM3.below hb7)⟩)
   obtain ⟨B, hB⟩ : ∃ B, B = hasF (rolesE E) n2 max.toNat [n1] := ⟨_, rfl⟩
   have HH := Aside0.mk ((has_helper n2 hR3 hG3 hE (max.toNat + 1) (w := W7) (M1 := W0.heap.size) (fr := [(n1, x1.a)]) (lv := max) (by omega) (by omega) (hM3.below hb7) hk (fun q hq => by
    rw [List.mem_singleton] at hq
    exact ⟨x1, hx12, by rw [hq]; exact hn1, by rw [hq]⟩)).mono (R' := fun e w' => e = .returned (.bool B) ∧ Below W0.heap.size W0 w') (by
    rintro e w' ⟨rfl, hb⟩
    refine ⟨by rw [hB, ← hasG_hasF]; rfl, hb7.trans (hb.mono hb7.size)⟩))
   have HM3 := Aside0.mk hM3
   have HR3 := Aside0.mk hR3
   have HW3 := Aside0.mk (Went.mk hx ht)
   have HBB := Aside0.mk hB
   have hal3 := (hM3 _ _ _ (hR3.roles x1 hx12).a).lt
   have hal4 := (hM3 _ _ _ (hR3.roles x2 hx2).a).lt
   have hpl3 := (hM3 _ _ _ hR3.p).lt
   clear hM3 hR3 hx ht hk hba hb7 hB hx1 hx2 hx12 HG3 hG3 HG2 hin1 hin2 hW7
   go_upto_region 11 with (fail)
   refine at_mkN (n := 78) (d := _) rfl rfl ?_
   refine region_mix (by kernel_rfl) [(0, 61), (1, 62), (2, 63), (3, 64), (4, 65), (6, 67), (7, 68), (8, 69), (9, 70), (10, 71), (13, 73), (14, 74), (15, 75), (16, 76)] [5, 11, 12, 17, 18] (fun k_ => match k_ with | 0 => some 66 | 1 => none | 2 => some 72 | 3 => some 77 | 4 => some 8 | _ => none) (fun k_ => match k_ with | 0 => (PT p) | 1 => (PT x2.a) | 2 => (PT x2.a) | 3 => (PT x2.a) | 4 => (.string n2) | 6 => (PT x1.a) | 7 => (PT x1.a) | 8 => (PT x1.a) | 9 => (.string n1) | 10 => (PT x1.a) | 13 => (PT p) | 14 => (PT p) | 15 => (.pointer (some ⟨p, 1, none⟩)) | 16 => (.int .i64 max) | _ => undef) (fun i_ s_ W_ => match i_ with | 0 => W_ = W0.drew | 1 => s_ 66 = .map (some W0.heap.size) ∧ W_ = W0.drew.alloc (.map #[] 0) | 2 => s_ 66 = .map (some W0.heap.size) ∧ W_ = W7 | 3 => s_ 72 = .map (some W0.heap.size) ∧ W_ = W7 | 4 => s_ 77 = .bool B ∧ Below W0.heap.size W0 W_ | _ => s_ 8 = .bool B ∧ Below W0.heap.size W0 W_) [[], [], [1], [2], [3], [], [], [6], [7], [8], [], [5, 9, 10], [5, 6, 7, 8, 9, 10, 11], [], [13], [14], [15], [0, 4, 12, 16], [17, 17, 0, 1, 2, 3, 4, 5, 6, 7, 8, 9, 10, 11, 12, 13, 14, 15, 16, 17], [18, 0, 1, 2, 3, 4, 5, 6, 7, 8, 9, 10, 11, 12, 13, 14, 15, 16, 17, 18]] (by kernel_rfl) (by decide) rfl (by decide) (by decide) (by decide) (by decide) (by decide) (by decide) (by decide) (by decide) (by decide) (by decide) (by decide) ?_ ?_ ?_ ?_ ?_
   ·intro i_ hi_ s_ W_ q_ hq_ hz_ hno_ hg_ ho_
    rcases (show i_ = 0 ∨ i_ = 1 ∨ i_ = 2 ∨ i_ = 3 ∨ i_ = 4 ∨ i_ = 5 ∨ i_ = 6 ∨ i_ = 7 ∨ i_ = 8 ∨ i_ = 9 ∨ i_ = 10 ∨ i_ = 11 ∨ i_ = 12 ∨ i_ = 13 from by have : i_ < 14 := hi_; omega) with rfl | rfl | rfl | rfl | rfl | rfl | rfl | rfl | rfl | rfl | rfl | rfl | rfl | rfl
    ·refine ⟨_, rfl, rfl, fun _ => rfl, ?_⟩
     have g0_ : s_ 0 = _ := ho_ 0 (by decide) (by decide)
     clear hg_ ho_ hno_ hz_ hq_
     first | (simp [execOp, mkN_eval, Result.andThen, *]; done) | (go_simp; simp [mkN_get, Result.andThen, *]; done)
    ·refine ⟨_, rfl, rfl, fun _ => rfl, ?_⟩
     have g12_ : s_ 12 = _ := ho_ 12 (by decide) (by decide)
     clear hg_ ho_ hno_ hz_ hq_
     first | (simp [execOp, mkN_eval, Result.andThen, *]; done) | (go_simp; simp [mkN_get, Result.andThen, *]; done)
    ·refine ⟨_, rfl, rfl, fun _ => rfl, ?_⟩
     have g62_ : s_ 62 = (PT x2.a) := hg_ 1 (by decide) (by decide)
     clear hg_ ho_ hno_ hz_ hq_
     first | (simp [execOp, mkN_eval, Result.andThen, *]; done) | (go_simp; simp [mkN_get, Result.andThen, *]; done)
    ·refine ⟨_, rfl, rfl, fun _ => rfl, ?_⟩
     have g63_ : s_ 63 = (PT x2.a) := hg_ 2 (by decide) (by decide)
     clear hg_ ho_ hno_ hz_ hq_
     first | (simp [execOp, mkN_eval, Result.andThen, *]; done) | (go_simp; simp [mkN_get, Result.andThen, *]; done)
    ·refine ⟨_, rfl, rfl, fun _ => rfl, ?_⟩
     have g64_ : s_ 64 = (PT x2.a) := hg_ 3 (by decide) (by decide)
     obtain hq3_ : q_ ≤ 3 := by rcases Nat.lt_or_ge 3 q_ with h | h; exact absurd (by decide) (hno_ 3 h); exact h
     have hc_ : W_.cell? ⟨x2.a, 0, none⟩ = some (.string n2) := by
      rcases (show q_ = 0 ∨ q_ = 1 ∨ q_ = 2 ∨ q_ = 3 from by omega) with rfl | rfl | rfl | rfl
      ·exact (show W_ = _ from hz_) ▸ (HCW.out).1.2.1
      ·exact (show s_ 66 = _ ∧ W_ = _ from hz_).2 ▸ (HCW.out).2.1.2.1
      ·exact (show s_ 66 = _ ∧ W_ = _ from hz_).2 ▸ (HCW.out).2.2.2.1
      ·exact (show s_ 72 = _ ∧ W_ = _ from hz_).2 ▸ (HCW.out).2.2.2.1
     clear hg_ ho_ hno_ hz_ hq_
     first | (simp [execOp, mkN_eval, Result.andThen, *]; done) | (go_simp; simp [mkN_get, Result.andThen, *]; done)
    ·refine ⟨_, rfl, rfl, fun _ => rfl, ?_⟩
     have g10_ : s_ 10 = _ := ho_ 10 (by decide) (by decide)
     clear hg_ ho_ hno_ hz_ hq_
     first | (simp [execOp, mkN_eval, Result.andThen, *]; done) | (go_simp; simp [mkN_get, Result.andThen, *]; done)
    ·refine ⟨_, rfl, rfl, fun _ => rfl, ?_⟩
     have g67_ : s_ 67 = (PT x1.a) := hg_ 5 (by decide) (by decide)
     clear hg_ ho_ hno_ hz_ hq_
     first | (simp [execOp, mkN_eval, Result.andThen, *]; done) | (go_simp; simp [mkN_get, Result.andThen, *]; done)
    ·refine ⟨_, rfl, rfl, fun _ => rfl, ?_⟩
     have g68_ : s_ 68 = (PT x1.a) := hg_ 6 (by decide) (by decide)
     clear hg_ ho_ hno_ hz_ hq_
     first | (simp [execOp, mkN_eval, Result.andThen, *]; done) | (go_simp; simp [mkN_get, Result.andThen, *]; done)
    ·refine ⟨_, rfl, rfl, fun _ => rfl, ?_⟩
     have g69_ : s_ 69 = (PT x1.a) := hg_ 7 (by decide) (by decide)
     obtain hq3_ : q_ ≤ 1 := by rcases Nat.lt_or_ge 1 q_ with h | h; exact absurd (by decide) (hno_ 1 h); exact h
     have hc_ : W_.cell? ⟨x1.a, 0, none⟩ = some (.string n1) := by
      rcases (show q_ = 0 ∨ q_ = 1 from by omega) with rfl | rfl
      ·exact (show W_ = _ from hz_) ▸ (HCW.out).1.1
      ·exact (show s_ 66 = _ ∧ W_ = _ from hz_).2 ▸ (HCW.out).2.1.1
     clear hg_ ho_ hno_ hz_ hq_
     first | (simp [execOp, mkN_eval, Result.andThen, *]; done) | (go_simp; simp [mkN_get, Result.andThen, *]; done)
    ·refine ⟨_, rfl, rfl, fun _ => rfl, ?_⟩
     have g10_ : s_ 10 = _ := ho_ 10 (by decide) (by decide)
     clear hg_ ho_ hno_ hz_ hq_
     first | (simp [execOp, mkN_eval, Result.andThen, *]; done) | (go_simp; simp [mkN_get, Result.andThen, *]; done)
    ·refine ⟨_, rfl, rfl, fun _ => rfl, ?_⟩
     have g0_ : s_ 0 = _ := ho_ 0 (by decide) (by decide)
     clear hg_ ho_ hno_ hz_ hq_
     first | (simp [execOp, mkN_eval, Result.andThen, *]; done) | (go_simp; simp [mkN_get, Result.andThen, *]; done)
    ·refine ⟨_, rfl, rfl, fun _ => rfl, ?_⟩
     have g73_ : s_ 73 = (PT p) := hg_ 10 (by decide) (by decide)
     clear hg_ ho_ hno_ hz_ hq_
     first | (simp [execOp, mkN_eval, Result.andThen, *]; done) | (go_simp; simp [mkN_get, Result.andThen, *]; done)
    ·refine ⟨_, rfl, rfl, fun _ => rfl, ?_⟩
     have g74_ : s_ 74 = (PT p) := hg_ 11 (by decide) (by decide)
     clear hg_ ho_ hno_ hz_ hq_
     first | (simp [execOp, mkN_eval, Result.andThen, *]; done) | (go_simp; simp [mkN_get, Result.andThen, *]; done)
    ·refine ⟨_, rfl, rfl, fun _ => rfl, ?_⟩
     have g75_ : s_ 75 = (.pointer (some ⟨p, 1, none⟩)) := hg_ 12 (by decide) (by decide)
     obtain hq3_ : q_ ≤ 3 := by rcases Nat.lt_or_ge 3 q_ with h | h; exact absurd (by decide) (hno_ 3 h); exact h
     have hc_ : W_.cell? ⟨p, 1, none⟩ = some (.int .i64 max) := by
      rcases (show q_ = 0 ∨ q_ = 1 ∨ q_ = 2 ∨ q_ = 3 from by omega) with rfl | rfl | rfl | rfl
      ·exact (show W_ = _ from hz_) ▸ (HCW.out).1.2.2
      ·exact (show s_ 66 = _ ∧ W_ = _ from hz_).2 ▸ (HCW.out).2.1.2.2
      ·exact (show s_ 66 = _ ∧ W_ = _ from hz_).2 ▸ (HCW.out).2.2.2.2
      ·exact (show s_ 72 = _ ∧ W_ = _ from hz_).2 ▸ (HCW.out).2.2.2.2
     clear hg_ ho_ hno_ hz_ hq_
     first | (simp [execOp, mkN_eval, Result.andThen, *]; done) | (go_simp; simp [mkN_get, Result.andThen, *]; done)
   ·exact rfl
   ·intro q_ s_ x_ v_ W_ hx_ hZ_
    have e66_ : updN s_ x_ v_ 66 = s_ 66 := updN_ne (fun e => by subst e; exact absurd hx_ (by decide))
    have e72_ : updN s_ x_ v_ 72 = s_ 72 := updN_ne (fun e => by subst e; exact absurd hx_ (by decide))
    have e77_ : updN s_ x_ v_ 77 = s_ 77 := updN_ne (fun e => by subst e; exact absurd hx_ (by decide))
    have e8_ : updN s_ x_ v_ 8 = s_ 8 := updN_ne (fun e => by subst e; exact absurd hx_ (by decide))
    clear hx_
    rcases (show q_ = 0 ∨ q_ = 1 ∨ q_ = 2 ∨ q_ = 3 ∨ q_ = 4 ∨ ∃ z_, q_ = z_ + 5 from by by_cases h : 5 ≤ q_; exact .inr (.inr (.inr (.inr (.inr (⟨q_ - 5, by omega⟩))))); omega) with rfl | rfl | rfl | rfl | rfl | ⟨z_, rfl⟩
    ·exact hZ_
    ·simpa only [e66_, e72_, e77_, e8_] using hZ_
    ·simpa only [e66_, e72_, e77_, e8_] using hZ_
    ·simpa only [e66_, e72_, e77_, e8_] using hZ_
    ·simpa only [e66_, e72_, e77_, e8_] using hZ_
    ·simpa only [e66_, e72_, e77_, e8_] using hZ_
   ·intro i_ hi_ s_ W_ hg_ ho_ hZ_ K_ hK_
    rcases (show i_ = 0 ∨ i_ = 1 ∨ i_ = 2 ∨ i_ = 3 ∨ i_ = 4 from by have : i_ < 5 := hi_; omega) with rfl | rfl | rfl | rfl | rfl
    ·skip
     obtain rfl : W_ = W0.drew := hZ_
     clear hg_ ho_
     refine wpOp_step rfl (fun K' hK => ?_)
     go_simp
     try simp [mkN_get, hmm]
     refine hK _ _ ?_
     show K_ ((mkN 78 _ s_).put (some 66) (.map (some W0.heap.size))) (W0.drew.alloc (.map #[] 0))
     rw [mkN_put _ _ _ (by decide)]
     exact hK_ _ _ ⟨updN_self _ _ _, rfl⟩ (fun j hj => updN_ne (fun e => hj (by subst e; rfl)))
    ·have g70_ : s_ 70 = (.string n1) := hg_ 8 (by decide) (by decide)
     have g71_ : s_ 71 = (PT x1.a) := hg_ 9 (by decide) (by decide)
     obtain ⟨g66_, rfl⟩ := (show s_ 66 = _ ∧ W_ = _ from hZ_)
     clear hg_ ho_
     refine wpOp_step rfl (fun K' hK => ?_)
     go_simp
     simp [mkN_get, g66_, g70_, g71_, hrun, hrun2]
     refine hK _ _ ?_
     exact hK_ _ _ ⟨g66_, rfl⟩ (fun j hj => rfl)
    ·skip
     obtain ⟨g66_, rfl⟩ := (show s_ 66 = _ ∧ W_ = _ from hZ_)
     clear hg_ ho_
     refine wpOp_step rfl (fun K' hK => ?_)
     go_simp
     simp [mkN_get, g66_]
     refine hK _ _ ?_
     show K_ ((mkN 78 _ s_).put (some 72) (.map (some W0.heap.size))) W_
     rw [mkN_put _ _ _ (by decide)]
     exact hK_ _ _ ⟨updN_self _ _ _, rfl⟩ (fun j hj => updN_ne (fun e => hj (by subst e; rfl)))
    ·have g61_ : s_ 61 = (PT p) := hg_ 0 (by decide) (by decide)
     have g65_ : s_ 65 = (.string n2) := hg_ 4 (by decide) (by decide)
     have g76_ : s_ 76 = (.int .i64 max) := hg_ 13 (by decide) (by decide)
     obtain ⟨g72_, rfl⟩ := (show s_ 72 = _ ∧ W_ = _ from hZ_)
     clear hg_ ho_
     refine wpOp_step rfl (fun K' hK => ?_)
     go_simp
     simp [mkN_get, g61_, g65_, g72_, g76_]
     go_wp2_with (go_at_call 115; refine HH.out.mono ?_; rintro e w3 ⟨rfl, hb3⟩)
     show K_ ((mkN 78 _ s_).put (some 77) (.bool B)) w3
     rw [mkN_put _ _ _ (by decide)]
     exact hK_ _ _ ⟨updN_self _ _ _, hb3⟩ (fun j hj => updN_ne (fun e => hj (by subst e; rfl)))
    ·skip
     obtain ⟨g77_, hb_⟩ := (show s_ 77 = _ ∧ Below _ _ W_ from hZ_)
     clear hg_ ho_
     refine wpOp_step rfl (fun K' hK => ?_)
     go_simp
     simp [mkN_get, g77_]
     refine hK _ _ ?_
     show K_ ((mkN 78 _ s_).put (some 8) (.bool B)) W_
     rw [mkN_put _ _ _ (by decide)]
     exact hK_ _ _ ⟨updN_self _ _ _, hb_⟩ (fun j hj => updN_ne (fun e => hj (by subst e; rfl)))
   ·intro s_ W_ hZ_ hv_ ho_
    obtain ⟨g8_, hb_⟩ := (show s_ 8 = _ ∧ Below _ _ W_ from hZ_)
    have HB9 := Aside0.mk hb_
    clear hv_ ho_ hZ_ hb_ HH HCW
    refine wpOp_step rfl (fun K' hK => ?_)
    go_simp
    refine hK _ _ ?_
    rw [mk78_lit, g8_]
    clear hK g8_ hrun hrun2
    go_wp2
    have hM9 := HM3.out.below HB9.out
    have hR9 := HR3.out
    have hw9 : Went F F3 w W_ := HW1.out.trans (HW2.out.trans (HW3.out.trans (Went.below HB9.out)))
    refine leaves_cons (f := 108) (args := #[PT p, .string n2]) (by first | (simp; done) | (simp [settle]; done) | decide) (by simp [go_sem]) ?_
    have hd2 := remove_role_d .returning hM9 hR9
    rw [hn2] at hd2
    refine hd2.mono ?_
    rintro e u' v2 ⟨rfl, rfl, ⟨G2, z2, hM22, hR22, hx22, ht22⟩⟩
    have hw22 : Went F G2 w v2 := hw9.trans ⟨hx22, ht22⟩
    refine leaves_cons (f := 108) (args := #[PT p, .string n1]) (by first | (simp; done) | (simp [settle]; done) | decide) (by simp [go_sem]) ?_
    have hd1 := remove_role_d .returning hM22 hR22
    rw [hn1] at hd1
    refine hd1.mono ?_
    rintro e u' v1 ⟨rfl, rfl, ⟨G1, z1, hM11, hR11, hx11, ht11⟩⟩
    have hw11 : Went F G1 w v1 := hw22.trans ⟨hx11, ht11⟩
    refine leaves_cons (f := 114) (args := #[.pointer (some ⟨p, 5, none⟩)]) (by first | (simp; done) | (simp [settle]; done) | decide) (by simp [go_sem]) ?_
    refine (Go.MuLone.unlock_deferred muLib ⟨p, 5, none⟩ .returning v1 (load_cell hM11 hR11.p rfl) (rm_mu_free hM11 hR11)).mono ?_
    rintro e u' we ⟨rfl, rfl, rfl⟩
    obtain ⟨F9, hMe, hRe, hwe⟩ := rm_mu (.int .i32 0) hM11 hR11
    have hwz := hw11.trans hwe
    refine ⟨_, results_tmp2 rfl _ _ _, ?_⟩
    exact ⟨by rw [HBB.out]; rfl, F9, _, L, hMe, hRe, HGG.out, hwz.n, hwz.t⟩
end
/-! A manager that is made, or cleared. -/
section
open Go.Proofs
set_option maxHeartbeats 4000000 in
set_option maxRecDepth 100000 in
theorem new_lru (n : Int) (w : World) : Calls Tryz.prog 55 #[.int .i64 n] w fun e w' => ∃ c, e = .returned (PT c) ∧ Below w.heap.size w w' := by
 have hmm := @run_makeMap Tryz.prog
 go_enter Tryz.func55, Tryz.ntmps55
 go_wp2
 go_ret
 refine ⟨_, rfl, ?_⟩
 repeat (first | exact Below.refl _ _ | refine Below.setCell ?_ (by first | (simp; done) | (simp; omega)) _ | refine Below.alloc ?_ (by first | (simp; done) | (simp; omega)) _ | refine Below.drew ?_)
theorem setCell_cells {w : World} {b i : Nat} {cs : Array Value} {t : TypeId} {z : Nat × Nat} (h : w.heap[b]? = some (.cells cs t z)) (u : Value) : (w.setCell ⟨b, i, none⟩ u).heap[b]? = some (.cells (cs.setIfInBounds i u) t z) := by
 simp [World.setCell, Array.getElem?_modify, h]
theorem cell_cells {w : World} {b i : Nat} {cs : Array Value} {t : TypeId} {z : Nat × Nat} {v : Value} (h : w.heap[b]? = some (.cells cs t z)) (hi : cs[i]? = some v) : w.cell? ⟨b, i, none⟩ = some v := by
 simp [World.cell?, h, hi]
theorem free_cells {w : World} {b i : Nat} {cs : Array Value} {t : TypeId} (h : w.heap[b]? = some (.cells cs t (0, 0))) : w.frozen? ⟨b, i, none⟩ = false := by
 simp [World.frozen?, h]
set_option maxHeartbeats 4000000 in
set_option maxRecDepth 100000 in
theorem new_sync_lru (n : Int) (w : World) : Calls Tryz.prog 47 #[.int .i64 n] w fun e w' => ∃ c, e = .returned (PT c) ∧ Below w.heap.size w w' := by
 go_enter Tryz.func47, Tryz.ntmps47
 go_wp2_with (go_at_call 55; refine (new_lru n _).mono ?_; rintro e w2 ⟨c, rfl, hb⟩; have hq := (hb.block w.heap.size (by simp)).trans (heap_alloc_new _ _); have c6 := cell_cells hq (i := 6) rfl; have f6 := free_cells hq (i := 6); have HB := Aside0.mk hb; clear hb hq)
 go_ret
 refine ⟨_, rfl, Below.setCell (((Below.refl w.heap.size w).alloc (Nat.le_refl _) _).trans (HB.out.mono (by simp))) (Nat.le_refl _) _⟩
set_option maxHeartbeats 4000000 in
set_option maxRecDepth 100000 in
theorem rm_clear_raw {w : World} {p : Nat} {v0 v4 : Value} {max : Int} {mc : List Value} (hp : w.heap[p]? = some (.cells (v0 :: .int .i64 max :: .nilFunc :: .nilFunc :: v4 :: mc).toArray 97 (0, 0))) :
  Calls Tryz.prog 38 #[PT p] w fun e w' => e = .returned .nilIface ∧ ∃ s c, w'.heap[p]? = some (.cells (PT s :: .int .i64 max :: .nilFunc :: .nilFunc :: PT c :: mc).toArray 97 (0, 0)) ∧ w'.heap[s]? = some (.cells #[.map none] 106 (0, 0)) ∧ w.heap.size ≤ s ∧ Turn (fun k => k = p) w w' := by
 have hpl := (Array.getElem?_eq_some_iff.1 hp).1
 have HP := Aside0.mk hp
 clear hp
 go_enter Tryz.func38, Tryz.ntmps38
 go_upto_region 2 with (go_at_call 47; refine (new_sync_lru 100 _).mono ?_; rintro e w2 ⟨c, rfl, hb⟩; have hq := (hb.block p hpl).trans HP.out; have c4 := cell_cells hq (i := 4) rfl; have f4 := free_cells hq (i := 4); have HB := Aside0.mk hb; have HQ := Aside0.mk hq; have hpl2 := (Array.getElem?_eq_some_iff.1 hq).1; clear hb hq)
 have hq2 := setCell_cells HQ.out (i := 4) (PT c)
 have hsz2 : (w2.setCell ⟨p, 4, none⟩ (PT c)).heap.size = w2.heap.size := by simp
 have HT := Aside0.mk (show Turn (fun k => k = p) w (w2.setCell ⟨p, 4, none⟩ (PT c)) from ⟨HB.out.os, HB.out.tape, HB.out.output, by rw [hsz2]; exact HB.out.size, fun k hk hn => (Below.heap_setCell _ _ _ _ hn).trans (HB.out.block k hk)⟩)
 generalize w2.setCell ⟨p, 4, none⟩ (PT c) = w3 at *
 have HQ3 := Aside0.mk hq2
 have hb3 : ∀ o, (w3.alloc o).heap[p]? = w3.heap[p]? := fun o => heap_alloc_old _ _ (by omega)
 have c0 := fun o => cell_cells ((hb3 o).trans hq2) (i := 0) rfl
 have f0 := fun o => free_cells ((hb3 o).trans hq2) (i := 0)
 have hpl3 : p < w3.heap.size := by omega
 clear hq2 hb3 hsz2
 go_wp2
 go_ret
 have hsz := HT.out.size
 have hs4 : (w3.setCell ⟨p, 0, none⟩ (PT w3.heap.size)).heap.size = w3.heap.size := by simp
 refine ⟨rfl, w3.heap.size, c, ?_, ?_, hsz, ?_⟩
 ·exact (heap_alloc_old _ _ (by rw [hs4]; exact hpl3)).trans (setCell_cells HQ3.out _)
 ·have := heap_alloc_new (w3.setCell ⟨p, 0, none⟩ (PT w3.heap.size)) (.cells #[.map none] 106)
  rw [hs4] at this
  exact this
 ·exact HT.out.trans (NextS.refl _ _) ⟨rfl, rfl, rfl, by simp, fun k hk hn => (heap_alloc_old _ _ (by rw [hs4]; exact hk)).trans (Below.heap_setCell _ _ _ _ hn)⟩
/-- a footprint of one manager without roles -/
def F0 (p s c : Nat) (max : Int) (mc : List Value) : Fp := fun k => if k = p then some (.rm, .cells (PT s :: .int .i64 max :: .nilFunc :: .nilFunc :: PT c :: mc).toArray 97) else if k = s then some (.all, SyP none) else none
theorem F0_mem {w : World} {p s c : Nat} {max : Int} {mc : List Value} (hps : p ≠ s) (hp : w.heap[p]? = some (.cells (PT s :: .int .i64 max :: .nilFunc :: .nilFunc :: PT c :: mc).toArray 97 (0, 0))) (hs : w.heap[s]? = some (.cells #[.map none] 106 (0, 0))) : Mem w (F0 p s c max mc) ∧ RMF (F0 p s c max mc) p s c max mc none [] ∧ Graph [] [] := by
 refine ⟨fun k t pc h => ?_, ⟨if_pos rfl, ?_, rfl, (fun x hx => nomatch hx), List.nodup_nil⟩, ⟨(fun x hx => nomatch hx), (fun x hx => nomatch hx), (fun x hx => nomatch hx), (fun x hx => nomatch hx), (fun x hx => nomatch hx), (fun x hx => nomatch hx), (fun e he => nomatch he)⟩⟩
 ·unfold F0 at h
  by_cases e : k = p
  ·rw [if_pos e] at h
   injection h with h
   injection h with _ h
   rw [← h, e]; exact hp
  ·rw [if_neg e] at h
   by_cases e2 : k = s
   ·rw [if_pos e2] at h
    injection h with h
    injection h with _ h
    rw [← h, e2]; exact hs
   ·rw [if_neg e2] at h; cases h
 ·unfold F0
  rw [if_neg (Ne.symm hps), if_pos rfl]
theorem F0_dom {p s c : Nat} {max : Int} {mc : List Value} {k : Nat} (h : F0 p s c max mc k ≠ none) : k = p ∨ k = s := by
 unfold F0 at h
 by_cases e : k = p
 ·exact .inl e
 ·rw [if_neg e] at h
  by_cases e2 : k = s
  ·exact .inr e2
  ·rw [if_neg e2] at h; exact absurd rfl h
theorem rm_clear {F : Fp} {w : World} {p s c : Nat} {max : Int} {mc : List Value} {m : Option Nat} {L : List RoleB} (hM : Mem w F) (hR : RMF F p s c max mc m L) :
  Calls Tryz.prog 38 #[PT p] w fun e w' => e = .returned .nilIface ∧ ∃ F' s' c', Mem w' F' ∧ RMF F' p s' c' max mc none [] ∧ Graph [] [] ∧ Next w.heap.size F F' ∧ TurnF F w w' := by
 have hp : w.heap[p]? = some (.cells (PT s :: .int .i64 max :: .nilFunc :: .nilFunc :: PT c :: mc).toArray 97 (0, 0)) := hM _ _ _ hR.p
 have hpl := (Array.getElem?_eq_some_iff.1 hp).1
 refine (rm_clear_raw hp).mono ?_
 rintro e w' ⟨rfl, s', c', h1, h2, h3, h4⟩
 obtain ⟨g1, g2, g3⟩ := F0_mem (by omega) h1 h2
 refine ⟨rfl, _, s', c', g1, g2, g3, fun k hk => ?_, h4.mono (fun k _ hk => ?_)⟩
 ·rcases F0_dom hk with rfl | rfl
  ·left
   show F k ≠ none
   rw [hR.p]; exact Option.some_ne_none _
  ·exact .inr h3
 ·have hk : k = p := hk
  show F k ≠ none
  rw [hk, hR.p]; exact Option.some_ne_none _
set_option maxHeartbeats 4000000 in
set_option maxRecDepth 100000 in
theorem rm_new (max : Int) (w : World) :
  Calls Tryz.prog 29 #[.int .i64 max] w fun e w' => ∃ p F s c, e = .returned (PT p) ∧ Mem w' F ∧ RMF F p s c max [.int .i32 0, .int .u32 0] none [] ∧ Graph [] [] ∧ (∀ k, F k ≠ none → w.heap.size ≤ k) ∧ Below w.heap.size w w' := by
 have hsn : ∀ (W : World) (a : Addr) (m : Mode), (store a .nilFunc m).run Tryz.prog W = stored Tryz.prog W a .nilFunc m := fun W a m => run_store Tryz.prog W a _ m rfl
 go_enter Tryz.func29, Tryz.ntmps29
 go_upto_region 2 with (fail)
 go_upto_region 3 with (go_at_call 38; refine (rm_clear_raw (max := 0) (v0 := .pointer none) (v4 := .pointer none) (mc := [.int .i32 0, .int .u32 0]) (heap_alloc_new _ _)).mono ?_; rintro e w2 ⟨rfl, s, c, h1, h2, h3, h4⟩; have c1 := cell_cells h1 (i := 1) rfl; have f1 := free_cells h1 (i := 1); have H1 := Aside0.mk h1; have H2 := Aside0.mk h2; have H3 := Aside0.mk h3; have H4 := Aside0.mk h4; clear h1 h2 h3 h4)
 go_wp2
 go_ret
 have h3 := H3.out
 rw [show (w.alloc (Obj.cells #[Value.pointer none, Value.int IntKind.i64 0, Value.nilFunc, Value.nilFunc, Value.pointer none, Value.int IntKind.i32 0, Value.int IntKind.u32 0] 97)).heap.size = w.heap.size + 1 from by simp] at h3
 have hq := setCell_cells H1.out (i := 1) (.int .i64 max)
 obtain ⟨g1, g2, g3⟩ := F0_mem (w := w2.setCell ⟨w.heap.size, 1, none⟩ (.int .i64 max)) (p := w.heap.size) (s := s) (c := c) (max := max) (mc := [.int .i32 0, .int .u32 0]) (by omega) hq ((Below.heap_setCell _ _ _ _ (fun e => by
  have e : s = w.heap.size := e
  omega)).trans H2.out)
 refine ⟨w.heap.size, _, s, c, rfl, g1, g2, g3, fun k hk => ?_, ?_⟩
 ·rcases F0_dom hk with rfl | rfl
  ·exact Nat.le_refl _
  ·omega
 ·exact (Turn.toBelow ((Below.refl w.heap.size w).alloc (Nat.le_refl _) _) H4.out (by simp) (fun k hk => by rw [show k = w.heap.size from hk]; exact Nat.le_refl _)).setCell (Nat.le_refl _) _
end

end Go.Proofs.YtjijaciaioieaaaGreat.PFnRolesOrder
