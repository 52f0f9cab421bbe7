/- The machine side of laws.FnRolesOrder: impl.roleAsk. Each theorem says its own conditions. -/
import Derived.Test.YtjijaciaioieaaaGreatOFnRolesOrderx83
import Derived.StillTailTactics
import Derived.Handy
import Derived.MapKept
import Derived.Maps.RangeRun
import Derived.OneCell
import Derived.LoopN
import Derived.Maps.OwnSet
import Derived.Maps.AppendAt
import Derived.Defers
import Derived.Conc.MuLone
import Derived.Conc.MuLib
namespace Go.Proofs.YtjijaciaioieaaaGreat.PFnRolesOrder
open Go.RowKit Go.Proofs.YtjijaciaioieaaaGreatW.PrintWords Go.Proofs.YtjijaciaioieaaaGreatW.PrintLast Go.Proofs.YtjijaciaioieaaaGreatW.PrintMore
set_option linter.unusedVariables false
set_option linter.unusedSimpArgs false
/-! impl.roleAsk. -/
section
open Go.Proofs
variable {K : List ByteArray}
theorem mk120_lit (d : List Deferred) (s : Nat → Value) : mkN 120 d s = { tmps := #[s 0, s 1, s 2, s 3, s 4, s 5, s 6, s 7, s 8, s 9, s 10, s 11, s 12, s 13, s 14, s 15, s 16, s 17, s 18, s 19, s 20, s 21, s 22, s 23, s 24, s 25, s 26, s 27, s 28, s 29, s 30, s 31, s 32, s 33, s 34, s 35, s 36, s 37, s 38, s 39, s 40, s 41, s 42, s 43, s 44, s 45, s 46, s 47, s 48, s 49, s 50, s 51, s 52, s 53, s 54, s 55, s 56, s 57, s 58, s 59, s 60, s 61, s 62, s 63, s 64, s 65, s 66, s 67, s 68, s 69, s 70, s 71, s 72, s 73, s 74, s 75, s 76, s 77, s 78, s 79, s 80, s 81, s 82, s 83, s 84, s 85, s 86, s 87, s 88, s 89, s 90, s 91, s 92, s 93, s 94, s 95, s 96, s 97, s 98, s 99, s 100, s 101, s 102, s 103, s 104, s 105, s 106, s 107, s 108, s 109, s 110, s 111, s 112, s 113, s 114, s 115, s 116, s 117, s 118, s 119], defers := d } := rfl
theorem run_store1b {w : World} {g i : Nat} {u : Value} (hc : w.cell? ⟨g, i, none⟩ = some u) (hf : w.frozen? ⟨g, i, none⟩ = false) (B : Bool) : (storeCells ⟨g, i, none⟩ [.bool B]).run Tryz.prog w = .ok () (w.setCell ⟨g, i, none⟩ (.bool B)) := by
 have h0 : Addr.add ⟨g, i, none⟩ 0 = ⟨g, i, none⟩ := rfl
 simp [storeCells, h0, run_store Tryz.prog w _ (.bool B) _ rfl, stored, hc, hf, Result.andThen]
structure AskAt (w W0 : World) (op : Int) (n1 n2 dom : ByteArray) : Prop where
 b : Below w.heap.size w W0
 sz : W0.heap.size = w.heap.size + 1 + 1 + 1
 c : ∀ W, Below W0.heap.size W0 W → W.cell? ⟨w.heap.size, 1, none⟩ = some (.string n1) ∧ W.cell? ⟨w.heap.size, 2, none⟩ = some (.string n2) ∧ W.cell? ⟨w.heap.size, 3, none⟩ = some (.string dom)
 h1 : W0.heap[w.heap.size + 1]? = some (.cells #[.int .i64 0, .bool false, .slice none 0 0] 40 (0, 0))
 h2 : W0.heap[w.heap.size + 1 + 1]? = some (.cells #[.int .i64 0, .bool false, .slice none 0 0] 40 (0, 0))
theorem ask_start {w W0 : World} {op : Int} {n1 n2 dom : ByteArray} (h : W0 = ((w.alloc (Obj.cells #[.int .i64 op, .string n1, .string n2, .string dom] 44)).alloc (Obj.cells #[.int .i64 0, .bool false, .slice none 0 0] 40)).alloc (Obj.cells #[.int .i64 0, .bool false, .slice none 0 0] 40)) : AskAt w W0 op n1 n2 dom := by
 have hs : W0.heap.size = w.heap.size + 1 + 1 + 1 := by rw [h]; simp
 have hb : Below w.heap.size w W0 := by rw [h]; exact (((Below.refl _ _).alloc (Nat.le_refl _) _).alloc (by simp) _).alloc (by simp; omega) _
 have h0 : W0.heap[w.heap.size]? = some (.cells #[.int .i64 op, .string n1, .string n2, .string dom] 44 (0, 0)) := by
  rw [h, heap_alloc_old _ _ (by simp; omega), heap_alloc_old _ _ (by simp)]
  exact heap_alloc_new _ _
 refine ⟨hb, hs, fun W hW => ?_, ?_, ?_⟩
 ·have hz : W.heap[w.heap.size]? = some (.cells #[.int .i64 op, .string n1, .string n2, .string dom] 44 (0, 0)) := (hW.block _ (by omega)).trans h0
  exact ⟨by simp [World.cell?, hz], by simp [World.cell?, hz], by simp [World.cell?, hz]⟩
 ·rw [h, heap_alloc_old _ _ (by simp)]
  have := heap_alloc_new (w.alloc (Obj.cells #[.int .i64 op, .string n1, .string n2, .string dom] 44)) (Obj.cells #[.int .i64 0, .bool false, .slice none 0 0] 40)
  simpa using this
 ·rw [h]
  have := heap_alloc_new ((w.alloc (Obj.cells #[.int .i64 op, .string n1, .string n2, .string dom] 44)).alloc (Obj.cells #[.int .i64 0, .bool false, .slice none 0 0] 40)) (Obj.cells #[.int .i64 0, .bool false, .slice none 0 0] 40)
  simpa using this
def AskB (K : List ByteArray) (W0 : World) (v : Value) (max : Int) (Ef : ByteArray → Edges) (S : Nat → Prop) (b : Bool) (B : Bool) (v2 : Value) (W : World) : Prop := v2 = .bool B ∧ MPost K W0 v max Ef S b W
def AskN (K : List ByteArray) (W0 : World) (v : Value) (max : Int) (Ef : ByteArray → Edges) (S : Nat → Prop) (b : Bool) (l0 : List ByteArray) (v2 : Value) (W : World) : Prop := ∃ l, l.Perm l0 ∧ Kd.R Kd.string 9 W W0.heap.size (fun _ => True) v2 l ∧ MPost K W0 v max Ef S b W
theorem AskB.post {W0 W : World} {v v2 : Value} {max : Int} {Ef : ByteArray → Edges} {S : Nat → Prop} {b B : Bool} (h : AskB K W0 v max Ef S b B v2 W) : MPost K W0 v max Ef S b W := h.2
theorem AskN.post {W0 W : World} {v v2 : Value} {max : Int} {Ef : ByteArray → Edges} {S : Nat → Prop} {b : Bool} {l0 : List ByteArray} (h : AskN K W0 v max Ef S b l0 v2 W) : MPost K W0 v max Ef S b W := by
 obtain ⟨l, _, _, h⟩ := h
 exact h
theorem AskN.slice {W0 W : World} {v v2 : Value} {max : Int} {Ef : ByteArray → Edges} {S : Nat → Prop} {b : Bool} {l0 : List ByteArray} (h : AskN K W0 v max Ef S b l0 v2 W) : ∃ A n c, v2 = .slice A n c := by
 obtain ⟨l, _, h, _⟩ := h
 obtain ⟨A, c, h, _⟩ := Kd.R_reads h
 exact ⟨A, _, c, h⟩
theorem ask_own {w W0 W : World} {op : Int} {n1 n2 dom : ByteArray} (ha : AskAt w W0 op n1 n2 dom) {v : Value} {max : Int} {Ef : ByteArray → Edges} {S : Nat → Prop} {b : Bool} (hs : ∀ k, S k → k < w.heap.size) (h : MPost K W0 v max Ef S b W) :
  W.heap[w.heap.size + 1]? = some (.cells #[.int .i64 0, .bool false, .slice none 0 0] 40 (0, 0)) ∧ W.heap[w.heap.size + 1 + 1]? = some (.cells #[.int .i64 0, .bool false, .slice none 0 0] 40 (0, 0)) := by
 obtain ⟨S', h1, h2, h3⟩ := h
 have hz := ha.sz
 exact ⟨(h3.block _ (by omega) (fun hk => by have := hs _ hk; omega)).trans ha.h1, (h3.block _ (by omega) (fun hk => by have := hs _ hk; omega)).trans ha.h2⟩
theorem Turn.set {T : Nat → Prop} {a b : World} (h : Turn T a b) (p : Addr) (u : Value) (hp : T p.block) : Turn T a (b.setCell p u) :=
 ⟨h.os, h.tape, h.output, by simpa [World.setCell] using h.size, fun k hk hT => (Below.heap_setCell _ _ _ _ (fun e => hT (by rw [e]; exact hp))).trans (h.block k hk hT)⟩
theorem ask_post {w W0 W Wf : World} {op : Int} {n1 n2 dom : ByteArray} (ha : AskAt w W0 op n1 n2 dom) {v : Value} {max : Int} {Ef : ByteArray → Edges} {S : Nat → Prop} {b : Bool} (hs : ∀ k, S k → k < w.heap.size) (h : MPost K W0 v max Ef S b W) (ht : Turn (fun k => k = w.heap.size + 1 ∨ k = w.heap.size + 1 + 1) W Wf) : MPost K w v max Ef S b Wf := by
 obtain ⟨S', h1, h2, h3⟩ := h
 have hz := ha.sz
 refine ⟨S', h1.apart ht (fun k hk hT => ?_), fun k hk => (h2 k hk).imp_right (Nat.le_trans ha.b.size), ?_⟩
 ·rcases h2 k hk with g | g
  ·have := hs k g; omega
  ·omega
 ·exact ((Turn.ofBelow S ha.b).trans (NextS.refl _ _) h3).trans (G := fun k => S k ∨ w.heap.size ≤ k) (fun k hk => hk) (ht.mono (fun k _ hk => .inr (by omega)))
theorem AskN.told {w W0 W Wf : World} {op : Int} {n1 n2 dom : ByteArray} (ha : AskAt w W0 op n1 n2 dom) {v v2 : Value} {max : Int} {Ef : ByteArray → Edges} {S : Nat → Prop} {b : Bool} {l0 : List ByteArray} (hs : ∀ k, S k → k < w.heap.size) (h : AskN K W0 v max Ef S b l0 v2 W) (ht : Turn (fun k => k = w.heap.size + 1 ∨ k = w.heap.size + 1 + 1) W Wf) :
  ∃ v3 l, Ending.returned (.agg #[.int .i64 0, .bool false, v2]) = Ending.returned (.agg #[.int .i64 0, .bool false, v3]) ∧ l.Perm l0 ∧ Kd.R Kd.string 9 Wf w.heap.size (fun _ => True) v3 l ∧ MPost K w v max Ef S b Wf := by
 obtain ⟨l, h1, h2, h3⟩ := h
 have hz := ha.sz
 refine ⟨v2, l, rfl, h1, ?_, ask_post ha hs h3 ht⟩
 exact Kd.R_lower (Kd.R_mono (Kd.R_move (Kd.R_bound h2) (fun k hk => ht.block k hk.2.2.1 (by have := hk.2.1; omega))) (fun _ _ => trivial)) ha.b.size
set_option maxHeartbeats 8000000 in
set_option maxRecDepth 100000 in
theorem ask_has {w : World} {v : Value} {max : Int} {Ef : ByteArray → Edges} {S : Nat → Prop} {b : Bool} (hmax : 0 ≤ max ∧ max ≤ 1000000) (h : Mgr K w v max Ef S b) (n1 n2 dom : ByteArray) (hE : EOk (Ef (kd b dom))) :
  Calls Tryz.prog 26 #[v, .bool b, .agg #[.int .i64 0, .string n1, .string n2, .string dom]] w fun e w' => e = .returned (.agg #[.int .i64 0, .bool (hasF (rolesE (Ef (kd b dom))) n2 max.toNat [n1]), .slice none 0 0]) ∧ MPost K w v max Ef S b w' := by
 obtain ⟨p, rfl⟩ := h.val
 have hna := fun n W => nil_ahead2 b p n W "HasLink" (by simp)
 have HH := Aside0.mk h
 have HEO := Aside0.mk hE
 go_enter Tryz.func26, Tryz.ntmps26
 go_upto_region 5 with (fail)
 obtain ⟨W0, hW0⟩ : ∃ W0, W0 = ((w.alloc (Obj.cells #[.int .i64 0, .string n1, .string n2, .string dom] 44)).alloc (Obj.cells #[.int .i64 0, .bool false, .slice none 0 0] 40)).alloc (Obj.cells #[.int .i64 0, .bool false, .slice none 0 0] 40) := ⟨_, rfl⟩
 rw [← hW0]
 have HA := Aside0.mk (ask_start hW0)
 have HM := Aside0.mk (h.below HA.out.b)
 have HC := Aside0.mk HA.out.c
 have HS := Aside0.mk h.slt
 obtain ⟨QV, hQV⟩ : ∃ QV : Value → World → Prop, QV = AskB K W0 (.iface (MT b) (PT p)) max Ef S b (hasF (rolesE (Ef (kd b dom))) n2 max.toNat [n1]) := ⟨_, rfl⟩
 have HQV := Aside0.mk hQV
 clear hW0 h hQV hE
 refine at_mkN (n := 120) (d := _) rfl rfl ?_
 refine region_mix2 (by kernel_rfl) [(0, 14), (1, 15), (2, 16), (3, 17), (4, 18), (5, 19), (6, 20), (7, 21), (9, 23), (10, 24), (11, 25), (15, 28)] [8, 12, 13, 14, 16, 17] (fun k_ => match k_ with | 0 => some 22 | 1 => some 26 | 2 => some 13 | 3 => some 27 | 4 => some 29 | 5 => none | _ => none) (fun k_ => match k_ with | 0 => (.iface (MT b) (PT p)) | 1 => (.pointer (some ⟨w.heap.size, 1, none⟩)) | 2 => (.string n1) | 3 => (.pointer (some ⟨w.heap.size, 2, none⟩)) | 4 => (.string n2) | 5 => (.bool b) | 6 => (.pointer (some ⟨w.heap.size, 3, none⟩)) | 7 => (.string dom) | 9 => (.func (.method "HasLink") #[(.iface (MT b) (PT p))] #[]) | 10 => (.func (.method "HasLink") #[(.iface (MT b) (PT p))] #[]) | 11 => (.iface (MT b) (PT p)) | 15 => .nilIface | _ => undef) (fun i_ s_ W_ => match i_ with | 0 => W_ = W0.drew | 1 => DV b dom W_ (s_ 22) ∧ Below W0.heap.size W0 W_ | 2 => ∃ v2_, s_ 26 = .tuple #[v2_, .nilIface] ∧ QV v2_ W_ | 3 => ∃ v2_, s_ 13 = .tuple #[v2_, .nilIface] ∧ QV v2_ W_ | 4 => ∃ v2_, s_ 13 = .tuple #[v2_, .nilIface] ∧ s_ 27 = v2_ ∧ QV v2_ W_ | 5 => ∃ v2_, s_ 13 = .tuple #[v2_, .nilIface] ∧ s_ 27 = v2_ ∧ s_ 29 = (.pointer (some ⟨w.heap.size + 1 + 1, 1, none⟩)) ∧ QV v2_ W_ | _ => ∃ v2_ W2_, s_ 13 = .tuple #[v2_, .nilIface] ∧ QV v2_ W2_ ∧ W_ = W2_.setCell ⟨w.heap.size + 1 + 1, 1, none⟩ v2_) [[], [], [1], [], [3], [], [], [6], [5, 7], [0], [9], [0, 9, 10], [11, 2, 4, 8, 8], [12], [13], [13], [0, 1, 2, 3, 4, 5, 6, 7, 8, 9, 10, 11, 12, 13, 14], [16, 14, 12, 0, 1, 2, 3, 4, 5, 6, 7, 8, 9, 10, 11, 12, 13, 14], [15, 17, 0, 1, 2, 3, 4, 5, 6, 7, 8, 9, 10, 11, 12, 13, 14, 15, 16, 17]] (by kernel_rfl) (by decide) rfl (by decide) (by decide) (by decide) (by decide) (by decide) (by decide) (by decide) (by decide) (by decide) (by decide) (by decide) ?_ ?_ ?_ ?_ ?_
 ·intro i_ hi_ s_ W_ q_ hq_ hz_ hno_ hcb_ hg_ ho_
  rcases (show i_ = 0 ∨ i_ = 1 ∨ i_ = 2 ∨ i_ = 3 ∨ i_ = 4 ∨ i_ = 5 ∨ i_ = 6 ∨ i_ = 7 ∨ i_ = 8 ∨ i_ = 9 ∨ i_ = 10 ∨ i_ = 11 from by have : i_ < 12 := hi_; omega) with rfl | rfl | rfl | rfl | rfl | rfl | rfl | rfl | rfl | rfl | rfl | rfl
  ·refine ⟨_, rfl, rfl, fun _ => rfl, ?_⟩
   have g0_ : s_ 0 = _ := ho_ 0 (by decide) (by decide)
   clear hg_ ho_ hno_ hz_ hq_ hcb_
   first | (simp [execOp, mkN_eval, Result.andThen, *]; done) | (go_simp; simp [mkN_get, Result.andThen, *]; done)
  ·refine ⟨_, rfl, rfl, fun _ => rfl, ?_⟩
   have g5_ : s_ 5 = _ := ho_ 5 (by decide) (by decide)
   clear hg_ ho_ hno_ hz_ hq_ hcb_
   first | (simp [execOp, mkN_eval, Result.andThen, *]; done) | (go_simp; simp [mkN_get, Result.andThen, *]; done)
  ·refine ⟨_, rfl, rfl, fun _ => rfl, ?_⟩
   have g15_ : s_ 15 = (.pointer (some ⟨w.heap.size, 1, none⟩)) := hg_ 1 (by decide) (by decide)
   obtain hq3_ : q_ ≤ 1 := by rcases Nat.lt_or_ge 1 q_ with h | h; exact absurd (by decide) (hno_ 1 h); exact h
   have hbw_ : Below W0.heap.size W0 W_ := by
    rcases (show q_ = 0 ∨ q_ = 1 from by omega) with rfl | rfl
    ·exact (show W_ = _ from hz_) ▸ below_drew0 W0
    ·exact (show DV _ _ _ _ ∧ _ from hz_).2
   have hc_ := (HC.out W_ hbw_).1
   clear hbw_
   clear hg_ ho_ hno_ hz_ hq_ hcb_
   first | (simp [execOp, mkN_eval, Result.andThen, *]; done) | (go_simp; simp [mkN_get, Result.andThen, *]; done)
  ·refine ⟨_, rfl, rfl, fun _ => rfl, ?_⟩
   have g5_ : s_ 5 = _ := ho_ 5 (by decide) (by decide)
   clear hg_ ho_ hno_ hz_ hq_ hcb_
   first | (simp [execOp, mkN_eval, Result.andThen, *]; done) | (go_simp; simp [mkN_get, Result.andThen, *]; done)
  ·refine ⟨_, rfl, rfl, fun _ => rfl, ?_⟩
   have g17_ : s_ 17 = (.pointer (some ⟨w.heap.size, 2, none⟩)) := hg_ 3 (by decide) (by decide)
   obtain hq3_ : q_ ≤ 1 := by rcases Nat.lt_or_ge 1 q_ with h | h; exact absurd (by decide) (hno_ 1 h); exact h
   have hbw_ : Below W0.heap.size W0 W_ := by
    rcases (show q_ = 0 ∨ q_ = 1 from by omega) with rfl | rfl
    ·exact (show W_ = _ from hz_) ▸ below_drew0 W0
    ·exact (show DV _ _ _ _ ∧ _ from hz_).2
   have hc_ := (HC.out W_ hbw_).2.1
   clear hbw_
   clear hg_ ho_ hno_ hz_ hq_ hcb_
   first | (simp [execOp, mkN_eval, Result.andThen, *]; done) | (go_simp; simp [mkN_get, Result.andThen, *]; done)
  ·refine ⟨_, rfl, rfl, fun _ => rfl, ?_⟩
   have g1_ : s_ 1 = _ := ho_ 1 (by decide) (by decide)
   clear hg_ ho_ hno_ hz_ hq_ hcb_
   first | (simp [execOp, mkN_eval, Result.andThen, *]; done) | (go_simp; simp [mkN_get, Result.andThen, *]; done)
  ·refine ⟨_, rfl, rfl, fun _ => rfl, ?_⟩
   have g5_ : s_ 5 = _ := ho_ 5 (by decide) (by decide)
   clear hg_ ho_ hno_ hz_ hq_ hcb_
   first | (simp [execOp, mkN_eval, Result.andThen, *]; done) | (go_simp; simp [mkN_get, Result.andThen, *]; done)
  ·refine ⟨_, rfl, rfl, fun _ => rfl, ?_⟩
   have g20_ : s_ 20 = (.pointer (some ⟨w.heap.size, 3, none⟩)) := hg_ 6 (by decide) (by decide)
   obtain hq3_ : q_ ≤ 0 := by rcases Nat.lt_or_ge 0 q_ with h | h; exact absurd (by decide) (hno_ 0 h); exact h
   have hbw_ : Below W0.heap.size W0 W_ := by
    rcases (show q_ = 0 from by omega) with rfl
    ·exact (show W_ = _ from hz_) ▸ below_drew0 W0
   have hc_ := (HC.out W_ hbw_).2.2
   clear hbw_
   clear hg_ ho_ hno_ hz_ hq_ hcb_
   first | (simp [execOp, mkN_eval, Result.andThen, *]; done) | (go_simp; simp [mkN_get, Result.andThen, *]; done)
  ·refine ⟨_, rfl, rfl, fun _ => rfl, ?_⟩
   have g14_ : s_ 14 = (.iface (MT b) (PT p)) := hg_ 0 (by decide) (by decide)
   clear hg_ ho_ hno_ hz_ hq_ hcb_
   first | (simp [execOp, mkN_eval, Result.andThen, *]; done) | (go_simp; simp [mkN_get, Result.andThen, *]; done)
  ·refine ⟨_, rfl, rfl, fun _ => rfl, ?_⟩
   have g23_ : s_ 23 = (.func (.method "HasLink") #[(.iface (MT b) (PT p))] #[]) := hg_ 8 (by decide) (by decide)
   clear hg_ ho_ hno_ hz_ hq_ hcb_
   first | (simp [execOp, mkN_eval, Result.andThen, *]; done) | (go_simp; simp [mkN_get, Result.andThen, *]; done)
  ·refine ⟨_, rfl, rfl, fun _ => rfl, ?_⟩
   have g14_ : s_ 14 = (.iface (MT b) (PT p)) := hg_ 0 (by decide) (by decide)
   clear hg_ ho_ hno_ hz_ hq_ hcb_
   first | (simp [execOp, mkN_eval, Result.andThen, *]; done) | (go_simp; simp [mkN_get, Result.andThen, *]; done)
  ·refine ⟨_, rfl, rfl, fun _ => rfl, ?_⟩
   have hq3_ : 2 < q_ := hcb_ 2 (by decide) (by decide)
   have gt_ : ∃ v2_, s_ 13 = .tuple #[v2_, .nilIface] := by
    rcases (show q_ = 3 ∨ q_ = 4 ∨ q_ = 5 ∨ q_ = 6 from by have : q_ ≤ 6 := hq_; omega) with rfl | rfl | rfl | rfl
    ·obtain ⟨v, h, _⟩ := (show ∃ v2_, _ ∧ _ from hz_); exact ⟨v, h⟩
    ·obtain ⟨v, h, _⟩ := (show ∃ v2_, _ ∧ _ from hz_); exact ⟨v, h⟩
    ·obtain ⟨v, h, _⟩ := (show ∃ v2_, _ ∧ _ from hz_); exact ⟨v, h⟩
    ·obtain ⟨v, W2, h, _⟩ := (show ∃ v2_ W2_, _ ∧ _ from hz_); exact ⟨v, h⟩
   obtain ⟨v2_, gt_⟩ := gt_
   clear hq3_
   clear hg_ ho_ hno_ hz_ hq_ hcb_
   first | (simp [execOp, mkN_eval, Result.andThen, *]; done) | (go_simp; simp [mkN_get, Result.andThen, *]; done)
 ·exact rfl
 ·intro q_ s_ x_ v_ W_ hx_ hZ_
  have e22_ : updN s_ x_ v_ 22 = s_ 22 := updN_ne (fun e => by subst e; exact absurd hx_ (by decide))
  have e26_ : updN s_ x_ v_ 26 = s_ 26 := updN_ne (fun e => by subst e; exact absurd hx_ (by decide))
  have e13_ : updN s_ x_ v_ 13 = s_ 13 := updN_ne (fun e => by subst e; exact absurd hx_ (by decide))
  have e27_ : updN s_ x_ v_ 27 = s_ 27 := updN_ne (fun e => by subst e; exact absurd hx_ (by decide))
  have e29_ : updN s_ x_ v_ 29 = s_ 29 := updN_ne (fun e => by subst e; exact absurd hx_ (by decide))
  clear hx_
  rcases (show q_ = 0 ∨ q_ = 1 ∨ q_ = 2 ∨ q_ = 3 ∨ q_ = 4 ∨ q_ = 5 ∨ ∃ z_, q_ = z_ + 6 from by by_cases h : 6 ≤ q_; exact .inr (.inr (.inr (.inr (.inr (.inr (⟨q_ - 6, by omega⟩)))))); omega) with rfl | rfl | rfl | rfl | rfl | rfl | ⟨z_, rfl⟩
  ·exact hZ_
  ·simpa only [e22_, e26_, e13_, e27_, e29_] using hZ_
  ·simpa only [e22_, e26_, e13_, e27_, e29_] using hZ_
  ·simpa only [e22_, e26_, e13_, e27_, e29_] using hZ_
  ·simpa only [e22_, e26_, e13_, e27_, e29_] using hZ_
  ·simpa only [e22_, e26_, e13_, e27_, e29_] using hZ_
  ·simpa only [e22_, e26_, e13_, e27_, e29_] using hZ_
 ·intro i_ hi_ s_ W_ hg_ ho_ hZ_ K_ hK_
  rcases (show i_ = 0 ∨ i_ = 1 ∨ i_ = 2 ∨ i_ = 3 ∨ i_ = 4 ∨ i_ = 5 from by have : i_ < 6 := hi_; omega) with rfl | rfl | rfl | rfl | rfl | rfl
  ·have g19_ : s_ 19 = (.bool b) := hg_ 5 (by decide) (by decide)
   have g21_ : s_ 21 = (.string dom) := hg_ 7 (by decide) (by decide)
   obtain rfl : W_ = W0.drew := hZ_
   clear hg_ ho_
   refine wpOp_step rfl (fun K' hK => ?_)
   go_simp
   try simp [mkN_get, g19_, g21_]
   go_wp2_with (go_at_call 35; refine (impl_within b dom _).mono ?_; rintro e w3 ⟨dv, rfl, hdv, hb3⟩)
   show K_ ((mkN 120 _ s_).put (some 22) dv) w3
   rw [mkN_put _ _ _ (by decide)]
   exact hK_ _ _ ⟨by rw [updN_self]; exact hdv, (below_drew0 W0).trans hb3⟩ (fun j hj => updN_ne (fun e => hj (by subst e; rfl)))
  ·have g25_ : s_ 25 = (.iface (MT b) (PT p)) := hg_ 10 (by decide) (by decide)
   have g16_ : s_ 16 = (.string n1) := hg_ 2 (by decide) (by decide)
   have g18_ : s_ 18 = (.string n2) := hg_ 4 (by decide) (by decide)
   obtain ⟨hdv_, hb_⟩ := (show DV _ _ _ _ ∧ _ from hZ_)
   clear hg_ ho_
   have hm_ := HM.out.below hb_
   refine wpOp_step rfl (fun K' hK => ?_)
   go_simp
   simp [mkN_get, g25_, g16_, g18_]
   cases b
   ·go_invoke
    go_wp2_with (go_at_call 105; refine (mgru_has false hmax hm_ n1 n2 dom HEO.out hdv_).mono ?_; rintro e w3 ⟨rfl, hp_⟩)
    show K_ ((mkN 120 _ s_).put (some 26) (.tuple #[.bool (hasF (rolesE (Ef (kd false dom))) n2 max.toNat [n1]), .nilIface])) w3
    rw [mkN_put _ _ _ (by decide)]
    exact hK_ _ _ ⟨_, updN_self _ _ _, (show QV _ _ by rw [HQV.out]; exact ⟨rfl, hp_.since hb_⟩)⟩ (fun j hj => updN_ne (fun e => hj (by subst e; rfl)))
   ·go_invoke
    go_wp2_with (go_at_call 160; refine (mgru_has true hmax hm_ n1 n2 dom HEO.out hdv_).mono ?_; rintro e w3 ⟨rfl, hp_⟩)
    show K_ ((mkN 120 _ s_).put (some 26) (.tuple #[.bool (hasF (rolesE (Ef (kd true dom))) n2 max.toNat [n1]), .nilIface])) w3
    rw [mkN_put _ _ _ (by decide)]
    exact hK_ _ _ ⟨_, updN_self _ _ _, (show QV _ _ by rw [HQV.out]; exact ⟨rfl, hp_.since hb_⟩)⟩ (fun j hj => updN_ne (fun e => hj (by subst e; rfl)))
  ·skip
   obtain ⟨v2_, gt_, hq_⟩ := (show ∃ v2_, _ ∧ _ from hZ_)
   clear hg_ ho_
   refine wpOp_step rfl (fun K' hK => ?_)
   go_simp
   simp [mkN_get, gt_]
   refine hK _ _ ?_
   show K_ ((mkN 120 _ s_).put (some 13) (.tuple #[v2_, .nilIface])) W_
   rw [mkN_put _ _ _ (by decide)]
   exact hK_ _ _ ⟨_, updN_self _ _ _, hq_⟩ (fun j hj => updN_ne (fun e => hj (by subst e; rfl)))
  ·skip
   obtain ⟨v2_, gt_, hq_⟩ := (show ∃ v2_, _ ∧ _ from hZ_)
   clear hg_ ho_
   refine wpOp_step rfl (fun K' hK => ?_)
   go_simp
   simp [mkN_get, gt_]
   refine hK _ _ ?_
   show K_ ((mkN 120 _ s_).put (some 27) v2_) W_
   rw [mkN_put _ _ _ (by decide)]
   exact hK_ _ _ ⟨_, (updN_ne (by decide)).trans gt_, updN_self _ _ _, hq_⟩ (fun j hj => updN_ne (fun e => hj (by subst e; rfl)))
  ·have g7_ : s_ 7 = _ := ho_ 7 (by decide) (by decide)
   obtain ⟨v2_, gt_, ge_, hq_⟩ := (show ∃ v2_, _ ∧ _ ∧ _ from hZ_)
   have g7_ : s_ 7 = (.pointer (some ⟨w.heap.size + 1 + 1, 0, none⟩)) := ho_ 7 (by decide) (by decide)
   clear hg_ ho_
   refine wpOp_step rfl (fun K' hK => ?_)
   go_simp
   simp [mkN_get, g7_]
   refine hK _ _ ?_
   show K_ ((mkN 120 _ s_).put (some 29) (.pointer (some ⟨w.heap.size + 1 + 1, 1, none⟩))) W_
   rw [mkN_put _ _ _ (by decide)]
   exact hK_ _ _ ⟨_, (updN_ne (by decide)).trans gt_, (updN_ne (by decide)).trans ge_, updN_self _ _ _, hq_⟩ (fun j hj => updN_ne (fun e => hj (by subst e; rfl)))
  ·skip
   obtain ⟨v2_, gt_, ge_, gf_, hq_⟩ := (show ∃ v2_, _ ∧ _ ∧ _ ∧ _ from hZ_)
   clear hg_ ho_
   have hx_ := (ask_own HA.out HS.out (show MPost _ _ _ _ _ _ _ _ by rw [HQV.out] at hq_; exact hq_.post)).2
   have hc_ := (blk_cell hx_ 1).trans (show _ = some (.bool false) from rfl)
   have hf_ := blk_frozen hx_ 1
   clear hx_
   have e2_ := (show AskB _ _ _ _ _ _ _ _ _ _ by rw [HQV.out] at hq_; exact hq_).1
   subst e2_
   refine wpOp_step rfl (fun K' hK => ?_)
   go_simp
   simp [mkN_get, ge_, gf_, run_store1b hc_ hf_ _]
   refine hK _ _ ?_
   exact hK_ _ _ ⟨_, _, gt_, hq_, rfl⟩ (fun j hj => rfl)
 ·intro s_ W_ hZ_ hv_ ho_
  obtain ⟨v2_, W2_, gt_, hq_, hw_⟩ := (show ∃ v2_ W2_, _ ∧ _ ∧ _ from hZ_)
  have ge1_ : s_ 28 = .nilIface := hv_ 11 (by decide)
  have e6_ : s_ 6 = (.pointer (some ⟨w.heap.size + 1, 0, none⟩)) := ho_ 6 (by decide) (by decide)
  have e7_ : s_ 7 = (.pointer (some ⟨w.heap.size + 1 + 1, 0, none⟩)) := ho_ 7 (by decide) (by decide)
  refine YieldsIf.wpOp (S := fun x => x = W_) (v := .nilIface) rfl (Or.inl ⟨rfl, fun x hx => by simp [execOp, mkN_eval, ge1_]⟩) rfl ?_
  show Exit.inBlock _ _ .normal ((mkN 120 _ s_).put (some 8) _) W_
  rw [mkN_put _ _ _ (by decide), mk120_lit, updN_self, updN_ne (show 6 ≠ 8 by decide), updN_ne (show 7 ≠ 8 by decide), e6_, e7_]
  clear hv_ ho_ hZ_ e6_ e7_ ge1_ gt_ HC HM hna
  generalize updN s_ 8 _ = t_
  rw [HQV.out] at hq_
  have hx_ := ask_own HA.out HS.out hq_.post
  obtain rfl := hq_.1
  have HQ := Aside0.mk hq_
  have hk1_ : W_.heap[w.heap.size + 1]? = some (.cells #[.int .i64 0, .bool false, .slice none 0 0] 40 (0, 0)) := by rw [hw_]; exact (Below.heap_setCell _ _ _ _ (by simp)).trans hx_.1
  have hk2_ : W_.heap[w.heap.size + 1 + 1]? = some (.cells #[.int .i64 0, .bool (hasF (rolesE (Ef (kd b dom))) n2 max.toNat [n1]), .slice none 0 0] 40 (0, 0)) := by rw [hw_]; exact blk_put hx_.2 1 _ rfl
  have hW := Aside0.mk hw_
  clear hx_ hq_ hw_
  have c10 := (blk_cell hk1_ 0).trans (show _ = some (.int .i64 0) from rfl)
  have c11 := (blk_cell hk1_ 1).trans (show _ = some (.bool false) from rfl)
  have c12 := (blk_cell hk1_ 2).trans (show _ = some (.slice none 0 0) from rfl)
  have c20 := (blk_cell hk2_ 0).trans (show _ = some (.int .i64 0) from rfl)
  have c21 := (blk_cell hk2_ 1).trans (show _ = some (.bool (hasF (rolesE (Ef (kd b dom))) n2 max.toNat [n1])) from rfl)
  have c22 := (blk_cell hk2_ 2).trans (show _ = some (.slice none 0 0) from rfl)
  have f10 := blk_frozen hk1_ 0
  have f11 := blk_frozen hk1_ 1
  have f12 := blk_frozen hk1_ 2
  have f20 := blk_frozen hk2_ 0
  have HK1 := Aside0.mk hk1_
  have HK2 := Aside0.mk hk2_
  clear hk1_ hk2_
  go_wp2
  refine bodyPost_ret (results_cell_row rfl _ _ (w.heap.size + 1) 40 #[.int .i64 0, .bool (hasF (rolesE (Ef (kd b dom))) n2 max.toNat [n1]), .slice none 0 0] (0, 0) _ rfl (by refine blk_put (cs := #[.int .i64 0, .bool (hasF (rolesE (Ef (kd b dom))) n2 max.toNat [n1]), .slice none 0 0]) ?_ 2 _ rfl; refine blk_put (cs := #[.int .i64 0, .bool false, .slice none 0 0]) ?_ 1 _ rfl; refine blk_put (cs := #[.int .i64 0, .bool false, .slice none 0 0]) ?_ 0 _ rfl; exact (Below.heap_setCell _ _ _ _ (by simp)).trans HK1.out) Tryz.underlying40 rfl (by kernel_rfl)) rfl ?_
  have ht_ : Turn (fun k => k = w.heap.size + 1 ∨ k = w.heap.size + 1 + 1) W2_ _ := ((((((Turn.refl _ W2_).set ⟨w.heap.size + 1 + 1, 1, none⟩ (.bool (hasF (rolesE (Ef (kd b dom))) n2 max.toNat [n1])) (.inr rfl)).set ⟨w.heap.size + 1 + 1, 0, none⟩ (.int .i64 0) (.inr rfl)).set ⟨w.heap.size + 1, 0, none⟩ (.int .i64 0) (.inl rfl)).set ⟨w.heap.size + 1, 1, none⟩ (.bool (hasF (rolesE (Ef (kd b dom))) n2 max.toNat [n1])) (.inl rfl)).set ⟨w.heap.size + 1, 2, none⟩ (.slice none 0 0) (.inl rfl))
  rw [← hW.out] at ht_
  exact ⟨rfl, ask_post HA.out HS.out HQ.out.post ht_⟩
set_option maxHeartbeats 8000000 in
set_option maxRecDepth 100000 in
theorem ask_roles {w : World} {v : Value} {max : Int} {Ef : ByteArray → Edges} {S : Nat → Prop} {b : Bool} (hmax : 0 ≤ max ∧ max ≤ 1000000) (h : Mgr K w v max Ef S b) (n1 n2 dom : ByteArray) (hE : EOk (Ef (kd b dom))) :
  Calls Tryz.prog 26 #[v, .bool b, .agg #[.int .i64 1, .string n1, .string n2, .string dom]] w fun e w' => ∃ v2 l, e = .returned (.agg #[.int .i64 0, .bool false, v2]) ∧ l.Perm (rolesE (Ef (kd b dom)) n1) ∧ Kd.R Kd.string 9 w' w.heap.size (fun _ => True) v2 l ∧ MPost K w v max Ef S b w' := by
 obtain ⟨p, rfl⟩ := h.val
 have hna := fun n W => nil_ahead2 b p n W "GetRoles" (by simp)
 have HH := Aside0.mk h
 have HEO := Aside0.mk hE
 go_enter Tryz.func26, Tryz.ntmps26
 go_upto_region 7 with (fail)
 obtain ⟨W0, hW0⟩ : ∃ W0, W0 = ((w.alloc (Obj.cells #[.int .i64 1, .string n1, .string n2, .string dom] 44)).alloc (Obj.cells #[.int .i64 0, .bool false, .slice none 0 0] 40)).alloc (Obj.cells #[.int .i64 0, .bool false, .slice none 0 0] 40) := ⟨_, rfl⟩
 rw [← hW0]
 have HA := Aside0.mk (ask_start hW0)
 have HM := Aside0.mk (h.below HA.out.b)
 have HC := Aside0.mk HA.out.c
 have HS := Aside0.mk h.slt
 obtain ⟨QV, hQV⟩ : ∃ QV : Value → World → Prop, QV = AskN K W0 (.iface (MT b) (PT p)) max Ef S b (rolesE (Ef (kd b dom)) n1) := ⟨_, rfl⟩
 have HQV := Aside0.mk hQV
 clear hW0 h hQV hE
 refine at_mkN (n := 120) (d := _) rfl rfl ?_
 refine region_mix2 (by kernel_rfl) [(0, 33), (1, 34), (2, 35), (3, 36), (4, 37), (5, 38), (7, 40), (8, 41), (9, 42), (13, 45)] [6, 10, 11, 12, 14, 15] (fun k_ => match k_ with | 0 => some 39 | 1 => some 43 | 2 => some 32 | 3 => some 44 | 4 => some 46 | 5 => none | _ => none) (fun k_ => match k_ with | 0 => (.iface (MT b) (PT p)) | 1 => (.pointer (some ⟨w.heap.size, 1, none⟩)) | 2 => (.string n1) | 3 => (.bool b) | 4 => (.pointer (some ⟨w.heap.size, 3, none⟩)) | 5 => (.string dom) | 7 => (.func (.method "GetRoles") #[(.iface (MT b) (PT p))] #[]) | 8 => (.func (.method "GetRoles") #[(.iface (MT b) (PT p))] #[]) | 9 => (.iface (MT b) (PT p)) | 13 => .nilIface | _ => undef) (fun i_ s_ W_ => match i_ with | 0 => W_ = W0.drew | 1 => DV b dom W_ (s_ 39) ∧ Below W0.heap.size W0 W_ | 2 => ∃ v2_, s_ 43 = .tuple #[v2_, .nilIface] ∧ QV v2_ W_ | 3 => ∃ v2_, s_ 32 = .tuple #[v2_, .nilIface] ∧ QV v2_ W_ | 4 => ∃ v2_, s_ 32 = .tuple #[v2_, .nilIface] ∧ s_ 44 = v2_ ∧ QV v2_ W_ | 5 => ∃ v2_, s_ 32 = .tuple #[v2_, .nilIface] ∧ s_ 44 = v2_ ∧ s_ 46 = (.pointer (some ⟨w.heap.size + 1 + 1, 2, none⟩)) ∧ QV v2_ W_ | _ => ∃ v2_ W2_, s_ 32 = .tuple #[v2_, .nilIface] ∧ QV v2_ W2_ ∧ W_ = W2_.setCell ⟨w.heap.size + 1 + 1, 2, none⟩ v2_) [[], [], [1], [], [], [4], [3, 5], [0], [7], [0, 7, 8], [9, 2, 6, 6], [10], [11], [11], [0, 1, 2, 3, 4, 5, 6, 7, 8, 9, 10, 11, 12], [14, 12, 10, 0, 1, 2, 3, 4, 5, 6, 7, 8, 9, 10, 11, 12], [13, 15, 0, 1, 2, 3, 4, 5, 6, 7, 8, 9, 10, 11, 12, 13, 14, 15]] (by kernel_rfl) (by decide) rfl (by decide) (by decide) (by decide) (by decide) (by decide) (by decide) (by decide) (by decide) (by decide) (by decide) (by decide) ?_ ?_ ?_ ?_ ?_
 ·intro i_ hi_ s_ W_ q_ hq_ hz_ hno_ hcb_ hg_ ho_
  rcases (show i_ = 0 ∨ i_ = 1 ∨ i_ = 2 ∨ i_ = 3 ∨ i_ = 4 ∨ i_ = 5 ∨ i_ = 6 ∨ i_ = 7 ∨ i_ = 8 ∨ i_ = 9 from by have : i_ < 10 := hi_; omega) with rfl | rfl | rfl | rfl | rfl | rfl | rfl | rfl | rfl | rfl
  ·refine ⟨_, rfl, rfl, fun _ => rfl, ?_⟩
   have g0_ : s_ 0 = _ := ho_ 0 (by decide) (by decide)
   clear hg_ ho_ hno_ hz_ hq_ hcb_
   first | (simp [execOp, mkN_eval, Result.andThen, *]; done) | (go_simp; simp [mkN_get, Result.andThen, *]; done)
  ·refine ⟨_, rfl, rfl, fun _ => rfl, ?_⟩
   have g5_ : s_ 5 = _ := ho_ 5 (by decide) (by decide)
   clear hg_ ho_ hno_ hz_ hq_ hcb_
   first | (simp [execOp, mkN_eval, Result.andThen, *]; done) | (go_simp; simp [mkN_get, Result.andThen, *]; done)
  ·refine ⟨_, rfl, rfl, fun _ => rfl, ?_⟩
   have g34_ : s_ 34 = (.pointer (some ⟨w.heap.size, 1, none⟩)) := hg_ 1 (by decide) (by decide)
   obtain hq3_ : q_ ≤ 1 := by rcases Nat.lt_or_ge 1 q_ with h | h; exact absurd (by decide) (hno_ 1 h); exact h
   have hbw_ : Below W0.heap.size W0 W_ := by
    rcases (show q_ = 0 ∨ q_ = 1 from by omega) with rfl | rfl
    ·exact (show W_ = _ from hz_) ▸ below_drew0 W0
    ·exact (show DV _ _ _ _ ∧ _ from hz_).2
   have hc_ := (HC.out W_ hbw_).1
   clear hbw_
   clear hg_ ho_ hno_ hz_ hq_ hcb_
   first | (simp [execOp, mkN_eval, Result.andThen, *]; done) | (go_simp; simp [mkN_get, Result.andThen, *]; done)
  ·refine ⟨_, rfl, rfl, fun _ => rfl, ?_⟩
   have g1_ : s_ 1 = _ := ho_ 1 (by decide) (by decide)
   clear hg_ ho_ hno_ hz_ hq_ hcb_
   first | (simp [execOp, mkN_eval, Result.andThen, *]; done) | (go_simp; simp [mkN_get, Result.andThen, *]; done)
  ·refine ⟨_, rfl, rfl, fun _ => rfl, ?_⟩
   have g5_ : s_ 5 = _ := ho_ 5 (by decide) (by decide)
   clear hg_ ho_ hno_ hz_ hq_ hcb_
   first | (simp [execOp, mkN_eval, Result.andThen, *]; done) | (go_simp; simp [mkN_get, Result.andThen, *]; done)
  ·refine ⟨_, rfl, rfl, fun _ => rfl, ?_⟩
   have g37_ : s_ 37 = (.pointer (some ⟨w.heap.size, 3, none⟩)) := hg_ 4 (by decide) (by decide)
   obtain hq3_ : q_ ≤ 0 := by rcases Nat.lt_or_ge 0 q_ with h | h; exact absurd (by decide) (hno_ 0 h); exact h
   have hbw_ : Below W0.heap.size W0 W_ := by
    rcases (show q_ = 0 from by omega) with rfl
    ·exact (show W_ = _ from hz_) ▸ below_drew0 W0
   have hc_ := (HC.out W_ hbw_).2.2
   clear hbw_
   clear hg_ ho_ hno_ hz_ hq_ hcb_
   first | (simp [execOp, mkN_eval, Result.andThen, *]; done) | (go_simp; simp [mkN_get, Result.andThen, *]; done)
  ·refine ⟨_, rfl, rfl, fun _ => rfl, ?_⟩
   have g33_ : s_ 33 = (.iface (MT b) (PT p)) := hg_ 0 (by decide) (by decide)
   clear hg_ ho_ hno_ hz_ hq_ hcb_
   first | (simp [execOp, mkN_eval, Result.andThen, *]; done) | (go_simp; simp [mkN_get, Result.andThen, *]; done)
  ·refine ⟨_, rfl, rfl, fun _ => rfl, ?_⟩
   have g40_ : s_ 40 = (.func (.method "GetRoles") #[(.iface (MT b) (PT p))] #[]) := hg_ 6 (by decide) (by decide)
   clear hg_ ho_ hno_ hz_ hq_ hcb_
   first | (simp [execOp, mkN_eval, Result.andThen, *]; done) | (go_simp; simp [mkN_get, Result.andThen, *]; done)
  ·refine ⟨_, rfl, rfl, fun _ => rfl, ?_⟩
   have g33_ : s_ 33 = (.iface (MT b) (PT p)) := hg_ 0 (by decide) (by decide)
   clear hg_ ho_ hno_ hz_ hq_ hcb_
   first | (simp [execOp, mkN_eval, Result.andThen, *]; done) | (go_simp; simp [mkN_get, Result.andThen, *]; done)
  ·refine ⟨_, rfl, rfl, fun _ => rfl, ?_⟩
   have hq3_ : 2 < q_ := hcb_ 2 (by decide) (by decide)
   have gt_ : ∃ v2_, s_ 32 = .tuple #[v2_, .nilIface] := by
    rcases (show q_ = 3 ∨ q_ = 4 ∨ q_ = 5 ∨ q_ = 6 from by have : q_ ≤ 6 := hq_; omega) with rfl | rfl | rfl | rfl
    ·obtain ⟨v, h, _⟩ := (show ∃ v2_, _ ∧ _ from hz_); exact ⟨v, h⟩
    ·obtain ⟨v, h, _⟩ := (show ∃ v2_, _ ∧ _ from hz_); exact ⟨v, h⟩
    ·obtain ⟨v, h, _⟩ := (show ∃ v2_, _ ∧ _ from hz_); exact ⟨v, h⟩
    ·obtain ⟨v, W2, h, _⟩ := (show ∃ v2_ W2_, _ ∧ _ from hz_); exact ⟨v, h⟩
   obtain ⟨v2_, gt_⟩ := gt_
   clear hq3_
   clear hg_ ho_ hno_ hz_ hq_ hcb_
   first | (simp [execOp, mkN_eval, Result.andThen, *]; done) | (go_simp; simp [mkN_get, Result.andThen, *]; done)
 ·exact rfl
 ·intro q_ s_ x_ v_ W_ hx_ hZ_
  have e39_ : updN s_ x_ v_ 39 = s_ 39 := updN_ne (fun e => by subst e; exact absurd hx_ (by decide))
  have e43_ : updN s_ x_ v_ 43 = s_ 43 := updN_ne (fun e => by subst e; exact absurd hx_ (by decide))
  have e32_ : updN s_ x_ v_ 32 = s_ 32 := updN_ne (fun e => by subst e; exact absurd hx_ (by decide))
  have e44_ : updN s_ x_ v_ 44 = s_ 44 := updN_ne (fun e => by subst e; exact absurd hx_ (by decide))
  have e46_ : updN s_ x_ v_ 46 = s_ 46 := updN_ne (fun e => by subst e; exact absurd hx_ (by decide))
  clear hx_
  rcases (show q_ = 0 ∨ q_ = 1 ∨ q_ = 2 ∨ q_ = 3 ∨ q_ = 4 ∨ q_ = 5 ∨ ∃ z_, q_ = z_ + 6 from by by_cases h : 6 ≤ q_; exact .inr (.inr (.inr (.inr (.inr (.inr (⟨q_ - 6, by omega⟩)))))); omega) with rfl | rfl | rfl | rfl | rfl | rfl | ⟨z_, rfl⟩
  ·exact hZ_
  ·simpa only [e39_, e43_, e32_, e44_, e46_] using hZ_
  ·simpa only [e39_, e43_, e32_, e44_, e46_] using hZ_
  ·simpa only [e39_, e43_, e32_, e44_, e46_] using hZ_
  ·simpa only [e39_, e43_, e32_, e44_, e46_] using hZ_
  ·simpa only [e39_, e43_, e32_, e44_, e46_] using hZ_
  ·simpa only [e39_, e43_, e32_, e44_, e46_] using hZ_
 ·intro i_ hi_ s_ W_ hg_ ho_ hZ_ K_ hK_
  rcases (show i_ = 0 ∨ i_ = 1 ∨ i_ = 2 ∨ i_ = 3 ∨ i_ = 4 ∨ i_ = 5 from by have : i_ < 6 := hi_; omega) with rfl | rfl | rfl | rfl | rfl | rfl
  ·have g36_ : s_ 36 = (.bool b) := hg_ 3 (by decide) (by decide)
   have g38_ : s_ 38 = (.string dom) := hg_ 5 (by decide) (by decide)
   obtain rfl : W_ = W0.drew := hZ_
   clear hg_ ho_
   refine wpOp_step rfl (fun K' hK => ?_)
   go_simp
   try simp [mkN_get, g36_, g38_]
   go_wp2_with (go_at_call 35; refine (impl_within b dom _).mono ?_; rintro e w3 ⟨dv, rfl, hdv, hb3⟩)
   show K_ ((mkN 120 _ s_).put (some 39) dv) w3
   rw [mkN_put _ _ _ (by decide)]
   exact hK_ _ _ ⟨by rw [updN_self]; exact hdv, (below_drew0 W0).trans hb3⟩ (fun j hj => updN_ne (fun e => hj (by subst e; rfl)))
  ·have g42_ : s_ 42 = (.iface (MT b) (PT p)) := hg_ 8 (by decide) (by decide)
   have g35_ : s_ 35 = (.string n1) := hg_ 2 (by decide) (by decide)
   obtain ⟨hdv_, hb_⟩ := (show DV _ _ _ _ ∧ _ from hZ_)
   clear hg_ ho_
   have hm_ := HM.out.below hb_
   refine wpOp_step rfl (fun K' hK => ?_)
   go_simp
   simp [mkN_get, g42_, g35_]
   cases b
   ·go_invoke
    go_wp2_with (go_at_call 103; refine (mgru_roles false hm_ n1 dom HEO.out hdv_).mono ?_; rintro e w3 ⟨v3, l3, rfl, hl3, hr3, hp_⟩)
    show K_ ((mkN 120 _ s_).put (some 43) (.tuple #[v3, .nilIface])) w3
    rw [mkN_put _ _ _ (by decide)]
    exact hK_ _ _ ⟨_, updN_self _ _ _, (show QV _ _ by rw [HQV.out]; exact ⟨l3, hl3, Kd.R_lower hr3 hb_.size, hp_.since hb_⟩)⟩ (fun j hj => updN_ne (fun e => hj (by subst e; rfl)))
   ·go_invoke
    go_wp2_with (go_at_call 158; refine (mgru_roles true hm_ n1 dom HEO.out hdv_).mono ?_; rintro e w3 ⟨v3, l3, rfl, hl3, hr3, hp_⟩)
    show K_ ((mkN 120 _ s_).put (some 43) (.tuple #[v3, .nilIface])) w3
    rw [mkN_put _ _ _ (by decide)]
    exact hK_ _ _ ⟨_, updN_self _ _ _, (show QV _ _ by rw [HQV.out]; exact ⟨l3, hl3, Kd.R_lower hr3 hb_.size, hp_.since hb_⟩)⟩ (fun j hj => updN_ne (fun e => hj (by subst e; rfl)))
  ·skip
   obtain ⟨v2_, gt_, hq_⟩ := (show ∃ v2_, _ ∧ _ from hZ_)
   clear hg_ ho_
   refine wpOp_step rfl (fun K' hK => ?_)
   go_simp
   simp [mkN_get, gt_]
   refine hK _ _ ?_
   show K_ ((mkN 120 _ s_).put (some 32) (.tuple #[v2_, .nilIface])) W_
   rw [mkN_put _ _ _ (by decide)]
   exact hK_ _ _ ⟨_, updN_self _ _ _, hq_⟩ (fun j hj => updN_ne (fun e => hj (by subst e; rfl)))
  ·skip
   obtain ⟨v2_, gt_, hq_⟩ := (show ∃ v2_, _ ∧ _ from hZ_)
   clear hg_ ho_
   refine wpOp_step rfl (fun K' hK => ?_)
   go_simp
   simp [mkN_get, gt_]
   refine hK _ _ ?_
   show K_ ((mkN 120 _ s_).put (some 44) v2_) W_
   rw [mkN_put _ _ _ (by decide)]
   exact hK_ _ _ ⟨_, (updN_ne (by decide)).trans gt_, updN_self _ _ _, hq_⟩ (fun j hj => updN_ne (fun e => hj (by subst e; rfl)))
  ·have g7_ : s_ 7 = _ := ho_ 7 (by decide) (by decide)
   obtain ⟨v2_, gt_, ge_, hq_⟩ := (show ∃ v2_, _ ∧ _ ∧ _ from hZ_)
   have g7_ : s_ 7 = (.pointer (some ⟨w.heap.size + 1 + 1, 0, none⟩)) := ho_ 7 (by decide) (by decide)
   clear hg_ ho_
   refine wpOp_step rfl (fun K' hK => ?_)
   go_simp
   simp [mkN_get, g7_]
   refine hK _ _ ?_
   show K_ ((mkN 120 _ s_).put (some 46) (.pointer (some ⟨w.heap.size + 1 + 1, 2, none⟩))) W_
   rw [mkN_put _ _ _ (by decide)]
   exact hK_ _ _ ⟨_, (updN_ne (by decide)).trans gt_, (updN_ne (by decide)).trans ge_, updN_self _ _ _, hq_⟩ (fun j hj => updN_ne (fun e => hj (by subst e; rfl)))
  ·skip
   obtain ⟨v2_, gt_, ge_, gf_, hq_⟩ := (show ∃ v2_, _ ∧ _ ∧ _ ∧ _ from hZ_)
   clear hg_ ho_
   have hx_ := (ask_own HA.out HS.out (show MPost _ _ _ _ _ _ _ _ by rw [HQV.out] at hq_; exact hq_.post)).2
   have hc_ := (blk_cell hx_ 2).trans (show _ = some (.slice none 0 0) from rfl)
   have hf_ := blk_frozen hx_ 2
   clear hx_
   obtain ⟨A2_, n2_, c2_, e2_⟩ := (show AskN _ _ _ _ _ _ _ _ _ _ by rw [HQV.out] at hq_; exact hq_).slice
   subst e2_
   refine wpOp_step rfl (fun K' hK => ?_)
   go_simp
   simp [mkN_get, ge_, gf_, run_store1s hc_ hf_ A2_ n2_ c2_]
   refine hK _ _ ?_
   exact hK_ _ _ ⟨_, _, gt_, hq_, rfl⟩ (fun j hj => rfl)
 ·intro s_ W_ hZ_ hv_ ho_
  obtain ⟨v2_, W2_, gt_, hq_, hw_⟩ := (show ∃ v2_ W2_, _ ∧ _ ∧ _ from hZ_)
  have ge1_ : s_ 45 = .nilIface := hv_ 9 (by decide)
  have e6_ : s_ 6 = (.pointer (some ⟨w.heap.size + 1, 0, none⟩)) := ho_ 6 (by decide) (by decide)
  have e7_ : s_ 7 = (.pointer (some ⟨w.heap.size + 1 + 1, 0, none⟩)) := ho_ 7 (by decide) (by decide)
  refine YieldsIf.wpOp (S := fun x => x = W_) (v := .nilIface) rfl (Or.inl ⟨rfl, fun x hx => by simp [execOp, mkN_eval, ge1_]⟩) rfl ?_
  show Exit.inBlock _ _ .normal ((mkN 120 _ s_).put (some 8) _) W_
  rw [mkN_put _ _ _ (by decide), mk120_lit, updN_self, updN_ne (show 6 ≠ 8 by decide), updN_ne (show 7 ≠ 8 by decide), e6_, e7_]
  clear hv_ ho_ hZ_ e6_ e7_ ge1_ gt_ HC HM hna
  generalize updN s_ 8 _ = t_
  rw [HQV.out] at hq_
  have hx_ := ask_own HA.out HS.out hq_.post
  obtain ⟨A2_, n2_, c2_, rfl⟩ := hq_.slice
  have HQ := Aside0.mk hq_
  have hk1_ : W_.heap[w.heap.size + 1]? = some (.cells #[.int .i64 0, .bool false, .slice none 0 0] 40 (0, 0)) := by rw [hw_]; exact (Below.heap_setCell _ _ _ _ (by simp)).trans hx_.1
  have hk2_ : W_.heap[w.heap.size + 1 + 1]? = some (.cells #[.int .i64 0, .bool false, .slice A2_ n2_ c2_] 40 (0, 0)) := by rw [hw_]; exact blk_put hx_.2 2 _ rfl
  have hW := Aside0.mk hw_
  clear hx_ hq_ hw_
  have c10 := (blk_cell hk1_ 0).trans (show _ = some (.int .i64 0) from rfl)
  have c11 := (blk_cell hk1_ 1).trans (show _ = some (.bool false) from rfl)
  have c12 := (blk_cell hk1_ 2).trans (show _ = some (.slice none 0 0) from rfl)
  have c20 := (blk_cell hk2_ 0).trans (show _ = some (.int .i64 0) from rfl)
  have c21 := (blk_cell hk2_ 1).trans (show _ = some (.bool false) from rfl)
  have c22 := (blk_cell hk2_ 2).trans (show _ = some (.slice A2_ n2_ c2_) from rfl)
  have f10 := blk_frozen hk1_ 0
  have f11 := blk_frozen hk1_ 1
  have f12 := blk_frozen hk1_ 2
  have f20 := blk_frozen hk2_ 0
  have HK1 := Aside0.mk hk1_
  have HK2 := Aside0.mk hk2_
  clear hk1_ hk2_
  go_wp2
  refine bodyPost_ret (results_cell_row rfl _ _ (w.heap.size + 1) 40 #[.int .i64 0, .bool false, .slice A2_ n2_ c2_] (0, 0) _ rfl (by refine blk_put (cs := #[.int .i64 0, .bool false, .slice none 0 0]) ?_ 2 _ rfl; refine blk_put (cs := #[.int .i64 0, .bool false, .slice none 0 0]) ?_ 1 _ rfl; refine blk_put (cs := #[.int .i64 0, .bool false, .slice none 0 0]) ?_ 0 _ rfl; exact (Below.heap_setCell _ _ _ _ (by simp)).trans HK1.out) Tryz.underlying40 rfl (by kernel_rfl)) rfl ?_
  have ht_ : Turn (fun k => k = w.heap.size + 1 ∨ k = w.heap.size + 1 + 1) W2_ _ := ((((((Turn.refl _ W2_).set ⟨w.heap.size + 1 + 1, 2, none⟩ (.slice A2_ n2_ c2_) (.inr rfl)).set ⟨w.heap.size + 1 + 1, 0, none⟩ (.int .i64 0) (.inr rfl)).set ⟨w.heap.size + 1, 0, none⟩ (.int .i64 0) (.inl rfl)).set ⟨w.heap.size + 1, 1, none⟩ (.bool false) (.inl rfl)).set ⟨w.heap.size + 1, 2, none⟩ (.slice A2_ n2_ c2_) (.inl rfl))
  rw [← hW.out] at ht_
  exact AskN.told HA.out HS.out HQ.out ht_
set_option maxHeartbeats 8000000 in
set_option maxRecDepth 100000 in
theorem ask_users {w : World} {v : Value} {max : Int} {Ef : ByteArray → Edges} {S : Nat → Prop} {b : Bool} (hmax : 0 ≤ max ∧ max ≤ 1000000) (h : Mgr K w v max Ef S b) (n1 n2 dom : ByteArray) (hE : EOk (Ef (kd b dom))) :
  Calls Tryz.prog 26 #[v, .bool b, .agg #[.int .i64 2, .string n1, .string n2, .string dom]] w fun e w' => ∃ v2 l, e = .returned (.agg #[.int .i64 0, .bool false, v2]) ∧ l.Perm (usersE (Ef (kd b dom)) n1) ∧ Kd.R Kd.string 9 w' w.heap.size (fun _ => True) v2 l ∧ MPost K w v max Ef S b w' := by
 obtain ⟨p, rfl⟩ := h.val
 have hna := fun n W => nil_ahead2 b p n W "GetUsers" (by simp)
 have HH := Aside0.mk h
 have HEO := Aside0.mk hE
 go_enter Tryz.func26, Tryz.ntmps26
 go_upto_region 9 with (fail)
 obtain ⟨W0, hW0⟩ : ∃ W0, W0 = ((w.alloc (Obj.cells #[.int .i64 2, .string n1, .string n2, .string dom] 44)).alloc (Obj.cells #[.int .i64 0, .bool false, .slice none 0 0] 40)).alloc (Obj.cells #[.int .i64 0, .bool false, .slice none 0 0] 40) := ⟨_, rfl⟩
 rw [← hW0]
 have HA := Aside0.mk (ask_start hW0)
 have HM := Aside0.mk (h.below HA.out.b)
 have HC := Aside0.mk HA.out.c
 have HS := Aside0.mk h.slt
 obtain ⟨QV, hQV⟩ : ∃ QV : Value → World → Prop, QV = AskN K W0 (.iface (MT b) (PT p)) max Ef S b (usersE (Ef (kd b dom)) n1) := ⟨_, rfl⟩
 have HQV := Aside0.mk hQV
 clear hW0 h hQV hE
 refine at_mkN (n := 120) (d := _) rfl rfl ?_
 refine region_mix2 (by kernel_rfl) [(0, 50), (1, 51), (2, 52), (3, 53), (4, 54), (5, 55), (7, 57), (8, 58), (9, 59), (13, 62)] [6, 10, 11, 12, 14, 15] (fun k_ => match k_ with | 0 => some 56 | 1 => some 60 | 2 => some 49 | 3 => some 61 | 4 => some 63 | 5 => none | _ => none) (fun k_ => match k_ with | 0 => (.iface (MT b) (PT p)) | 1 => (.pointer (some ⟨w.heap.size, 1, none⟩)) | 2 => (.string n1) | 3 => (.bool b) | 4 => (.pointer (some ⟨w.heap.size, 3, none⟩)) | 5 => (.string dom) | 7 => (.func (.method "GetUsers") #[(.iface (MT b) (PT p))] #[]) | 8 => (.func (.method "GetUsers") #[(.iface (MT b) (PT p))] #[]) | 9 => (.iface (MT b) (PT p)) | 13 => .nilIface | _ => undef) (fun i_ s_ W_ => match i_ with | 0 => W_ = W0.drew | 1 => DV b dom W_ (s_ 56) ∧ Below W0.heap.size W0 W_ | 2 => ∃ v2_, s_ 60 = .tuple #[v2_, .nilIface] ∧ QV v2_ W_ | 3 => ∃ v2_, s_ 49 = .tuple #[v2_, .nilIface] ∧ QV v2_ W_ | 4 => ∃ v2_, s_ 49 = .tuple #[v2_, .nilIface] ∧ s_ 61 = v2_ ∧ QV v2_ W_ | 5 => ∃ v2_, s_ 49 = .tuple #[v2_, .nilIface] ∧ s_ 61 = v2_ ∧ s_ 63 = (.pointer (some ⟨w.heap.size + 1 + 1, 2, none⟩)) ∧ QV v2_ W_ | _ => ∃ v2_ W2_, s_ 49 = .tuple #[v2_, .nilIface] ∧ QV v2_ W2_ ∧ W_ = W2_.setCell ⟨w.heap.size + 1 + 1, 2, none⟩ v2_) [[], [], [1], [], [], [4], [3, 5], [0], [7], [0, 7, 8], [9, 2, 6, 6], [10], [11], [11], [0, 1, 2, 3, 4, 5, 6, 7, 8, 9, 10, 11, 12], [14, 12, 10, 0, 1, 2, 3, 4, 5, 6, 7, 8, 9, 10, 11, 12], [13, 15, 0, 1, 2, 3, 4, 5, 6, 7, 8, 9, 10, 11, 12, 13, 14, 15]] (by kernel_rfl) (by decide) rfl (by decide) (by decide) (by decide) (by decide) (by decide) (by decide) (by decide) (by decide) (by decide) (by decide) (by decide) ?_ ?_ ?_ ?_ ?_
 ·intro i_ hi_ s_ W_ q_ hq_ hz_ hno_ hcb_ hg_ ho_
  rcases (show i_ = 0 ∨ i_ = 1 ∨ i_ = 2 ∨ i_ = 3 ∨ i_ = 4 ∨ i_ = 5 ∨ i_ = 6 ∨ i_ = 7 ∨ i_ = 8 ∨ i_ = 9 from by have : i_ < 10 := hi_; omega) with rfl | rfl | rfl | rfl | rfl | rfl | rfl | rfl | rfl | rfl
  ·refine ⟨_, rfl, rfl, fun _ => rfl, ?_⟩
   have g0_ : s_ 0 = _ := ho_ 0 (by decide) (by decide)
   clear hg_ ho_ hno_ hz_ hq_ hcb_
   first | (simp [execOp, mkN_eval, Result.andThen, *]; done) | (go_simp; simp [mkN_get, Result.andThen, *]; done)
  ·refine ⟨_, rfl, rfl, fun _ => rfl, ?_⟩
   have g5_ : s_ 5 = _ := ho_ 5 (by decide) (by decide)
   clear hg_ ho_ hno_ hz_ hq_ hcb_
   first | (simp [execOp, mkN_eval, Result.andThen, *]; done) | (go_simp; simp [mkN_get, Result.andThen, *]; done)
  ·refine ⟨_, rfl, rfl, fun _ => rfl, ?_⟩
   have g51_ : s_ 51 = (.pointer (some ⟨w.heap.size, 1, none⟩)) := hg_ 1 (by decide) (by decide)
   obtain hq3_ : q_ ≤ 1 := by rcases Nat.lt_or_ge 1 q_ with h | h; exact absurd (by decide) (hno_ 1 h); exact h
   have hbw_ : Below W0.heap.size W0 W_ := by
    rcases (show q_ = 0 ∨ q_ = 1 from by omega) with rfl | rfl
    ·exact (show W_ = _ from hz_) ▸ below_drew0 W0
    ·exact (show DV _ _ _ _ ∧ _ from hz_).2
   have hc_ := (HC.out W_ hbw_).1
   clear hbw_
   clear hg_ ho_ hno_ hz_ hq_ hcb_
   first | (simp [execOp, mkN_eval, Result.andThen, *]; done) | (go_simp; simp [mkN_get, Result.andThen, *]; done)
  ·refine ⟨_, rfl, rfl, fun _ => rfl, ?_⟩
   have g1_ : s_ 1 = _ := ho_ 1 (by decide) (by decide)
   clear hg_ ho_ hno_ hz_ hq_ hcb_
   first | (simp [execOp, mkN_eval, Result.andThen, *]; done) | (go_simp; simp [mkN_get, Result.andThen, *]; done)
  ·refine ⟨_, rfl, rfl, fun _ => rfl, ?_⟩
   have g5_ : s_ 5 = _ := ho_ 5 (by decide) (by decide)
   clear hg_ ho_ hno_ hz_ hq_ hcb_
   first | (simp [execOp, mkN_eval, Result.andThen, *]; done) | (go_simp; simp [mkN_get, Result.andThen, *]; done)
  ·refine ⟨_, rfl, rfl, fun _ => rfl, ?_⟩
   have g54_ : s_ 54 = (.pointer (some ⟨w.heap.size, 3, none⟩)) := hg_ 4 (by decide) (by decide)
   obtain hq3_ : q_ ≤ 0 := by rcases Nat.lt_or_ge 0 q_ with h | h; exact absurd (by decide) (hno_ 0 h); exact h
   have hbw_ : Below W0.heap.size W0 W_ := by
    rcases (show q_ = 0 from by omega) with rfl
    ·exact (show W_ = _ from hz_) ▸ below_drew0 W0
   have hc_ := (HC.out W_ hbw_).2.2
   clear hbw_
   clear hg_ ho_ hno_ hz_ hq_ hcb_
   first | (simp [execOp, mkN_eval, Result.andThen, *]; done) | (go_simp; simp [mkN_get, Result.andThen, *]; done)
  ·refine ⟨_, rfl, rfl, fun _ => rfl, ?_⟩
   have g50_ : s_ 50 = (.iface (MT b) (PT p)) := hg_ 0 (by decide) (by decide)
   clear hg_ ho_ hno_ hz_ hq_ hcb_
   first | (simp [execOp, mkN_eval, Result.andThen, *]; done) | (go_simp; simp [mkN_get, Result.andThen, *]; done)
  ·refine ⟨_, rfl, rfl, fun _ => rfl, ?_⟩
   have g57_ : s_ 57 = (.func (.method "GetUsers") #[(.iface (MT b) (PT p))] #[]) := hg_ 6 (by decide) (by decide)
   clear hg_ ho_ hno_ hz_ hq_ hcb_
   first | (simp [execOp, mkN_eval, Result.andThen, *]; done) | (go_simp; simp [mkN_get, Result.andThen, *]; done)
  ·refine ⟨_, rfl, rfl, fun _ => rfl, ?_⟩
   have g50_ : s_ 50 = (.iface (MT b) (PT p)) := hg_ 0 (by decide) (by decide)
   clear hg_ ho_ hno_ hz_ hq_ hcb_
   first | (simp [execOp, mkN_eval, Result.andThen, *]; done) | (go_simp; simp [mkN_get, Result.andThen, *]; done)
  ·refine ⟨_, rfl, rfl, fun _ => rfl, ?_⟩
   have hq3_ : 2 < q_ := hcb_ 2 (by decide) (by decide)
   have gt_ : ∃ v2_, s_ 49 = .tuple #[v2_, .nilIface] := by
    rcases (show q_ = 3 ∨ q_ = 4 ∨ q_ = 5 ∨ q_ = 6 from by have : q_ ≤ 6 := hq_; omega) with rfl | rfl | rfl | rfl
    ·obtain ⟨v, h, _⟩ := (show ∃ v2_, _ ∧ _ from hz_); exact ⟨v, h⟩
    ·obtain ⟨v, h, _⟩ := (show ∃ v2_, _ ∧ _ from hz_); exact ⟨v, h⟩
    ·obtain ⟨v, h, _⟩ := (show ∃ v2_, _ ∧ _ from hz_); exact ⟨v, h⟩
    ·obtain ⟨v, W2, h, _⟩ := (show ∃ v2_ W2_, _ ∧ _ from hz_); exact ⟨v, h⟩
   obtain ⟨v2_, gt_⟩ := gt_
   clear hq3_
   clear hg_ ho_ hno_ hz_ hq_ hcb_
   first | (simp [execOp, mkN_eval, Result.andThen, *]; done) | (go_simp; simp [mkN_get, Result.andThen, *]; done)
 ·exact rfl
 ·intro q_ s_ x_ v_ W_ hx_ hZ_
  have e56_ : updN s_ x_ v_ 56 = s_ 56 := updN_ne (fun e => by subst e; exact absurd hx_ (by decide))
  have e60_ : updN s_ x_ v_ 60 = s_ 60 := updN_ne (fun e => by subst e; exact absurd hx_ (by decide))
  have e49_ : updN s_ x_ v_ 49 = s_ 49 := updN_ne (fun e => by subst e; exact absurd hx_ (by decide))
  have e61_ : updN s_ x_ v_ 61 = s_ 61 := updN_ne (fun e => by subst e; exact absurd hx_ (by decide))
  have e63_ : updN s_ x_ v_ 63 = s_ 63 := updN_ne (fun e => by subst e; exact absurd hx_ (by decide))
  clear hx_
  rcases (show q_ = 0 ∨ q_ = 1 ∨ q_ = 2 ∨ q_ = 3 ∨ q_ = 4 ∨ q_ = 5 ∨ ∃ z_, q_ = z_ + 6 from by by_cases h : 6 ≤ q_; exact .inr (.inr (.inr (.inr (.inr (.inr (⟨q_ - 6, by omega⟩)))))); omega) with rfl | rfl | rfl | rfl | rfl | rfl | ⟨z_, rfl⟩
  ·exact hZ_
  ·simpa only [e56_, e60_, e49_, e61_, e63_] using hZ_
  ·simpa only [e56_, e60_, e49_, e61_, e63_] using hZ_
  ·simpa only [e56_, e60_, e49_, e61_, e63_] using hZ_
  ·simpa only [e56_, e60_, e49_, e61_, e63_] using hZ_
  ·simpa only [e56_, e60_, e49_, e61_, e63_] using hZ_
  ·simpa only [e56_, e60_, e49_, e61_, e63_] using hZ_
 ·intro i_ hi_ s_ W_ hg_ ho_ hZ_ K_ hK_
  rcases (show i_ = 0 ∨ i_ = 1 ∨ i_ = 2 ∨ i_ = 3 ∨ i_ = 4 ∨ i_ = 5 from by have : i_ < 6 := hi_; omega) with rfl | rfl | rfl | rfl | rfl | rfl
  ·have g53_ : s_ 53 = (.bool b) := hg_ 3 (by decide) (by decide)
   have g55_ : s_ 55 = (.string dom) := hg_ 5 (by decide) (by decide)
   obtain rfl : W_ = W0.drew := hZ_
   clear hg_ ho_
   refine wpOp_step rfl (fun K' hK => ?_)
   go_simp
   try simp [mkN_get, g53_, g55_]
   go_wp2_with (go_at_call 35; refine (impl_within b dom _).mono ?_; rintro e w3 ⟨dv, rfl, hdv, hb3⟩)
   show K_ ((mkN 120 _ s_).put (some 56) dv) w3
   rw [mkN_put _ _ _ (by decide)]
   exact hK_ _ _ ⟨by rw [updN_self]; exact hdv, (below_drew0 W0).trans hb3⟩ (fun j hj => updN_ne (fun e => hj (by subst e; rfl)))
  ·have g59_ : s_ 59 = (.iface (MT b) (PT p)) := hg_ 8 (by decide) (by decide)
   have g52_ : s_ 52 = (.string n1) := hg_ 2 (by decide) (by decide)
   obtain ⟨hdv_, hb_⟩ := (show DV _ _ _ _ ∧ _ from hZ_)
   clear hg_ ho_
   have hm_ := HM.out.below hb_
   refine wpOp_step rfl (fun K' hK => ?_)
   go_simp
   simp [mkN_get, g59_, g52_]
   cases b
   ·go_invoke
    go_wp2_with (go_at_call 104; refine (mgru_users false hm_ n1 dom HEO.out hdv_).mono ?_; rintro e w3 ⟨v3, l3, rfl, hl3, hr3, hp_⟩)
    show K_ ((mkN 120 _ s_).put (some 60) (.tuple #[v3, .nilIface])) w3
    rw [mkN_put _ _ _ (by decide)]
    exact hK_ _ _ ⟨_, updN_self _ _ _, (show QV _ _ by rw [HQV.out]; exact ⟨l3, hl3, Kd.R_lower hr3 hb_.size, hp_.since hb_⟩)⟩ (fun j hj => updN_ne (fun e => hj (by subst e; rfl)))
   ·go_invoke
    go_wp2_with (go_at_call 159; refine (mgru_users true hm_ n1 dom HEO.out hdv_).mono ?_; rintro e w3 ⟨v3, l3, rfl, hl3, hr3, hp_⟩)
    show K_ ((mkN 120 _ s_).put (some 60) (.tuple #[v3, .nilIface])) w3
    rw [mkN_put _ _ _ (by decide)]
    exact hK_ _ _ ⟨_, updN_self _ _ _, (show QV _ _ by rw [HQV.out]; exact ⟨l3, hl3, Kd.R_lower hr3 hb_.size, hp_.since hb_⟩)⟩ (fun j hj => updN_ne (fun e => hj (by subst e; rfl)))
  ·skip
   obtain ⟨v2_, gt_, hq_⟩ := (show ∃ v2_, _ ∧ _ from hZ_)
   clear hg_ ho_
   refine wpOp_step rfl (fun K' hK => ?_)
   go_simp
   simp [mkN_get, gt_]
   refine hK _ _ ?_
   show K_ ((mkN 120 _ s_).put (some 49) (.tuple #[v2_, .nilIface])) W_
   rw [mkN_put _ _ _ (by decide)]
   exact hK_ _ _ ⟨_, updN_self _ _ _, hq_⟩ (fun j hj => updN_ne (fun e => hj (by subst e; rfl)))
  ·skip
   obtain ⟨v2_, gt_, hq_⟩ := (show ∃ v2_, _ ∧ _ from hZ_)
   clear hg_ ho_
   refine wpOp_step rfl (fun K' hK => ?_)
   go_simp
   simp [mkN_get, gt_]
   refine hK _ _ ?_
   show K_ ((mkN 120 _ s_).put (some 61) v2_) W_
   rw [mkN_put _ _ _ (by decide)]
   exact hK_ _ _ ⟨_, (updN_ne (by decide)).trans gt_, updN_self _ _ _, hq_⟩ (fun j hj => updN_ne (fun e => hj (by subst e; rfl)))
  ·have g7_ : s_ 7 = _ := ho_ 7 (by decide) (by decide)
   obtain ⟨v2_, gt_, ge_, hq_⟩ := (show ∃ v2_, _ ∧ _ ∧ _ from hZ_)
   have g7_ : s_ 7 = (.pointer (some ⟨w.heap.size + 1 + 1, 0, none⟩)) := ho_ 7 (by decide) (by decide)
   clear hg_ ho_
   refine wpOp_step rfl (fun K' hK => ?_)
   go_simp
   simp [mkN_get, g7_]
   refine hK _ _ ?_
   show K_ ((mkN 120 _ s_).put (some 63) (.pointer (some ⟨w.heap.size + 1 + 1, 2, none⟩))) W_
   rw [mkN_put _ _ _ (by decide)]
   exact hK_ _ _ ⟨_, (updN_ne (by decide)).trans gt_, (updN_ne (by decide)).trans ge_, updN_self _ _ _, hq_⟩ (fun j hj => updN_ne (fun e => hj (by subst e; rfl)))
  ·skip
   obtain ⟨v2_, gt_, ge_, gf_, hq_⟩ := (show ∃ v2_, _ ∧ _ ∧ _ ∧ _ from hZ_)
   clear hg_ ho_
   have hx_ := (ask_own HA.out HS.out (show MPost _ _ _ _ _ _ _ _ by rw [HQV.out] at hq_; exact hq_.post)).2
   have hc_ := (blk_cell hx_ 2).trans (show _ = some (.slice none 0 0) from rfl)
   have hf_ := blk_frozen hx_ 2
   clear hx_
   obtain ⟨A2_, n2_, c2_, e2_⟩ := (show AskN _ _ _ _ _ _ _ _ _ _ by rw [HQV.out] at hq_; exact hq_).slice
   subst e2_
   refine wpOp_step rfl (fun K' hK => ?_)
   go_simp
   simp [mkN_get, ge_, gf_, run_store1s hc_ hf_ A2_ n2_ c2_]
   refine hK _ _ ?_
   exact hK_ _ _ ⟨_, _, gt_, hq_, rfl⟩ (fun j hj => rfl)
 ·intro s_ W_ hZ_ hv_ ho_
  obtain ⟨v2_, W2_, gt_, hq_, hw_⟩ := (show ∃ v2_ W2_, _ ∧ _ ∧ _ from hZ_)
  have ge1_ : s_ 62 = .nilIface := hv_ 9 (by decide)
  have e6_ : s_ 6 = (.pointer (some ⟨w.heap.size + 1, 0, none⟩)) := ho_ 6 (by decide) (by decide)
  have e7_ : s_ 7 = (.pointer (some ⟨w.heap.size + 1 + 1, 0, none⟩)) := ho_ 7 (by decide) (by decide)
  refine YieldsIf.wpOp (S := fun x => x = W_) (v := .nilIface) rfl (Or.inl ⟨rfl, fun x hx => by simp [execOp, mkN_eval, ge1_]⟩) rfl ?_
  show Exit.inBlock _ _ .normal ((mkN 120 _ s_).put (some 8) _) W_
  rw [mkN_put _ _ _ (by decide), mk120_lit, updN_self, updN_ne (show 6 ≠ 8 by decide), updN_ne (show 7 ≠ 8 by decide), e6_, e7_]
  clear hv_ ho_ hZ_ e6_ e7_ ge1_ gt_ HC HM hna
  generalize updN s_ 8 _ = t_
  rw [HQV.out] at hq_
  have hx_ := ask_own HA.out HS.out hq_.post
  obtain ⟨A2_, n2_, c2_, rfl⟩ := hq_.slice
  have HQ := Aside0.mk hq_
  have hk1_ : W_.heap[w.heap.size + 1]? = some (.cells #[.int .i64 0, .bool false, .slice none 0 0] 40 (0, 0)) := by rw [hw_]; exact (Below.heap_setCell _ _ _ _ (by simp)).trans hx_.1
  have hk2_ : W_.heap[w.heap.size + 1 + 1]? = some (.cells #[.int .i64 0, .bool false, .slice A2_ n2_ c2_] 40 (0, 0)) := by rw [hw_]; exact blk_put hx_.2 2 _ rfl
  have hW := Aside0.mk hw_
  clear hx_ hq_ hw_
  have c10 := (blk_cell hk1_ 0).trans (show _ = some (.int .i64 0) from rfl)
  have c11 := (blk_cell hk1_ 1).trans (show _ = some (.bool false) from rfl)
  have c12 := (blk_cell hk1_ 2).trans (show _ = some (.slice none 0 0) from rfl)
  have c20 := (blk_cell hk2_ 0).trans (show _ = some (.int .i64 0) from rfl)
  have c21 := (blk_cell hk2_ 1).trans (show _ = some (.bool false) from rfl)
  have c22 := (blk_cell hk2_ 2).trans (show _ = some (.slice A2_ n2_ c2_) from rfl)
  have f10 := blk_frozen hk1_ 0
  have f11 := blk_frozen hk1_ 1
  have f12 := blk_frozen hk1_ 2
  have f20 := blk_frozen hk2_ 0
  have HK1 := Aside0.mk hk1_
  have HK2 := Aside0.mk hk2_
  clear hk1_ hk2_
  go_wp2
  refine bodyPost_ret (results_cell_row rfl _ _ (w.heap.size + 1) 40 #[.int .i64 0, .bool false, .slice A2_ n2_ c2_] (0, 0) _ rfl (by refine blk_put (cs := #[.int .i64 0, .bool false, .slice none 0 0]) ?_ 2 _ rfl; refine blk_put (cs := #[.int .i64 0, .bool false, .slice none 0 0]) ?_ 1 _ rfl; refine blk_put (cs := #[.int .i64 0, .bool false, .slice none 0 0]) ?_ 0 _ rfl; exact (Below.heap_setCell _ _ _ _ (by simp)).trans HK1.out) Tryz.underlying40 rfl (by kernel_rfl)) rfl ?_
  have ht_ : Turn (fun k => k = w.heap.size + 1 ∨ k = w.heap.size + 1 + 1) W2_ _ := ((((((Turn.refl _ W2_).set ⟨w.heap.size + 1 + 1, 2, none⟩ (.slice A2_ n2_ c2_) (.inr rfl)).set ⟨w.heap.size + 1 + 1, 0, none⟩ (.int .i64 0) (.inr rfl)).set ⟨w.heap.size + 1, 0, none⟩ (.int .i64 0) (.inl rfl)).set ⟨w.heap.size + 1, 1, none⟩ (.bool false) (.inl rfl)).set ⟨w.heap.size + 1, 2, none⟩ (.slice A2_ n2_ c2_) (.inl rfl))
  rw [← hW.out] at ht_
  exact AskN.told HA.out HS.out HQ.out ht_
set_option maxHeartbeats 8000000 in
set_option maxRecDepth 100000 in
theorem ask_imp_roles {w : World} {v : Value} {max : Int} {Ef : ByteArray → Edges} {S : Nat → Prop} {b : Bool} (hmax : 0 ≤ max ∧ max ≤ 1000000) (h : Mgr K w v max Ef S b) (n1 n2 dom : ByteArray) (hE : EOk (Ef (kd b dom))) :
  Calls Tryz.prog 26 #[v, .bool b, .agg #[.int .i64 3, .string n1, .string n2, .string dom]] w fun e w' => ∃ v2 l, e = .returned (.agg #[.int .i64 0, .bool false, v2]) ∧ l.Perm (impl (rolesE (Ef (kd b dom))) max.toNat n1) ∧ Kd.R Kd.string 9 w' w.heap.size (fun _ => True) v2 l ∧ MPost K w v max Ef S b w' := by
 obtain ⟨p, rfl⟩ := h.val
 have hna := fun n W => nil_ahead2 b p n W "GetImplicitRoles" (by simp)
 have HH := Aside0.mk h
 have HEO := Aside0.mk hE
 go_enter Tryz.func26, Tryz.ntmps26
 go_upto_region 11 with (fail)
 obtain ⟨W0, hW0⟩ : ∃ W0, W0 = ((w.alloc (Obj.cells #[.int .i64 3, .string n1, .string n2, .string dom] 44)).alloc (Obj.cells #[.int .i64 0, .bool false, .slice none 0 0] 40)).alloc (Obj.cells #[.int .i64 0, .bool false, .slice none 0 0] 40) := ⟨_, rfl⟩
 rw [← hW0]
 have HA := Aside0.mk (ask_start hW0)
 have HM := Aside0.mk (h.below HA.out.b)
 have HC := Aside0.mk HA.out.c
 have HS := Aside0.mk h.slt
 obtain ⟨QV, hQV⟩ : ∃ QV : Value → World → Prop, QV = AskN K W0 (.iface (MT b) (PT p)) max Ef S b (impl (rolesE (Ef (kd b dom))) max.toNat n1) := ⟨_, rfl⟩
 have HQV := Aside0.mk hQV
 clear hW0 h hQV hE
 refine at_mkN (n := 120) (d := _) rfl rfl ?_
 refine region_mix2 (by kernel_rfl) [(0, 67), (1, 68), (2, 69), (3, 70), (4, 71), (5, 72), (7, 74), (8, 75), (9, 76), (13, 79)] [6, 10, 11, 12, 14, 15] (fun k_ => match k_ with | 0 => some 73 | 1 => some 77 | 2 => some 66 | 3 => some 78 | 4 => some 80 | 5 => none | _ => none) (fun k_ => match k_ with | 0 => (.iface (MT b) (PT p)) | 1 => (.pointer (some ⟨w.heap.size, 1, none⟩)) | 2 => (.string n1) | 3 => (.bool b) | 4 => (.pointer (some ⟨w.heap.size, 3, none⟩)) | 5 => (.string dom) | 7 => (.func (.method "GetImplicitRoles") #[(.iface (MT b) (PT p))] #[]) | 8 => (.func (.method "GetImplicitRoles") #[(.iface (MT b) (PT p))] #[]) | 9 => (.iface (MT b) (PT p)) | 13 => .nilIface | _ => undef) (fun i_ s_ W_ => match i_ with | 0 => W_ = W0.drew | 1 => DV b dom W_ (s_ 73) ∧ Below W0.heap.size W0 W_ | 2 => ∃ v2_, s_ 77 = .tuple #[v2_, .nilIface] ∧ QV v2_ W_ | 3 => ∃ v2_, s_ 66 = .tuple #[v2_, .nilIface] ∧ QV v2_ W_ | 4 => ∃ v2_, s_ 66 = .tuple #[v2_, .nilIface] ∧ s_ 78 = v2_ ∧ QV v2_ W_ | 5 => ∃ v2_, s_ 66 = .tuple #[v2_, .nilIface] ∧ s_ 78 = v2_ ∧ s_ 80 = (.pointer (some ⟨w.heap.size + 1 + 1, 2, none⟩)) ∧ QV v2_ W_ | _ => ∃ v2_ W2_, s_ 66 = .tuple #[v2_, .nilIface] ∧ QV v2_ W2_ ∧ W_ = W2_.setCell ⟨w.heap.size + 1 + 1, 2, none⟩ v2_) [[], [], [1], [], [], [4], [3, 5], [0], [7], [0, 7, 8], [9, 2, 6, 6], [10], [11], [11], [0, 1, 2, 3, 4, 5, 6, 7, 8, 9, 10, 11, 12], [14, 12, 10, 0, 1, 2, 3, 4, 5, 6, 7, 8, 9, 10, 11, 12], [13, 15, 0, 1, 2, 3, 4, 5, 6, 7, 8, 9, 10, 11, 12, 13, 14, 15]] (by kernel_rfl) (by decide) rfl (by decide) (by decide) (by decide) (by decide) (by decide) (by decide) (by decide) (by decide) (by decide) (by decide) (by decide) ?_ ?_ ?_ ?_ ?_
 ·intro i_ hi_ s_ W_ q_ hq_ hz_ hno_ hcb_ hg_ ho_
  rcases (show i_ = 0 ∨ i_ = 1 ∨ i_ = 2 ∨ i_ = 3 ∨ i_ = 4 ∨ i_ = 5 ∨ i_ = 6 ∨ i_ = 7 ∨ i_ = 8 ∨ i_ = 9 from by have : i_ < 10 := hi_; omega) with rfl | rfl | rfl | rfl | rfl | rfl | rfl | rfl | rfl | rfl
  ·refine ⟨_, rfl, rfl, fun _ => rfl, ?_⟩
   have g0_ : s_ 0 = _ := ho_ 0 (by decide) (by decide)
   clear hg_ ho_ hno_ hz_ hq_ hcb_
   first | (simp [execOp, mkN_eval, Result.andThen, *]; done) | (go_simp; simp [mkN_get, Result.andThen, *]; done)
  ·refine ⟨_, rfl, rfl, fun _ => rfl, ?_⟩
   have g5_ : s_ 5 = _ := ho_ 5 (by decide) (by decide)
   clear hg_ ho_ hno_ hz_ hq_ hcb_
   first | (simp [execOp, mkN_eval, Result.andThen, *]; done) | (go_simp; simp [mkN_get, Result.andThen, *]; done)
  ·refine ⟨_, rfl, rfl, fun _ => rfl, ?_⟩
   have g68_ : s_ 68 = (.pointer (some ⟨w.heap.size, 1, none⟩)) := hg_ 1 (by decide) (by decide)
   obtain hq3_ : q_ ≤ 1 := by rcases Nat.lt_or_ge 1 q_ with h | h; exact absurd (by decide) (hno_ 1 h); exact h
   have hbw_ : Below W0.heap.size W0 W_ := by
    rcases (show q_ = 0 ∨ q_ = 1 from by omega) with rfl | rfl
    ·exact (show W_ = _ from hz_) ▸ below_drew0 W0
    ·exact (show DV _ _ _ _ ∧ _ from hz_).2
   have hc_ := (HC.out W_ hbw_).1
   clear hbw_
   clear hg_ ho_ hno_ hz_ hq_ hcb_
   first | (simp [execOp, mkN_eval, Result.andThen, *]; done) | (go_simp; simp [mkN_get, Result.andThen, *]; done)
  ·refine ⟨_, rfl, rfl, fun _ => rfl, ?_⟩
   have g1_ : s_ 1 = _ := ho_ 1 (by decide) (by decide)
   clear hg_ ho_ hno_ hz_ hq_ hcb_
   first | (simp [execOp, mkN_eval, Result.andThen, *]; done) | (go_simp; simp [mkN_get, Result.andThen, *]; done)
  ·refine ⟨_, rfl, rfl, fun _ => rfl, ?_⟩
   have g5_ : s_ 5 = _ := ho_ 5 (by decide) (by decide)
   clear hg_ ho_ hno_ hz_ hq_ hcb_
   first | (simp [execOp, mkN_eval, Result.andThen, *]; done) | (go_simp; simp [mkN_get, Result.andThen, *]; done)
  ·refine ⟨_, rfl, rfl, fun _ => rfl, ?_⟩
   have g71_ : s_ 71 = (.pointer (some ⟨w.heap.size, 3, none⟩)) := hg_ 4 (by decide) (by decide)
   obtain hq3_ : q_ ≤ 0 := by rcases Nat.lt_or_ge 0 q_ with h | h; exact absurd (by decide) (hno_ 0 h); exact h
   have hbw_ : Below W0.heap.size W0 W_ := by
    rcases (show q_ = 0 from by omega) with rfl
    ·exact (show W_ = _ from hz_) ▸ below_drew0 W0
   have hc_ := (HC.out W_ hbw_).2.2
   clear hbw_
   clear hg_ ho_ hno_ hz_ hq_ hcb_
   first | (simp [execOp, mkN_eval, Result.andThen, *]; done) | (go_simp; simp [mkN_get, Result.andThen, *]; done)
  ·refine ⟨_, rfl, rfl, fun _ => rfl, ?_⟩
   have g67_ : s_ 67 = (.iface (MT b) (PT p)) := hg_ 0 (by decide) (by decide)
   clear hg_ ho_ hno_ hz_ hq_ hcb_
   first | (simp [execOp, mkN_eval, Result.andThen, *]; done) | (go_simp; simp [mkN_get, Result.andThen, *]; done)
  ·refine ⟨_, rfl, rfl, fun _ => rfl, ?_⟩
   have g74_ : s_ 74 = (.func (.method "GetImplicitRoles") #[(.iface (MT b) (PT p))] #[]) := hg_ 6 (by decide) (by decide)
   clear hg_ ho_ hno_ hz_ hq_ hcb_
   first | (simp [execOp, mkN_eval, Result.andThen, *]; done) | (go_simp; simp [mkN_get, Result.andThen, *]; done)
  ·refine ⟨_, rfl, rfl, fun _ => rfl, ?_⟩
   have g67_ : s_ 67 = (.iface (MT b) (PT p)) := hg_ 0 (by decide) (by decide)
   clear hg_ ho_ hno_ hz_ hq_ hcb_
   first | (simp [execOp, mkN_eval, Result.andThen, *]; done) | (go_simp; simp [mkN_get, Result.andThen, *]; done)
  ·refine ⟨_, rfl, rfl, fun _ => rfl, ?_⟩
   have hq3_ : 2 < q_ := hcb_ 2 (by decide) (by decide)
   have gt_ : ∃ v2_, s_ 66 = .tuple #[v2_, .nilIface] := by
    rcases (show q_ = 3 ∨ q_ = 4 ∨ q_ = 5 ∨ q_ = 6 from by have : q_ ≤ 6 := hq_; omega) with rfl | rfl | rfl | rfl
    ·obtain ⟨v, h, _⟩ := (show ∃ v2_, _ ∧ _ from hz_); exact ⟨v, h⟩
    ·obtain ⟨v, h, _⟩ := (show ∃ v2_, _ ∧ _ from hz_); exact ⟨v, h⟩
    ·obtain ⟨v, h, _⟩ := (show ∃ v2_, _ ∧ _ from hz_); exact ⟨v, h⟩
    ·obtain ⟨v, W2, h, _⟩ := (show ∃ v2_ W2_, _ ∧ _ from hz_); exact ⟨v, h⟩
   obtain ⟨v2_, gt_⟩ := gt_
   clear hq3_
   clear hg_ ho_ hno_ hz_ hq_ hcb_
   first | (simp [execOp, mkN_eval, Result.andThen, *]; done) | (go_simp; simp [mkN_get, Result.andThen, *]; done)
 ·exact rfl
 ·intro q_ s_ x_ v_ W_ hx_ hZ_
  have e73_ : updN s_ x_ v_ 73 = s_ 73 := updN_ne (fun e => by subst e; exact absurd hx_ (by decide))
  have e77_ : updN s_ x_ v_ 77 = s_ 77 := updN_ne (fun e => by subst e; exact absurd hx_ (by decide))
  have e66_ : updN s_ x_ v_ 66 = s_ 66 := updN_ne (fun e => by subst e; exact absurd hx_ (by decide))
  have e78_ : updN s_ x_ v_ 78 = s_ 78 := updN_ne (fun e => by subst e; exact absurd hx_ (by decide))
  have e80_ : updN s_ x_ v_ 80 = s_ 80 := updN_ne (fun e => by subst e; exact absurd hx_ (by decide))
  clear hx_
  rcases (show q_ = 0 ∨ q_ = 1 ∨ q_ = 2 ∨ q_ = 3 ∨ q_ = 4 ∨ q_ = 5 ∨ ∃ z_, q_ = z_ + 6 from by by_cases h : 6 ≤ q_; exact .inr (.inr (.inr (.inr (.inr (.inr (⟨q_ - 6, by omega⟩)))))); omega) with rfl | rfl | rfl | rfl | rfl | rfl | ⟨z_, rfl⟩
  ·exact hZ_
  ·simpa only [e73_, e77_, e66_, e78_, e80_] using hZ_
  ·simpa only [e73_, e77_, e66_, e78_, e80_] using hZ_
  ·simpa only [e73_, e77_, e66_, e78_, e80_] using hZ_
  ·simpa only [e73_, e77_, e66_, e78_, e80_] using hZ_
  ·simpa only [e73_, e77_, e66_, e78_, e80_] using hZ_
  ·simpa only [e73_, e77_, e66_, e78_, e80_] using hZ_
 ·intro i_ hi_ s_ W_ hg_ ho_ hZ_ K_ hK_
  rcases (show i_ = 0 ∨ i_ = 1 ∨ i_ = 2 ∨ i_ = 3 ∨ i_ = 4 ∨ i_ = 5 from by have : i_ < 6 := hi_; omega) with rfl | rfl | rfl | rfl | rfl | rfl
  ·have g70_ : s_ 70 = (.bool b) := hg_ 3 (by decide) (by decide)
   have g72_ : s_ 72 = (.string dom) := hg_ 5 (by decide) (by decide)
   obtain rfl : W_ = W0.drew := hZ_
   clear hg_ ho_
   refine wpOp_step rfl (fun K' hK => ?_)
   go_simp
   try simp [mkN_get, g70_, g72_]
   go_wp2_with (go_at_call 35; refine (impl_within b dom _).mono ?_; rintro e w3 ⟨dv, rfl, hdv, hb3⟩)
   show K_ ((mkN 120 _ s_).put (some 73) dv) w3
   rw [mkN_put _ _ _ (by decide)]
   exact hK_ _ _ ⟨by rw [updN_self]; exact hdv, (below_drew0 W0).trans hb3⟩ (fun j hj => updN_ne (fun e => hj (by subst e; rfl)))
  ·have g76_ : s_ 76 = (.iface (MT b) (PT p)) := hg_ 8 (by decide) (by decide)
   have g69_ : s_ 69 = (.string n1) := hg_ 2 (by decide) (by decide)
   obtain ⟨hdv_, hb_⟩ := (show DV _ _ _ _ ∧ _ from hZ_)
   clear hg_ ho_
   have hm_ := HM.out.below hb_
   refine wpOp_step rfl (fun K' hK => ?_)
   go_simp
   simp [mkN_get, g76_, g69_]
   cases b
   ·go_invoke
    go_wp2_with (go_at_call 101; refine (mgru_imp_roles false hmax hm_ n1 dom HEO.out hdv_).mono ?_; rintro e w3 ⟨v3, l3, rfl, hl3, hr3, hp_⟩)
    show K_ ((mkN 120 _ s_).put (some 77) (.tuple #[v3, .nilIface])) w3
    rw [mkN_put _ _ _ (by decide)]
    exact hK_ _ _ ⟨_, updN_self _ _ _, (show QV _ _ by rw [HQV.out]; exact ⟨l3, hl3, Kd.R_lower hr3 hb_.size, hp_.since hb_⟩)⟩ (fun j hj => updN_ne (fun e => hj (by subst e; rfl)))
   ·go_invoke
    go_wp2_with (go_at_call 156; refine (mgru_imp_roles true hmax hm_ n1 dom HEO.out hdv_).mono ?_; rintro e w3 ⟨v3, l3, rfl, hl3, hr3, hp_⟩)
    show K_ ((mkN 120 _ s_).put (some 77) (.tuple #[v3, .nilIface])) w3
    rw [mkN_put _ _ _ (by decide)]
    exact hK_ _ _ ⟨_, updN_self _ _ _, (show QV _ _ by rw [HQV.out]; exact ⟨l3, hl3, Kd.R_lower hr3 hb_.size, hp_.since hb_⟩)⟩ (fun j hj => updN_ne (fun e => hj (by subst e; rfl)))
  ·skip
   obtain ⟨v2_, gt_, hq_⟩ := (show ∃ v2_, _ ∧ _ from hZ_)
   clear hg_ ho_
   refine wpOp_step rfl (fun K' hK => ?_)
   go_simp
   simp [mkN_get, gt_]
   refine hK _ _ ?_
   show K_ ((mkN 120 _ s_).put (some 66) (.tuple #[v2_, .nilIface])) W_
   rw [mkN_put _ _ _ (by decide)]
   exact hK_ _ _ ⟨_, updN_self _ _ _, hq_⟩ (fun j hj => updN_ne (fun e => hj (by subst e; rfl)))
  ·skip
   obtain ⟨v2_, gt_, hq_⟩ := (show ∃ v2_, _ ∧ _ from hZ_)
   clear hg_ ho_
   refine wpOp_step rfl (fun K' hK => ?_)
   go_simp
   simp [mkN_get, gt_]
   refine hK _ _ ?_
   show K_ ((mkN 120 _ s_).put (some 78) v2_) W_
   rw [mkN_put _ _ _ (by decide)]
   exact hK_ _ _ ⟨_, (updN_ne (by decide)).trans gt_, updN_self _ _ _, hq_⟩ (fun j hj => updN_ne (fun e => hj (by subst e; rfl)))
  ·have g7_ : s_ 7 = _ := ho_ 7 (by decide) (by decide)
   obtain ⟨v2_, gt_, ge_, hq_⟩ := (show ∃ v2_, _ ∧ _ ∧ _ from hZ_)
   have g7_ : s_ 7 = (.pointer (some ⟨w.heap.size + 1 + 1, 0, none⟩)) := ho_ 7 (by decide) (by decide)
   clear hg_ ho_
   refine wpOp_step rfl (fun K' hK => ?_)
   go_simp
   simp [mkN_get, g7_]
   refine hK _ _ ?_
   show K_ ((mkN 120 _ s_).put (some 80) (.pointer (some ⟨w.heap.size + 1 + 1, 2, none⟩))) W_
   rw [mkN_put _ _ _ (by decide)]
   exact hK_ _ _ ⟨_, (updN_ne (by decide)).trans gt_, (updN_ne (by decide)).trans ge_, updN_self _ _ _, hq_⟩ (fun j hj => updN_ne (fun e => hj (by subst e; rfl)))
  ·skip
   obtain ⟨v2_, gt_, ge_, gf_, hq_⟩ := (show ∃ v2_, _ ∧ _ ∧ _ ∧ _ from hZ_)
   clear hg_ ho_
   have hx_ := (ask_own HA.out HS.out (show MPost _ _ _ _ _ _ _ _ by rw [HQV.out] at hq_; exact hq_.post)).2
   have hc_ := (blk_cell hx_ 2).trans (show _ = some (.slice none 0 0) from rfl)
   have hf_ := blk_frozen hx_ 2
   clear hx_
   obtain ⟨A2_, n2_, c2_, e2_⟩ := (show AskN _ _ _ _ _ _ _ _ _ _ by rw [HQV.out] at hq_; exact hq_).slice
   subst e2_
   refine wpOp_step rfl (fun K' hK => ?_)
   go_simp
   simp [mkN_get, ge_, gf_, run_store1s hc_ hf_ A2_ n2_ c2_]
   refine hK _ _ ?_
   exact hK_ _ _ ⟨_, _, gt_, hq_, rfl⟩ (fun j hj => rfl)
 ·intro s_ W_ hZ_ hv_ ho_
  obtain ⟨v2_, W2_, gt_, hq_, hw_⟩ := (show ∃ v2_ W2_, _ ∧ _ ∧ _ from hZ_)
  have ge1_ : s_ 79 = .nilIface := hv_ 9 (by decide)
  have e6_ : s_ 6 = (.pointer (some ⟨w.heap.size + 1, 0, none⟩)) := ho_ 6 (by decide) (by decide)
  have e7_ : s_ 7 = (.pointer (some ⟨w.heap.size + 1 + 1, 0, none⟩)) := ho_ 7 (by decide) (by decide)
  refine YieldsIf.wpOp (S := fun x => x = W_) (v := .nilIface) rfl (Or.inl ⟨rfl, fun x hx => by simp [execOp, mkN_eval, ge1_]⟩) rfl ?_
  show Exit.inBlock _ _ .normal ((mkN 120 _ s_).put (some 8) _) W_
  rw [mkN_put _ _ _ (by decide), mk120_lit, updN_self, updN_ne (show 6 ≠ 8 by decide), updN_ne (show 7 ≠ 8 by decide), e6_, e7_]
  clear hv_ ho_ hZ_ e6_ e7_ ge1_ gt_ HC HM hna
  generalize updN s_ 8 _ = t_
  rw [HQV.out] at hq_
  have hx_ := ask_own HA.out HS.out hq_.post
  obtain ⟨A2_, n2_, c2_, rfl⟩ := hq_.slice
  have HQ := Aside0.mk hq_
  have hk1_ : W_.heap[w.heap.size + 1]? = some (.cells #[.int .i64 0, .bool false, .slice none 0 0] 40 (0, 0)) := by rw [hw_]; exact (Below.heap_setCell _ _ _ _ (by simp)).trans hx_.1
  have hk2_ : W_.heap[w.heap.size + 1 + 1]? = some (.cells #[.int .i64 0, .bool false, .slice A2_ n2_ c2_] 40 (0, 0)) := by rw [hw_]; exact blk_put hx_.2 2 _ rfl
  have hW := Aside0.mk hw_
  clear hx_ hq_ hw_
  have c10 := (blk_cell hk1_ 0).trans (show _ = some (.int .i64 0) from rfl)
  have c11 := (blk_cell hk1_ 1).trans (show _ = some (.bool false) from rfl)
  have c12 := (blk_cell hk1_ 2).trans (show _ = some (.slice none 0 0) from rfl)
  have c20 := (blk_cell hk2_ 0).trans (show _ = some (.int .i64 0) from rfl)
  have c21 := (blk_cell hk2_ 1).trans (show _ = some (.bool false) from rfl)
  have c22 := (blk_cell hk2_ 2).trans (show _ = some (.slice A2_ n2_ c2_) from rfl)
  have f10 := blk_frozen hk1_ 0
  have f11 := blk_frozen hk1_ 1
  have f12 := blk_frozen hk1_ 2
  have f20 := blk_frozen hk2_ 0
  have HK1 := Aside0.mk hk1_
  have HK2 := Aside0.mk hk2_
  clear hk1_ hk2_
  go_wp2
  refine bodyPost_ret (results_cell_row rfl _ _ (w.heap.size + 1) 40 #[.int .i64 0, .bool false, .slice A2_ n2_ c2_] (0, 0) _ rfl (by refine blk_put (cs := #[.int .i64 0, .bool false, .slice none 0 0]) ?_ 2 _ rfl; refine blk_put (cs := #[.int .i64 0, .bool false, .slice none 0 0]) ?_ 1 _ rfl; refine blk_put (cs := #[.int .i64 0, .bool false, .slice none 0 0]) ?_ 0 _ rfl; exact (Below.heap_setCell _ _ _ _ (by simp)).trans HK1.out) Tryz.underlying40 rfl (by kernel_rfl)) rfl ?_
  have ht_ : Turn (fun k => k = w.heap.size + 1 ∨ k = w.heap.size + 1 + 1) W2_ _ := ((((((Turn.refl _ W2_).set ⟨w.heap.size + 1 + 1, 2, none⟩ (.slice A2_ n2_ c2_) (.inr rfl)).set ⟨w.heap.size + 1 + 1, 0, none⟩ (.int .i64 0) (.inr rfl)).set ⟨w.heap.size + 1, 0, none⟩ (.int .i64 0) (.inl rfl)).set ⟨w.heap.size + 1, 1, none⟩ (.bool false) (.inl rfl)).set ⟨w.heap.size + 1, 2, none⟩ (.slice A2_ n2_ c2_) (.inl rfl))
  rw [← hW.out] at ht_
  exact AskN.told HA.out HS.out HQ.out ht_
set_option maxHeartbeats 8000000 in
set_option maxRecDepth 100000 in
theorem ask_imp_users {w : World} {v : Value} {max : Int} {Ef : ByteArray → Edges} {S : Nat → Prop} {b : Bool} (hmax : 0 ≤ max ∧ max ≤ 1000000) (h : Mgr K w v max Ef S b) (n1 n2 dom : ByteArray) (hE : EOk (Ef (kd b dom))) :
  Calls Tryz.prog 26 #[v, .bool b, .agg #[.int .i64 4, .string n1, .string n2, .string dom]] w fun e w' => ∃ v2 l, e = .returned (.agg #[.int .i64 0, .bool false, v2]) ∧ l.Perm (impl (usersE (Ef (kd b dom))) max.toNat n1) ∧ Kd.R Kd.string 9 w' w.heap.size (fun _ => True) v2 l ∧ MPost K w v max Ef S b w' := by
 obtain ⟨p, rfl⟩ := h.val
 have hna := fun n W => nil_ahead2 b p n W "GetImplicitUsers" (by simp)
 have HH := Aside0.mk h
 have HEO := Aside0.mk hE
 go_enter Tryz.func26, Tryz.ntmps26
 go_upto_region 13 with (fail)
 obtain ⟨W0, hW0⟩ : ∃ W0, W0 = ((w.alloc (Obj.cells #[.int .i64 4, .string n1, .string n2, .string dom] 44)).alloc (Obj.cells #[.int .i64 0, .bool false, .slice none 0 0] 40)).alloc (Obj.cells #[.int .i64 0, .bool false, .slice none 0 0] 40) := ⟨_, rfl⟩
 rw [← hW0]
 have HA := Aside0.mk (ask_start hW0)
 have HM := Aside0.mk (h.below HA.out.b)
 have HC := Aside0.mk HA.out.c
 have HS := Aside0.mk h.slt
 obtain ⟨QV, hQV⟩ : ∃ QV : Value → World → Prop, QV = AskN K W0 (.iface (MT b) (PT p)) max Ef S b (impl (usersE (Ef (kd b dom))) max.toNat n1) := ⟨_, rfl⟩
 have HQV := Aside0.mk hQV
 clear hW0 h hQV hE
 refine at_mkN (n := 120) (d := _) rfl rfl ?_
 refine region_mix2 (by kernel_rfl) [(0, 84), (1, 85), (2, 86), (3, 87), (4, 88), (5, 89), (7, 91), (8, 92), (9, 93), (13, 96)] [6, 10, 11, 12, 14, 15] (fun k_ => match k_ with | 0 => some 90 | 1 => some 94 | 2 => some 83 | 3 => some 95 | 4 => some 97 | 5 => none | _ => none) (fun k_ => match k_ with | 0 => (.iface (MT b) (PT p)) | 1 => (.pointer (some ⟨w.heap.size, 1, none⟩)) | 2 => (.string n1) | 3 => (.bool b) | 4 => (.pointer (some ⟨w.heap.size, 3, none⟩)) | 5 => (.string dom) | 7 => (.func (.method "GetImplicitUsers") #[(.iface (MT b) (PT p))] #[]) | 8 => (.func (.method "GetImplicitUsers") #[(.iface (MT b) (PT p))] #[]) | 9 => (.iface (MT b) (PT p)) | 13 => .nilIface | _ => undef) (fun i_ s_ W_ => match i_ with | 0 => W_ = W0.drew | 1 => DV b dom W_ (s_ 90) ∧ Below W0.heap.size W0 W_ | 2 => ∃ v2_, s_ 94 = .tuple #[v2_, .nilIface] ∧ QV v2_ W_ | 3 => ∃ v2_, s_ 83 = .tuple #[v2_, .nilIface] ∧ QV v2_ W_ | 4 => ∃ v2_, s_ 83 = .tuple #[v2_, .nilIface] ∧ s_ 95 = v2_ ∧ QV v2_ W_ | 5 => ∃ v2_, s_ 83 = .tuple #[v2_, .nilIface] ∧ s_ 95 = v2_ ∧ s_ 97 = (.pointer (some ⟨w.heap.size + 1 + 1, 2, none⟩)) ∧ QV v2_ W_ | _ => ∃ v2_ W2_, s_ 83 = .tuple #[v2_, .nilIface] ∧ QV v2_ W2_ ∧ W_ = W2_.setCell ⟨w.heap.size + 1 + 1, 2, none⟩ v2_) [[], [], [1], [], [], [4], [3, 5], [0], [7], [0, 7, 8], [9, 2, 6, 6], [10], [11], [11], [0, 1, 2, 3, 4, 5, 6, 7, 8, 9, 10, 11, 12], [14, 12, 10, 0, 1, 2, 3, 4, 5, 6, 7, 8, 9, 10, 11, 12], [13, 15, 0, 1, 2, 3, 4, 5, 6, 7, 8, 9, 10, 11, 12, 13, 14, 15]] (by kernel_rfl) (by decide) rfl (by decide) (by decide) (by decide) (by decide) (by decide) (by decide) (by decide) (by decide) (by decide) (by decide) (by decide) ?_ ?_ ?_ ?_ ?_
 ·intro i_ hi_ s_ W_ q_ hq_ hz_ hno_ hcb_ hg_ ho_
  rcases (show i_ = 0 ∨ i_ = 1 ∨ i_ = 2 ∨ i_ = 3 ∨ i_ = 4 ∨ i_ = 5 ∨ i_ = 6 ∨ i_ = 7 ∨ i_ = 8 ∨ i_ = 9 from by have : i_ < 10 := hi_; omega) with rfl | rfl | rfl | rfl | rfl | rfl | rfl | rfl | rfl | rfl
  ·refine ⟨_, rfl, rfl, fun _ => rfl, ?_⟩
   have g0_ : s_ 0 = _ := ho_ 0 (by decide) (by decide)
   clear hg_ ho_ hno_ hz_ hq_ hcb_
   first | (simp [execOp, mkN_eval, Result.andThen, *]; done) | (go_simp; simp [mkN_get, Result.andThen, *]; done)
  ·refine ⟨_, rfl, rfl, fun _ => rfl, ?_⟩
   have g5_ : s_ 5 = _ := ho_ 5 (by decide) (by decide)
   clear hg_ ho_ hno_ hz_ hq_ hcb_
   first | (simp [execOp, mkN_eval, Result.andThen, *]; done) | (go_simp; simp [mkN_get, Result.andThen, *]; done)
  ·refine ⟨_, rfl, rfl, fun _ => rfl, ?_⟩
   have g85_ : s_ 85 = (.pointer (some ⟨w.heap.size, 1, none⟩)) := hg_ 1 (by decide) (by decide)
   obtain hq3_ : q_ ≤ 1 := by rcases Nat.lt_or_ge 1 q_ with h | h; exact absurd (by decide) (hno_ 1 h); exact h
   have hbw_ : Below W0.heap.size W0 W_ := by
    rcases (show q_ = 0 ∨ q_ = 1 from by omega) with rfl | rfl
    ·exact (show W_ = _ from hz_) ▸ below_drew0 W0
    ·exact (show DV _ _ _ _ ∧ _ from hz_).2
   have hc_ := (HC.out W_ hbw_).1
   clear hbw_
   clear hg_ ho_ hno_ hz_ hq_ hcb_
   first | (simp [execOp, mkN_eval, Result.andThen, *]; done) | (go_simp; simp [mkN_get, Result.andThen, *]; done)
  ·refine ⟨_, rfl, rfl, fun _ => rfl, ?_⟩
   have g1_ : s_ 1 = _ := ho_ 1 (by decide) (by decide)
   clear hg_ ho_ hno_ hz_ hq_ hcb_
   first | (simp [execOp, mkN_eval, Result.andThen, *]; done) | (go_simp; simp [mkN_get, Result.andThen, *]; done)
  ·refine ⟨_, rfl, rfl, fun _ => rfl, ?_⟩
   have g5_ : s_ 5 = _ := ho_ 5 (by decide) (by decide)
   clear hg_ ho_ hno_ hz_ hq_ hcb_
   first | (simp [execOp, mkN_eval, Result.andThen, *]; done) | (go_simp; simp [mkN_get, Result.andThen, *]; done)
  ·refine ⟨_, rfl, rfl, fun _ => rfl, ?_⟩
   have g88_ : s_ 88 = (.pointer (some ⟨w.heap.size, 3, none⟩)) := hg_ 4 (by decide) (by decide)
   obtain hq3_ : q_ ≤ 0 := by rcases Nat.lt_or_ge 0 q_ with h | h; exact absurd (by decide) (hno_ 0 h); exact h
   have hbw_ : Below W0.heap.size W0 W_ := by
    rcases (show q_ = 0 from by omega) with rfl
    ·exact (show W_ = _ from hz_) ▸ below_drew0 W0
   have hc_ := (HC.out W_ hbw_).2.2
   clear hbw_
   clear hg_ ho_ hno_ hz_ hq_ hcb_
   first | (simp [execOp, mkN_eval, Result.andThen, *]; done) | (go_simp; simp [mkN_get, Result.andThen, *]; done)
  ·refine ⟨_, rfl, rfl, fun _ => rfl, ?_⟩
   have g84_ : s_ 84 = (.iface (MT b) (PT p)) := hg_ 0 (by decide) (by decide)
   clear hg_ ho_ hno_ hz_ hq_ hcb_
   first | (simp [execOp, mkN_eval, Result.andThen, *]; done) | (go_simp; simp [mkN_get, Result.andThen, *]; done)
  ·refine ⟨_, rfl, rfl, fun _ => rfl, ?_⟩
   have g91_ : s_ 91 = (.func (.method "GetImplicitUsers") #[(.iface (MT b) (PT p))] #[]) := hg_ 6 (by decide) (by decide)
   clear hg_ ho_ hno_ hz_ hq_ hcb_
   first | (simp [execOp, mkN_eval, Result.andThen, *]; done) | (go_simp; simp [mkN_get, Result.andThen, *]; done)
  ·refine ⟨_, rfl, rfl, fun _ => rfl, ?_⟩
   have g84_ : s_ 84 = (.iface (MT b) (PT p)) := hg_ 0 (by decide) (by decide)
   clear hg_ ho_ hno_ hz_ hq_ hcb_
   first | (simp [execOp, mkN_eval, Result.andThen, *]; done) | (go_simp; simp [mkN_get, Result.andThen, *]; done)
  ·refine ⟨_, rfl, rfl, fun _ => rfl, ?_⟩
   have hq3_ : 2 < q_ := hcb_ 2 (by decide) (by decide)
   have gt_ : ∃ v2_, s_ 83 = .tuple #[v2_, .nilIface] := by
    rcases (show q_ = 3 ∨ q_ = 4 ∨ q_ = 5 ∨ q_ = 6 from by have : q_ ≤ 6 := hq_; omega) with rfl | rfl | rfl | rfl
    ·obtain ⟨v, h, _⟩ := (show ∃ v2_, _ ∧ _ from hz_); exact ⟨v, h⟩
    ·obtain ⟨v, h, _⟩ := (show ∃ v2_, _ ∧ _ from hz_); exact ⟨v, h⟩
    ·obtain ⟨v, h, _⟩ := (show ∃ v2_, _ ∧ _ from hz_); exact ⟨v, h⟩
    ·obtain ⟨v, W2, h, _⟩ := (show ∃ v2_ W2_, _ ∧ _ from hz_); exact ⟨v, h⟩
   obtain ⟨v2_, gt_⟩ := gt_
   clear hq3_
   clear hg_ ho_ hno_ hz_ hq_ hcb_
   first | (simp [execOp, mkN_eval, Result.andThen, *]; done) | (go_simp; simp [mkN_get, Result.andThen, *]; done)
 ·exact rfl
 ·intro q_ s_ x_ v_ W_ hx_ hZ_
  have e90_ : updN s_ x_ v_ 90 = s_ 90 := updN_ne (fun e => by subst e; exact absurd hx_ (by decide))
  have e94_ : updN s_ x_ v_ 94 = s_ 94 := updN_ne (fun e => by subst e; exact absurd hx_ (by decide))
  have e83_ : updN s_ x_ v_ 83 = s_ 83 := updN_ne (fun e => by subst e; exact absurd hx_ (by decide))
  have e95_ : updN s_ x_ v_ 95 = s_ 95 := updN_ne (fun e => by subst e; exact absurd hx_ (by decide))
  have e97_ : updN s_ x_ v_ 97 = s_ 97 := updN_ne (fun e => by subst e; exact absurd hx_ (by decide))
  clear hx_
  rcases (show q_ = 0 ∨ q_ = 1 ∨ q_ = 2 ∨ q_ = 3 ∨ q_ = 4 ∨ q_ = 5 ∨ ∃ z_, q_ = z_ + 6 from by by_cases h : 6 ≤ q_; exact .inr (.inr (.inr (.inr (.inr (.inr (⟨q_ - 6, by omega⟩)))))); omega) with rfl | rfl | rfl | rfl | rfl | rfl | ⟨z_, rfl⟩
  ·exact hZ_
  ·simpa only [e90_, e94_, e83_, e95_, e97_] using hZ_
  ·simpa only [e90_, e94_, e83_, e95_, e97_] using hZ_
  ·simpa only [e90_, e94_, e83_, e95_, e97_] using hZ_
  ·simpa only [e90_, e94_, e83_, e95_, e97_] using hZ_
  ·simpa only [e90_, e94_, e83_, e95_, e97_] using hZ_
  ·simpa only [e90_, e94_, e83_, e95_, e97_] using hZ_
 ·intro i_ hi_ s_ W_ hg_ ho_ hZ_ K_ hK_
  rcases (show i_ = 0 ∨ i_ = 1 ∨ i_ = 2 ∨ i_ = 3 ∨ i_ = 4 ∨ i_ = 5 from by have : i_ < 6 := hi_; omega) with rfl | rfl | rfl | rfl | rfl | rfl
  ·have g87_ : s_ 87 = (.bool b) := hg_ 3 (by decide) (by decide)
   have g89_ : s_ 89 = (.string dom) := hg_ 5 (by decide) (by decide)
   obtain rfl : W_ = W0.drew := hZ_
   clear hg_ ho_
   refine wpOp_step rfl (fun K' hK => ?_)
   go_simp
   try simp [mkN_get, g87_, g89_]
   go_wp2_with (go_at_call 35; refine (impl_within b dom _).mono ?_; rintro e w3 ⟨dv, rfl, hdv, hb3⟩)
   show K_ ((mkN 120 _ s_).put (some 90) dv) w3
   rw [mkN_put _ _ _ (by decide)]
   exact hK_ _ _ ⟨by rw [updN_self]; exact hdv, (below_drew0 W0).trans hb3⟩ (fun j hj => updN_ne (fun e => hj (by subst e; rfl)))
  ·have g93_ : s_ 93 = (.iface (MT b) (PT p)) := hg_ 8 (by decide) (by decide)
   have g86_ : s_ 86 = (.string n1) := hg_ 2 (by decide) (by decide)
   obtain ⟨hdv_, hb_⟩ := (show DV _ _ _ _ ∧ _ from hZ_)
   clear hg_ ho_
   have hm_ := HM.out.below hb_
   refine wpOp_step rfl (fun K' hK => ?_)
   go_simp
   simp [mkN_get, g93_, g86_]
   cases b
   ·go_invoke
    go_wp2_with (go_at_call 102; refine (mgru_imp_users false hmax hm_ n1 dom HEO.out hdv_).mono ?_; rintro e w3 ⟨v3, l3, rfl, hl3, hr3, hp_⟩)
    show K_ ((mkN 120 _ s_).put (some 94) (.tuple #[v3, .nilIface])) w3
    rw [mkN_put _ _ _ (by decide)]
    exact hK_ _ _ ⟨_, updN_self _ _ _, (show QV _ _ by rw [HQV.out]; exact ⟨l3, hl3, Kd.R_lower hr3 hb_.size, hp_.since hb_⟩)⟩ (fun j hj => updN_ne (fun e => hj (by subst e; rfl)))
   ·go_invoke
    go_wp2_with (go_at_call 157; refine (mgru_imp_users true hmax hm_ n1 dom HEO.out hdv_).mono ?_; rintro e w3 ⟨v3, l3, rfl, hl3, hr3, hp_⟩)
    show K_ ((mkN 120 _ s_).put (some 94) (.tuple #[v3, .nilIface])) w3
    rw [mkN_put _ _ _ (by decide)]
    exact hK_ _ _ ⟨_, updN_self _ _ _, (show QV _ _ by rw [HQV.out]; exact ⟨l3, hl3, Kd.R_lower hr3 hb_.size, hp_.since hb_⟩)⟩ (fun j hj => updN_ne (fun e => hj (by subst e; rfl)))
  ·skip
   obtain ⟨v2_, gt_, hq_⟩ := (show ∃ v2_, _ ∧ _ from hZ_)
   clear hg_ ho_
   refine wpOp_step rfl (fun K' hK => ?_)
   go_simp
   simp [mkN_get, gt_]
   refine hK _ _ ?_
   show K_ ((mkN 120 _ s_).put (some 83) (.tuple #[v2_, .nilIface])) W_
   rw [mkN_put _ _ _ (by decide)]
   exact hK_ _ _ ⟨_, updN_self _ _ _, hq_⟩ (fun j hj => updN_ne (fun e => hj (by subst e; rfl)))
  ·skip
   obtain ⟨v2_, gt_, hq_⟩ := (show ∃ v2_, _ ∧ _ from hZ_)
   clear hg_ ho_
   refine wpOp_step rfl (fun K' hK => ?_)
   go_simp
   simp [mkN_get, gt_]
   refine hK _ _ ?_
   show K_ ((mkN 120 _ s_).put (some 95) v2_) W_
   rw [mkN_put _ _ _ (by decide)]
   exact hK_ _ _ ⟨_, (updN_ne (by decide)).trans gt_, updN_self _ _ _, hq_⟩ (fun j hj => updN_ne (fun e => hj (by subst e; rfl)))
  ·have g7_ : s_ 7 = _ := ho_ 7 (by decide) (by decide)
   obtain ⟨v2_, gt_, ge_, hq_⟩ := (show ∃ v2_, _ ∧ _ ∧ _ from hZ_)
   have g7_ : s_ 7 = (.pointer (some ⟨w.heap.size + 1 + 1, 0, none⟩)) := ho_ 7 (by decide) (by decide)
   clear hg_ ho_
   refine wpOp_step rfl (fun K' hK => ?_)
   go_simp
   simp [mkN_get, g7_]
   refine hK _ _ ?_
   show K_ ((mkN 120 _ s_).put (some 97) (.pointer (some ⟨w.heap.size + 1 + 1, 2, none⟩))) W_
   rw [mkN_put _ _ _ (by decide)]
   exact hK_ _ _ ⟨_, (updN_ne (by decide)).trans gt_, (updN_ne (by decide)).trans ge_, updN_self _ _ _, hq_⟩ (fun j hj => updN_ne (fun e => hj (by subst e; rfl)))
  ·skip
   obtain ⟨v2_, gt_, ge_, gf_, hq_⟩ := (show ∃ v2_, _ ∧ _ ∧ _ ∧ _ from hZ_)
   clear hg_ ho_
   have hx_ := (ask_own HA.out HS.out (show MPost _ _ _ _ _ _ _ _ by rw [HQV.out] at hq_; exact hq_.post)).2
   have hc_ := (blk_cell hx_ 2).trans (show _ = some (.slice none 0 0) from rfl)
   have hf_ := blk_frozen hx_ 2
   clear hx_
   obtain ⟨A2_, n2_, c2_, e2_⟩ := (show AskN _ _ _ _ _ _ _ _ _ _ by rw [HQV.out] at hq_; exact hq_).slice
   subst e2_
   refine wpOp_step rfl (fun K' hK => ?_)
   go_simp
   simp [mkN_get, ge_, gf_, run_store1s hc_ hf_ A2_ n2_ c2_]
   refine hK _ _ ?_
   exact hK_ _ _ ⟨_, _, gt_, hq_, rfl⟩ (fun j hj => rfl)
 ·intro s_ W_ hZ_ hv_ ho_
  obtain ⟨v2_, W2_, gt_, hq_, hw_⟩ := (show ∃ v2_ W2_, _ ∧ _ ∧ _ from hZ_)
  have ge1_ : s_ 96 = .nilIface := hv_ 9 (by decide)
  have e6_ : s_ 6 = (.pointer (some ⟨w.heap.size + 1, 0, none⟩)) := ho_ 6 (by decide) (by decide)
  have e7_ : s_ 7 = (.pointer (some ⟨w.heap.size + 1 + 1, 0, none⟩)) := ho_ 7 (by decide) (by decide)
  refine YieldsIf.wpOp (S := fun x => x = W_) (v := .nilIface) rfl (Or.inl ⟨rfl, fun x hx => by simp [execOp, mkN_eval, ge1_]⟩) rfl ?_
  show Exit.inBlock _ _ .normal ((mkN 120 _ s_).put (some 8) _) W_
  rw [mkN_put _ _ _ (by decide), mk120_lit, updN_self, updN_ne (show 6 ≠ 8 by decide), updN_ne (show 7 ≠ 8 by decide), e6_, e7_]
  clear hv_ ho_ hZ_ e6_ e7_ ge1_ gt_ HC HM hna
  generalize updN s_ 8 _ = t_
  rw [HQV.out] at hq_
  have hx_ := ask_own HA.out HS.out hq_.post
  obtain ⟨A2_, n2_, c2_, rfl⟩ := hq_.slice
  have HQ := Aside0.mk hq_
  have hk1_ : W_.heap[w.heap.size + 1]? = some (.cells #[.int .i64 0, .bool false, .slice none 0 0] 40 (0, 0)) := by rw [hw_]; exact (Below.heap_setCell _ _ _ _ (by simp)).trans hx_.1
  have hk2_ : W_.heap[w.heap.size + 1 + 1]? = some (.cells #[.int .i64 0, .bool false, .slice A2_ n2_ c2_] 40 (0, 0)) := by rw [hw_]; exact blk_put hx_.2 2 _ rfl
  have hW := Aside0.mk hw_
  clear hx_ hq_ hw_
  have c10 := (blk_cell hk1_ 0).trans (show _ = some (.int .i64 0) from rfl)
  have c11 := (blk_cell hk1_ 1).trans (show _ = some (.bool false) from rfl)
  have c12 := (blk_cell hk1_ 2).trans (show _ = some (.slice none 0 0) from rfl)
  have c20 := (blk_cell hk2_ 0).trans (show _ = some (.int .i64 0) from rfl)
  have c21 := (blk_cell hk2_ 1).trans (show _ = some (.bool false) from rfl)
  have c22 := (blk_cell hk2_ 2).trans (show _ = some (.slice A2_ n2_ c2_) from rfl)
  have f10 := blk_frozen hk1_ 0
  have f11 := blk_frozen hk1_ 1
  have f12 := blk_frozen hk1_ 2
  have f20 := blk_frozen hk2_ 0
  have HK1 := Aside0.mk hk1_
  have HK2 := Aside0.mk hk2_
  clear hk1_ hk2_
  go_wp2
  refine bodyPost_ret (results_cell_row rfl _ _ (w.heap.size + 1) 40 #[.int .i64 0, .bool false, .slice A2_ n2_ c2_] (0, 0) _ rfl (by refine blk_put (cs := #[.int .i64 0, .bool false, .slice none 0 0]) ?_ 2 _ rfl; refine blk_put (cs := #[.int .i64 0, .bool false, .slice none 0 0]) ?_ 1 _ rfl; refine blk_put (cs := #[.int .i64 0, .bool false, .slice none 0 0]) ?_ 0 _ rfl; exact (Below.heap_setCell _ _ _ _ (by simp)).trans HK1.out) Tryz.underlying40 rfl (by kernel_rfl)) rfl ?_
  have ht_ : Turn (fun k => k = w.heap.size + 1 ∨ k = w.heap.size + 1 + 1) W2_ _ := ((((((Turn.refl _ W2_).set ⟨w.heap.size + 1 + 1, 2, none⟩ (.slice A2_ n2_ c2_) (.inr rfl)).set ⟨w.heap.size + 1 + 1, 0, none⟩ (.int .i64 0) (.inr rfl)).set ⟨w.heap.size + 1, 0, none⟩ (.int .i64 0) (.inl rfl)).set ⟨w.heap.size + 1, 1, none⟩ (.bool false) (.inl rfl)).set ⟨w.heap.size + 1, 2, none⟩ (.slice A2_ n2_ c2_) (.inl rfl))
  rw [← hW.out] at ht_
  exact AskN.told HA.out HS.out HQ.out ht_
end
/-! impl.roleAsk: the domains of a name. -/
section
open Go.Proofs
variable {K : List ByteArray}
set_option maxRecDepth 100000 in
theorem one_nil (w : World) : Calls Tryz.prog 24 #[.nilIface] w fun e w' => e = .returned (.int .i64 0) ∧ w = w' := by
 go_enter Tryz.func24, Tryz.ntmps24
 go_wp2
 go_ret
 exact ⟨rfl, rfl⟩
set_option maxHeartbeats 8000000 in
set_option maxRecDepth 100000 in
theorem ask_doms {w : World} {v : Value} {max : Int} {Ef : ByteArray → Edges} {S : Nat → Prop} (h : Mgr K w v max Ef S true) (n1 n2 dom : ByteArray) (hE : ∀ k, EOk (Ef k)) (hK : K.length ≤ 1000000) :
  Calls Tryz.prog 26 #[v, .bool true, .agg #[.int .i64 5, .string n1, .string n2, .string dom]] w fun e w' => ∃ v2 l, e = .returned (.agg #[.int .i64 0, .bool false, v2]) ∧ l.Perm (K.filter fun k => occ (Ef k) n1) ∧ Kd.R Kd.string 9 w' w.heap.size (fun _ => True) v2 l ∧ MPost K w v max Ef S true w' := by
 obtain ⟨p, rfl⟩ := h.val
 have hna := fun n W => nil_ahead2 true p n W "GetDomains" (by simp)
 have HEO := Aside0.mk hE
 have HKO := Aside0.mk hK
 go_enter Tryz.func26, Tryz.ntmps26
 go_upto_region 15 with (fail)
 obtain ⟨W0, hW0⟩ : ∃ W0, W0 = ((w.alloc (Obj.cells #[.int .i64 5, .string n1, .string n2, .string dom] 44)).alloc (Obj.cells #[.int .i64 0, .bool false, .slice none 0 0] 40)).alloc (Obj.cells #[.int .i64 0, .bool false, .slice none 0 0] 40) := ⟨_, rfl⟩
 rw [← hW0]
 have HA := Aside0.mk (ask_start hW0)
 have HM := Aside0.mk (h.below HA.out.b)
 have hc0 := (HA.out.c W0 (Below.refl _ _)).1
 have HS := Aside0.mk h.slt
 clear hW0 h hE hK
 go_wp2_with (first
  | (go_at_call 155; refine (mgru_doms HM.out n1 HEO.out HKO.out).mono ?_; rintro e w3 ⟨v3, l3, rfl, hl3, hr3, hp_⟩; obtain ⟨A2_, c2_, e3_⟩ := Kd.R_slice hr3; subst e3_; have hx_ := ask_own HA.out HS.out hp_; have hc_ := (blk_cell hx_.2 2).trans (show _ = some (.slice none 0 0) from rfl); have hf_ := blk_frozen hx_.2 2; have hst := run_store1s hc_ hf_ A2_ l3.length c2_; have HQ := Aside0.mk (show AskN K W0 (.iface (MT true) (PT p)) max Ef S true (K.filter fun k => occ (Ef k) n1) (.slice A2_ l3.length c2_) w3 from ⟨l3, hl3, hr3, hp_⟩); have HX := Aside0.mk hx_; clear hl3 hr3 hp_ hx_)
  | (go_at_call 24; refine (one_nil _).mono ?_; rintro e w4 ⟨rfl, hw_⟩; have hk1_ : w4.heap[w.heap.size + 1]? = some (.cells #[.int .i64 0, .bool false, .slice none 0 0] 40 (0, 0)) := (by rw [← hw_]; exact (Below.heap_setCell _ _ _ _ (by simp)).trans HX.out.1); have hk2_ : w4.heap[w.heap.size + 1 + 1]? = some (.cells #[.int .i64 0, .bool false, .slice A2_ l3.length c2_] 40 (0, 0)) := (by rw [← hw_]; exact blk_put HX.out.2 2 _ rfl); have hW := Aside0.mk hw_.symm; clear hw_ hst hc_ hf_; have c10 := (blk_cell hk1_ 0).trans (show _ = some (.int .i64 0) from rfl); have c11 := (blk_cell hk1_ 1).trans (show _ = some (.bool false) from rfl); have c12 := (blk_cell hk1_ 2).trans (show _ = some (.slice none 0 0) from rfl); have c20 := (blk_cell hk2_ 0).trans (show _ = some (.int .i64 0) from rfl); have c21 := (blk_cell hk2_ 1).trans (show _ = some (.bool false) from rfl); have c22 := (blk_cell hk2_ 2).trans (show _ = some (.slice A2_ l3.length c2_) from rfl); have f10 := blk_frozen hk1_ 0; have f11 := blk_frozen hk1_ 1; have f12 := blk_frozen hk1_ 2; have f20 := blk_frozen hk2_ 0; have HK1 := Aside0.mk hk1_; have HK2 := Aside0.mk hk2_; clear hk1_ hk2_))
 refine bodyPost_ret (results_cell_row rfl _ _ (w.heap.size + 1) 40 #[.int .i64 0, .bool false, .slice A2_ l3.length c2_] (0, 0) _ rfl (by refine blk_put (cs := #[.int .i64 0, .bool false, .slice none 0 0]) ?_ 2 _ rfl; refine blk_put (cs := #[.int .i64 0, .bool false, .slice none 0 0]) ?_ 1 _ rfl; refine blk_put (cs := #[.int .i64 0, .bool false, .slice none 0 0]) ?_ 0 _ rfl; exact (Below.heap_setCell _ _ _ _ (by simp)).trans HK1.out) Tryz.underlying40 rfl (by kernel_rfl)) rfl ?_
 have ht_ : Turn (fun k => k = w.heap.size + 1 ∨ k = w.heap.size + 1 + 1) w3 _ := ((((((Turn.refl _ w3).set ⟨w.heap.size + 1 + 1, 2, none⟩ (.slice A2_ l3.length c2_) (.inr rfl)).set ⟨w.heap.size + 1 + 1, 0, none⟩ (.int .i64 0) (.inr rfl)).set ⟨w.heap.size + 1, 0, none⟩ (.int .i64 0) (.inl rfl)).set ⟨w.heap.size + 1, 1, none⟩ (.bool false) (.inl rfl)).set ⟨w.heap.size + 1, 2, none⟩ (.slice A2_ l3.length c2_) (.inl rfl))
 rw [← hW.out] at ht_
 exact AskN.told HA.out HS.out HQ.out ht_
end

end Go.Proofs.YtjijaciaioieaaaGreat.PFnRolesOrder
