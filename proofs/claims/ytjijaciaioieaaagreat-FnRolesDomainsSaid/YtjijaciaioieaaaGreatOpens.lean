/- How an argument that reads as data is met: strings, whole numbers, truth values, and slices of these or of such slices. Each theorem says its own conditions. -/
import Derived.Test.YtjijaciaioieaaaGreatOWords
import Derived.ChangeArms
import Derived.ChangeSame
import Derived.Deep.Slices
set_option linter.unusedSimpArgs false
set_option linter.unusedVariables false
namespace Go.Proofs.YtjijaciaioieaaaGreat.Opens
open Go.RowKit Go.Proofs.YtjijaciaioieaaaGreatW.PrintWords Go.ChangeShapes Go.WideShapes Go.Deep

/-- what reads as data of type e is of kind d, and has Q -/
def Opens {α : Type} (P : Program) (d : Kd α) (e : TypeId) (Q : α → Prop) : Prop :=
  ∀ {H : Type} {enc : TypeId × Value → H} {w : World} {base : Nat} {spare : Nat → Bool} {held : Bool} {n : Nat} {cs : List Value} {x : DataW H × List MemPlace},
    DataW.trod enc P w base spare held n e cs = some x → ∃ v, d.K w v cs ∧ Q v

variable {P : Program} {α β : Type}
theorem opens_string {e : TypeId} (he : P.underlying e = some .string) : Opens P Kd.string e (fun s => s.size ≤ maxLen) := by
  intro H enc w base spare held n cs x h
  obtain ⟨s, rfl, _, hs⟩ := DataW.trod_string he h
  exact ⟨s, rfl, hs⟩
theorem opens_bool {e : TypeId} (he : P.underlying e = some .bool) : Opens P Kd.bool e (fun _ => True) := by
  intro H enc w base spare held n cs x h
  obtain ⟨s, rfl, _⟩ := DataW.trod_bool he h
  exact ⟨s, rfl, trivial⟩
theorem opens_int {e : TypeId} {k : IntKind} (he : P.underlying e = some (.int k)) : Opens P (Kd.int k) e (fun m => (Lit.int k m).wf = true) := by
  intro H enc w base spare held n cs x h
  obtain ⟨s, rfl, _, hs⟩ := DataW.trod_int he h
  exact ⟨s, rfl, hs⟩
theorem opens_slice {d : Kd α} {Q : α → Prop} {t e : TypeId} (ht : P.underlying t = some (.slice e)) (hc : P.cellsOf e = d.sz) (O : Opens P d e Q) : Opens P (Kd.slice e d) t (fun l => l.length ≤ 9223372036854775807 ∧ ∀ v ∈ l, Q v) := by
  intro H enc w base spare held n cs x h
  rcases open_slice ht h with ⟨rfl, _⟩ | ⟨a, len, cap, m, n', D, Pl, rfl, hb, hl, hm, hmm, _, hx⟩
  · refine ⟨[], ⟨none, 0, rfl, Nat.le_refl _, rfl, by simp, fun h => absurd h (by simp)⟩, by simp, fun v hv => by simp at hv⟩
  · have hlm : len ≤ m := by rw [hmm]; split <;> omega
    have key : ∀ j, j ≤ len → ∃ l : List α, l.length = j ∧ (∀ v ∈ l, Q v) ∧ ∀ i v, l[i]? = some v → ∃ c, c.length = d.sz ∧ d.K w v c ∧ ∀ q u, c[q]? = some u → w.cell? (a.add (i * d.sz + q)) = some u := by
      intro j
      induction j with
      | zero => exact fun _ => ⟨[], rfl, fun v hv => by simp at hv, fun i v hv => by simp at hv⟩
      | succ j ih =>
        intro hj
        obtain ⟨l, hl1, hQ, hl2⟩ := ih (by omega)
        obtain ⟨cs', h1, h2⟩ := hx j (by omega)
        obtain ⟨v, hv, hq⟩ := O h2
        refine ⟨l ++ [v], by simp [hl1], fun u hu => ?_, fun i u hu => ?_⟩
        · rcases List.mem_append.1 hu with hu | hu
          · exact hQ u hu
          · rw [List.mem_singleton.1 hu]; exact hq
        · by_cases hi : i < l.length
          · rw [List.getElem?_append_left hi] at hu
            exact hl2 i u hu
          · have hij : i = j := by
              have := (List.getElem?_eq_some_iff.1 hu).1
              simp at this
              omega
            subst hij
            rw [← hl1, List.getElem?_append_right (Nat.le_refl _)] at hu
            simp at hu
            subst hu
            refine ⟨cs', d.K_len hv, hv, fun q u hq' => ?_⟩
            rw [hc] at h1
            obtain ⟨_, hlen, hcell⟩ := World.cells?_some h1
            rw [← Addr.add_add]
            exact (hcell q (by rw [← hlen]; exact (List.getElem?_eq_some_iff.1 hq').1)).trans hq'
    obtain ⟨l, hl1, hQ, hl2⟩ := key len (Nat.le_refl _)
    refine ⟨l, ⟨some a, cap, by rw [hl1], by omega, rfl, ?_, fun _ => ⟨a, rfl, hl2⟩⟩, ?_, hQ⟩
    all_goals (unfold maxLen at hm; omega)
/-- an argument that is a slice -/
theorem Opens.arg {d : Kd α} {Q : α → Prop} {t e : TypeId} (O : Opens P (Kd.slice e d) t (fun l => l.length ≤ 9223372036854775807 ∧ ∀ v ∈ l, Q v)) {H : Type} {enc : TypeId × Value → H} {w : World} {base : Nat} {spare : Nat → Bool} {held : Bool}
    {a : Option Addr} {len cap : Nat} {x : DataW H} {ps : List MemPlace} (h : DataW.Trod enc P w base spare held t (.slice a len cap) x ps) :
    ∃ xs : List α, len = xs.length ∧ xs.length ≤ cap ∧ d.C w a xs.length xs ∧ ∀ v ∈ xs, Q v := by
  obtain ⟨fuel, hf⟩ := h
  obtain ⟨xs, ⟨A, c, hcs, hl, hC⟩, hQ⟩ := O hf
  simp [Value.cells] at hcs
  obtain ⟨rfl, rfl, rfl⟩ := hcs
  exact ⟨xs, rfl, hl, hC, hQ.2⟩
theorem Drawn0.below {w w' : World} (h : Drawn0 w w') : Below w.heap.size w w' := by
  obtain ⟨n, rfl⟩ := h
  exact pw_below_drewN (Below.refl _ _) n
end Go.Proofs.YtjijaciaioieaaaGreat.Opens
