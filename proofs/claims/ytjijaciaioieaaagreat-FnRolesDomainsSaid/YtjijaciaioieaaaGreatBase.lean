/- Plain lemmas: byte strings as lists of bytes, and how a number of rounds is met. No condition beyond what each line says. -/
import Derived.Test.YtjijaciaioieaaaGreatOWords
set_option linter.unusedSimpArgs false
set_option linter.unusedVariables false
namespace Go.Proofs.YtjijaciaioieaaaGreat.Base
open Go.RowKit Go.Proofs.YtjijaciaioieaaaGreatW.PrintWords

/-- the byte string of a list -/
def B (l : List UInt8) : ByteArray := ⟨l.toArray⟩
theorem B_data (s : ByteArray) : B s.data.toList = s := by cases s; simp [B]
theorem data_B (l : List UInt8) : (B l).data.toList = l := by simp [B]
theorem exists_B (s : ByteArray) : ∃ l, s = B l := ⟨s.data.toList, (B_data s).symm⟩
theorem B_size (l : List UInt8) : (B l).size = l.length := by show (l.toArray).size = _; simp
theorem B_toList (l : List UInt8) : (B l).toList = l := by rw [ByteArray.toList_eq, data_B]
theorem B_inj {l m : List UInt8} (h : B l = B m) : l = m := by rw [← data_B l, h, data_B]
theorem B_app (l m : List UInt8) : B l ++ B m = B (l ++ m) := by
  apply WideShapes.bytes_inj
  simp [ByteArray.data_append, data_B, B]
theorem B_ext (l : List UInt8) (a b : Nat) : (B l).extract a b = B ((l.drop a).take (b - a)) := by
  apply WideShapes.bytes_inj
  simp [ByteArray.data_extract, B, List.take_drop]
theorem B_bt (l : List UInt8) (i : Int) : bt (B l) i = ((l.getD i.toNat 0).toNat : Int) := by
  unfold bt
  by_cases h : i.toNat < l.length
  · have h' : i.toNat < (B l).size := by rw [B_size]; exact h
    rw [dif_pos h']
    have e : (B l)[i.toNat]'h' = l.getD i.toNat 0 := by
      show (l.toArray)[i.toNat]'(by simpa using h) = _
      rw [List.getElem_toArray]
      simp [List.getD, h]
    rw [e]
  · rw [dif_neg (by rw [B_size]; exact h)]
    simp [List.getD, List.getElem?_eq_none (Nat.le_of_not_lt h)]
theorem B_nil : (⟨#[]⟩ : ByteArray) = B [] := rfl
theorem B_empty : ByteArray.empty = B [] := rfl

/-- a byte in the middle -/
theorem bt_mid (p q : List UInt8) (c : UInt8) (i : Int) (h : i = (p.length : Int)) : bt (B (p ++ c :: q)) i = (c.toNat : Int) := by
  subst h
  rw [B_bt]; simp [List.getD]
theorem ext_mid (p q : List UInt8) (c : UInt8) (a b : Nat) (ha : a = p.length) (hb : b = p.length + 1) : (B (p ++ c :: q)).extract a b = B [c] := by
  subst ha; subst hb
  rw [B_ext]; simp
theorem byte_eq (c : UInt8) (n : Nat) (hn : n < 256) : (c.toNat : Int) = (n : Int) ↔ c = n.toUInt8 := by
  constructor
  · intro h
    have h : c.toNat = n := by omega
    subst h
    simp
  · rintro rfl
    simp; omega
theorem byte_inj {c d : UInt8} (h : (c.toNat : Int) = (d.toNat : Int)) : c = d := UInt8.toNat_inj.1 (by omega)

theorem toList_iff (a b : ByteArray) : a.toList = b.toList ↔ a = b := by
  constructor
  · intro h
    rw [ByteArray.toList_eq, ByteArray.toList_eq] at h
    exact WideShapes.bytes_inj h
  · rintro rfl; rfl
theorem rdOf_mid {α : Type} (d : α) (p q : List α) (c : α) (i : Int) (h : i = (p.length : Int)) : rdOf d (p ++ c :: q) i = c := by
  subst h
  simp [rdOf, List.getD]
theorem rd_mid (p q : List Int) (c : Int) (i : Int) (h : i = (p.length : Int)) : rd (p ++ c :: q) i = c := by
  subst h
  simp [rd, List.getD]
theorem getD_mid {α : Type} (d : α) (p q : List α) (c : α) (i : Int) (h : i = (p.length : Int)) : (p ++ c :: q).getD i.toNat d = c := by
  subst h
  simp [List.getD]
theorem set_mid {α : Type} (p q : List α) (c x : α) (i : Int) (h : i = (p.length : Int)) : (p ++ c :: q).set i.toNat x = p ++ x :: q := by
  subst h
  simp

theorem w64 {x : Int} (h0 : -9223372036854775808 ≤ x) (h1 : x ≤ 9223372036854775807) : wrap64 x = x := by
  unfold wrap64
  omega

section
variable {α : Type} {r : α}
theorem Ev.pos {c : Prop} [Decidable c] {f g : Nat → Option α} (h : c) (k : Ev f r) : Ev (fun n => if c then f n else g n) r := by
  simp only [if_pos h]; exact k
theorem Ev.neg {c : Prop} [Decidable c] {f g : Nat → Option α} (h : ¬ c) (k : Ev g r) : Ev (fun n => if c then f n else g n) r := by
  simp only [if_neg h]; exact k
theorem Ev.const {o : Option α} (h : o = some r) : Ev (fun _ => o) r := ⟨0, fun _ _ => h⟩
theorem Ev.at {g : Nat → Option α} (h : ∀ k, g k = some r) : Ev g r := ⟨0, fun k _ => h k⟩
theorem Ev.eqr {g : Nat → Option α} {r' : α} (e : r = r') (h : Ev g r) : Ev g r' := e ▸ h
end
end Go.Proofs.YtjijaciaioieaaaGreat.Base
