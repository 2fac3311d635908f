import Derived.Test.Qxb6602662aDoorHun
import Derived.Laws.IdiomStrings
namespace Go.Proofs.Qxb6602662aDoor.Wk
open Go.ChangeShapes Go.WideShapes Go.ChangeAt Go.RowKit
set_option linter.unusedVariables false

theorem nil_full (w : World) : Full w (.slice none 0 0) 0 [] := ⟨rfl, .inl ⟨rfl, rfl⟩⟩

theorem own_byte {w : World} {B g n c : Nat} {l : List UInt8} (h : w.ownsRow B 5 1 (.slice (some ⟨g, 0, none⟩) n c) n (Lib.byteCells l)) (j : Nat) (hj : j < l.length) :
    w.cell? ⟨g, j, none⟩ = some (.int .u8 (l[j].toNat : Int)) := by
  have hl : l.length = n := by have := h.1; rw [Lib.byteCells_length] at this; omega
  rw [h.cellAt j (by omega)]
  simp [Lib.byteCells, hj]

/-- The whole part as a string: its size, its digits, its value, its first digit. -/
structure IsWhole (s : ByteArray) (L q : Nat) : Prop where
  size : s.size = L
  pos : 1 ≤ L
  le : L ≤ 20
  dig : AllDig s
  val : dval s.data.toList = q
  head : ∀ h : 0 < s.size, 1 < L → (s[0].toNat : Int) ≠ 48

theorem whole_is (q : Nat) (hq : q < 18446744073709551616) : IsWhole ⟨(Lib.decDigits q).toArray⟩ (Lib.decDigits q).length q := by
  have hl := dec_len q hq
  refine ⟨by simp [ByteArray.size], hl.1, hl.2, fun k h => ?_, dval_dec q, fun h h1 => ?_⟩
  · have hk : k < (Lib.decDigits q).length := by simpa [ByteArray.size] using h
    have := dec_dig q (Lib.decDigits q)[k] (List.getElem_mem hk)
    show 48 ≤ (((Lib.decDigits q).toArray[k]'(by simpa using hk)).toNat : Int) ∧ (((Lib.decDigits q).toArray[k]'(by simpa using hk)).toNat : Int) ≤ 57
    simp only [List.getElem_toArray]
    omega
  · have h2 := dec_head q h1
    have hk : 0 < (Lib.decDigits q).length := by omega
    show (((Lib.decDigits q).toArray[0]'(by simpa using hk)).toNat : Int) ≠ 48
    simp only [List.getElem_toArray]
    intro h3
    apply h2
    match h4 : Lib.decDigits q, hk with
    | c :: _, _ =>
      simp only [h4, List.getElem_cons_zero] at h3
      simp only [List.headD_cons]
      apply UInt8.toNat_inj.1
      have : (48 : UInt8).toNat = 48 := rfl
      omega

/-- The fraction as a string. -/
structure IsFrac (t : ByteArray) (M f0 f1 : Nat) : Prop where
  size : t.size = M
  pos : 1 ≤ M
  le : M ≤ 2
  dig : AllDig t
  frac : Frac t f0 f1
  last : ∀ j (h : j < t.size), j = M - 1 → (t[j].toNat : Int) ≠ 48

theorem b8 (k : Nat) (h : k < 256) : (UInt8.ofNat k).toNat = k := by rw [UInt8.toNat_ofNat']; exact Nat.mod_eq_of_lt h

theorem frac_is (f : Nat) (h0 : f ≠ 0) (h1 : f < 100) : IsFrac ⟨(fracB f).toArray⟩ (fracB f).length (f / 10) (f % 10) := by
  unfold fracB
  rw [if_neg h0]
  by_cases hz : f % 10 = 0
  · rw [if_pos hz]
    have e0 := b8 (48 + f / 10) (by omega)
    refine ⟨rfl, by simp, by simp, fun k h => ?_, ⟨fun _ => e0, fun h => ?_, fun h => ?_, fun _ => hz, by omega, by omega, by simp [ByteArray.size]⟩, fun j h hj => ?_⟩
    · obtain rfl : k = 0 := by simpa [ByteArray.size] using h
      show 48 ≤ ((UInt8.ofNat (48 + f / 10)).toNat : Int) ∧ ((UInt8.ofNat (48 + f / 10)).toNat : Int) ≤ 57
      rw [e0]; omega
    · simp [ByteArray.size] at h
    · simp [ByteArray.size] at h
    · obtain rfl : j = 0 := by simpa using hj
      show ((UInt8.ofNat (48 + f / 10)).toNat : Int) ≠ 48
      rw [e0]; omega
  · rw [if_neg hz]
    have e0 := b8 (48 + f / 10) (by omega)
    have e1 := b8 (48 + f % 10) (by omega)
    refine ⟨rfl, by simp, by simp, fun k h => ?_, ⟨fun _ => e0, fun _ => e1, fun h => ?_, fun h => ?_, by omega, by omega, by simp [ByteArray.size]⟩, fun j h hj => ?_⟩
    · have hk : k < 2 := by simpa [ByteArray.size] using h
      match k, hk with
      | 0, _ =>
        show 48 ≤ ((UInt8.ofNat (48 + f / 10)).toNat : Int) ∧ ((UInt8.ofNat (48 + f / 10)).toNat : Int) ≤ 57
        rw [e0]; omega
      | 1, _ =>
        show 48 ≤ ((UInt8.ofNat (48 + f % 10)).toNat : Int) ∧ ((UInt8.ofNat (48 + f % 10)).toNat : Int) ≤ 57
        rw [e1]; omega
    · simp [ByteArray.size] at h
    · simp [ByteArray.size] at h
    · obtain rfl : j = 1 := by simpa using hj
      show ((UInt8.ofNat (48 + f % 10)).toNat : Int) ≠ 48
      rw [e1]; omega

theorem not_empty {s : ByteArray} (h : 1 ≤ s.size) : s.toList.isEmpty = false := by
  have h2 := Lib.size_eq s
  rw [Lib.toList_data]
  cases hl : s.data.toList with
  | nil =>
    rw [hl] at h2
    simp only [List.length_nil] at h2
    omega
  | cons _ _ => rfl

end Go.Proofs.Qxb6602662aDoor.Wk
