/-
  What the decoding of a rune that is not ASCII passes over: bytes that are not ASCII.
-/
import Derived.Laws.RangeAny
import Derived.Lib.IndexAny
import Derived.Lib.OthersKept
namespace Go.Proofs.Qxb6604024a

theorem get_byte (s : ByteArray) (j : Nat) (h : j < s.size) : s.data.toList[j]? = some (s.get! j) := by
  rw [List.getElem?_eq_some_iff]
  refine ⟨by simpa using h, ?_⟩
  simp [ByteArray.get!, h]

theorem decode_span (s : ByteArray) (pos : Nat) (h : pos < s.size) (ha : 128 ≤ (s.get! pos).toNat) :
    1 ≤ (Utf8.decode s pos).2 ∧ pos + (Utf8.decode s pos).2 ≤ s.size ∧ ∀ j, pos ≤ j → j < pos + (Utf8.decode s pos).2 → 128 ≤ (s.get! j).toNat := by
  have one : 1 ≤ 1 ∧ pos + 1 ≤ s.size ∧ ∀ j, pos ≤ j → j < pos + 1 → 128 ≤ (s.get! j).toNat := ⟨Nat.le_refl _, by omega, fun j h1 h2 => by
    obtain rfl : j = pos := by omega
    exact ha⟩
  have hn : ¬ (s.get! (pos + 0)).toNat < 128 := by rw [Nat.add_zero]; omega
  unfold Utf8.decode
  simp only [hn, if_false]
  split
  · rename_i c
    simp only [Bool.and_eq_true, beq_iff_eq, decide_eq_true_eq] at c
    split
    · refine ⟨by omega, by simp only; omega, fun j h1 h2 => ?_⟩
      rcases (show j = pos ∨ j = pos + 1 by simp only at h2; omega) with rfl | rfl
      · exact ha
      · omega
    · exact one
  · split
    · rename_i c
      simp only [Bool.and_eq_true, beq_iff_eq, decide_eq_true_eq] at c
      split
      · refine ⟨by omega, by simp only; omega, fun j h1 h2 => ?_⟩
        rcases (show j = pos ∨ j = pos + 1 ∨ j = pos + 2 by simp only at h2; omega) with rfl | rfl | rfl
        · exact ha
        · omega
        · omega
      · exact one
    · split
      · rename_i c
        simp only [Bool.and_eq_true, beq_iff_eq, decide_eq_true_eq] at c
        split
        · refine ⟨by omega, by simp only; omega, fun j h1 h2 => ?_⟩
          rcases (show j = pos ∨ j = pos + 1 ∨ j = pos + 2 ∨ j = pos + 3 by simp only at h2; omega) with rfl | rfl | rfl | rfl
          · exact ha
          · omega
          · omega
          · omega
        · exact one
      · exact one

theorem not_break {b : UInt8} (h : 128 ≤ b.toNat) : ([10, 13] : List UInt8).contains b = false := by
  have h1 : b ≠ 10 := fun e => by rw [e] at h; exact absurd h (by decide)
  have h2 : b ≠ 13 := fun e => by rw [e] at h; exact absurd h (by decide)
  simp [h1, h2]

/-- Past a rune that is not ASCII: still none of the line breaks. -/
theorem noAny_skip {s : ByteArray} {pos n : Nat} (h : Lib.NoAny s.data.toList [10, 13] pos) (hn : pos + n ≤ s.size) (hb : ∀ j, pos ≤ j → j < pos + n → 128 ≤ (s.get! j).toNat) : Lib.NoAny s.data.toList [10, 13] (pos + n) := fun j b hj hjb => by
  by_cases hlt : j < pos
  · exact h j b hlt hjb
  · rw [get_byte s j (by omega)] at hjb
    obtain rfl := Option.some.inj hjb
    exact not_break (hb j (by omega) hj)
end Go.Proofs.Qxb6604024a
