/-
  The plain side of 'MethodValue.upper': which bytes a token holds, and what one step does. No Go here.
-/
import Derived.Lib.Strings
import Derived.Lib.Index
import Derived.Lib.IndexLaws
namespace Go.Proofs.Qxb6603951a.Plain

/-- May this byte stand in a token? -/
def tok (c : Int) : Bool := decide (c < 127) && decide (32 < c) && !([34, 40, 41, 44, 47, 58, 59, 60, 61, 62, 63, 64, 91, 92, 93, 123, 125].contains c)

theorem tok_high (c : Int) (h : ¬ c < 127) : tok c = false := by simp [tok, h]
theorem tok_low (c : Int) (h : ¬ 32 < c) : tok c = false := by simp [tok, h]

theorem tok_index_all : ∀ n : Fin 256, n.val < 127 → 32 < n.val → decide (Lib.indexByte [34, 40, 41, 44, 47, 58, 59, 60, 61, 62, 63, 64, 91, 92, 93, 123, 125] n.val.toUInt8 < 0) = tok n.val := by decide +kernel
theorem tok_index (c : Int) (h1 : c < 127) (h2 : 32 < c) : decide (Lib.indexByte [34, 40, 41, 44, 47, 58, 59, 60, 61, 62, 63, 64, 91, 92, 93, 123, 125] c.toNat.toUInt8 < 0) = tok c := by
  have := tok_index_all ⟨c.toNat, by omega⟩ (by show c.toNat < 127; omega) (by show 32 < c.toNat; omega)
  simp only [Int.toNat_of_nonneg (show 0 ≤ c by omega)] at this
  exact this

theorem tok_digit_all : ∀ n : Fin 256, (48 ≤ n.val ∧ n.val ≤ 57 ∨ 65 ≤ n.val ∧ n.val ≤ 90 ∨ 97 ≤ n.val ∧ n.val ≤ 122) → tok n.val = true := by decide +kernel
theorem tok_letter (c : Int) (h : 48 ≤ c ∧ c ≤ 57 ∨ 65 ≤ c ∧ c ≤ 90 ∨ 97 ≤ c ∧ c ≤ 122) : tok c = true := by
  have := tok_digit_all ⟨c.toNat, by omega⟩ (by show 48 ≤ c.toNat ∧ c.toNat ≤ 57 ∨ 65 ≤ c.toNat ∧ c.toNat ≤ 90 ∨ 97 ≤ c.toNat ∧ c.toNat ≤ 122; omega)
  simp only [Int.toNat_of_nonneg (show 0 ≤ c by omega)] at this
  exact this
theorem tok_none_all : ∀ n : Fin 256, ¬ (48 ≤ n.val ∧ n.val ≤ 57) → ¬ (65 ≤ n.val ∧ n.val ≤ 90) → ¬ (97 ≤ n.val ∧ n.val ≤ 122) → n.val ∉ [33, 35, 36, 37, 38, 39, 42, 43, 45, 46, 94, 95, 96, 124, 126] → tok n.val = false := by decide +kernel
theorem tok_none (c : Int) (h0 : 0 ≤ c) (h1 : c ≤ 255) (a : ¬ (48 ≤ c ∧ c ≤ 57)) (b : ¬ (65 ≤ c ∧ c ≤ 90)) (d : ¬ (97 ≤ c ∧ c ≤ 122)) (e : c ∉ [33, 35, 36, 37, 38, 39, 42, 43, 45, 46, 94, 95, 96, 124, 126]) : tok c = false := by
  have := tok_none_all ⟨c.toNat, by omega⟩ (by show ¬ (48 ≤ c.toNat ∧ c.toNat ≤ 57); omega) (by show ¬ (65 ≤ c.toNat ∧ c.toNat ≤ 90); omega) (by show ¬ (97 ≤ c.toNat ∧ c.toNat ≤ 122); omega)
    (by show c.toNat ∉ _; intro h; apply e; simp at h ⊢; omega)
  simp only [Int.toNat_of_nonneg h0] at this
  exact this
theorem tok_mark_all : ∀ c ∈ [33, 35, 36, 37, 38, 39, 42, 43, 45, 46, 94, 95, 96, 124, 126], tok c = true := by decide +kernel

/-- One step: the place behind it, and the method behind it. -/
def stepP (p c : Int) : Int := if p = 0 ∨ p = 1 then (if tok c = true then 1 else if p = 1 then 2 else p) else if p = 2 ∧ tok c = true then 3 else p
def grows (n cap p c : Int) : Bool := decide (p = 0 ∨ p = 1) && tok c && decide (n < cap)
def stepM (zs : List Int) (cap p c : Int) : List Int := if grows zs.length cap p c = true then zs ++ [c] else zs

theorem stepM_le (zs : List Int) (cap : Nat) (p c : Int) (h : zs.length ≤ cap) : (stepM zs cap p c).length ≤ cap := by
  unfold stepM grows
  split
  · rename_i g
    simp at g ⊢; omega
  · exact h

end Go.Proofs.Qxb6603951a.Plain
