/-
  The plain side of 'classEnd': a function on lists of bytes, and what it answers. No Go here.
-/
import Derived.Lib.Index
import Derived.Lib.Strings
import Derived.Lib.IndexLaws
namespace Go.Proofs.Qxb6603847a.Plain
open Go.Lib

/-- The place at which the scan of the class begins: behind the opening bracket, a caret, a literal bracket. -/
def first (l : List UInt8) (i : Nat) : Nat := if l[i]? = some 94 then i + 1 else i
def start (l : List UInt8) (i : Nat) : Nat := if l[first l i]? = some 93 then first l i + 1 else first l i

/-- The scan, with fuel. -/
def scan (l : List UInt8) : Nat → Nat → Nat
  | 0, _ => l.length - 1
  | f + 1, i =>
    if i < l.length then
      if l[i]? = some 92 then scan l f (i + 2)
      else if l[i]? = some 93 then i
      else if hasPrefix (l.drop i) [91, 58] = true then
        if 0 ≤ index (l.drop (i + 2)) [58, 93] then scan l f (i + (index (l.drop (i + 2)) [58, 93]).toNat + 4)
        else scan l f (i + 1)
      else scan l f (i + 1)
    else l.length - 1

theorem scan_out {l : List UInt8} {f i : Nat} (h : ¬ i < l.length) : scan l f i = l.length - 1 := by
  cases f <;> simp [scan, h]
theorem scan_esc {l : List UInt8} {f i : Nat} (h : i < l.length) (h1 : l[i]? = some 92) : scan l (f + 1) i = scan l f (i + 2) := by
  rw [scan, if_pos h, if_pos h1]
theorem scan_hit {l : List UInt8} {f i : Nat} (h : i < l.length) (h1 : l[i]? = some 93) : scan l (f + 1) i = i := by
  rw [scan, if_pos h, if_neg (by simp [h1]), if_pos h1]
theorem scan_named {l : List UInt8} {f i : Nat} (h : i < l.length) (h1 : l[i]? ≠ some 92) (h2 : l[i]? ≠ some 93)
    (h3 : hasPrefix (l.drop i) [91, 58] = true) (h4 : 0 ≤ index (l.drop (i + 2)) [58, 93]) :
    scan l (f + 1) i = scan l f (i + (index (l.drop (i + 2)) [58, 93]).toNat + 4) := by
  rw [scan, if_pos h, if_neg h1, if_neg h2, if_pos h3, if_pos h4]
theorem scan_open {l : List UInt8} {f i : Nat} (h : i < l.length) (h1 : l[i]? ≠ some 92) (h2 : l[i]? ≠ some 93)
    (h3 : hasPrefix (l.drop i) [91, 58] = true) (h4 : ¬ 0 ≤ index (l.drop (i + 2)) [58, 93]) :
    scan l (f + 1) i = scan l f (i + 1) := by
  rw [scan, if_pos h, if_neg h1, if_neg h2, if_pos h3, if_neg h4]
theorem scan_plain {l : List UInt8} {f i : Nat} (h : i < l.length) (h1 : l[i]? ≠ some 92) (h2 : l[i]? ≠ some 93)
    (h3 : hasPrefix (l.drop i) [91, 58] = false) : scan l (f + 1) i = scan l f (i + 1) := by
  rw [scan, if_pos h, if_neg h1, if_neg h2, if_neg (by simp [h3])]

/-- Where the scan ends: at a bracket at or behind its start, or at the last place. -/
theorem scan_spec (l : List UInt8) : ∀ (f i : Nat), (i ≤ scan l f i ∧ l[scan l f i]? = some 93) ∨ scan l f i = l.length - 1
  | 0, i => Or.inr rfl
  | f + 1, i => by
    have up : ∀ j, i ≤ j → (i ≤ scan l f j ∧ l[scan l f j]? = some 93) ∨ scan l f j = l.length - 1 := fun j hj => by
      rcases scan_spec l f j with ⟨a, b⟩ | a
      · exact .inl ⟨by omega, b⟩
      · exact .inr a
    by_cases h : i < l.length
    · by_cases h1 : l[i]? = some 92
      · rw [scan_esc h h1]; exact up _ (by omega)
      · by_cases h2 : l[i]? = some 93
        · rw [scan_hit h h2]; exact .inl ⟨Nat.le_refl _, h2⟩
        · cases h3 : hasPrefix (l.drop i) [91, 58] with
          | false => rw [scan_plain h h1 h2 h3]; exact up _ (by omega)
          | true =>
            by_cases h4 : 0 ≤ index (l.drop (i + 2)) [58, 93]
            · rw [scan_named h h1 h2 h3 h4]; exact up _ (by omega)
            · rw [scan_open h h1 h2 h3 h4]; exact up _ (by omega)
    · rw [scan_out h]; exact .inr rfl

/-- The scan does not look at what lies before its start. -/
theorem scan_shift (p l : List UInt8) (hl : l ≠ []) : ∀ (f i : Nat), scan (p ++ l) f (p.length + i) = p.length + scan l f i
  | 0, i => by
    have : 0 < l.length := List.length_pos_iff.2 hl
    simp [scan]; omega
  | f + 1, i => by
    have hp : 0 < l.length := List.length_pos_iff.2 hl
    have ih := scan_shift p l hl f
    have g : (p ++ l)[p.length + i]? = l[i]? := by rw [List.getElem?_append_right (by omega)]; congr 1; omega
    have d : ∀ j, (p ++ l).drop (p.length + j) = l.drop j := fun j => by rw [List.drop_append]; simp
    have d2 : (p ++ l).drop (p.length + i + 2) = l.drop (i + 2) := by rw [show p.length + i + 2 = p.length + (i + 2) from by omega]; exact d _
    by_cases h : i < l.length
    · have h' : p.length + i < (p ++ l).length := by simp; omega
      by_cases h1 : l[i]? = some 92
      · rw [scan_esc h h1, scan_esc h' (g.trans h1), show p.length + i + 2 = p.length + (i + 2) from by omega]; exact ih _
      · by_cases h2 : l[i]? = some 93
        · rw [scan_hit h h2, scan_hit h' (g.trans h2)]
        · have h1' : (p ++ l)[p.length + i]? ≠ some 92 := by rw [g]; exact h1
          have h2' : (p ++ l)[p.length + i]? ≠ some 93 := by rw [g]; exact h2
          cases h3 : hasPrefix (l.drop i) [91, 58] with
          | false => rw [scan_plain h h1 h2 h3, scan_plain h' h1' h2' (by rw [d]; exact h3)]; exact ih (i + 1)
          | true =>
            by_cases h4 : 0 ≤ index (l.drop (i + 2)) [58, 93]
            · rw [scan_named h h1 h2 h3 h4, scan_named h' h1' h2' (by rw [d]; exact h3) (by rw [d2]; exact h4), d2,
                show ∀ k, p.length + i + k + 4 = p.length + (i + k + 4) from fun k => by omega]; exact ih _
            · rw [scan_open h h1 h2 h3 h4, scan_open h' h1' h2' (by rw [d]; exact h3) (by rw [d2]; exact h4)]; exact ih (i + 1)
    · have h' : ¬ p.length + i < (p ++ l).length := by simp; omega
      rw [scan_out h, scan_out h']; simp; omega

theorem start_shift (p l : List UInt8) (i : Nat) : start (p ++ l) (p.length + i) = p.length + start l i := by
  have g : ∀ j, (p ++ l)[p.length + j]? = l[j]? := fun j => by rw [List.getElem?_append_right (by omega)]; congr 1; omega
  have hf : first (p ++ l) (p.length + i) = p.length + first l i := by
    unfold first; rw [g]; split <;> omega
  unfold start; rw [hf, g]; split <;> omega

theorem scan_lt (l : List UInt8) (hl : l ≠ []) (f i : Nat) : scan l f i < l.length := by
  have hp : 0 < l.length := List.length_pos_iff.2 hl
  rcases scan_spec l f i with ⟨_, b⟩ | a
  · exact (List.getElem?_eq_some_iff.1 b).1
  · omega
theorem start_ge (l : List UInt8) (i : Nat) : i ≤ start l i ∧ start l i ≤ i + 2 := by
  unfold start first; split <;> split <;> omega


/-- An instance that is found has room. -/
theorem index_room (sub : List UInt8) (hs : sub ≠ []) : ∀ (l : List UInt8), 0 ≤ index l sub → index l sub + sub.length ≤ l.length
  | [], h => by
    cases sub with
    | nil => exact absurd rfl hs
    | cons a t => simp [index] at h
  | b :: l, h => by
    have ih := index_room sub hs l
    unfold index at h ⊢
    by_cases hp : sub.isPrefixOf (b :: l) = true
    · rw [if_pos hp]
      have := (List.isPrefixOf_iff_prefix.1 hp).length_le
      omega
    · rw [if_neg hp] at h ⊢
      by_cases hm : (index l sub == -1) = true
      · rw [if_pos hm] at h; omega
      · rw [if_neg hm] at h ⊢
        have hge := index_ge l sub
        have hne : index l sub ≠ -1 := fun e => hm (beq_iff_eq.2 e)
        have := ih (by omega)
        simp only [List.length_cons]
        omega
theorem hasPrefix_room {l : List UInt8} {k : Nat} (h : hasPrefix (l.drop k) [91, 58] = true) : k + 2 ≤ l.length := by
  unfold hasPrefix at h
  have := (List.isPrefixOf_iff_prefix.1 h).length_le
  simp at this; omega
end Go.Proofs.Qxb6603847a.Plain
