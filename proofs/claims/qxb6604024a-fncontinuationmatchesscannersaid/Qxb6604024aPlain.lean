/-
  The plain side of 'continuation': a function on lists of bytes, and what it answers. No Go here.
-/
import Derived.Lib.IndexAny
import Derived.Lib.Strings
namespace Go.Proofs.Qxb6604024a.Plain
open Go.Lib

/-- A line break. -/
def brk (b : Option UInt8) : Bool := b == some 10 || b == some 13
/-- Another white byte. -/
def spc (b : Option UInt8) : Bool := b == some 32 || b == some 9 || b == some 11 || b == some 12

/-- Where the line that holds place i ends. -/
def lineEnd (l : List UInt8) (i : Nat) : Nat := if 0 ≤ indexAny (l.drop i) [10, 13] then i + (indexAny (l.drop i) [10, 13]).toNat else l.length

theorem brk_contains (b : UInt8) : ([10, 13] : List UInt8).contains b = brk (some b) := by
  rw [Bool.eq_iff_iff]
  simp [brk]

theorem any_hit {l : List UInt8} {i : Nat} (hi : i < l.length) (h : brk l[i]? = true) : indexAny (l.drop i) [10, 13] = 0 := by
  rw [List.drop_eq_getElem_cons hi, indexAny, brk_contains, ← List.getElem?_eq_getElem hi, h, if_pos rfl]
theorem any_step {l : List UInt8} {i : Nat} (hi : i < l.length) (h : brk l[i]? = false) : indexAny (l.drop i) [10, 13] = if (indexAny (l.drop (i + 1)) [10, 13] == -1) = true then -1 else indexAny (l.drop (i + 1)) [10, 13] + 1 := by
  rw [List.drop_eq_getElem_cons hi, indexAny, brk_contains, ← List.getElem?_eq_getElem hi, h, if_neg Bool.false_ne_true]

theorem le_hit {l : List UInt8} {i : Nat} (h : brk l[i]? = true) : lineEnd l i = i := by
  have hi : i < l.length := by
    rcases Nat.lt_or_ge i l.length with h' | h'
    · exact h'
    · rw [List.getElem?_eq_none h'] at h; cases h
  unfold lineEnd
  rw [any_hit hi h]
  rfl
theorem le_step {l : List UInt8} {i : Nat} (hi : i < l.length) (h : brk l[i]? = false) : lineEnd l i = lineEnd l (i + 1) := by
  have hge := indexAny_ge [10, 13] (l.drop (i + 1))
  unfold lineEnd
  rw [any_step hi h]
  generalize indexAny (l.drop (i + 1)) [10, 13] = x at hge
  by_cases hm : x = -1
  · subst hm; rfl
  · have e : (x == -1) = false := by rw [beq_eq_false_iff_ne]; exact hm
    rw [e, if_neg Bool.false_ne_true, if_pos (by omega), if_pos (by omega)]
    omega
theorem le_out {l : List UInt8} {i : Nat} (h : ¬ i < l.length) : lineEnd l i = l.length := by
  unfold lineEnd
  rw [List.drop_eq_nil_of_le (by omega)]
  simp [indexAny]
theorem le_bounds (l : List UInt8) : ∀ (n i : Nat), n = l.length - i → i ≤ l.length → i ≤ lineEnd l i ∧ lineEnd l i ≤ l.length
  | 0, i, hn, hi => by rw [le_out (by omega)]; omega
  | n + 1, i, hn, hi => by
    cases hb : brk l[i]? with
    | true => rw [le_hit hb]; omega
    | false =>
      rw [le_step (by omega) hb]
      have := le_bounds l n (i + 1) (by omega) (by omega)
      omega
theorem le_ge {l : List UInt8} {i : Nat} (hi : i ≤ l.length) : i ≤ lineEnd l i := (le_bounds l _ i rfl hi).1
theorem le_le {l : List UInt8} {i : Nat} (hi : i ≤ l.length) : lineEnd l i ≤ l.length := (le_bounds l _ i rfl hi).2

/-- Does a comment open at place i? -/
def dash (l : List UInt8) (i : Nat) : Bool := hasPrefix (l.drop i) [45, 45]
theorem dash_iff (l : List UInt8) (i : Nat) : dash l i = (l[i]? == some 45 && l[i + 1]? == some 45) := by
  unfold dash hasPrefix
  have g : ∀ k, (l.drop i)[k]? = l[i + k]? := fun k => List.getElem?_drop
  rw [show l[i]? = (l.drop i)[0]? from (g 0).symm, show l[i + 1]? = (l.drop i)[1]? from (g 1).symm]
  rw [Bool.eq_iff_iff]
  rcases l.drop i with _ | ⟨a, _ | ⟨b, t⟩⟩
  · simp [List.isPrefixOf]
  · simp [List.isPrefixOf]
  · simp [List.isPrefixOf]
    exact ⟨fun h => ⟨h.1.symm, h.2.symm⟩, fun h => ⟨h.1.symm, h.2.symm⟩⟩
theorem dash_room {l : List UInt8} {i : Nat} (h : dash l i = true) : i + 2 ≤ l.length ∧ brk l[i]? = false ∧ brk l[i + 1]? = false := by
  rw [dash_iff, Bool.and_eq_true, beq_iff_eq, beq_iff_eq] at h
  obtain ⟨h0, h1⟩ := h
  have := (List.getElem?_eq_some_iff.1 h1).1
  refine ⟨by omega, by rw [h0]; decide, by rw [h1]; decide⟩
theorem dash_le {l : List UInt8} {i : Nat} (h : dash l i = true) : lineEnd l i = lineEnd l (i + 2) := by
  obtain ⟨hr, b0, b1⟩ := dash_room h
  rw [le_step (by omega) b0, le_step (by omega) b1]

/-- The scan, with fuel. -/
def cont (l : List UInt8) : Nat → Bool → Nat → Int
  | 0, _, _ => -1
  | f + 1, nl, i =>
    if i < l.length then
      if l[i]? = some 39 ∧ nl = true then i
      else if brk l[i]? = true then cont l f true (i + 1)
      else if spc l[i]? = true then cont l f nl (i + 1)
      else if dash l i = true then cont l f nl (lineEnd l i)
      else -1
    else -1

theorem cont_out {l : List UInt8} {f i : Nat} {nl : Bool} (h : ¬ i < l.length) : cont l f nl i = -1 := by
  cases f with
  | zero => rfl
  | succ f => rw [cont, if_neg h]
theorem cont_hit {l : List UInt8} {f i : Nat} (h : i < l.length) (h1 : l[i]? = some 39) : cont l (f + 1) true i = i := by
  rw [cont, if_pos h, if_pos ⟨h1, rfl⟩]
theorem cont_brk {l : List UInt8} {f i : Nat} {nl : Bool} (h : i < l.length) (h1 : brk l[i]? = true) : cont l (f + 1) nl i = cont l f true (i + 1) := by
  have hq : ¬ (l[i]? = some 39 ∧ nl = true) := fun e => by rw [e.1] at h1; revert h1; decide
  rw [cont, if_pos h, if_neg hq, if_pos h1]
theorem cont_spc {l : List UInt8} {f i : Nat} {nl : Bool} (h : i < l.length) (h1 : brk l[i]? = false) (h2 : spc l[i]? = true) : cont l (f + 1) nl i = cont l f nl (i + 1) := by
  have hq : ¬ (l[i]? = some 39 ∧ nl = true) := fun e => by rw [e.1] at h2; revert h2; decide
  rw [cont, if_pos h, if_neg hq, if_neg (by rw [h1]; simp), if_pos h2]
theorem cont_dash {l : List UInt8} {f i : Nat} {nl : Bool} (h : i < l.length) (h1 : brk l[i]? = false) (h2 : spc l[i]? = false) (h3 : dash l i = true) : cont l (f + 1) nl i = cont l f nl (lineEnd l i) := by
  have hq : ¬ (l[i]? = some 39 ∧ nl = true) := fun e => by rw [dash_iff, e.1] at h3; simp at h3
  rw [cont, if_pos h, if_neg hq, if_neg (by rw [h1]; simp), if_neg (by rw [h2]; simp), if_pos h3]
theorem cont_no {l : List UInt8} {f i : Nat} {nl : Bool} (hq : ¬ (l[i]? = some 39 ∧ nl = true)) (h1 : brk l[i]? = false) (h2 : spc l[i]? = false) (h3 : dash l i = false) : cont l (f + 1) nl i = -1 := by
  by_cases h : i < l.length
  · rw [cont, if_pos h, if_neg hq, if_neg (by rw [h1]; simp), if_neg (by rw [h2]; simp), if_neg (by rw [h3]; simp)]
  · exact cont_out h

end Go.Proofs.Qxb6604024a.Plain
