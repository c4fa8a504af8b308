/-
  The plain laws of 'cont'. No Go here.
-/
import Derived.Test.Qxb6604024aPlain
namespace Go.Proofs.Qxb6604024a.Plain
open Go.Lib

/-- The five ways of one step. -/
theorem cont_ways (l : List UInt8) (f : Nat) (nl : Bool) (i : Nat) :
    (¬ i < l.length ∧ cont l (f + 1) nl i = -1) ∨
    (i < l.length ∧ l[i]? = some 39 ∧ nl = true ∧ cont l (f + 1) nl i = i) ∨
    (i < l.length ∧ brk l[i]? = true ∧ cont l (f + 1) nl i = cont l f true (i + 1)) ∨
    (i < l.length ∧ brk l[i]? = false ∧ spc l[i]? = true ∧ cont l (f + 1) nl i = cont l f nl (i + 1)) ∨
    (i < l.length ∧ brk l[i]? = false ∧ spc l[i]? = false ∧ dash l i = true ∧ cont l (f + 1) nl i = cont l f nl (lineEnd l i)) ∨
    (i < l.length ∧ ¬ (l[i]? = some 39 ∧ nl = true) ∧ brk l[i]? = false ∧ spc l[i]? = false ∧ dash l i = false ∧ cont l (f + 1) nl i = -1) := by
  by_cases h : i < l.length
  · by_cases hq : l[i]? = some 39 ∧ nl = true
    · obtain ⟨h1, rfl⟩ := hq
      exact .inr (.inl ⟨h, h1, rfl, cont_hit h h1⟩)
    · cases hb : brk l[i]? with
      | true => exact .inr (.inr (.inl ⟨h, rfl, cont_brk h hb⟩))
      | false =>
        cases hs : spc l[i]? with
        | true => exact .inr (.inr (.inr (.inl ⟨h, rfl, rfl, cont_spc h hb hs⟩)))
        | false =>
          cases hd : dash l i with
          | true => exact .inr (.inr (.inr (.inr (.inl ⟨h, rfl, rfl, rfl, cont_dash h hb hs hd⟩))))
          | false => exact .inr (.inr (.inr (.inr (.inr ⟨h, hq, rfl, rfl, rfl, cont_no hq hb hs hd⟩))))
  · exact .inl ⟨h, cont_out h⟩

/-- Where it answers a place: a quote, behind a line break. -/
theorem cont_point (l : List UInt8) : ∀ (f : Nat) (nl : Bool) (i : Nat), cont l f nl i = -1 ∨ ∃ r : Nat, cont l f nl i = r ∧ i ≤ r ∧ r < l.length ∧ l[r]? = some 39 ∧ (nl = true ∨ ∃ j, i ≤ j ∧ j < r ∧ brk l[j]? = true)
  | 0, _, _ => .inl rfl
  | f + 1, nl, i => by
    rcases cont_ways l f nl i with ⟨_, e⟩ | ⟨h, h1, h2, e⟩ | ⟨h, hb, e⟩ | ⟨h, hb, hs, e⟩ | ⟨h, hb, hs, hd, e⟩ | ⟨h, hq, hb, hs, hd, e⟩
    · exact .inl e
    · exact .inr ⟨i, e, Nat.le_refl _, h, h1, .inl h2⟩
    · rw [e]
      rcases cont_point l f true (i + 1) with e' | ⟨r, e', hr, hl, hq, _⟩
      · exact .inl e'
      · exact .inr ⟨r, e', by omega, hl, hq, .inr ⟨i, Nat.le_refl _, by omega, hb⟩⟩
    · rw [e]
      rcases cont_point l f nl (i + 1) with e' | ⟨r, e', hr, hl, hq, hj⟩
      · exact .inl e'
      · refine .inr ⟨r, e', by omega, hl, hq, ?_⟩
        rcases hj with h0 | ⟨j, h1, h2, h3⟩
        · exact .inl h0
        · exact .inr ⟨j, by omega, h2, h3⟩
    · rw [e]
      have hge := le_ge (l := l) (i := i) (by omega)
      rcases cont_point l f nl (lineEnd l i) with e' | ⟨r, e', hr, hl, hq, hj⟩
      · exact .inl e'
      · refine .inr ⟨r, e', by omega, hl, hq, ?_⟩
        rcases hj with h0 | ⟨j, h1, h2, h3⟩
        · exact .inl h0
        · exact .inr ⟨j, by omega, h2, h3⟩
    · exact .inl e

/-! ### A prefix -/
theorem get_shift (p l : List UInt8) (i : Nat) : (p ++ l)[p.length + i]? = l[i]? := by
  rw [List.getElem?_append_right (by omega)]; congr 1; omega
theorem drop_shift (p l : List UInt8) (i : Nat) : (p ++ l).drop (p.length + i) = l.drop i := by
  rw [List.drop_append]; simp
theorem le_shift (p l : List UInt8) (i : Nat) : lineEnd (p ++ l) (p.length + i) = p.length + lineEnd l i := by
  unfold lineEnd
  rw [drop_shift]
  split
  · omega
  · simp
theorem dash_shift (p l : List UInt8) (i : Nat) : dash (p ++ l) (p.length + i) = dash l i := by
  unfold dash; rw [drop_shift]

/-- The answer, shifted. -/
def sh (n : Nat) (r : Int) : Int := if 0 ≤ r then r + n else -1
theorem cont_shift (p l : List UInt8) : ∀ (f : Nat) (nl : Bool) (i : Nat), cont (p ++ l) f nl (p.length + i) = sh p.length (cont l f nl i)
  | 0, _, _ => rfl
  | f + 1, nl, i => by
    have g := get_shift p l i
    rcases cont_ways l f nl i with ⟨h, e⟩ | ⟨h, h1, h2, e⟩ | ⟨h, hb, e⟩ | ⟨h, hb, hs, e⟩ | ⟨h, hb, hs, hd, e⟩ | ⟨h, hq, hb, hs, hd, e⟩
    · rw [e, cont_out (by simp; omega)]; rfl
    · subst h2
      rw [e, cont_hit (by simp; omega) (g.trans h1)]
      unfold sh; rw [if_pos (by omega)]; omega
    · rw [e, cont_brk (by simp; omega) (by rw [g]; exact hb)]; exact cont_shift p l f true (i + 1)
    · rw [e, cont_spc (by simp; omega) (by rw [g]; exact hb) (by rw [g]; exact hs)]; exact cont_shift p l f nl (i + 1)
    · rw [e, cont_dash (by simp; omega) (by rw [g]; exact hb) (by rw [g]; exact hs) (by rw [dash_shift]; exact hd), le_shift]; exact cont_shift p l f nl _
    · rw [e, cont_no (by rw [g]; exact hq) (by rw [g]; exact hb) (by rw [g]; exact hs) (by rw [dash_shift]; exact hd)]; rfl

/-! ### A suffix -/
theorem any_append (q : List UInt8) : ∀ l : List UInt8, 0 ≤ indexAny l [10, 13] → indexAny (l ++ q) [10, 13] = indexAny l [10, 13]
  | [], h => by simp [indexAny] at h
  | b :: l, h => by
    rw [List.cons_append]
    unfold indexAny at h ⊢
    by_cases hc : ([10, 13] : List UInt8).contains b = true
    · rw [if_pos hc, if_pos hc]
    · rw [if_neg hc] at h ⊢
      rw [if_neg hc]
      by_cases hm : (indexAny l [10, 13] == -1) = true
      · rw [if_pos hm] at h; omega
      · rw [if_neg hm] at h
        have hge := indexAny_ge [10, 13] l
        have hne : indexAny l [10, 13] ≠ -1 := fun e => hm (beq_iff_eq.2 e)
        rw [any_append q l (by omega)]
theorem le_append {l : List UInt8} (q : List UInt8) {i : Nat} (hi : i ≤ l.length) (h : lineEnd l i < l.length) : lineEnd (l ++ q) i = lineEnd l i := by
  unfold lineEnd at h ⊢
  rw [List.drop_append_of_le_length hi]
  split at h
  · rename_i h0
    rw [any_append q _ h0, if_pos h0, if_pos h0]
  · omega
theorem cont_suffix (l q : List UInt8) : ∀ (f : Nat) (nl : Bool) (i : Nat), 0 ≤ cont l f nl i → cont (l ++ q) f nl i = cont l f nl i
  | 0, _, _, h => by simp [cont] at h
  | f + 1, nl, i, h => by
    rcases cont_ways l f nl i with ⟨_, e⟩ | ⟨hl, h1, h2, e⟩ | ⟨hl, hb, e⟩ | ⟨hl, hb, hs, e⟩ | ⟨hl, hb, hs, hd, e⟩ | ⟨hl, hq, hb, hs, hd, e⟩
    · rw [e] at h; omega
    · have g : (l ++ q)[i]? = l[i]? := List.getElem?_append_left hl
      subst h2
      rw [e, cont_hit (by simp; omega) (g.trans h1)]
    · have g : (l ++ q)[i]? = l[i]? := List.getElem?_append_left hl
      rw [e] at h ⊢
      rw [cont_brk (by simp; omega) (by rw [g]; exact hb)]; exact cont_suffix l q f true (i + 1) h
    · have g : (l ++ q)[i]? = l[i]? := List.getElem?_append_left hl
      rw [e] at h ⊢
      rw [cont_spc (by simp; omega) (by rw [g]; exact hb) (by rw [g]; exact hs)]; exact cont_suffix l q f nl (i + 1) h
    · have g : (l ++ q)[i]? = l[i]? := List.getElem?_append_left hl
      have hr := (dash_room hd).1
      have hd' : dash (l ++ q) i = true := by
        rw [dash_iff] at hd ⊢
        rw [g, List.getElem?_append_left (by omega)]; exact hd
      rw [e] at h ⊢
      have hlt : lineEnd l i < l.length := by
        rcases Nat.lt_or_ge (lineEnd l i) l.length with h' | h'
        · exact h'
        · rw [cont_out (by omega)] at h; omega
      rw [cont_dash (by simp; omega) (by rw [g]; exact hb) (by rw [g]; exact hs) hd', le_append q (by omega) hlt]
      exact cont_suffix l q f nl _ h
    · rw [e] at h; omega

end Go.Proofs.Qxb6604024a.Plain
