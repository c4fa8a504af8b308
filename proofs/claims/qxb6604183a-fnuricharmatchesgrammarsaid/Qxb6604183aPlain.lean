/-
  The plain side of 'uriChar': which bytes stand where, and what is passed over. No Go here.
-/
import Derived.Lib.Strings
import Derived.Lib.Index
import Derived.Lib.IndexLaws
namespace Go.Proofs.Qxb6604183a.Plain

def hexB (c : Int) : Bool := decide (48 ≤ c ∧ c ≤ 57 ∨ 97 ≤ c ∧ c ≤ 102 ∨ 65 ≤ c ∧ c ≤ 70)
def wordB (c : Int) : Bool := decide (48 ≤ c ∧ c ≤ 57 ∨ 97 ≤ c ∧ c ≤ 122 ∨ 65 ≤ c ∧ c ≤ 90 ∨ c = 45)
def flowB (c : Int) : Bool := decide (c = 44 ∨ c = 91 ∨ c = 93 ∨ c = 123 ∨ c = 125)
def markB (c : Int) : Bool := decide (0 ≤ Lib.indexByte [35, 59, 47, 63, 58, 64, 38, 61, 43, 36, 44, 95, 46, 33, 126, 42, 39, 40, 41, 91, 93] c.toNat.toUInt8)

/-- Is the byte among the text's? -/
def inB (s : List UInt8) (c : Int) : Bool := s.any fun b => (b.toNat : Int) == c

/-- May this byte stand alone? -/
def okB (t : Bool) (c : Int) : Bool := !(c == 37) && !(t && (c == 33 || flowB c)) && (wordB c || markB c)

def hexA : List UInt8 := [48, 49, 50, 51, 52, 53, 54, 55, 56, 57, 97, 98, 99, 100, 101, 102, 65, 66, 67, 68, 69, 70]
def uriA : List UInt8 := [48, 49, 50, 51, 52, 53, 54, 55, 56, 57, 97, 98, 99, 100, 101, 102, 103, 104, 105, 106, 107, 108, 109, 110, 111, 112, 113, 114, 115, 116, 117, 118, 119, 120, 121, 122, 65, 66, 67, 68, 69, 70, 71, 72, 73, 74, 75, 76, 77, 78, 79, 80, 81, 82, 83, 84, 85, 86, 87, 88, 89, 90, 45, 35, 59, 47, 63, 58, 64, 38, 61, 43, 36, 44, 95, 46, 33, 126, 42, 39, 40, 41, 91, 93]
def tagA : List UInt8 := [48, 49, 50, 51, 52, 53, 54, 55, 56, 57, 97, 98, 99, 100, 101, 102, 103, 104, 105, 106, 107, 108, 109, 110, 111, 112, 113, 114, 115, 116, 117, 118, 119, 120, 121, 122, 65, 66, 67, 68, 69, 70, 71, 72, 73, 74, 75, 76, 77, 78, 79, 80, 81, 82, 83, 84, 85, 86, 87, 88, 89, 90, 45, 35, 59, 47, 63, 58, 64, 38, 61, 43, 36, 95, 46, 126, 42, 39, 40, 41]

theorem hex_all : ∀ n : Fin 256, inB hexA n.val = hexB n.val := by decide +kernel
theorem uri_all : ∀ n : Fin 256, inB uriA n.val = okB false n.val := by decide +kernel
theorem tag_all : ∀ n : Fin 256, inB tagA n.val = okB true n.val := by decide +kernel
theorem hex_in (c : Int) (h0 : 0 ≤ c) (h1 : c ≤ 255) : inB hexA c = hexB c := by
  have := hex_all ⟨c.toNat, by omega⟩
  simp only [Int.toNat_of_nonneg h0] at this
  exact this
theorem single_in (t : Bool) (c : Int) (h0 : 0 ≤ c) (h1 : c ≤ 255) : inB (if t = true then tagA else uriA) c = okB t c := by
  cases t with
  | true =>
    have := tag_all ⟨c.toNat, by omega⟩
    simp only [Int.toNat_of_nonneg h0] at this
    exact this
  | false =>
    have := uri_all ⟨c.toNat, by omega⟩
    simp only [Int.toNat_of_nonneg h0] at this
    exact this

theorem ok37 (t : Bool) : okB t 37 = false := by cases t <;> rfl

theorem inB_hit (s : List UInt8) (k : Nat) (b : UInt8) (h : s[k]? = some b) : inB s b.toNat = true := by
  unfold inB
  rw [List.any_eq_true]
  exact ⟨b, List.mem_of_getElem? h, by simp⟩
theorem inB_none (s : List UInt8) (c : Int) (h : ∀ (k : Nat) (b : UInt8), s[k]? = some b → (b.toNat : Int) ≠ c) : inB s c = false := by
  unfold inB
  rw [List.any_eq_false]
  intro b hb
  obtain ⟨k, hk⟩ := List.getElem?_of_mem hb
  have := h k b hk
  simpa using this
end Go.Proofs.Qxb6604183a.Plain
