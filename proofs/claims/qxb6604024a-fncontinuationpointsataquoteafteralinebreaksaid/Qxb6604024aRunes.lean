/-
  strings.IndexRune over the two line breaks, at a rune beyond ASCII: none.
-/
import Derived.Test.Qxb6604024aRows
import Derived.Test.Qxb6604024aShelf
import Derived.WalkKit
import Derived.WalkSpells
import Derived.BigQuiet
import Derived.Deep.QuietTactic
import Derived.Laws.Runes
namespace Go.Proofs.Qxb6604024a
open Go.RowKit
theorem hide {p : Prop} (h : p) : Hid p := h
theorem ret_bool {a b : Bool} (h : a = b) : Ending.returned (.bool a) = .returned (.bool b) := by rw [h]
theorem ret_int {a b : Int} (h : a = b) : Ending.returned (.int .i64 a) = .returned (.int .i64 b) := by rw [h]

theorem below_draws {B : Nat} {w w' : World} (h : Below B w w') (k : Nat) : Below B w (w'.drewN k) := ⟨h.os, h.tape, h.output, h.size, h.block⟩

set_option maxHeartbeats 2000000 in
set_option maxRecDepth 1000000 in
theorem rune_error (w : World) :
    Calls Try.prog 32 #[.string ⟨#[10, 13]⟩, .int .i32 65533] w fun e w' => e = .returned (.int .i64 (-1)) ∧ Below w.heap.size w w' := by
  have hn0 := fun ty => run_next_ascii (P := Try.prog) w ⟨#[10, 13]⟩ 0 ty (by decide) (by decide)
  have hn1 := fun ty => run_next_ascii (P := Try.prog) w ⟨#[10, 13]⟩ 1 ty (by decide) (by decide)
  have hn2 := fun ty => run_next_end (P := Try.prog) w ⟨#[10, 13]⟩ 2 ty (by decide)
  go_enter Try.func32, Try.ntmps32
  go_wp2
  refine wp_loop_rounds 3 ?_
  rw [rounds_succ]
  go_wp2
  rw [rounds_succ]
  go_wp2
  rw [rounds_succ]
  go_wp2
  go_ret
  exact ⟨rfl, (Below.refl _ _).alloc (Nat.le_refl _) _⟩

set_option maxHeartbeats 2000000 in
set_option maxRecDepth 1000000 in
theorem rune_valid (r : Int) (h : 128 ≤ r) (h2 : r ≠ 65533) (w : World) :
    Calls Try.prog 32 #[.string ⟨#[10, 13]⟩, .int .i32 r] w fun e w' => e = .returned (.int .i64 (-1)) ∧ Below w.heap.size w w' := by
  have hne : (r == 65533) = false := by rw [beq_eq_false_iff_ne]; exact h2
  obtain ⟨v, hv⟩ : ∃ v, Lib.validRune r = v := ⟨_, rfl⟩
  have HV := hide (Try.utf8_ValidRune r)
  rw [hv] at HV
  clear h2
  cases v with
  | false =>
    clear hv
    go_enter Try.func32, Try.ntmps32
    go_wp2_with (go_at_call 36; refine (HV.out _).mono ?_; rintro e w' ⟨rfl, rfl⟩)
    go_ret
    exact ⟨rfl, Below.refl _ _⟩
  | true =>
    have hval : Utf8.valid r = true := by
      unfold Lib.validRune at hv
      unfold Utf8.valid
      simp at hv ⊢
      omega
    obtain ⟨e1, e2, e3⟩ := encode_facts r hval h
    obtain ⟨E, hE⟩ : ∃ E, Utf8.encode r = E := ⟨_, rfl⟩
    have hcv : ∀ wx, (convert 21 9 (.int .i32 r)).run Try.prog wx = .ok (.string E) wx := fun wx => by
      rw [run_convert_int_string wx 21 9 .i32 r (by rw [Try.underlying21]; rfl) Try.underlying9, hE]
    rw [hE] at e1 e2 e3
    clear hE hval hv
    by_cases h2 : E.size = 2
    · have hlt : 1 < E.size := by omega
      have hy : 128 ≤ (E[1]'hlt).toNat := by
        have := e3 (by omega)
        simp only [h2] at this
        exact this
      clear e1 e2 e3
      obtain ⟨y, hyy⟩ : ∃ y : Nat, (E[1]'hlt).toNat = y := ⟨_, rfl⟩
      rw [hyy] at hy
      have hne2 : ((((⟨#[10, 13]⟩ : ByteArray)[1]'(by decide)).toNat : Int) != (y : Int)) = true := by
        rw [bne_iff_ne]
        show (13 : Int) ≠ y
        omega
      have hsl : ∀ wx, (Instr.slice 9 (.string ⟨#[10, 13]⟩) (some (.int .i64 (IntKind.i64.wrap 2))) none none).run Try.prog wx = .ok (.string ByteArray.empty) wx := fun _ => by kernel_rfl
      have HB : Hid (∀ wx, Calls Try.prog 24 #[.string ByteArray.empty, .int .u8 y] wx fun e w' => e = .returned (.int .i64 (-1)) ∧ w' = wx) := fun wx => Try.strings_IndexByte _ _ wx
      go_enter Try.func32, Try.ntmps32
      go_wp2_with (go_at_call 36; refine (HV.out _).mono ?_; rintro e w' ⟨rfl, rfl⟩)
      go_step3
      go_wp2
      refine wp_loop_rounds 1 ?_
      rw [rounds_succ]
      go_wp2
      go_step3
      go_wp2
      go_quiet (fail)
      go_wp2
      go_quiet ((go_at_call 24; exact (HB.out _).mono fun _ _ h => ⟨h.1, ⟨_, h.2⟩⟩))
      go_wp2
      simp only [Exit.noGoto_ret, Exit.inBlock, Exit.then]
      go_ret
      exact ⟨rfl, below_draws (Below.refl _ _) _⟩
    · clear e3
      go_enter Try.func32, Try.ntmps32
      go_wp2_with (go_at_call 36; refine (HV.out _).mono ?_; rintro e w' ⟨rfl, rfl⟩)
      go_step3
      go_wp2
      refine wp_loop_rounds 1 ?_
      rw [rounds_succ]
      go_wp2
      rw [Exit.noGoto_ret]
      go_ret
      exact ⟨rfl, Below.refl _ _⟩

theorem rune_high (r : Int) (h : 128 ≤ r) (w : World) :
    Calls Try.prog 32 #[.string ⟨#[10, 13]⟩, .int .i32 r] w fun e w' => e = .returned (.int .i64 (-1)) ∧ Below w.heap.size w w' := by
  by_cases h2 : r = 65533
  · subst h2; exact rune_error w
  · exact rune_valid r h h2 w
end Go.Proofs.Qxb6604024a
