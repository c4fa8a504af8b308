/-
  The walk of 'FnUriCharMatchesGrammar' where its bounds hold.
-/
import Derived.Test.Qxb6604183aModel
namespace Go.Proofs.Qxb6604183a
open Go.RowKit

theorem info5 : (Try.prog.info? 5).map (fun i => (i.zero, i.size, i.bytes)) = some (some (.int .u8 0), 1, 1) := by kernel_rfl
theorem mk_any (n c : Nat) (h : n ≤ c) (hc : c ≤ 1048576) (w : World) :
    (Instr.makeSlice 22 (.int .i64 (n : Int)) (.int .i64 (c : Int))).run Try.prog w = .ok (.slice (some ⟨w.heap.size, 0, none⟩) n c) (w.alloc (.cells (madeCells #[.int .u8 0] c) 5)) := by
  obtain ⟨i, hi, hz0, hz1, hz2⟩ := info_parts info5
  have := run_make (P := Try.prog) w 22 5 i (.int .u8 0) Try.underlying22 hi hz0 .i64 .i64 n c (by omega) (by omega) (by rw [hz2]; omega) (by omega)
  rw [hz1, Int.toNat_natCast, Int.toNat_natCast, Nat.mul_one] at this
  exact this

/-- The copied row. -/
theorem row_copied {w : World} {g : Nat} {zs : List Int} (h : w.heap[g]? = some (.cells (splice (madeCells #[.int .u8 0] zs.length).toList 0 (zs.map (Value.int .u8))).toArray 5 (0, 0))) : Row w (some ⟨g, 0, none⟩) zs := by
  refine .inr ⟨g, 0, rfl, (Array.getElem?_eq_some_iff.1 h).1, fun i hi => ?_⟩
  rw [Nat.zero_add, cell_of_row w g i _ 5 (0, 0) h]
  simp [splice, List.getElem?_append, hi, List.getD]

set_option maxHeartbeats 1600000 in
theorem law_walk (cap k : Nat) (zs : List Int) (a : Option Addr) (t : Bool) (w : World) (hr : Row w a zs) (hnil : a = none → zs = [] ∧ cap = 0) (hl : zs.length ≤ 1048576) (hk : k ≤ zs.length) (hby : ∀ z ∈ zs, 0 ≤ z ∧ z ≤ 255) :
    Calls Try.prog 3 #[.slice a zs.length cap, .int .i64 (k : Int), .bool t] w fun e w' => e = .returned (.bool true) ∧ Below w.heap.size w w' := by
  have HZ := hide (fun a' cap' (W : World) (h : Row W a' zs) => zz_any cap' k zs a' t W h hl hk)
  have HM := hide (fun a' cap' (W : World) (h : Row W a' zs) => model_any cap' k zs a' t W h hl hk hby)
  obtain ⟨k', b', hR⟩ : ∃ k' b', res zs k t = (k', b') := ⟨_, _, rfl⟩
  rw [hR] at HZ HM
  clear hR hby
  have heq := fun (wx : World) (x : Addr) (n c : Nat) => run_neq_slice_nil_any (P := Try.prog) wx 22 5 (some x) n c 0 0 Try.underlying22
  have heq0 := fun (wx : World) => run_neq_slice_nil_any (P := Try.prog) wx 22 5 none 0 0 0 0 Try.underlying22
  cases a with
  | none =>
    obtain ⟨rfl, rfl⟩ := hnil rfl
    obtain rfl : k = 0 := by simpa using hk
    have hr0 : ∀ W a', Row W a' [] := fun W a' => .inl rfl
    have HR := hide hr0
    clear hr hnil hr0
    go_enter Try.func3, Try.ntmps3
    go_wp2_with (first | (go_at_call 7; go_in) | (go_at_call 8; refine (HZ.out _ _ _ (HR.out _ _)).mono ?_; rintro e w1 ⟨rfl, hb1⟩) | (go_at_call 9; refine (HM.out _ _ _ (HR.out _ _)).mono ?_; rintro e w2 ⟨rfl, rfl⟩))
    go_ret
    exact ⟨rfl, hb1⟩
  | some x =>
    obtain ⟨len, hL⟩ : ∃ len, zs.length = len := ⟨_, rfl⟩
    rw [hL] at hl hk HZ HM ⊢
    have HL := hide hL
    have HR := hide hr
    have hmk := mk_any len len (Nat.le_refl _) hl
    clear hr hnil hL
    go_enter Try.func3, Try.ntmps3
    go_wp2_with (first | (go_at_call 7; go_in) | (refine wpList_copy_splice rfl (.tmp 33) (.tmp 34) 22 22 rfl 5 Try.underlying22 (by kernel_rfl) (some ⟨w.heap.size, 0, none⟩) (some x) len len len cap rfl rfl w.heap.size 0 (madeCells #[.int .u8 0] len).toList 5 ?hg (zs.map (Value.int .u8)) ?hn ?hpos ?hfit ?h1 w.heap.size w ?hb (Nat.le_refl _) ?_))
    case hg => exact (Array.getElem?_eq_some_iff.1 (heap_alloc_new w (.cells (madeCells #[.int .u8 0] len) 5))).2
    case hn => simp [HL.out]
    case hfit => simp [HL.out, size_madeCells]
    case h1 => exact fun _ _ => rfl
    case hb => exact (Below.refl _ _).alloc (Nat.le_refl _) _
    case hpos =>
      intro h0
      rcases HR.out with h | ⟨b, off, e, hb, hc⟩
      · rw [h] at h0; simp at h0
      · cases e
        intro j z hz
        have hj : j < zs.length := (List.getElem?_eq_some_iff.1 hz).1
        rw [Addr.add_lit, World.cell?_alloc_past _ _ _ hb, hc j hj]
        simp [List.getD, hz]
    intro w1 hg1 hb1
    have HR1 : Hid (Row w1 (some ⟨w.heap.size, 0, none⟩) zs) := row_copied (by rw [HL.out]; exact hg1.out)
    have HB1 := hide hb1
    clear hmk hg1 hb1
    go_wp2_with (first | (go_at_call 8; refine (HZ.out _ _ _ HR1.out).mono ?_; rintro e w2 ⟨rfl, hb2⟩) | (go_at_call 9; refine (HM.out _ _ _ (HR1.out.below hb2)).mono ?_; rintro e w3 ⟨rfl, rfl⟩))
    go_ret
    exact ⟨rfl, HB1.out.trans (hb2.mono HB1.out.size)⟩
end Go.Proofs.Qxb6604183a
