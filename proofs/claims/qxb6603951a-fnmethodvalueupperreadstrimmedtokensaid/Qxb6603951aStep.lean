/-
  The walk of 'ZZMethodValueUpper': a fresh method value, one step, its parts.
-/
import Derived.Test.Qxb6603951aUpper
namespace Go.Proofs.Qxb6603951a
open Go.RowKit

theorem owns_copied {w : World} {B g n : Nat} {zs : List Int} (hB : B ≤ g) (hlen : zs.length ≤ n) (hn : n ≤ 65536)
    (h : w.heap[g]? = some (.cells (splice (madeCells #[.int .u8 0] n).toList 0 (cells8 zs)).toArray 5 (0, 0))) :
    w.ownsRow B 5 1 (.slice (some ⟨g, 0, none⟩) zs.length n) zs.length (cells8 zs) := by
  refine ⟨by simp, .inr ⟨g, n, _, rfl, hB, h, hlen, by unfold maxLen; omega, ?_, ?_⟩⟩
  · rw [List.size_toArray, length_splice _ _ _ (by simp [size_madeCells]; exact hlen)]
    simp [size_madeCells]
  · simp [splice]

theorem row_of_owns {w : World} {B g n : Nat} {zs : List Int} (h : w.ownsRow B 5 1 (.slice (some ⟨g, 0, none⟩) zs.length n) zs.length (cells8 zs)) : Row w (some ⟨g, 0, none⟩) zs := by
  refine .inr ⟨g, 0, rfl, (h.lt g rfl).2, fun i hi => ?_⟩
  rw [Nat.zero_add, h.cellAt i (by omega)]
  simp [cells8, List.getD, hi]

theorem below_draws {B : Nat} {w w' : World} (h : Below B w w') (k : Nat) : Below B w (w'.drewN k) := ⟨h.os, h.tape, h.output, h.size, h.block⟩

set_option maxHeartbeats 800000 in
theorem zz_any (a : Option Addr) (cap n : Nat) (zs : List Int) (p l c : Int) (W : World) (hr : Row W a zs) (hlen : zs.length ≤ n) (hn : n ≤ 65536) :
    Calls Try.prog 10 #[.slice a zs.length cap, .int .i64 n, .int .i64 p, .int .u8 l, .int .u8 c] W fun e w' =>
      e = .returned (.tuple #[.slice (some ⟨W.heap.size, 0, none⟩) (Plain.stepM zs n p c).length n, .int .i64 (Plain.stepP p c), .int .u8 l]) ∧ Row w' (some ⟨W.heap.size, 0, none⟩) (Plain.stepM zs n p c) ∧ Below W.heap.size W w' := by
  obtain ⟨len, hL⟩ : ∃ len, zs.length = len := ⟨_, rfl⟩
  rw [hL] at hlen ⊢
  have HL := hide hL
  have HR := hide hr
  have hmk := mk_any len n hlen (by omega)
  clear hL hr
  go_enter Try.func10, Try.ntmps10
  go_wp2_with (refine wpList_copy_splice rfl (.tmp 19) (.tmp 20) 22 22 rfl 5 Try.underlying22 (by kernel_rfl) (some ⟨W.heap.size, 0, none⟩) a len n len cap rfl rfl W.heap.size 0 (madeCells #[.int .u8 0] n).toList 5 ?hg (cells8 zs) ?hn ?hpos ?hfit ?h1 W.heap.size W ?hb (Nat.le_refl _) ?_)
  case hg => exact heap_alloc_new _ _
  case hn => simp [HL.out]
  case hfit => simp [HL.out, size_madeCells]; exact hlen
  case h1 => exact ints_oneCell _ _
  case hb => exact (Below.refl _ _).alloc (Nat.le_refl _) _
  case hpos =>
    intro h0
    rcases HR.out with h | ⟨b, off, e, hb, hc⟩
    · rw [h] at h0; simp at h0
    · refine ⟨_, e, fun j z hz => ?_⟩
      have hj : j < zs.length := (List.getElem?_eq_some_iff.1 hz).1
      rw [Addr.add_lit, World.cell?_alloc_past _ _ _ hb, hc j hj]
      simp [List.getD, hz]
  intro w1 hg1 hb1
  have hlt : W.heap.size < w1.heap.size := (Array.getElem?_eq_some_iff.1 hg1.out).1
  have HO := fun o => hide ((owns_copied (Nat.le_refl W.heap.size) (by rw [HL.out]; exact hlen) hn hg1.out).alloc o)
  clear hmk hg1
  have HU := hide (fun v => upper_any W.heap.size W.heap.size w1.heap.size n zs p c (w1.alloc (.cells #[.pointer none, .slice (some ⟨W.heap.size, 0, none⟩) len n, .int .i64 p, v] 42)) (by omega) (Nat.le_refl _) (by omega) (HO _).out (by rw [HL.out]; simp) (by simp) (by simp) (by simp))
  clear HO
  go_wp2_with (go_at_call 17; refine (HU.out _).mono ?_; rintro e w2 ⟨rfl, hst⟩)
  have k1 := hst.method
  have k2 := hst.place
  have k3 := hst.lead
  have k3' : w2.cell? ⟨w1.heap.size, 3, none⟩ = some (.int .u8 l) := k3.trans (by simp)
  have HS := hide hst
  clear hst k3 HU
  go_quiet (fail)
  go_wp2
  go_ret3
  exact ⟨rfl, row_of_owns HS.out.own, below_draws ((hb1.alloc (by omega) _).trans HS.out.below) _⟩
end Go.Proofs.Qxb6603951a
