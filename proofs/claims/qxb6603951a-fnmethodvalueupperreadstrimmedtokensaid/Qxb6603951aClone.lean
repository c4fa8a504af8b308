/-
  'Row': what a slice of bytes leads to. The walk of 'zzCloneBytes'.
-/
import Derived.Test.Qxb6603951aBytes
import Derived.Below
import Derived.Lib.SliceRun
import Derived.Laws.CopyOwn
namespace Go.Proofs.Qxb6603951a
open Go.RowKit

/-- The slice at 'a' leads to the numbers 'zs' (nothing is said where there are none). -/
def Row (w : World) (a : Option Addr) (zs : List Int) : Prop :=
  zs = [] ∨ ∃ b off, a = some ⟨b, off, none⟩ ∧ b < w.heap.size ∧ ∀ i, i < zs.length → w.cell? ⟨b, off + i, none⟩ = some (.int .u8 (zs.getD i 0))

theorem Row.below {w w' : World} {a : Option Addr} {zs : List Int} (h : Row w a zs) (hb : Below w.heap.size w w') : Row w' a zs := by
  rcases h with h | ⟨b, off, e, hlt, hc⟩
  · exact .inl h
  · exact .inr ⟨b, off, e, Nat.lt_of_lt_of_le hlt hb.size, fun i hi => (hb.cell (p := ⟨b, off + i, none⟩) hlt).trans (hc i hi)⟩

theorem Row.of_block {w : World} {g : Nat} {zs : List Int} {cur : Array Value} {t : TypeId} {fr : Nat × Nat} (h : w.heap[g]? = some (.cells cur t fr)) (hc : ∀ j, j < zs.length → cur[j]? = some (.int .u8 (zs.getD j 0))) : Row w (some ⟨g, 0, none⟩) zs :=
  .inr ⟨g, 0, rfl, (Array.getElem?_eq_some_iff.1 h).1, fun i hi => by rw [Nat.zero_add, cell_of_row w g i cur t fr h]; exact hc i hi⟩

theorem info5 : (Try.prog.info? 5).map (fun i => (i.zero, i.size, i.bytes)) = some (some (.int .u8 0), 1, 1) := by kernel_rfl

theorem mk_any (n c : Nat) (h : n ≤ c) (hc : c ≤ 1048576) (w : World) :
    (Instr.makeSlice 22 (.int .i64 (n : Int)) (.int .i64 (c : Int))).run Try.prog w = .ok (.slice (some ⟨w.heap.size, 0, none⟩) n c) (w.alloc (.cells (madeCells #[.int .u8 0] c) 5)) := by
  obtain ⟨i, hi, hz0, hz1, hz2⟩ := info_parts info5
  have := run_make (P := Try.prog) w 22 5 i (.int .u8 0) Try.underlying22 hi hz0 .i64 .i64 n c (by omega) (by omega) (by rw [hz2]; omega) (by omega)
  rw [hz1, Int.toNat_natCast, Int.toNat_natCast, Nat.mul_one] at this
  exact this

/-- What the clone's loop keeps: the first k cells are the source's, the others are zero. -/
def Filling (w wr : World) (B n k : Nat) (zs : List Int) : Prop :=
  ∃ cur : Array Value, cur.size = n ∧ (∀ j, j < k → cur[j]? = some (.int .u8 (zs.getD j 0))) ∧ wr.heap[B]? = some (.cells cur 5 (0, 0)) ∧ Below B w wr

theorem filling_start (w : World) (n : Nat) (zs : List Int) : Filling w (w.alloc (.cells (madeCells #[.int .u8 0] n) 5)) w.heap.size n 0 zs :=
  ⟨madeCells #[.int .u8 0] n, size_madeCells _ _, fun j hj => absurd hj (by omega), heap_alloc_new _ _, (Below.refl _ _).alloc (Nat.le_refl _) _⟩

theorem filling_cell {w wr : World} {B n k : Nat} {zs : List Int} (h : Filling w wr B n k zs) (hk : k < n) : ∃ v, wr.cell? ⟨B, k, none⟩ = some v := by
  obtain ⟨cur, hs, _, hg, _⟩ := h
  rw [cell_of_row wr B k cur 5 (0, 0) hg, Array.getElem?_eq_getElem (by omega)]
  exact ⟨_, rfl⟩
theorem filling_free {w wr : World} {B n k : Nat} {zs : List Int} (h : Filling w wr B n k zs) : wr.frozen? ⟨B, k, none⟩ = false := by
  obtain ⟨cur, hs, _, hg, _⟩ := h
  simp [World.frozen?, hg]
theorem filling_step {w wr : World} {B n k : Nat} {zs : List Int} (h : Filling w wr B n k zs) (hk : k < n) (z : Int) (hz : zs.getD k 0 = z) : Filling w (wr.setCell ⟨B, k, none⟩ (.int .u8 z)) B n (k + 1) zs := by
  obtain ⟨cur, hs, hc, hg, hb⟩ := h
  refine ⟨cur.setIfInBounds k (.int .u8 z), by simpa using hs, fun j hj => ?_, ?_, hb.setCell (Nat.le_refl _) _⟩
  · rcases Nat.lt_or_eq_of_le (Nat.le_of_lt_succ hj) with h | h
    · rw [Array.getElem?_setIfInBounds, if_neg (by omega)]; exact hc j h
    · subst h
      rw [Array.getElem?_setIfInBounds, if_pos rfl, if_pos (by omega), hz]
  · rw [setCell_eq_setRow wr B k cur 5 (0, 0) _ hg]
    exact setRow_heap _ _ _ _ _ _ hg

set_option maxHeartbeats 400000 in
theorem clone_any (a : Option Addr) (cap : Nat) (zs : List Int) (w : World) (hr : Row w a zs) (hnil : a = none → zs = [] ∧ cap = 0) (hn : zs.length ≤ 1048576) :
    Calls Try.prog 9 #[.slice a zs.length cap] w fun e w' => ∃ a' cap', e = .returned (.slice a' zs.length cap') ∧ Row w' a' zs ∧ Below w.heap.size w w' := by
  have heq := fun (wx : World) (x : Addr) (n c : Nat) => Lib.run_eql_slice_nil (P := Try.prog) wx 22 5 (some x) n c 0 0 Try.underlying22
  have heq0 := fun (wx : World) => Lib.run_eql_slice_nil (P := Try.prog) wx 22 5 none 0 0 0 0 Try.underlying22
  cases a with
  | none =>
    obtain ⟨rfl, rfl⟩ := hnil rfl
    clear hr hnil
    go_enter Try.func9, Try.ntmps9
    go_wp2
    go_ret
    exact ⟨none, 0, rfl, .inl rfl, Below.refl _ _⟩
  | some x =>
    obtain ⟨n, hn'⟩ : ∃ n, zs.length = n := ⟨_, rfl⟩
    rw [hn'] at hn ⊢
    have HR := hide hr
    have HN := hide hn'
    have hmk := mk_any n n (Nat.le_refl _) hn
    clear hr hnil hn'
    go_enter Try.func9, Try.ntmps9
    go_wp2
    go_loopw [4] (fun i wr => ∃ k : Nat, k ≤ n ∧ i = .int .i64 k ∧ Filling w wr w.heap.size n k zs) (fun i _ => n - (intOf i).toNat)
    case atStart => exact ⟨0, by omega, rfl, filling_start w n zs⟩
    case round =>
      obtain ⟨k, hk, rfl, hfil⟩ := hrel
      have HF := hide hfil
      clear hfil hmk heq heq0
      by_cases hlt : k < n
      · obtain ⟨v, hv⟩ := filling_cell HF.out hlt
        have hfz := filling_free HF.out (k := k)
        obtain ⟨z, hz⟩ : ∃ z, zs.getD k 0 = z := ⟨_, rfl⟩
        have hx : ∃ b off, x = ⟨b, off, none⟩ ∧ wr.cell? ⟨b, off + k, none⟩ = some (.int .u8 z) := by
          rcases HR.out with h | ⟨b, off, e, hlt2, hc⟩
          · exfalso; have := HN.out; rw [h] at this; simp at this; omega
          · obtain ⟨_, _, _, _, hb⟩ := HF.out
            exact ⟨b, off, Option.some.inj e, by rw [hb.cell (p := ⟨b, off + k, none⟩) hlt2, hc k (by rw [HN.out]; exact hlt), hz]⟩
        obtain ⟨b, off, rfl, hcx⟩ := hx
        have R := hide (filling_step HF.out hlt z hz)
        clear hz
        go_wp2
        go_roundw
        case rel => exact ⟨k + 1, by omega, by go_num, R.out⟩
        case measure => simp [intOf]; omega
      · have E : Filling w wr w.heap.size n n zs := (show k = n by omega) ▸ HF.out
        have HE := hide E
        clear E
        go_wp2
        go_ret
        obtain ⟨cur, hs, hc, hg, hb⟩ := HE.out
        exact ⟨_, _, rfl, Row.of_block hg (fun j hj => hc j (by rw [← HN.out]; exact hj)), hb⟩
end Go.Proofs.Qxb6603951a
