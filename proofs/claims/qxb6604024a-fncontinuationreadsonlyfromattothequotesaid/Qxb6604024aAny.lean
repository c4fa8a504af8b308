/-
  strings.IndexAny over the two line breaks, whatever the text's bytes; 'lineEnd'.
-/
import Derived.Test.Qxb6604024aRunes
import Derived.Test.Qxb6604024aDecode
import Derived.Deep.LoopGhost
namespace Go.Proofs.Qxb6604024a
open Go.RowKit

set_option maxHeartbeats 4000000 in
set_option maxRecDepth 1000000 in
theorem indexAny_short (s : ByteArray) (w : World) (h8 : s.size ≤ 8) :
    Calls Try.prog 30 #[.string s, .string ⟨#[10, 13]⟩] w fun e w' => e = .returned (.int .i64 (Lib.indexAny s.data.toList [10, 13])) ∧ Below w.heap.size w w' := by
  have h8z : decide ((8 : Int) < (s.size : Int)) = false := decide_eq_false (by omega)
  have HS := hide (fun wx => Try.strings_shouldUseASCIISet (s.size : Int) wx)
  rw [h8z] at HS
  go_enter Try.func30, Try.ntmps30
  go_wp2_with (go_at_call 33; refine (HS.out _).mono ?_; rintro e w' ⟨rfl, rfl⟩)
  go_loopg [9, 10] s.size (fun g _ _ wx => ∃ i : Nat, i + g = s.size ∧ Hid (wx.heap[w'.heap.size]? = some (.stringIter s i)) ∧ Hid (Below w'.heap.size w' wx) ∧ Hid (Lib.NoAny s.data.toList [10, 13] i))
  case atStart => exact ⟨0, by omega, World.iter_heap _ _ _, (Below.refl _ _).alloc (Nat.le_refl _) _, Lib.NoAny.zero _ _⟩
  case round =>
    obtain ⟨i, hig, H1, H2, H3⟩ := hrel
    cases gk with
    | zero =>
      have hnx := fun ty => Lib.run_next_end_at (P := Try.prog) _ w'.heap.size s i ty H1.out (by omega)
      have HI : Hid (i = s.size) := (by omega : i = s.size)
      go_wp2
      go_ret
      exact ⟨ret_int (by rw [Lib.indexAny_none (by rw [← Lib.size_eq, ← HI.out]; exact H3.out)]), H2.out⟩
    | succ g =>
      have hi : i < s.size := by omega
      have HG : Hid (i + (g + 1) = s.size) := hig
      clear hig
      by_cases hx : (s[i]'hi).toNat < 128
      · obtain ⟨x, hxe⟩ : ∃ x : UInt8, s[i]'hi = x := ⟨_, rfl⟩
        have hxl : s.data.toList[i]? = some x := by rw [← hxe]; exact Lib.data_getElem? s i hi
        have hnx := fun ty => Lib.run_next_ascii_at (P := Try.prog) _ w'.heap.size s i ty H1.out hi hx
        rw [hxe] at hnx hx
        have Hx : Hid (s.data.toList[i]? = some x) := hxl
        have HR := hide (fun wx => Try.strings_IndexRune_ascii ⟨#[10, 13]⟩ (x.toNat : Int) wx (by omega) (by omega))
        have hback : ((x.toNat : Int)).toNat.toUInt8 = x := by simp
        rw [hback] at HR
        have hcon := Lib.contains_iff_indexByte [10, 13] x
        obtain ⟨v, hv⟩ : ∃ v, Lib.indexByte [10, 13] x = v := ⟨_, rfl⟩
        have HR2 : Hid (∀ wx, Calls Try.prog 32 #[.string ⟨#[10, 13]⟩, .int .i32 (x.toNat : Int)] wx fun e w' => e = .returned (.int .i64 v) ∧ w' = wx) := by rw [← hv]; exact HR.out
        rw [hv] at hcon
        clear hv HR hback hxl hxe
        cases hin : ([10, 13] : List UInt8).contains x with
        | false =>
          rw [hin] at hcon
          have hlt : ¬ (0 : Int) ≤ v := of_decide_eq_false hcon.symm
          have HI := hide hin
          clear hcon hin
          go_wp2_with (go_at_call 32; refine (HR2.out _).mono ?_; rintro e w2 ⟨rfl, rfl⟩)
          go_roundg g
          case measure => omega
          case rel => exact ⟨i + 1, by have := HG.out; omega, Lib.iterAt_heap _ _ _ _ _ H1.out, Lib.below_iterAt H2.out (Nat.le_refl _) _ _, H3.out.succ Hx.out HI.out⟩
        | true =>
          rw [hin] at hcon
          have hge : (0 : Int) ≤ v := of_decide_eq_true hcon.symm
          have HI := hide hin
          clear hcon hin
          go_wp2_with (go_at_call 32; refine (HR2.out _).mono ?_; rintro e w2 ⟨rfl, rfl⟩)
          go_ret
          exact ⟨ret_int (by rw [Lib.indexAny_hit H3.out Hx.out HI.out]), Lib.below_iterAt H2.out (Nat.le_refl _) _ _⟩
      · have hx' : 128 ≤ (s.get! i).toNat := by
          have e := get_byte s i hi
          rw [Lib.data_getElem? s i hi] at e
          rw [← Option.some.inj e]
          omega
        have sp := decode_span s i hi hx'
        have hr := (decode_high s i hi (by omega)).1
        have hnx := fun ty => Lib.run_next_any_at (P := Try.prog) _ w'.heap.size s i ty H1.out hi
        obtain ⟨r, hre⟩ : ∃ r, (Utf8.decode s i).1 = r := ⟨_, rfl⟩
        obtain ⟨n, hne⟩ : ∃ n, (Utf8.decode s i).2 = n := ⟨_, rfl⟩
        rw [hre] at hr hnx
        rw [hne] at sp hnx
        have HR := hide (fun wx => rune_high (r : Int) (by omega) wx)
        have HN : Hid (Lib.NoAny s.data.toList [10, 13] (i + n)) := noAny_skip H3.out sp.2.1 sp.2.2
        have hn1 := sp.1
        have hn2 := sp.2.1
        clear sp hre hne hx hx'
        go_wp2_with (go_at_call 32; refine (HR.out _).mono ?_; rintro e w2 ⟨rfl, hb⟩)
        have K1 : w2.heap[w'.heap.size]? = some (.stringIter s (i + n)) := by
          rw [hb.block _ (by rw [Lib.iterAt_size]; exact (Array.getElem?_eq_some_iff.1 H1.out).1)]
          exact Lib.iterAt_heap _ _ _ _ _ H1.out
        have K2 : Below w'.heap.size w' w2 := (Lib.below_iterAt H2.out (Nat.le_refl _) _ _).trans (hb.mono (by rw [Lib.iterAt_size]; exact H2.out.size))
        go_roundg (s.size - (i + n))
        case measure => have := HG.out; omega
        case rel => exact ⟨i + n, by omega, K1, K2, HN⟩
end Go.Proofs.Qxb6604024a
