/-
  The walks of 'isHex', 'isFlowIndicator', 'isWordChar', 'zzIn': each answers its plain function.
-/
import Derived.Test.Qxb6604183aRows
import Derived.Test.Qxb6604183aShelf
import Derived.Test.Qxb6604183aPlain
import Derived.WalkKit
import Derived.WalkSpells
import Derived.Lib.IndexBytes
namespace Go.Proofs.Qxb6604183a
open Go.RowKit
theorem hide {p : Prop} (h : p) : Hid p := h
theorem ret_bool {a b : Bool} (h : a = b) : Ending.returned (.bool a) = .returned (.bool b) := by rw [h]

set_option maxHeartbeats 400000 in
theorem isHex_any (c : Int) (w : World) :
    Calls Try.prog 26 #[.int .u8 c] w fun e w' => e = .returned (.bool (Plain.hexB c)) ∧ w' = w := by
  obtain ⟨b, hb⟩ : ∃ b, Plain.hexB c = b := ⟨_, rfl⟩
  rw [hb]
  have HB := hide hb
  clear hb
  go_enter Try.func26, Try.ntmps26
  go_wp2
  all_goals
    go_ret
    refine ⟨ret_bool ?_, rfl⟩
    rw [← HB.out, Bool.eq_iff_iff]
    simp [Plain.hexB]
    try omega

set_option maxHeartbeats 400000 in
theorem isFlow_any (c : Int) (w : World) :
    Calls Try.prog 27 #[.int .u8 c] w fun e w' => e = .returned (.bool (Plain.flowB c)) ∧ w' = w := by
  obtain ⟨b, hb⟩ : ∃ b, Plain.flowB c = b := ⟨_, rfl⟩
  rw [hb]
  have HB := hide hb
  clear hb
  go_enter Try.func27, Try.ntmps27
  go_wp2
  all_goals
    go_ret
    refine ⟨ret_bool ?_, rfl⟩
    rw [← HB.out, Bool.eq_iff_iff]
    simp [Plain.flowB]
    try omega

set_option maxHeartbeats 400000 in
theorem isWord_any (c : Int) (w : World) :
    Calls Try.prog 28 #[.int .u8 c] w fun e w' => e = .returned (.bool (Plain.wordB c)) ∧ w' = w := by
  obtain ⟨b, hb⟩ : ∃ b, Plain.wordB c = b := ⟨_, rfl⟩
  rw [hb]
  have HB := hide hb
  clear hb
  go_enter Try.func28, Try.ntmps28
  go_wp2
  all_goals
    go_ret
    refine ⟨ret_bool ?_, rfl⟩
    rw [← HB.out, Bool.eq_iff_iff]
    simp [Plain.wordB]
    try omega


theorem mark_call (c : Int) : ∃ v : Int, decide (0 ≤ v) = Plain.markB c ∧ ∀ w, Calls Try.prog 29 #[.string ⟨#[35, 59, 47, 63, 58, 64, 38, 61, 43, 36, 44, 95, 46, 33, 126, 42, 39, 40, 41, 91, 93]⟩, .int .u8 c] w fun e w' => e = .returned (.int .i64 v) ∧ w' = w :=
  ⟨_, rfl, fun w => Try.strings_IndexByte _ c w⟩

set_option maxHeartbeats 400000 in
theorem in_any (c : Int) (s : ByteArray) (hs : s.size ≤ 1048576) (w : World) :
    Calls Try.prog 22 #[.int .u8 c, .string s] w fun e w' => e = .returned (.bool (Plain.inB s.data.toList c)) ∧ w' = w := by
  obtain ⟨b, hb⟩ : ∃ b, Plain.inB s.data.toList c = b := ⟨_, rfl⟩
  rw [hb]
  have HB := hide hb
  clear hb
  go_enter Try.func22, Try.ntmps22
  go_wp2
  go_loop [5] (fun i => ∃ k : Nat, k ≤ s.size ∧ i = .int .i64 k ∧ Hid (∀ j b, j < k → s.data.toList[j]? = some b → (b.toNat : Int) ≠ c)) (fun i => s.size - (intOf i).toNat)
  case atStart => exact ⟨0, by omega, rfl, fun j b hj => absurd hj (by omega)⟩
  case round =>
    obtain ⟨k, hk, rfl, HQ⟩ := hrel
    by_cases hlt : k < s.size
    · obtain ⟨x, hx⟩ : ∃ x, s[k]'hlt = x := ⟨_, rfl⟩
      have HX : Hid (s.data.toList[k]? = some x) := by
        show _ = _
        rw [← hx]; exact Lib.data_getElem? s k hlt
      by_cases he : (x.toNat : Int) = c
      · have HT : Hid (b = true) := HB.out.symm.trans (by rw [← he]; exact Plain.inB_hit _ k x HX.out)
        subst he
        go_wp2
        go_ret
        exact ⟨ret_bool HT.out.symm, rfl⟩
      · have e1 : ((x.toNat : Int) == c) = false := by rw [beq_eq_false_iff_ne]; exact he
        have HE := hide he
        clear he
        go_wp2
        go_round
        case rel => exact ⟨k + 1, by omega, by go_num, fun j b hj hb => by
          rcases Nat.lt_or_eq_of_le (Nat.le_of_lt_succ hj) with h | h
          · exact HQ.out j b h hb
          · rw [h, HX.out] at hb; cases hb; exact HE.out⟩
        case measure => simp [intOf]; omega
    · have HF : Hid (b = false) := HB.out.symm.trans (Plain.inB_none _ c fun j b hj => HQ.out j b (by
        have := (List.getElem?_eq_some_iff.1 hj).1
        simp at this
        omega) hj)
      go_wp2
      go_ret
      exact ⟨ret_bool HF.out.symm, rfl⟩
end Go.Proofs.Qxb6604183a
