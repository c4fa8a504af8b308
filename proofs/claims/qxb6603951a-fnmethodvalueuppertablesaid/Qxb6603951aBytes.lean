/-
  The walks of 'isTokenByte' and 'zzIsTChar': both answer the plain 'tok'.
-/
import Derived.Test.Qxb6603951aRows
import Derived.Test.Qxb6603951aShelf
import Derived.Test.Qxb6603951aPlain
import Derived.WalkKit
import Derived.WalkSpells
namespace Go.Proofs.Qxb6603951a
open Go.RowKit
theorem hide {p : Prop} (h : p) : Hid p := h
theorem ret_bool {a b : Bool} (h : a = b) : Ending.returned (.bool a) = .returned (.bool b) := by rw [h]

set_option maxHeartbeats 400000 in
theorem isTokenByte_any (c : Int) (w : World) :
    Calls Try.prog 19 #[.int .u8 c] w fun e w' => e = .returned (.bool (Plain.tok c)) ∧ w' = w := by
  obtain ⟨b, hb⟩ : ∃ b, Plain.tok c = b := ⟨_, rfl⟩
  rw [hb]
  by_cases a : c < 127
  · by_cases a2 : 32 < c
    · have e := Plain.tok_index c a a2
      have H := hide (Try.strings_IndexByte ⟨#[34, 40, 41, 44, 47, 58, 59, 60, 61, 62, 63, 64, 91, 92, 93, 123, 125]⟩ c)
      have H2 : ∀ w, Calls Try.prog 21 #[.string ⟨#[34, 40, 41, 44, 47, 58, 59, 60, 61, 62, 63, 64, 91, 92, 93, 123, 125]⟩, .int .u8 c] w fun e w' => e = .returned (.int .i64 (Lib.indexByte [34, 40, 41, 44, 47, 58, 59, 60, 61, 62, 63, 64, 91, 92, 93, 123, 125] c.toNat.toUInt8)) ∧ w' = w := H.out
      obtain ⟨x, hx⟩ : ∃ x, Lib.indexByte [34, 40, 41, 44, 47, 58, 59, 60, 61, 62, 63, 64, 91, 92, 93, 123, 125] c.toNat.toUInt8 = x := ⟨_, rfl⟩
      rw [hx] at e H2
      rw [hb] at e
      have HC := hide H2
      have HE : Hid (decide (x < 0) = b) := e
      clear H H2 hx hb e
      go_enter Try.func19, Try.ntmps19
      go_wp2_with (go_at_call 21; refine (HC.out _).mono ?_; rintro e w' ⟨rfl, rfl⟩)
      go_ret
      exact ⟨ret_bool HE.out, rfl⟩
    · have hf : b = false := hb.symm.trans (Plain.tok_low c a2)
      subst hf
      clear hb
      go_enter Try.func19, Try.ntmps19
      go_wp2
      go_ret
      exact ⟨rfl, rfl⟩
  · have hf : b = false := hb.symm.trans (Plain.tok_high c a)
    subst hf
    clear hb
    go_enter Try.func19, Try.ntmps19
    go_wp2
    go_ret
    exact ⟨rfl, rfl⟩

theorem getD_of (l : List Int) (k : Nat) (h : k < l.length) : l.getD k 0 = l[k] := by simp [List.getD, h]
theorem mark_at (k : Nat) (h : k < (⟨#[33, 35, 36, 37, 38, 39, 42, 43, 45, 46, 94, 95, 96, 124, 126]⟩ : ByteArray).size) : (((⟨#[33, 35, 36, 37, 38, 39, 42, 43, 45, 46, 94, 95, 96, 124, 126]⟩ : ByteArray)[k]'h).toNat : Int) = ([33, 35, 36, 37, 38, 39, 42, 43, 45, 46, 94, 95, 96, 124, 126] : List Int).getD k 0 := by
  have h' : k < 15 := h
  match k, h' with
  | 0, _ => rfl
  | 1, _ => rfl
  | 2, _ => rfl
  | 3, _ => rfl
  | 4, _ => rfl
  | 5, _ => rfl
  | 6, _ => rfl
  | 7, _ => rfl
  | 8, _ => rfl
  | 9, _ => rfl
  | 10, _ => rfl
  | 11, _ => rfl
  | 12, _ => rfl
  | 13, _ => rfl
  | 14, _ => rfl
theorem mark_hit (c : Int) (k : Nat) (h : k < (⟨#[33, 35, 36, 37, 38, 39, 42, 43, 45, 46, 94, 95, 96, 124, 126]⟩ : ByteArray).size) (e : (c == (((⟨#[33, 35, 36, 37, 38, 39, 42, 43, 45, 46, 94, 95, 96, 124, 126]⟩ : ByteArray)[k]'h).toNat : Int)) = true) : Plain.tok c = true := by
  rw [beq_iff_eq, mark_at] at e
  refine Plain.tok_mark_all c ?_
  have h' : k < ([33, 35, 36, 37, 38, 39, 42, 43, 45, 46, 94, 95, 96, 124, 126] : List Int).length := h
  rw [e, getD_of _ _ h']
  exact List.getElem_mem h'
theorem mark_miss (c : Int) (k : Nat) (h : k < (⟨#[33, 35, 36, 37, 38, 39, 42, 43, 45, 46, 94, 95, 96, 124, 126]⟩ : ByteArray).size) (e : (c == (((⟨#[33, 35, 36, 37, 38, 39, 42, 43, 45, 46, 94, 95, 96, 124, 126]⟩ : ByteArray)[k]'h).toNat : Int)) = false) : ([33, 35, 36, 37, 38, 39, 42, 43, 45, 46, 94, 95, 96, 124, 126] : List Int).getD k 0 ≠ c := by
  rw [beq_eq_false_iff_ne, mark_at] at e
  exact fun h => e h.symm
theorem mark_none (c : Int) (h0 : 0 ≤ c) (h1 : c ≤ 255) (a : ¬ (48 ≤ c ∧ c ≤ 57)) (b : ¬ (65 ≤ c ∧ c ≤ 90)) (d : ¬ (97 ≤ c ∧ c ≤ 122)) (h : ∀ j, j < 15 → ([33, 35, 36, 37, 38, 39, 42, 43, 45, 46, 94, 95, 96, 124, 126] : List Int).getD j 0 ≠ c) : Plain.tok c = false := by
  refine Plain.tok_none c h0 h1 a b d fun hm => ?_
  obtain ⟨j, hj, e⟩ := List.getElem_of_mem hm
  have := h j hj
  rw [getD_of _ _ hj] at this
  exact this e

set_option maxHeartbeats 1000000 in
theorem isTChar_any (c : Int) (h0 : 0 ≤ c) (h1 : c ≤ 255) (w : World) :
    Calls Try.prog 11 #[.int .u8 c] w fun e w' => e = .returned (.bool (Plain.tok c)) ∧ w' = w := by
  obtain ⟨b, hb⟩ : ∃ b, Plain.tok c = b := ⟨_, rfl⟩
  rw [hb]
  by_cases a1 : 48 ≤ c ∧ c ≤ 57
  · have hf : b = true := hb.symm.trans (Plain.tok_letter c (.inl a1))
    subst hf
    clear hb
    obtain ⟨x1, x2⟩ := a1
    go_enter Try.func11, Try.ntmps11
    go_wp2
    go_ret
    exact ⟨rfl, rfl⟩
  · by_cases a2 : 65 ≤ c ∧ c ≤ 90
    · have hf : b = true := hb.symm.trans (Plain.tok_letter c (.inr (.inl a2)))
      subst hf
      clear hb
      obtain ⟨x1, x2⟩ := a2
      go_enter Try.func11, Try.ntmps11
      go_wp2
      go_ret
      exact ⟨rfl, rfl⟩
    · by_cases a3 : 97 ≤ c ∧ c ≤ 122
      · have hf : b = true := hb.symm.trans (Plain.tok_letter c (.inr (.inr a3)))
        subst hf
        clear hb
        obtain ⟨x1, x2⟩ := a3
        go_enter Try.func11, Try.ntmps11
        go_wp2
        go_ret
        exact ⟨rfl, rfl⟩
      · have HB : Hid (Plain.tok c = b) := hb
        clear hb
        go_enter Try.func11, Try.ntmps11
        go_wp2
        all_goals
          go_loop [3] (fun i => ∃ k : Nat, k ≤ 15 ∧ i = .int .i64 k ∧ ∀ j, j < k → ([33, 35, 36, 37, 38, 39, 42, 43, 45, 46, 94, 95, 96, 124, 126] : List Int).getD j 0 ≠ c) (fun i => (15 - (intOf i).toNat))
          case atStart => exact ⟨0, by omega, rfl, fun j hj => absurd hj (by omega)⟩
          case round =>
            obtain ⟨k, hk, rfl, hq⟩ := hrel
            have HQ := hide hq
            clear hq
            by_cases hlt : k < 15
            · go_wp2
              · have hb := HB.out.symm.trans (mark_hit c k _ (by assumption))
                rw [hb]
                go_ret
                exact ⟨rfl, rfl⟩
              · have hm := mark_miss c k _ (by assumption)
                go_round
                case rel => exact ⟨k + 1, by omega, by go_num, fun j hj => by
                  rcases Nat.lt_or_eq_of_le (Nat.le_of_lt_succ hj) with h | h
                  · exact HQ.out j h
                  · rw [h]; exact hm⟩
                case measure => simp [intOf]; omega
            · go_wp2
              go_ret
              exact ⟨ret_bool ((mark_none c h0 h1 (by omega) (by omega) (by omega) (fun j hj => HQ.out j (by omega))).symm.trans HB.out), rfl⟩
end Go.Proofs.Qxb6603951a
