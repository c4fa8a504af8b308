/-
  The walks of 'lineEnd' and 'continuation': they answer the plain functions.
-/
import Derived.Test.Qxb6604024aAny
import Derived.Test.Qxb6604024aPlain
import Derived.Lib.IndexBytes
namespace Go.Proofs.Qxb6604024a
open Go.RowKit

theorem info40 : (Try.prog.info? 40).map (fun i => (i.zero, i.size)) = some (some (.agg (Array.replicate 256 (.bool false))), 256) := by kernel_rfl

theorem indexAny_any (s : ByteArray) (w : World) (hs : s.size ≤ 1048576) :
    Calls Try.prog 30 #[.string s, .string ⟨#[10, 13]⟩] w fun e w' => e = .returned (.int .i64 (Lib.indexAny s.data.toList [10, 13])) ∧ Below w.heap.size w w' := by
  by_cases h8 : s.size ≤ 8
  · exact indexAny_short s w h8
  · refine (Try.strings_IndexAny_long (zero_of_info info40).1 s ⟨#[10, 13]⟩ w (by decide) (by omega) (by omega) (by decide) ?_).mono ?_
    · intro j b hj
      match j, hj with
      | 0, hj => cases hj; decide
      | 1, hj => cases hj; decide
    · rintro e w' ⟨rfl, rfl⟩
      exact ⟨rfl, ((Below.refl _ _).alloc (Nat.le_refl _) _).alloc (by simp) _⟩

theorem any_at (s : ByteArray) (k : Nat) (x : Int) (hs : s.size ≤ 1048576) (h : Lib.indexAny (s.data.toList.drop k) [10, 13] = x) (w : World) :
    Calls Try.prog 30 #[.string (s.extract k s.size), .string ⟨#[10, 13]⟩] w fun e w' => e = .returned (.int .i64 x) ∧ Below w.heap.size w w' := by
  have c := indexAny_any (s.extract k s.size) w (by rw [ByteArray.size_extract]; omega)
  rw [Lib.extract_to_end, h] at c
  exact c

set_option maxHeartbeats 400000 in
theorem lineEnd_any (s : ByteArray) (k : Nat) (hs : s.size ≤ 1048576) (hk : k ≤ s.size) (w : World) :
    Calls Try.prog 27 #[.string s, .int .i64 k, .string ⟨#[10, 13]⟩] w fun e w' => e = .returned (.int .i64 (Plain.lineEnd s.data.toList k : Nat)) ∧ Below w.heap.size w w' := by
  obtain ⟨x, hx⟩ : ∃ x, Lib.indexAny (s.data.toList.drop k) [10, 13] = x := ⟨_, rfl⟩
  have HC := hide (any_at s k x hs hx)
  by_cases h0 : 0 ≤ x
  · have hle : x ≤ s.size := by
      have := Plain.le_le (l := s.data.toList) (i := k) (by simpa using hk)
      unfold Plain.lineEnd at this
      rw [hx, if_pos h0] at this
      simp at this
      omega
    have HR : Hid ((Plain.lineEnd s.data.toList k : Nat) = k + x.toNat) := by
      show Plain.lineEnd _ _ = _
      unfold Plain.lineEnd; rw [hx, if_pos h0]
    clear hx
    go_enter Try.func27, Try.ntmps27
    go_wp2_with (go_at_call 30; refine (HC.out _).mono ?_; rintro e w1 ⟨rfl, hb⟩)
    go_ret
    exact ⟨ret_int (by rw [HR.out]; omega), hb⟩
  · have HR : Hid ((Plain.lineEnd s.data.toList k : Nat) = s.size) := by
      show Plain.lineEnd _ _ = _
      unfold Plain.lineEnd; rw [hx, if_neg h0]; simp
    clear hx
    go_enter Try.func27, Try.ntmps27
    go_wp2_with (go_at_call 30; refine (HC.out _).mono ?_; rintro e w1 ⟨rfl, hb⟩)
    go_ret
    exact ⟨ret_int (by rw [HR.out]), hb⟩

/-- One byte, in the walk's spelling and in the plain side's. -/
theorem byte_get (s : ByteArray) (k : Nat) (h : k < s.size) (y : Nat) (hy : (s[k]'h).toNat = y) : y < 256 ∧ ∀ c : UInt8, (s.data.toList[k]? = some c ↔ y = c.toNat) := by
  have e : s.data.toList[k]? = some (s[k]'h) := Lib.data_getElem? s k h
  refine ⟨hy ▸ (s[k]'h).toNat_lt, fun c => ?_⟩
  rw [e, Option.some.injEq, ← hy]
  exact ⟨fun h => by rw [h], fun h => UInt8.toNat_inj.1 h⟩
theorem brk_iff (s : ByteArray) (k : Nat) (h : k < s.size) (y : Nat) (hy : (s[k]'h).toNat = y) : Plain.brk s.data.toList[k]? = decide (y = 10 ∨ y = 13) := by
  have := (byte_get s k h y hy).2
  rw [Bool.eq_iff_iff]
  simp only [Plain.brk, Bool.or_eq_true, beq_iff_eq, this, decide_eq_true_eq]
  exact Iff.rfl
theorem spc_iff (s : ByteArray) (k : Nat) (h : k < s.size) (y : Nat) (hy : (s[k]'h).toNat = y) : Plain.spc s.data.toList[k]? = decide (y = 32 ∨ y = 9 ∨ y = 11 ∨ y = 12) := by
  have := (byte_get s k h y hy).2
  rw [Bool.eq_iff_iff]
  simp only [Plain.spc, Bool.or_eq_true, beq_iff_eq, this, decide_eq_true_eq, or_assoc]
  exact Iff.rfl

theorem idx_brk : ∀ y : Fin 256, decide (0 ≤ Lib.indexByte [10, 13] (y.val.toUInt8)) = decide (y.val = 10 ∨ y.val = 13) := by decide +kernel
theorem brk_call (y : Nat) (hy : y < 256) : ∃ v : Int, (decide (0 ≤ v) = decide (y = 10 ∨ y = 13)) ∧ ∀ w, Calls Try.prog 24 #[.string ⟨#[10, 13]⟩, .int .u8 (y : Int)] w fun e w' => e = .returned (.int .i64 v) ∧ w' = w :=
  ⟨Lib.indexByte [10, 13] (y.toUInt8), idx_brk ⟨y, hy⟩, fun w => by
    have := Try.strings_IndexByte ⟨#[10, 13]⟩ (y : Int) w
    rw [Int.toNat_natCast] at this
    exact this⟩
theorem dash_call (s : ByteArray) (k : Nat) (b : Bool) (h : Plain.dash s.data.toList k = b) (w : World) :
    Calls Try.prog 26 #[.string (s.extract k s.size), .string ⟨#[45, 45]⟩] w fun e w' => e = .returned (.bool b) ∧ w' = w := by
  have c := Try.strings_HasPrefix (s.extract k s.size) ⟨#[45, 45]⟩ w
  rw [Lib.extract_to_end] at c
  rw [← h]
  exact c

set_option maxHeartbeats 400000 in
theorem space_no (y : Nat) (h1 : ¬ (9 ≤ y ∧ y ≤ 13)) (h2 : y ≠ 32) (w : World) :
    Calls Try.prog 25 #[.int .u8 (y : Int)] w fun e w' => e = .returned (.bool false) ∧ w' = w := by
  have e2 : ((y : Int) == 32) = false := by rw [beq_eq_false_iff_ne]; omega
  by_cases h9 : 9 ≤ y
  · have h13 : ¬ y ≤ 13 := by omega
    clear h1 h2
    go_enter Try.func25, Try.ntmps25
    go_wp2
    go_ret
    exact ⟨ret_bool (by simp; omega), rfl⟩
  · clear h1 h2
    go_enter Try.func25, Try.ntmps25
    go_wp2
    go_ret
    exact ⟨ret_bool (by simp), rfl⟩

set_option maxHeartbeats 2000000 in
theorem cont_any (s : ByteArray) (o f : Nat) (w : World) (hs : s.size ≤ 1048576) (ho : o ≤ s.size) (hf : s.size ≤ f) :
    Calls Try.prog 23 #[.string s, .int .i64 o] w fun e w' => e = .returned (.int .i64 (Plain.cont s.data.toList f false o)) ∧ Below w.heap.size w w' := by
  obtain ⟨R, hR⟩ : ∃ R, Plain.cont s.data.toList f false o = R := ⟨_, rfl⟩
  rw [hR]
  have HR := hide hR
  clear hR
  go_enter Try.func23, Try.ntmps23
  go_wp2
  go_loopw [1, 5] (fun i n wr => ∃ (k g : Nat) (nl : Bool), k ≤ s.size ∧ s.size ≤ k + g ∧ i = .int .i64 k ∧ n = .bool nl ∧ Hid (Plain.cont s.data.toList g nl k = R) ∧ Hid (Below w.heap.size w wr)) (fun i _ _ => s.size - (intOf i).toNat)
  case atStart => exact ⟨o, f, false, ho, by omega, rfl, rfl, HR, Below.refl _ _⟩
  case round =>
    obtain ⟨k, g, nl, hk, hg, rfl, rfl, HQ, HB⟩ := hrel
    clear HR
    by_cases hlt : k < s.size
    · cases g with
      | zero => exfalso; omega
      | succ g =>
      obtain ⟨y, hy⟩ : ∃ y, (s[k]'hlt).toNat = y := ⟨_, rfl⟩
      have HY := hide (byte_get s k hlt y hy)
      have HK := hide (brk_iff s k hlt y hy)
      have HP := hide (spc_iff s k hlt y hy)
      have hl : k < s.data.toList.length := by simpa using hlt
      have HL := hide hl
      clear hl
      obtain ⟨v, hv, c24⟩ := brk_call y HY.out.1
      have C24 := hide c24
      clear c24
      by_cases hbr : y = 10 ∨ y = 13
      · have hv0 : 0 ≤ v := of_decide_eq_true (hv.trans (decide_eq_true hbr))
        have HN : Hid (Plain.cont s.data.toList g true (k + 1) = R) := (Plain.cont_brk HL.out (HK.out.trans (decide_eq_true hbr))).symm.trans HQ.out
        have hn39 : y ≠ 39 := by omega
        clear hv hbr HQ
        go_wp2_with (go_at_call 24; refine (C24.out _).mono ?_; rintro e w1 ⟨rfl, rfl⟩)
        go_roundw
        case rel => exact ⟨k + 1, g, true, by omega, by omega, by go_num, rfl, HN, HB⟩
        case measure => simp [intOf]; omega
      · have hv0 : ¬ 0 ≤ v := of_decide_eq_false (hv.trans (decide_eq_false hbr))
        have hbf := HK.out.trans (decide_eq_false hbr)
        have HBF := hide hbf
        clear hv hbf
        by_cases hsp : y = 32 ∨ y = 9 ∨ y = 11 ∨ y = 12
        · have HN : Hid (Plain.cont s.data.toList g nl (k + 1) = R) := (Plain.cont_spc HL.out HBF.out (HP.out.trans (decide_eq_true hsp))).symm.trans HQ.out
          have hn39 : y ≠ 39 := by omega
          clear HQ hbr
          rcases hsp with rfl | rfl | rfl | rfl
          all_goals
            go_wp2_with (first | (go_at_call 24; refine (C24.out _).mono ?_; rintro e w1 ⟨rfl, rfl⟩) | (go_at_call 25; go_in))
            go_roundw
            case rel => exact ⟨k + 1, g, nl, by omega, by omega, by go_num, rfl, HN, HB⟩
            case measure => simp [intOf]; omega
        · have HSF := hide (HP.out.trans (decide_eq_false hsp))
          have hs1 : ¬ (9 ≤ y ∧ y ≤ 13) := by omega
          have hs2 : y ≠ 32 := by omega
          have C25 := hide (space_no y hs1 hs2)
          clear hsp hbr
          cases hd : Plain.dash s.data.toList k with
          | true =>
            have C26 := hide (dash_call s k true hd)
            have C27 := hide (lineEnd_any s k hs hk)
            have HN : Hid (Plain.cont s.data.toList g nl (Plain.lineEnd s.data.toList k) = R) := (Plain.cont_dash HL.out HBF.out HSF.out hd).symm.trans HQ.out
            obtain ⟨m, hm⟩ : ∃ m, Plain.lineEnd s.data.toList k = m := ⟨_, rfl⟩
            have hge : k + 2 ≤ m := by
              rw [← hm, Plain.dash_le hd]
              have := Plain.dash_room hd
              exact Plain.le_ge this.1
            have hle : m ≤ s.size := by
              have := Plain.le_le (l := s.data.toList) (i := k) (by simpa using hk)
              rw [hm] at this
              simpa using this
            have hn39 : y ≠ 39 := fun e => by
              have h1 := (HY.out.2 39).2 e
              rw [Plain.dash_iff, h1] at hd
              simp at hd
            rw [hm] at C27 HN
            clear hd hm HQ
            all_goals
              go_wp2_with (first | (go_at_call 24; refine (C24.out _).mono ?_; rintro e w1 ⟨rfl, rfl⟩) | (go_at_call 25; refine (C25.out _).mono ?_; rintro e w1 ⟨rfl, rfl⟩) | (go_at_call 26; refine (C26.out _).mono ?_; rintro e w1 ⟨rfl, rfl⟩) | (go_at_call 27; refine (C27.out _).mono ?_; rintro e w2 ⟨rfl, hb⟩))
              go_roundw
              case rel => exact ⟨m, g, nl, by omega, by omega, rfl, rfl, HN, HB.out.trans (hb.mono HB.out.size)⟩
              case measure => simp [intOf]; omega
          | false =>
            have C26 := hide (dash_call s k false hd)
            have HD := hide hd
            clear hd
            by_cases hq : y = 39
            · have H39 := hide ((HY.out.2 39).2 hq)
              subst hq
              cases nl with
              | true =>
                have HE := hide ((Plain.cont_hit HL.out H39.out).symm.trans HQ.out)
                clear HQ
                go_wp2
                go_ret
                exact ⟨ret_int HE.out, HB.out⟩
              | false =>
                have HE := hide ((Plain.cont_no (fun e => by cases e.2) HBF.out HSF.out HD.out).symm.trans HQ.out)
                clear HQ
                go_wp2_with (first | (go_at_call 24; refine (C24.out _).mono ?_; rintro e w1 ⟨rfl, rfl⟩) | (go_at_call 25; refine (C25.out _).mono ?_; rintro e w1 ⟨rfl, rfl⟩) | (go_at_call 26; refine (C26.out _).mono ?_; rintro e w1 ⟨rfl, rfl⟩))
                go_ret
                exact ⟨ret_int HE.out, HB.out⟩
            · have HE := hide ((Plain.cont_no (fun e => hq ((HY.out.2 39).1 e.1)) HBF.out HSF.out HD.out).symm.trans HQ.out)
              clear HQ
              all_goals
                go_wp2_with (first | (go_at_call 24; refine (C24.out _).mono ?_; rintro e w1 ⟨rfl, rfl⟩) | (go_at_call 25; refine (C25.out _).mono ?_; rintro e w1 ⟨rfl, rfl⟩) | (go_at_call 26; refine (C26.out _).mono ?_; rintro e w1 ⟨rfl, rfl⟩))
                go_ret
                exact ⟨ret_int HE.out, HB.out⟩
    · have HE := hide ((Plain.cont_out (by simpa using hlt)).symm.trans HQ.out)
      clear HQ
      go_wp2
      go_ret
      exact ⟨ret_int HE.out, HB.out⟩
end Go.Proofs.Qxb6604024a
