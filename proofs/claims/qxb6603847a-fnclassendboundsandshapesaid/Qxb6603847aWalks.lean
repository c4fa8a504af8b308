/-
  The walk of 'classEnd': it returns what the plain scan says; the world is as it was.
-/
import Derived.Test.Qxb6603847aRows
import Derived.Test.Qxb6603847aShelf
import Derived.Test.Qxb6603847aPlain
import Derived.WalkKit
import Derived.WalkSpells
import Derived.Lib.IndexBytes
namespace Go.Proofs.Qxb6603847a
open Go.RowKit

/-- The byte at place k, in the walk's spelling and in the plain side's. -/
theorem byte_is (s : ByteArray) (k : Nat) (h : k < s.size) (c : UInt8) : s.data.toList[k]? = some c ↔ ((s[k].toNat : Int) == (c.toNat : Int)) = true := by
  have : s.data.toList[k]? = some s[k] := by
    rw [List.getElem?_eq_some_iff]; exact ⟨by simpa using h, rfl⟩
  rw [this, beq_iff_eq, Int.ofNat_inj, UInt8.toNat_inj]; simp
theorem byte_out (s : ByteArray) (k : Nat) (h : ¬ k < s.size) : s.data.toList[k]? = none := by
  rw [List.getElem?_eq_none_iff]; simpa using h

theorem ret_nat {a b : Nat} (h : a = b) : Ending.returned (.int .i64 (a : Int)) = .returned (.int .i64 (b : Int)) := by rw [h]

/-- The two library calls, at the slices that classEnd hands over. -/
theorem prefix_at (s : ByteArray) (k : Nat) (b : Bool) (h : Lib.hasPrefix (s.data.toList.drop k) [91, 58] = b) (w : World) :
    Calls Try.prog 13 #[.string (s.extract k s.size), .string ⟨#[91, 58]⟩] w fun e w' => e = .returned (.bool b) ∧ w' = w := by
  have c := Try.strings_HasPrefix (s.extract k s.size) ⟨#[91, 58]⟩ w
  rw [Lib.extract_to_end] at c
  rw [← h]
  exact c
theorem index_at (s : ByteArray) (k : Nat) (x : Int) (hs : s.size ≤ 1048576) (h : Lib.index (s.data.toList.drop k) [58, 93] = x) (w : World) (hsh : w.ShapedOpen Try.prog) :
    Calls Try.prog 14 #[.string (s.extract k s.size), .string ⟨#[58, 93]⟩] w fun e w' => e = .returned (.int .i64 x) ∧ w' = w := by
  have c := Try.strings_Index_shaped (s.extract k s.size) ⟨#[58, 93]⟩ w hsh (by rw [ByteArray.size_extract]; omega)
  rw [Lib.extract_to_end] at c
  rw [← h]
  exact c

set_option maxHeartbeats 400000 in
theorem classEnd_any (s : ByteArray) (o f : Nat) (w : World) (hsh : w.ShapedOpen Try.prog) (hs : s.size ≤ 1048576) (ho : o < s.size) (hf : s.size ≤ f) :
    Calls Try.prog 12 #[.string s, .int .i64 o] w fun e w' => e = .returned (.int .i64 (Plain.scan s.data.toList f (Plain.start s.data.toList (o + 1)) : Nat)) ∧ w' = w := by
  obtain ⟨R, hR⟩ : ∃ R, Plain.scan s.data.toList f (Plain.start s.data.toList (o + 1)) = R := ⟨_, rfl⟩
  rw [hR]
  have HR : Hid (Plain.scan s.data.toList f (Plain.start s.data.toList (o + 1)) = R) := hR
  clear hR
  have HS : Hid (w.ShapedOpen Try.prog) := hsh
  clear hsh
  have K1 : ∀ (h : o + 1 < s.size), ((s[o + 1].toNat : Int) == 94) = false → ((s[o + 1].toNat : Int) == 93) = false → Hid (Plain.start s.data.toList (o + 1) = o + 1) := fun h a b => by
    show _ = _
    unfold Plain.start Plain.first
    rw [if_neg (c := s.data.toList[o + 1]? = some 94) (fun e => by have := (byte_is s _ h 94).1 e; rw [show ((94 : UInt8).toNat : Int) = 94 from rfl, a] at this; cases this),
      if_neg (c := s.data.toList[o + 1]? = some 93) (fun e => by have := (byte_is s _ h 93).1 e; rw [show ((93 : UInt8).toNat : Int) = 93 from rfl, b] at this; cases this)]
  have K2 : ∀ (h : o + 1 < s.size), ((s[o + 1].toNat : Int) == 94) = false → ((s[o + 1].toNat : Int) == 93) = true → Hid (Plain.start s.data.toList (o + 1) = o + 2) := fun h a b => by
    show _ = _
    unfold Plain.start Plain.first
    rw [if_neg (c := s.data.toList[o + 1]? = some 94) (fun e => by have := (byte_is s _ h 94).1 e; rw [show ((94 : UInt8).toNat : Int) = 94 from rfl, a] at this; cases this),
      if_pos (c := s.data.toList[o + 1]? = some 93) ((byte_is s _ h 93).2 b)]
  have K3 : ∀ (h : o + 1 < s.size), ((s[o + 1].toNat : Int) == 94) = true → ¬ o + 1 + 1 < s.size → Hid (Plain.start s.data.toList (o + 1) = o + 2) := fun h a b => by
    show _ = _
    unfold Plain.start Plain.first
    rw [if_pos (c := s.data.toList[o + 1]? = some 94) ((byte_is s _ h 94).2 a), if_neg (by rw [byte_out s _ b]; simp)]
  have K4 : ∀ (h : o + 1 < s.size) (h2 : o + 1 + 1 < s.size), ((s[o + 1].toNat : Int) == 94) = true → ((s[o + 1 + 1].toNat : Int) == 93) = false → Hid (Plain.start s.data.toList (o + 1) = o + 2) := fun h h2 a b => by
    show _ = _
    unfold Plain.start Plain.first
    rw [if_pos (c := s.data.toList[o + 1]? = some 94) ((byte_is s _ h 94).2 a),
      if_neg (c := s.data.toList[o + 1 + 1]? = some 93) (fun e => by have := (byte_is s _ h2 93).1 e; rw [show ((93 : UInt8).toNat : Int) = 93 from rfl, b] at this; cases this)]
  have K5 : ∀ (h : o + 1 < s.size) (h2 : o + 1 + 1 < s.size), ((s[o + 1].toNat : Int) == 94) = true → ((s[o + 1 + 1].toNat : Int) == 93) = true → Hid (Plain.start s.data.toList (o + 1) = o + 3) := fun h h2 a b => by
    show _ = _
    unfold Plain.start Plain.first
    rw [if_pos (c := s.data.toList[o + 1]? = some 94) ((byte_is s _ h 94).2 a), if_pos (c := s.data.toList[o + 1 + 1]? = some 93) ((byte_is s _ h2 93).2 b)]
  have K6 : ¬ o + 1 < s.size → Hid (Plain.start s.data.toList (o + 1) = o + 1) := fun h => by
    show _ = _
    unfold Plain.start Plain.first
    rw [if_neg (c := s.data.toList[o + 1]? = some 94) (by rw [byte_out s _ h]; simp), if_neg (c := s.data.toList[o + 1]? = some 93) (by rw [byte_out s _ h]; simp)]
  have parts : (¬ o + 1 < s.size ∧ Hid (Plain.start s.data.toList (o + 1) = o + 1)) ∨
      (∃ h : o + 1 < s.size, ((s[o + 1].toNat : Int) == 94) = false ∧ ((s[o + 1].toNat : Int) == 93) = false ∧ Hid (Plain.start s.data.toList (o + 1) = o + 1)) ∨
      (∃ h : o + 1 < s.size, ((s[o + 1].toNat : Int) == 94) = false ∧ ((s[o + 1].toNat : Int) == 93) = true ∧ Hid (Plain.start s.data.toList (o + 1) = o + 2)) ∨
      (∃ h : o + 1 < s.size, ((s[o + 1].toNat : Int) == 94) = true ∧ ¬ o + 1 + 1 < s.size ∧ Hid (Plain.start s.data.toList (o + 1) = o + 2)) ∨
      (∃ h : o + 1 < s.size, ∃ h2 : o + 1 + 1 < s.size, ((s[o + 1].toNat : Int) == 94) = true ∧ ((s[o + 1 + 1].toNat : Int) == 93) = false ∧ Hid (Plain.start s.data.toList (o + 1) = o + 2)) ∨
      (∃ h : o + 1 < s.size, ∃ h2 : o + 1 + 1 < s.size, ((s[o + 1].toNat : Int) == 94) = true ∧ ((s[o + 1 + 1].toNat : Int) == 93) = true ∧ Hid (Plain.start s.data.toList (o + 1) = o + 3)) := by
    by_cases h : o + 1 < s.size
    · cases a : ((s[o + 1].toNat : Int) == 94) with
      | false =>
        cases b : ((s[o + 1].toNat : Int) == 93) with
        | false => exact .inr (.inl ⟨h, a, b, K1 h a b⟩)
        | true => exact .inr (.inr (.inl ⟨h, a, b, K2 h a b⟩))
      | true =>
        by_cases h2 : o + 1 + 1 < s.size
        · cases b : ((s[o + 1 + 1].toNat : Int) == 93) with
          | false => exact .inr (.inr (.inr (.inr (.inl ⟨h, h2, a, b, K4 h h2 a b⟩))))
          | true => exact .inr (.inr (.inr (.inr (.inr ⟨h, h2, a, b, K5 h h2 a b⟩))))
        · exact .inr (.inr (.inr (.inl ⟨h, a, h2, K3 h a h2⟩)))
    · exact .inl ⟨h, K6 h⟩
  clear K1 K2 K3 K4 K5 K6
  rcases parts with ⟨p1, HK⟩ | ⟨p1, p2, p3, HK⟩ | ⟨p1, p2, p3, HK⟩ | ⟨p1, p2, p3, HK⟩ | ⟨p1, p2, p3, p4, HK⟩ | ⟨p1, p2, p3, p4, HK⟩
  all_goals
    go_enter Try.func12, Try.ntmps12
    go_wp2
    go_loop [5] (fun i => ∃ k g : Nat, k ≤ s.size + 1 ∧ s.size ≤ k + g ∧ i = .int .i64 k ∧ Plain.scan s.data.toList g k = R) (fun i => (s.size + 1 - (intOf i).toNat))
    case atStart =>
      have E := HR.out
      rw [HK.out] at E
      first
      | exact ⟨o + 1, f, by omega, by omega, by go_num, E⟩
      | exact ⟨o + 2, f, by omega, by omega, by go_num, E⟩
      | exact ⟨o + 3, f, by omega, by omega, by go_num, E⟩
    case round =>
      obtain ⟨k, g, hk, hg, rfl, hq⟩ := hrel
      have HQ : Hid (Plain.scan s.data.toList g k = R) := hq
      clear hq
      by_cases hlt : k < s.size
      · cases g with
        | zero => exfalso; omega
        | succ g =>
        cases h92 : ((s[k].toNat : Int) == 92) with
        | true =>
          go_wp2
          go_round
          case rel => exact ⟨k + 2, g, by omega, by omega, by go_num, (Plain.scan_esc (by simpa using hlt) ((byte_is s k hlt 92).2 h92)).symm.trans HQ.out⟩
          case measure => simp [intOf]; omega
        | false =>
        have n92 : s.data.toList[k]? ≠ some 92 := fun h => by have := (byte_is s k hlt 92).1 h; rw [show ((92 : UInt8).toNat : Int) = 92 from rfl, h92] at this; cases this
        cases h93 : ((s[k].toNat : Int) == 93) with
        | true =>
          clear n92
          go_wp2
          go_ret
          exact ⟨ret_nat ((Plain.scan_hit (by simpa using hlt) ((byte_is s k hlt 93).2 h93)).symm.trans HQ.out), rfl⟩
        | false => 
        have n93 : s.data.toList[k]? ≠ some 93 := fun h => by have := (byte_is s k hlt 93).1 h; rw [show ((93 : UInt8).toNat : Int) = 93 from rfl, h93] at this; cases this
        cases hpre : Lib.hasPrefix (s.data.toList.drop k) [91, 58] with
        | false =>
          have HP : Hid (s.data.toList[k]? ≠ some 92 ∧ s.data.toList[k]? ≠ some 93 ∧ Lib.hasPrefix (s.data.toList.drop k) [91, 58] = false) := ⟨n92, n93, hpre⟩
          clear n92 n93 hpre
          go_wp2_with (go_at_call 13; refine (prefix_at s k false HP.out.2.2 _).mono ?_; rintro e w' ⟨rfl, rfl⟩)
          go_round
          case rel => exact ⟨k + 1, g, by omega, by omega, by go_num, (Plain.scan_plain (by simpa using hlt) HP.out.1 HP.out.2.1 HP.out.2.2).symm.trans HQ.out⟩
          case measure => simp [intOf]; omega
        | true =>
          have hroom : k + 2 ≤ s.size := by have := Plain.hasPrefix_room hpre; simpa using this
          obtain ⟨x, hx⟩ : ∃ x, Lib.index (s.data.toList.drop (k + 2)) [58, 93] = x := ⟨_, rfl⟩
          have hge : -1 ≤ x := hx ▸ Lib.index_ge _ _
          have HP : Hid (s.data.toList[k]? ≠ some 92 ∧ s.data.toList[k]? ≠ some 93 ∧ Lib.hasPrefix (s.data.toList.drop k) [91, 58] = true ∧ Lib.index (s.data.toList.drop (k + 2)) [58, 93] = x) := ⟨n92, n93, hpre, hx⟩
          by_cases hx0 : 0 ≤ x
          · have hxr : x + 2 ≤ s.size - (k + 2) := by
              have := Plain.index_room [58, 93] (by simp) (s.data.toList.drop (k + 2)) (by rw [hx]; exact hx0)
              rw [hx] at this; simp at this; omega
            clear n92 n93 hpre hx
            go_wp2_with (first | (go_at_call 13; refine (prefix_at s k true HP.out.2.2.1 _).mono ?_; rintro e w' ⟨rfl, rfl⟩) | (go_at_call 14; refine (index_at s (k + 2) x hs HP.out.2.2.2 _ HS.out).mono ?_; rintro e w' ⟨rfl, rfl⟩))
            go_round
            case rel => exact ⟨k + x.toNat + 4, g, by omega, by omega, by go_num, by
              have e := Plain.scan_named (f := g) (by simpa using hlt) HP.out.1 HP.out.2.1 HP.out.2.2.1 (by rw [HP.out.2.2.2]; exact hx0)
              rw [HP.out.2.2.2] at e
              exact e.symm.trans HQ.out⟩
            case measure => simp [intOf]; omega
          · clear n92 n93 hpre hx
            go_wp2_with (first | (go_at_call 13; refine (prefix_at s k true HP.out.2.2.1 _).mono ?_; rintro e w' ⟨rfl, rfl⟩) | (go_at_call 14; refine (index_at s (k + 2) x hs HP.out.2.2.2 _ HS.out).mono ?_; rintro e w' ⟨rfl, rfl⟩))
            go_round
            case rel => exact ⟨k + 1, g, by omega, by omega, by go_num, (Plain.scan_open (by simpa using hlt) HP.out.1 HP.out.2.1 HP.out.2.2.1 (by rw [HP.out.2.2.2]; omega)).symm.trans HQ.out⟩
            case measure => simp [intOf]; omega
      · go_wp2
        go_ret
        exact ⟨by rw [show R = s.size - 1 from HQ.out.symm.trans ((Plain.scan_out (by simpa using hlt)).trans (by simp)), Int.ofNat_sub (by omega)]; rfl, rfl⟩
end Go.Proofs.Qxb6603847a
