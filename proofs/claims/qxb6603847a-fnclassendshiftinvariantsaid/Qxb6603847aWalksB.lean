import Derived.Test.Qxb6603847aWalks
namespace Go.Proofs.Qxb6603847a
open Go.RowKit
theorem hide {p : Prop} (h : p) : Hid p := h

theorem zz_any (s : ByteArray) (o f : Nat) (w : World) (hsh : w.ShapedOpen Try.prog) (hs : s.size ≤ 1048576) (ho : o < s.size) (hf : s.size ≤ f) :
    Calls Try.prog 9 #[.string s, .int .i64 o] w fun e w' => e = .returned (.int .i64 (Plain.scan s.data.toList f (Plain.start s.data.toList (o + 1)) : Nat)) ∧ w' = w := by
  obtain ⟨R, hR⟩ : ∃ R, Plain.scan s.data.toList f (Plain.start s.data.toList (o + 1)) = R := ⟨_, rfl⟩
  have c := classEnd_any s o f w hsh hs ho hf
  rw [hR] at c ⊢
  have HC := hide c
  clear hR hsh c
  go_enter Try.func9, Try.ntmps9
  go_wp2_with (go_at_call 12; refine HC.out.mono ?_; rintro e w' ⟨rfl, rfl⟩)
  go_ret
  exact ⟨rfl, rfl⟩

/-- The start of the scan lies behind a literal bracket. -/
theorem start_bracket (s : ByteArray) (o : Nat) (h : o + 1 < s.size) (a : ((s[o + 1].toNat : Int) == 94) = false) (b : ((s[o + 1].toNat : Int) == 93) = true) : Plain.start s.data.toList (o + 1) = o + 2 := by
  unfold Plain.start Plain.first
  rw [if_neg (c := s.data.toList[o + 1]? = some 94) (fun e => by have := (byte_is s _ h 94).1 e; rw [show ((94 : UInt8).toNat : Int) = 94 from rfl, a] at this; cases this),
    if_pos (c := s.data.toList[o + 1]? = some 93) ((byte_is s _ h 93).2 b)]
theorem start_caret (s : ByteArray) (o : Nat) (h : o + 1 < s.size) (h2 : o + 1 + 1 < s.size) (a : ((s[o + 1].toNat : Int) == 94) = true) (b : ((s[o + 1 + 1].toNat : Int) == 93) = true) : Plain.start s.data.toList (o + 1) = o + 3 := by
  unfold Plain.start Plain.first
  rw [if_pos (c := s.data.toList[o + 1]? = some 94) ((byte_is s _ h 94).2 a), if_pos (c := s.data.toList[o + 1 + 1]? = some 93) ((byte_is s _ h2 93).2 b)]
theorem ne_nil (s : ByteArray) (o : Nat) (ho : o < s.size) : s.data.toList ≠ [] := fun e => by
  have h := congrArg List.length e
  have h2 : s.data.toList.length = s.size := by simp
  rw [List.length_nil] at h
  omega
end Go.Proofs.Qxb6603847a
