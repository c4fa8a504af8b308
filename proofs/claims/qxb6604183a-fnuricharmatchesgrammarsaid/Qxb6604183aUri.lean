/-
  The walk of '(*yamlParser).uriChar'.
-/
import Derived.Test.Qxb6604183aBytes
import Derived.Below
import Derived.OwnWalk
import Derived.Laws.CopyOwn
import Derived.Lib.SliceRun
import Derived.BigQuiet
import Derived.Deep.QuietTactic
import Derived.Deep.RegionWith
namespace Go.Proofs.Qxb6604183a
open Go.RowKit

theorem below_draws {B : Nat} {w w' : World} (h : Below B w w') (k : Nat) : Below B w (w'.drewN k) := ⟨h.os, h.tape, h.output, h.size, h.block⟩

/-- What a call of uriChar leaves. -/
structure Left1 (B b : Nat) (W w' : World) (k : Int) : Prop where
  at' : w'.cell? ⟨b, 1, none⟩ = some (.int .i64 k)
  below : Below B W w'

theorem left_same {B b : Nat} {W : World} {k : Int} (h : W.cell? ⟨b, 1, none⟩ = some (.int .i64 k)) (n : Nat) : Left1 B b W (W.drewN n) k := ⟨h, below_draws (Below.refl _ _) n⟩
theorem left_set {B b : Nat} {W : World} {k : Int} (hB : B ≤ b) (h : W.cell? ⟨b, 1, none⟩ = some (.int .i64 k)) (q : Int) (n : Nat) : Left1 B b W ((W.setCell ⟨b, 1, none⟩ (.int .i64 q)).drewN n) q :=
  ⟨World.cell?_setCell_same _ _ _ h, below_draws ((Below.refl _ _).setCell hB _) n⟩

theorem Left1.draws {B b : Nat} {W w' : World} {k : Int} (h : Left1 B b W w' k) (n : Nat) : Left1 B b W (w'.drewN n) k := ⟨h.at', below_draws h.below n⟩

set_option maxHeartbeats 800000 in
/-- At the end of the source. -/
theorem uri_end (B b len cap : Nat) (a : Option Addr) (t : Bool) (W : World) (h0 : W.cell? ⟨b, 0, none⟩ = some (.slice a len cap)) (h1 : W.cell? ⟨b, 1, none⟩ = some (.int .i64 (len : Int))) :
    Calls Try.prog 21 #[.pointer (some ⟨b, 0, none⟩), .bool t] W fun e w' => e = .returned (.bool false) ∧ Left1 B b W w' len := by
  have HS := hide (fun n => left_same (B := B) h1 n)
  go_enter Try.func21, Try.ntmps21
  go_wp2
  go_quiet (fail)
  go_wp2
  go_ret
  exact ⟨rfl, HS.out _⟩

set_option maxHeartbeats 1600000 in
/-- At an escape that is none: too short. -/
theorem uri_short (B b len cap k g off : Nat) (t : Bool) (W : World) (h0 : W.cell? ⟨b, 0, none⟩ = some (.slice (some ⟨g, off, none⟩) len cap)) (h1 : W.cell? ⟨b, 1, none⟩ = some (.int .i64 (k : Int))) (hl : len ≤ 1048576) (hk : k < len)
    (hc : W.cell? ⟨g, off + k, none⟩ = some (.int .u8 37)) (h2 : ¬ k + 2 < len) :
    Calls Try.prog 21 #[.pointer (some ⟨b, 0, none⟩), .bool t] W fun e w' => e = .returned (.bool false) ∧ Left1 B b W w' k := by
  have HS := hide (fun n => left_same (B := B) h1 n)
  have hne : ((k : Int) == (len : Int)) = false := by rw [beq_eq_false_iff_ne]; omega
  have hd : decide ((k : Int) + 2 < (len : Int)) = false := by rw [decide_eq_false_iff_not]; omega
  go_enter Try.func21, Try.ntmps21
  go_wp2
  go_quiet (fail)
  go_wp2
  go_quiet (fail)
  go_wp2
  go_quiet (fail)
  go_wp2
  go_ret
  first | exact ⟨rfl, HS.out _⟩ | exact ⟨rfl, (HS.out _).draws _⟩

set_option maxHeartbeats 3200000 in
/-- At an escape: its first digit is none. -/
theorem uri_esc1 (B b len cap k g off : Nat) (z1 : Int) (t : Bool) (W : World) (h0 : W.cell? ⟨b, 0, none⟩ = some (.slice (some ⟨g, off, none⟩) len cap)) (h1 : W.cell? ⟨b, 1, none⟩ = some (.int .i64 (k : Int))) (hl : len ≤ 1048576)
    (hc : W.cell? ⟨g, off + k, none⟩ = some (.int .u8 37)) (h2 : k + 2 < len) (hz1 : W.cell? ⟨g, off + (k + 1), none⟩ = some (.int .u8 z1)) (hx1 : Plain.hexB z1 = false) :
    Calls Try.prog 21 #[.pointer (some ⟨b, 0, none⟩), .bool t] W fun e w' => e = .returned (.bool false) ∧ Left1 B b W w' k := by
  have HS := hide (fun n => left_same (B := B) h1 n)
  have hne : ((k : Int) == (len : Int)) = false := by rw [beq_eq_false_iff_ne]; omega
  have hd : decide ((k : Int) + 2 < (len : Int)) = true := by rw [decide_eq_true_eq]; omega
  have H1 := hide (isHex_any z1)
  rw [hx1] at H1
  clear hx1
  go_enter Try.func21, Try.ntmps21
  go_wp2
  go_quiet (fail)
  go_wp2
  go_quiet (fail)
  go_wp2
  go_quiet ((go_at_call 26; exact (H1.out _).mono fun _ _ h => ⟨h.1, ⟨_, h.2⟩⟩))
  go_wp2
  go_ret
  first | exact ⟨rfl, HS.out _⟩ | exact ⟨rfl, (HS.out _).draws _⟩

set_option maxHeartbeats 3200000 in
/-- At an escape: its second digit is none. -/
theorem uri_esc2 (B b len cap k g off : Nat) (z1 z2 : Int) (t : Bool) (W : World) (h0 : W.cell? ⟨b, 0, none⟩ = some (.slice (some ⟨g, off, none⟩) len cap)) (h1 : W.cell? ⟨b, 1, none⟩ = some (.int .i64 (k : Int))) (hl : len ≤ 1048576)
    (hc : W.cell? ⟨g, off + k, none⟩ = some (.int .u8 37)) (h2 : k + 2 < len) (hz1 : W.cell? ⟨g, off + (k + 1), none⟩ = some (.int .u8 z1)) (hx1 : Plain.hexB z1 = true) (hz2 : W.cell? ⟨g, off + (k + 2), none⟩ = some (.int .u8 z2)) (hx2 : Plain.hexB z2 = false) :
    Calls Try.prog 21 #[.pointer (some ⟨b, 0, none⟩), .bool t] W fun e w' => e = .returned (.bool false) ∧ Left1 B b W w' k := by
  have HS := hide (fun n => left_same (B := B) h1 n)
  have hne : ((k : Int) == (len : Int)) = false := by rw [beq_eq_false_iff_ne]; omega
  have hd : decide ((k : Int) + 2 < (len : Int)) = true := by rw [decide_eq_true_eq]; omega
  have H1 := hide (isHex_any z1)
  have H2 := hide (isHex_any z2)
  rw [hx1] at H1
  rw [hx2] at H2
  clear hx1 hx2
  go_enter Try.func21, Try.ntmps21
  go_wp2
  go_quiet (fail)
  go_wp2
  go_quiet (fail)
  go_wp2
  go_quiet (first | (go_at_call_of 26 z1; exact (H1.out _).mono fun _ _ h => ⟨h.1, ⟨_, h.2⟩⟩) | (go_at_call_of 26 z2; exact (H2.out _).mono fun _ _ h => ⟨h.1, ⟨_, h.2⟩⟩))
  go_wp2
  go_ret
  first | exact ⟨rfl, HS.out _⟩ | exact ⟨rfl, (HS.out _).draws _⟩

set_option maxHeartbeats 3200000 in
/-- At an escape. -/
theorem uri_esc (B b len cap k g off : Nat) (hB : B ≤ b) (z1 z2 : Int) (t : Bool) (W : World) (h0 : W.cell? ⟨b, 0, none⟩ = some (.slice (some ⟨g, off, none⟩) len cap)) (h1 : W.cell? ⟨b, 1, none⟩ = some (.int .i64 (k : Int))) (hfz : W.frozen? ⟨b, 1, none⟩ = false) (hl : len ≤ 1048576)
    (hc : W.cell? ⟨g, off + k, none⟩ = some (.int .u8 37)) (h2 : k + 2 < len) (hz1 : W.cell? ⟨g, off + (k + 1), none⟩ = some (.int .u8 z1)) (hx1 : Plain.hexB z1 = true) (hz2 : W.cell? ⟨g, off + (k + 2), none⟩ = some (.int .u8 z2)) (hx2 : Plain.hexB z2 = true) :
    Calls Try.prog 21 #[.pointer (some ⟨b, 0, none⟩), .bool t] W fun e w' => e = .returned (.bool true) ∧ Left1 B b W w' ((k : Int) + 3) := by
  have HS := hide (fun n => left_set hB h1 ((k : Int) + 3) n)
  have hne : ((k : Int) == (len : Int)) = false := by rw [beq_eq_false_iff_ne]; omega
  have hd : decide ((k : Int) + 2 < (len : Int)) = true := by rw [decide_eq_true_eq]; omega
  have H1 := hide (isHex_any z1)
  have H2 := hide (isHex_any z2)
  rw [hx1] at H1
  rw [hx2] at H2
  clear hx1 hx2 hB
  go_enter Try.func21, Try.ntmps21
  go_wp2
  go_quiet (fail)
  go_wp2
  go_quiet (fail)
  go_wp2
  go_quiet (first | (go_at_call_of 26 z1; exact (H1.out _).mono fun _ _ h => ⟨h.1, ⟨_, h.2⟩⟩) | (go_at_call_of 26 z2; exact (H2.out _).mono fun _ _ h => ⟨h.1, ⟨_, h.2⟩⟩))
  go_wp2
  go_ret
  first | exact ⟨rfl, HS.out _⟩ | exact ⟨rfl, (HS.out _).draws _⟩
end Go.Proofs.Qxb6604183a
