/-
  The walk of 'FnMethodValueUpperTable' where the step is made: one case a place, a byte, a room.
-/
import Derived.Test.Qxb6603951aStep
namespace Go.Proofs.Qxb6603951a
open Go.RowKit

/-- What each case of the table says: the byte's kind, the place and the method behind the step. -/
theorem table_cases (zs : List Int) (n : Nat) (p c : Int) :
    (p = 0 ∧ Plain.tok c = true ∧ zs.length < n ∧ Plain.stepP p c = 1 ∧ (Plain.stepM zs n p c).length = zs.length + 1) ∨
    (p = 0 ∧ Plain.tok c = true ∧ ¬ zs.length < n ∧ Plain.stepP p c = 1 ∧ zs.length = (Plain.stepM zs n p c).length) ∨
    (p = 0 ∧ Plain.tok c = false ∧ True ∧ Plain.stepP p c = 0 ∧ zs.length = (Plain.stepM zs n p c).length) ∨
    (p = 1 ∧ Plain.tok c = true ∧ zs.length < n ∧ Plain.stepP p c = 1 ∧ (Plain.stepM zs n p c).length = zs.length + 1) ∨
    (p = 1 ∧ Plain.tok c = true ∧ ¬ zs.length < n ∧ Plain.stepP p c = 1 ∧ zs.length = (Plain.stepM zs n p c).length) ∨
    (p = 1 ∧ Plain.tok c = false ∧ True ∧ Plain.stepP p c = 2 ∧ zs.length = (Plain.stepM zs n p c).length) ∨
    (p = 2 ∧ Plain.tok c = true ∧ True ∧ Plain.stepP p c = 3 ∧ zs.length = (Plain.stepM zs n p c).length) ∨
    (p = 2 ∧ Plain.tok c = false ∧ True ∧ Plain.stepP p c = 2 ∧ zs.length = (Plain.stepM zs n p c).length) ∨
    ((p == 0) = false ∧ (p == 1) = false ∧ (p == 2) = false ∧ Plain.stepP p c = p ∧ zs.length = (Plain.stepM zs n p c).length) := by
  by_cases h0 : p = 0
  · subst h0
    cases ht : Plain.tok c with
    | true =>
      by_cases hr : zs.length < n
      · exact .inl ⟨rfl, rfl, hr, by simp [Plain.stepP, ht], by simp [Plain.stepM, Plain.grows, ht, hr]⟩
      · exact .inr (.inl ⟨rfl, rfl, hr, by simp [Plain.stepP, ht], by simp [Plain.stepM, Plain.grows, hr]⟩)
    | false => exact .inr (.inr (.inl ⟨rfl, rfl, trivial, by simp [Plain.stepP, ht], by simp [Plain.stepM, Plain.grows, ht]⟩))
  · by_cases h1 : p = 1
    · subst h1
      cases ht : Plain.tok c with
      | true =>
        by_cases hr : zs.length < n
        · exact .inr (.inr (.inr (.inl ⟨rfl, rfl, hr, by simp [Plain.stepP, ht], by simp [Plain.stepM, Plain.grows, ht, hr]⟩)))
        · exact .inr (.inr (.inr (.inr (.inl ⟨rfl, rfl, hr, by simp [Plain.stepP, ht], by simp [Plain.stepM, Plain.grows, hr]⟩))))
      | false => exact .inr (.inr (.inr (.inr (.inr (.inl ⟨rfl, rfl, trivial, by simp [Plain.stepP, ht], by simp [Plain.stepM, Plain.grows, ht]⟩)))))
    · by_cases h2 : p = 2
      · subst h2
        cases ht : Plain.tok c with
        | true => exact .inr (.inr (.inr (.inr (.inr (.inr (.inl ⟨rfl, rfl, trivial, by simp [Plain.stepP, ht], by simp [Plain.stepM, Plain.grows]⟩))))))
        | false => exact .inr (.inr (.inr (.inr (.inr (.inr (.inr (.inl ⟨rfl, rfl, trivial, by simp [Plain.stepP, ht], by simp [Plain.stepM, Plain.grows]⟩)))))))
      · exact .inr (.inr (.inr (.inr (.inr (.inr (.inr (.inr ⟨by rw [beq_eq_false_iff_ne]; exact h0, by rw [beq_eq_false_iff_ne]; exact h1, by rw [beq_eq_false_iff_ne]; exact h2, by simp [Plain.stepP, h0, h1, h2], by simp [Plain.stepM, Plain.grows, h0, h1]⟩)))))))

/-- One element of a row. -/
theorem row_at {w : World} {a : Option Addr} {zs : List Int} (h : Row w a zs) {k : Nat} (hk : k < zs.length) : ∃ b off, a = some ⟨b, off, none⟩ ∧ w.cell? ⟨b, off + k, none⟩ = some (.int .u8 (zs.getD k 0)) := by
  rcases h with h | ⟨b, off, e, _, hc⟩
  · rw [h] at hk; simp at hk
  · exact ⟨b, off, e, hc k hk⟩
theorem row_at0 {w : World} {g : Nat} {zs : List Int} (h : Row w (some ⟨g, 0, none⟩) zs) {k : Nat} (hk : k < zs.length) : w.cell? ⟨g, k, none⟩ = some (.int .u8 (zs.getD k 0)) := by
  obtain ⟨b, off, e, hc⟩ := row_at h hk
  cases e
  rw [Nat.zero_add] at hc
  exact hc
theorem Row.draws {w : World} {a : Option Addr} {zs : List Int} (h : Row w a zs) (k : Nat) : Row (w.drewN k) a zs := h

theorem stepM_get (zs : List Int) (n : Nat) (p c : Int) (k : Nat) (hk : k < zs.length) : (Plain.stepM zs n p c).getD k 0 = zs.getD k 0 := by
  unfold Plain.stepM
  split
  · simp [List.getD, List.getElem?_append_left hk]
  · rfl
theorem stepM_last (zs : List Int) (n : Nat) (p c : Int) (h : (Plain.stepM zs n p c).length = zs.length + 1) : (Plain.stepM zs n p c).getD zs.length 0 = c := by
  unfold Plain.stepM at h ⊢
  split at h
  · rename_i g
    rw [if_pos g]
    simp [List.getD]
  · omega

set_option maxHeartbeats 4000000 in
theorem table_walk (a : Option Addr) (cap n : Nat) (zs : List Int) (p l c : Int) (w : World) (hr : Row w a zs) (hnil : a = none → zs = [] ∧ cap = 0) (hlen : zs.length ≤ n) (hn : n ≤ 65536) (hc0 : 0 ≤ c) (hc1 : c ≤ 255) :
    Calls Try.prog 3 #[.slice a zs.length cap, .int .i64 n, .int .i64 p, .int .u8 l, .int .u8 c] w fun e w' => e = .returned (.bool true) ∧ Below w.heap.size w w' := by
  obtain ⟨t, ht⟩ : ∃ t, Plain.tok c = t := ⟨_, rfl⟩
  obtain ⟨p', hp'⟩ : ∃ p', Plain.stepP p c = p' := ⟨_, rfl⟩
  obtain ⟨ms, hms⟩ : ∃ ms, Plain.stepM zs n p c = ms := ⟨_, rfl⟩
  obtain ⟨ml, hml⟩ : ∃ ml, ms.length = ml := ⟨_, rfl⟩
  have HT := hide (isTChar_any c hc0 hc1)
  have HK := hide (clone_any a cap zs w hr hnil (by omega))
  have HZ := hide (fun a' cap' (W : World) (h : Row W a' zs) => zz_any a' cap' n zs p l c W h hlen hn)
  have HE := hide (fun k (hk : k < zs.length) => stepM_get zs n p c k hk)
  have HG := hide (stepM_last zs n p c)
  have hcs := table_cases zs n p c
  rw [ht] at HT hcs
  rw [hp', hms, hml] at HZ hcs
  rw [hms] at HE HG
  rw [hml] at HG
  obtain ⟨len, hL⟩ : ∃ len, zs.length = len := ⟨_, rfl⟩
  rw [hL] at HK HZ hcs hlen HE HG ⊢
  have HL := hide hL
  have HM := hide hml
  clear hL ht hp' hms hr hnil hml
  rcases hcs with ⟨rfl, rfl, hroom, rfl, rfl⟩ | ⟨rfl, rfl, hroom, rfl, rfl⟩ | ⟨rfl, rfl, hroom, rfl, rfl⟩ | ⟨rfl, rfl, hroom, rfl, rfl⟩ | ⟨rfl, rfl, hroom, rfl, rfl⟩ | ⟨rfl, rfl, hroom, rfl, rfl⟩ | ⟨rfl, rfl, hroom, rfl, rfl⟩ | ⟨rfl, rfl, hroom, rfl, rfl⟩ | ⟨e0, e1, hroom, rfl, rfl⟩
  all_goals
    go_enter Try.func3, Try.ntmps3
    go_wp2_with (first | (go_at_call 8; go_in) | (go_at_call 9; refine HK.out.mono ?_; rintro e w1 ⟨a1, cap1, rfl, hr1, hb1⟩) | (go_at_call 10; refine (HZ.out _ _ _ hr1).mono ?_; rintro e w2 ⟨rfl, hr2, hb2⟩) | (go_at_call 11; refine (HT.out _).mono ?_; rintro e w3 ⟨rfl, rfl⟩))
    go_loopw [18] (fun i wr => ∃ k : Nat, k ≤ len ∧ i = .int .i64 k ∧ Row wr a1 zs ∧ Row wr (some ⟨w1.heap.size, 0, none⟩) ms ∧ Below w.heap.size w wr) (fun i _ => len - (intOf i).toNat)
    case atStart => exact ⟨0, by omega, rfl, hr1.below hb2, hr2, hb1.trans (hb2.mono hb1.size)⟩
    case round =>
      obtain ⟨k, hk, rfl, q1, q2, q3⟩ := hrel
      have Q := hide (And.intro q1 (And.intro q2 q3))
      clear q1 q2 q3 hr1 hr2 hb1 hb2 HK HT HZ
      by_cases hlt : k < len
      · obtain ⟨z, hz⟩ : ∃ z, zs.getD k 0 = z := ⟨_, rfl⟩
        obtain ⟨b, off, rfl, c1⟩ := row_at Q.out.1 (k := k) (by rw [HL.out]; exact hlt)
        have c2 := row_at0 Q.out.2.1 (k := k) (by rw [HM.out]; omega)
        rw [hz] at c1
        rw [HE.out k hlt, hz] at c2
        clear hz
        go_wp2
        go_quiet (fail)
        go_wp2
        go_roundw
        case rel => exact ⟨k + 1, by omega, by go_num, Q.out.1.draws _, Q.out.2.1.draws _, below_draws Q.out.2.2 _⟩
        case measure => simp [intOf]; omega
      · try (have c3 : wr.cell? ⟨w1.heap.size, len, none⟩ = some (.int .u8 c) := (row_at0 Q.out.2.1 (k := len) (by rw [HM.out]; omega)).trans (by rw [HG.out (by first | trivial | simp)]))
        go_wp2
        go_ret
        exact ⟨rfl, Q.out.2.2⟩
end Go.Proofs.Qxb6603951a
