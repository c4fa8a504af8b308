/-
  The walk of '(*yamlParser).uriChar' at a byte other than the escape's.
-/
import Derived.Test.Qxb6604183aUri
namespace Go.Proofs.Qxb6604183a
open Go.RowKit

set_option maxHeartbeats 6400000 in
/-- At a byte that may stand alone, or may not. -/
theorem uri_single (B b len cap k g off : Nat) (hB : B ≤ b) (c : Int) (t : Bool) (W : World) (h0 : W.cell? ⟨b, 0, none⟩ = some (.slice (some ⟨g, off, none⟩) len cap)) (h1 : W.cell? ⟨b, 1, none⟩ = some (.int .i64 (k : Int))) (hfz : W.frozen? ⟨b, 1, none⟩ = false) (hl : len ≤ 1048576) (hk : k < len)
    (hc : W.cell? ⟨g, off + k, none⟩ = some (.int .u8 c)) (h37 : (c == 37) = false) :
    Calls Try.prog 21 #[.pointer (some ⟨b, 0, none⟩), .bool t] W fun e w' => e = .returned (.bool (Plain.okB t c)) ∧ Left1 B b W w' (if Plain.okB t c = true then (k : Int) + 1 else k) := by
  have HS := hide (fun n => left_same (B := B) h1 n)
  have HT := hide (fun n => left_set hB h1 ((k : Int) + 1) n)
  have hne : ((k : Int) == (len : Int)) = false := by rw [beq_eq_false_iff_ne]; omega
  obtain ⟨v, hv, c29⟩ := mark_call c
  have C27 := hide (isFlow_any c)
  have C28 := hide (isWord_any c)
  have C29 := hide c29
  clear c29 hB
  obtain ⟨o, ho⟩ : ∃ o, Plain.okB t c = o := ⟨_, rfl⟩
  rw [ho]
  unfold Plain.okB at ho
  rw [h37, ← hv] at ho
  obtain ⟨fl, hfl⟩ : ∃ fl, Plain.flowB c = fl := ⟨_, rfl⟩
  obtain ⟨wd, hwd⟩ : ∃ wd, Plain.wordB c = wd := ⟨_, rfl⟩
  obtain ⟨x33, hx33⟩ : ∃ x33, (c == 33) = x33 := ⟨_, rfl⟩
  rw [hfl] at C27 ho
  rw [hwd] at C28 ho
  rw [hx33] at ho
  clear hfl hwd hv
  have no : o = false → Calls Try.prog 21 #[.pointer (some ⟨b, 0, none⟩), .bool t] W (fun e w' => e = .returned (.bool false) ∧ ∃ n, w' = W.drewN n) → Calls Try.prog 21 #[.pointer (some ⟨b, 0, none⟩), .bool t] W fun e w' => e = .returned (.bool o) ∧ Left1 B b W w' (if o = true then (k : Int) + 1 else k) := by
    rintro rfl H
    refine H.mono ?_
    rintro e w' ⟨rfl, n, rfl⟩
    exact ⟨rfl, HS.out n⟩
  have yes : o = true → Calls Try.prog 21 #[.pointer (some ⟨b, 0, none⟩), .bool t] W (fun e w' => e = .returned (.bool true) ∧ Left1 B b W w' ((k : Int) + 1)) → Calls Try.prog 21 #[.pointer (some ⟨b, 0, none⟩), .bool t] W fun e w' => e = .returned (.bool o) ∧ Left1 B b W w' (if o = true then (k : Int) + 1 else k) := by
    rintro rfl H
    exact H
  cases t with
  | true =>
    cases x33 with
    | true =>
      refine no (by rw [← ho]; rfl) ?_
      clear no yes ho
      go_enter Try.func21, Try.ntmps21
      go_wp2
      go_quiet (fail)
      go_wp2
      go_quiet (fail)
      go_wp2_with (first | (go_at_call 27; refine (C27.out _).mono ?_; rintro e w1 ⟨rfl, hw⟩; rw [hw]) | (go_at_call 28; refine (C28.out _).mono ?_; rintro e w1 ⟨rfl, hw⟩; rw [hw]) | (go_at_call 29; refine (C29.out _).mono ?_; rintro e w1 ⟨rfl, hw⟩; rw [hw]))
      go_ret
      exact ⟨rfl, _, rfl⟩
    | false =>
      cases fl with
      | true =>
        refine no (by rw [← ho]; rfl) ?_
        clear no yes ho
        go_enter Try.func21, Try.ntmps21
        go_wp2
        go_quiet (fail)
        go_wp2
        go_quiet (fail)
        go_wp2_with (first | (go_at_call 27; refine (C27.out _).mono ?_; rintro e w1 ⟨rfl, hw⟩; rw [hw]) | (go_at_call 28; refine (C28.out _).mono ?_; rintro e w1 ⟨rfl, hw⟩; rw [hw]) | (go_at_call 29; refine (C29.out _).mono ?_; rintro e w1 ⟨rfl, hw⟩; rw [hw]))
        go_ret
        exact ⟨rfl, _, rfl⟩
      | false =>
        cases wd with
        | true =>
          refine yes (by rw [← ho]; rfl) ?_
          clear no yes ho
          go_enter Try.func21, Try.ntmps21
          go_wp2
          go_quiet (fail)
          go_wp2
          go_quiet (fail)
          go_wp2_with (first | (go_at_call 27; refine (C27.out _).mono ?_; rintro e w1 ⟨rfl, hw⟩; rw [hw]) | (go_at_call 28; refine (C28.out _).mono ?_; rintro e w1 ⟨rfl, hw⟩; rw [hw]) | (go_at_call 29; refine (C29.out _).mono ?_; rintro e w1 ⟨rfl, hw⟩; rw [hw]))
          go_ret
          first | exact ⟨rfl, HT.out _⟩ | exact ⟨rfl, (HT.out _).draws _⟩
        | false =>
          by_cases hv0 : 0 ≤ v
          · have hvd : decide (0 ≤ v) = true := decide_eq_true hv0
            refine yes (by rw [← ho, hvd]; rfl) ?_
            clear no yes ho
            go_enter Try.func21, Try.ntmps21
            go_wp2
            go_quiet (fail)
            go_wp2
            go_quiet (fail)
            go_wp2_with (first | (go_at_call 27; refine (C27.out _).mono ?_; rintro e w1 ⟨rfl, hw⟩; rw [hw]) | (go_at_call 28; refine (C28.out _).mono ?_; rintro e w1 ⟨rfl, hw⟩; rw [hw]) | (go_at_call 29; refine (C29.out _).mono ?_; rintro e w1 ⟨rfl, hw⟩; rw [hw]))
            go_ret
            first | exact ⟨rfl, HT.out _⟩ | exact ⟨rfl, (HT.out _).draws _⟩
          · have hvd : decide (0 ≤ v) = false := decide_eq_false hv0
            refine no (by rw [← ho, hvd]; rfl) ?_
            clear no yes ho
            go_enter Try.func21, Try.ntmps21
            go_wp2
            go_quiet (fail)
            go_wp2
            go_quiet (fail)
            go_wp2_with (first | (go_at_call 27; refine (C27.out _).mono ?_; rintro e w1 ⟨rfl, hw⟩; rw [hw]) | (go_at_call 28; refine (C28.out _).mono ?_; rintro e w1 ⟨rfl, hw⟩; rw [hw]) | (go_at_call 29; refine (C29.out _).mono ?_; rintro e w1 ⟨rfl, hw⟩; rw [hw]))
            go_ret
            exact ⟨rfl, _, rfl⟩
  | false =>
    cases wd with
    | true =>
      refine yes (by rw [← ho]; rfl) ?_
      clear no yes ho
      go_enter Try.func21, Try.ntmps21
      go_wp2
      go_quiet (fail)
      go_wp2
      go_quiet (fail)
      go_wp2_with (first | (go_at_call 27; refine (C27.out _).mono ?_; rintro e w1 ⟨rfl, hw⟩; rw [hw]) | (go_at_call 28; refine (C28.out _).mono ?_; rintro e w1 ⟨rfl, hw⟩; rw [hw]) | (go_at_call 29; refine (C29.out _).mono ?_; rintro e w1 ⟨rfl, hw⟩; rw [hw]))
      go_ret
      first | exact ⟨rfl, HT.out _⟩ | exact ⟨rfl, (HT.out _).draws _⟩
    | false =>
      by_cases hv0 : 0 ≤ v
      · have hvd : decide (0 ≤ v) = true := decide_eq_true hv0
        refine yes (by rw [← ho, hvd]; rfl) ?_
        clear no yes ho
        go_enter Try.func21, Try.ntmps21
        go_wp2
        go_quiet (fail)
        go_wp2
        go_quiet (fail)
        go_wp2_with (first | (go_at_call 27; refine (C27.out _).mono ?_; rintro e w1 ⟨rfl, hw⟩; rw [hw]) | (go_at_call 28; refine (C28.out _).mono ?_; rintro e w1 ⟨rfl, hw⟩; rw [hw]) | (go_at_call 29; refine (C29.out _).mono ?_; rintro e w1 ⟨rfl, hw⟩; rw [hw]))
        go_ret
        first | exact ⟨rfl, HT.out _⟩ | exact ⟨rfl, (HT.out _).draws _⟩
      · have hvd : decide (0 ≤ v) = false := decide_eq_false hv0
        refine no (by rw [← ho, hvd]; rfl) ?_
        clear no yes ho
        go_enter Try.func21, Try.ntmps21
        go_wp2
        go_quiet (fail)
        go_wp2
        go_quiet (fail)
        go_wp2_with (first | (go_at_call 27; refine (C27.out _).mono ?_; rintro e w1 ⟨rfl, hw⟩; rw [hw]) | (go_at_call 28; refine (C28.out _).mono ?_; rintro e w1 ⟨rfl, hw⟩; rw [hw]) | (go_at_call 29; refine (C29.out _).mono ?_; rintro e w1 ⟨rfl, hw⟩; rw [hw]))
        go_ret
        exact ⟨rfl, _, rfl⟩
end Go.Proofs.Qxb6604183a
