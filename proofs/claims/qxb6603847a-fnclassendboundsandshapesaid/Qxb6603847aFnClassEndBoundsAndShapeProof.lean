import Derived.Test.Qxb6603847aRows
import Derived.WalkKit
import Derived.ProofKit
import Derived.OpenShut
import Derived.ShutString
import Derived.HandedShaped
import Derived.Test.Qxb6603847aWalksB
namespace Go.Proofs.Qxb6603847a.fnClassEndBoundsAndShape
open Go.ChangeShapes Go.WideShapes Go.ChangeAt Go.RowKit
open Go.ChangeMaps (open_string shut_string)
set_option linter.unusedVariables false      -- a walk need not use every 'w<i>' (that an integer argument fits its kind)

theorem own : ownKnob Try.prog.godebug = none := by kernel_rfl

/-! ### STEP 1: THE WALK: the Go text returns true. -/
/-- The plain law: what the scan answers, as the Go text asks it. -/
theorem plain_law (s : ByteArray) (o r : Nat) (ho : o < s.size) (hr : Plain.scan s.data.toList s.size (Plain.start s.data.toList (o + 1)) = r) :
    r < s.size ∧ o ≤ r ∧ (r = s.size - 1 ∨ (o < r ∧ s.data.toList[r]? = some 93 ∧ Plain.start s.data.toList (o + 1) ≤ r)) := by
  have hne : s.data.toList ≠ [] := ne_nil s o ho
  have hlt := Plain.scan_lt s.data.toList hne s.size (Plain.start s.data.toList (o + 1))
  have hst := Plain.start_ge s.data.toList (o + 1)
  rw [hr] at hlt
  simp at hlt
  rcases Plain.scan_spec s.data.toList s.size (Plain.start s.data.toList (o + 1)) with ⟨a, b⟩ | a
  · rw [hr] at a b
    exact ⟨hlt, by omega, .inr ⟨by omega, b, a⟩⟩
  · rw [hr] at a
    simp at a
    exact ⟨hlt, by omega, .inl a⟩

set_option maxHeartbeats 1600000 in
theorem walk (a0 : ByteArray) (a1 : Int) (w0 : a0.size ≤ maxLen) (w1 : (Lit.int .i64 a1).wf = true) (w : World) (hsh : w.ShapedOpen Try.prog) :
    Calls Try.prog 5 #[.string a0, .int .i64 a1] w fun e w' => e = .returned (.bool true) ∧ Grown w w' := by
  unfold maxLen at w0
  by_cases hs : a0.size ≤ 65536
  · by_cases h0 : 0 ≤ a1
    · by_cases h1 : a1 < a0.size
      · obtain ⟨o, rfl⟩ : ∃ o : Nat, a1 = o := ⟨a1.toNat, by omega⟩
        have ho : o < a0.size := by omega
        obtain ⟨r, hr⟩ : ∃ r, Plain.scan a0.data.toList a0.size (Plain.start a0.data.toList (o + 1)) = r := ⟨_, rfl⟩
        have pl := plain_law a0 o r ho hr
        have HC := hide (zz_any a0 o a0.size w hsh (by omega) ho (Nat.le_refl _))
        rw [hr] at HC
        obtain ⟨hrl, hor, hcase⟩ := pl
        by_cases hend : r = a0.size - 1
        · have hend' : ((r : Int) == (a0.size : Int) - 1) = true := by rw [beq_iff_eq]; omega
          clear hcase hr hsh w1 hend
          go_enter Try.func5, Try.ntmps5
          go_wp2_with (first | (go_at_call 10; go_in) | (go_at_call 9; refine HC.out.mono ?_; rintro e w' ⟨rfl, rfl⟩))
          go_ret
          exact ⟨rfl, Grown.refl _⟩
        · have hend' : ((r : Int) == (a0.size : Int) - 1) = false := by rw [beq_eq_false_iff_ne]; omega
          obtain ⟨hlt, hb, hst⟩ := hcase.resolve_left hend
          have h2n : o + 1 + 1 < a0.size := by omega
          have hb' : ((a0[r].toNat : Int) != 93) = false := by rw [bne, show ((a0[r].toNat : Int) == 93) = true from (byte_is a0 r hrl 93).1 hb]; rfl
          clear hcase hr hsh w1 hend hb
          have h1n : o + 1 < a0.size := by omega
          cases h94 : ((a0[o + 1].toNat : Int) == 94) with
          | false =>
            cases h93 : ((a0[o + 1].toNat : Int) == 93) with
            | false =>
              clear hst
              go_enter Try.func5, Try.ntmps5
              go_wp2_with (first | (go_at_call 10; go_in) | (go_at_call 9; refine HC.out.mono ?_; rintro e w' ⟨rfl, rfl⟩))
              go_ret
              exact ⟨rfl, Grown.refl _⟩
            | true =>
              have hge : o + 2 ≤ r := start_bracket a0 o h1n h94 h93 ▸ hst
              clear hst
              go_enter Try.func5, Try.ntmps5
              go_wp2_with (first | (go_at_call 10; go_in) | (go_at_call 9; refine HC.out.mono ?_; rintro e w' ⟨rfl, rfl⟩))
              go_ret
              exact ⟨rfl, Grown.refl _⟩
          | true =>
            cases h93 : ((a0[o + 1 + 1].toNat : Int) == 93) with
            | false =>
              clear hst
              go_enter Try.func5, Try.ntmps5
              go_wp2_with (first | (go_at_call 10; go_in) | (go_at_call 9; refine HC.out.mono ?_; rintro e w' ⟨rfl, rfl⟩))
              go_ret
              exact ⟨rfl, Grown.refl _⟩
            | true =>
              have hge : o + 3 ≤ r := start_caret a0 o h1n h2n h94 h93 ▸ hst
              clear hst
              go_enter Try.func5, Try.ntmps5
              go_wp2_with (first | (go_at_call 10; go_in) | (go_at_call 9; refine HC.out.mono ?_; rintro e w' ⟨rfl, rfl⟩))
              go_ret
              exact ⟨rfl, Grown.refl _⟩
      · go_enter Try.func5, Try.ntmps5
        go_wp2
        go_ret
        exact ⟨rfl, Grown.refl _⟩
    · go_enter Try.func5, Try.ntmps5
      go_wp2
      go_ret
      exact ⟨rfl, Grown.refl _⟩
  · go_enter Try.func5, Try.ntmps5
    go_wp2
    all_goals
      go_ret
      exact ⟨rfl, Grown.refl _⟩

/-! ### THE ROW's STEP: WRITTEN OUT: LEAVE IT -/
set_option maxRecDepth 100000 in
theorem lifted (os : Os) (started : os.Started) (H : Type) (enc : TypeId × Value → H) :
    ReturnsInHanded {} Try.checked os 5 .any (Rows.fnClassEndBoundsAndShapeSpec.pre6 enc Try.prog Try.f5 Rows.fnClassEndBoundsAndShapeRow.domain false) (Rows.fnClassEndBoundsAndShapeSpec.post enc Try.prog Try.f5 false true false false) := by
  refine returnsInHanded_of_change_shaped (C := Try.checked) own started (by kernel_rfl) Try.func5
    (ChangeSpec.witness6 (enc := enc) (C := Try.checked) false ⟨#[], #[.string ByteArray.empty, .int .i64 0], []⟩ 8 (by kernel_rfl) (by kernel_rfl) (by kernel_rfl) (by kernel_rfl)) ?_
  intro W base args ds gs before hval0 hW hcnd _ hsh _
  have hval : ∀ (j : Nat) t v, Try.f5.params[j]? = some t → args[j]? = some v → Value.okWide Try.prog W .any base t v := hval0
  have hW' := hW
  obtain ⟨p, q, hA0, hV, rfl, hfz, hnd⟩ := hW
  have hA : DataW.TrodAll enc Try.prog W 0 (fun _ => true) true Try.f5.params.toList args.toList ds p := hA0
  rw [Try.params5] at hA hval
  obtain ⟨v0, vs0, d0, ds0, p0, q0, hargs, rfl, rfl, h0, r0⟩ := trodAll_cons hA
  obtain ⟨v1, vs1, d1, ds1, p1, q1, rfl, rfl, rfl, h1, r1⟩ := trodAll_cons r0
  obtain ⟨rfl, rfl, rfl⟩ := trodAll_nil r1
  obtain rfl : args = #[v0, v1] := by cases args; simp_all
  obtain ⟨rfl, rfl⟩ := trodVars_none hV
  obtain ⟨a0, rfl, rfl, rfl, w0⟩ := open_string Try.underlying9 (hval 0 9 v0 rfl rfl) h0
  obtain ⟨a1, rfl, rfl, rfl, w1⟩ := open_int Try.underlying3 (hval 1 3 v1 rfl rfl) h1
  clear hA0 hval0
  simp only [List.append_nil] at hW'
  refine (walk a0 a1 w0 w1 W hsh).mono fun e W' ⟨he, hg⟩ => ?_
  subst he
  exact ⟨_, rfl, post_of_same (pa := []) (pv := []) hW' (fun _ _ _ => (trodAll_cons_mk (shut_bool Try.underlying4 _) trodAll_mk0)) (fun sp _ => (trodAll_cons_mk (shut_string Try.underlying9 w0) (trodAll_cons_mk (shut_int Try.underlying3 w1) trodAll_mk0))) (fun _ _ => rfl) rfl
    (hg.frame _) hg.2.1 (ok_one (by kernel_rfl) rfl (okWide_bool_mk Try.underlying4 _))⟩

theorem over : Rows.fnClassEndBoundsAndShapeRow.holds Try.pinned (OpenSpec.ofChange Rows.fnClassEndBoundsAndShapeSpec) :=
  OpenClaim.holds_of_wide 5 Try.f5 rfl rfl rfl rfl rfl rfl rfl ⟨rfl, rfl, rfl, rfl, rfl⟩ rfl rfl rfl rfl rfl (by kernel_rfl) Try.func5 (by kernel_rfl)
    (of_decide_eq_true (by kernel_rfl)) (by unfold Func.isWrapper; first | (rw [if_pos (by decide +kernel)]; kernel_rfl) | (rw [if_neg (by decide +kernel)]; exact ⟨rfl, rfl⟩))
    (fun os started H enc _ => lifted os started H enc)

/-- ████ THE STATEMENT ████ -/
theorem proved : Rows.FnClassEndBoundsAndShapeSaid :=
  over
#print axioms proved
end Go.Proofs.Qxb6603847a.fnClassEndBoundsAndShape
