import Derived.Test.Qxb6604024aRows
import Derived.WalkKit
import Derived.ProofKit
import Derived.OpenShut
import Derived.ShutString
import Derived.Below
import Derived.Test.Qxb6604024aModel
import Derived.Test.Qxb6604024aLaws
namespace Go.Proofs.Qxb6604024a.fnContinuationReadsOnlyFromAtToTheQuote
open Go.ChangeShapes Go.WideShapes Go.ChangeAt Go.RowKit
open Go.ChangeMaps (open_string shut_string)
set_option linter.unusedVariables false      -- a walk need not use every 'w<i>' (that an integer argument fits its kind)

theorem own : ownKnob Try.prog.godebug = none := by kernel_rfl

/-! ### STEP 1: THE WALK -/
set_option maxHeartbeats 1600000 in
theorem walk (a0 : ByteArray) (a1 : ByteArray) (a2 : ByteArray) (a3 : Int) (w0 : a0.size ≤ maxLen) (w1 : a1.size ≤ maxLen) (w2 : a2.size ≤ maxLen) (w3 : (Lit.int .i64 a3).wf = true) (w : World) :
    Calls Try.prog 7 #[.string a0, .string a1, .string a2, .int .i64 a3] w fun e w' => e = .returned (.bool true) ∧ Below w.heap.size w w' := by
  unfold maxLen at w0 w1 w2
  by_cases hs : a0.size + a1.size + a2.size ≤ 1048576
  · by_cases h0 : 0 ≤ a3
    · by_cases h1 : a3 ≤ a1.size
      · obtain ⟨o, rfl⟩ : ∃ o : Nat, a3 = o := ⟨a3.toNat, by omega⟩
        have hz1 : (a0 ++ a1).size = a0.size + a1.size := ByteArray.size_append
        have hz2 : (a1 ++ a2).size = a1.size + a2.size := ByteArray.size_append
        have c1 := zz_any a1 o 1048576 w (by omega) (by omega) (by omega)
        have c2 := fun wx => zz_any (a0 ++ a1) (a0.size + o) 1048576 wx (by omega) (by omega) (by omega)
        have c3 := fun wx => zz_any (a1 ++ a2) o 1048576 wx (by omega) (by omega) (by omega)
        have e0 : (a0 ++ a1).data.toList = a0.data.toList ++ a1.data.toList := by simp
        have e1 : (a1 ++ a2).data.toList = a1.data.toList ++ a2.data.toList := by simp
        have ep : a0.size = a0.data.toList.length := by simp
        have es := Plain.cont_shift a0.data.toList a1.data.toList 1048576 false o
        rw [← ep] at es
        have ex := Plain.cont_suffix a1.data.toList a2.data.toList 1048576 false o
        obtain ⟨R, hR⟩ : ∃ R, Plain.cont a1.data.toList 1048576 false o = R := ⟨_, rfl⟩
        have hRb : R = -1 ∨ (0 ≤ R ∧ R < a1.size) := by
          rcases Plain.cont_point a1.data.toList 1048576 false o with h | ⟨r, h, _, hr, _⟩
          · exact .inl (hR.symm.trans h)
          · refine .inr ?_
            rw [← hR, h]
            simp at hr
            omega
        rw [hR] at c1 es ex
        rw [e0, es, Int.natCast_add] at c2
        rw [e1] at c3
        have HC1 := hide c1
        have HC2 := hide c2
        clear c1 c2 e0 e1 ep es hz1 hz2 w3 hR
        rcases hRb with rfl | ⟨hR0, hR1⟩
        · clear ex c3
          go_enter Try.func7, Try.ntmps7
          go_wp2_with (go_at_call 18; go_in)
          refine HC1.out.mono ?_
          rintro e w1 ⟨rfl, hb1⟩
          go_wp2_with fail
          refine (HC2.out _).mono ?_
          rintro e w2 ⟨rfl, hb2⟩
          rw [show Plain.sh a0.size (-1) = -1 from rfl]
          go_wp2
          go_ret
          exact ⟨rfl, hb1.trans (hb2.mono hb1.size)⟩
        · have HC3 := hide c3
          rw [ex hR0] at HC3
          have hsh : Plain.sh a0.size R = R + a0.size := by unfold Plain.sh; rw [if_pos hR0]
          rw [hsh] at HC2
          clear ex c3 hsh
          go_enter Try.func7, Try.ntmps7
          go_wp2_with (go_at_call 18; go_in)
          refine HC1.out.mono ?_
          rintro e w1 ⟨rfl, hb1⟩
          go_wp2_with fail
          refine (HC2.out _).mono ?_
          rintro e w2 ⟨rfl, hb2⟩
          go_wp2_with fail
          refine (HC3.out _).mono ?_
          rintro e w3 ⟨rfl, hb3⟩
          go_wp2
          go_ret
          have hb12 := hb1.trans (hb2.mono hb1.size)
          exact ⟨rfl, hb12.trans (hb3.mono hb12.size)⟩
      · go_enter Try.func7, Try.ntmps7
        go_wp2
        go_ret
        exact ⟨rfl, Below.refl _ _⟩
    · go_enter Try.func7, Try.ntmps7
      go_wp2
      go_ret
      exact ⟨rfl, Below.refl _ _⟩
  · go_enter Try.func7, Try.ntmps7
    go_wp2
    all_goals
      go_ret
      exact ⟨rfl, Below.refl _ _⟩

/-! ### THE ROW's STEP: WRITTEN OUT: LEAVE IT -/
set_option maxRecDepth 100000 in
theorem lifted (os : Os) (started : os.Started) (H : Type) (enc : TypeId × Value → H) :
    ReturnsInHanded {} Try.checked os 7 .any (Rows.fnContinuationReadsOnlyFromAtToTheQuoteSpec.pre6 enc Try.prog Try.f7 Rows.fnContinuationReadsOnlyFromAtToTheQuoteRow.domain false) (Rows.fnContinuationReadsOnlyFromAtToTheQuoteSpec.post enc Try.prog Try.f7 false true false false) := by
  refine returnsInHanded_of_change (C := Try.checked) own started (by kernel_rfl) Try.func7
    (ChangeSpec.witness6 (enc := enc) (C := Try.checked) false ⟨#[], #[.string ByteArray.empty, .string ByteArray.empty, .string ByteArray.empty, .int .i64 0], []⟩ 8 (by kernel_rfl) (by kernel_rfl) (by kernel_rfl) (by kernel_rfl)) ?_
  intro W base args ds gs before hval0 hW hcnd _
  have hval : ∀ (j : Nat) t v, Try.f7.params[j]? = some t → args[j]? = some v → Value.okWide Try.prog W .any base t v := hval0
  have hW' := hW
  obtain ⟨p, q, hA0, hV, rfl, hfz, hnd⟩ := hW
  have hA : DataW.TrodAll enc Try.prog W 0 (fun _ => true) true Try.f7.params.toList args.toList ds p := hA0
  rw [Try.params7] at hA hval
  obtain ⟨v0, vs0, d0, ds0, p0, q0, hargs, rfl, rfl, h0, r0⟩ := trodAll_cons hA
  obtain ⟨v1, vs1, d1, ds1, p1, q1, rfl, rfl, rfl, h1, r1⟩ := trodAll_cons r0
  obtain ⟨v2, vs2, d2, ds2, p2, q2, rfl, rfl, rfl, h2, r2⟩ := trodAll_cons r1
  obtain ⟨v3, vs3, d3, ds3, p3, q3, rfl, rfl, rfl, h3, r3⟩ := trodAll_cons r2
  obtain ⟨rfl, rfl, rfl⟩ := trodAll_nil r3
  obtain rfl : args = #[v0, v1, v2, v3] := by cases args; simp_all
  obtain ⟨rfl, rfl⟩ := trodVars_none hV
  obtain ⟨a0, rfl, rfl, rfl, w0⟩ := open_string Try.underlying9 (hval 0 9 v0 rfl rfl) h0
  obtain ⟨a1, rfl, rfl, rfl, w1⟩ := open_string Try.underlying9 (hval 1 9 v1 rfl rfl) h1
  obtain ⟨a2, rfl, rfl, rfl, w2⟩ := open_string Try.underlying9 (hval 2 9 v2 rfl rfl) h2
  obtain ⟨a3, rfl, rfl, rfl, w3⟩ := open_int Try.underlying3 (hval 3 3 v3 rfl rfl) h3
  clear hA0 hval0
  simp only [List.append_nil] at hW'
  refine (walk a0 a1 a2 a3 w0 w1 w2 w3 W).mono fun e W' ⟨he, bel⟩ => ?_
  subst he
  exact ⟨_, rfl, _, _, _, [], [], [], hW', trodAll_mk1 (shut_bool Try.underlying4 _), (trodAll_cons_mk (shut_string Try.underlying9 w0) (trodAll_cons_mk (shut_string Try.underlying9 w1) (trodAll_cons_mk (shut_string Try.underlying9 w2) (trodAll_cons_mk (shut_int Try.underlying3 w3) trodAll_mk0)))), rfl, bel.frame _, fun h => by cases h⟩

theorem over : Rows.fnContinuationReadsOnlyFromAtToTheQuoteRow.holds Try.pinned (OpenSpec.ofChange Rows.fnContinuationReadsOnlyFromAtToTheQuoteSpec) :=
  OpenClaim.holds_of_wide 7 Try.f7 rfl rfl rfl rfl rfl rfl rfl ⟨rfl, rfl, rfl, rfl, rfl⟩ rfl rfl rfl rfl rfl (by kernel_rfl) Try.func7 (by kernel_rfl)
    (of_decide_eq_true (by kernel_rfl)) (by unfold Func.isWrapper; first | (rw [if_pos (by decide +kernel)]; kernel_rfl) | (rw [if_neg (by decide +kernel)]; exact ⟨rfl, rfl⟩))
    (fun os started H enc _ => lifted os started H enc)

/-- ████ THE STATEMENT ████ -/
theorem proved : Rows.FnContinuationReadsOnlyFromAtToTheQuoteSaid :=
  over
#print axioms proved
end Go.Proofs.Qxb6604024a.fnContinuationReadsOnlyFromAtToTheQuote
