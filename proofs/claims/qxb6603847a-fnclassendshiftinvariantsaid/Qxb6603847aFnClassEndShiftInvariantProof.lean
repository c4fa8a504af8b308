import Derived.Test.Qxb6603847aRows
import Derived.WalkKit
import Derived.ProofKit
import Derived.OpenShut
import Derived.ShutString
import Derived.HandedShaped
import Derived.Test.Qxb6603847aWalksB
namespace Go.Proofs.Qxb6603847a.fnClassEndShiftInvariant
open Go.ChangeShapes Go.WideShapes Go.ChangeAt Go.RowKit
open Go.ChangeMaps (open_string shut_string)
set_option linter.unusedVariables false      -- a walk need not use every 'w<i>' (that an integer argument fits its kind)

theorem own : ownKnob Try.prog.godebug = none := by kernel_rfl

/-! ### STEP 1: THE WALK: the Go text returns true. -/
/-- The plain law: the scan of the joined text, shifted. -/
theorem plain_law (p s : ByteArray) (o f : Nat) (ho : o < s.size) :
    Plain.scan (p ++ s).data.toList f (Plain.start (p ++ s).data.toList (p.size + o + 1)) = p.size + Plain.scan s.data.toList f (Plain.start s.data.toList (o + 1)) := by
  have e : (p ++ s).data.toList = p.data.toList ++ s.data.toList := by simp
  have ep : p.size = p.data.toList.length := by simp
  rw [e, ep, Nat.add_assoc, Plain.start_shift, Plain.scan_shift _ _ (ne_nil s o ho)]

set_option maxHeartbeats 800000 in
theorem walk (a0 : ByteArray) (a1 : ByteArray) (a2 : Int) (w0 : a0.size ≤ maxLen) (w1 : a1.size ≤ maxLen) (w2 : (Lit.int .i64 a2).wf = true) (w : World) (hsh : w.ShapedOpen Try.prog) :
    Calls Try.prog 4 #[.string a0, .string a1, .int .i64 a2] w fun e w' => e = .returned (.bool true) ∧ Grown w w' := by
  unfold maxLen at w0 w1
  by_cases hs : a0.size ≤ 65536 ∧ a1.size ≤ 65536
  · obtain ⟨hs0, hs1⟩ := hs
    by_cases h0 : 0 ≤ a2
    · by_cases h1 : a2 < a1.size
      · obtain ⟨o, rfl⟩ : ∃ o : Nat, a2 = o := ⟨a2.toNat, by omega⟩
        have ho : o < a1.size := by omega
        have hsz : (a0 ++ a1).size = a0.size + a1.size := ByteArray.size_append
        obtain ⟨r, hr⟩ : ∃ r, Plain.scan a1.data.toList (a0 ++ a1).size (Plain.start a1.data.toList (o + 1)) = r := ⟨_, rfl⟩
        have c1 := zz_any a1 o (a0 ++ a1).size w hsh (by omega) ho (by omega)
        rw [hr] at c1
        have c2 := zz_any (a0 ++ a1) (a0.size + o) (a0 ++ a1).size w hsh (by omega) (by omega) (Nat.le_refl _)
        rw [plain_law a0 a1 o _ ho, hr, Int.natCast_add, Int.natCast_add] at c2
        have hrb : r < a1.size := by
          have := Plain.scan_lt a1.data.toList (ne_nil a1 o ho) (a0 ++ a1).size (Plain.start a1.data.toList (o + 1))
          rw [hr] at this
          simpa using this
        have HC1 := hide c1
        have HC2 := hide c2
        clear c1 c2 hr hsh w2 hsz
        go_enter Try.func4, Try.ntmps4
        go_wp2_with (go_at_call 8; go_in)
        refine HC2.out.mono ?_
        rintro e w' ⟨rfl, rfl⟩
        go_wp2_with fail
        refine HC1.out.mono ?_
        rintro e w' ⟨rfl, rfl⟩
        go_wp2
        go_ret
        exact ⟨rfl, Grown.refl _⟩
      · go_enter Try.func4, Try.ntmps4
        go_wp2
        go_ret
        exact ⟨rfl, Grown.refl _⟩
    · go_enter Try.func4, Try.ntmps4
      go_wp2
      go_ret
      exact ⟨rfl, Grown.refl _⟩
  · go_enter Try.func4, Try.ntmps4
    go_wp2
    all_goals
      go_ret
      exact ⟨rfl, Grown.refl _⟩

/-! ### THE ROW's STEP: WRITTEN OUT: LEAVE IT -/
set_option maxRecDepth 100000 in
theorem lifted (os : Os) (started : os.Started) (H : Type) (enc : TypeId × Value → H) :
    ReturnsInHanded {} Try.checked os 4 .any (Rows.fnClassEndShiftInvariantSpec.pre6 enc Try.prog Try.f4 Rows.fnClassEndShiftInvariantRow.domain false) (Rows.fnClassEndShiftInvariantSpec.post enc Try.prog Try.f4 false true false false) := by
  refine returnsInHanded_of_change_shaped (C := Try.checked) own started (by kernel_rfl) Try.func4
    (ChangeSpec.witness6 (enc := enc) (C := Try.checked) false ⟨#[], #[.string ByteArray.empty, .string ByteArray.empty, .int .i64 0], []⟩ 8 (by kernel_rfl) (by kernel_rfl) (by kernel_rfl) (by kernel_rfl)) ?_
  intro W base args ds gs before hval0 hW hcnd _ hsh _
  have hval : ∀ (j : Nat) t v, Try.f4.params[j]? = some t → args[j]? = some v → Value.okWide Try.prog W .any base t v := hval0
  have hW' := hW
  obtain ⟨p, q, hA0, hV, rfl, hfz, hnd⟩ := hW
  have hA : DataW.TrodAll enc Try.prog W 0 (fun _ => true) true Try.f4.params.toList args.toList ds p := hA0
  rw [Try.params4] at hA hval
  obtain ⟨v0, vs0, d0, ds0, p0, q0, hargs, rfl, rfl, h0, r0⟩ := trodAll_cons hA
  obtain ⟨v1, vs1, d1, ds1, p1, q1, rfl, rfl, rfl, h1, r1⟩ := trodAll_cons r0
  obtain ⟨v2, vs2, d2, ds2, p2, q2, rfl, rfl, rfl, h2, r2⟩ := trodAll_cons r1
  obtain ⟨rfl, rfl, rfl⟩ := trodAll_nil r2
  obtain rfl : args = #[v0, v1, v2] := by cases args; simp_all
  obtain ⟨rfl, rfl⟩ := trodVars_none hV
  obtain ⟨a0, rfl, rfl, rfl, w0⟩ := open_string Try.underlying9 (hval 0 9 v0 rfl rfl) h0
  obtain ⟨a1, rfl, rfl, rfl, w1⟩ := open_string Try.underlying9 (hval 1 9 v1 rfl rfl) h1
  obtain ⟨a2, rfl, rfl, rfl, w2⟩ := open_int Try.underlying3 (hval 2 3 v2 rfl rfl) h2
  clear hA0 hval0
  simp only [List.append_nil] at hW'
  refine (walk a0 a1 a2 w0 w1 w2 W hsh).mono fun e W' ⟨he, hg⟩ => ?_
  subst he
  exact ⟨_, rfl, post_of_same (pa := []) (pv := []) hW' (fun _ _ _ => (trodAll_cons_mk (shut_bool Try.underlying4 _) trodAll_mk0)) (fun sp _ => (trodAll_cons_mk (shut_string Try.underlying9 w0) (trodAll_cons_mk (shut_string Try.underlying9 w1) (trodAll_cons_mk (shut_int Try.underlying3 w2) trodAll_mk0)))) (fun _ _ => rfl) rfl
    (hg.frame _) hg.2.1 (ok_one (by kernel_rfl) rfl (okWide_bool_mk Try.underlying4 _))⟩

theorem over : Rows.fnClassEndShiftInvariantRow.holds Try.pinned (OpenSpec.ofChange Rows.fnClassEndShiftInvariantSpec) :=
  OpenClaim.holds_of_wide 4 Try.f4 rfl rfl rfl rfl rfl rfl rfl ⟨rfl, rfl, rfl, rfl, rfl⟩ rfl rfl rfl rfl rfl (by kernel_rfl) Try.func4 (by kernel_rfl)
    (of_decide_eq_true (by kernel_rfl)) (by unfold Func.isWrapper; first | (rw [if_pos (by decide +kernel)]; kernel_rfl) | (rw [if_neg (by decide +kernel)]; exact ⟨rfl, rfl⟩))
    (fun os started H enc _ => lifted os started H enc)

/-- ████ THE STATEMENT ████ -/
theorem proved : Rows.FnClassEndShiftInvariantSaid :=
  over
#print axioms proved
end Go.Proofs.Qxb6603847a.fnClassEndShiftInvariant
