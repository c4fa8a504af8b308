/-
  The walks of 'ZZcontinuation' and of the law's own scanner 'continuationModel'.
-/
import Derived.Test.Qxb6604024aCont
namespace Go.Proofs.Qxb6604024a
open Go.RowKit

theorem zz_any (s : ByteArray) (o f : Nat) (w : World) (hs : s.size ≤ 1048576) (ho : o ≤ s.size) (hf : s.size ≤ f) :
    Calls Try.prog 16 #[.string s, .int .i64 o] w fun e w' => e = .returned (.int .i64 (Plain.cont s.data.toList f false o)) ∧ Below w.heap.size w w' := by
  obtain ⟨R, hR⟩ : ∃ R, Plain.cont s.data.toList f false o = R := ⟨_, rfl⟩
  have HC := hide (cont_any s o f w hs ho hf)
  rw [hR] at HC ⊢
  clear hR
  go_enter Try.func16, Try.ntmps16
  go_wp2_with (go_at_call 23; refine HC.out.mono ?_; rintro e w' ⟨rfl, hb⟩)
  go_ret
  exact ⟨rfl, hb⟩

theorem zz_out (s : ByteArray) (o : Int) (w : World) (_hs : s.size ≤ 1048576) (ho : (s.size : Int) ≤ o) :
    Calls Try.prog 16 #[.string s, .int .i64 o] w fun e w' => e = .returned (.int .i64 (-1)) ∧ w' = w := by
  go_enter Try.func16, Try.ntmps16
  go_wp2
  refine wp_loop_rounds 1 ?_
  rw [rounds_succ]
  go_wp2
  go_ret
  exact ⟨rfl, rfl⟩
theorem model_out (s : ByteArray) (o : Int) (w : World) (_hs : s.size ≤ 1048576) (ho : (s.size : Int) ≤ o) :
    Calls Try.prog 17 #[.string s, .int .i64 o] w fun e w' => e = .returned (.int .i64 (-1)) ∧ w' = w := by
  go_enter Try.func17, Try.ntmps17
  go_wp2
  refine wp_loop_rounds 1 ?_
  rw [rounds_succ]
  go_wp2
  go_ret
  exact ⟨rfl, rfl⟩

set_option maxHeartbeats 2000000 in
theorem model_any (s : ByteArray) (o f : Nat) (w : World) (hs : s.size ≤ 1048576) (ho : o ≤ s.size) (hf : s.size ≤ f) :
    Calls Try.prog 17 #[.string s, .int .i64 o] w fun e w' => e = .returned (.int .i64 (Plain.cont s.data.toList f false o)) ∧ w' = w := by
  obtain ⟨R, hR⟩ : ∃ R, Plain.cont s.data.toList f false o = R := ⟨_, rfl⟩
  rw [hR]
  have HR := hide hR
  clear hR
  go_enter Try.func17, Try.ntmps17
  go_wp2
  go_loop [5, 6, 7] (fun n c i => ∃ (k g : Nat) (nl ic : Bool), k ≤ s.size ∧ s.size ≤ k + g ∧ i = .int .i64 k ∧ n = .bool nl ∧ c = .bool ic ∧ Hid (Plain.cont s.data.toList g nl (if ic = true then Plain.lineEnd s.data.toList k else k) = R)) (fun _ _ i => s.size - (intOf i).toNat)
  case atStart => exact ⟨o, f, false, false, ho, by omega, rfl, rfl, rfl, HR⟩
  case round =>
    obtain ⟨k, g, nl, ic, hk, hg, rfl, rfl, rfl, HQ⟩ := hrel
    clear HR
    by_cases hlt : k < s.size
    · cases g with
      | zero => exfalso; omega
      | succ g =>
      obtain ⟨y, hy⟩ : ∃ y, (s[k]'hlt).toNat = y := ⟨_, rfl⟩
      have HY := hide (byte_get s k hlt y hy)
      have HK := hide (brk_iff s k hlt y hy)
      have HP := hide (spc_iff s k hlt y hy)
      have hl : k < s.data.toList.length := by simpa using hlt
      have HL := hide hl
      clear hl
      cases ic with
      | true =>
        have HQ2 : Hid (Plain.cont s.data.toList (g + 1) nl (Plain.lineEnd s.data.toList k) = R) := HQ
        clear HQ
        by_cases hbr : y = 10 ∨ y = 13
        · have HN : Hid (Plain.cont s.data.toList g true (k + 1) = R) := by
            have h1 := HQ2.out
            have hb := HK.out.trans (decide_eq_true hbr)
            rw [Plain.le_hit hb, Plain.cont_brk HL.out hb] at h1
            exact h1
          clear HQ2
          rcases hbr with rfl | rfl
          all_goals
            go_wp2
            go_round
            case rel => exact ⟨k + 1, g, true, false, by omega, by omega, by go_num, rfl, rfl, HN⟩
            case measure => simp [intOf]; omega
        · have HN : Hid (Plain.cont s.data.toList (g + 1) nl (Plain.lineEnd s.data.toList (k + 1)) = R) := by
            have h1 := HQ2.out
            have hb := HK.out.trans (decide_eq_false hbr)
            rw [Plain.le_step HL.out hb] at h1
            exact h1
          clear HQ2
          have e1 : ((y : Int) == 10) = false := by rw [beq_eq_false_iff_ne]; omega
          have e2 : ((y : Int) == 13) = false := by rw [beq_eq_false_iff_ne]; omega
          clear hbr
          go_wp2
          go_round
          case rel => exact ⟨k + 1, g + 1, nl, true, by omega, by omega, by go_num, rfl, rfl, HN⟩
          case measure => simp [intOf]; omega
      | false =>
        have HQ2 : Hid (Plain.cont s.data.toList (g + 1) nl k = R) := HQ
        clear HQ
        by_cases hbr : y = 10 ∨ y = 13
        · have HN : Hid (Plain.cont s.data.toList g true (k + 1) = R) := (Plain.cont_brk HL.out (HK.out.trans (decide_eq_true hbr))).symm.trans HQ2.out
          clear HQ2
          rcases hbr with rfl | rfl
          all_goals
            go_wp2
            go_round
            case rel => exact ⟨k + 1, g, true, false, by omega, by omega, by go_num, rfl, rfl, HN⟩
            case measure => simp [intOf]; omega
        · have HBF := hide (HK.out.trans (decide_eq_false hbr))
          have e1 : ((y : Int) == 10) = false := by rw [beq_eq_false_iff_ne]; omega
          have e2 : ((y : Int) == 13) = false := by rw [beq_eq_false_iff_ne]; omega
          clear hbr
          by_cases hsp : y = 32 ∨ y = 9 ∨ y = 11 ∨ y = 12
          · have HN : Hid (Plain.cont s.data.toList g nl (k + 1) = R) := (Plain.cont_spc HL.out HBF.out (HP.out.trans (decide_eq_true hsp))).symm.trans HQ2.out
            clear HQ2 e1 e2
            rcases hsp with rfl | rfl | rfl | rfl
            all_goals
              go_wp2
              go_round
              case rel => exact ⟨k + 1, g, nl, false, by omega, by omega, by go_num, rfl, rfl, HN⟩
              case measure => simp [intOf]; omega
          · have HSF := hide (HP.out.trans (decide_eq_false hsp))
            have e3 : ((y : Int) == 32) = false := by rw [beq_eq_false_iff_ne]; omega
            have e4 : ((y : Int) == 9) = false := by rw [beq_eq_false_iff_ne]; omega
            have e5 : ((y : Int) == 11) = false := by rw [beq_eq_false_iff_ne]; omega
            have e6 : ((y : Int) == 12) = false := by rw [beq_eq_false_iff_ne]; omega
            clear hsp
            by_cases hd : y = 45
            · have H45 := (HY.out.2 45).2 hd
              have hq : ¬ (s.data.toList[k]? = some 39 ∧ nl = true) := fun e => by rw [H45] at e; exact absurd e.1 (by decide)
              subst hd
              by_cases hlt2 : k + 1 < s.size
              · obtain ⟨z, hz⟩ : ∃ z, (s[k + 1]'hlt2).toNat = z := ⟨_, rfl⟩
                have HZ := (byte_get s (k + 1) hlt2 z hz).2 45
                by_cases hz45 : z = 45
                · have hda : Plain.dash s.data.toList k = true := by rw [Plain.dash_iff, H45, HZ.2 hz45]; rfl
                  have HN : Hid (Plain.cont s.data.toList g nl (Plain.lineEnd s.data.toList (k + 2)) = R) := by
                    have h1 := HQ2.out
                    rw [Plain.cont_dash HL.out HBF.out HSF.out hda, Plain.dash_le hda] at h1
                    exact h1
                  subst hz45
                  clear H45 HZ hq hda HQ2 e1 e2 e3 e4 e5 e6
                  go_wp2
                  go_round
                  case rel => exact ⟨k + 2, g, nl, true, by omega, by omega, by go_num, rfl, rfl, HN⟩
                  case measure => simp [intOf]; omega
                · have hda : Plain.dash s.data.toList k = false := by
                    have : s.data.toList[k + 1]? ≠ some 45 := fun e => hz45 (HZ.1 e)
                    rw [Plain.dash_iff, beq_eq_false_iff_ne.2 this, Bool.and_false]
                  have HE := hide ((Plain.cont_no (f := g) hq HBF.out HSF.out hda).symm.trans HQ2.out)
                  have ez : ((z : Int) == 45) = false := by rw [beq_eq_false_iff_ne]; omega
                  clear H45 HZ hq hda HQ2 e1 e2 e3 e4 e5 e6 hz45
                  go_wp2
                  go_ret
                  exact ⟨ret_int HE.out, rfl⟩
              · have hda : Plain.dash s.data.toList k = false := by
                  have : s.data.toList[k + 1]? = none := by rw [List.getElem?_eq_none_iff]; simpa using hlt2
                  rw [Plain.dash_iff, this]; simp
                have HE := hide ((Plain.cont_no (f := g) hq HBF.out HSF.out hda).symm.trans HQ2.out)
                clear H45 hq hda HQ2 e1 e2 e3 e4 e5 e6
                go_wp2
                go_ret
                exact ⟨ret_int HE.out, rfl⟩
            · have hda : Plain.dash s.data.toList k = false := by
                have : s.data.toList[k]? ≠ some 45 := fun e => hd ((HY.out.2 45).1 e)
                rw [Plain.dash_iff, beq_eq_false_iff_ne.2 this, Bool.false_and]
              have e7 : ((y : Int) == 45) = false := by rw [beq_eq_false_iff_ne]; omega
              by_cases hq : y = 39
              · have H39 := (HY.out.2 39).2 hq
                subst hq
                cases nl with
                | true =>
                  have HE := hide ((Plain.cont_hit (f := g) HL.out H39).symm.trans HQ2.out)
                  clear H39 HQ2 hda e1 e2 e3 e4 e5 e6 e7 hd
                  go_wp2
                  go_ret
                  exact ⟨ret_int HE.out, rfl⟩
                | false =>
                  have HE := hide ((Plain.cont_no (f := g) (nl := false) (fun e => by cases e.2) HBF.out HSF.out hda).symm.trans HQ2.out)
                  clear H39 HQ2 hda e1 e2 e3 e4 e5 e6 e7 hd
                  go_wp2
                  go_ret
                  exact ⟨ret_int HE.out, rfl⟩
              · have HE := hide ((Plain.cont_no (f := g) (nl := nl) (fun e => hq ((HY.out.2 39).1 e.1)) HBF.out HSF.out hda).symm.trans HQ2.out)
                have e8 : ((y : Int) == 39) = false := by rw [beq_eq_false_iff_ne]; omega
                clear HQ2 hda hd hq
                go_wp2
                go_ret
                exact ⟨ret_int HE.out, rfl⟩
    · have HE : Hid (-1 = R) := by
        have h1 := HQ.out
        have hl : ¬ k < s.data.toList.length := by simpa using hlt
        cases ic with
        | true => rw [if_pos rfl, Plain.le_out hl, Plain.cont_out (by omega)] at h1; exact h1
        | false => rw [if_neg Bool.false_ne_true, Plain.cont_out hl] at h1; exact h1
      clear HQ
      go_wp2
      go_ret
      exact ⟨ret_int HE.out, rfl⟩
end Go.Proofs.Qxb6604024a
