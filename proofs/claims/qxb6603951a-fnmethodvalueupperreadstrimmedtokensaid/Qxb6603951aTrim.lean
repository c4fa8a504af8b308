/-
  The walk of 'FnMethodValueUpperReadsTrimmedToken' where its bounds hold.
-/
import Derived.Test.Qxb6603951aTable
import Derived.Test.Qxb6603951aRun
namespace Go.Proofs.Qxb6603951a
open Go.RowKit

theorem byte_at {zs : List Int} (hz : ∀ z ∈ zs, 0 ≤ z ∧ z ≤ 255) {k : Nat} (hk : k < zs.length) : 0 ≤ zs.getD k 0 ∧ zs.getD k 0 ≤ 255 := by
  rw [getD_of zs k hk]; exact hz _ (List.getElem_mem hk)

set_option maxHeartbeats 4000000 in
theorem trim_walk (a : Option Addr) (cap n : Nat) (zs : List Int) (w : World) (hr : Row w a zs) (hnil : a = none → zs = [] ∧ cap = 0) (hlen : zs.length ≤ 4096) (hn : n ≤ 4096) (hz : ∀ z ∈ zs, 0 ≤ z ∧ z ≤ 255) :
    Calls Try.prog 4 #[.slice a zs.length cap, .int .i64 n] w fun e w' => e = .returned (.bool true) ∧ Below w.heap.size w w' := by
  have HK := hide (clone_any a cap zs w hr hnil (by omega))
  have HY := hide (fun k (hk : k < zs.length) => byte_at hz hk)
  obtain ⟨len, hL⟩ : ∃ len, zs.length = len := ⟨_, rfl⟩
  rw [hL] at HK HY hlen ⊢
  have HL := hide hL
  clear hL hr hnil hz
  go_enter Try.func4, Try.ntmps4
  go_wp2_with (first | (go_at_call 12; go_in) | (go_at_call 9; refine HK.out.mono ?_; rintro e w1 ⟨a1, cap1, rfl, hr1, hb1⟩))
  go_loopw [5, 6, 7, 8] (fun m pl ld i wr => ∃ (k ml cm : Nat) (ms : List Int) (p : Int) (am : Option Addr), k ≤ len ∧ i = .int .i64 k ∧ m = .slice am ml cm ∧ pl = .int .i64 p ∧ ld = .int .u8 0 ∧ Hid (Plain.st zs n k = (ms, p) ∧ ms.length = ml ∧ Row wr am ms ∧ Row wr a1 zs ∧ Below w.heap.size w wr)) (fun _ _ _ i _ => len - (intOf i).toNat)
  case atStart =>
    refine ⟨0, 0, 0, [], 0, _, by omega, rfl, rfl, rfl, rfl, ?_⟩
    exact ⟨rfl, rfl, .inl rfl, hr1.below ((Below.refl _ _).alloc (Nat.le_refl _) _), hb1.alloc (by have := hb1.size; omega) _⟩
  case round =>
    obtain ⟨k, ml, cm, ms, p, am, hk, rfl, rfl, rfl, rfl, Q⟩ := hrel
    clear hr1 hb1 HK
    by_cases hlt : k < len
    · obtain ⟨z, hz⟩ : ∃ z, zs.getD k 0 = z := ⟨_, rfl⟩
      obtain ⟨ms', hms'⟩ : ∃ ms', Plain.stepM ms n p z = ms' := ⟨_, rfl⟩
      obtain ⟨p', hp'⟩ : ∃ p', Plain.stepP p z = p' := ⟨_, rfl⟩
      obtain ⟨ml', hml'⟩ : ∃ ml', ms'.length = ml' := ⟨_, rfl⟩
      obtain ⟨q1, q2, q3, q4, q5⟩ := Q.out
      have hst : Plain.st zs n (k + 1) = (ms', p') := by rw [Plain.st, q1, hz, hms', hp']
      have hle : ms.length ≤ n := by have := Plain.st_le zs n k; rw [q1] at this; exact this
      have HZ := hide (zz_any am cm n ms p 0 z wr q3 hle (by omega))
      rw [hms', hp', hml', q2] at HZ
      obtain ⟨b, off, rfl, c1⟩ := row_at q4 (k := k) (by rw [HL.out]; exact hlt)
      rw [hz] at c1
      have HN : Hid (Plain.st zs n (k + 1) = (ms', p') ∧ ms'.length = ml' ∧ Row wr (some ⟨b, off, none⟩) zs ∧ Below w.heap.size w wr) := ⟨hst, hml', q4, q5⟩
      clear q1 q2 q3 q4 q5 hst hle hms' hp' hml' hz Q
      go_wp2_with (go_at_call 10; refine HZ.out.mono ?_; rintro e w2 ⟨rfl, hr2, hb2⟩)
      go_roundw
      case rel => exact ⟨k + 1, ml', n, ms', p', _, by omega, by go_num, rfl, rfl, rfl, HN.out.1, HN.out.2.1, hr2, HN.out.2.2.1.below hb2, HN.out.2.2.2.trans (hb2.mono HN.out.2.2.2.size)⟩
      case measure => simp [intOf]; omega
    · have HF : Hid (Plain.st zs n len = (ms, p) ∧ ms.length = ml ∧ Row wr am ms ∧ Row wr a1 zs ∧ Below w.heap.size w wr) := (show k = len by omega) ▸ Q
      clear Q
      go_wp2
      go_loop [9] (fun i => ∃ f : Nat, f ≤ len ∧ i = .int .i64 f ∧ Hid (∀ j, j < f → Plain.tok (zs.getD j 0) = false)) (fun i => len - (intOf i).toNat)
      case atStart => exact ⟨0, by omega, rfl, fun j hj => absurd hj (by omega)⟩
      case round =>
        obtain ⟨f, hf, rfl, H1⟩ := hrel
        by_cases hfl : f < len
        · obtain ⟨z, hz⟩ : ∃ z, zs.getD f 0 = z := ⟨_, rfl⟩
          have hzb := HY.out f hfl
          rw [hz] at hzb
          obtain ⟨b, off, ea, c1⟩ := row_at HF.out.2.2.2.1 (k := f) (by rw [HL.out]; exact hfl)
          rw [hz] at c1
          subst ea
          have HT := hide (isTChar_any z hzb.1 hzb.2)
          clear hzb
          cases ht : Plain.tok z with
          | false =>
            rw [ht] at HT
            have H2 : Hid (∀ j, j < f + 1 → Plain.tok (zs.getD j 0) = false) := fun j hj => by
              rcases Nat.lt_or_eq_of_le (Nat.le_of_lt_succ hj) with h | h
              · exact H1.out j h
              · rw [h, hz]; exact ht
            clear H1 ht hz
            go_wp2_with (go_at_call 11; refine (HT.out _).mono ?_; rintro e w3 ⟨rfl, rfl⟩)
            go_round
            case rel => exact ⟨f + 1, by omega, by go_num, H2⟩
            case measure => simp [intOf]; omega
          | true =>
            rw [ht] at HT
            have H2 : Hid (Plain.tok (zs.getD f 0) = true) := by rw [hz]; exact ht
            clear ht hz
            go_wp2_with (go_at_call 11; refine (HT.out _).mono ?_; rintro e w3 ⟨rfl, rfl⟩)
            go_loop [11] (fun i => ∃ e : Nat, f ≤ e ∧ e ≤ len ∧ i = .int .i64 e ∧ Hid (∀ j, f ≤ j → j < e → Plain.tok (zs.getD j 0) = true)) (fun i => len - (intOf i).toNat)
            case atStart => exact ⟨f, Nat.le_refl _, by omega, rfl, fun j h1 h2 => absurd h2 (by omega)⟩
            case round =>
              obtain ⟨e, hfe, hel, rfl, H3⟩ := hrel
              clear HT c1
              by_cases hell : e < len
              · obtain ⟨z, hz⟩ : ∃ z, zs.getD e 0 = z := ⟨_, rfl⟩
                have hzb := HY.out e hell
                rw [hz] at hzb
                obtain ⟨b2, off2, ea, c1⟩ := row_at HF.out.2.2.2.1 (k := e) (by rw [HL.out]; exact hell)
                rw [hz] at c1
                cases ea
                have HT := hide (isTChar_any z hzb.1 hzb.2)
                clear hzb
                cases ht : Plain.tok z with
                | true =>
                  rw [ht] at HT
                  have H4 : Hid (∀ j, f ≤ j → j < e + 1 → Plain.tok (zs.getD j 0) = true) := fun j h1 hj => by
                    rcases Nat.lt_or_eq_of_le (Nat.le_of_lt_succ hj) with h | h
                    · exact H3.out j h1 h
                    · rw [h, hz]; exact ht
                  clear H3 ht hz
                  go_wp2_with (go_at_call 11; refine (HT.out _).mono ?_; rintro e w4 ⟨rfl, rfl⟩)
                  go_round
                  case rel => exact ⟨e + 1, by omega, by omega, by go_num, H4⟩
                  case measure => simp [intOf]; omega
                | false =>
                  rw [ht] at HT
                  have H4 : Hid (Plain.tok (zs.getD e 0) = false) := by rw [hz]; exact ht
                  have hne : f < e := by
                    rcases Nat.lt_or_eq_of_le hfe with h | h
                    · exact h
                    · exfalso
                      have h1 := H4.out
                      rw [← h, H2.out] at h1
                      cases h1
                  clear ht hz
                  go_wp2_with (go_at_call 11; refine (HT.out _).mono ?_; rintro e w4 ⟨rfl, rfl⟩)
                  go_loop [10, 12] (fun v i => ∃ (m : Nat) (x : Int), e + m ≤ len ∧ i = .int .i64 ((e + m : Nat) : Int) ∧ v = .int .i64 x ∧ Hid (Plain.wp zs e m = x)) (fun _ i => len - (intOf i).toNat)
                  case atStart => exact ⟨0, 2, by omega, rfl, rfl, Plain.wp_zero zs e⟩
                  case round =>
                    obtain ⟨m, x, hml, rfl, rfl, H5⟩ := hrel
                    clear HT c1
                    by_cases hmll : e + m < len
                    · obtain ⟨z, hz⟩ : ∃ z, zs.getD (e + m) 0 = z := ⟨_, rfl⟩
                      have hzb := HY.out (e + m) hmll
                      rw [hz] at hzb
                      obtain ⟨b2, off2, ea, c1⟩ := row_at HF.out.2.2.2.1 (k := e + m) (by rw [HL.out]; exact hmll)
                      rw [hz] at c1
                      cases ea
                      have HT := hide (isTChar_any z hzb.1 hzb.2)
                      clear hzb
                      cases ht : Plain.tok z with
                      | true =>
                        rw [ht] at HT
                        have H6 : Hid (Plain.wp zs e (m + 1) = 3) := Plain.wp_hit zs e m (by rw [hz]; exact ht)
                        clear ht hz
                        go_wp2_with (go_at_call 11; refine (HT.out _).mono ?_; rintro e w5 ⟨rfl, rfl⟩)
                        go_round
                        case rel => exact ⟨m + 1, 3, by omega, by go_num, rfl, H6⟩
                        case measure => simp [intOf]; omega
                      | false =>
                        rw [ht] at HT
                        have H6 : Hid (Plain.wp zs e (m + 1) = x) := (Plain.wp_miss zs e m (by rw [hz]; exact ht)).trans H5.out
                        clear ht hz
                        go_wp2_with (go_at_call 11; refine (HT.out _).mono ?_; rintro e w5 ⟨rfl, rfl⟩)
                        go_round
                        case rel => exact ⟨m + 1, x, by omega, by go_num, rfl, H6⟩
                        case measure => simp [intOf]; omega
                    · have E := Plain.end_gap zs n f e hne (by rw [HL.out]; exact hell) H1.out H3.out H4.out
                      rw [HL.out, HF.out.1, show len - e = m by omega, H5.out, Prod.mk.injEq] at E
                      obtain ⟨hms, rfl⟩ := E
                      have HM : Hid (ml = min (e - f) n ∧ ms.length = ml ∧ ∀ q, q < ml → ms.getD q 0 = zs.getD (f + q) 0) := by
                        have hl : ms.length = min (e - f) n := by rw [hms]; have := HL.out; simp; omega
                        exact ⟨HF.out.2.1.symm.trans hl, HF.out.2.1, fun q hq => by rw [hms]; exact Plain.kept_at zs f _ q (by rw [← hl, HF.out.2.1]; exact hq)⟩
                      have HW := hide HF.out.2.2
                      clear hms HF H5
                      by_cases hke : n < e - f
                      · have hm1 : ml ≤ n := by have := HM.out.1; omega
                        have hm2 : n ≤ ml := by have := HM.out.1; omega
                        go_wp2
                        go_loopw [14] (fun i wq => ∃ q : Nat, q ≤ ml ∧ i = .int .i64 q ∧ Hid (Row wq am ms ∧ Row wq (some ⟨b, off, none⟩) zs ∧ Below w.heap.size w wq)) (fun i _ => ml - (intOf i).toNat)
                        case atStart => exact ⟨0, by omega, rfl, HW.out⟩
                        case round =>
                          obtain ⟨q, hq, rfl, Q⟩ := hrel
                          clear HW
                          by_cases hql : q < ml
                          · obtain ⟨y, hy⟩ : ∃ y, zs.getD (f + q) 0 = y := ⟨_, rfl⟩
                            obtain ⟨b2, off2, eb, d1⟩ := row_at Q.out.1 (k := q) (by rw [HM.out.2.1]; exact hql)
                            obtain ⟨b3, off3, ec, d2⟩ := row_at Q.out.2.1 (k := f + q) (by rw [HL.out]; omega)
                            cases ec
                            rw [HM.out.2.2 q hql, hy] at d1
                            rw [hy] at d2
                            subst eb
                            clear hy
                            go_wp2
                            go_quiet (fail)
                            go_wp2
                            go_roundw
                            case rel => exact ⟨q + 1, by omega, by go_num, Q.out.1.draws _, Q.out.2.1.draws _, below_draws Q.out.2.2 _⟩
                            case measure => simp [intOf]; omega
                          · go_wp2
                            go_ret
                            exact ⟨rfl, Q.out.2.2⟩
                      · have hm1 : ml + f ≤ e := by have := HM.out.1; omega
                        have hm2 : e ≤ ml + f := by have := HM.out.1; omega
                        go_wp2
                        go_loopw [14] (fun i wq => ∃ q : Nat, q ≤ ml ∧ i = .int .i64 q ∧ Hid (Row wq am ms ∧ Row wq (some ⟨b, off, none⟩) zs ∧ Below w.heap.size w wq)) (fun i _ => ml - (intOf i).toNat)
                        case atStart => exact ⟨0, by omega, rfl, HW.out⟩
                        case round =>
                          obtain ⟨q, hq, rfl, Q⟩ := hrel
                          clear HW
                          by_cases hql : q < ml
                          · obtain ⟨y, hy⟩ : ∃ y, zs.getD (f + q) 0 = y := ⟨_, rfl⟩
                            obtain ⟨b2, off2, eb, d1⟩ := row_at Q.out.1 (k := q) (by rw [HM.out.2.1]; exact hql)
                            obtain ⟨b3, off3, ec, d2⟩ := row_at Q.out.2.1 (k := f + q) (by rw [HL.out]; omega)
                            cases ec
                            rw [HM.out.2.2 q hql, hy] at d1
                            rw [hy] at d2
                            subst eb
                            clear hy
                            go_wp2
                            go_quiet (fail)
                            go_wp2
                            go_roundw
                            case rel => exact ⟨q + 1, by omega, by go_num, Q.out.1.draws _, Q.out.2.1.draws _, below_draws Q.out.2.2 _⟩
                            case measure => simp [intOf]; omega
                          · go_wp2
                            go_ret
                            exact ⟨rfl, Q.out.2.2⟩
              · have E := Plain.end_run zs n f (by rw [HL.out]; exact hfl) H1.out (fun j h1 h2 => H3.out j h1 (by have := HL.out; omega))
                rw [HL.out, HF.out.1, Prod.mk.injEq] at E
                obtain ⟨hms, rfl⟩ := E
                have HM : Hid (ml = min (e - f) n ∧ ms.length = ml ∧ ∀ q, q < ml → ms.getD q 0 = zs.getD (f + q) 0) := by
                  have hl : ms.length = min (e - f) n := by rw [hms]; have := HL.out; simp; omega
                  exact ⟨HF.out.2.1.symm.trans hl, HF.out.2.1, fun q hq => by rw [hms]; exact Plain.kept_at zs f _ q (by have := HF.out.2.1; omega)⟩
                have HW := hide HF.out.2.2
                clear hms HF
                by_cases hke : n < e - f
                · have hm1 : ml ≤ n := by have := HM.out.1; omega
                  have hm2 : n ≤ ml := by have := HM.out.1; omega
                  go_wp2
                  go_loopw [14] (fun i wq => ∃ q : Nat, q ≤ ml ∧ i = .int .i64 q ∧ Hid (Row wq am ms ∧ Row wq (some ⟨b, off, none⟩) zs ∧ Below w.heap.size w wq)) (fun i _ => ml - (intOf i).toNat)
                  case atStart => exact ⟨0, by omega, rfl, HW.out⟩
                  case round =>
                    obtain ⟨q, hq, rfl, Q⟩ := hrel
                    clear HW
                    by_cases hql : q < ml
                    · obtain ⟨y, hy⟩ : ∃ y, zs.getD (f + q) 0 = y := ⟨_, rfl⟩
                      obtain ⟨b2, off2, eb, d1⟩ := row_at Q.out.1 (k := q) (by rw [HM.out.2.1]; exact hql)
                      obtain ⟨b3, off3, ec, d2⟩ := row_at Q.out.2.1 (k := f + q) (by rw [HL.out]; omega)
                      cases ec
                      rw [HM.out.2.2 q hql, hy] at d1
                      rw [hy] at d2
                      subst eb
                      clear hy
                      go_wp2
                      go_quiet (fail)
                      go_wp2
                      go_roundw
                      case rel => exact ⟨q + 1, by omega, by go_num, Q.out.1.draws _, Q.out.2.1.draws _, below_draws Q.out.2.2 _⟩
                      case measure => simp [intOf]; omega
                    · go_wp2
                      go_ret
                      exact ⟨rfl, Q.out.2.2⟩
                · have hm1 : ml + f ≤ e := by have := HM.out.1; omega
                  have hm2 : e ≤ ml + f := by have := HM.out.1; omega
                  go_wp2
                  go_loopw [14] (fun i wq => ∃ q : Nat, q ≤ ml ∧ i = .int .i64 q ∧ Hid (Row wq am ms ∧ Row wq (some ⟨b, off, none⟩) zs ∧ Below w.heap.size w wq)) (fun i _ => ml - (intOf i).toNat)
                  case atStart => exact ⟨0, by omega, rfl, HW.out⟩
                  case round =>
                    obtain ⟨q, hq, rfl, Q⟩ := hrel
                    clear HW
                    by_cases hql : q < ml
                    · obtain ⟨y, hy⟩ : ∃ y, zs.getD (f + q) 0 = y := ⟨_, rfl⟩
                      obtain ⟨b2, off2, eb, d1⟩ := row_at Q.out.1 (k := q) (by rw [HM.out.2.1]; exact hql)
                      obtain ⟨b3, off3, ec, d2⟩ := row_at Q.out.2.1 (k := f + q) (by rw [HL.out]; omega)
                      cases ec
                      rw [HM.out.2.2 q hql, hy] at d1
                      rw [hy] at d2
                      subst eb
                      clear hy
                      go_wp2
                      go_quiet (fail)
                      go_wp2
                      go_roundw
                      case rel => exact ⟨q + 1, by omega, by go_num, Q.out.1.draws _, Q.out.2.1.draws _, below_draws Q.out.2.2 _⟩
                      case measure => simp [intOf]; omega
                    · go_wp2
                      go_ret
                      exact ⟨rfl, Q.out.2.2⟩
        · have H2 : Hid (∀ j, j < len → Plain.tok (zs.getD j 0) = false) := (show f = len by omega) ▸ H1
          have E := Plain.end_none zs n (by rw [HL.out]; exact H2.out)
          rw [HL.out, HF.out.1] at E
          cases E
          obtain rfl : 0 = ml := HF.out.2.1
          go_wp2
          refine wp_loop_rounds 1 ?_
          rw [rounds_succ]
          go_wp2
          go_ret
          exact ⟨rfl, HF.out.2.2.2.2⟩
end Go.Proofs.Qxb6603951a
