/-
  The walk of '(*MethodValue).upper': one step.
-/
import Derived.Test.Qxb6603951aClone
import Derived.OwnWalk
import Derived.OneCell
import Derived.BigQuiet
import Derived.Deep.QuietTactic
namespace Go.Proofs.Qxb6603951a
open Go.RowKit

abbrev cells8 (zs : List Int) : List Value := zs.map (Value.int .u8)

/-- What one step leaves: the method's row, the struct's cells. -/
structure Stepped (B g b c : Nat) (W w' : World) (zs : List Int) (p : Int) : Prop where
  own : w'.ownsRow B 5 1 (.slice (some ⟨g, 0, none⟩) zs.length c) zs.length (cells8 zs)
  method : w'.cell? ⟨b, 1, none⟩ = some (.slice (some ⟨g, 0, none⟩) zs.length c)
  place : w'.cell? ⟨b, 2, none⟩ = some (.int .i64 p)
  lead : w'.cell? ⟨b, 3, none⟩ = W.cell? ⟨b, 3, none⟩
  below : Below B W w'

set_option maxHeartbeats 400000 in
/-- Nothing happens. -/
theorem upper_idle (B g b n : Nat) (zs : List Int) (p c : Int) (W : World)
    (hown : W.ownsRow B 5 1 (.slice (some ⟨g, 0, none⟩) zs.length n) zs.length (cells8 zs)) (hm : W.cell? ⟨b, 1, none⟩ = some (.slice (some ⟨g, 0, none⟩) zs.length n)) (hp : W.cell? ⟨b, 2, none⟩ = some (.int .i64 p))
    (hq : (Plain.tok c = false ∧ p ≠ 1) ∨ (p ≠ 0 ∧ p ≠ 1 ∧ p ≠ 2)) :
    Calls Try.prog 17 #[.pointer (some ⟨b, 0, none⟩), .int .u8 c] W fun e w' => e = .returned (.tuple #[]) ∧ Stepped B g b n W w' zs p := by
  obtain ⟨t, ht⟩ : ∃ t, Plain.tok c = t := ⟨_, rfl⟩
  have HC := hide (isTokenByte_any c)
  have HS : Hid (Stepped B g b n W W zs p) := ⟨hown, hm, hp, rfl, Below.refl _ _⟩
  rw [ht] at HC hq
  clear ht hown hm
  have e1 : (p == 1) = false := by rw [beq_eq_false_iff_ne]; rcases hq with h | h; exact h.2; exact h.2.1
  rcases hq with ⟨rfl, hne⟩ | ⟨a, hne, d⟩
  · clear hne
    by_cases a : p = 0
    · subst a
      go_enter Try.func17, Try.ntmps17
      go_wp2_with (go_at_call 19; refine (HC.out _).mono ?_; rintro e w' ⟨rfl, rfl⟩)
      go_end0
      exact ⟨rfl, HS.out⟩
    · have e0 : (p == 0) = false := by rw [beq_eq_false_iff_ne]; exact a
      clear a
      cases e2 : (p == 2) with
      | false =>
        go_enter Try.func17, Try.ntmps17
        go_wp2_with (go_at_call 19; refine (HC.out _).mono ?_; rintro e w' ⟨rfl, rfl⟩)
        go_end0
        exact ⟨rfl, HS.out⟩
      | true =>
        go_enter Try.func17, Try.ntmps17
        go_wp2_with (go_at_call 19; refine (HC.out _).mono ?_; rintro e w' ⟨rfl, rfl⟩)
        go_end0
        exact ⟨rfl, HS.out⟩
  · have e0 : (p == 0) = false := by rw [beq_eq_false_iff_ne]; exact a
    have e2 : (p == 2) = false := by rw [beq_eq_false_iff_ne]; exact d
    clear a hne d
    go_enter Try.func17, Try.ntmps17
    go_wp2_with (go_at_call 19; refine (HC.out _).mono ?_; rintro e w' ⟨rfl, rfl⟩)
    go_end0
    exact ⟨rfl, HS.out⟩

theorem stepped_place {B g b n : Nat} {zs : List Int} {p : Int} {W : World} (q : Int) (hB : B ≤ b) (hne : b ≠ g)
    (hown : W.ownsRow B 5 1 (.slice (some ⟨g, 0, none⟩) zs.length n) zs.length (cells8 zs)) (hm : W.cell? ⟨b, 1, none⟩ = some (.slice (some ⟨g, 0, none⟩) zs.length n)) (hp : W.cell? ⟨b, 2, none⟩ = some (.int .i64 p)) :
    Stepped B g b n W (W.setCell ⟨b, 2, none⟩ (.int .i64 q)) zs q :=
  ⟨ownsRow_setCell_other hown (by simp [Value.ownBlock]; exact fun h => hne h.symm) _, by rw [World.cell?_setCell_other _ _ _ _ (by simp)]; exact hm, World.cell?_setCell_same _ _ _ hp,
    World.cell?_setCell_other _ _ _ _ (by simp), (Below.refl _ _).setCell hB _⟩

theorem Stepped.draws {B g b n : Nat} {zs : List Int} {p : Int} {W w' : World} (h : Stepped B g b n W w' zs p) (k : Nat) : Stepped B g b n W (w'.drewN k) zs p :=
  ⟨h.own, h.method, h.place, h.lead, ⟨h.below.os, h.below.tape, h.below.output, h.below.size, h.below.block⟩⟩

set_option maxHeartbeats 400000 in
/-- The place alone turns. -/
theorem upper_place (B g b n : Nat) (zs : List Int) (p c q : Int) (W : World) (hB : B ≤ b) (hne : b ≠ g)
    (hown : W.ownsRow B 5 1 (.slice (some ⟨g, 0, none⟩) zs.length n) zs.length (cells8 zs)) (hm : W.cell? ⟨b, 1, none⟩ = some (.slice (some ⟨g, 0, none⟩) zs.length n)) (hp : W.cell? ⟨b, 2, none⟩ = some (.int .i64 p))
    (hfz : W.frozen? ⟨b, 2, none⟩ = false)
    (hq : (Plain.tok c = false ∧ p = 1 ∧ q = 2) ∨ (Plain.tok c = true ∧ p = 2 ∧ q = 3)) :
    Calls Try.prog 17 #[.pointer (some ⟨b, 0, none⟩), .int .u8 c] W fun e w' => e = .returned (.tuple #[]) ∧ Stepped B g b n W w' zs q := by
  obtain ⟨t, ht⟩ : ∃ t, Plain.tok c = t := ⟨_, rfl⟩
  have HC := hide (isTokenByte_any c)
  have HS := hide (stepped_place q hB hne hown hm hp)
  rw [ht] at HC hq
  clear ht hown hm hB hne
  rcases hq with ⟨rfl, rfl, rfl⟩ | ⟨rfl, rfl, rfl⟩
  · go_enter Try.func17, Try.ntmps17
    go_wp2_with (go_at_call 19; refine (HC.out _).mono ?_; rintro e w' ⟨rfl, rfl⟩)
    go_end0
    exact ⟨rfl, HS.out⟩
  · go_enter Try.func17, Try.ntmps17
    go_wp2_with (go_at_call 19; refine (HC.out _).mono ?_; rintro e w' ⟨rfl, rfl⟩)
    go_end0
    exact ⟨rfl, HS.out⟩

set_option maxHeartbeats 400000 in
/-- A token byte, and no room. -/
theorem upper_full (B g b n : Nat) (zs : List Int) (p c : Int) (W : World) (hB : B ≤ b) (hne : b ≠ g)
    (hown : W.ownsRow B 5 1 (.slice (some ⟨g, 0, none⟩) zs.length n) zs.length (cells8 zs)) (hm : W.cell? ⟨b, 1, none⟩ = some (.slice (some ⟨g, 0, none⟩) zs.length n)) (hp : W.cell? ⟨b, 2, none⟩ = some (.int .i64 p))
    (hfz : W.frozen? ⟨b, 2, none⟩ = false) (hfull : ¬ zs.length < n)
    (hq : Plain.tok c = true ∧ (p = 0 ∨ p = 1)) :
    Calls Try.prog 17 #[.pointer (some ⟨b, 0, none⟩), .int .u8 c] W fun e w' => e = .returned (.tuple #[]) ∧ Stepped B g b n W w' zs 1 := by
  obtain ⟨t, ht⟩ : ∃ t, Plain.tok c = t := ⟨_, rfl⟩
  have HC := hide (isTokenByte_any c)
  have HS := hide (stepped_place 1 hB hne hown hm hp)
  obtain ⟨len, hlen'⟩ : ∃ len, zs.length = len := ⟨_, rfl⟩
  rw [hlen'] at hm hfull
  have hm1 : (W.setCell ⟨b, 2, none⟩ (.int .i64 1)).cell? ⟨b, 1, none⟩ = some (.slice (some ⟨g, 0, none⟩) len n) := by rw [← hlen']; exact HS.out.method
  rw [ht] at HC hq
  clear ht hown hB hne hlen'
  obtain ⟨rfl, hq⟩ := hq
  rcases hq with rfl | rfl
  all_goals
    go_enter Try.func17, Try.ntmps17
    go_wp2_with (go_at_call 19; refine (HC.out _).mono ?_; rintro e w' ⟨rfl, rfl⟩)
    go_quiet (fail)
    go_wp2
    go_end0
    exact ⟨rfl, HS.out.draws _⟩

theorem stepped_grow {B g b n : Nat} {zs : List Int} {p c : Int} {W W1 w1 : World} (hne : b ≠ g) (hBg : B ≤ g) (hB : B ≤ b) (hs : Stepped B g b n W W1 zs p) (o : Obj)
    (hown : w1.ownsRow B 5 1 (.slice (some ⟨g, 0, none⟩) (zs.length + 1) n) (zs.length + 1) (cells8 zs ++ [.int .u8 c])) (hg : (W1.alloc o).grownBy w1 (some g)) :
    (∃ v, w1.cell? ⟨b, 1, none⟩ = some v) ∧ Stepped B g b n W (w1.setCell ⟨b, 1, none⟩ (.slice (some ⟨g, 0, none⟩) (zs.length + 1) n)) (zs ++ [c]) p := by
  have hb : b < W1.heap.size := World.block_lt_of_cell? W1 ⟨b, 1, none⟩ hs.method
  have hgs : g < W1.heap.size := (hs.own.lt g rfl).2
  have hcell : ∀ k, w1.cell? ⟨b, k, none⟩ = W1.cell? ⟨b, k, none⟩ := fun k => by
    rw [World.cell?_of_block (w := W1.alloc o) (hg.block b (by simp; omega) (by simp; exact hne)), World.cell?_alloc_past _ _ _ hb]
  have h1 : w1.cell? ⟨b, 1, none⟩ = some (.slice (some ⟨g, 0, none⟩) zs.length n) := (hcell 1).trans hs.method
  have bel : Below B W w1 := (hs.below.alloc (by omega) o).grown hg (by simp; omega) (fun k hk => by cases hk; exact hBg)
  have eL : (zs ++ [c]).length = zs.length + 1 := by simp
  refine ⟨⟨_, h1⟩, ?_, ?_, ?_, ?_, bel.setCell hB _⟩
  · rw [eL, show cells8 (zs ++ [c]) = cells8 zs ++ [.int .u8 c] by simp [cells8]]
    exact ownsRow_setCell_other hown (by simp [Value.ownBlock]; exact fun h => hne h.symm) _
  · rw [eL]; exact World.cell?_setCell_same _ _ _ h1
  · rw [World.cell?_setCell_other _ _ _ _ (by simp)]; exact (hcell 2).trans hs.place
  · rw [World.cell?_setCell_other _ _ _ _ (by simp)]; exact (hcell 3).trans hs.lead

theorem grow_free {g b : Nat} {W1 w1 : World} (hne : b ≠ g) (o : Obj) (hb : b < W1.heap.size) (hg : (W1.alloc o).grownBy w1 (some g)) (hf : W1.frozen? ⟨b, 1, none⟩ = false) : w1.frozen? ⟨b, 1, none⟩ = false := by
  rw [World.frozen?_of_block (w := W1.alloc o) (hg.block b (by simp; omega) (by simp; exact hne)), World.frozen?_alloc_past _ _ _ hb]
  exact hf

theorem owns_draws {w : World} {B e s n : Nat} {v : Value} {xs : List Value} (h : w.ownsRow B e s v n xs) (k : Nat) : (w.drewN k).ownsRow B e s v n xs := h
theorem new_cell (X : World) (k s : Nat) (hs : s = X.heap.size) (v : Value) : ((X.drewN k).alloc (.cells #[v] 5)).cell? ⟨s, 0, none⟩ = some v := by
  subst hs
  exact (cell_of_row _ _ 0 #[v] 5 (0, 0) (heap_alloc_new (X.drewN k) _)).trans rfl
theorem grow_free_draws {g b : Nat} {X w1 : World} (k : Nat) (hne : b ≠ g) (o : Obj) (hb : b < X.heap.size) (hg : ((X.drewN k).alloc o).grownBy w1 (some g)) (hf : X.frozen? ⟨b, 1, none⟩ = false) : w1.frozen? ⟨b, 1, none⟩ = false :=
  grow_free (W1 := X.drewN k) hne o hb hg hf

set_option maxHeartbeats 400000 in
/-- A token byte, and room for it. -/
theorem upper_grow (B g b n : Nat) (zs : List Int) (p c : Int) (W : World) (hB : B ≤ b) (hBg : B ≤ g) (hne : b ≠ g)
    (hown : W.ownsRow B 5 1 (.slice (some ⟨g, 0, none⟩) zs.length n) zs.length (cells8 zs)) (hm : W.cell? ⟨b, 1, none⟩ = some (.slice (some ⟨g, 0, none⟩) zs.length n)) (hp : W.cell? ⟨b, 2, none⟩ = some (.int .i64 p))
    (hfz : W.frozen? ⟨b, 2, none⟩ = false) (hfm : W.frozen? ⟨b, 1, none⟩ = false) (hroom : zs.length < n)
    (hq : Plain.tok c = true ∧ (p = 0 ∨ p = 1)) :
    Calls Try.prog 17 #[.pointer (some ⟨b, 0, none⟩), .int .u8 c] W fun e w' => e = .returned (.tuple #[]) ∧ Stepped B g b n W w' (zs ++ [c]) 1 := by
  obtain ⟨t, ht⟩ : ∃ t, Plain.tok c = t := ⟨_, rfl⟩
  have HC := hide (isTokenByte_any c)
  have HS := hide (stepped_place 1 hB hne hown hm hp)
  obtain ⟨len, hlen'⟩ : ∃ len, zs.length = len := ⟨_, rfl⟩
  rw [hlen'] at hm hroom
  have HL := hide hlen'
  have hm1 : (W.setCell ⟨b, 2, none⟩ (.int .i64 1)).cell? ⟨b, 1, none⟩ = some (.slice (some ⟨g, 0, none⟩) len n) := by rw [← hlen']; exact HS.out.method
  have HO : Hid ((W.setCell ⟨b, 2, none⟩ (.int .i64 1)).ownsRow B 5 1 (.slice (some ⟨g, 0, none⟩) len n) len (cells8 zs)) := by rw [← hlen']; exact HS.out.own
  have HF : Hid ((W.setCell ⟨b, 2, none⟩ (.int .i64 1)).frozen? ⟨b, 1, none⟩ = false) := by rw [World.frozen?_setCell]; exact hfm
  have HB : Hid (B ≤ b ∧ b ≠ g ∧ b < (W.setCell ⟨b, 2, none⟩ (.int .i64 1)).heap.size) := ⟨hB, hne, World.block_lt_of_cell? _ ⟨b, 1, none⟩ hm1⟩
  rw [ht] at HC hq
  clear ht hown hB hne hlen' hm hfm
  obtain ⟨rfl, hq⟩ := hq
  obtain ⟨i0, hi, hz0, hz1, hz2⟩ := info_parts info5
  rcases hq with rfl | rfl
  all_goals
    go_enter Try.func17, Try.ntmps17
    go_wp2_with (go_at_call 19; refine (HC.out _).mono ?_; rintro e w' ⟨rfl, rfl⟩)
    go_quiet (fail)
    go_wp2_with (at_builtin; refine wpList_append_fits _ rfl (.tmp 33) (.tmp 35) 22 rfl B 5 i0 1 Try.underlying22 hi hz1 g len n (cells8 zs) rfl ?h1 ⟨_, 0, none⟩ 1 1 [.int .u8 c] rfl rfl ?h2 ?h3 ?h4 ?_)
    case h1 => exact (owns_draws HO.out nq).alloc _
    case h2 =>
      intro j u hj
      match j, hj with
      | 0, hj => simp at hj; subst hj; exact new_cell _ _ _ (by simp) _
    case h3 => intro u hu; simp at hu; subst hu; rfl
    case h4 => omega
    intro w1 hown1 hgrow1
    have S := stepped_grow HB.out.2.1 hBg HB.out.1 (HS.out.draws nq) _ (by rw [HL.out]; exact hown1) hgrow1
    have F := grow_free_draws nq HB.out.2.1 _ HB.out.2.2 hgrow1 HF.out
    rw [HL.out] at S
    obtain ⟨⟨v, S1⟩, S2⟩ := S
    have HS2 := hide S2
    clear S2 hown1 hgrow1
    go_wp2
    go_end0
    exact ⟨rfl, HS2.out⟩

/-- One step, whatever the place and the byte. -/
theorem upper_any (B g b n : Nat) (zs : List Int) (p c : Int) (W : World) (hB : B ≤ b) (hBg : B ≤ g) (hne : b ≠ g)
    (hown : W.ownsRow B 5 1 (.slice (some ⟨g, 0, none⟩) zs.length n) zs.length (cells8 zs)) (hm : W.cell? ⟨b, 1, none⟩ = some (.slice (some ⟨g, 0, none⟩) zs.length n)) (hp : W.cell? ⟨b, 2, none⟩ = some (.int .i64 p))
    (hfz : W.frozen? ⟨b, 2, none⟩ = false) (hfm : W.frozen? ⟨b, 1, none⟩ = false) :
    Calls Try.prog 17 #[.pointer (some ⟨b, 0, none⟩), .int .u8 c] W fun e w' => e = .returned (.tuple #[]) ∧ Stepped B g b n W w' (Plain.stepM zs n p c) (Plain.stepP p c) := by
  by_cases h01 : p = 0 ∨ p = 1
  · cases ht : Plain.tok c with
    | true =>
      have eP : Plain.stepP p c = 1 := by simp [Plain.stepP, h01, ht]
      by_cases hr : zs.length < n
      · have eM : Plain.stepM zs n p c = zs ++ [c] := by simp [Plain.stepM, Plain.grows, h01, ht, hr]
        rw [eP, eM]
        exact upper_grow B g b n zs p c W hB hBg hne hown hm hp hfz hfm hr ⟨ht, h01⟩
      · have eM : Plain.stepM zs n p c = zs := by simp [Plain.stepM, Plain.grows, hr]
        rw [eP, eM]
        exact upper_full B g b n zs p c W hB hne hown hm hp hfz hr ⟨ht, h01⟩
    | false =>
      have eM : Plain.stepM zs n p c = zs := by simp [Plain.stepM, Plain.grows, ht]
      rw [eM]
      by_cases h1 : p = 1
      · have eP : Plain.stepP p c = 2 := by simp [Plain.stepP, h1, ht]
        rw [eP]
        exact upper_place B g b n zs p c 2 W hB hne hown hm hp hfz (.inl ⟨ht, h1, rfl⟩)
      · have eP : Plain.stepP p c = p := by simp [Plain.stepP, ht, h1]
        rw [eP]
        exact upper_idle B g b n zs p c W hown hm hp (.inl ⟨ht, h1⟩)
  · have eM : Plain.stepM zs n p c = zs := by simp [Plain.stepM, Plain.grows, h01]
    rw [eM]
    by_cases h2 : p = 2
    · cases ht : Plain.tok c with
      | true =>
        have eP : Plain.stepP p c = 3 := by simp [Plain.stepP, h2, ht]
        rw [eP]
        exact upper_place B g b n zs p c 3 W hB hne hown hm hp hfz (.inr ⟨ht, h2, rfl⟩)
      | false =>
        have eP : Plain.stepP p c = p := by simp [Plain.stepP, h01, ht]
        rw [eP]
        exact upper_idle B g b n zs p c W hown hm hp (.inl ⟨ht, fun h => h01 (.inr h)⟩)
    · have eP : Plain.stepP p c = p := by simp [Plain.stepP, h01, h2]
      rw [eP]
      exact upper_idle B g b n zs p c W hown hm hp (.inr ⟨fun h => h01 (.inl h), fun h => h01 (.inr h), h2⟩)
end Go.Proofs.Qxb6603951a
