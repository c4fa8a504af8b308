/-
  'res': what is passed over at a place. The walks of 'ZZUriChar' and of the law's own 'zzURIModel': both answer it.
-/
import Derived.Test.Qxb6604183aSingle
namespace Go.Proofs.Qxb6604183a
open Go.RowKit

/-- The slice at 'a' leads to the numbers 'zs' (nothing is said where there are none). -/
def Row (w : World) (a : Option Addr) (zs : List Int) : Prop :=
  zs = [] ∨ ∃ b off, a = some ⟨b, off, none⟩ ∧ b < w.heap.size ∧ ∀ i, i < zs.length → w.cell? ⟨b, off + i, none⟩ = some (.int .u8 (zs.getD i 0))
theorem Row.below {w w' : World} {a : Option Addr} {zs : List Int} (h : Row w a zs) (hb : Below w.heap.size w w') : Row w' a zs := by
  rcases h with h | ⟨b, off, e, hlt, hc⟩
  · exact .inl h
  · exact .inr ⟨b, off, e, Nat.lt_of_lt_of_le hlt hb.size, fun i hi => (hb.cell (p := ⟨b, off + i, none⟩) hlt).trans (hc i hi)⟩
theorem row_some {w : World} {a : Option Addr} {zs : List Int} (h : Row w a zs) {k : Nat} (hk : k < zs.length) : ∃ b off, a = some ⟨b, off, none⟩ ∧ ∀ i, i < zs.length → w.cell? ⟨b, off + i, none⟩ = some (.int .u8 (zs.getD i 0)) := by
  rcases h with h | ⟨b, off, e, _, hc⟩
  · rw [h] at hk; simp at hk
  · exact ⟨b, off, e, hc⟩

def res (zs : List Int) (k : Nat) (t : Bool) : Int × Bool :=
  if k < zs.length then
    if zs.getD k 0 = 37 then
      if k + 2 < zs.length ∧ Plain.hexB (zs.getD (k + 1) 0) = true ∧ Plain.hexB (zs.getD (k + 2) 0) = true then ((k : Int) + 3, true) else (k, false)
    else if Plain.okB t (zs.getD k 0) = true then ((k : Int) + 1, true) else (k, false)
  else (k, false)

/-- The ways. -/
theorem res_ways (zs : List Int) (k : Nat) (t : Bool) (hk : k ≤ zs.length) :
    (k = zs.length ∧ res zs k t = ((k : Int), false)) ∨
    (k < zs.length ∧ zs.getD k 0 = 37 ∧ ¬ k + 2 < zs.length ∧ res zs k t = ((k : Int), false)) ∨
    (k + 2 < zs.length ∧ zs.getD k 0 = 37 ∧ Plain.hexB (zs.getD (k + 1) 0) = false ∧ res zs k t = ((k : Int), false)) ∨
    (k + 2 < zs.length ∧ zs.getD k 0 = 37 ∧ Plain.hexB (zs.getD (k + 1) 0) = true ∧ Plain.hexB (zs.getD (k + 2) 0) = false ∧ res zs k t = ((k : Int), false)) ∨
    (k + 2 < zs.length ∧ zs.getD k 0 = 37 ∧ Plain.hexB (zs.getD (k + 1) 0) = true ∧ Plain.hexB (zs.getD (k + 2) 0) = true ∧ res zs k t = ((k : Int) + 3, true)) ∨
    (k < zs.length ∧ (zs.getD k 0 == 37) = false ∧ res zs k t = ((if Plain.okB t (zs.getD k 0) = true then (k : Int) + 1 else (k : Int)), Plain.okB t (zs.getD k 0))) := by
  unfold res
  by_cases h : k < zs.length
  · rw [if_pos h]
    by_cases hc : zs.getD k 0 = 37
    · rw [if_pos hc]
      by_cases h2 : k + 2 < zs.length
      · cases e1 : Plain.hexB (zs.getD (k + 1) 0) with
        | false => exact .inr (.inr (.inl ⟨h2, hc, rfl, if_neg (fun x => by cases x.2.1)⟩))
        | true =>
          cases e2 : Plain.hexB (zs.getD (k + 2) 0) with
          | false => exact .inr (.inr (.inr (.inl ⟨h2, hc, rfl, rfl, if_neg (fun x => by cases x.2.2)⟩)))
          | true => exact .inr (.inr (.inr (.inr (.inl ⟨h2, hc, rfl, rfl, if_pos ⟨h2, rfl, rfl⟩⟩))))
      · exact .inr (.inl ⟨h, hc, h2, if_neg (fun x => h2 x.1)⟩)
    · rw [if_neg hc]
      refine .inr (.inr (.inr (.inr (.inr ⟨h, by rw [beq_eq_false_iff_ne]; exact hc, ?_⟩))))
      cases Plain.okB t (zs.getD k 0) <;> rfl
  · rw [if_neg h]
    exact .inl ⟨by omega, rfl⟩

theorem uri_any (B b cap k : Nat) (zs : List Int) (a : Option Addr) (t : Bool) (W : World) (hB : B ≤ b) (hr : Row W a zs) (hl : zs.length ≤ 1048576) (hk : k ≤ zs.length)
    (h0 : W.cell? ⟨b, 0, none⟩ = some (.slice a zs.length cap)) (h1 : W.cell? ⟨b, 1, none⟩ = some (.int .i64 (k : Int))) (hfz : W.frozen? ⟨b, 1, none⟩ = false) :
    Calls Try.prog 21 #[.pointer (some ⟨b, 0, none⟩), .bool t] W fun e w' => e = .returned (.bool (res zs k t).2) ∧ Left1 B b W w' (res zs k t).1 := by
  rcases res_ways zs k t hk with ⟨e, er⟩ | ⟨h, hc, h2, er⟩ | ⟨h2, hc, x1, er⟩ | ⟨h2, hc, x1, x2, er⟩ | ⟨h2, hc, x1, x2, er⟩ | ⟨h, hc, er⟩
  · rw [er]
    subst e
    exact uri_end B b zs.length cap a t W h0 h1
  · obtain ⟨g, off, rfl, hcell⟩ := row_some hr h
    rw [er]
    exact uri_short B b zs.length cap k g off t W h0 h1 hl h (by rw [hcell k h, hc]) h2
  · obtain ⟨g, off, rfl, hcell⟩ := row_some hr h2
    rw [er]
    exact uri_esc1 B b zs.length cap k g off _ t W h0 h1 hl (by rw [hcell k (by omega), hc]) h2 (hcell (k + 1) (by omega)) x1
  · obtain ⟨g, off, rfl, hcell⟩ := row_some hr h2
    rw [er]
    exact uri_esc2 B b zs.length cap k g off _ _ t W h0 h1 hl (by rw [hcell k (by omega), hc]) h2 (hcell (k + 1) (by omega)) x1 (hcell (k + 2) h2) x2
  · obtain ⟨g, off, rfl, hcell⟩ := row_some hr h2
    rw [er]
    exact uri_esc B b zs.length cap k g off hB _ _ t W h0 h1 hfz hl (by rw [hcell k (by omega), hc]) h2 (hcell (k + 1) (by omega)) x1 (hcell (k + 2) h2) x2
  · obtain ⟨g, off, rfl, hcell⟩ := row_some hr h
    rw [er]
    exact uri_single B b zs.length cap k g off hB _ t W h0 h1 hfz hl h (hcell k h) hc

set_option maxHeartbeats 800000 in
theorem zz_any (cap k : Nat) (zs : List Int) (a : Option Addr) (t : Bool) (W : World) (hr : Row W a zs) (hl : zs.length ≤ 1048576) (hk : k ≤ zs.length) :
    Calls Try.prog 8 #[.slice a zs.length cap, .int .i64 (k : Int), .bool t] W fun e w' => e = .returned (.tuple #[.int .i64 (res zs k t).1, .bool (res zs k t).2]) ∧ Below W.heap.size W w' := by
  have HU := hide (uri_any W.heap.size W.heap.size cap k zs a t (W.alloc (.cells #[.slice a zs.length cap, .int .i64 (k : Int), .slice none 0 0, .map none, .map none, .int .i64 0, .int .i64 0, .string ⟨#[]⟩, .map none] 45)) (Nat.le_refl _)
    (hr.below ((Below.refl _ _).alloc (Nat.le_refl _) _)) hl hk (by simp) (by simp) (by simp))
  obtain ⟨len, hL⟩ : ∃ len, zs.length = len := ⟨_, rfl⟩
  obtain ⟨k', b', hR⟩ : ∃ k' b', res zs k t = (k', b') := ⟨_, _, rfl⟩
  rw [hR, hL] at HU
  rw [hR, hL]
  clear hR hr hk hl hL
  go_enter Try.func8, Try.ntmps8
  go_wp2_with (go_at_call 21; refine HU.out.mono ?_; rintro e w1 ⟨rfl, hs⟩; have c1 := hs.at'; have HS := hide hs.below; clear hs HU)
  go_ret2
  exact ⟨rfl, ((Below.refl _ _).alloc (Nat.le_refl _) _).trans HS.out⟩

/-- The law's search, at a text that is known. -/
theorem in_text (c : Int) (s : ByteArray) (l : List UInt8) (hs : s.data.toList = l) (hl : l.length ≤ 1048576) (b : Bool) (hb : Plain.inB l c = b) (w : World) :
    Calls Try.prog 22 #[.int .u8 c, .string s] w fun e w' => e = .returned (.bool b) ∧ w' = w := by
  have := in_any c s (by rw [Lib.size_eq, hs]; exact hl) w
  rw [hs, hb] at this
  exact this

set_option maxHeartbeats 1600000 in
theorem model_end (len cap : Nat) (a : Option Addr) (t : Bool) (W : World) (_hl : len ≤ 1048576) :
    Calls Try.prog 9 #[.slice a len cap, .int .i64 (len : Int), .bool t] W fun e w' => e = .returned (.tuple #[.int .i64 (len : Int), .bool false]) ∧ w' = W := by
  go_enter Try.func9, Try.ntmps9
  go_wp2
  go_ret2
  exact ⟨rfl, rfl⟩

set_option maxHeartbeats 1600000 in
/-- A byte other than the escape's, or an escape that has no room. -/
theorem model_single (len cap k g off : Nat) (c : Int) (t ok : Bool) (W : World) (hl : len ≤ 1048576) (hk : k < len) (hc : W.cell? ⟨g, off + k, none⟩ = some (.int .u8 c)) (hin : Plain.inB (if t = true then Plain.tagA else Plain.uriA) c = ok)
    (h : (c == 37) = false ∨ ¬ k + 2 < len) :
    Calls Try.prog 9 #[.slice (some ⟨g, off, none⟩) len cap, .int .i64 (k : Int), .bool t] W fun e w' => e = .returned (.tuple #[.int .i64 (if ok = true then (k : Int) + 1 else k), .bool ok]) ∧ w' = W := by
  cases t with
  | true =>
    have HI : Hid (Plain.inB Plain.tagA c = ok) := hin
    clear hin
    by_cases h2 : k + 2 < len
    · have h37 : (c == 37) = false := h.resolve_right (fun x => x h2)
      clear h
      cases ok with
      | true =>
        go_enter Try.func9, Try.ntmps9
        go_wp2_with (go_at_call 22; refine (in_text c _ Plain.tagA (by rfl) (by decide) true HI.out _).mono ?_; rintro e w1 ⟨rfl, rfl⟩)
        go_ret2
        exact ⟨rfl, rfl⟩
      | false =>
        go_enter Try.func9, Try.ntmps9
        go_wp2_with (go_at_call 22; refine (in_text c _ Plain.tagA (by rfl) (by decide) false HI.out _).mono ?_; rintro e w1 ⟨rfl, rfl⟩)
        go_ret2
        exact ⟨rfl, rfl⟩
    · clear h
      cases ok with
      | true =>
        go_enter Try.func9, Try.ntmps9
        go_wp2_with (go_at_call 22; refine (in_text c _ Plain.tagA (by rfl) (by decide) true HI.out _).mono ?_; rintro e w1 ⟨rfl, rfl⟩)
        go_ret2
        exact ⟨rfl, rfl⟩
      | false =>
        go_enter Try.func9, Try.ntmps9
        go_wp2_with (go_at_call 22; refine (in_text c _ Plain.tagA (by rfl) (by decide) false HI.out _).mono ?_; rintro e w1 ⟨rfl, rfl⟩)
        go_ret2
        exact ⟨rfl, rfl⟩
  | false =>
    have HI : Hid (Plain.inB Plain.uriA c = ok) := hin
    clear hin
    by_cases h2 : k + 2 < len
    · have h37 : (c == 37) = false := h.resolve_right (fun x => x h2)
      clear h
      cases ok with
      | true =>
        go_enter Try.func9, Try.ntmps9
        go_wp2_with (go_at_call 22; refine (in_text c _ Plain.uriA (by rfl) (by decide) true HI.out _).mono ?_; rintro e w1 ⟨rfl, rfl⟩)
        go_ret2
        exact ⟨rfl, rfl⟩
      | false =>
        go_enter Try.func9, Try.ntmps9
        go_wp2_with (go_at_call 22; refine (in_text c _ Plain.uriA (by rfl) (by decide) false HI.out _).mono ?_; rintro e w1 ⟨rfl, rfl⟩)
        go_ret2
        exact ⟨rfl, rfl⟩
    · clear h
      cases ok with
      | true =>
        go_enter Try.func9, Try.ntmps9
        go_wp2_with (go_at_call 22; refine (in_text c _ Plain.uriA (by rfl) (by decide) true HI.out _).mono ?_; rintro e w1 ⟨rfl, rfl⟩)
        go_ret2
        exact ⟨rfl, rfl⟩
      | false =>
        go_enter Try.func9, Try.ntmps9
        go_wp2_with (go_at_call 22; refine (in_text c _ Plain.uriA (by rfl) (by decide) false HI.out _).mono ?_; rintro e w1 ⟨rfl, rfl⟩)
        go_ret2
        exact ⟨rfl, rfl⟩

set_option maxHeartbeats 3200000 in
/-- An escape. -/
theorem model_esc (len cap k g off : Nat) (z1 z2 : Int) (t : Bool) (W : World) (hl : len ≤ 1048576) (h2 : k + 2 < len) (hc : W.cell? ⟨g, off + k, none⟩ = some (.int .u8 37))
    (hz1 : W.cell? ⟨g, off + (k + 1), none⟩ = some (.int .u8 z1)) (hz2 : W.cell? ⟨g, off + (k + 2), none⟩ = some (.int .u8 z2)) (x1 : Plain.inB Plain.hexA z1 = true) (x2 : Plain.inB Plain.hexA z2 = true) :
    Calls Try.prog 9 #[.slice (some ⟨g, off, none⟩) len cap, .int .i64 (k : Int), .bool t] W fun e w' => e = .returned (.tuple #[.int .i64 ((k : Int) + 3), .bool true]) ∧ w' = W := by
  have H1 := hide x1
  have H2 := hide x2
  clear x1 x2
  go_enter Try.func9, Try.ntmps9
  go_wp2_with fail
  refine (in_text z1 _ Plain.hexA (by rfl) (by decide) true H1.out _).mono ?_
  rintro e w1 ⟨rfl, rfl⟩
  go_wp2_with fail
  refine (in_text z2 _ Plain.hexA (by rfl) (by decide) true H2.out _).mono ?_
  rintro e w1 ⟨rfl, rfl⟩
  go_wp2
  go_ret2
  exact ⟨rfl, rfl⟩

set_option maxHeartbeats 3200000 in
/-- An escape that is none: its first digit. -/
theorem model_esc1 (len cap k g off : Nat) (z1 : Int) (t : Bool) (W : World) (hl : len ≤ 1048576) (h2 : k + 2 < len) (hc : W.cell? ⟨g, off + k, none⟩ = some (.int .u8 37))
    (hz1 : W.cell? ⟨g, off + (k + 1), none⟩ = some (.int .u8 z1)) (x1 : Plain.inB Plain.hexA z1 = false) :
    Calls Try.prog 9 #[.slice (some ⟨g, off, none⟩) len cap, .int .i64 (k : Int), .bool t] W fun e w' => e = .returned (.tuple #[.int .i64 (k : Int), .bool false]) ∧ w' = W := by
  have H1 := hide x1
  clear x1
  cases t with
  | true =>
    go_enter Try.func9, Try.ntmps9
    go_wp2_with fail
    refine (in_text z1 _ Plain.hexA (by rfl) (by decide) false H1.out _).mono ?_
    rintro e w1 ⟨rfl, rfl⟩
    go_wp2_with fail
    refine (in_text 37 _ Plain.tagA (by rfl) (by decide) false (by decide) _).mono ?_
    rintro e w1 ⟨rfl, rfl⟩
    go_wp2
    go_ret2
    exact ⟨rfl, rfl⟩
  | false =>
    go_enter Try.func9, Try.ntmps9
    go_wp2_with fail
    refine (in_text z1 _ Plain.hexA (by rfl) (by decide) false H1.out _).mono ?_
    rintro e w1 ⟨rfl, rfl⟩
    go_wp2_with fail
    refine (in_text 37 _ Plain.uriA (by rfl) (by decide) false (by decide) _).mono ?_
    rintro e w1 ⟨rfl, rfl⟩
    go_wp2
    go_ret2
    exact ⟨rfl, rfl⟩

set_option maxHeartbeats 3200000 in
/-- An escape that is none: its second digit. -/
theorem model_esc2 (len cap k g off : Nat) (z1 z2 : Int) (t : Bool) (W : World) (hl : len ≤ 1048576) (h2 : k + 2 < len) (hc : W.cell? ⟨g, off + k, none⟩ = some (.int .u8 37))
    (hz1 : W.cell? ⟨g, off + (k + 1), none⟩ = some (.int .u8 z1)) (hz2 : W.cell? ⟨g, off + (k + 2), none⟩ = some (.int .u8 z2)) (x1 : Plain.inB Plain.hexA z1 = true) (x2 : Plain.inB Plain.hexA z2 = false) :
    Calls Try.prog 9 #[.slice (some ⟨g, off, none⟩) len cap, .int .i64 (k : Int), .bool t] W fun e w' => e = .returned (.tuple #[.int .i64 (k : Int), .bool false]) ∧ w' = W := by
  have H1 := hide x1
  have H2 := hide x2
  clear x1 x2
  cases t with
  | true =>
    go_enter Try.func9, Try.ntmps9
    go_wp2_with fail
    refine (in_text z1 _ Plain.hexA (by rfl) (by decide) true H1.out _).mono ?_
    rintro e w1 ⟨rfl, rfl⟩
    go_wp2_with fail
    refine (in_text z2 _ Plain.hexA (by rfl) (by decide) false H2.out _).mono ?_
    rintro e w1 ⟨rfl, rfl⟩
    go_wp2_with fail
    refine (in_text 37 _ Plain.tagA (by rfl) (by decide) false (by decide) _).mono ?_
    rintro e w1 ⟨rfl, rfl⟩
    go_wp2
    go_ret2
    exact ⟨rfl, rfl⟩
  | false =>
    go_enter Try.func9, Try.ntmps9
    go_wp2_with fail
    refine (in_text z1 _ Plain.hexA (by rfl) (by decide) true H1.out _).mono ?_
    rintro e w1 ⟨rfl, rfl⟩
    go_wp2_with fail
    refine (in_text z2 _ Plain.hexA (by rfl) (by decide) false H2.out _).mono ?_
    rintro e w1 ⟨rfl, rfl⟩
    go_wp2_with fail
    refine (in_text 37 _ Plain.uriA (by rfl) (by decide) false (by decide) _).mono ?_
    rintro e w1 ⟨rfl, rfl⟩
    go_wp2
    go_ret2
    exact ⟨rfl, rfl⟩

theorem model_any (cap k : Nat) (zs : List Int) (a : Option Addr) (t : Bool) (W : World) (hr : Row W a zs) (hl : zs.length ≤ 1048576) (hk : k ≤ zs.length) (hby : ∀ z ∈ zs, 0 ≤ z ∧ z ≤ 255) :
    Calls Try.prog 9 #[.slice a zs.length cap, .int .i64 (k : Int), .bool t] W fun e w' => e = .returned (.tuple #[.int .i64 (res zs k t).1, .bool (res zs k t).2]) ∧ w' = W := by
  have bd : ∀ j, j < zs.length → 0 ≤ zs.getD j 0 ∧ zs.getD j 0 ≤ 255 := fun j hj => by
    rw [show zs.getD j 0 = zs[j] by simp [List.getD, hj]]
    exact hby _ (List.getElem_mem hj)
  have hx : ∀ j, j < zs.length → Plain.inB Plain.hexA (zs.getD j 0) = Plain.hexB (zs.getD j 0) := fun j hj => Plain.hex_in _ (bd j hj).1 (bd j hj).2
  rcases res_ways zs k t hk with ⟨e, er⟩ | ⟨h, hc, h2, er⟩ | ⟨h2, hc, x1, er⟩ | ⟨h2, hc, x1, x2, er⟩ | ⟨h2, hc, x1, x2, er⟩ | ⟨h, hc, er⟩
  · rw [er]
    subst e
    exact model_end zs.length cap a t W hl
  · obtain ⟨g, off, rfl, hcell⟩ := row_some hr h
    rw [er]
    exact model_single zs.length cap k g off 37 t false W hl h (by rw [hcell k h, hc]) (by rw [Plain.single_in t 37 (by decide) (by decide), Plain.ok37]) (.inr h2)
  · obtain ⟨g, off, rfl, hcell⟩ := row_some hr h2
    rw [er]
    exact model_esc1 zs.length cap k g off _ t W hl h2 (by rw [hcell k (by omega), hc]) (hcell (k + 1) (by omega)) ((hx _ (by omega)).trans x1)
  · obtain ⟨g, off, rfl, hcell⟩ := row_some hr h2
    rw [er]
    exact model_esc2 zs.length cap k g off _ _ t W hl h2 (by rw [hcell k (by omega), hc]) (hcell (k + 1) (by omega)) (hcell (k + 2) h2) ((hx _ (by omega)).trans x1) ((hx _ h2).trans x2)
  · obtain ⟨g, off, rfl, hcell⟩ := row_some hr h2
    rw [er]
    exact model_esc zs.length cap k g off _ _ t W hl h2 (by rw [hcell k (by omega), hc]) (hcell (k + 1) (by omega)) (hcell (k + 2) h2) ((hx _ (by omega)).trans x1) ((hx _ h2).trans x2)
  · obtain ⟨g, off, rfl, hcell⟩ := row_some hr h
    rw [er]
    exact model_single zs.length cap k g off _ t _ W hl h (hcell k h) (Plain.single_in t _ (bd k h).1 (bd k h).2) (.inl hc)
end Go.Proofs.Qxb6604183a
