/-
  The plain side of the whole run: what the steps over a list of bytes come to. No Go here.
-/
import Derived.Test.Qxb6603951aPlain
namespace Go.Proofs.Qxb6603951a.Plain

/-- The method and the place behind the first k bytes. -/
def st (zs : List Int) (n : Nat) : Nat → List Int × Int
  | 0 => ([], 0)
  | k + 1 => (stepM (st zs n k).1 n (st zs n k).2 (zs.getD k 0), stepP (st zs n k).2 (zs.getD k 0))

theorem st_le (zs : List Int) (n : Nat) : ∀ k, (st zs n k).1.length ≤ n
  | 0 => Nat.zero_le _
  | k + 1 => stepM_le _ _ _ _ (st_le zs n k)

/-- Is there a token byte among the m places from e on? -/
def anyTok (zs : List Int) (e : Nat) : Nat → Bool
  | 0 => false
  | m + 1 => anyTok zs e m || tok (zs.getD (e + m) 0)
def wp (zs : List Int) (e m : Nat) : Int := if anyTok zs e m = true then 3 else 2

theorem wp_zero (zs : List Int) (e : Nat) : wp zs e 0 = 2 := rfl
theorem wp_hit (zs : List Int) (e m : Nat) (h : tok (zs.getD (e + m) 0) = true) : wp zs e (m + 1) = 3 := by rw [wp, anyTok, h, Bool.or_true, if_pos rfl]
theorem wp_miss (zs : List Int) (e m : Nat) (h : tok (zs.getD (e + m) 0) = false) : wp zs e (m + 1) = wp zs e m := by rw [wp, anyTok, h, Bool.or_false]; rfl

theorem st_before (zs : List Int) (n f : Nat) (hf : ∀ j, j < f → tok (zs.getD j 0) = false) : ∀ k, k ≤ f → st zs n k = ([], 0)
  | 0, _ => rfl
  | k + 1, hk => by
    have ih := st_before zs n f hf k (by omega)
    have ht := hf k (by omega)
    rw [st, ih]
    simp only [stepM, grows, stepP, ht]
    simp

theorem st_in (zs : List Int) (n f e : Nat) (hfe : e ≤ zs.length) (hf : ∀ j, j < f → tok (zs.getD j 0) = false) (he : ∀ j, f ≤ j → j < e → tok (zs.getD j 0) = true) :
    ∀ m, f + (m + 1) ≤ e → st zs n (f + (m + 1)) = ((zs.drop f).take (min (m + 1) n), 1)
  | 0, hm => by
    have ih := st_before zs n f hf f (Nat.le_refl _)
    have ht := he f (Nat.le_refl _) (by omega)
    have hd : zs.drop f = zs.getD f 0 :: zs.drop (f + 1) := by
      rw [List.drop_eq_getElem_cons (by omega)]
      simp [List.getD, show f < zs.length by omega]
    show st zs n (f + 1) = _
    rw [st, ih, hd]
    simp only [stepM, grows, stepP, ht]
    by_cases h0 : 0 < n
    · have : min 1 n = 1 := by omega
      simp [h0, this]
    · have : n = 0 := by omega
      simp [this]
  | m + 1, hm => by
    have ih := st_in zs n f e hfe hf he m (by omega)
    have ht := he (f + (m + 1)) (by omega) (by omega)
    have hlen : ((zs.drop f).take (min (m + 1) n)).length = min (m + 1) n := by simp; omega
    show st zs n (f + (m + 1) + 1) = _
    rw [st, ih]
    simp only [stepM, grows, stepP, ht, hlen]
    by_cases h0 : m + 1 < n
    · have e1 : min (m + 1) n = m + 1 := by omega
      have e2 : min (m + 1 + 1) n = m + 1 + 1 := by omega
      have hg : zs.getD (f + (m + 1)) 0 = (zs.drop f)[m + 1]'(by simp; omega) := by simp [List.getD, show f + (m + 1) < zs.length by omega]
      rw [e1, e2, hg]
      rw [List.take_succ_eq_append_getElem (i := m + 1) (by simp; omega)]
      simp
      omega
    · have e1 : min (m + 1) n = n := by omega
      have e2 : min (m + 1 + 1) n = n := by omega
      rw [e1, e2]
      simp

theorem st_after (zs : List Int) (n e : Nat) (ms : List Int) (h1 : st zs n e = (ms, 1)) (he : tok (zs.getD e 0) = false) : ∀ m, st zs n (e + (m + 1)) = (ms, wp zs e (m + 1))
  | 0 => by
    show st zs n (e + 1) = _
    rw [st, h1, wp_miss zs e 0 he, wp_zero]
    simp only [stepM, grows, stepP, he]
    simp
  | m + 1 => by
    have ih := st_after zs n e ms h1 he m
    show st zs n (e + (m + 1) + 1) = _
    rw [st, ih]
    cases ht : tok (zs.getD (e + (m + 1)) 0) with
    | true =>
      rw [wp_hit zs e (m + 1) ht]
      have hw : wp zs e (m + 1) = 3 ∨ wp zs e (m + 1) = 2 := by unfold wp; split; exact .inl rfl; exact .inr rfl
      generalize zs.getD (e + (m + 1)) 0 = z at ht ⊢
      rcases hw with hw | hw <;> simp [stepM, grows, stepP, hw, ht]
    | false =>
      rw [wp_miss zs e (m + 1) ht]
      have hw : wp zs e (m + 1) = 3 ∨ wp zs e (m + 1) = 2 := by unfold wp; split; exact .inl rfl; exact .inr rfl
      generalize zs.getD (e + (m + 1)) 0 = z at ht ⊢
      rcases hw with hw | hw <;> simp [stepM, grows, stepP, hw, ht]

/-- The three endings. -/
theorem end_none (zs : List Int) (n : Nat) (hf : ∀ j, j < zs.length → tok (zs.getD j 0) = false) : st zs n zs.length = ([], 0) :=
  st_before zs n zs.length hf _ (Nat.le_refl _)
theorem end_run (zs : List Int) (n f : Nat) (hlt : f < zs.length) (hf : ∀ j, j < f → tok (zs.getD j 0) = false) (he : ∀ j, f ≤ j → j < zs.length → tok (zs.getD j 0) = true) :
    st zs n zs.length = ((zs.drop f).take (min (zs.length - f) n), 1) := by
  have := st_in zs n f zs.length (Nat.le_refl _) hf he (zs.length - f - 1) (by omega)
  rw [show f + (zs.length - f - 1 + 1) = zs.length from by omega, show zs.length - f - 1 + 1 = zs.length - f from by omega] at this
  exact this
theorem end_gap (zs : List Int) (n f e : Nat) (hlt : f < e) (hel : e < zs.length) (hf : ∀ j, j < f → tok (zs.getD j 0) = false) (he : ∀ j, f ≤ j → j < e → tok (zs.getD j 0) = true) (hx : tok (zs.getD e 0) = false) :
    st zs n zs.length = ((zs.drop f).take (min (e - f) n), wp zs e (zs.length - e)) := by
  have h1 := st_in zs n f e (by omega) hf he (e - f - 1) (by omega)
  rw [show f + (e - f - 1 + 1) = e from by omega, show e - f - 1 + 1 = e - f from by omega] at h1
  have h2 := st_after zs n e _ h1 hx (zs.length - e - 1)
  rw [show e + (zs.length - e - 1 + 1) = zs.length from by omega, show zs.length - e - 1 + 1 = zs.length - e from by omega] at h2
  exact h2
/-- An element of what is kept. -/
theorem kept_at (zs : List Int) (f m k : Nat) (hk : k < m) : ((zs.drop f).take m).getD k 0 = zs.getD (f + k) 0 := by
  simp [List.getD, hk]

end Go.Proofs.Qxb6603951a.Plain
