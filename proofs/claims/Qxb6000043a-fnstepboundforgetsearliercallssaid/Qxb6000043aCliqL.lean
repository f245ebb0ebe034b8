import Derived.Test.Qxb6000043aCliqP
/- The plain law of cliqueSteps. -/
namespace Go.Proofs.Qxb6000043a

/-- k * (k - 1) * .. * (k - j + 1). -/
def ff (k : Nat) : Nat → Nat
  | 0 => 1
  | j + 1 => ff k j * (k - j)
/-- The steps of the cycles of up to j transactions. -/
def tj (k : Nat) : Nat → Nat
  | 0 => 0
  | 1 => 0
  | j + 2 => tj k (j + 1) + ff k (j + 2) / (j + 2) * (j + 3)

theorem ff_dvd (k : Nat) : ∀ (j t : Nat), t < j → (k - t) ∣ ff k j
  | j + 1, t, h => by
    by_cases e : t = j
    · subst e; exact Nat.dvd_mul_left _ _
    · exact Nat.dvd_trans (ff_dvd k j t (by omega)) (Nat.dvd_mul_right _ _)
theorem j_dvd_ff (k j : Nat) (hj : 0 < j) : j ∣ ff k j := by
  have h1 : j ∣ k - k % j := Nat.dvd_sub_mod k
  exact Nat.dvd_trans h1 (ff_dvd k j (k % j) (Nat.mod_lt _ hj))
theorem tj_step (k j : Nat) (h : 2 ≤ j) : tj k j = tj k (j - 1) + ff k j / j * (j + 1) := by
  obtain ⟨i, rfl⟩ : ∃ i, j = i + 2 := ⟨j - 2, by omega⟩
  rfl
theorem tj_mono (k : Nat) {i j : Nat} (h : i ≤ j) : tj k i ≤ tj k j := by
  induction j with
  | zero => obtain rfl : i = 0 := by omega
            exact Nat.le_refl _
  | succ j ih =>
    by_cases e : i = j + 1
    · subst e; exact Nat.le_refl _
    · have h1 := ih (by omega)
      by_cases h2 : 2 ≤ j + 1
      · rw [tj_step k (j + 1) h2]; simp only [Nat.add_sub_cancel]; omega
      · obtain rfl : j = 0 := by omega
        obtain rfl : i = 0 := by omega
        exact Nat.le_refl _
theorem ff_pos {k : Nat} : ∀ {j : Nat}, j ≤ k → 0 < ff k j
  | 0, _ => Nat.one_pos
  | j + 1, h => Nat.mul_pos (ff_pos (by omega)) (by omega)
theorem term_gt {k j : Nat} (h2 : 2 ≤ j) (hk : j ≤ k) : ff k j < ff k j / j * (j + 1) := by
  obtain ⟨q, hq⟩ := j_dvd_ff k j (by omega)
  have hp := ff_pos hk
  have e : ff k j / j = q := by rw [hq]; exact Nat.mul_div_cancel_left q (by omega)
  have hq0 : 0 < q := by
    rcases Nat.eq_zero_or_pos q with e0 | h
    · rw [e0] at hq; omega
    · exact h
  rw [e, hq, Nat.mul_add, Nat.mul_comm j q]
  omega
theorem cap_cap (M a b : Nat) : capN M (capN M a + capN M b) = capN M (a + b) := by
  unfold capN
  (repeat' split) <;> omega

theorem stL_law (M k : Nat) : ∀ (f j st o : Nat), 2 ≤ j → j ≤ k + 1 → k + 1 - j ≤ f → o = ff k (j - 1) → st = capN M (tj k (j - 1)) → stL M k f j o st = capN M (tj k k)
  | 0, j, st, o, h2, hk, hf, ho, hs => by
    have e : j - 1 = k := by omega
    rw [stL, hs, e]
  | f + 1, j, st, o, h2, hk, hf, ho, hs => by
    by_cases hj : k < j
    · have e : j - 1 = k := by omega
      rw [stL_end hj, hs, e]
    · have eo : o * (k - j + 1) = ff k j := by
        obtain ⟨i, rfl⟩ : ∃ i, j = i + 1 := ⟨j - 1, by omega⟩
        rw [ho, ff, Nat.add_sub_cancel, show k - (i + 1) + 1 = k - i by omega]
      by_cases hb : M ≤ capN M (o * (k - j + 1))
      · rw [stL_big hj hb]
        have e1 : capN M (o * (k - j + 1)) = M := by have := capN_le M (o * (k - j + 1)); omega
        rw [e1]
        have h3 := term_gt h2 (by omega : j ≤ k)
        have h4 := tj_step k j h2
        have h5 := tj_mono k (show j ≤ k by omega)
        have h6 : M ≤ ff k j := by
          rw [← eo]
          by_cases h : M < o * (k - j + 1)
          · omega
          · rw [capN_lo (by omega)] at e1; omega
        rw [capN_hi (by omega)]
      · rw [stL_next hj hb]
        have hlt : ff k j < M := by
          rw [← eo]
          by_cases h : M < o * (k - j + 1)
          · rw [capN_hi h] at hb; omega
          · rw [capN_lo (by omega)] at hb; omega
        have e1 : capN M (o * (k - j + 1)) = ff k j := by rw [eo, capN_lo (by omega)]
        rw [e1]
        refine stL_law M k f (j + 1) _ _ (by omega) (by omega) (by omega) (by rw [Nat.add_sub_cancel]) ?_
        rw [Nat.add_sub_cancel, tj_step k j h2, hs]
        exact cap_cap M _ _

theorem cliqueF_law (M k : Nat) (hk : 1 ≤ k) : cliqueF M k = capN M (tj k k) :=
  stL_law M k k 2 0 k (Nat.le_refl _) (by omega) (by omega) (by simp [ff]) (by simp [tj, capN])
theorem clq_pos (E Wt : Nat → List Nat) (r : Nat) : 1 ≤ clq E Wt r := by unfold clq; omega

/-- The answer under lo is the answer under hi cut at lo + 1. -/
theorem sat_law {lo hi k : Nat} (h : lo ≤ hi) (hk : 1 ≤ k) : cliqueF (lo + 1) k = capN (lo + 1) (cliqueF (hi + 1) k) := by
  rw [cliqueF_law _ _ hk, cliqueF_law _ _ hk]
  unfold capN
  (repeat' split) <;> omega
theorem cliqueF_le (M k : Nat) (hk : 1 ≤ k) : cliqueF M k ≤ M := by rw [cliqueF_law _ _ hk]; exact capN_le _ _
end Go.Proofs.Qxb6000043a
