import Derived.Test.Qxb6000043aCliqL
namespace Go.Proofs.Qxb6000043a
open Go.RowKit

theorem ff_mono (k : Nat) : ∀ {i j : Nat}, i ≤ j → j ≤ k → ff k i ≤ ff k j
  | i, 0, h, _ => by obtain rfl : i = 0 := by omega
                     exact Nat.le_refl _
  | i, j + 1, h, hk => by
    by_cases e : i = j + 1
    · subst e; exact Nat.le_refl _
    · have h1 := ff_mono k (show i ≤ j by omega) (by omega)
      have h2 : ff k j * 1 ≤ ff k j * (k - j) := Nat.mul_le_mul_left _ (by omega)
      show ff k i ≤ ff k j * (k - j)
      omega

/-- Where the closed form stops early it is right. -/
theorem form_big {M k j t : Nat} (h2 : 2 ≤ j) (hj : j ≤ k) (ht : t ≤ j) (h : M < ff k t) : M = capN M (tj k k) := by
  have h3 := ff_mono k ht hj
  have h4 := term_gt h2 hj
  have h5 := tj_step k j h2
  have h6 := tj_mono k hj
  rw [capN_hi (by omega)]
theorem form_over {M k j : Nat} (h2 : 2 ≤ j) (hj : j ≤ k) (h : M ≤ tj k (j - 1) + ff k j / j * (j + 1)) : M = capN M (tj k k) := by
  have h5 := tj_step k j h2
  have h6 := tj_mono k hj
  by_cases e : M < tj k k
  · rw [capN_hi e]
  · rw [capN_lo (by omega)]; omega

set_option maxHeartbeats 4000000 in
theorem form_any (k lim : Nat) (w : World) (hk : 1 ≤ k) (hk2 : k ≤ 1048578) (hl : lim ≤ 9223372036854775806) :
    Calls Try.prog 17 #[.int .i64 k, .int .i64 lim] w fun e w' => e = .returned (.int .i64 ((capN (lim + 1) (tj k k) : Nat) : Int)) ∧ w = w' := by
  go_enter Try.func17, Try.ntmps17
  go_wp2_with fail
  go_loopg [6, 7] (k - 1) (fun g s6 s7 wr => ∃ j tt : Nat, g = k + 1 - j ∧ 2 ≤ j ∧ (j ≤ k + 1) ∧ s7 = .int .i64 j ∧ s6 = .int .i64 tt ∧ wr = w ∧ tt = tj k (j - 1) ∧ tt < lim + 1)
  case atStart => exact ⟨2, 0, by omega, Nat.le_refl _, by omega, rfl, rfl, rfl, rfl, by omega⟩
  case round =>
    obtain ⟨j, tt, rfl, hj2, hjk, rfl, rfl, rfl, htt, hlt⟩ := hrel
    have HT : Hid (tt = tj k (j - 1)) := htt
    clear htt
    by_cases hj : j ≤ k
    · have hjz : (j : Int) ≤ (k : Int) := by omega
      go_wp2_with fail
      go_loopg [8, 9] j (fun g s8 s9 wx => ∃ t p : Nat, g = j - t ∧ t ≤ j ∧ s9 = .int .i64 t ∧ s8 = .int .i64 p ∧ wx = wr ∧ p = ff k t ∧ p ≤ lim + 1)
      case atStart => exact ⟨0, 1, rfl, Nat.zero_le _, rfl, rfl, rfl, rfl, by omega⟩
      case round =>
        obtain ⟨t, p, rfl, htj, rfl, rfl, rfl, hp, hpl⟩ := hrel
        have HP : Hid (p = ff k t) := hp
        clear hp
        by_cases ht : t < j
        · obtain ⟨f, hf⟩ : ∃ f, f = k - t := ⟨_, rfl⟩
          have hfz : (k : Int) - (t : Int) = (f : Int) := by omega
          have HF : Hid (f = k - t) := hf
          have hf0 : 0 < f := by omega
          have hfb : f ≤ 1048578 := by omega
          have htz : (t : Int) < (j : Int) := by omega
          obtain ⟨qq, hqq⟩ : ∃ qq, qq = (lim + 1) / f := ⟨_, rfl⟩
          have hqz : ((lim : Int) + 1) / (f : Int) = (qq : Int) := by rw [hqq]; simp
          have hfne : (f : Int) ≠ 0 := by omega
          by_cases hb : lim + 1 < p * f
          · have hbz : (qq : Int) < (p : Int) := by have := (div_iff (M := lim + 1) (x := p) hf0).2 hb; rw [← hqq] at this; omega
            clear hqq hf
            go_wp2_with fail
            go_ret
            refine ⟨?_, rfl⟩
            rw [← form_big (M := lim + 1) (t := t + 1) hj2 hj (by omega) (by rw [ff, ← HP.out, ← HF.out]; exact hb)]
            go_num
          · have hbz : (p : Int) ≤ (qq : Int) := by
              have : ¬ (lim + 1) / f < p := fun e => hb ((div_iff (M := lim + 1) (x := p) hf0).1 e)
              rw [← hqq] at this; omega
            obtain ⟨pf, hpf⟩ : ∃ pf, pf = p * f := ⟨_, rfl⟩
            have hpz : (p : Int) * (f : Int) = (pf : Int) := by rw [hpf]; simp
            have HPF : Hid (pf = p * f) := hpf
            have hpb : pf ≤ lim + 1 := by omega
            clear hqq hf hb hpf
            go_wp2_with fail
            go_roundg (j - (t + 1))
            case measure => omega
            case rel => exact ⟨t + 1, pf, rfl, by omega, by go_num, rfl, rfl, by rw [HPF.out, HP.out, HF.out]; rfl, hpb⟩
        · obtain rfl : t = j := by omega
          obtain ⟨q, hq⟩ : ∃ q, q = p / t := ⟨_, rfl⟩
          have hqz : (p : Int) / (t : Int) = (q : Int) := by rw [hq]; simp
          have hql : q ≤ p := by rw [hq]; exact Nat.div_le_self _ _
          have HQ : Hid (q = p / t) := hq
          obtain ⟨m, hm⟩ : ∃ m, m = lim + 1 - tt := ⟨_, rfl⟩
          have hmz : (lim : Int) + 1 - (tt : Int) = (m : Int) := by omega
          have HM : Hid (m = lim + 1 - tt) := hm
          have hmb : m ≤ lim + 1 := by omega
          have hdb : m / (t + 1) ≤ m := Nat.div_le_self _ _
          obtain ⟨d, hd⟩ : ∃ d, d = m / (t + 1) := ⟨_, rfl⟩
          have hdz : (m : Int) / ((t : Int) + 1) = (d : Int) := by rw [hd]; simp
          obtain ⟨pr, hpr⟩ : ∃ pr, pr = q * (t + 1) := ⟨_, rfl⟩
          have hprz : (q : Int) * ((t : Int) + 1) = (pr : Int) := by rw [hpr]; simp
          have HPR : Hid (pr = q * (t + 1)) := hpr
          have hterm : ff k t / t * (t + 1) = pr := by rw [← HP.out, ← hq, hpr]
          have HTM : Hid (ff k t / t * (t + 1) = pr) := hterm
          have hneg : (t : Int) ≠ 0 := by omega
          rw [← hd] at hdb
          by_cases hb : m < pr
          · have hbz : (d : Int) < (q : Int) := by
              have := (div_iff (M := m) (x := q) (show 0 < t + 1 by omega)).2 (by rw [← hpr]; exact hb)
              rw [← hd] at this; omega
            clear hq hd hpr hterm hm
            go_wp2_with fail
            go_ret
            refine ⟨?_, rfl⟩
            rw [← form_over (M := lim + 1) hj2 hj (by rw [HTM.out, ← HT.out]; have := HM.out; omega)]
            go_num
          · have hbz : (q : Int) ≤ (d : Int) := by
              have : ¬ m / (t + 1) < q := fun e => hb (by have := (div_iff (M := m) (x := q) (show 0 < t + 1 by omega)).1 e; rw [hpr]; exact this)
              rw [← hd] at this; omega
            have hprm : pr ≤ lim + 1 := by omega
            clear hq hd hpr hterm hm
            by_cases hb2 : lim + 1 ≤ tt + pr
            · have hb2z : (lim : Int) + 1 ≤ (tt : Int) + (pr : Int) := by omega
              go_wp2_with fail
              go_ret
              refine ⟨?_, rfl⟩
              rw [← form_over (M := lim + 1) hj2 hj (by rw [HTM.out, ← HT.out]; have := HM.out; omega)]
              go_num
            · have hb2z : (tt : Int) + (pr : Int) < (lim : Int) + 1 := by omega
              go_wp2_with fail
              go_roundg (k + 1 - (t + 1))
              case measure => omega
              case rel => exact ⟨t + 1, tt + pr, rfl, by omega, by omega, by go_num, by go_num, rfl, by rw [Nat.add_sub_cancel, tj_step k t hj2, HTM.out, ← HT.out], by omega⟩
    · obtain rfl : j = k + 1 := by omega
      go_wp2_with fail
      go_ret
      refine ⟨?_, rfl⟩
      rw [Nat.add_sub_cancel] at HT
      rw [capN_lo (by rw [← HT.out]; omega), ← HT.out]
      rfl
end Go.Proofs.Qxb6000043a
