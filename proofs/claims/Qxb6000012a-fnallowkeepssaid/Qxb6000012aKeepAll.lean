import Derived.Test.Qxb6000012aKeep
namespace Go.Proofs.Qxb6000012a
open Go.RowKit

set_option maxRecDepth 100000 in
set_option maxHeartbeats 4000000 in
theorem keep_any (a0 a1 a2 : Option Addr) (l0 l1 l2 c0 c1 c2 : Nat) (lv : Nat → Int) (s : Nat → BitVec 32 × BitVec 32) (k : Int) (m : BitVec 32) (w : World)
    (h0 : 0 < l0 → ∃ b off, a0 = some ⟨b, off, none⟩ ∧ ∀ i, i < l0 → w.cell? ⟨b, off + i, none⟩ = some (.int .i64 (lv i)))
    (h1 : 0 < l1 → ∃ b off, a1 = some ⟨b, off, none⟩ ∧ ∀ i, i < l1 → w.cell? ⟨b, off + i, none⟩ = some (V32 (s i).1))
    (h2 : 0 < l2 → ∃ b off, a2 = some ⟨b, off, none⟩ ∧ ∀ i, i < l2 → w.cell? ⟨b, off + i, none⟩ = some (V32 (s i).2))
    (s0 : l0 ≤ 9223372036854775807) (s1 : l1 ≤ 9223372036854775807) (s2 : l2 ≤ 9223372036854775807) (k0 : -9223372036854775808 ≤ k) (k1 : k ≤ 9223372036854775807) :
    Calls Try.prog 6 #[.slice a0 l0 c0, .slice a1 l1 c1, .slice a2 l2 c2, .int .i64 k, V32 m] w (TruePost w) := by
  by_cases hall : l0 ≤ 4096 ∧ l1 ≤ 4096 ∧ l2 ≤ 4096
  · obtain ⟨t0, t1, t2⟩ := hall
    by_cases heq : l1 = l0 ∧ l2 = l0 ∧ 0 ≤ k ∧ k < l0
    · obtain ⟨rfl, rfl, hk0, hk1⟩ := heq
      obtain ⟨q, rfl⟩ := Int.eq_ofNat_of_zero_le hk0
      obtain ⟨b0, o0, rfl, r0⟩ := h0 (by omega)
      obtain ⟨b1, o1, rfl, r1⟩ := h1 (by omega)
      obtain ⟨b2, o2, rfl, r2⟩ := h2 (by omega)
      exact keep_core b0 o0 b1 o1 b2 o2 l2 c0 c1 c2 q lv s m w r0 r1 r2 t0 (by omega)
    · have d0 : decide ((4096 : Int) < (l0 : Int)) = false := by simp; omega
      have d1 : decide ((4096 : Int) < (l1 : Int)) = false := by simp; omega
      have d2 : decide ((4096 : Int) < (l2 : Int)) = false := by simp; omega
      have HN : Hid (¬ (l1 = l0 ∧ l2 = l0 ∧ 0 ≤ k ∧ k < l0)) := heq
      clear heq
      go_enter Try.func6, Try.ntmps6
      go_wp2_with fail
      refine (bytes19_any _ _ _ l0 l1 l2 c0 c1 c2 k (n32 m) w s0 s1 s2).mono ?_
      rintro e w' ⟨r, rfl, rfl⟩
      cases r
      · go_wp2_with fail
        go_ret
        exact ⟨rfl, Below.refl _ _⟩
      go_wp2_with fail
      refine (fits_any _ _ _ l0 l1 l2 c0 c1 c2 lv s k w h0 h1 h2 t0 t1 t2 k0 k1).mono ?_
      rintro e w' ⟨r, rfl, ⟨nq, rfl⟩, hF⟩
      cases r
      · go_wp2_with fail
        go_ret
        exact ⟨rfl, below_drewN (Below.refl _ _) _⟩
      · have hF := hF rfl
        exact absurd ⟨hF.e1, hF.e2, hF.k0, hF.kn⟩ HN.out
  · clear h0 h1 h2
    go_enter Try.func6, Try.ntmps6
    go_wp2_with fail
    refine (bytes19_any _ _ _ l0 l1 l2 c0 c1 c2 k (n32 m) w s0 s1 s2).mono ?_
    rintro e w' ⟨r, rfl, rfl⟩
    cases r
    · go_wp2_with fail
      go_ret
      exact ⟨rfl, Below.refl _ _⟩
    by_cases g0 : l0 ≤ 4096
    · have d0 : decide ((4096 : Int) < (l0 : Int)) = false := by simp; omega
      by_cases g1 : l1 ≤ 4096
      · have d1 : decide ((4096 : Int) < (l1 : Int)) = false := by simp; omega
        have d2 : decide ((4096 : Int) < (l2 : Int)) = true := by simp; omega
        clear hall
        go_wp2_with fail
        go_ret
        exact ⟨rfl, Below.refl _ _⟩
      · have d1 : decide ((4096 : Int) < (l1 : Int)) = true := by simp; omega
        clear hall
        go_wp2_with fail
        go_ret
        exact ⟨rfl, Below.refl _ _⟩
    · have d0 : decide ((4096 : Int) < (l0 : Int)) = true := by simp; omega
      clear hall
      go_wp2_with fail
      go_ret
      exact ⟨rfl, Below.refl _ _⟩

end Go.Proofs.Qxb6000012a
