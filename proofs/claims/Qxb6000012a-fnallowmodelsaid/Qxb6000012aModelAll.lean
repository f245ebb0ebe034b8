import Derived.Test.Qxb6000012aKeep
import Derived.Test.Qxb6000012aModel
namespace Go.Proofs.Qxb6000012a
open Go.RowKit

set_option maxRecDepth 100000 in
set_option maxHeartbeats 4000000 in
theorem model_core (b0 o0 b1 o1 b2 o2 n c0 c1 c2 k : Nat) (lv : Nat → Int) (s : St) (m : BitVec 32) (w : World)
    (r0 : ∀ i, i < n → w.cell? ⟨b0, o0 + i, none⟩ = some (.int .i64 (lv i)))
    (r1 : ∀ i, i < n → w.cell? ⟨b1, o1 + i, none⟩ = some (V32 (s i).1))
    (r2 : ∀ i, i < n → w.cell? ⟨b2, o2 + i, none⟩ = some (V32 (s i).2))
    (hn : n ≤ 4096) (hk : k < n) :
    Calls Try.prog 5 #[.slice (some ⟨b0, o0, none⟩) n c0, .slice (some ⟨b1, o1, none⟩) n c1, .slice (some ⟨b2, o2, none⟩) n c2, .int .i64 k, V32 m] w (TruePost w) := by
  have lt0 := lt_of_cell (r0 k hk)
  have lt1 := lt_of_cell (r1 k hk)
  have lt2 := lt_of_cell (r2 k hk)
  have hn4 : decide ((4096 : Int) < (n : Int)) = false := by simp; omega
  go_enter Try.func5, Try.ntmps5
  go_wp2_with fail
  refine (bytes12_any _ _ _ n n n c0 c1 c2 k (n32 m) w (by omega) (by omega) (by omega)).mono ?_
  rintro e w' ⟨r, rfl, rfl⟩
  cases r
  · go_wp2_with fail
    go_ret
    exact ⟨rfl, Below.refl _ _⟩
  go_wp2_with fail
  refine (fits_any _ _ _ n n n c0 c1 c2 lv s k w (fun _ => ⟨b0, o0, rfl, r0⟩) (fun _ => ⟨b1, o1, rfl, r1⟩) (fun _ => ⟨b2, o2, rfl, r2⟩) hn hn hn (by omega) (by omega)).mono ?_
  rintro e w' ⟨r, rfl, ⟨nq, rfl⟩, hF⟩
  cases r
  · go_wp2_with fail
    go_ret
    exact ⟨rfl, below_drewN (Below.refl _ _) _⟩
  have HF : Hid (Fits lv s n n n k) := hF rfl
  clear hF
  go_wp2_with fail
  refine (cloneI_any b0 o0 n c0 lv (w.drewN nq) hn r0 lt0).mono ?_
  rintro e w1 ⟨rfl, hB1, hs1, hR1⟩
  simp only [World.heap_drewN] at hB1 hs1 hR1
  have hA1 : Below w.heap.size w w1 := (below_drewN (Below.refl _ _) nq).trans hB1
  clear hB1
  go_wp2_with fail
  refine (cloneU_any b1 o1 n c1 (fun i => (s i).1) w1 hn (fun i hi => Below.at hA1 lt1 (r1 i hi)) (by omega)).mono ?_
  rintro e w2 ⟨rfl, hB2, hs2, hR2⟩
  rw [hs1] at hB2 hs2 hR2
  replace hs2 : w2.heap.size = w.heap.size + 2 := hs2
  have hA2 : Below w.heap.size w w2 := hA1.trans (hB2.mono (by omega))
  have hR1' := Below.row hB2 (by omega) hR1
  rw [hs1]
  clear hB2 hA1 hR1
  go_wp2_with fail
  refine (cloneU_any b2 o2 n c2 (fun i => (s i).2) w2 hn (fun i hi => Below.at hA2 lt2 (r2 i hi)) (by omega)).mono ?_
  rintro e w3 ⟨rfl, hB3, hs3, hR3⟩
  rw [hs2] at hB3 hs3 hR3
  replace hs3 : w3.heap.size = w.heap.size + 3 := hs3
  have hA3 : Below w.heap.size w w3 := hA2.trans (hB3.mono (by omega))
  have hR1 := Below.row hB3 (by omega) hR1'
  have hR2' := Below.row hB3 (by omega) hR2
  rw [hs2]
  clear hB3 hA2 hR1' hR2 hs1 hs2
  go_wp2_with fail
  refine (shape_any w.heap.size n lv w3 hn (fun i hi => hR1.cell hi) (by omega)).mono ?_
  rintro e w4 ⟨P, E, rfl, hB4, hP, hE, hPar, hEnd⟩
  have hz4 := hB4.size
  rw [hs3] at hB4 hP hE hz4
  replace hE : w4.rowIs (w.heap.size + 4) 3 n (fun i => intC (E i)) := hE
  have hA4 : Below w.heap.size w w4 := hA3.trans (hB4.mono (by omega))
  have hD := Below.row hB4 (by omega) hR2'
  have hG := Below.row hB4 (by omega) hR3
  rw [hs3, show w.heap.size + 3 + 1 = w.heap.size + 4 from rfl]
  have hR1 := Below.row hB4 (by omega) hR1
  clear hB4 hA3 hR2' hR3 hs3
  have hPb : ∀ i, i < n → -1 ≤ P i ∧ P i < i := fun i hi => (hPar i hi).bd
  have hEb : ∀ i, i < n → i < E i ∧ E i ≤ n := fun i hi => ⟨(hEnd i hi).1, (hEnd i hi).2.1⟩
  go_wp2_with fail
  refine (zzallow_any (w.heap.size + 3) (w.heap.size + 4) (w.heap.size + 1) (w.heap.size + 2) n k P E s m w4 hn hk (fun i hi => hP.cell hi) (fun i hi => hE.cell hi) (fun i hi => hD.cell hi) (fun i hi => hG.cell hi) hPb hEb).mono ?_
  rintro e w5 ⟨bd, bg, rfl, hB5, hd, hg, hbd, hbg⟩
  have hz5 := hB5.size
  have hA5 : Below w.heap.size w w5 := hA4.trans (hB5.mono (by omega))
  have hL5 := Below.row hB5 hR1.lt hR1
  have hD5 := Below.row hB5 hD.lt hD
  have hG5 := Below.row hB5 hG.lt hG
  clear hP hE hD hG hB5 hA4 hR1 hPb hEb
  go_wp2_with fail
  refine (model_any w.heap.size (w.heap.size + 1) (w.heap.size + 2) n k lv P E s m w5 hn hk (fun i hi => hL5.cell hi) (fun i hi => hD5.cell hi) (fun i hi => hG5.cell hi) HF.out.valid hPar hEnd).mono ?_
  rintro e w6 ⟨B, rfl, hB6, hBB, hd', hg'⟩
  have hd6 := Below.row hB6 hd.lt hd
  have hg6 := Below.row hB6 hg.lt hg
  have hA6 : Below w.heap.size w w6 := hA5.trans (hB6.mono (by omega))
  clear hd hg hA5 hB6 hL5 hD5 hG5 hPar hEnd HF
  have hne : ((n : Int) != (n : Int)) = false := by simp
  go_wp2_with fail
  clear hn4 hne
  go_loopg [17] n (fun g s17 wy => ∃ i : Nat, i ≤ n ∧ g = n - i ∧ s17 = .int .i64 i ∧ ∃ kd, wy = w6.drewN kd)
  case atStart => exact ⟨0, Nat.zero_le _, rfl, rfl, 0, rfl⟩
  case round =>
    obtain ⟨i, hi, rfl, rfl, kd, rfl⟩ := hrel
    by_cases hlt : i < n
    · have t1 := hd6.cell hlt
      have t2 := hg6.cell hlt
      have t3 := hd'.cell hlt
      have t4 := hg'.cell hlt
      generalize allowF P E n s k m i = F at *
      obtain ⟨D', G'⟩ := F
      simp only at t1 t2 t3 t4
      have e1 : (n32 D' != n32 D') = false := bne_of rfl
      have e2 : (n32 G' != n32 G') = false := bne_of rfl
      have hltz : (i : Int) < (n : Int) := by omega
      go_wp2_with fail
      go_quiet (fail)
      go_wp2_with fail
      go_roundg (n - (i + 1))
      case measure => omega
      case rel => exact ⟨i + 1, by omega, rfl, by go_num, _, by first | rfl | (simp only [World.drewN_drewN]; rfl)⟩
    · obtain rfl : i = n := by omega
      go_wp2_with fail
      go_ret
      exact ⟨rfl, below_drewN hA6 _⟩

set_option maxRecDepth 100000 in
set_option maxHeartbeats 4000000 in
theorem modelLaw_any (a0 a1 a2 : Option Addr) (l0 l1 l2 c0 c1 c2 : Nat) (lv : Nat → Int) (s : Nat → BitVec 32 × BitVec 32) (k : Int) (m : BitVec 32) (w : World)
    (h0 : 0 < l0 → ∃ b off, a0 = some ⟨b, off, none⟩ ∧ ∀ i, i < l0 → w.cell? ⟨b, off + i, none⟩ = some (.int .i64 (lv i)))
    (h1 : 0 < l1 → ∃ b off, a1 = some ⟨b, off, none⟩ ∧ ∀ i, i < l1 → w.cell? ⟨b, off + i, none⟩ = some (V32 (s i).1))
    (h2 : 0 < l2 → ∃ b off, a2 = some ⟨b, off, none⟩ ∧ ∀ i, i < l2 → w.cell? ⟨b, off + i, none⟩ = some (V32 (s i).2))
    (s0 : l0 ≤ 9223372036854775807) (s1 : l1 ≤ 9223372036854775807) (s2 : l2 ≤ 9223372036854775807) (k0 : -9223372036854775808 ≤ k) (k1 : k ≤ 9223372036854775807) :
    Calls Try.prog 5 #[.slice a0 l0 c0, .slice a1 l1 c1, .slice a2 l2 c2, .int .i64 k, V32 m] w (TruePost w) := by
  by_cases hall : l0 ≤ 4096 ∧ l1 ≤ 4096 ∧ l2 ≤ 4096
  · obtain ⟨t0, t1, t2⟩ := hall
    by_cases heq : l1 = l0 ∧ l2 = l0 ∧ 0 ≤ k ∧ k < l0
    · obtain ⟨rfl, rfl, hk0, hk1⟩ := heq
      obtain ⟨q, rfl⟩ := Int.eq_ofNat_of_zero_le hk0
      obtain ⟨b0, o0, rfl, r0⟩ := h0 (by omega)
      obtain ⟨b1, o1, rfl, r1⟩ := h1 (by omega)
      obtain ⟨b2, o2, rfl, r2⟩ := h2 (by omega)
      exact model_core b0 o0 b1 o1 b2 o2 l2 c0 c1 c2 q lv s m w r0 r1 r2 t0 (by omega)
    · have d0 : decide ((4096 : Int) < (l0 : Int)) = false := by simp; omega
      have d1 : decide ((4096 : Int) < (l1 : Int)) = false := by simp; omega
      have d2 : decide ((4096 : Int) < (l2 : Int)) = false := by simp; omega
      have HN : Hid (¬ (l1 = l0 ∧ l2 = l0 ∧ 0 ≤ k ∧ k < l0)) := heq
      clear heq
      go_enter Try.func5, Try.ntmps5
      go_wp2_with fail
      refine (bytes12_any _ _ _ l0 l1 l2 c0 c1 c2 k (n32 m) w s0 s1 s2).mono ?_
      rintro e w' ⟨r, rfl, rfl⟩
      cases r
      · go_wp2_with fail
        go_ret
        exact ⟨rfl, Below.refl _ _⟩
      go_wp2_with fail
      refine (fits_any _ _ _ l0 l1 l2 c0 c1 c2 lv s k w h0 h1 h2 t0 t1 t2 k0 k1).mono ?_
      rintro e w' ⟨r, rfl, ⟨nq, rfl⟩, hF⟩
      cases r
      · go_wp2_with fail
        go_ret
        exact ⟨rfl, below_drewN (Below.refl _ _) _⟩
      · have hF := hF rfl
        exact absurd ⟨hF.e1, hF.e2, hF.k0, hF.kn⟩ HN.out
  · clear h0 h1 h2
    go_enter Try.func5, Try.ntmps5
    go_wp2_with fail
    refine (bytes12_any _ _ _ l0 l1 l2 c0 c1 c2 k (n32 m) w s0 s1 s2).mono ?_
    rintro e w' ⟨r, rfl, rfl⟩
    cases r
    · go_wp2_with fail
      go_ret
      exact ⟨rfl, Below.refl _ _⟩
    by_cases g0 : l0 ≤ 4096
    · have d0 : decide ((4096 : Int) < (l0 : Int)) = false := by simp; omega
      by_cases g1 : l1 ≤ 4096
      · have d1 : decide ((4096 : Int) < (l1 : Int)) = false := by simp; omega
        have d2 : decide ((4096 : Int) < (l2 : Int)) = true := by simp; omega
        clear hall
        go_wp2_with fail
        go_ret
        exact ⟨rfl, Below.refl _ _⟩
      · have d1 : decide ((4096 : Int) < (l1 : Int)) = true := by simp; omega
        clear hall
        go_wp2_with fail
        go_ret
        exact ⟨rfl, Below.refl _ _⟩
    · have d0 : decide ((4096 : Int) < (l0 : Int)) = true := by simp; omega
      clear hall
      go_wp2_with fail
      go_ret
      exact ⟨rfl, Below.refl _ _⟩

end Go.Proofs.Qxb6000012a
