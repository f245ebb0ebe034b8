import Derived.Test.Qxb6000023aLaw
namespace Go.Proofs.Qxb6000023a
open Go.RowKit

set_option maxRecDepth 100000 in
set_option maxHeartbeats 8000000 in
theorem law_any (a0 a1 a2 a3 a4 a5 a6 : Option Addr) (n n1 n2 n3 n4 M c0 c1 c2 c3 c4 c5 c6 : Nat) (v : Int) (c : Cols) (K : Nat → Int) (k : List Nat) (w : World)
    (h0 : Nest w a0 n c.lo) (h1 : Nest w a1 n1 c.hi) (h2 : Row w a2 n2 (fun i => .bool (c.le i))) (h3 : Row w a3 n3 (fun i => .bool (c.he i))) (h4 : Row w a4 n4 (fun i => .bool (c.nr i)))
    (h5 : Row w a5 M (fun i => .int .i64 (K i))) (h6 : Bts w a6 k)
    (l0 : ∀ i, i < n → lenO (c.lo i) ≤ 9223372036854775807) (l1 : ∀ i, i < n1 → lenO (c.hi i) ≤ 9223372036854775807)
    (y0 : ∀ i, i < n → ∀ x ∈ getO (c.lo i), x < 256) (y1 : ∀ i, i < n1 → ∀ x ∈ getO (c.hi i), x < 256) (yk : ∀ x ∈ k, x < 256)
    (z0 : a0 = none → n = 0) (z1 : a1 = none → n1 = 0) (z2 : a2 = none → n2 = 0) (z3 : a3 = none → n3 = 0) (z4 : a4 = none → n4 = 0) (z5 : a5 = none → M = 0) (z6 : a6 = none → k.length = 0)
    (m0 : n ≤ 9223372036854775807) (m1 : n1 ≤ 9223372036854775807) (m2 : n2 ≤ 9223372036854775807) (m3 : n3 ≤ 9223372036854775807) (m4 : n4 ≤ 9223372036854775807) (m5 : M ≤ 9223372036854775807) (m6 : k.length ≤ 9223372036854775807)
    (v0 : -9223372036854775808 ≤ v) (v1 : v ≤ 9223372036854775807) :
    Calls Try.prog 5 #[.slice a0 n c0, .slice a1 n1 c1, .slice a2 n2 c2, .slice a3 n3 c3, .slice a4 n4 c4, .slice a5 M c5, .int .i64 v, .slice a6 k.length c6] w (TruePost w) := by
  have hbytes := bytes_any a0 a1 a2 a3 a4 a5 a6 n n1 n2 n3 n4 M k.length c0 c1 c2 c3 c4 c5 c6 c.lo c.hi v w h0 h1 m0 m1 m2 m3 m4 m5 m6 l0 l1
  by_cases hall : n ≤ 4096 ∧ n1 ≤ 4096 ∧ n2 ≤ 4096 ∧ n3 ≤ 4096 ∧ n4 ≤ 4096 ∧ M ≤ 4096 ∧ k.length ≤ 1048576
  · obtain ⟨t0, t1, t2, t3, t4, t5, t6⟩ := hall
    have d0 : decide ((4096 : Int) < (n : Int)) = false := by simp; omega
    have d1 : decide ((4096 : Int) < (n1 : Int)) = false := by simp; omega
    have d2 : decide ((4096 : Int) < (n2 : Int)) = false := by simp; omega
    have d3 : decide ((4096 : Int) < (n3 : Int)) = false := by simp; omega
    have d4 : decide ((4096 : Int) < (n4 : Int)) = false := by simp; omega
    have d5 : decide ((4096 : Int) < (M : Int)) = false := by simp; omega
    have d6 : decide ((1048576 : Int) < (k.length : Int)) = false := by simp; omega
    by_cases heq : n1 = n ∧ n2 = n ∧ n3 = n ∧ n4 = n
    · obtain ⟨rfl, rfl, rfl, rfl⟩ := heq
      by_cases hW : 1 ≤ v ∧ v ≤ 65536
      · obtain ⟨W, rfl⟩ := Int.eq_ofNat_of_zero_le (by omega : 0 ≤ v)
        exact law_core a0 a1 a2 a3 a4 a5 a6 n4 M W c0 c1 c2 c3 c4 c5 c6 c K k w h0 h1 h2 h3 h4 h5 h6 l0 l1 y0 y1 yk z0 z1 z2 z3 z4 z5 z6 t0 t5 t6 (by omega) (by omega)
      · clear y0 y1 yk l0 l1 h2 h3 h4 h5 h6
        have nn : ((n4 : Int) != (n4 : Int)) = false := by simp
        go_enter Try.func5, Try.ntmps5
        go_wp2_with fail
        refine hbytes.mono ?_
        rintro e w' ⟨r, rfl, rfl, hsz⟩
        clear hbytes
        cases r
        · go_wp2_with fail
          go_ret
          exact ⟨rfl, Below.refl _ _⟩
        obtain ⟨bl, bh⟩ := hsz rfl
        clear hsz
        have hnest := nested_any a0 a1 n4 n4 c0 c1 c.lo c.hi w h0 h1 t0 t1 bl bh
        clear h0 h1 bl bh
        go_wp2_with fail
        refine hnest.mono ?_
        rintro e w' ⟨T, rfl, rfl, hT0, hT1⟩
        clear hnest
        by_cases hbig : 1048576 < T + n4 + n4 + n4 + 8 * M + k.length
        · go_wp2_with fail
          go_ret
          exact ⟨rfl, Below.refl _ _⟩
        by_cases hv : v < 1
        · have dv : decide (v < 1) = true := by simpa using hv
          go_wp2_with fail
          go_ret
          exact ⟨rfl, Below.refl _ _⟩
        · have dv : decide (v < 1) = false := by simpa using hv
          have dw : decide (65536 < v) = true := by simp; omega
          go_wp2_with fail
          go_ret
          exact ⟨rfl, Below.refl _ _⟩
    · clear y0 y1 yk l0 l1 h2 h3 h4 h5 h6
      go_enter Try.func5, Try.ntmps5
      go_wp2_with fail
      refine hbytes.mono ?_
      rintro e w' ⟨r, rfl, rfl, hsz⟩
      clear hbytes
      cases r
      · go_wp2_with fail
        go_ret
        exact ⟨rfl, Below.refl _ _⟩
      obtain ⟨bl, bh⟩ := hsz rfl
      clear hsz
      have hnest := nested_any a0 a1 n n1 c0 c1 c.lo c.hi w h0 h1 t0 t1 bl bh
      clear h0 h1 bl bh
      go_wp2_with fail
      refine hnest.mono ?_
      rintro e w' ⟨T, rfl, rfl, hT0, hT1⟩
      clear hnest
      by_cases hbig : 1048576 < T + n2 + n3 + n4 + 8 * M + k.length
      · go_wp2_with fail
        go_ret
        exact ⟨rfl, Below.refl _ _⟩
      by_cases q0 : n1 = n
      · have qd0 : ((n1 : Int) != (n : Int)) = false := by simp; omega
        by_cases q1 : n2 = n
        · have qd1 : ((n2 : Int) != (n : Int)) = false := by simp; omega
          by_cases q2 : n3 = n
          · have qd2 : ((n3 : Int) != (n : Int)) = false := by simp; omega
            have qd3 : ((n4 : Int) != (n : Int)) = true := by rw [bne_iff_ne]; intro e; exact heq ⟨q0, q1, q2, by omega⟩
            clear heq q0 q1 q2
            go_wp2_with fail
            go_ret
            exact ⟨rfl, Below.refl _ _⟩
          · have qd2 : ((n3 : Int) != (n : Int)) = true := by rw [bne_iff_ne]; intro e; exact q2 (by omega)
            clear heq q2
            go_wp2_with fail
            go_ret
            exact ⟨rfl, Below.refl _ _⟩
        · have qd1 : ((n2 : Int) != (n : Int)) = true := by rw [bne_iff_ne]; intro e; exact q1 (by omega)
          clear heq q1
          go_wp2_with fail
          go_ret
          exact ⟨rfl, Below.refl _ _⟩
      · have qd0 : ((n1 : Int) != (n : Int)) = true := by rw [bne_iff_ne]; intro e; exact q0 (by omega)
        clear heq q0
        go_wp2_with fail
        go_ret
        exact ⟨rfl, Below.refl _ _⟩
  · clear y0 y1 yk l0 l1 h0 h1 h2 h3 h4 h5 h6
    go_enter Try.func5, Try.ntmps5
    go_wp2_with fail
    refine hbytes.mono ?_
    rintro e w' ⟨r, rfl, rfl, hsz⟩
    clear hbytes
    cases r
    · go_wp2_with fail
      go_ret
      exact ⟨rfl, Below.refl _ _⟩
    clear hsz
    by_cases g0 : n ≤ 4096
    · have d0 : decide ((4096 : Int) < (n : Int)) = false := by simp; omega
      by_cases g1 : n1 ≤ 4096
      · have d1 : decide ((4096 : Int) < (n1 : Int)) = false := by simp; omega
        by_cases g2 : n2 ≤ 4096
        · have d2 : decide ((4096 : Int) < (n2 : Int)) = false := by simp; omega
          by_cases g3 : n3 ≤ 4096
          · have d3 : decide ((4096 : Int) < (n3 : Int)) = false := by simp; omega
            by_cases g4 : n4 ≤ 4096
            · have d4 : decide ((4096 : Int) < (n4 : Int)) = false := by simp; omega
              by_cases g5 : M ≤ 4096
              · have d5 : decide ((4096 : Int) < (M : Int)) = false := by simp; omega
                have d6 : decide ((1048576 : Int) < (k.length : Int)) = true := by simp; omega
                clear hall
                go_wp2_with fail
                go_ret
                exact ⟨rfl, Below.refl _ _⟩
              · have d5 : decide ((4096 : Int) < (M : Int)) = true := by simp; omega
                clear hall
                go_wp2_with fail
                go_ret
                exact ⟨rfl, Below.refl _ _⟩
            · have d4 : decide ((4096 : Int) < (n4 : Int)) = true := by simp; omega
              clear hall
              go_wp2_with fail
              go_ret
              exact ⟨rfl, Below.refl _ _⟩
          · have d3 : decide ((4096 : Int) < (n3 : Int)) = true := by simp; omega
            clear hall
            go_wp2_with fail
            go_ret
            exact ⟨rfl, Below.refl _ _⟩
        · have d2 : decide ((4096 : Int) < (n2 : Int)) = true := by simp; omega
          clear hall
          go_wp2_with fail
          go_ret
          exact ⟨rfl, Below.refl _ _⟩
      · have d1 : decide ((4096 : Int) < (n1 : Int)) = true := by simp; omega
        clear hall
        go_wp2_with fail
        go_ret
        exact ⟨rfl, Below.refl _ _⟩
    · have d0 : decide ((4096 : Int) < (n : Int)) = true := by simp; omega
      clear hall
      go_wp2_with fail
      go_ret
      exact ⟨rfl, Below.refl _ _⟩
end Go.Proofs.Qxb6000023a
