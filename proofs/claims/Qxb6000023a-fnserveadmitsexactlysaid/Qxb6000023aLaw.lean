import Derived.Test.Qxb6000023aZZServe
import Derived.Test.Qxb6000023aLawP
import Derived.Test.Qxb6000023aSizes
import Derived.Test.Qxb6000023aKeyFits
import Derived.Test.Qxb6000023aTests2
namespace Go.Proofs.Qxb6000023a
open Go.RowKit

def TruePost (w : World) (e : Ending) (w' : World) : Prop := e = .returned (.bool true) ∧ Below w.heap.size w w'

/-- What the law's own loop asks of each column. -/
def ColOk (c : Cols) (W i : Nat) : Prop := (∀ l, c.lo i = some l → l.length = W) ∧ (∀ l, c.hi i = some l → l.length = W) ∧ (c.nr i = false → c.lo i = none ∧ c.hi i = none)

theorem Try.elem22 : Try.prog.elem 22 = 5 := by kernel_rfl
theorem slice_k (b6 x y L : Nat) (h1 : x ≤ y) (h2 : y ≤ L) (h3 : ¬ L = x) (w : World) :
    (Instr.slice 22 (.slice (some ⟨b6, 0, none⟩) L L) (some (.int .i64 (x : Int))) (some (.int .i64 (y : Int))) none).run Try.prog w = .ok (.slice (some ⟨b6, x, none⟩) (y - x) (L - x)) w := by
  obtain ⟨i0, hi0, hz0, hz1, hz2⟩ := info_parts Try.info5
  rw [run_slice_lh w 22 (some ⟨b6, 0, none⟩) L L Try.underlying22 .i64 .i64 x y (by omega) (by omega) (by omega)]
  simp [sizeOf, typeInfo, sliced, Try.elem22, hi0, hz1, h3, Addr.add]
  omega

set_option maxRecDepth 100000 in
set_option maxHeartbeats 8000000 in
theorem law_core (a0 a1 a2 a3 a4 a5 a6 : Option Addr) (n M W c0 c1 c2 c3 c4 c5 c6 : Nat) (c : Cols) (K : Nat → Int) (k : List Nat) (w : World)
    (h0 : Nest w a0 n c.lo) (h1 : Nest w a1 n c.hi) (h2 : Row w a2 n (fun i => .bool (c.le i))) (h3 : Row w a3 n (fun i => .bool (c.he i))) (h4 : Row w a4 n (fun i => .bool (c.nr i)))
    (h5 : Row w a5 M (fun i => .int .i64 (K i))) (h6 : Bts w a6 k)
    (l0 : ∀ i, i < n → lenO (c.lo i) ≤ 9223372036854775807) (l1 : ∀ i, i < n → lenO (c.hi i) ≤ 9223372036854775807)
    (y0 : ∀ i, i < n → ∀ x ∈ getO (c.lo i), x < 256) (y1 : ∀ i, i < n → ∀ x ∈ getO (c.hi i), x < 256) (yk : ∀ x ∈ k, x < 256)
    (z0 : a0 = none → n = 0) (z1 : a1 = none → n = 0) (z2 : a2 = none → n = 0) (z3 : a3 = none → n = 0) (z4 : a4 = none → n = 0) (z5 : a5 = none → M = 0) (z6 : a6 = none → k.length = 0)
    (hn : n ≤ 4096) (hM : M ≤ 4096) (hL : k.length ≤ 1048576) (hW1 : 1 ≤ W) (hW2 : W ≤ 65536) :
    Calls Try.prog 5 #[.slice a0 n c0, .slice a1 n c1, .slice a2 n c2, .slice a3 n c3, .slice a4 n c4, .slice a5 M c5, .int .i64 W, .slice a6 k.length c6] w (TruePost w) := by
  have dn : decide ((4096 : Int) < (n : Int)) = false := by simp; omega
  have dM : decide ((4096 : Int) < (M : Int)) = false := by simp; omega
  have dL : decide ((1048576 : Int) < (k.length : Int)) = false := by simp; omega
  have nn : ((n : Int) != (n : Int)) = false := by simp
  have dW1 : decide ((W : Int) < 1) = false := by simp; omega
  have dW2 : decide ((65536 : Int) < (W : Int)) = false := by simp; omega
  have hnil := nil22
  have hbytes := bytes_any a0 a1 a2 a3 a4 a5 a6 n n n n n M k.length c0 c1 c2 c3 c4 c5 c6 c.lo c.hi W w h0 h1 (by omega) (by omega) (by omega) (by omega) (by omega) (by omega) (by omega) l0 l1
  clear l0 l1
  go_enter Try.func5, Try.ntmps5
  go_wp2_with fail
  refine hbytes.mono ?_
  rintro e w' ⟨r, rfl, rfl, hsz⟩
  clear hbytes
  cases r
  · go_wp2_with fail
    go_ret
    exact ⟨rfl, Below.refl _ _⟩
  obtain ⟨bl, bh⟩ := hsz rfl
  clear hsz
  have hnest := nested_any a0 a1 n n c0 c1 c.lo c.hi w h0 h1 hn hn bl bh
  go_wp2_with fail
  refine hnest.mono ?_
  rintro e w' ⟨T, rfl, rfl, hT0, hT1⟩
  clear hnest
  by_cases hbig : 1048576 < T + n + n + n + 8 * M + k.length
  · go_wp2_with fail
    go_ret
    exact ⟨rfl, Below.refl _ _⟩
  have hkf := keyFits_any a5 M n c5 K w h5 hM hn
  go_wp2_with fail
  refine hkf.mono ?_
  rintro e w1 ⟨r, rfl, hB1, hko⟩
  clear hkf
  cases r
  · go_wp2_with fail
    go_ret
    exact ⟨rfl, hB1⟩
  have HKO : Hid (KeyOk K M n) := hko rfl
  clear hko
  go_wp2_with fail
  have hI1 : ColsIn w1 a0 a1 a2 a3 a4 n c := ⟨h0.below hB1, h1.below hB1, h2.below hB1, h3.below hB1, h4.below hB1, bl, bh⟩
  have h51 := h5.below hB1
  have h61 : Bts w1 a6 k := h6.below hB1
  clear h0 h1 h2 h3 h4 h5 h6 hbig hT0 hT1 bl bh dn dM dL nn dW1 dW2
  go_loopg [18] n (fun g s18 wr => ∃ i : Nat, i ≤ n ∧ g = n - i ∧ s18 = .int .i64 i ∧ w1 = wr ∧ ∀ x, x < i → ColOk c W x)
  case atStart => exact ⟨0, Nat.zero_le _, rfl, rfl, rfl, fun x hx => absurd hx (Nat.not_lt_zero _)⟩
  case round =>
    obtain ⟨i, hi, rfl, rfl, rfl, hall⟩ := hrel
    have HA : Hid (∀ x, x < i → ColOk c W x) := hall
    clear hall
    by_cases hin : i < n
    · obtain ⟨b0, o0, b1, o1, b2, o2, b3, o3, b4, o4, rfl, rfl, rfl, rfl, rfl, A, A', C, C', hcells⟩ := hI1.open (by omega)
      obtain ⟨q0, q1, _, _, q4, k0, k1⟩ := hcells i hin
      have e0 := (colBts k0).2.2.2
      have e1 := (colBts k1).2.2.2
      have hinz : (i : Int) < (n : Int) := by omega
      have hb0 := hI1.bl i hin
      have hb1 := hI1.bh i hin
      clear hcells k0 k1 h51 h61 y0 y1 yk
      by_cases p0 : (c.lo i).isSome = true ∧ ¬ lenO (c.lo i) = W
      · have e0' : (A i).isNone = false := by rw [e0, p0.1]; rfl
        have d0 : ((lenO (c.lo i) : Int) != (W : Int)) = true := by simp; exact fun e => p0.2 (by omega)
        clear e0 e1 p0 hI1
        go_wp2_with fail
        go_ret
        exact ⟨rfl, hB1⟩
      by_cases p1 : (c.hi i).isSome = true ∧ ¬ lenO (c.hi i) = W
      · have e1' : (A' i).isNone = false := by rw [e1, p1.1]; rfl
        have d1 : ((lenO (c.hi i) : Int) != (W : Int)) = true := by simp; exact fun e => p1.2 (by omega)
        cases hs0 : (c.lo i).isSome
        · have e0' : (A i).isNone = true := by rw [e0, hs0]; rfl
          clear e0 e1 p1 p0 hI1 hs0
          go_wp2_with fail
          go_ret
          exact ⟨rfl, hB1⟩
        · have e0' : (A i).isNone = false := by rw [e0, hs0]; rfl
          have d0 : ((lenO (c.lo i) : Int) != (W : Int)) = false := by
            have : lenO (c.lo i) = W := by
              by_cases h : lenO (c.lo i) = W
              · exact h
              · exact absurd ⟨hs0, h⟩ p0
            simp [this]
          clear e0 e1 p1 p0 hI1 hs0
          go_wp2_with fail
          go_ret
          exact ⟨rfl, hB1⟩
      have hlen0 : (c.lo i).isSome = true → lenO (c.lo i) = W := fun h => by
        by_cases h' : lenO (c.lo i) = W
        · exact h'
        · exact absurd ⟨h, h'⟩ p0
      have hlen1 : (c.hi i).isSome = true → lenO (c.hi i) = W := fun h => by
        by_cases h' : lenO (c.hi i) = W
        · exact h'
        · exact absurd ⟨h, h'⟩ p1
      have hok : (c.nr i = false → (c.lo i).isSome = false ∧ (c.hi i).isSome = false) → ColOk c W i := fun hnr => ⟨fun l hl => by
          have := hlen0 (by rw [hl]; rfl)
          rw [hl] at this; exact this, fun l hl => by
          have := hlen1 (by rw [hl]; rfl)
          rw [hl] at this; exact this, fun h => by
          obtain ⟨g0, g1⟩ := hnr h
          exact ⟨by simpa using g0, by simpa using g1⟩⟩
      have HOK : Hid ((c.nr i = false → (c.lo i).isSome = false ∧ (c.hi i).isSome = false) → ColOk c W i) := hok
      have d0 : (c.lo i).isSome = true → ((lenO (c.lo i) : Int) != (W : Int)) = false := fun h => by simp [hlen0 h]
      have d1 : (c.hi i).isSome = true → ((lenO (c.hi i) : Int) != (W : Int)) = false := fun h => by simp [hlen1 h]
      clear hok hlen0 hlen1 p0 p1 hI1
      cases hs0 : (c.lo i).isSome <;> cases hs1 : (c.hi i).isSome <;> cases hnr : c.nr i
      all_goals
        rw [hs0] at e0 d0 HOK
        rw [hs1] at e1 d1 HOK
        rw [hnr] at q4 HOK
        clear hs0 hs1 hnr
        simp only [Bool.not_true, Bool.not_false, forall_const, reduceCtorEq, false_implies] at e0 e1 d0 d1
        go_wp2_with fail
        first
          | (go_ret
             exact ⟨rfl, hB1⟩)
          | (go_roundg (n - (i + 1))
             case measure => omega
             case rel => exact ⟨i + 1, by omega, rfl, by go_num, rfl, fun x hx => by
               by_cases e : x = i
               · subst e; exact HOK.out (by simp)
               · exact HA.out x (by omega)⟩)
    · obtain rfl : i = n := by omega
      have hWM0 : (0 : Int) ≤ (W : Int) * (M : Int) := Int.mul_nonneg (by omega) (by omega)
      have hWM1 : (W : Int) * (M : Int) ≤ 268435456 := by
        have h := Nat.mul_le_mul hW2 hM
        have h' : ((W * M : Nat) : Int) ≤ 268435456 := by omega
        rwa [Int.natCast_mul] at h'
      by_cases hkl : k.length = W * M
      · have dk : ((k.length : Int) != (W : Int) * (M : Int)) = false := by rw [hkl, Int.natCast_mul]; simp
        have HKL : Hid (k.length = W * M) := hkl
        clear hkl
        -- the key as numbers
        obtain ⟨κ, hκ⟩ : ∃ κ : Nat → Nat, ∀ j, j < M → K j = (κ j : Int) ∧ κ j < i := ⟨fun j => (K j).toNat, fun j hj => by have := HKO.out.1 j hj; show K j = ((K j).toNat : Int) ∧ (K j).toNat < i; omega⟩
        have h52 : Row w1 a5 M (fun j => .int .i64 (κ j)) := fun hp => by
          obtain ⟨b, off, e, hc⟩ := h51 hp
          exact ⟨b, off, e, fun j hj => by rw [hc j hj]; show some (Value.int .i64 (K j)) = some (.int .i64 (κ j)); rw [(hκ j hj).1]⟩
        have hκn : ∀ j, j < M → κ j < i := fun j hj => (hκ j hj).2
        have hκd : ∀ x y, x < y → y < M → κ x ≠ κ y := fun x y hxy hy he => HKO.out.2 x y hxy hy (by rw [(hκ x (by omega)).1, (hκ y hy).1, he])
        have HKD : Hid (∀ x y, x < y → y < M → κ x ≠ κ y) := hκd
        have hsv := served_any a0 a1 a2 a3 a4 a5 i M c0 c1 c2 c3 c4 c5 c κ w1 hI1 h52 hκn hM hn
        clear hκ hκd HKO h51
        go_wp2_with fail
        refine hsv.mono ?_
        rintro e w2 ⟨r, rfl, hB2, hs⟩
        clear hsv
        cases r
        · go_wp2_with fail
          go_ret
          exact ⟨rfl, hB1.trans (hB2.mono hB1.size)⟩
        have HSV : Hid (∀ x, x < i → c.nr x = true → ∃ j, j < M ∧ κ j = x ∧ ∀ j', j' < j → c.pt (κ j') = true) := hs rfl
        clear hs
        have hA2 : Below w.heap.size w w2 := hB1.trans (hB2.mono hB1.size)
        have hI2 := hI1.below hB2
        have h53 := h52.below hB2
        have h62 : Bts w2 a6 k := h61.below hB2
        clear hI1 h52 h61 hB2 hB1
        -- the copies
        have cl0 := cloneN_any a0 i c0 c.lo w2 (by omega) z0 hI2.lo hI2.bl
        go_wp2_with fail
        refine cl0.mono ?_
        rintro e w3 ⟨a0', c0', rfl, m0, g3⟩
        clear cl0
        have cl1 := cloneN_any a1 i c1 c.hi w3 (by omega) z1 (hI2.hi.below g3) hI2.bh
        go_wp2_with fail
        refine cl1.mono ?_
        rintro e w4 ⟨a1', c1', rfl, m1, g4⟩
        clear cl1
        have g24 := g3.trans (g4.mono g3.size)
        have cl2 := cloneL_any a2 i c2 c.le w4 (by omega) (hI2.le.below g24) z2
        go_wp2_with fail
        refine cl2.mono ?_
        rintro e w5 ⟨a2', c2', rfl, _, m2, g5, _⟩
        clear cl2
        have g25 := g24.trans (g5.mono g24.size)
        have cl3 := cloneL_any a3 i c3 c.he w5 (by omega) (hI2.he.below g25) z3
        go_wp2_with fail
        refine cl3.mono ?_
        rintro e w6 ⟨a3', c3', rfl, _, m3, g6, _⟩
        clear cl3
        have g26 := g25.trans (g6.mono g25.size)
        have cl4 := cloneL_any a4 i c4 c.nr w6 (by omega) (hI2.nr.below g26) z4
        go_wp2_with fail
        refine cl4.mono ?_
        rintro e w7 ⟨a4', c4', rfl, _, m4, g7, _⟩
        clear cl4
        have g27 := g26.trans (g7.mono g26.size)
        have cl5 := cloneI_any a5 M c5 (fun j => (κ j : Int)) w7 (by omega) (h53.below g27) z5
        go_wp2_with fail
        refine cl5.mono ?_
        rintro e w8 ⟨a5', c5', rfl, n5, m5, g8, sh5⟩
        clear cl5
        have g28 := g27.trans (g8.mono g27.size)
        have cl6 := cloneB_any a6 k.length c6 (at8 k) w8 (by omega) (h62.below g28) z6
        go_wp2_with fail
        refine cl6.mono ?_
        rintro e w9 ⟨a6', c6', rfl, _, m6, g9, sh6⟩
        clear cl6
        have g29 := g28.trans (g9.mono g28.size)
        have hA9 : Below w.heap.size w w9 := hA2.trans (g29.mono hA2.size)
        have s79 := g8.trans (g9.mono g8.size)
        have s69 := g7.trans (s79.mono g7.size)
        have s59 := g6.trans (s69.mono g6.size)
        have s49 := g5.trans (s59.mono g5.size)
        have s39 := g4.trans (s49.mono g4.size)
        have hI9 : ColsIn w9 a0' a1' a2' a3' a4' i c := ⟨m0.below s39, m1.below s49, m2.below s59, m3.below s69, m4.below s79, hI2.bl, hI2.bh⟩
        have hk9 := m5.below g9
        have hkb9 : Bts w9 a6' k := m6
        have HCO : Hid (∀ x, x < i → ColOk c W x) := HA
        have hgood : ∀ x, x < i → Good (c.lo x) ∧ Good (c.hi x) := fun x hx => ⟨fun l hl => ⟨by rw [(HCO.out x hx).1 l hl]; omega, by have := y0 x hx; rw [hl] at this; exact this⟩, fun l hl => ⟨by rw [(HCO.out x hx).2.1 l hl]; omega, by have := y1 x hx; rw [hl] at this; exact this⟩⟩
        have hsrv : ∀ wr, SpIn wr (w9.heap.size + 1) i c → Below w9.heap.size w9 wr → Calls Try.prog 27 #[.slice (some ⟨w9.heap.size + 1, 0, none⟩) i i, .slice a5' M c5'] wr (ServePost c κ M wr) := by
          intro wr hSp hBr
          rcases sh5 with ⟨rfl, rfl⟩ | ⟨b, rfl, hcm⟩
          · obtain rfl : M = 0 := z5 (by cases a5 with | none => rfl | some x => exact Bool.noConfusion n5)
            exact serve_nil (w9.heap.size + 1) i i c κ wr hSp hn (fun x hx => by
              cases hnr : c.nr x
              · rfl
              · obtain ⟨j, hj, _⟩ := HSV.out x hx hnr
                omega)
          · rw [hcm]
            have hlw : ∀ j, j < M → (getO (c.lo (κ j))).length ≤ W := fun j hj => by
              cases hl : c.lo (κ j) with
              | none => simp [getO]
              | some l => rw [getO_some, (HCO.out (κ j) (hκn j hj)).1 l hl]; exact Nat.le_refl _
            refine serve_any (w9.heap.size + 1) i i b 0 M M c κ wr hSp (fun j hj => ?_) hκn hM hn (Nat.le_refl _) (by omega) hgood HSV.out (fun u hu => ?_) (fun u hu => preL_bytes (fun j hj => y0 _ (hκn j (by omega)))) (fun x hx => ⟨hI9.bl x hx, hI9.bh x hx⟩)
            · obtain ⟨b', off', e, hc⟩ := hk9 (by omega)
              cases e
              exact Below.at hBr (lt_of_cell (hc j hj)) (hc j hj)
            · have h1 := preL_le (c := c) (κ := κ) (W := W) (t := u) (fun j hj => hlw j (by omega))
              have h2 := Nat.mul_le_mul_right W hu
              have h3 := HKL.out
              rw [Nat.mul_comm] at h3
              omega
        have hzs := zzserve_any a0' a1' a2' a3' a4' a5' i M c0' c1' c2' c3' c4' c5' c κ w9 hI9 hn hsrv
        clear hsrv g3 g4 g5 g6 g7 g8 g9 g24 g25 g26 g27 g28 g29 s79 s69 s59 s49 s39 m0 m1 m2 m3 m4 m5 m6 hI2 h53 h62 hA2 n5
        go_wp2_with fail
        refine hzs.mono ?_
        rintro e w10 ⟨t, hPt, hB10, hrg⟩
        clear hzs
        have hopen : ∀ j, t < j → j < M → c.lo (κ j) = none ∧ c.hi (κ j) = none := fun j h1 h2 => by
          refine (HCO.out (κ j) (hκn j h2)).2.2 ?_
          cases hnr : c.nr (κ j)
          · rfl
          · exfalso
            obtain ⟨j', g1, g2, g3⟩ := HSV.out (κ j) (hκn j h2) hnr
            by_cases hlt : j' < j
            · exact HKD.out j' j hlt h2 g2
            · have h4 := g3 t (by omega)
              rw [hPt.2.2 (by omega)] at h4
              exact Bool.noConfusion h4
        have hlaw := serve_law HKL.out yk hPt (fun j hj => ⟨(HCO.out (κ j) (hκn j hj)).1, (HCO.out (κ j) (hκn j hj)).2.1⟩) hopen
        have hA10 : Below w.heap.size w w10 := hA9.trans (hB10.mono hA9.size)
        have hI10 := hI9.below hB10
        have hk10 := hk9.below hB10
        have hkb10 : Bts w10 a6' k := hkb9.below hB10
        have hnil38 := fun (w : World) (n c : Nat) => run_neq_slice_nil_any (P := Try.prog) w 38 3 none n c 0 0 Try.underlying38
        obtain ⟨low, hlow⟩ : ∃ low, low = lowF (nxO c.lo κ M t) (nxB c.le κ M t) (preO c κ t) := ⟨_, rfl⟩
        obtain ⟨upp, hupp⟩ : ∃ upp, upp = upF (nxO c.hi κ M t) (nxB c.he κ M t) (preO c κ t) := ⟨_, rfl⟩
        rw [← hlow, ← hupp] at hlaw hrg
        have HLAW : Hid ((lowerAt low k && hiB upp true k) = wantB c κ W k M) := hlaw
        -- the range that came back, in one form
        obtain ⟨p1, p2, okb, he, hbd⟩ : ∃ p1 p2 okb, e = .returned (.tuple #[.agg #[.pointer p1, .pointer p2, .bool false, .int .i64 0], .bool okb, .slice none 0 0]) ∧ ((okb = false ∧ low = none) ∨ (okb = true ∧ ∃ o, low = some o ∧ Bd w10 p1 false o ∧ Bd w10 p2 true upp)) := by
          cases hl : low with
          | none => rw [hl] at hrg; exact ⟨none, none, false, hrg, .inl ⟨rfl, rfl⟩⟩
          | some o =>
            rw [hl] at hrg
            obtain ⟨p1, p2, h1, h2, h3⟩ := hrg
            exact ⟨p1, p2, true, h1, .inr ⟨rfl, o, rfl, h2, h3⟩⟩
        subst he
        have HOPT : Hid (low = lowF (nxO c.lo κ M t) (nxB c.le κ M t) (preO c κ t) ∧ upp = upF (nxO c.hi κ M t) (nxB c.he κ M t) (preO c κ t)) := ⟨hlow, hupp⟩
        clear hlaw hrg hlow hupp hB10 hI9 hk9 hkb9 hopen hA9 hgood y0 y1 HSV HKD
        go_wp2_with fail
        obtain ⟨w11, hw11⟩ : ∃ w11 : World, w11 = w10.alloc (Obj.cells #[Value.pointer p1, Value.pointer p2, Value.bool false, Value.int IntKind.i64 0] 27) := ⟨_, rfl⟩
        rw [← hw11]
        have hb11 : Below w10.heap.size w10 w11 := by rw [hw11]; exact (Below.refl _ _).alloc (Nat.le_refl _) _
        have hr11 : w11.rowIs w10.heap.size 27 4 (rng p1 p2) := by
          rw [hw11]
          exact World.rowIs_alloc w10 #[.pointer p1, .pointer p2, .bool false, .int .i64 0] 27 _ (fun i hi => by
            match i, hi with
            | 0, _ => rfl
            | 1, _ => rfl
            | 2, _ => rfl
            | 3, _ => rfl)
        have hI11 := hI10.below hb11
        have hk11 := hk10.below hb11
        have hkb11 : Bts w11 a6' k := hkb10.below hb11
        have hA11 : Below w.heap.size w w11 := hA10.trans (hb11.mono hA10.size)
        clear hw11 hI10 hk10 hkb10 hA10 hnil38
        go_loopg [22, 23] M (fun g s22 s23 wr => ∃ j : Nat, j ≤ M ∧ g = M - j ∧ s23 = .int .i64 j ∧ s22 = .bool (wantB c κ W k j) ∧ ∃ kd, wr = w11.drewN kd)
        case atStart => exact ⟨0, Nat.zero_le _, rfl, rfl, rfl, 0, rfl⟩
        case round =>
          obtain ⟨j, hj, rfl, rfl, rfl, kd, rfl⟩ := hrel
          by_cases hjM : j < M
          · have hkn := hκn j hjM
            obtain ⟨b0, o0, b1, o1, b2, o2, b3, o3, b4, o4, rfl, rfl, rfl, rfl, rfl, A, A', C, C', hcells⟩ := hI11.open (by omega)
            obtain ⟨q0, q1, q2, q3, _, k0, k1⟩ := hcells (κ j) hkn
            have hb0 := hI11.bl (κ j) hkn
            have hb1 := hI11.bh (κ j) hkn
            obtain ⟨b5, o5, rfl, hk5⟩ := hk11 (by omega)
            have q5 : w11.cell? ⟨b5, o5 + j, none⟩ = some (.int .i64 (κ j)) := hk5 j hjM
            -- where column j's value lies in k
            obtain ⟨x, hx⟩ : ∃ x, x = j * W := ⟨_, rfl⟩
            have hxy : x + W ≤ k.length := by
              have h1 : (j + 1) * W ≤ M * W := Nat.mul_le_mul_right W hjM
              have h2 := HKL.out
              rw [Nat.mul_comm] at h2
              rw [Nat.add_mul, Nat.one_mul] at h1
              omega
            have hkp : 0 < k.length := by omega
            obtain ⟨b6, o6, rfl, hk6⟩ := hkb11 hkp
            have hcap : c6' = k.length ∧ o6 = 0 := by
              rcases sh6 with ⟨h, _⟩ | ⟨b, h, h'⟩
              · cases h
              · cases h; exact ⟨h', rfl⟩
            obtain ⟨rfl, rfl⟩ := hcap
            have hsl : (seg k W j).length = W := by
              unfold seg
              rw [List.length_take, List.length_drop, ← hx]
              omega
            have hsb : Bts w11 (some ⟨b6, x, none⟩) (seg k W j) := fun _ => ⟨b6, x, rfl, fun y hy => by
              rw [hsl] at hy
              have h1 := hk6 (x + y) (by omega)
              rw [Nat.zero_add] at h1
              rw [h1]
              congr 1
              unfold B8 at8 seg
              congr 2
              rw [← hx]
              simp [List.getElem?_drop, hy]⟩
            have ex : (j : Int) * (W : Int) = (x : Int) := by rw [hx, Int.natCast_mul]
            obtain ⟨y, hy⟩ : ∃ y, y = x + W := ⟨_, rfl⟩
            have ey : ((j : Int) + 1) * (W : Int) = (y : Int) := by rw [Int.add_mul, Int.one_mul, ex]; omega
            have hyx : W = y - x := by omega
            have hyk : y ≤ k.length := by omega
            have hxy' : x ≤ y := by omega
            have hykz : (y : Int) ≤ (k.length : Int) := by omega
            have hxyz : (x : Int) ≤ (y : Int) := by omega
            have wx : IntKind.i64.wrap (x : Int) = (x : Int) := by rw [IntKind.wrap_i64]; omega
            have wy : IntKind.i64.wrap (y : Int) = (y : Int) := by rw [IntKind.wrap_i64]; omega
            have wj : IntKind.i64.wrap ((j : Int) + 1) = (j : Int) + 1 := by rw [IntKind.wrap_i64]; omega
            have hxc : ¬ k.length = x := by omega
            have hjz : (j : Int) < (M : Int) := by omega
            have hkz : (κ j : Int) < (i : Int) := by omega
            obtain ⟨av, hav⟩ : ∃ av, av = admB c (κ j) (seg k W j) := ⟨_, rfl⟩
            have hcall : ∀ md, Calls Try.prog 24 #[.slice (A (κ j)) (lenO (c.lo (κ j))) (C (κ j)), .slice (A' (κ j)) (lenO (c.hi (κ j))) (C' (κ j)), .bool (c.le (κ j)), .bool (c.he (κ j)), .slice (some ⟨b6, x, none⟩) (y - x) (k.length - x)] (w11.drewN (kd + md)) (fun e w' => e = .returned (.bool av) ∧ ∃ m, w' = w11.drewN (kd + m)) := fun md => by
              have h1 := admits_any (A (κ j)) (A' (κ j)) (some ⟨b6, x, none⟩) (lenO (c.lo (κ j))) (lenO (c.hi (κ j))) (C (κ j)) (C' (κ j)) (k.length - x) (c.lo (κ j)) (c.hi (κ j)) (c.le (κ j)) (c.he (κ j)) (seg k W j) (w11.drewN (kd + md)) (k0.drewN (kd + md)) (k1.drewN (kd + md)) (hsb.drewN (kd + md)) (by omega) (by omega) (by omega)
              rw [hsl] at h1
              rw [hav, ← hyx]
              refine h1.mono ?_
              rintro e w' ⟨he, m, hm⟩
              exact ⟨he, md + m, by rw [hm, World.drewN_drewN, Nat.add_assoc]⟩
            have HAV : Hid (wantB c κ W k (j + 1) = (wantB c κ W k j && av)) := by rw [hav]; rfl
            obtain ⟨wv, hwv⟩ : ∃ wv, wv = wantB c κ W k j := ⟨_, rfl⟩
            rw [← hwv] at HAV ⊢
            clear hcells k0 k1 hk5 hk6 hsb hsl hx hav hwv hI11 hk11 hkb11 hbd yk hκn hyx hy hxy
            go_wp2_with fail
            have hslc := slice_k b6 x y k.length hxy' hyk hxc
            go_quiet ((go_at_call 24; exact hcall _))
            clear hslc hcall q0 q1 q2 q3 q5 ex ey wx wy wj
            cases av
            · go_wp2_with fail
              go_roundg (M - (j + 1))
              case measure => omega
              case rel => exact ⟨j + 1, by omega, rfl, by go_num, by rw [HAV.out, Bool.and_false], _, by first | rfl | (simp only [World.drewN_drewN]; rfl)⟩
            · go_wp2_with fail
              go_roundg (M - (j + 1))
              case measure => omega
              case rel => exact ⟨j + 1, by omega, rfl, by go_num, by rw [HAV.out, Bool.and_true], _, by first | rfl | (simp only [World.drewN_drewN]; rfl)⟩
          · obtain rfl : j = M := by omega
            have t0 : w11.cell? ⟨w10.heap.size, 0, none⟩ = some (.pointer p1) := hr11.cell (i := 0) (by omega)
            have t1 : w11.cell? ⟨w10.heap.size, 1, none⟩ = some (.pointer p2) := hr11.cell (i := 1) (by omega)
            have t2 : w11.cell? ⟨w10.heap.size, 2, none⟩ = some (.bool false) := hr11.cell (i := 2) (by omega)
            have t3 : w11.cell? ⟨w10.heap.size, 3, none⟩ = some (.int .i64 0) := hr11.cell (i := 3) (by omega)
            obtain ⟨wv, hwv⟩ : ∃ wv, wv = wantB c κ W k j := ⟨_, rfl⟩
            rw [← hwv] at HLAW ⊢
            rcases hbd with ⟨rfl, hl⟩ | ⟨rfl, o, hl, hb1, hb2⟩
            · have hwf : wv = false := by rw [← HLAW.out, hl]; rfl
              subst hwf
              clear hwv hl hI11 hk11 hkb11 hκn yk HLAW
              go_wp2_with fail
              go_ret
              exact ⟨rfl, below_drewN hA11 kd⟩
            · have hb1' := (hb1.below hb11).below (below_drewN (Below.refl w11.heap.size w11) kd)
              have hb2' := (hb2.below hb11).below (below_drewN (Below.refl w11.heap.size w11) kd)
              have hpre : (getO (preO c κ t)).length ≤ 1048576 := by
                by_cases ht0 : t = 0
                · simp [preO, ht0, getO]
                · have h1 := preL_le (c := c) (κ := κ) (W := W) (t := t) (fun x hx => by
                    cases hl : c.lo (κ x) with
                    | none => simp [getO]
                    | some l => rw [getO_some, (HCO.out (κ x) (hκn x (by have := hPt.1; omega))).1 l hl]; exact Nat.le_refl _)
                  have h2 := Nat.mul_le_mul_right W hPt.1
                  have h3 := HKL.out
                  rw [Nat.mul_comm] at h3
                  simp only [preO, ht0, if_false, getO]
                  omega
              have hnl : ∀ (f : Nat → Option (List Nat)), (∀ x, x < i → lenO (f x) ≤ 1048576) → (getO (nxO f κ j t)).length ≤ 1048576 := fun f hf => by
                by_cases htj : t < j
                · simp only [nxO, if_pos htj, getO_len]; exact hf _ (hκn t htj)
                · simp [nxO, htj, getO]
              have hol : lenO o ≤ 1099511627776 := by
                have h1 := HOPT.out.1
                rw [hl] at h1
                have h2 := low_len h1.symm
                have h3 := hnl c.lo hI11.bl
                omega
              have hul : lenO upp ≤ 1099511627776 := by
                have h1 := HOPT.out.2
                rw [h1]
                have h2 := up_len (o := nxO c.hi κ j t) (op := preO c κ t) (he := nxB c.he κ j t)
                have h3 := hnl c.hi hI11.bh
                omega
              have hin := inRange_any p1 p2 a6' c6' o upp false true false 0 k (w11.drewN kd) hb1' hb2' (hkb11.drewN kd) hol hul (by omega)
              have hwt : (loB o false k && hiB upp true k) = wv := by
                have h1 := HLAW.out
                rw [hl] at h1
                exact h1
              rw [hwt] at hin
              have heqb : (wv == wv) = true := by simp
              clear hwv hl hI11 hk11 hkb11 hκn yk HLAW hnl hpre hol hul hb1' hb2' hb1 hb2 hwt
              go_wp2_with (go_at_call 13; refine hin.mono ?_; rintro e w12 ⟨rfl, hB12⟩)
              go_ret
              refine ⟨?_, (below_drewN hA11 kd).trans (hB12.mono (by have := hA11.size; simpa using this))⟩
              simp
      · have dk : ((k.length : Int) != (W : Int) * (M : Int)) = true := by
          rw [bne_iff_ne]
          intro e
          apply hkl
          have : ((W * M : Nat) : Int) = (k.length : Int) := by rw [Int.natCast_mul]; exact e.symm
          omega
        clear hkl hI1 h51 h61
        go_wp2_with fail
        go_ret
        exact ⟨rfl, hB1⟩
end Go.Proofs.Qxb6000023a
