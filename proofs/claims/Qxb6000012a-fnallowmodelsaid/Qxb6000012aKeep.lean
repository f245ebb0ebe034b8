import Derived.Test.Qxb6000012aClone
import Derived.Test.Qxb6000012aFits
import Derived.Test.Qxb6000012aShape
import Derived.Test.Qxb6000012aZZallow
import Derived.Test.Qxb6000012aKeepP
namespace Go.Proofs.Qxb6000012a
open Go.RowKit

def TruePost (w : World) (e : Ending) (w' : World) : Prop := e = .returned (.bool true) ∧ Below w.heap.size w w'

theorem below_drewN {B : Nat} {a w : World} (h : Below B a w) (k : Nat) : Below B a (w.drewN k) := ⟨h.os, h.tape, h.output, h.size, h.block⟩

theorem make_bools (n : Nat) (h : n ≤ 4096) (w : World) :
    (Instr.makeSlice 43 (.int .i64 (n : Int)) (.int .i64 (n : Int))).run Try.prog w = .ok (.slice (some ⟨w.heap.size, 0, none⟩) n n) (w.alloc (.cells (madeCells #[.bool false] n) 4)) :=
  run_make_row' 43 4 (.bool false) 1 Try.underlying43 Try.info4 rfl .i64 .i64 n (by omega) (by omega) w

theorem bne_of {a b : BitVec 32} (h : a = b) : (n32 a != n32 b) = false := by subst h; simp
theorem bne0_of {a : BitVec 32} (h : a = 0) : (n32 a != 0) = false := by subst h; decide

set_option maxRecDepth 100000 in
set_option maxHeartbeats 4000000 in
theorem keep_core (b0 o0 b1 o1 b2 o2 n c0 c1 c2 k : Nat) (lv : Nat → Int) (s : St) (m : BitVec 32) (w : World)
    (r0 : ∀ i, i < n → w.cell? ⟨b0, o0 + i, none⟩ = some (.int .i64 (lv i)))
    (r1 : ∀ i, i < n → w.cell? ⟨b1, o1 + i, none⟩ = some (V32 (s i).1))
    (r2 : ∀ i, i < n → w.cell? ⟨b2, o2 + i, none⟩ = some (V32 (s i).2))
    (hn : n ≤ 4096) (hk : k < n) :
    Calls Try.prog 6 #[.slice (some ⟨b0, o0, none⟩) n c0, .slice (some ⟨b1, o1, none⟩) n c1, .slice (some ⟨b2, o2, none⟩) n c2, .int .i64 k, V32 m] w (TruePost w) := by
  have lt0 := lt_of_cell (r0 k hk)
  have lt1 := lt_of_cell (r1 k hk)
  have lt2 := lt_of_cell (r2 k hk)
  have hn4 : decide ((4096 : Int) < (n : Int)) = false := by simp; omega
  go_enter Try.func6, Try.ntmps6
  go_wp2_with fail
  refine (bytes19_any _ _ _ n n n c0 c1 c2 k (n32 m) w (by omega) (by omega) (by omega)).mono ?_
  rintro e w' ⟨r, rfl, rfl⟩
  cases r
  · go_wp2_with fail
    go_ret
    exact ⟨rfl, Below.refl _ _⟩
  go_wp2_with fail
  refine (fits_any _ _ _ n n n c0 c1 c2 lv s k w (fun _ => ⟨b0, o0, rfl, r0⟩) (fun _ => ⟨b1, o1, rfl, r1⟩) (fun _ => ⟨b2, o2, rfl, r2⟩) hn hn hn (by omega) (by omega)).mono ?_
  rintro e w' ⟨r, rfl, ⟨nq, rfl⟩, hF⟩
  cases r
  · go_wp2_with fail
    go_ret
    exact ⟨rfl, below_drewN (Below.refl _ _) _⟩
  have HF : Hid (Fits lv s n n n k) := hF rfl
  clear hF
  go_wp2_with fail
  refine (cloneI_any b0 o0 n c0 lv (w.drewN nq) hn r0 lt0).mono ?_
  rintro e w1 ⟨rfl, hB1, hs1, hR1⟩
  simp only [World.heap_drewN] at hB1 hs1 hR1
  have hA1 : Below w.heap.size w w1 := (below_drewN (Below.refl _ _) nq).trans hB1
  clear hB1
  go_wp2_with fail
  refine (cloneU_any b1 o1 n c1 (fun i => (s i).1) w1 hn (fun i hi => Below.at hA1 lt1 (r1 i hi)) (by omega)).mono ?_
  rintro e w2 ⟨rfl, hB2, hs2, hR2⟩
  rw [hs1] at hB2 hs2 hR2
  replace hs2 : w2.heap.size = w.heap.size + 2 := hs2
  have hA2 : Below w.heap.size w w2 := hA1.trans (hB2.mono (by omega))
  have hR1' := Below.row hB2 (by omega) hR1
  rw [hs1]
  clear hB2 hA1 hR1
  go_wp2_with fail
  refine (cloneU_any b2 o2 n c2 (fun i => (s i).2) w2 hn (fun i hi => Below.at hA2 lt2 (r2 i hi)) (by omega)).mono ?_
  rintro e w3 ⟨rfl, hB3, hs3, hR3⟩
  rw [hs2] at hB3 hs3 hR3
  replace hs3 : w3.heap.size = w.heap.size + 3 := hs3
  have hA3 : Below w.heap.size w w3 := hA2.trans (hB3.mono (by omega))
  have hR1 := Below.row hB3 (by omega) hR1'
  have hR2' := Below.row hB3 (by omega) hR2
  rw [hs2]
  clear hB3 hA2 hR1' hR2 hs1 hs2
  go_wp2_with fail
  refine (shape_any w.heap.size n lv w3 hn (fun i hi => hR1.cell hi) (by omega)).mono ?_
  rintro e w4 ⟨P, E, rfl, hB4, hP, hE, hPar, hEnd⟩
  have hz4 := hB4.size
  rw [hs3] at hB4 hP hE hz4
  replace hE : w4.rowIs (w.heap.size + 4) 3 n (fun i => intC (E i)) := hE
  have hA4 : Below w.heap.size w w4 := hA3.trans (hB4.mono (by omega))
  have hD := Below.row hB4 (by omega) hR2'
  have hG := Below.row hB4 (by omega) hR3
  rw [hs3, show w.heap.size + 3 + 1 = w.heap.size + 4 from rfl]
  clear hB4 hA3 hR2' hR3 hR1 hs3
  have hPb : ∀ i, i < n → -1 ≤ P i ∧ P i < i := fun i hi => (hPar i hi).bd
  have hEb : ∀ i, i < n → i < E i ∧ E i ≤ n := fun i hi => ⟨(hEnd i hi).1, (hEnd i hi).2.1⟩
  clear hPar hEnd
  go_wp2_with fail
  refine (zzallow_any (w.heap.size + 3) (w.heap.size + 4) (w.heap.size + 1) (w.heap.size + 2) n k P E s m w4 hn hk (fun i hi => hP.cell hi) (fun i hi => hE.cell hi) (fun i hi => hD.cell hi) (fun i hi => hG.cell hi) hPb hEb).mono ?_
  rintro e w5 ⟨bd, bg, rfl, hB5, hd, hg, hbd, hbg⟩
  have hz5 := hB5.size
  have hA5 : Below w.heap.size w w5 := hA4.trans (hB5.mono (by omega))
  have hP5 := Below.row hB5 hP.lt hP
  have hE5 := Below.row hB5 hE.lt hE
  have hD5 := Below.row hB5 hD.lt hD
  have hG5 := Below.row hB5 hG.lt hG
  clear hP hE hD hG hB5 hA4
  have hmk := make_bools n hn
  have hPk := fun o => (hP5.alloc o).cell hk
  have hne : ((n : Int) != (n : Int)) = false := by simp
  go_wp2_with fail
  clear hmk hne hPk hn4
  have hA6 : Below w5.heap.size w5 (w5.alloc (Obj.cells (madeCells #[Value.bool false] n) 4)) := (Below.refl _ _).alloc (Nat.le_refl _) _
  have hR6 := World.rowIs_made w5 (.bool false) n 4
  have hPk := hPb k hk
  have lP5 := hP5.lt
  go_loopg [17] (P k + 1).toNat (fun g p wx => ∃ (q : Int) (f : Nat) (A : Nat → Bool), -1 ≤ q ∧ q < n ∧ p = .int .i64 q ∧ g = (q + 1).toNat ∧ g ≤ f ∧ Below w5.heap.size w5 wx ∧ wx.rowIs w5.heap.size 4 n (fun i => .bool (A i)) ∧ ∀ i, inCh P n (P k) i → A i = true ∨ inCh P f q i)
  case atStart => exact ⟨P k, n, fun _ => false, by omega, by omega, rfl, rfl, by omega, hA6, hR6, fun i h => .inr h⟩
  case round =>
    obtain ⟨q, f, A, hq1, hq2, rfl, rfl, hf, hA, hR, hC⟩ := hrel
    clear hA6 hR6 hPk
    by_cases hq0 : 0 ≤ q
    · obtain ⟨p, rfl⟩ := Int.eq_ofNat_of_zero_le hq0
      have hpn : p < n := by omega
      have hPp := hPb p hpn
      have q1 : ∀ v, (wr.setCell ⟨w5.heap.size, p, none⟩ v).cell? ⟨w.heap.size + 3, p, none⟩ = some (.int .i64 (P p)) := fun v => ((Below.row hA hP5.lt hP5).setOther (by simp; omega) v).cell hpn
      have q2 := hR.cell hpn
      have q3 := hR.frozen p
      have HC : Hid (∀ i, inCh P n (P k) i → A i = true ∨ inCh P f p i) := hC
      clear hC
      go_wp2_with fail
      go_roundg (P p + 1).toNat
      case measure => omega
      case rel =>
        refine ⟨P p, f - 1, fun j => if j = p then true else A j, by omega, by omega, rfl, rfl, by omega, hA.setCell (by simp) _, (hR.set p _).congr (fun j _ => by by_cases e : j = p <;> simp [e]), fun i hi => ?_⟩
        obtain ⟨f', rfl⟩ : ∃ f', f = f' + 1 := ⟨f - 1, by omega⟩
        by_cases e : i = p
        · left; simp [e]
        · rcases HC.out i hi with h | ⟨_, h | h⟩
          · left; simp [e, h]
          · exact absurd (by simpa using h) e
          · right; simpa using h
    · have hC' : ∀ i, A i = false → ¬ inCh P n (P k) i := fun i hi hc => by
        rcases hC i hc with h | h
        · rw [hi] at h; exact Bool.noConfusion h
        · cases f with
          | zero => exact h
          | succ f' => exact hq0 h.1
      clear hC
      have hd6 := Below.row hA hd.lt hd
      have hg6 := Below.row hA hg.lt hg
      have hD6 := Below.row hA hD5.lt hD5
      have hG6 := Below.row hA hG5.lt hG5
      have hE6 := (Below.row hA hE5.lt hE5).cell hk
      have hA7 : Below w.heap.size w wr := hA5.trans (hA.mono (by omega))
      go_wp2_with fail
      clear hd hg hD5 hG5 hE5 hP5 hA5 hA
      obtain ⟨wx, hwx⟩ : ∃ wx : World, wx = wr := ⟨_, rfl⟩
      rw [← hwx] at hd6 hg6 hD6 hG6 hE6 hA7 hR ⊢
      clear hwx
      go_loopg [18] n (fun g s18 wy => ∃ i : Nat, i ≤ n ∧ g = n - i ∧ s18 = .int .i64 i ∧ ∃ kd, wy = wx.drewN kd)
      case atStart => exact ⟨0, Nat.zero_le _, rfl, rfl, 0, rfl⟩
      case round =>
        obtain ⟨i, hi, rfl, rfl, kd, rfl⟩ := hrel
        by_cases hlt : i < n
        · have hK := keep_all P E n s k m i (HF.out.sub i hlt)
          have hsub := keep_sub P E n s k m i
          have hout := keep_out P E n s k m i
          have t1 := hd6.cell hlt
          have t2 := hg6.cell hlt
          have t3 := hD6.cell hlt
          have t4 := hG6.cell hlt
          have t5 := hR.cell hlt
          have hCi := hC' i
          clear hd6 hg6 hD6 hG6 hR hC' HF
          generalize allowF P E n s k m i = F at *
          obtain ⟨D', G'⟩ := F
          generalize s i = S at *
          obtain ⟨D, G⟩ := S
          obtain ⟨z1, z2, z3, z4⟩ := hK
          simp only at z1 z2 z3 z4 hsub hout t1 t2 t3 t4 t5
          replace z1 := bne0_of z1
          replace z2 := bne0_of z2
          replace z3 := bne_of z3
          replace z4 := bne0_of z4
          have hb1 := bnot
          have hb2 := band
          have hltz : (i : Int) < (n : Int) := by omega
          have HH : Hid ((k ≤ i → i < E k → D' &&& m = m) ∧ (¬(k ≤ i ∧ i < E k) → ¬inCh P n (P k) i → (D', G') = (D, G)) ∧ (A i = false → ¬inCh P n (P k) i)) := ⟨hsub, hout, hCi⟩
          clear hsub hout hCi
          go_wp2_with fail
          go_quiet (fail)
          go_wp2_with fail
          go_quiet (fail)
          go_wp2_with fail
          go_quiet (fail)
          go_wp2_with fail
          go_quiet (fail)
          by_cases hk1 : k ≤ i
          · have hk1' : decide ((k : Int) ≤ (i : Int)) = true := by simp; omega
            by_cases hk2 : i < E k
            · have hk2' : decide ((i : Int) < (E k : Int)) = true := by simp; omega
              have z5 := bne_of (HH.out.1 hk1 hk2)
              go_wp2_with fail
              go_quiet (fail)
              go_wp2_with fail
              go_roundg (n - (i + 1))
              case measure => omega
              case rel => exact ⟨i + 1, by omega, rfl, by go_num, _, by first | rfl | (simp only [World.drewN_drewN]; rfl)⟩
            · have hk2' : decide ((i : Int) < (E k : Int)) = false := by simp; omega
              cases hAi : A i
              · have heq := HH.out.2.1 (fun h => hk2 h.2) (HH.out.2.2 hAi)
                have e1 : (n32 D' != n32 D) = false := bne_of (congrArg Prod.fst heq)
                have e2 : (n32 G' != n32 G) = false := bne_of (congrArg Prod.snd heq)
                clear heq
                rw [hAi] at t5
                clear hAi
                go_wp2_with fail
                go_quiet (fail)
                go_wp2_with fail
                go_roundg (n - (i + 1))
                case measure => omega
                case rel => exact ⟨i + 1, by omega, rfl, by go_num, _, by first | rfl | (simp only [World.drewN_drewN]; rfl)⟩
              · rw [hAi] at t5
                clear hAi
                go_wp2_with fail
                go_quiet (fail)
                go_wp2_with fail
                go_roundg (n - (i + 1))
                case measure => omega
                case rel => exact ⟨i + 1, by omega, rfl, by go_num, _, by first | rfl | (simp only [World.drewN_drewN]; rfl)⟩
          · have hk1' : decide ((k : Int) ≤ (i : Int)) = false := by simp; omega
            cases hAi : A i
            · have heq := HH.out.2.1 (fun h => hk1 h.1) (HH.out.2.2 hAi)
              have e1 : (n32 D' != n32 D) = false := bne_of (congrArg Prod.fst heq)
              have e2 : (n32 G' != n32 G) = false := bne_of (congrArg Prod.snd heq)
              clear heq
              rw [hAi] at t5
              clear hAi
              go_wp2_with fail
              go_quiet (fail)
              go_wp2_with fail
              go_roundg (n - (i + 1))
              case measure => omega
              case rel => exact ⟨i + 1, by omega, rfl, by go_num, _, by first | rfl | (simp only [World.drewN_drewN]; rfl)⟩
            · rw [hAi] at t5
              clear hAi
              go_wp2_with fail
              go_quiet (fail)
              go_wp2_with fail
              go_roundg (n - (i + 1))
              case measure => omega
              case rel => exact ⟨i + 1, by omega, rfl, by go_num, _, by first | rfl | (simp only [World.drewN_drewN]; rfl)⟩
        · obtain rfl : i = n := by omega
          go_wp2_with fail
          go_ret
          exact ⟨rfl, below_drewN hA7 _⟩
end Go.Proofs.Qxb6000012a
