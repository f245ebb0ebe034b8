import Derived.Test.Qxb6000043aFresh
import Derived.Test.Qxb6000043aSizes
import Derived.Test.Qxb6000043aClone
namespace Go.Proofs.Qxb6000043a
open Go.RowKit

def TruePost (w : World) (e : Ending) (w' : World) : Prop := e = .returned (.bool true) ∧ Below w.heap.size w w'

set_option maxRecDepth 100000 in
set_option maxHeartbeats 8000000 in
theorem sat_any (a : Option Addr) (N c : Nat) (L : Nat → Nat) (Z : Nat → Nat → Int) (root lo hi : Int) (w : World) (h : Grid w a N L Z) (ha : a = none → N = 0) (b0 : N ≤ 9223372036854775807) (bl : ∀ i, i < N → L i ≤ 9223372036854775807)
    (bz : ∀ v, v < N → ∀ i, i < L v → -2147483648 ≤ Z v i ∧ Z v i ≤ 2147483647) (br : -2147483648 ≤ root ∧ root ≤ 2147483647) (blo : -9223372036854775808 ≤ lo ∧ lo ≤ 9223372036854775807) (bhi : -9223372036854775808 ≤ hi ∧ hi ≤ 9223372036854775807) :
    Calls Try.prog 4 #[.slice a N c, .int .i32 root, .int .i64 lo, .int .i64 hi] w (TruePost w) := by
  have hbytes := bytes_sat a N c L Z root lo hi w h b0 bl
  go_enter Try.func4, Try.ntmps4
  go_wp2_with fail
  refine hbytes.mono ?_
  rintro e w' ⟨r, rfl, rfl, hsz⟩
  clear hbytes
  cases r
  · go_wp2_with fail
    go_ret
    exact ⟨rfl, Below.refl _ _⟩
  obtain ⟨hN1, hL1⟩ := hsz rfl
  clear hsz bl b0
  by_cases hN : N ≤ 4096
  · have d0 : decide ((4096 : Int) < (N : Int)) = false := by simp; omega
    have hgb := graphBytes_any a N c L Z w h hN hL1
    have HL : Hid (∀ i, i < N → L i ≤ 1048576) := hL1
    have HG : Hid (Grid w a N L Z) := h
    have HZ : Hid (∀ v, v < N → ∀ i, i < L v → -2147483648 ≤ Z v i ∧ Z v i ≤ 2147483647) := bz
    clear hL1 h bz
    go_wp2_with fail
    refine hgb.mono ?_
    rintro e w' ⟨T, rfl, rfl, hT0, hT1⟩
    clear hgb
    by_cases hT : T ≤ 1048576
    · have dT : decide ((1048576 : Int) < T) = false := by simp; omega
      by_cases g1 : lo < 0
      · have d1 : decide (lo < 0) = true := by simpa using g1
        go_wp2_with fail
        go_ret
        exact ⟨rfl, Below.refl _ _⟩
      have d1 : decide (lo < 0) = false := by simpa using g1
      by_cases g2 : hi < lo
      · have d2 : decide (hi < lo) = true := by simpa using g2
        go_wp2_with fail
        go_ret
        exact ⟨rfl, Below.refl _ _⟩
      have d2 : decide (hi < lo) = false := by simpa using g2
      by_cases g3 : 9223372036854775806 < hi
      · have d3 : decide ((9223372036854775806 : Int) < hi) = true := by simpa using g3
        go_wp2_with fail
        go_ret
        exact ⟨rfl, Below.refl _ _⟩
      have d3 : decide ((9223372036854775806 : Int) < hi) = false := by simpa using g3
      obtain ⟨lo, rfl⟩ := Int.eq_ofNat_of_zero_le (by omega : 0 ≤ lo)
      obtain ⟨hi, rfl⟩ := Int.eq_ofNat_of_zero_le (by omega : 0 ≤ hi)
      have hval := valid_any a N c L Z w HG.out hN HL.out HZ.out
      go_wp2_with fail
      refine hval.mono ?_
      rintro e w1 ⟨r, rfl, hB1, hV⟩
      clear hval
      cases r
      · go_wp2_with fail
        go_ret
        exact ⟨rfl, hB1⟩
      have HV : Hid (Valid N L Z) := hV rfl
      clear hV
      by_cases g4 : root < 0
      · have d4 : decide (root < 0) = true := by simpa using g4
        go_wp2_with fail
        go_ret
        exact ⟨rfl, hB1⟩
      have d4 : decide (root < 0) = false := by simpa using g4
      obtain ⟨rt, rfl⟩ := Int.eq_ofNat_of_zero_le (by omega : 0 ≤ root)
      by_cases g5 : N ≤ rt
      · have d5 : decide ((N : Int) ≤ (rt : Int)) = true := by simpa using g5
        go_wp2_with fail
        go_ret
        exact ⟨rfl, hB1⟩
      have d5 : decide ((N : Int) ≤ (rt : Int)) = false := by simp; omega
      have hcl := cloneN_any a N c L Z w1 (by omega) ha (HG.out.below hB1) HL.out
      go_wp2_with fail
      refine hcl.mono ?_
      rintro e w2 ⟨a2, c2, rfl, hG2, hB2⟩
      clear hcl
      have hg := graph_list HV.out hN
      have hGN := grid_list hG2 HV.out
      clear hG2 HG HZ HL HV
      generalize listE L Z = E at hg hGN
      have hrv := reverse_any a2 N c2 E w2 hGN hN (fun i hi => by have := hg.len hi; omega) (fun v hv i hi => by have := (hg.hE v hv ((E v)[i]) (List.getElem_mem hi)).1; simpa [hi] using this)
      have HGN : Hid (GridN w2 a2 N E) := hGN
      have HI : Hid (IsGraph N E) := hg
      clear hGN hg
      go_wp2_with fail
      refine hrv.mono ?_
      rintro e w3 ⟨rfl, hRv⟩
      clear hrv
      have hB3 := hRv.below
      have HW : Hid (GridN w3 (some ⟨w2.heap.size, 0, none⟩) N (rvT E N)) := hRv.grid
      have HE : Hid (GridN w3 a2 N E) := Grid.below HGN.out hB3
      have hB03 : Below w.heap.size w w3 := (hB1.trans (hB2.mono hB1.size)).trans (hB3.mono (Nat.le_trans hB1.size hB2.size))
      clear hRv HGN hB3 hB2 hB1
      have hlen : ∀ i, i < N → (E i).length ≤ 1048576 := fun i hi => by have := HI.out.len hi; omega
      have hlen' : ∀ i, i < N → (rvT E N i).length ≤ 1048576 := fun i hi => by have := rv_len HI.out.nd i N (Nat.le_refl _); omega
      have hnew := new_any a2 (some ⟨w2.heap.size, 0, none⟩) N c2 N E (rvT E N) lo w3 HE.out HW.out hN hlen hlen'
      go_wp2_with fail
      refine hnew.mono ?_
      intro e w4 hnp
      clear hnew
      obtain ⟨B, rfl, hB4, hcq⟩ := clique_fresh hnp HI.out (by omega) (by omega : rt < N)
      clear hnp
      go_wp2_with fail
      refine hcq.mono ?_
      rintro e w5 ⟨rfl, hB5⟩
      clear hcq
      have hnew := new_any a2 (some ⟨w2.heap.size, 0, none⟩) N c2 N E (rvT E N) hi w5 (Grid.below HE.out hB5) (Grid.below HW.out hB5) hN hlen hlen'
      clear hlen hlen'
      go_wp2_with fail
      refine hnew.mono ?_
      intro e w6 hnp
      clear hnew
      obtain ⟨B', rfl, hB6, hcq⟩ := clique_fresh hnp HI.out (by omega) (by omega : rt < N)
      clear hnp
      go_wp2_with fail
      refine hcq.mono ?_
      rintro e w7 ⟨rfl, hB7⟩
      clear hcq
      have hbel : Below w.heap.size w w7 := (hB03.trans (hB5.mono hB03.size)).trans (hB7.mono (Nat.le_trans hB03.size hB5.size))
      have hk := clq_pos E (rvT E N) rt
      have hsat := sat_law (lo := lo) (hi := hi) (by omega) hk
      have hle1 := cliqueF_le (lo + 1) _ hk
      have hle2 := cliqueF_le (hi + 1) _ hk
      clear HW HE HI hB03 hB4 hB5 hB6 hB7
      generalize cliqueF (lo + 1) (clq E (rvT E N) rt) = x at hsat hle1 ⊢
      generalize cliqueF (hi + 1) (clq E (rvT E N) rt) = y at hsat hle2 ⊢
      have e1 : decide ((x : Int) < 0) = false := by simp
      have e2 : decide ((y : Int) < 0) = false := by simp
      have e3 : decide ((lo : Int) + 1 < (x : Int)) = false := by simp; omega
      have e4 : decide ((hi : Int) + 1 < (y : Int)) = false := by simp; omega
      by_cases hc : lo + 1 < y
      · rw [capN_hi hc] at hsat
        have e5 : (lo : Int) + 1 < (y : Int) := by omega
        have e6 : ((x : Int) == (lo : Int) + 1) = true := by simp; omega
        clear hsat
        go_wp2_with fail
        go_ret
        exact ⟨by simp, hbel⟩
      · rw [capN_lo (by omega)] at hsat
        have e5 : (y : Int) ≤ (lo : Int) + 1 := by omega
        have e6 : ((x : Int) == (y : Int)) = true := by simp; omega
        clear hsat
        go_wp2_with fail
        go_ret
        exact ⟨by simp, hbel⟩
    · have dT : decide ((1048576 : Int) < T) = true := by simp; omega
      go_wp2_with fail
      go_ret
      exact ⟨rfl, Below.refl _ _⟩
  · have d0 : decide ((4096 : Int) < (N : Int)) = true := by simp; omega
    clear hL1 h bz
    go_wp2_with fail
    go_ret
    exact ⟨rfl, Below.refl _ _⟩
end Go.Proofs.Qxb6000043a
