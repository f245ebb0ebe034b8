import Derived.Test.Qxb6000043aFresh
import Derived.Test.Qxb6000043aSat
import Derived.Test.Qxb6000043aForm
import Derived.Test.Qxb6000043aSizeW
namespace Go.Proofs.Qxb6000043a
open Go.RowKit

set_option maxRecDepth 100000 in
set_option maxHeartbeats 8000000 in
theorem closed_any (a : Option Addr) (N c : Nat) (L : Nat → Nat) (Z : Nat → Nat → Int) (root lim : Int) (w : World) (h : Grid w a N L Z) (ha : a = none → N = 0) (b0 : N ≤ 9223372036854775807) (bl : ∀ i, i < N → L i ≤ 9223372036854775807)
    (bz : ∀ v, v < N → ∀ i, i < L v → -2147483648 ≤ Z v i ∧ Z v i ≤ 2147483647) (br : -2147483648 ≤ root ∧ root ≤ 2147483647) (blo : -9223372036854775808 ≤ lim ∧ lim ≤ 9223372036854775807) :
    Calls Try.prog 3 #[.slice a N c, .int .i32 root, .int .i64 lim] w (TruePost w) := by
  have hbytes := bytes_closed a N c L Z root lim w h b0 bl
  go_enter Try.func3, Try.ntmps3
  go_wp2_with fail
  refine hbytes.mono ?_
  rintro e w' ⟨r, rfl, rfl, hsz⟩
  clear hbytes
  cases r
  · go_wp2_with fail
    go_ret
    exact ⟨rfl, Below.refl _ _⟩
  obtain ⟨hN1, hL1⟩ := hsz rfl
  clear hsz bl b0
  by_cases hN : N ≤ 4096
  · have d0 : decide ((4096 : Int) < (N : Int)) = false := by simp; omega
    have hgb := graphBytes_any a N c L Z w h hN hL1
    have HL : Hid (∀ i, i < N → L i ≤ 1048576) := hL1
    have HG : Hid (Grid w a N L Z) := h
    have HZ : Hid (∀ v, v < N → ∀ i, i < L v → -2147483648 ≤ Z v i ∧ Z v i ≤ 2147483647) := bz
    clear hL1 h bz
    go_wp2_with fail
    refine hgb.mono ?_
    rintro e w' ⟨T, rfl, rfl, hT0, hT1⟩
    clear hgb
    by_cases hT : T ≤ 1048576
    · have dT : decide ((1048576 : Int) < T) = false := by simp; omega
      by_cases g1 : lim < 0
      · have d1 : decide (lim < 0) = true := by simpa using g1
        go_wp2_with fail
        go_ret
        exact ⟨rfl, Below.refl _ _⟩
      have d1 : decide (lim < 0) = false := by simpa using g1
      by_cases g3 : 9223372036854775806 < lim
      · have d3 : decide ((9223372036854775806 : Int) < lim) = true := by simpa using g3
        go_wp2_with fail
        go_ret
        exact ⟨rfl, Below.refl _ _⟩
      have d3 : decide ((9223372036854775806 : Int) < lim) = false := by simpa using g3
      obtain ⟨lim, rfl⟩ := Int.eq_ofNat_of_zero_le (by omega : 0 ≤ lim)
      have hval := valid_any a N c L Z w HG.out hN HL.out HZ.out
      go_wp2_with fail
      refine hval.mono ?_
      rintro e w1 ⟨r, rfl, hB1, hV⟩
      clear hval
      cases r
      · go_wp2_with fail
        go_ret
        exact ⟨rfl, hB1⟩
      have HV : Hid (Valid N L Z) := hV rfl
      clear hV
      by_cases g4 : root < 0
      · have d4 : decide (root < 0) = true := by simpa using g4
        go_wp2_with fail
        go_ret
        exact ⟨rfl, hB1⟩
      have d4 : decide (root < 0) = false := by simpa using g4
      obtain ⟨rt, rfl⟩ := Int.eq_ofNat_of_zero_le (by omega : 0 ≤ root)
      by_cases g5 : N ≤ rt
      · have d5 : decide ((N : Int) ≤ (rt : Int)) = true := by simpa using g5
        go_wp2_with fail
        go_ret
        exact ⟨rfl, hB1⟩
      have d5 : decide ((N : Int) ≤ (rt : Int)) = false := by simp; omega
      have hcl := cloneN_any a N c L Z w1 (by omega) ha (HG.out.below hB1) HL.out
      go_wp2_with fail
      refine hcl.mono ?_
      rintro e w2 ⟨a2, c2, rfl, hG2, hB2⟩
      clear hcl
      have hg := graph_list HV.out hN
      have hGN := grid_list hG2 HV.out
      clear hG2 HG HZ HL HV
      generalize listE L Z = E at hg hGN
      have hrv := reverse_any a2 N c2 E w2 hGN hN (fun i hi => by have := hg.len hi; omega) (fun v hv i hi => by have := (hg.hE v hv ((E v)[i]) (List.getElem_mem hi)).1; simpa [hi] using this)
      have HGN : Hid (GridN w2 a2 N E) := hGN
      have HI : Hid (IsGraph N E) := hg
      clear hGN hg
      go_wp2_with fail
      refine hrv.mono ?_
      rintro e w3 ⟨rfl, hRv⟩
      clear hrv
      have hB3 := hRv.below
      have HW : Hid (GridN w3 (some ⟨w2.heap.size, 0, none⟩) N (rvT E N)) := hRv.grid
      have HE : Hid (GridN w3 a2 N E) := Grid.below HGN.out hB3
      have hB03 : Below w.heap.size w w3 := (hB1.trans (hB2.mono hB1.size)).trans (hB3.mono (Nat.le_trans hB1.size hB2.size))
      clear hRv HGN hB3 hB2 hB1
      have hlen : ∀ i, i < N → (E i).length ≤ 1048576 := fun i hi => by have := HI.out.len hi; omega
      have hlen' : ∀ i, i < N → (rvT E N i).length ≤ 1048576 := fun i hi => by have := rv_len HI.out.nd i N (Nat.le_refl _); omega
      have hnew := new_any a2 (some ⟨w2.heap.size, 0, none⟩) N c2 N E (rvT E N) lim w3 HE.out HW.out hN hlen hlen'
      go_wp2_with fail
      refine hnew.mono ?_
      intro e w4 hnp
      clear hnew
      obtain ⟨B, rfl, hB4, hcq⟩ := clique_fresh hnp HI.out (by omega) (by omega : rt < N)
      clear hnp
      go_wp2_with fail
      refine hcq.mono ?_
      rintro e w5 ⟨rfl, hB5⟩
      clear hcq
      have hsz := size_any a2 (some ⟨w2.heap.size, 0, none⟩) N c2 N E rt w5 (Grid.below HE.out hB5) (Grid.below HW.out hB5) HI.out (by omega)
      have hk := clq_pos E (rvT E N) rt
      have hk2 : clq E (rvT E N) rt ≤ 1048578 := by
        have h1 := gr_le E (rvT E N) ((E rt).length + 1) (E rt) rt
        have h2 := HI.out.len (show rt < N by omega)
        unfold clq
        omega
      have hlaw := cliqueF_law (lim + 1) _ hk
      rw [hlaw]
      clear hlen hlen' HE HW HI hB4 hlaw
      generalize clq E (rvT E N) rt = k at hk hk2 hsz ⊢
      go_wp2_with fail
      refine hsz.mono ?_
      rintro e w6 ⟨rfl, hB6⟩
      clear hsz
      have hbel : Below w.heap.size w w6 := (hB03.trans (hB5.mono hB03.size)).trans (hB6.mono (Nat.le_trans hB03.size hB5.size))
      have hfm := form_any k lim w6 hk hk2 (by omega)
      clear hB03 hB5 hB6
      go_wp2_with fail
      refine hfm.mono ?_
      rintro e w7 ⟨rfl, rfl⟩
      clear hfm
      go_wp2_with fail
      go_ret
      exact ⟨by simp, hbel⟩
    · have dT : decide ((1048576 : Int) < T) = true := by simp; omega
      go_wp2_with fail
      go_ret
      exact ⟨rfl, Below.refl _ _⟩
  · have d0 : decide ((4096 : Int) < (N : Int)) = true := by simp; omega
    clear hL1 h bz
    go_wp2_with fail
    go_ret
    exact ⟨rfl, Below.refl _ _⟩
end Go.Proofs.Qxb6000043a
