import Derived.Test.Qxb6000023aServe
namespace Go.Proofs.Qxb6000023a
open Go.RowKit

set_option maxRecDepth 100000 in
set_option maxHeartbeats 4000000 in
/-- serve with a key that is nil: no column is narrowed. -/
theorem serve_nil (bs n cs : Nat) (c : Cols) (κ : Nat → Nat) (w : World) (hS : SpIn w bs n c) (hn : n ≤ 4096) (hnr : ∀ i, i < n → c.nr i = false) :
    Calls Try.prog 27 #[.slice (some ⟨bs, 0, none⟩) n cs, .slice none 0 0] w (ServePost c κ 0 w) := by
  have hnil38 := fun (w : World) (n c : Nat) => run_neq_slice_nil_any (P := Try.prog) w 38 3 none n c 0 0 Try.underlying38
  go_enter Try.func27, Try.ntmps27
  go_wp2_with fail
  obtain ⟨w0, hw0⟩ : ∃ w0 : World, w0 = w.alloc (.cells #[.pointer none, .pointer none, .bool false, .int .i64 0] 27) := ⟨_, rfl⟩
  rw [← hw0]
  have hb0 : Below w.heap.size w w0 := by rw [hw0]; exact (Below.refl _ _).alloc (Nat.le_refl _) _
  have hS0 := hS.below hb0
  have hrow0 : w0.rowIs w.heap.size 27 4 (rng none none) := by
    rw [hw0]
    exact World.rowIs_alloc w #[.pointer none, .pointer none, .bool false, .int .i64 0] 27 _ (fun i hi => by
      match i, hi with
      | 0, _ => rfl
      | 1, _ => rfl
      | 2, _ => rfl
      | 3, _ => rfl)
  clear hS hw0
  refine wp_loop_rounds 1 ?_
  rw [rounds_succ]
  go_wp2_with fail
  go_loopg [9, 43] n (fun g s9 s43 wr => ∃ i : Nat, i ≤ n ∧ g = n - i ∧ s43 = .int .i64 i ∧ s9 = .slice none 0 0 ∧ Below w0.heap.size w0 wr)
  case atStart => exact ⟨0, Nat.zero_le _, rfl, rfl, rfl, Below.refl _ _⟩
  case round =>
    obtain ⟨i, hi, rfl, rfl, rfl, hB⟩ := hrel
    by_cases hin : i < n
    · obtain ⟨A, A', C, C', hc⟩ := hS0.below hB
      obtain ⟨q0, q1, q2, q3, q4, k0, k1⟩ := hc i hin
      rw [hnr i hin] at q4
      have hinz : (i : Int) < (n : Int) := by omega
      clear hc k0 k1 hS0 hnr
      go_wp2_with fail
      go_roundg (n - (i + 1))
      case measure => omega
      case rel => exact ⟨i + 1, by omega, rfl, by go_num, rfl, hB.alloc hB.size _⟩
    · obtain rfl : i = n := by omega
      have hBx := hB
      have hrow := Below.row hB hrow0.lt hrow0
      have hbw : Below w.heap.size w wr := hb0.trans (hB.mono hb0.size)
      clear hS0 hnr hB hrow0 hb0
      go_wp2_with fail
      refine wp_loop_rounds 1 ?_
      rw [rounds_succ]
      have hal := fun X => (Below.refl wr.heap.size wr).alloc (Nat.le_refl _) X
      have hkeys := fun X => keys_any none none none 0 0 0 0 0 0 none none (preO c κ 0) false false false (wr.alloc X) ⟨rfl, rfl⟩ ⟨rfl, rfl⟩ ⟨rfl, rfl⟩
        (by omega) (by omega) (by omega) (fun h => Bool.noConfusion h) (fun h => Bool.noConfusion h) (fun h => Bool.noConfusion h) (at8_lt (fun x hx => by cases hx)) (at8_lt (fun x hx => by cases hx))
      clear hal hnil38
      go_wp2_with fail
      have NX1 : nxO c.lo κ 0 0 = none := by simp [nxO]
      have NX2 : nxB c.le κ 0 0 = false := by simp [nxB]
      have NX3 : nxO c.hi κ 0 0 = none := by simp [nxO]
      have NX4 : nxB c.he κ 0 0 = false := by simp [nxB]
      refine (hkeys _).mono ?_
      rintro e w6 ⟨hB6, hkp⟩
      clear hkeys
      have hrow6 : w6.rowIs w.heap.size 27 4 (rng none none) := Below.row hB6 (by have := hrow.lt; simp; omega) (hrow.alloc _)
      have hB7 : Below w.heap.size w w6 := (hbw.alloc hbw.size _).trans (hB6.mono (by have := hbw.size; simp; omega))
      have hrl := hrow6.lt
      have t0 : w6.cell? ⟨w.heap.size, 0, none⟩ = some (.pointer none) := hrow6.cell (i := 0) (by omega)
      have t1 : w6.cell? ⟨w.heap.size, 1, none⟩ = some (.pointer none) := hrow6.cell (i := 1) (by omega)
      have t2 : w6.cell? ⟨w.heap.size, 2, none⟩ = some (.bool false) := hrow6.cell (i := 2) (by omega)
      have t3 : w6.cell? ⟨w.heap.size, 3, none⟩ = some (.int .i64 0) := hrow6.cell (i := 3) (by omega)
      have tf0 := hrow6.frozen 0
      have tf1 := hrow6.frozen 1
      have tf2 := hrow6.frozen 2
      have tf3 := hrow6.frozen 3
      clear hB6 hrow hbw hBx
      cases hlo : lowF (none) (false) (preO c κ 0) with
      | none =>
        rw [hlo] at hkp
        obtain rfl := hkp
        have HLO : Hid (lowF (none) (false) (preO c κ 0) = none) := hlo
        clear hlo
        go_wp2_with fail
        refine bodyPost_ret (v := .tuple #[.agg #[.pointer none, .pointer none, .bool false, .int .i64 0], .bool false, .slice none 0 0]) (by simp [results, Try.results27, go_sem, t0, t1, t2, t3, hrl]) rfl ?_
        refine ⟨0, ⟨Nat.le_refl _, fun j hj => absurd hj (Nat.not_lt_zero _), fun h => absurd h (Nat.lt_irrefl _)⟩, ((((hB7.setCell (by simp) _).setCell (by simp) _).setCell (by simp) _).setCell (by simp) _).alloc (by have := hB7.size; simp; omega) _, ?_⟩
        rw [NX1, NX2, NX3, NX4, HLO.out]
      | some o =>
        rw [hlo] at hkp
        obtain ⟨p1, p2, rfl, hb1, hb2⟩ := hkp
        have HLO : Hid (lowF (none) (false) (preO c κ 0) = some o) := hlo
        clear hlo
        go_wp2_with fail
        refine bodyPost_ret (v := .tuple #[.agg #[.pointer p1, .pointer p2, .bool false, .int .i64 0], .bool true, .slice none 0 0]) (by simp [results, Try.results27, go_sem, t0, t1, t2, t3, hrl]) rfl ?_
        refine ⟨0, ⟨Nat.le_refl _, fun j hj => absurd hj (Nat.not_lt_zero _), fun h => absurd h (Nat.lt_irrefl _)⟩, ((((hB7.setCell (by simp) _).setCell (by simp) _).setCell (by simp) _).setCell (by simp) _).alloc (by have := hB7.size; simp; omega) _, ?_⟩
        rw [NX1, NX2, NX3, NX4, HLO.out]
        have hgr := grownBy_set (grownBy_set (grownBy_set (grownBy_set (World.grownBy.refl w6 (some w.heap.size)) 0 (.pointer p1)) 1 (.pointer p2)) 2 (.bool false)) 3 (.int .i64 0)
        exact ⟨p1, p2, rfl, (hb1.grown hrow6 (rng_plain _ _ _) hgr).below ((Below.refl _ _).alloc (Nat.le_refl _) _), (hb2.grown hrow6 (rng_plain _ _ _) hgr).below ((Below.refl _ _).alloc (Nat.le_refl _) _)⟩
end Go.Proofs.Qxb6000023a
