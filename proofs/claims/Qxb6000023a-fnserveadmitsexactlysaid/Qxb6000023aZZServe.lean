import Derived.Test.Qxb6000023aServeNil
namespace Go.Proofs.Qxb6000023a
open Go.RowKit

/-- 'make' of elements of several cells. -/
theorem run_make_wide {P : Program} (t e : TypeId) (z : Array Value) (size bytes : Nat) (ht : P.underlying t = some (.slice e))
    (hinfo : (P.info? e).map (fun i => (i.zero.map Value.cells, i.size, i.bytes)) = some (some z, size, bytes))
    (n : Nat) (hbytes : bytes * n ≤ 281474976710656) (h63 : n ≤ 9223372036854775807) (w : World) :
    (Instr.makeSlice t (.int .i64 (n : Int)) (.int .i64 (n : Int))).run P w = .ok (.slice (some ⟨w.heap.size, 0, none⟩) n n) (w.alloc (.cells (madeCells z (n * size)) e)) := by
  obtain ⟨i, hi, hzz⟩ := Option.map_eq_some_iff.1 hinfo
  simp only [Prod.mk.injEq] at hzz
  obtain ⟨hz, hs, hb⟩ := hzz
  obtain ⟨zv, hz1, hz2⟩ := Option.map_eq_some_iff.1 hz
  subst hs hb
  have hb' : (i.bytes : Int) * (n : Int) ≤ 281474976710656 := by
    have h : ((i.bytes * n : Nat) : Int) ≤ 281474976710656 := by omega
    rwa [Int.natCast_mul] at h
  have hr := run_make (P := P) w t e i zv ht hi hz1 .i64 .i64 n n (by omega) (Int.le_refl _) hb' (by omega)
  simp only [Int.toNat_natCast, hz2] at hr
  exact hr

def z50 : Array Value := #[.slice none 0 0, .slice none 0 0, .bool false, .bool false, .bool false]
theorem Try.info50 : (Try.prog.info? 50).map (fun i => (i.zero.map Value.cells, i.size, i.bytes)) = some (some z50, 5, 56) := by kernel_rfl
def cells50 (n : Nat) : Array Value := madeCells z50 (n * 5)
theorem size50 (n : Nat) : (cells50 n).size = n * 5 := size_madeCells _ _
theorem make55 (n : Nat) (h : n ≤ 4096) (w : World) :
    (Instr.makeSlice 55 (.int .i64 (n : Int)) (.int .i64 (n : Int))).run Try.prog w = .ok (.slice (some ⟨w.heap.size, 0, none⟩) n n) (w.alloc (.cells (cells50 n) 50)) :=
  run_make_wide 55 50 z50 5 56 Try.underlying55 Try.info50 n (by omega) (by omega) w

/-- The spans, t of them filled. -/
structure Sps (w wr : World) (n : Nat) (c : Cols) (A A' : Nat → Option Addr) (C C' : Nat → Nat) (t : Nat) : Prop where
  below : Below w.heap.size w wr
  res : wr.rowIs w.heap.size 27 4 (rng none none)
  row : ∃ f, wr.rowIs (w.heap.size + 1) 50 (n * 5) f ∧ ∀ i, i < t → f (i * 5) = .slice (A i) (lenO (c.lo i)) (C i) ∧ f (i * 5 + 1) = .slice (A' i) (lenO (c.hi i)) (C' i) ∧ f (i * 5 + 2) = .bool (c.le i) ∧ f (i * 5 + 3) = .bool (c.he i) ∧ f (i * 5 + 4) = .bool (c.nr i)

theorem row_new (w : World) (c : Array Value) (t : TypeId) : (w.alloc (.cells c t)).rowIs w.heap.size t c.size (fun i => c.getD i undef) :=
  World.rowIs_alloc w c t _ (fun i hi => by simp [Array.getD, hi])

theorem sps_start (w : World) (n : Nat) (c : Cols) (A A' : Nat → Option Addr) (C C' : Nat → Nat) :
    Sps w ((w.alloc (.cells #[.pointer none, .pointer none, .bool false, .int .i64 0] 27)).alloc (.cells (cells50 n) 50)) n c A A' C C' 0 := by
  have r1 := World.rowIs_alloc w #[.pointer none, .pointer none, .bool false, .int .i64 0] 27 (rng none none) (fun i hi => by
    match i, hi with
    | 0, _ => rfl
    | 1, _ => rfl
    | 2, _ => rfl
    | 3, _ => rfl)
  have r2 := row_new (w.alloc (.cells #[.pointer none, .pointer none, .bool false, .int .i64 0] 27)) (cells50 n) 50
  rw [size50, Deep.nblk_alloc] at r2
  exact ⟨((Below.refl _ _).alloc (Nat.le_refl _) _).alloc (by simp) _, r1.alloc _, _, r2, fun i hi => absurd hi (Nat.not_lt_zero _)⟩

theorem sps_step {w wr : World} {n : Nat} {c : Cols} {A A' : Nat → Option Addr} {C C' : Nat → Nat} {t : Nat} (h : Sps w wr n c A A' C C' t) :
    Sps w (((((wr.setCell ⟨w.heap.size + 1, t * 5, none⟩ (.slice (A t) (lenO (c.lo t)) (C t))).setCell ⟨w.heap.size + 1, t * 5 + 1, none⟩ (.slice (A' t) (lenO (c.hi t)) (C' t))).setCell ⟨w.heap.size + 1, t * 5 + 2, none⟩ (.bool (c.le t))).setCell ⟨w.heap.size + 1, t * 5 + 3, none⟩ (.bool (c.he t))).setCell ⟨w.heap.size + 1, t * 5 + 4, none⟩ (.bool (c.nr t))).drew n c A A' C C' (t + 1) := by
  obtain ⟨f, hf, hv⟩ := h.row
  refine ⟨(((((h.below.setCell (by simp) _).setCell (by simp) _).setCell (by simp) _).setCell (by simp) _).setCell (by simp) _).drew, (((((h.res.setOther (by simp) _).setOther (by simp) _).setOther (by simp) _).setOther (by simp) _).setOther (by simp) _).drew, _, (((((hf.set (t * 5) _).set (t * 5 + 1) _).set (t * 5 + 2) _).set (t * 5 + 3) _).set (t * 5 + 4) _).drew, fun i hi => ?_⟩
  by_cases e : i = t
  · subst e; simp
  · obtain ⟨h0, h1, h2, h3, h4⟩ := hv i (by omega)
    have ne : ∀ a b, a < 5 → b < 5 → ¬ i * 5 + a = t * 5 + b := fun a b ha hb => by omega
    have n0 : ∀ b, b < 5 → ¬ i * 5 = t * 5 + b := fun b hb => by omega
    have m0 : ∀ a, a < 5 → ¬ i * 5 + a = t * 5 := fun a ha => by omega
    have nn : ¬ i * 5 = t * 5 := by omega
    refine ⟨?_, ?_, ?_, ?_, ?_⟩
    · simp only [if_neg (n0 4 (by omega)), if_neg (n0 3 (by omega)), if_neg (n0 2 (by omega)), if_neg (n0 1 (by omega)), if_neg nn]; exact h0
    · simp only [if_neg (ne 1 4 (by omega) (by omega)), if_neg (ne 1 3 (by omega) (by omega)), if_neg (ne 1 2 (by omega) (by omega)), if_neg (ne 1 1 (by omega) (by omega)), if_neg (m0 1 (by omega))]; exact h1
    · simp only [if_neg (ne 2 4 (by omega) (by omega)), if_neg (ne 2 3 (by omega) (by omega)), if_neg (ne 2 2 (by omega) (by omega)), if_neg (ne 2 1 (by omega) (by omega)), if_neg (m0 2 (by omega))]; exact h2
    · simp only [if_neg (ne 3 4 (by omega) (by omega)), if_neg (ne 3 3 (by omega) (by omega)), if_neg (ne 3 2 (by omega) (by omega)), if_neg (ne 3 1 (by omega) (by omega)), if_neg (m0 3 (by omega))]; exact h3
    · simp only [if_neg (ne 4 4 (by omega) (by omega)), if_neg (ne 4 3 (by omega) (by omega)), if_neg (ne 4 2 (by omega) (by omega)), if_neg (ne 4 1 (by omega) (by omega)), if_neg (m0 4 (by omega))]; exact h4

theorem sps_in {w wr : World} {n : Nat} {c : Cols} {A A' : Nat → Option Addr} {C C' : Nat → Nat} (h : Sps w wr n c A A' C C' n) (hc : ∀ i, i < n → Col w (A i) (lenO (c.lo i)) (c.lo i) ∧ Col w (A' i) (lenO (c.hi i)) (c.hi i)) : SpIn wr (w.heap.size + 1) n c := by
  obtain ⟨f, hf, hv⟩ := h.row
  refine ⟨A, A', C, C', fun i hi => ?_⟩
  obtain ⟨h0, h1, h2, h3, h4⟩ := hv i hi
  exact ⟨by rw [hf.cell (by omega), h0], by rw [hf.cell (by omega), h1], by rw [hf.cell (by omega), h2], by rw [hf.cell (by omega), h3], by rw [hf.cell (by omega), h4], (hc i hi).1.below h.below, (hc i hi).2.below h.below⟩

set_option maxRecDepth 100000 in
set_option maxHeartbeats 4000000 in
theorem zzserve_any (a0 a1 a2 a3 a4 ak : Option Addr) (n M c0 c1 c2 c3 c4 ck : Nat) (c : Cols) (κ : Nat → Nat) (w : World) (hI : ColsIn w a0 a1 a2 a3 a4 n c) (hn : n ≤ 4096)
    (hsrv : ∀ wr, SpIn wr (w.heap.size + 1) n c → Below w.heap.size w wr → Calls Try.prog 27 #[.slice (some ⟨w.heap.size + 1, 0, none⟩) n n, .slice ak M ck] wr (ServePost c κ M wr)) :
    Calls Try.prog 23 #[.slice a0 n c0, .slice a1 n c1, .slice a2 n c2, .slice a3 n c3, .slice a4 n c4, .slice ak M ck] w (ServePost c κ M w) := by
  have hmk := make55 n hn
  obtain ⟨A, A', C, C', hcol, hop⟩ : ∃ (A A' : Nat → Option Addr) (C C' : Nat → Nat), (∀ i, i < n → Col w (A i) (lenO (c.lo i)) (c.lo i) ∧ Col w (A' i) (lenO (c.hi i)) (c.hi i)) ∧ (0 < n → ∃ b0 o0 b1 o1 b2 o2 b3 o3 b4 o4 : Nat, a0 = some ⟨b0, o0, none⟩ ∧ a1 = some ⟨b1, o1, none⟩ ∧ a2 = some ⟨b2, o2, none⟩ ∧ a3 = some ⟨b3, o3, none⟩ ∧ a4 = some ⟨b4, o4, none⟩ ∧
      ∀ i, i < n → w.cell? ⟨b0, o0 + i, none⟩ = some (.slice (A i) (lenO (c.lo i)) (C i)) ∧ w.cell? ⟨b1, o1 + i, none⟩ = some (.slice (A' i) (lenO (c.hi i)) (C' i)) ∧
        w.cell? ⟨b2, o2 + i, none⟩ = some (.bool (c.le i)) ∧ w.cell? ⟨b3, o3 + i, none⟩ = some (.bool (c.he i)) ∧ w.cell? ⟨b4, o4 + i, none⟩ = some (.bool (c.nr i))) := by
    by_cases h0 : 0 < n
    · obtain ⟨b0, o0, b1, o1, b2, o2, b3, o3, b4, o4, e0, e1, e2, e3, e4, A, A', C, C', hc⟩ := hI.open h0
      exact ⟨A, A', C, C', fun i hi => (hc i hi).2.2.2.2.2, fun _ => ⟨b0, o0, b1, o1, b2, o2, b3, o3, b4, o4, e0, e1, e2, e3, e4, fun i hi => ⟨(hc i hi).1, (hc i hi).2.1, (hc i hi).2.2.1, (hc i hi).2.2.2.1, (hc i hi).2.2.2.2.1⟩⟩⟩
    · exact ⟨fun _ => none, fun _ => none, fun _ => 0, fun _ => 0, fun i hi => absurd hi (by omega), fun h => absurd h h0⟩
  have hS0 := sps_start w n c A A' C C'
  clear hI
  go_enter Try.func23, Try.ntmps23
  go_wp2_with fail
  clear hmk
  go_loopg [16] n (fun g s16 wr => ∃ t : Nat, t ≤ n ∧ g = n - t ∧ s16 = .int .i64 t ∧ Sps w wr n c A A' C C' t)
  case atStart => exact ⟨0, Nat.zero_le _, rfl, rfl, hS0⟩
  case round =>
    obtain ⟨t, ht, rfl, rfl, hS⟩ := hrel
    clear hS0
    by_cases hlt : t < n
    · obtain ⟨b0, o0, b1, o1, b2, o2, b3, o3, b4, o4, rfl, rfl, rfl, rfl, rfl, hc⟩ := hop (by omega)
      obtain ⟨q0, q1, q2, q3, q4⟩ := hc t hlt
      have p0 := Below.at hS.below (lt_of_cell q0) q0
      have p1 := Below.at hS.below (lt_of_cell q1) q1
      have p2 := Below.at hS.below (lt_of_cell q2) q2
      have p3 := Below.at hS.below (lt_of_cell q3) q3
      have p4 := Below.at hS.below (lt_of_cell q4) q4
      have r : ∀ k, k < n * 5 → ∃ v, wr.cell? ⟨w.heap.size + 1, k, none⟩ = some v := fun k hk => by
        obtain ⟨f, hf, _⟩ := hS.row
        exact ⟨_, hf.cell hk⟩
      obtain ⟨v0, r0⟩ := r (t * 5) (by omega)
      obtain ⟨v1, r1⟩ := r (t * 5 + 1) (by omega)
      obtain ⟨v2, r2⟩ := r (t * 5 + 2) (by omega)
      obtain ⟨v3, r3⟩ := r (t * 5 + 3) (by omega)
      obtain ⟨v4, r4⟩ := r (t * 5 + 4) (by omega)
      have fz : ∀ k, wr.frozen? ⟨w.heap.size + 1, k, none⟩ = false := fun k => by
        obtain ⟨f, hf, _⟩ := hS.row
        exact hf.frozen k
      have f0 := fz (t * 5)
      have f1 := fz (t * 5 + 1)
      have f2 := fz (t * 5 + 2)
      have f3 := fz (t * 5 + 3)
      have f4 := fz (t * 5 + 4)
      have hltz : (t : Int) < (n : Int) := by omega
      have hS1 := sps_step hS
      clear r fz hc hop hsrv hcol q0 q1 q2 q3 q4 hS
      go_wp2_with fail
      go_region
      go_wp2_with fail
      go_roundg (n - (t + 1))
      case measure => omega
      case rel => exact ⟨t + 1, by omega, rfl, by go_num, hS1⟩
    · obtain rfl : t = n := by omega
      have hcall := hsrv wr (sps_in hS hcol) hS.below
      clear hop hsrv hcol
      go_wp2_with fail
      refine hcall.mono ?_
      rintro e w6 ⟨u, hpt, hB6, hkp⟩
      have hrow6 : w6.rowIs w.heap.size 27 4 (rng none none) := Below.row hB6 hS.res.lt hS.res
      have hB7 : Below w.heap.size w w6 := hS.below.trans (hB6.mono hS.below.size)
      have t0 : w6.cell? ⟨w.heap.size, 0, none⟩ = some (.pointer none) := hrow6.cell (i := 0) (by omega)
      have t1 : w6.cell? ⟨w.heap.size, 1, none⟩ = some (.pointer none) := hrow6.cell (i := 1) (by omega)
      have t2 : w6.cell? ⟨w.heap.size, 2, none⟩ = some (.bool false) := hrow6.cell (i := 2) (by omega)
      have t3 : w6.cell? ⟨w.heap.size, 3, none⟩ = some (.int .i64 0) := hrow6.cell (i := 3) (by omega)
      have tf0 := hrow6.frozen 0
      have tf1 := hrow6.frozen 1
      have tf2 := hrow6.frozen 2
      have tf3 := hrow6.frozen 3
      have HPT : Hid (Pts c κ M u) := hpt
      clear hcall hS hB6 hpt
      cases hlo : lowF (nxO c.lo κ M u) (nxB c.le κ M u) (preO c κ u) with
      | none =>
        rw [hlo] at hkp
        obtain rfl := hkp
        have HLO : Hid (lowF (nxO c.lo κ M u) (nxB c.le κ M u) (preO c κ u) = none) := hlo
        clear hlo
        go_wp2_with fail
        refine bodyPost_ret (v := .tuple #[.agg #[.pointer none, .pointer none, .bool false, .int .i64 0], .bool false, .slice none 0 0]) (by simp [results, Try.results23, go_sem, t0, t1, t2, t3]) rfl ?_
        refine ⟨u, HPT.out, (((hB7.setCell (by simp) _).setCell (by simp) _).setCell (by simp) _).setCell (by simp) _, ?_⟩
        rw [HLO.out]
      | some o =>
        rw [hlo] at hkp
        obtain ⟨p1, p2, rfl, hb1, hb2⟩ := hkp
        have HLO : Hid (lowF (nxO c.lo κ M u) (nxB c.le κ M u) (preO c κ u) = some o) := hlo
        clear hlo
        go_wp2_with fail
        refine bodyPost_ret (v := .tuple #[.agg #[.pointer p1, .pointer p2, .bool false, .int .i64 0], .bool true, .slice none 0 0]) (by simp [results, Try.results23, go_sem, t0, t1, t2, t3]) rfl ?_
        refine ⟨u, HPT.out, (((hB7.setCell (by simp) _).setCell (by simp) _).setCell (by simp) _).setCell (by simp) _, ?_⟩
        rw [HLO.out]
        have hgr := grownBy_set (grownBy_set (grownBy_set (grownBy_set (World.grownBy.refl w6 (some w.heap.size)) 0 (.pointer p1)) 1 (.pointer p2)) 2 (.bool false)) 3 (.int .i64 0)
        exact ⟨p1, p2, rfl, hb1.grown hrow6 (rng_plain _ _ _) hgr, hb2.grown hrow6 (rng_plain _ _ _) hgr⟩
end Go.Proofs.Qxb6000023a
