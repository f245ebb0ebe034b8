import Derived.Test.Qxb6000012aMem
import Derived.Test.Qxb6000012aClone
import Derived.Test.Qxb6000012aFits
import Derived.Test.Qxb6000012aModelP
import Derived.Deep.LoopGhost
import Derived.Deep.QuietTactic
import Derived.BigQuiet
import Derived.Deep.DeepCutAuto
namespace Go.Proofs.Qxb6000012a
open Go.RowKit

/-- The model's two rows. -/
structure MInv (w wr : World) (B n : Nat) (s : St) : Prop where
  below : Below B w wr
  size : wr.heap.size = B + 2
  d : wr.rowIs B 22 n (fun i => V32 (s i).1)
  g : wr.rowIs (B + 1) 22 n (fun i => V32 (s i).2)

theorem minv_grant {w wr : World} {B n : Nat} {s : St} (h : MInv w wr B n s) (i : Nat) (m : BitVec 32) :
    MInv w ((wr.setCell ⟨B + 1, i, none⟩ (V32 ((s i).2 ||| (m &&& ~~~(s i).1)))).setCell ⟨B, i, none⟩ (V32 ((s i).1 ||| m))).drew B n (grAt s i m) :=
  ⟨((h.below.setCell (by simp) _).setCell (by simp) _).drew, by show ((wr.setCell _ _).setCell _ _).heap.size = _; rw [Deep.nblk_setCell, Deep.nblk_setCell, h.size],
    (((h.d.setOther (by simp) _).set i _).congr (fun j _ => by by_cases e : j = i <;> simp [grAt, gr, e])).drew,
    (((h.g.set i _).setOther (by simp) _).congr (fun j _ => by by_cases e : j = i <;> simp [grAt, gr, e])).drew⟩

theorem minv_drew {w wr : World} {B n : Nat} {s : St} (h : MInv w wr B n s) (k : Nat) : MInv w (wr.drewN k) B n s :=
  ⟨⟨h.below.os, h.below.tape, h.below.output, h.below.size, h.below.block⟩, h.size, h.d, h.g⟩

set_option maxHeartbeats 1000000 in
theorem mgrant_any {w wr : World} {B n : Nat} {s : St} (h : MInv w wr B n s) (i : Nat) (hi : i < n) (m : BitVec 32) :
    Calls Try.prog 25 #[.slice (some ⟨B, 0, none⟩) n n, .slice (some ⟨B + 1, 0, none⟩) n n, .int .i64 i, V32 m] wr fun e w' => e = .returned (.tuple #[]) ∧ MInv w w' B n (grAt s i m) := by
  have q1 := h.d.cell hi
  have q2 := h.g.cell hi
  have q3 := h.d.frozen i
  have q4 := h.g.frozen i
  have hb1 := bor
  have hb2 := bnot
  have hiz : (i : Int) < (n : Int) := by omega
  have hM := minv_grant h i m
  clear h
  go_enter Try.func25, Try.ntmps25
  go_wp2_with fail
  go_region
  go_wp2_with fail
  go_end0
  exact ⟨rfl, hM⟩

def ParPost (p : Int) (w : World) (e : Ending) (w' : World) : Prop := e = .returned (.int .i64 p) ∧ ∃ nq, w' = w.drewN nq

set_option maxHeartbeats 1000000 in
theorem par_any (b n i : Nat) (lv : Nat → Int) (p : Int) (w : World) (hn : n ≤ 4096) (hi : i < n)
    (hL : ∀ i, i < n → w.cell? ⟨b, i, none⟩ = some (.int .i64 (lv i))) (hp : IsPar lv i p) :
    Calls Try.prog 26 #[.slice (some ⟨b, 0, none⟩) n n, .int .i64 i] w (ParPost p w) := by
  have HP : Hid (IsPar lv i p) := hp
  clear hp
  go_enter Try.func26, Try.ntmps26
  go_wp2_with fail
  go_loopg [5] i (fun g s5 wr => ∃ j : Nat, j ≤ i ∧ g = j ∧ s5 = .int .i64 ((j : Int) - 1) ∧ (∃ nq, wr = w.drewN nq) ∧ ∀ t, j ≤ t → t < i → lv i ≤ lv t)
  case atStart => exact ⟨i, Nat.le_refl _, rfl, rfl, ⟨0, rfl⟩, fun t h1 h2 => by omega⟩
  case round =>
    obtain ⟨j, hj, rfl, rfl, ⟨kd, rfl⟩, hall⟩ := hrel
    cases gk with
    | zero =>
      have hpar := HP.out.uniq (.inl ⟨rfl, fun t ht => hall t (Nat.zero_le _) ht⟩)
      go_wp2_with fail
      go_ret
      exact ⟨by rw [hpar]; rfl, _, rfl⟩
    | succ j =>
      have e : ((j + 1 : Nat) : Int) - 1 = (j : Int) := by omega
      rw [e]
      have q1 := hL j (by omega)
      have q2 := hL i hi
      have hjz : (j : Int) < (n : Int) := by omega
      have hiz : (i : Int) < (n : Int) := by omega
      have HA : Hid (∀ t, j + 1 ≤ t → t < i → lv i ≤ lv t) := hall
      clear hall e
      by_cases hc : lv j < lv i
      · go_wp2_with fail
        go_quiet (fail)
        go_wp2_with fail
        go_ret
        have hpar := HP.out.uniq (.inr ⟨j, rfl, by omega, hc, fun t h1 h2 => HA.out t h1 h2⟩)
        exact ⟨by rw [hpar]; rfl, kd + nq, by first | rfl | exact World.drewN_drewN ..⟩
      · go_wp2_with fail
        go_quiet (fail)
        go_wp2_with fail
        go_roundg j
        case measure => omega
        case rel => exact ⟨j, by omega, rfl, by go_num, ⟨kd + nq, by first | rfl | exact World.drewN_drewN ..⟩, fun t h1 h2 => by
          by_cases e : t = j
          · subst e; omega
          · exact HA.out t (by omega) h2⟩

theorem mones : n32 (BitVec.allOnes 32) = 4294967295 := by decide

/-- The two rows while they are copied. -/
structure MCopy (w wr : World) (B n : Nat) (s : St) (t : Nat) : Prop where
  below : Below B w wr
  size : wr.heap.size = B + 2
  d : wr.rowIs B 22 n (upTo (fun i => V32 (s i).1) (.int .u32 0) t)
  g : wr.rowIs (B + 1) 22 n (upTo (fun i => V32 (s i).2) (.int .u32 0) t)

theorem mcopy_start (w : World) (n : Nat) (s : St) : MCopy w ((w.alloc (.cells (madeCells #[.int .u32 0] n) 22)).alloc (.cells (madeCells #[.int .u32 0] n) 22)) w.heap.size n s 0 := by
  have r1 := World.rowIs_made w (.int .u32 0) n 22
  have r2 := World.rowIs_made (w.alloc (.cells (madeCells #[.int .u32 0] n) 22)) (.int .u32 0) n 22
  rw [Deep.nblk_alloc] at r2
  exact ⟨((Below.refl _ _).alloc (Nat.le_refl _) _).alloc (by simp) _, by simp, (r1.alloc _).congr (fun i _ => by simp [upTo]), r2.congr (fun i _ => by simp [upTo])⟩

theorem mcopy_step {w wr : World} {B n : Nat} {s : St} {t : Nat} (h : MCopy w wr B n s t) :
    MCopy w ((wr.setCell ⟨B, t, none⟩ (V32 (s t).1)).setCell ⟨B + 1, t, none⟩ (V32 (s t).2)) B n s (t + 1) :=
  ⟨(h.below.setCell (by simp) _).setCell (by simp) _, by rw [Deep.nblk_setCell, Deep.nblk_setCell, h.size],
    ((h.d.set t _).setOther (by simp) _).congr (fun j _ => upTo_set (fun i => V32 (s i).1) (.int .u32 0) t j),
    ((h.g.setOther (by simp) _).set t _).congr (fun j _ => upTo_set (fun i => V32 (s i).2) (.int .u32 0) t j)⟩

theorem mcopy_done {w wr : World} {B n : Nat} {s : St} (h : MCopy w wr B n s n) : MInv w wr B n s :=
  ⟨h.below, h.size, h.d.congr (fun i hi => by simp [upTo, hi]), h.g.congr (fun i hi => by simp [upTo, hi])⟩

def ModelPost (n : Nat) (F : St) (w : World) (e : Ending) (w' : World) : Prop :=
  ∃ B, e = .returned (.tuple #[.slice (some ⟨B, 0, none⟩) n n, .slice (some ⟨B + 1, 0, none⟩) n n]) ∧ Below w.heap.size w w' ∧ w.heap.size ≤ B ∧
    w'.rowIs B 22 n (fun i => V32 (F i).1) ∧ w'.rowIs (B + 1) 22 n (fun i => V32 (F i).2)

set_option maxRecDepth 100000 in
set_option maxHeartbeats 4000000 in
theorem model_any (bL bD bG n k : Nat) (lv : Nat → Int) (P : Nat → Int) (E : Nat → Nat) (s : St) (m : BitVec 32) (w : World) (hn : n ≤ 4096) (hk : k < n)
    (hL : ∀ i, i < n → w.cell? ⟨bL, i, none⟩ = some (.int .i64 (lv i)))
    (hD : ∀ i, i < n → w.cell? ⟨bD, i, none⟩ = some (V32 (s i).1))
    (hG : ∀ i, i < n → w.cell? ⟨bG, i, none⟩ = some (V32 (s i).2))
    (hV : Valid lv n) (hP : ∀ i, i < n → IsPar lv i (P i)) (hE : ∀ i, i < n → IsEnd lv n i (E i)) :
    Calls Try.prog 18 #[.slice (some ⟨bL, 0, none⟩) n n, .slice (some ⟨bD, 0, none⟩) n n, .slice (some ⟨bG, 0, none⟩) n n, .int .i64 k, V32 m] w (ModelPost n (allowF P E n s k m) w) := by
  have hmk := make_u32 n hn
  have lL := lt_of_cell (hL k hk)
  have lD := lt_of_cell (hD k hk)
  have lG := lt_of_cell (hG k hk)
  go_enter Try.func18, Try.ntmps18
  go_wp2_with fail
  clear hmk
  have hC0 := mcopy_start w n s
  go_loopg [15] n (fun g i wr => ∃ t : Nat, t ≤ n ∧ g = n - t ∧ i = .int .i64 t ∧ MCopy w wr w.heap.size n s t)
  case atStart => exact ⟨0, Nat.zero_le _, rfl, rfl, hC0⟩
  case round =>
    obtain ⟨t, ht, rfl, rfl, hC⟩ := hrel
    clear hC0
    by_cases hlt : t < n
    · have q1 := Below.at hC.below lD (hD t hlt)
      have q2 := Below.at hC.below lG (hG t hlt)
      obtain ⟨v0, q4⟩ : ∃ v, wr.cell? ⟨w.heap.size, t, none⟩ = some v := ⟨_, hC.d.cell hlt⟩
      obtain ⟨v1, q5⟩ : ∃ v, wr.cell? ⟨w.heap.size + 1, t, none⟩ = some v := ⟨_, hC.g.cell hlt⟩
      have q6 := hC.d.frozen t
      have q7 := hC.g.frozen t
      have q8 : bG ≠ w.heap.size := by omega
      go_wp2_with fail
      go_roundg (n - (t + 1))
      case measure => omega
      case rel => exact ⟨t + 1, by omega, rfl, by go_num, mcopy_step hC⟩
    · obtain rfl : t = n := by omega
      have hM := mcopy_done hC
      clear hC hlt ht
      have hEk := hE k hk
      have HEk : Hid (IsEnd lv t k (E k)) := hEk
      have hEk1 := hEk.1
      have hEk2 := hEk.2.1
      clear hEk
      go_wp2_with (go_at_call 25; refine (mgrant_any hM k hk m).mono ?_; rintro e w' ⟨rfl, hM1⟩)
      rw [show grAt s k m = span s k (k + 1) m from by rw [span_step s k k m (Nat.le_refl _), span_start]] at hM1
      clear hM
      go_loopg [16] (E k - (k + 1)) (fun g i wr => ∃ t' : Nat, k + 1 ≤ t' ∧ t' ≤ E k ∧ g = E k - t' ∧ i = .int .i64 t' ∧ MInv w wr w.heap.size t (span s k t' m))
      case atStart => exact ⟨k + 1, Nat.le_refl _, by omega, rfl, by go_num, hM1⟩
      case round =>
        obtain ⟨i, hi1, hi2, rfl, rfl, hM⟩ := hrel
        clear hM1
        by_cases hlt : i < E k
        · have q1 := Below.at hM.below lL (hL i (by omega))
          have q2 := Below.at hM.below lL (hL k hk)
          have hc : lv k < lv i := HEk.out.2.2.1 i (by omega) hlt
          have hcd : decide ((i : Int) < (t : Int)) = true := by simp; omega
          have hiz : (i : Int) < (t : Int) := by omega
          have hkz : (k : Int) < (t : Int) := by omega
          go_wp2_with fail
          go_quiet (fail)
          have hM' := minv_drew hM nq
          go_wp2_with (go_at_call 25; refine (mgrant_any hM' i (by omega) m).mono ?_; rintro e w' ⟨rfl, hM2⟩)
          go_roundg (E k - (i + 1))
          case measure => omega
          case rel => exact ⟨i + 1, by omega, by omega, rfl, by go_num, by rw [span_step s k i m (by omega)]; exact hM2⟩
        · obtain rfl : i = E k := by omega
          -- the loop ends: at the row's end, or at a node at no greater level
          go_upto_region 11 with fail
          go_cut [66] (fun s66 wc => s66 = .bool false ∧ ∃ nq, wc = wr.drewN nq)
          case first =>
            by_cases hx : E k < t
            · have hxd : decide ((E k : Int) < (t : Int)) = true := by simp; omega
              have hxz : (E k : Int) < (t : Int) := by omega
              have hkz : (k : Int) < (t : Int) := by omega
              have q1 := Below.at hM.below lL (hL (E k) hx)
              have q2 := Below.at hM.below lL (hL k hk)
              have hc : lv (E k) ≤ lv k := HEk.out.2.2.2 hx
              have hcd : decide (lv k < lv (E k)) = false := by simp; omega
              go_quiet (fail)
              go_wp2_with fail
              go_meet
              exact ⟨rfl, _, rfl⟩
            · have hxd : decide ((E k : Int) < (t : Int)) = false := by simp; omega
              go_quiet (fail)
              go_wp2_with fail
              go_meet
              exact ⟨rfl, _, rfl⟩
          case rest =>
            obtain ⟨rfl, nq, rfl⟩ := hcut
            have hM' := minv_drew hM nq
            clear hM
            go_wp2_with (go_at_call 26; refine (par_any bL t k lv (P k) _ hn hk (fun i hi => Below.at hM'.below lL (hL i hi)) (hP k hk)).mono ?_; rintro e w' ⟨rfl, nq2, rfl⟩)
            have hM0 := minv_drew hM' nq2
            rw [World.drewN_drewN] at hM0
            clear hM'
            have hPk := (hP k hk).bd
            go_loopg [17] (P k + 1).toNat (fun g p wx => ∃ (q : Int) (s' : St) (f : Nat), -1 ≤ q ∧ q < t ∧ p = .int .i64 q ∧ g = (q + 1).toNat ∧ g ≤ f ∧ MInv w wx w.heap.size t s' ∧ up P E t f q s' = allowF P E t s k m)
            case atStart => exact ⟨P k, _, t, by omega, by omega, rfl, rfl, by omega, hM0, rfl⟩
            case round =>
              obtain ⟨q, s', f, hq1, hq2, rfl, rfl, hf, hM, hup⟩ := hrel
              clear hM0 hPk
              have HU : Hid (up P E t f q s' = allowF P E t s k m) := hup
              clear hup
              by_cases hq0 : 0 ≤ q
              · obtain ⟨p, rfl⟩ := Int.eq_ofNat_of_zero_le hq0
                have hpn : p < t := by omega
                have HEp : Hid (IsEnd lv t p (E p)) := hE p hpn
                have hEp1 := HEp.out.1
                have hEp2 := HEp.out.2.1
                have hPp := (hP p hpn).bd
                have hlp := hV.bd p hpn
                obtain ⟨wo, hwo⟩ : ∃ wo : World, wo = wr := ⟨_, rfl⟩
                rw [← hwo] at hM ⊢
                clear hwo
                go_wp2_with fail
                go_loopg [18, 19] (E p - (p + 1)) (fun g a c wx => ∃ (j : Nat) (acc : BitVec 32), p + 1 ≤ j ∧ j ≤ E p ∧ a = V32 acc ∧ c = .int .i64 j ∧ g = E p - j ∧ (∃ kd, wx = wo.drewN kd) ∧ scan lv s' (lv p + 1) (E p - j) j acc = scan lv s' (lv p + 1) (E p - (p + 1)) (p + 1) (BitVec.allOnes 32))
                case atStart => exact ⟨p + 1, BitVec.allOnes 32, Nat.le_refl _, by omega, by rw [V32, mones], by go_num, rfl, ⟨0, rfl⟩, rfl⟩
                case round =>
                  obtain ⟨j, acc, hj1, hj2, rfl, rfl, rfl, ⟨kd, rfl⟩, hsc⟩ := hrel
                  have HS : Hid (scan lv s' (lv p + 1) (E p - j) j acc = scan lv s' (lv p + 1) (E p - (p + 1)) (p + 1) (BitVec.allOnes 32)) := hsc
                  clear hsc
                  by_cases hjE : j < E p
                  · have q1 := Below.at hM.below lL (hL j (by omega))
                    have q2 := Below.at hM.below lL (hL p hpn)
                    have hc : lv p < lv j := HEp.out.2.2.1 j (by omega) hjE
                    have hcd : decide ((j : Int) < (t : Int)) = true := by simp; omega
                    have hjz : (j : Int) < (t : Int) := by omega
                    have hpz : (p : Int) < (t : Int) := by omega
                    by_cases hl : lv j = lv p + 1
                    · have hl' : (lv j == lv p + 1) = true := by simp [hl]
                      have HL : Hid (lv j = lv p + 1) := hl
                      clear hl
                      have q3 := hM.g.cell (i := j) (by omega)
                      have hb := band
                      go_wp2_with fail
                      go_quiet (fail)
                      go_wp2_with fail
                      go_quiet (fail)
                      go_wp2_with fail
                      go_roundg (E p - (j + 1))
                      case measure => omega
                      case rel =>
                        refine ⟨j + 1, acc &&& (s' j).2, by omega, by omega, rfl, by go_num, rfl, ⟨_, by first | rfl | (simp only [World.drewN_drewN]; rfl)⟩, ?_⟩
                        rw [← HS.out, show E p - j = (E p - (j + 1)) + 1 by omega, scan, if_pos HL.out]
                    · have hl' : (lv j == lv p + 1) = false := by simp [hl]
                      have HL : Hid (¬ lv j = lv p + 1) := hl
                      clear hl
                      go_wp2_with fail
                      go_quiet (fail)
                      go_wp2_with fail
                      go_quiet (fail)
                      go_wp2_with fail
                      go_roundg (E p - (j + 1))
                      case measure => omega
                      case rel =>
                        refine ⟨j + 1, acc, by omega, by omega, rfl, by go_num, rfl, ⟨_, by first | rfl | (simp only [World.drewN_drewN]; rfl)⟩, ?_⟩
                        rw [← HS.out, show E p - j = (E p - (j + 1)) + 1 by omega, scan, if_neg HL.out]
                  · obtain rfl : j = E p := by omega
                    have HA : Hid (acc &&& ~~~(s' p).1 = addd E s' t p) := by
                      have h1 := HS.out
                      rw [Nat.sub_self] at h1
                      have h2 := shr_scan hE s' (lv p + 1) (E p) hEp2 (fun h => by have := HEp.out.2.2.2 h; omega) t (p + 1) (BitVec.allOnes 32) (by omega) (by omega)
                        (fun h => by
                          have a1 := HEp.out.2.2.1 (p + 1) (by omega) h
                          have a2 := hV.2 (p + 1) (by omega) (by omega)
                          simp only [Nat.add_sub_cancel] at a2
                          omega)
                        (fun x h1 h2 => by have := HEp.out.2.2.1 x (by omega) h2; omega)
                      show acc &&& ~~~(s' p).1 = shr E s' t (p + 1) (E p) (BitVec.allOnes 32) &&& ~~~(s' p).1
                      rw [h2, ← h1]
                      rfl
                    clear HS
                    go_upto_region 19 with fail
                    go_cut [97] (fun s97 wc => s97 = .bool false ∧ ∃ kd', wc = wo.drewN kd')
                    case first =>
                      by_cases hx : E p < t
                      · have hxd : decide ((E p : Int) < (t : Int)) = true := by simp; omega
                        have hxz : (E p : Int) < (t : Int) := by omega
                        have hpz : (p : Int) < (t : Int) := by omega
                        have q1 := Below.at hM.below lL (hL (E p) hx)
                        have q2 := Below.at hM.below lL (hL p hpn)
                        have hc : lv (E p) ≤ lv p := HEp.out.2.2.2 hx
                        have hcd : decide (lv p < lv (E p)) = false := by simp; omega
                        go_quiet (fail)
                        go_wp2_with fail
                        go_meet
                        exact ⟨rfl, _, by first | rfl | (simp only [World.drewN_drewN]; rfl)⟩
                      · have hxd : decide ((E p : Int) < (t : Int)) = false := by simp; omega
                        go_quiet (fail)
                        go_wp2_with fail
                        go_meet
                        exact ⟨rfl, _, by first | rfl | (simp only [World.drewN_drewN]; rfl)⟩
                    case rest =>
                      obtain ⟨rfl, kd', rfl⟩ := hcut
                      obtain ⟨f', rfl⟩ : ∃ f', f = f' + 1 := ⟨f - 1, by omega⟩
                      have hM1 := minv_drew hM kd'
                      have q3 := hM.d.cell hpn
                      have hb := bnot
                      have hz0 : ∀ a : BitVec 32, (n32 a == 0) = decide (a = 0) := fun a => by
                        by_cases h : a = 0
                        · subst h; decide
                        · rw [decide_eq_false h, beq_eq_false_iff_ne]
                          intro e
                          exact h (n32_inj (e.trans (by decide)))
                      by_cases hz : acc &&& ~~~(s' p).1 = 0
                      · have hz' : (n32 (acc &&& ~~~(s' p).1) == 0) = true := by rw [hz0, decide_eq_true hz]
                        have hF : s' = allowF P E t s k m := by
                          have hA := HA.out
                          rw [hz] at hA
                          rw [← HU.out, up, if_pos (by omega), if_pos (by rw [Int.toNat_natCast]; exact hA.symm)]
                        have HF : Hid (s' = allowF P E t s k m) := hF
                        clear hz hz0 hF HA HU
                        go_wp2_with fail
                        go_ret2
                        refine ⟨w.heap.size, rfl, hM1.below, Nat.le_refl _, ?_⟩
                        rw [← HF.out]
                        exact ⟨hM1.d, hM1.g⟩
                      · have hz' : (n32 (acc &&& ~~~(s' p).1) == 0) = false := by rw [hz0, decide_eq_false hz]
                        have HF : Hid (up P E t f' (P p) (grAt s' p (acc &&& ~~~(s' p).1)) = allowF P E t s k m) := by
                          have hA := HA.out
                          rw [hA] at hz
                          show up P E t f' (P p) (grAt s' p (acc &&& ~~~(s' p).1)) = allowF P E t s k m
                          rw [← HU.out, hA, up, if_pos (by omega), Int.toNat_natCast, if_neg hz]
                        clear hz hz0 HA HU
                        go_wp2_with fail
                        refine (mgrant_any hM1 p hpn _).mono ?_
                        rintro e w' ⟨rfl, hM2⟩
                        go_wp2_with fail
                        refine (par_any bL t p lv (P p) _ hn hpn (fun i hi => Below.at hM2.below lL (hL i hi)) (hP p hpn)).mono ?_
                        rintro e w'' ⟨rfl, nq3, rfl⟩
                        go_wp2_with fail
                        go_roundg (P p + 1).toNat
                        case measure => omega
                        case rel => exact ⟨P p, _, f', by omega, by omega, rfl, rfl, by omega, minv_drew hM2 nq3, HF.out⟩
              · go_wp2_with fail
                go_ret2
                refine ⟨w.heap.size, rfl, hM.below, Nat.le_refl _, ?_⟩
                have hF : s' = allowF P E t s k m := by
                  rw [← HU.out]
                  cases f with
                  | zero => rfl
                  | succ f' => rw [up, if_neg (by omega)]
                rw [← hF]
                exact ⟨hM.d, hM.g⟩
end Go.Proofs.Qxb6000012a
