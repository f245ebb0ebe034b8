import Derived.Test.Qxb6000012aGrant
import Derived.Test.Qxb6000012aPlain
import Derived.Deep.LoopGhost
namespace Go.Proofs.Qxb6000012a
open Go.RowKit

/-- The states as the cells hold them: two cells a node. -/
def stCells (s : St) : Nat → Value := fun j => if j % 2 = 0 then V32 (s (j / 2)).1 else V32 (s (j / 2)).2

theorem stCells_even (s : St) (t : Nat) : stCells s (t * 2) = V32 (s t).1 := by
  have h1 : t * 2 % 2 = 0 := by omega
  have h2 : t * 2 / 2 = t := by omega
  simp [stCells, h2]
theorem stCells_odd (s : St) (t : Nat) : stCells s (t * 2 + 1) = V32 (s t).2 := by
  have h1 : (t * 2 + 1) % 2 = 1 := by omega
  have h2 : (t * 2 + 1) / 2 = t := by omega
  simp [stCells, h1, h2]

structure Inv (w wr : World) (bS n : Nat) (s : St) : Prop where
  only : w.grownBy wr (some bS)
  size : wr.heap.size = w.heap.size
  st : wr.rowIs bS 72 (2 * n) (stCells s)

theorem Inv.dec {w wr : World} {bS n : Nat} {s : St} (h : Inv w wr bS n s) {t : Nat} (ht : t < n) : wr.cell? ⟨bS, t * 2, none⟩ = some (V32 (s t).1) := by
  rw [h.st.cell (i := t * 2) (by omega), stCells_even]
theorem Inv.gra {w wr : World} {bS n : Nat} {s : St} (h : Inv w wr bS n s) {t : Nat} (ht : t < n) : wr.cell? ⟨bS, t * 2 + 1, none⟩ = some (V32 (s t).2) := by
  rw [h.st.cell (i := t * 2 + 1) (by omega), stCells_odd]

theorem grownBy_set {w wr : World} {b : Nat} (h : w.grownBy wr (some b)) (o : Nat) (v : Value) : w.grownBy (wr.setCell ⟨b, o, none⟩ v) (some b) :=
  ⟨h.os, h.tape, h.output, by rw [Deep.nblk_setCell]; exact h.size, fun k hk hne => by
    rw [Deep.blk_setCell_other _ _ _ _ (by intro e; exact hne (by rw [e]))]; exact h.block k hk hne⟩

theorem grownBy_refl (w : World) (r : Option Nat) : w.grownBy w r := ⟨rfl, rfl, rfl, Nat.le_refl _, fun _ _ _ => rfl⟩

theorem inv_start {w : World} {bS n : Nat} {s : St} (h : w.rowIs bS 72 (2 * n) (stCells s)) : Inv w w bS n s := ⟨grownBy_refl _ _, rfl, h⟩

/-- What one grant leaves. -/
theorem inv_grant {w wr : World} {bS n : Nat} {s : St} (h : Inv w wr bS n s) (t : Nat) (m : BitVec 32) :
    Inv w (((wr.setCell ⟨bS, t * 2 + 1, none⟩ (V32 ((s t).2 ||| (m &&& ~~~(s t).1)))).setCell ⟨bS, t * 2, none⟩ (V32 ((s t).1 ||| m)))).drew bS n (grAt s t m) := by
  have hg := grownBy_set (grownBy_set h.only (t * 2 + 1) (V32 ((s t).2 ||| (m &&& ~~~(s t).1)))) (t * 2) (V32 ((s t).1 ||| m))
  refine ⟨⟨hg.os, hg.tape, hg.output, hg.size, hg.block⟩, ?_, ?_⟩
  · show (((wr.setCell ⟨bS, t * 2 + 1, none⟩ _).setCell ⟨bS, t * 2, none⟩ _)).heap.size = _
    rw [Deep.nblk_setCell, Deep.nblk_setCell, h.size]
  · refine (((h.st.set (t * 2 + 1) _).set (t * 2) _).congr (fun j _ => ?_)).drew
    by_cases e0 : j = t * 2
    · subst e0
      rw [if_pos rfl, stCells_even]; simp [grAt, gr]
    · rw [if_neg e0]
      by_cases e1 : j = t * 2 + 1
      · subst e1
        rw [if_pos rfl, stCells_odd]; simp [grAt, gr]
      · rw [if_neg e1]
        have : j / 2 ≠ t := by omega
        simp [stCells, grAt, this]

theorem grant_inv {w wr : World} {bS n : Nat} {s : St} (h : Inv w wr bS n s) (t : Nat) (ht : t < n) (m : BitVec 32) :
    Calls Try.prog 29 #[.pointer (some ⟨bS, t * 2, none⟩), V32 m] wr fun e w' => e = .returned (.tuple #[]) ∧ Inv w w' bS n (grAt s t m) := by
  refine (grant_any bS (t * 2) _ _ m _ (h.dec ht) (h.gra ht) (h.st.frozen _) (h.st.frozen _)).mono ?_
  rintro e w' ⟨rfl, rfl⟩
  exact ⟨rfl, inv_grant h t m⟩

theorem n32_ones : n32 (BitVec.allOnes 32) = 4294967295 := by decide
theorem n32_beq (a : BitVec 32) : (n32 a == 0) = decide (a = 0) := by
  by_cases h : a = 0
  · subst h; decide
  · rw [decide_eq_false h, beq_eq_false_iff_ne]
    intro e
    exact h (n32_inj (e.trans (by decide)))

set_option maxHeartbeats 2000000 in
theorem allow_any (bl bN bS n k : Nat) (P : Nat → Int) (E : Nat → Nat) (s : St) (m : BitVec 32) (w : World) (hn : n ≤ 4096) (hk : k < n)
    (hlS : bl ≠ bS) (hNS : bN ≠ bS)
    (hl : w.cell? ⟨bl, 0, none⟩ = some (.slice (some ⟨bN, 0, none⟩) n n))
    (hP : ∀ i, i < n → w.cell? ⟨bN, i * 19 + 17, none⟩ = some (.int .i64 (P i)))
    (hE : ∀ i, i < n → w.cell? ⟨bN, i * 19 + 18, none⟩ = some (.int .i64 (E i)))
    (hPb : ∀ i, i < n → -1 ≤ P i ∧ P i < i) (hEb : ∀ i, i < n → i < E i ∧ E i ≤ n)
    (hst : w.rowIs bS 72 (2 * n) (stCells s)) :
    Calls Try.prog 24 #[.pointer (some ⟨bl, 0, none⟩), .slice (some ⟨bS, 0, none⟩) n n, .int .i64 k, V32 m] w fun e w' =>
      e = .returned (.tuple #[]) ∧ Inv w w' bS n (allowF P E n s k m) := by
  go_enter Try.func24, Try.ntmps24
  go_wp2_with fail
  go_loopg [8] (E k - k) (fun g i wr => ∃ t : Nat, k ≤ t ∧ t ≤ E k ∧ g = E k - t ∧ i = .int .i64 t ∧ Inv w wr bS n (span s k t m))
  case atStart => exact ⟨k, Nat.le_refl _, by have := hEb k hk; omega, rfl, rfl, by rw [span_start]; exact inv_start hst⟩
  case round =>
    obtain ⟨t, ht1, ht2, rfl, rfl, hI⟩ := hrel
    have hEk := hEb k hk
    have g1 : wr.cell? ⟨bl, 0, none⟩ = some (.slice (some ⟨bN, 0, none⟩) n n) := hI.only.cell hl (by simpa using hlS)
    have g2 : wr.cell? ⟨bN, k * 19 + 18, none⟩ = some (.int .i64 (E k)) := hI.only.cell (hE k hk) (by simpa using hNS)
    by_cases hlt : t < E k
    · have htn : t < n := by omega
      go_wp2_with (go_at_call 29; refine (grant_inv hI t htn m).mono ?_; rintro e w' ⟨rfl, hI2⟩)
      go_roundg (E k - (t + 1))
      case measure => omega
      case rel => exact ⟨t + 1, by omega, by omega, rfl, by go_num, by rw [span_step s k t m ht1]; exact hI2⟩
    · obtain rfl : t = E k := by omega
      have g3 : wr.cell? ⟨bN, k * 19 + 17, none⟩ = some (.int .i64 (P k)) := hI.only.cell (hP k hk) (by simpa using hNS)
      go_wp2_with fail
      -- going up
      have hPk := hPb k hk
      have hI0 := hI
      go_loopg [9] (P k + 1).toNat (fun g p wx => ∃ (q : Int) (s' : St) (f : Nat), -1 ≤ q ∧ q < n ∧ p = .int .i64 q ∧ g = (q + 1).toNat ∧ g ≤ f ∧ Inv w wx bS n s' ∧ up P E n f q s' = allowF P E n s k m)
      case atStart => exact ⟨P k, _, n, by omega, by omega, rfl, rfl, by omega, hI0, rfl⟩
      case round =>
        obtain ⟨q, s', f, hq1, hq2, rfl, rfl, hf, hI', hup⟩ := hrel
        have HU : Hid (up P E n f q s' = allowF P E n s k m) := hup
        clear hup hI hI0 g1 g2 g3
        by_cases hq0 : 0 ≤ q
        · obtain ⟨p, rfl⟩ := Int.eq_ofNat_of_zero_le hq0
          have hpn : p < n := by omega
          have hEp := hEb p hpn
          have hPp := hPb p hpn
          have k1 : wr.cell? ⟨bl, 0, none⟩ = some (.slice (some ⟨bN, 0, none⟩) n n) := hI'.only.cell hl (by simpa using hlS)
          have k2 : wr.cell? ⟨bN, p * 19 + 18, none⟩ = some (.int .i64 (E p)) := hI'.only.cell (hE p hpn) (by simpa using hNS)
          go_wp2_with fail
          go_loopg [10, 11] (n - (p + 1)) (fun g a c wx => wx = wr ∧ ∃ (cc : Nat) (acc : BitVec 32) (f2 : Nat), p + 1 ≤ cc ∧ cc ≤ n ∧ a = V32 acc ∧ c = .int .i64 cc ∧ g = n - cc ∧ g ≤ f2 ∧ shr E s' f2 cc (E p) acc = shr E s' n (p + 1) (E p) (BitVec.allOnes 32))
          case atStart => exact ⟨rfl, p + 1, BitVec.allOnes 32, n, Nat.le_refl _, by omega, by rw [V32, n32_ones], by go_num, rfl, by omega, rfl⟩
          case round =>
            obtain ⟨rfl, cc, acc, f2, hc1, hc2, rfl, rfl, rfl, hf2, hsh⟩ := hrel
            by_cases hcE : cc < E p
            · have HS : Hid (shr E s' f2 cc (E p) acc = shr E s' n (p + 1) (E p) (BitVec.allOnes 32)) := hsh
              clear hsh
              have hcn : cc < n := by omega
              have hEc := hEb cc hcn
              have k3 := hI'.gra hcn
              have k4 : wr.cell? ⟨bN, cc * 19 + 18, none⟩ = some (.int .i64 (E cc)) := hI'.only.cell (hE cc hcn) (by simpa using hNS)
              have hb := band
              go_wp2_with fail
              go_roundg (n - E cc)
              case measure => omega
              case rel =>
                refine ⟨rfl, E cc, acc &&& (s' cc).2, f2 - 1, by omega, by omega, rfl, rfl, rfl, by omega, ?_⟩
                rw [← HS.out]
                obtain ⟨f3, rfl⟩ : ∃ f3, f2 = f3 + 1 := ⟨f2 - 1, by omega⟩
                simp [shr, hcE]
            · have hacc : acc = shr E s' n (p + 1) (E p) (BitVec.allOnes 32) := by
                rw [← hsh]
                cases f2 with
                | zero => rfl
                | succ f3 => simp [shr, hcE]
              have HA : Hid (acc &&& ~~~(s' p).1 = addd E s' n p) := by rw [hacc]; rfl
              clear hacc hsh
              obtain ⟨f', rfl⟩ : ∃ f', f = f' + 1 := ⟨f - 1, by omega⟩
              have k3 := hI'.dec hpn
              have hb := bnot
              by_cases hz : acc &&& ~~~(s' p).1 = 0
              · have hz' : (n32 (acc &&& ~~~(s' p).1) == 0) = true := by rw [n32_beq, decide_eq_true hz]
                clear hz
                go_wp2_with fail
                refine bodyPost_ret (results_none rfl _ _ _) rfl ?_
                refine ⟨rfl, ?_⟩
                have hz : acc &&& ~~~(s' p).1 = 0 := by rw [n32_beq] at hz'; exact of_decide_eq_true hz'
                have hA := HA.out
                rw [hz] at hA
                rw [← HU.out, up, if_pos (by omega), if_pos (by rw [Int.toNat_natCast]; exact hA.symm)]
                exact hI'
              · have hz' : (n32 (acc &&& ~~~(s' p).1) == 0) = false := by rw [n32_beq, decide_eq_false hz]
                clear hz
                go_wp2_with (go_at_call 29; refine (grant_inv hI' p hpn _).mono ?_; rintro e w' ⟨rfl, hI2⟩; have k5 : w'.cell? ⟨bl, 0, none⟩ = some (.slice (some ⟨bN, 0, none⟩) n n) := hI2.only.cell hl (by simpa using hlS); have k6 : w'.cell? ⟨bN, p * 19 + 17, none⟩ = some (.int .i64 (P p)) := hI2.only.cell (hP p hpn) (by simpa using hNS))
                go_roundg (P p + 1).toNat
                case measure => omega
                case rel =>
                  refine ⟨P p, _, f', by omega, by omega, rfl, rfl, by omega, hI2, ?_⟩
                  have hz : ¬ acc &&& ~~~(s' p).1 = 0 := by rw [n32_beq] at hz'; exact of_decide_eq_false hz'
                  have hA := HA.out
                  rw [hA] at hz
                  rw [← HU.out, hA, up, if_pos (by omega), Int.toNat_natCast, if_neg hz]
        · go_wp2_with fail
          go_end0
          refine ⟨rfl, ?_⟩
          rw [← HU.out]
          cases f with
          | zero => exact hI'
          | succ f' => rw [up, if_neg (by omega)]; exact hI'
end Go.Proofs.Qxb6000012a
