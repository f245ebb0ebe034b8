import Derived.Test.Qxb6000023aClone
namespace Go.Proofs.Qxb6000023a
open Go.RowKit

/-- A slice of slices of bytes: each nil, or bytes. -/
def Nest (w : World) (a : Option Addr) (N : Nat) (lo : Nat → Option (List Nat)) : Prop :=
  ∃ (A : Nat → Option Addr) (C : Nat → Nat), Row w a N (fun i => .slice (A i) (lenO (lo i)) (C i)) ∧ ∀ i, i < N → Col w (A i) (lenO (lo i)) (lo i)

theorem Nest.below {w w' : World} {a : Option Addr} {N : Nat} {lo : Nat → Option (List Nat)} (h : Nest w a N lo) (hb : Below w.heap.size w w') : Nest w' a N lo := by
  obtain ⟨A, C, h1, h2⟩ := h
  exact ⟨A, C, h1.below hb, fun i hi => (h2 i hi).below hb⟩

/-- The copy, t rows made. -/
structure NClone (w wr : World) (N : Nat) (lo : Nat → Option (List Nat)) (t : Nat) : Prop where
  below : Below w.heap.size w wr
  row : ∃ (A : Nat → Option Addr) (C : Nat → Nat), wr.rowIs w.heap.size 22 N (upTo (fun i => .slice (A i) (lenO (lo i)) (C i)) (.slice none 0 0) t) ∧ ∀ i, i < t → Col wr (A i) (lenO (lo i)) (lo i)

theorem nclone_step {w wr w1 : World} {N : Nat} {lo : Nat → Option (List Nat)} {t : Nat} {a' : Option Addr} {c' : Nat} (h : NClone w wr N lo t) (ht : t < N) (hc : Col w1 a' (lenO (lo t)) (lo t)) (hb : Below wr.heap.size wr w1) :
    NClone w (w1.setCell ⟨w.heap.size, t, none⟩ (.slice a' (lenO (lo t)) c')) N lo (t + 1) := by
  obtain ⟨A, C, h1, h2⟩ := h.row
  have hlt := h1.lt
  refine ⟨(h.below.trans (hb.mono h.below.size)).setCell (by simp) _, fun j => if j = t then a' else A j, fun j => if j = t then c' else C j, ?_, ?_⟩
  · refine ((Below.row hb hlt h1).set t _).congr (fun j _ => ?_)
    by_cases e : j = t
    · subst e; simp [upTo]
    · rw [if_neg e]
      simp only [upTo]
      by_cases hj : j < t
      · rw [if_pos hj, if_pos (by omega)]; simp [e]
      · rw [if_neg hj, if_neg (by omega)]
  · intro i hi
    -- the row that is written is none of the rows of bytes: its element type tells it apart
    have hbs : ∀ (a : Option Addr) (n : Nat) (o : Option (List Nat)), Col w1 a n o → Col (w1.setCell ⟨w.heap.size, t, none⟩ (.slice a' (lenO (lo t)) c')) a n o := by
      intro a n o hcol
      cases o with
      | none => exact hcol
      | some l =>
        refine ⟨hcol.1, hcol.2.1, fun hl => ?_⟩
        obtain ⟨b, off, e, hcell⟩ := hcol.2.2 hl
        refine ⟨b, off, e, fun i hi => ?_⟩
        by_cases hbb : b = w.heap.size
        · exfalso
          subst hbb
          obtain ⟨c, hh, hsz, hcc⟩ := Below.row hb hlt h1
          have h5 := hcell 0 hl
          simp only [World.cell?, hh] at h5
          have h6 : (0 : Nat) < l.length := hl
          by_cases hof : off + 0 < N
          · rw [hcc _ hof] at h5
            by_cases hot : off < t <;> simp [upTo, hot] at h5
          · rw [Array.getElem?_eq_none (by omega)] at h5
            simp at h5
        · rw [World.cell?_setCell_other _ _ _ _ (fun e => hbb (congrArg Addr.block e).symm)]
          exact hcell i hi
    by_cases e : i = t
    · subst e; simp only [if_pos trivial]; exact hbs _ _ _ hc
    · simp only [if_neg e]; exact hbs _ _ _ ((h2 i (by omega)).below hb)

theorem make36 (n : Nat) (h : n ≤ 1048576) (w : World) :
    (Instr.makeSlice 36 (.int .i64 (n : Int)) (.int .i64 (n : Int))).run Try.prog w = .ok (.slice (some ⟨w.heap.size, 0, none⟩) n n) (w.alloc (.cells (madeCells #[.slice none 0 0] n) 22)) :=
  run_make_row' 36 22 (.slice none 0 0) 24 Try.underlying36 Try.info22 rfl .i64 .i64 n (by omega) (by omega) w

set_option maxHeartbeats 2000000 in
theorem cloneN_core (a : Option Addr) (N c : Nat) (lo : Nat → Option (List Nat)) (w : World) (hN : N ≤ 1048576) (ha : a.isNone = false) (hn : Nest w a N lo) (hl : ∀ i, i < N → lenO (lo i) ≤ 1048576) :
    Calls Try.prog 20 #[.slice a N c] w fun e w' => e = .returned (.slice (some ⟨w.heap.size, 0, none⟩) N N) ∧ NClone w w' N lo N := by
  obtain ⟨A, C, hR, hC⟩ := hn
  have hmk := make36 N hN
  have hnil := fun (w : World) => Lib.run_eql_slice_nil (P := Try.prog) w 36 22 a N c 0 0 Try.underlying36
  go_enter Try.func20, Try.ntmps20
  go_wp2_with fail
  clear hmk hnil
  go_loopg [4] N (fun g i wr => ∃ t : Nat, t ≤ N ∧ g = N - t ∧ i = .int .i64 t ∧ NClone w wr N lo t)
  case atStart => exact ⟨0, Nat.zero_le _, rfl, rfl, (Below.refl _ _).alloc (Nat.le_refl _) _, fun _ => none, fun _ => 0, (World.rowIs_made w (.slice none 0 0) N 22).congr (fun i _ => by simp [upTo]), fun i hi => absurd hi (Nat.not_lt_zero _)⟩
  case round =>
    obtain ⟨t, ht, rfl, rfl, hK⟩ := hrel
    by_cases hlt : t < N
    · obtain ⟨b, off, rfl, hc⟩ := hR (by omega)
      have q1 : wr.cell? ⟨b, off + t, none⟩ = some (.slice (A t) (lenO (lo t)) (C t)) := Below.at hK.below (lt_of_cell (hc t hlt)) (hc t hlt)
      have hcol := (hC t hlt).below hK.below
      have hltz : (t : Int) < (N : Int) := by omega
      have hbt := hl t hlt
      clear hR hC hc hl
      obtain ⟨wo, hwo⟩ : ∃ wo : World, wo = wr := ⟨_, rfl⟩
      rw [← hwo] at q1 hcol hK ⊢
      clear hwo
      go_wp2_with fail
      refine (cloneCol_any (A t) (lenO (lo t)) (C t) (lo t) wo hbt hcol).mono ?_
      rintro e w1 ⟨a', c', rfl, hcol', hB1⟩
      have hK2 := nclone_step (c' := c') hK hlt hcol' hB1
      have q2 : ∃ v, w1.cell? ⟨w.heap.size, t, none⟩ = some v ∧ w1.frozen? ⟨w.heap.size, t, none⟩ = false := by
        obtain ⟨A', C', h1, _⟩ := hK.row
        have h2 := Below.row hB1 h1.lt h1
        exact ⟨_, h2.cell hlt, h2.frozen t⟩
      obtain ⟨v, q2, q3⟩ := q2
      clear hK hcol hcol' hB1
      go_wp2_with fail
      go_roundg (N - (t + 1))
      case measure => omega
      case rel => exact ⟨t + 1, by omega, rfl, by go_num, hK2⟩
    · obtain rfl : t = N := by omega
      clear hR hC hl
      go_wp2_with fail
      go_ret
      exact ⟨rfl, hK⟩

set_option maxHeartbeats 1000000 in
theorem cloneN_nil (c : Nat) (w : World) : Calls Try.prog 20 #[.slice none 0 c] w fun e w' => e = .returned (.slice none 0 0) ∧ w = w' := by
  have hnil := fun (w : World) => Lib.run_eql_slice_nil (P := Try.prog) w 36 22 none 0 c 0 0 Try.underlying36
  go_enter Try.func20, Try.ntmps20
  go_wp2_with fail
  go_ret
  exact ⟨rfl, rfl⟩

theorem cloneN_any (a : Option Addr) (N c : Nat) (lo : Nat → Option (List Nat)) (w : World) (hN : N ≤ 1048576) (hnl : a = none → N = 0) (hn : Nest w a N lo) (hl : ∀ i, i < N → lenO (lo i) ≤ 1048576) :
    Calls Try.prog 20 #[.slice a N c] w fun e w' => ∃ a' c', e = .returned (.slice a' N c') ∧ Nest w' a' N lo ∧ Below w.heap.size w w' := by
  cases a with
  | none =>
    obtain rfl := hnl rfl
    refine (cloneN_nil c w).mono ?_
    rintro e w' ⟨rfl, rfl⟩
    exact ⟨none, 0, rfl, hn, Below.refl _ _⟩
  | some ad =>
    refine (cloneN_core (some ad) N c lo w hN rfl hn hl).mono ?_
    rintro e w' ⟨rfl, hK⟩
    obtain ⟨A, C, h1, h2⟩ := hK.row
    exact ⟨_, _, rfl, ⟨A, C, (Row.of_rowIs h1) |> fun h hp => by
      obtain ⟨b, off, e, hc⟩ := h hp
      exact ⟨b, off, e, fun i hi => by rw [hc i hi]; simp [upTo, hi]⟩, h2⟩, hK.below⟩
end Go.Proofs.Qxb6000023a
