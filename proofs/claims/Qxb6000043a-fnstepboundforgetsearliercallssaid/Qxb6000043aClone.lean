import Derived.Test.Qxb6000043aMem
namespace Go.Proofs.Qxb6000043a
open Go.RowKit

set_option maxHeartbeats 1000000 in
theorem cloneB_core (b off n c : Nat) (f : Nat → Int) (w : World) (hn : n ≤ 1048576)
    (hL : ∀ i, i < n → w.cell? ⟨b, off + i, none⟩ = some (Value.int .i32 (f i))) (hb : 0 < n → b < w.heap.size) (a : Option Addr) (ha : a.isNone = false) (hab : 0 < n → a = some ⟨b, off, none⟩) :
    Calls Try.prog 35 #[.slice a n c] w fun e w' => e = .returned (.slice (some ⟨w.heap.size, 0, none⟩) n n) ∧ Below w.heap.size w w' ∧ w'.rowIs w.heap.size 21 n (fun i => Value.int .i32 (f i)) := by
  have hmk := make35 n hn
  have hnil := fun (w : World) => Lib.run_eql_slice_nil (P := Try.prog) w 35 21 a n c 0 0 Try.underlying35
  go_enter Try.func35, Try.ntmps35
  go_wp2_with fail
  clear hmk hnil
  go_loopg [4] n (fun g i wr => ∃ t : Nat, t ≤ n ∧ g = n - t ∧ i = .int .i64 t ∧ Below w.heap.size w wr ∧ wr.rowIs w.heap.size 21 n (upTo (fun i => Value.int .i32 (f i)) (.int .i32 0) t))
  case atStart => exact ⟨0, Nat.zero_le _, rfl, rfl, (Below.refl _ _).alloc (Nat.le_refl _) _, (World.rowIs_made w (.int .i32 0) n 21).congr (fun i _ => by simp [upTo])⟩
  case round =>
    obtain ⟨t, ht, rfl, rfl, hB, hR⟩ := hrel
    by_cases hlt : t < n
    · obtain rfl := hab (by omega)
      have q1 : wr.cell? ⟨b, off + t, none⟩ = some (Value.int .i32 (f t)) := Below.at hB (hb (by omega)) (hL t hlt)
      obtain ⟨v, q2⟩ : ∃ v, wr.cell? ⟨w.heap.size, t, none⟩ = some v := ⟨_, hR.cell hlt⟩
      have q3 : wr.frozen? ⟨w.heap.size, t, none⟩ = false := hR.frozen t
      have hltz : (t : Int) < (n : Int) := by omega
      clear hL
      go_wp2_with fail
      go_roundg (n - (t + 1))
      case measure => omega
      case rel => exact ⟨t + 1, by omega, rfl, by go_num, hB.setCell (by simp) _, (hR.set t _).congr (fun j _ => upTo_set (fun i => Value.int .i32 (f i)) (.int .i32 0) t j)⟩
    · obtain rfl : t = n := by omega
      clear hL
      go_wp2_with fail
      go_ret
      exact ⟨rfl, hB, hR.congr (fun i hi => by simp [upTo, hi])⟩

set_option maxHeartbeats 1000000 in
theorem cloneB_nil (c : Nat) (w : World) : Calls Try.prog 35 #[.slice none 0 c] w fun e w' => e = .returned (.slice none 0 0) ∧ w = w' := by
  have hnil := fun (w : World) => Lib.run_eql_slice_nil (P := Try.prog) w 35 21 none 0 c 0 0 Try.underlying35
  go_enter Try.func35, Try.ntmps35
  go_wp2_with fail
  go_ret
  exact ⟨rfl, rfl⟩

theorem cloneB_any (a : Option Addr) (n c : Nat) (f : Nat → Int) (w : World) (hn : n ≤ 1048576) (hR : Row w a n (fun i => Value.int .i32 (f i))) :
    Calls Try.prog 35 #[.slice a n c] w fun e w' => ∃ a' c', e = .returned (.slice a' n c') ∧ Row w' a' n (fun i => Value.int .i32 (f i)) ∧ Below w.heap.size w w' ∧ (∀ b off, a' = some ⟨b, off, none⟩ → w.heap.size ≤ b) := by
  cases a with
  | none =>
    obtain rfl := hR.of_none rfl
    refine (cloneB_nil c w).mono ?_
    rintro e w' ⟨rfl, rfl⟩
    exact ⟨none, 0, rfl, Row.nil, Below.refl _ _, fun _ _ h => by cases h⟩
  | some ad =>
    by_cases hp : 0 < n
    · obtain ⟨b, off, e, hc⟩ := hR hp
      refine (cloneB_core b off n c f w hn hc (fun _ => lt_of_cell (hc 0 hp)) (some ad) rfl (fun _ => e)).mono ?_
      rintro e w' ⟨rfl, hB, hr⟩
      exact ⟨_, _, rfl, Row.of_rowIs hr, hB, fun _ _ h => by cases h; exact Nat.le_refl _⟩
    · refine (cloneB_core 0 0 n c f w hn (fun i hi => absurd hi (by omega)) (fun h => absurd h hp) (some ad) rfl (fun h => absurd h hp)).mono ?_
      rintro e w' ⟨rfl, hB, hr⟩
      exact ⟨_, _, rfl, Row.of_rowIs hr, hB, fun _ _ h => by cases h; exact Nat.le_refl _⟩

/-- The copy, t rows made. -/
structure NClone (w wr : World) (N : Nat) (L : Nat → Nat) (Z : Nat → Nat → Int) (t : Nat) : Prop where
  below : Below w.heap.size w wr
  row : ∃ (A : Nat → Option Addr) (C : Nat → Nat), wr.rowIs w.heap.size 35 N (upTo (fun i => .slice (A i) (L i) (C i)) (.slice none 0 0) t) ∧ ∀ i, i < t → Row wr (A i) (L i) (fun j => .int .i32 (Z i j)) ∧ ∀ b off, A i = some ⟨b, off, none⟩ → w.heap.size < b

theorem nclone_step {w wr w1 : World} {N : Nat} {L : Nat → Nat} {Z : Nat → Nat → Int} {t : Nat} {a' : Option Addr} {c' : Nat} (h : NClone w wr N L Z t) (ht : t < N) (hc : Row w1 a' (L t) (fun j => .int .i32 (Z t j))) (hb : Below wr.heap.size wr w1)
    (hfr : ∀ b off, a' = some ⟨b, off, none⟩ → wr.heap.size ≤ b) :
    NClone w (w1.setCell ⟨w.heap.size, t, none⟩ (.slice a' (L t) c')) N L Z (t + 1) := by
  obtain ⟨A, C, h1, h2⟩ := h.row
  have hlt := h1.lt
  refine ⟨(h.below.trans (hb.mono h.below.size)).setCell (by simp) _, fun j => if j = t then a' else A j, fun j => if j = t then c' else C j, ?_, ?_⟩
  · refine ((Below.row hb hlt h1).set t _).congr (fun j _ => ?_)
    by_cases e : j = t
    · subst e; simp [upTo]
    · simp only [upTo, if_neg e]
      by_cases h : j < t
      · rw [if_pos h, if_pos (by omega)]
      · rw [if_neg h, if_neg (by omega)]
  · intro i hi
    by_cases e : i = t
    · subst e
      simp only [if_true]
      refine ⟨hc.setOther (fun b off e1 _ => ?_), fun b off e1 => ?_⟩
      · have := hfr b off e1; simp only; omega
      · have := hfr b off e1; omega
    · simp only [if_neg e]
      obtain ⟨h3, h4⟩ := h2 i (by omega)
      exact ⟨(h3.below hb).setOther (fun b off e1 _ => by have := h4 b off e1; simp only; omega), h4⟩

set_option maxHeartbeats 2000000 in
theorem cloneN_core (a : Option Addr) (N c : Nat) (L : Nat → Nat) (Z : Nat → Nat → Int) (w : World) (hN : N ≤ 1048576) (ha : a.isNone = false) (hn : Grid w a N L Z) (hl : ∀ i, i < N → L i ≤ 1048576) :
    Calls Try.prog 13 #[.slice a N c] w fun e w' => e = .returned (.slice (some ⟨w.heap.size, 0, none⟩) N N) ∧ NClone w w' N L Z N := by
  obtain ⟨A, C, hR, hC⟩ := hn
  have hmk := make22 N hN
  have hnil := fun (w : World) => Lib.run_eql_slice_nil (P := Try.prog) w 22 35 a N c 0 0 Try.underlying22
  go_enter Try.func13, Try.ntmps13
  go_wp2_with fail
  clear hmk hnil
  go_loopg [4] N (fun g i wr => ∃ t : Nat, t ≤ N ∧ g = N - t ∧ i = .int .i64 t ∧ NClone w wr N L Z t)
  case atStart => exact ⟨0, Nat.zero_le _, rfl, rfl, (Below.refl _ _).alloc (Nat.le_refl _) _, fun _ => none, fun _ => 0, (World.rowIs_made w (.slice none 0 0) N 35).congr (fun i _ => by simp [upTo]), fun i hi => absurd hi (Nat.not_lt_zero _)⟩
  case round =>
    obtain ⟨t, ht, rfl, rfl, hK⟩ := hrel
    by_cases hlt : t < N
    · obtain ⟨b, off, rfl, hc⟩ := hR (by omega)
      have q1 : wr.cell? ⟨b, off + t, none⟩ = some (.slice (A t) (L t) (C t)) := Below.at hK.below (lt_of_cell (hc t hlt)) (hc t hlt)
      have hcol := (hC t hlt).below hK.below
      have hltz : (t : Int) < (N : Int) := by omega
      have hbt := hl t hlt
      clear hR hC hc hl
      obtain ⟨wo, hwo⟩ : ∃ wo : World, wo = wr := ⟨_, rfl⟩
      rw [← hwo] at q1 hcol hK ⊢
      clear hwo
      go_wp2_with fail
      refine (cloneB_any (A t) (L t) (C t) (Z t) wo hbt hcol).mono ?_
      rintro e w1 ⟨a', c', rfl, hcol', hB1, hfr⟩
      have hK2 := nclone_step (c' := c') hK hlt hcol' hB1 hfr
      have q2 : ∃ v, w1.cell? ⟨w.heap.size, t, none⟩ = some v ∧ w1.frozen? ⟨w.heap.size, t, none⟩ = false := by
        obtain ⟨A', C', h1, _⟩ := hK.row
        have h2 := Below.row hB1 h1.lt h1
        exact ⟨_, h2.cell hlt, h2.frozen t⟩
      obtain ⟨v, q2, q3⟩ := q2
      clear hK hcol hcol' hB1 hfr
      go_wp2_with fail
      go_roundg (N - (t + 1))
      case measure => omega
      case rel => exact ⟨t + 1, by omega, rfl, by go_num, hK2⟩
    · obtain rfl : t = N := by omega
      clear hR hC hl
      go_wp2_with fail
      go_ret
      exact ⟨rfl, hK⟩

set_option maxHeartbeats 1000000 in
theorem cloneN_nil (c : Nat) (w : World) : Calls Try.prog 13 #[.slice none 0 c] w fun e w' => e = .returned (.slice none 0 0) ∧ w = w' := by
  have hnil := fun (w : World) => Lib.run_eql_slice_nil (P := Try.prog) w 22 35 none 0 c 0 0 Try.underlying22
  go_enter Try.func13, Try.ntmps13
  go_wp2_with fail
  go_ret
  exact ⟨rfl, rfl⟩

theorem cloneN_any (a : Option Addr) (N c : Nat) (L : Nat → Nat) (Z : Nat → Nat → Int) (w : World) (hN : N ≤ 1048576) (hnl : a = none → N = 0) (hn : Grid w a N L Z) (hl : ∀ i, i < N → L i ≤ 1048576) :
    Calls Try.prog 13 #[.slice a N c] w fun e w' => ∃ a' c', e = .returned (.slice a' N c') ∧ Grid w' a' N L Z ∧ Below w.heap.size w w' := by
  cases a with
  | none =>
    obtain rfl := hnl rfl
    refine (cloneN_nil c w).mono ?_
    rintro e w' ⟨rfl, rfl⟩
    exact ⟨none, 0, rfl, hn, Below.refl _ _⟩
  | some ad =>
    refine (cloneN_core (some ad) N c L Z w hN rfl hn hl).mono ?_
    rintro e w' ⟨rfl, hK⟩
    obtain ⟨A, C, h1, h2⟩ := hK.row
    exact ⟨_, _, rfl, ⟨A, C, (Row.of_rowIs h1).congr (fun i hi => by simp [upTo, hi]), fun i hi => (h2 i hi).1⟩, hK.below⟩
end Go.Proofs.Qxb6000043a
