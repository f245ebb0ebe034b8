import Derived.Test.Qxb6000043aReverse
namespace Go.Proofs.Qxb6000043a
open Go.RowKit

/-- The rows of a graph as stepBound holds them: block bo, the rows in the blocks B v; all these blocks meet D. -/
structure VG (w : World) (D : Nat → Prop) (bo N : Nat) (E : Nat → List Nat) (B : Nat → Nat) : Prop where
  db : D bo
  top : w.rowIs bo 57 N (fun v => .slice (some ⟨B v, 0, none⟩) (E v).length (E v).length)
  rows : ∀ v, v < N → D (B v) ∧ w.rowIs (B v) 54 (E v).length (fun i => .int .i32 (atN (E v) i))

theorem VG.below {w w' : World} {D : Nat → Prop} {bo N : Nat} {E : Nat → List Nat} {B : Nat → Nat} (h : VG w D bo N E B) (hb : Below w.heap.size w w') : VG w' D bo N E B :=
  ⟨h.db, Below.row hb h.top.lt h.top, fun v hv => ⟨(h.rows v hv).1, Below.row hb (h.rows v hv).2.lt (h.rows v hv).2⟩⟩

theorem Rev.grid {w wr : World} {N : Nat} {Wt : Nat → List Nat} (h : Rev w wr N Wt) : GridN wr (some ⟨w.heap.size, 0, none⟩) N Wt := by
  obtain ⟨V, h1, h2, h3⟩ := h.row
  let A : Nat → Option Addr := fun x => match V x with | .slice a _ _ => a | _ => none
  let C : Nat → Nat := fun x => match V x with | .slice _ _ c => c | _ => 0
  have hf : ∀ x, x < N → V x = .slice (A x) (Wt x).length (C x) := by
    intro x hx
    rcases (h2 x hx).2 with ⟨e, h0⟩ | ⟨g, cap, cur, e, _⟩
    · simp only [A, C, e, h0]
    · simp only [A, C, e]
  refine ⟨A, C, (Row.of_rowIs h1).congr hf, fun x hx hl => ?_⟩
  have hl' : 0 < (Wt x).length := hl
  rcases (h2 x hx).2 with ⟨e, h0⟩ | ⟨g, cap, cur, e, _⟩
  · omega
  · refine ⟨g, 0, by simp only [A, e], fun i hi => ?_⟩
    have hi' : i < (Wt x).length := hi
    have := h2 x hx
    rw [e] at this
    rw [Nat.zero_add, this.cellAt i (by omega)]
    exact cv_at hi'

structure NV (w wr : World) (N : Nat) (E : Nat → List Nat) (t : Nat) : Prop where
  below : Below w.heap.size w wr
  row : ∃ B : Nat → Nat, wr.rowIs w.heap.size 57 N (upTo (fun v => .slice (some ⟨B v, 0, none⟩) (E v).length (E v).length) (.slice none 0 0) t) ∧ ∀ v, v < t → w.heap.size < B v ∧ wr.rowIs (B v) 54 (E v).length (fun i => .int .i32 (atN (E v) i))

theorem nv_step {w wr w1 : World} {N : Nat} {E : Nat → List Nat} {t : Nat} (h : NV w wr N E t) (hb : Below wr.heap.size wr w1)
    (hr : w1.rowIs wr.heap.size 54 (E t).length (fun i => .int .i32 (atN (E t) i))) :
    NV w (w1.setCell ⟨w.heap.size, t, none⟩ (.slice (some ⟨wr.heap.size, 0, none⟩) (E t).length (E t).length)) N E (t + 1) := by
  obtain ⟨B, h1, h2⟩ := h.row
  have hlt := h1.lt
  refine ⟨(h.below.trans (hb.mono h.below.size)).setCell (by simp) _, fun v => if v = t then wr.heap.size else B v, ?_, ?_⟩
  · refine ((Below.row hb hlt h1).set t _).congr (fun j _ => ?_)
    by_cases e : j = t
    · subst e; simp [upTo]
    · simp only [upTo, if_neg e]
      by_cases h : j < t
      · rw [if_pos h, if_pos (by omega)]
      · rw [if_neg h, if_neg (by omega)]
  · intro v hv
    by_cases e : v = t
    · subst e
      simp only [if_true]
      exact ⟨hlt, hr.setOther (by simp; omega) _⟩
    · simp only [if_neg e]
      obtain ⟨h3, h4⟩ := h2 v (by omega)
      exact ⟨h3, (Below.row hb h4.lt h4).setOther (by simp; omega) _⟩

set_option maxHeartbeats 4000000 in
theorem vrows_any (a : Option Addr) (N c : Nat) (E : Nat → List Nat) (w : World)
    (h : GridN w a N E) (b0 : N ≤ 4096) (bl : ∀ i, i < N → (E i).length ≤ 1048576) :
    Calls Try.prog 37 #[.slice a N c] w fun e w' => e = .returned (.slice (some ⟨w.heap.size, 0, none⟩) N N) ∧ Below w.heap.size w w' ∧ ∃ B, VG w' (fun k => w.heap.size ≤ k) w.heap.size N E B := by
  obtain ⟨A, C, hR, hx⟩ := h
  have hmk := make55 N (by omega)
  go_enter Try.func37, Try.ntmps37
  go_wp2_with fail
  clear hmk
  go_loopg [4] N (fun g s5 wr => ∃ t : Nat, t ≤ N ∧ g = N - t ∧ s5 = .int .i64 t ∧ NV w wr N E t)
  case atStart => exact ⟨0, Nat.zero_le _, rfl, rfl, (Below.refl _ _).alloc (Nat.le_refl _) _, fun _ => 0, (World.rowIs_made w (.slice none 0 0) N 57).congr (fun i _ => by simp [upTo]), fun i hi => absurd hi (Nat.not_lt_zero _)⟩
  case round =>
    obtain ⟨t, ht, rfl, rfl, hK⟩ := hrel
    by_cases hlt : t < N
    · obtain ⟨b, off, rfl, hc⟩ := hR (by omega)
      obtain ⟨wo, hwo⟩ : ∃ wo : World, wo = wr := ⟨_, rfl⟩
      have q0 := hc t hlt
      have q1 : wr.cell? ⟨b, off + t, none⟩ = some (.slice (A t) (E t).length (C t)) := Below.at hK.below (lt_of_cell q0) q0
      have qr := (hx t hlt).below hK.below
      have hbt := bl t hlt
      have hltz : (t : Int) < (N : Int) := by omega
      rw [← hwo] at hK q1 qr ⊢
      have hmk := make57 (E t).length hbt wo
      clear hc hR bl hx q0 hwo
      go_wp2_with fail
      clear hmk
      go_loopg [6] (E t).length (fun g s6 wi => ∃ u : Nat, u ≤ (E t).length ∧ g = (E t).length - u ∧ s6 = .int .i64 u ∧ Below wo.heap.size wo wi ∧ wi.rowIs wo.heap.size 54 (E t).length (upTo (fun i => .int .i32 (atN (E t) i)) (.int .i32 0) u))
      case atStart => exact ⟨0, Nat.zero_le _, rfl, rfl, (Below.refl _ _).alloc (Nat.le_refl _) _, (World.rowIs_made wo (.int .i32 0) (E t).length 54).congr (fun i _ => by simp [upTo])⟩
      case round =>
        obtain ⟨u, hu, rfl, rfl, hB, hS⟩ := hrel
        have q2 : wr.cell? ⟨b, off + t, none⟩ = some (.slice (A t) (E t).length (C t)) := Below.at hB (lt_of_cell q1) q1
        by_cases hul : u < (E t).length
        · obtain ⟨b', off', e', hc'⟩ := qr (by omega)
          have q3 : wr.cell? ⟨b', off' + u, none⟩ = some (.int .i32 (atN (E t) u)) := Below.at hB (lt_of_cell (hc' u hul)) (hc' u hul)
          have hulz : (u : Int) < (((E t).length : Nat) : Int) := by omega
          rw [e'] at q2
          obtain ⟨v, q4⟩ : ∃ v, wr.cell? ⟨wo.heap.size, u, none⟩ = some v := ⟨_, hS.cell hul⟩
          have q5 : wr.frozen? ⟨wo.heap.size, u, none⟩ = false := hS.frozen u
          clear qr hc' q1 hK
          go_wp2_with fail
          go_roundg ((E t).length - (u + 1))
          case measure => omega
          case rel => exact ⟨u + 1, by omega, rfl, by go_num, hB.setCell (by simp) _, (hS.set u _).congr (fun j _ => upTo_set (fun i => Value.int .i32 (atN (E t) i)) (.int .i32 0) u j)⟩
        · obtain rfl : u = (E t).length := by omega
          have hK2 := nv_step hK hB (hS.congr (fun i hi => by simp [upTo, hi]))
          have q6 : ∃ v, wr.cell? ⟨w.heap.size, t, none⟩ = some v ∧ wr.frozen? ⟨w.heap.size, t, none⟩ = false := by
            obtain ⟨B, h1, _⟩ := hK.row
            have h2 := Below.row hB h1.lt h1
            exact ⟨_, h2.cell hlt, h2.frozen t⟩
          obtain ⟨v, q6, q7⟩ := q6
          clear qr q1 hK hS hB
          go_wp2_with fail
          go_roundg (N - (t + 1))
          case measure => omega
          case rel => exact ⟨t + 1, by omega, rfl, by go_num, hK2⟩
    · obtain rfl : t = N := by omega
      clear hR bl hx
      go_wp2_with fail
      go_ret
      obtain ⟨B, h1, h2⟩ := hK.row
      exact ⟨rfl, hK.below, B, Nat.le_refl _, h1.congr (fun i hi => by simp [upTo, hi]), fun v hv => ⟨Nat.le_of_lt (h2 v hv).1, (h2 v hv).2⟩⟩
end Go.Proofs.Qxb6000043a
