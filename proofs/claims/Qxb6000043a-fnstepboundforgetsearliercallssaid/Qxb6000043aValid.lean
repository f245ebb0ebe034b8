import Derived.Test.Qxb6000043aMem
namespace Go.Proofs.Qxb6000043a
open Go.RowKit

/-- Every edge leads to a vertex of the graph, none to itself, and no row names one twice. -/
def Valid (N : Nat) (L : Nat → Nat) (Z : Nat → Nat → Int) : Prop :=
  ∀ v, v < N → ∀ i, i < L v → 0 ≤ Z v i ∧ Z v i < N ∧ Z v i ≠ v ∧ ∀ j, j < i → Z v j ≠ Z v i

def ValidPost (N : Nat) (L : Nat → Nat) (Z : Nat → Nat → Int) (w : World) (e : Ending) (w' : World) : Prop :=
  ∃ r, e = .returned (.bool r) ∧ Below w.heap.size w w' ∧ (r = true → Valid N L Z)

set_option maxHeartbeats 4000000 in
theorem valid_any (a : Option Addr) (N c : Nat) (L : Nat → Nat) (Z : Nat → Nat → Int) (w : World)
    (h : Grid w a N L Z) (b0 : N ≤ 4096) (bl : ∀ i, i < N → L i ≤ 1048576) (bz : ∀ v, v < N → ∀ i, i < L v → -2147483648 ≤ Z v i ∧ Z v i ≤ 2147483647) :
    Calls Try.prog 12 #[.slice a N c] w (ValidPost N L Z w) := by
  obtain ⟨A, C, hR, hx⟩ := h
  have hmk := make39 N (by omega)
  go_enter Try.func12, Try.ntmps12
  go_wp2_with fail
  clear hmk
  go_loopg [5] N (fun g s5 wr => ∃ t : Nat, t ≤ N ∧ g = N - t ∧ s5 = .int .i64 t ∧ Below w.heap.size w wr ∧ (∃ S : Nat → Int, wr.rowIs w.heap.size 3 N (fun x => .int .i64 (S x))) ∧ ∀ v, v < t → ∀ i, i < L v → 0 ≤ Z v i ∧ Z v i < N ∧ Z v i ≠ v ∧ ∀ j, j < i → Z v j ≠ Z v i)
  case atStart => exact ⟨0, Nat.zero_le _, rfl, rfl, (Below.refl _ _).alloc (Nat.le_refl _) _, ⟨fun _ => 0, World.rowIs_made w (.int .i64 0) N 3⟩, fun i hi => absurd hi (Nat.not_lt_zero _)⟩
  case round =>
    obtain ⟨t, ht, rfl, rfl, hB, ⟨S, hS⟩, hall⟩ := hrel
    have HA : Hid (∀ v, v < t → ∀ i, i < L v → 0 ≤ Z v i ∧ Z v i < N ∧ Z v i ≠ v ∧ ∀ j, j < i → Z v j ≠ Z v i) := hall
    clear hall
    by_cases hlt : t < N
    · obtain ⟨b, off, rfl, hc⟩ := hR (by omega)
      have q0 := hc t hlt
      have qr := hx t hlt
      have hbt := bl t hlt
      have hbz := bz t hlt
      have hltz : (t : Int) < (N : Int) := by omega
      clear hc hR bl bz hx
      go_wp2_with fail
      go_loopg [6] (L t) (fun g s6 wi => ∃ u : Nat, u ≤ L t ∧ g = L t - u ∧ s6 = .int .i64 u ∧ Below w.heap.size w wi ∧ (∃ S : Nat → Int, wi.rowIs w.heap.size 3 N (fun x => .int .i64 (S x)) ∧ ∀ j, j < u → S (Z t j).toNat = t + 1) ∧ ∀ i, i < u → 0 ≤ Z t i ∧ Z t i < N ∧ Z t i ≠ t ∧ ∀ j, j < i → Z t j ≠ Z t i)
      case atStart => exact ⟨0, Nat.zero_le _, rfl, rfl, hB, ⟨S, hS, fun j hj => absurd hj (Nat.not_lt_zero _)⟩, fun i hi => absurd hi (Nat.not_lt_zero _)⟩
      case round =>
        clear hB hS
        obtain ⟨u, hu, rfl, rfl, hB, ⟨S, hS, hm⟩, hin⟩ := hrel
        have HM : Hid (∀ j, j < u → S (Z t j).toNat = t + 1) := hm
        have HI : Hid (∀ i, i < u → 0 ≤ Z t i ∧ Z t i < N ∧ Z t i ≠ t ∧ ∀ j, j < i → Z t j ≠ Z t i) := hin
        clear hm hin
        have q1 : wr.cell? ⟨b, off + t, none⟩ = some (.slice (A t) (L t) (C t)) := Below.at hB (lt_of_cell q0) q0
        by_cases hul : u < L t
        · obtain ⟨b', off', e', hc'⟩ := qr (by omega)
          have q2 : wr.cell? ⟨b', off' + u, none⟩ = some (.int .i32 (Z t u)) := Below.at hB (lt_of_cell (hc' u hul)) (hc' u hul)
          have hbu := hbz u hul
          have hulz : (u : Int) < (L t : Int) := by omega
          rw [e'] at q1
          obtain ⟨z, hz⟩ : ∃ z, z = Z t u := ⟨_, rfl⟩
          rw [← hz] at q2 hbu
          have HZ : Hid (z = Z t u) := hz
          clear qr hc' hbz q0 hz
          by_cases g1 : z < 0
          · have d1 : decide (z < 0) = true := by simpa using g1
            go_wp2_with fail
            go_ret
            exact ⟨false, rfl, hB, by simp⟩
          have d1 : decide (z < 0) = false := by simpa using g1
          obtain ⟨x, rfl⟩ := Int.eq_ofNat_of_zero_le (by omega : 0 ≤ z)
          by_cases g2 : N ≤ x
          · have d2 : decide ((N : Int) ≤ (x : Int)) = true := by simpa using g2
            go_wp2_with fail
            go_ret
            exact ⟨false, rfl, hB, by simp⟩
          have d2 : decide ((N : Int) ≤ (x : Int)) = false := by simp; omega
          by_cases g3 : x = t
          · have d3 : ((x : Int) == (t : Int)) = true := by simp; omega
            go_wp2_with fail
            go_ret
            exact ⟨false, rfl, hB, by simp⟩
          have d3 : ((x : Int) == (t : Int)) = false := by simp; omega
          have q3 : wr.cell? ⟨w.heap.size, x, none⟩ = some (.int .i64 (S x)) := hS.cell (by omega)
          have q4 : wr.frozen? ⟨w.heap.size, x, none⟩ = false := hS.frozen x
          by_cases g4 : S x = t + 1
          · have d4 : (S x == ((t : Int) + 1)) = true := by simpa using g4
            go_wp2_with fail
            go_ret
            exact ⟨false, rfl, hB, by simp⟩
          have d4 : (S x == ((t : Int) + 1)) = false := by simpa using g4
          go_wp2_with fail
          go_roundg (L t - (u + 1))
          case measure => omega
          case rel =>
            have hz := HZ.out
            refine ⟨u + 1, by omega, rfl, by go_num, hB.setCell (by simp) _, ⟨fun j => if j = x then (t : Int) + 1 else S j, (hS.set x _).congr (fun j _ => by by_cases e : j = x <;> simp [e]), fun j hj => ?_⟩, fun i hi => ?_⟩
            · by_cases e : j = u
              · subst e
                have e2 : (Z t j).toNat = x := by omega
                simp [e2]
              · have := HM.out j (by omega)
                simp only
                split
                · rfl
                · exact this
            · by_cases e : i = u
              · subst e
                refine ⟨by omega, by omega, by omega, fun j hj e => g4 ?_⟩
                have := HM.out j hj
                have e2 : (Z t j).toNat = x := by omega
                rw [e2] at this
                exact this
              · exact HI.out i (by omega)
        · obtain rfl : u = L t := by omega
          clear qr hbz q0
          go_wp2_with fail
          go_roundg (N - (t + 1))
          case measure => omega
          case rel =>
            refine ⟨t + 1, by omega, rfl, by go_num, hB, ⟨S, hS⟩, fun v hv => ?_⟩
            by_cases e : v = t
            · subst e; exact HI.out
            · exact HA.out v (by omega)
    · obtain rfl : t = N := by omega
      clear hR bl bz hx
      go_wp2_with fail
      go_ret
      exact ⟨true, rfl, hB, fun _ => HA.out⟩
end Go.Proofs.Qxb6000043a
