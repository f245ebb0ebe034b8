import Derived.Test.Qxb6000023aNest
namespace Go.Proofs.Qxb6000023a
open Go.RowKit

def KeyOk (K : Nat → Int) (M n : Nat) : Prop := (∀ j, j < M → 0 ≤ K j ∧ K j < n) ∧ ∀ i j, i < j → j < M → K i ≠ K j
def KeyPost (K : Nat → Int) (M n : Nat) (w : World) (e : Ending) (w' : World) : Prop :=
  ∃ r, e = .returned (.bool r) ∧ Below w.heap.size w w' ∧ (r = true → KeyOk K M n)

set_option maxHeartbeats 4000000 in
theorem keyFits_any (a : Option Addr) (M n c : Nat) (K : Nat → Int) (w : World) (hR : Row w a M (fun i => .int .i64 (K i))) (hM : M ≤ 4096) (hn : n ≤ 4096) :
    Calls Try.prog 18 #[.slice a M c, .int .i64 n, .bool true] w (KeyPost K M n w) := by
  have hmk := make37 n (by omega)
  go_enter Try.func18, Try.ntmps18
  go_wp2_with fail
  clear hmk
  go_loopg [8] M (fun g s8 wr => ∃ (t : Nat) (S : Nat → Bool), t ≤ M ∧ g = M - t ∧ s8 = .int .i64 t ∧ Below w.heap.size w wr ∧ wr.rowIs w.heap.size 4 n (fun i => .bool (S i)) ∧ (∀ j, j < t → 0 ≤ K j ∧ K j < n ∧ S (K j).toNat = true) ∧ ∀ i j, i < j → j < t → K i ≠ K j)
  case atStart => exact ⟨0, fun _ => false, Nat.zero_le _, rfl, rfl, (Below.refl _ _).alloc (Nat.le_refl _) _, World.rowIs_made w (.bool false) n 4, fun j hj => absurd hj (Nat.not_lt_zero _), fun i j _ hj => absurd hj (Nat.not_lt_zero _)⟩
  case round =>
    obtain ⟨t, S, ht, rfl, rfl, hB, hS, hin, hdis⟩ := hrel
    have HI : Hid ((∀ j, j < t → 0 ≤ K j ∧ K j < n ∧ S (K j).toNat = true) ∧ ∀ i j, i < j → j < t → K i ≠ K j) := ⟨hin, hdis⟩
    clear hin hdis
    by_cases hlt : t < M
    · obtain ⟨b, off, rfl, hc⟩ := hR (by omega)
      have q1 : wr.cell? ⟨b, off + t, none⟩ = some (.int .i64 (K t)) := Below.at hB (lt_of_cell (hc t hlt)) (hc t hlt)
      have hltz : (t : Int) < (M : Int) := by omega
      clear hc hR
      obtain ⟨x, hx⟩ : ∃ x, x = K t := ⟨_, rfl⟩
      have HX : Hid (x = K t) := hx
      rw [← hx] at q1
      clear hx
      by_cases d1 : x < 0
      · have d1' : decide (x < 0) = true := by simpa using d1
        go_wp2_with fail
        go_ret
        exact ⟨false, rfl, hB, by simp⟩
      · have d1' : decide (x < 0) = false := by simpa using d1
        by_cases d2 : x < n
        · obtain ⟨y, rfl⟩ := Int.eq_ofNat_of_zero_le (by omega : 0 ≤ x)
          have d2' : decide ((n : Int) ≤ (y : Int)) = false := by simp; omega
          have q2 := hS.cell (i := y) (by omega)
          have q3 := hS.frozen y
          cases hs : S y
          · rw [hs] at q2
            have HSY : Hid (S y = false) := hs
            clear hs
            go_wp2_with fail
            go_roundg (M - (t + 1))
            case measure => omega
            case rel =>
              refine ⟨t + 1, fun j => if j = y then true else S j, by omega, rfl, by go_num, hB.setCell (by simp) _, (hS.set y _).congr (fun j _ => by by_cases e : j = y <;> simp [e]), fun j hj => ?_, fun i j hij hj => ?_⟩
              · by_cases e : j = t
                · subst e
                  rw [← HX.out]
                  exact ⟨by omega, by omega, by simp⟩
                · obtain ⟨g1, g2, g3⟩ := HI.out.1 j (by omega)
                  refine ⟨g1, g2, ?_⟩
                  show (if (K j).toNat = y then true else S (K j).toNat) = true
                  rw [g3]; simp
              · by_cases e : j = t
                · subst e
                  intro heq
                  obtain ⟨g1, g2, g3⟩ := HI.out.1 i hij
                  rw [heq, ← HX.out, Int.toNat_natCast, HSY.out] at g3
                  exact Bool.noConfusion g3
                · exact HI.out.2 i j hij (by omega)
          · rw [hs] at q2
            clear hs
            go_wp2_with fail
            go_ret
            exact ⟨false, rfl, hB, by simp⟩
        · have d2' : decide ((n : Int) ≤ x) = true := by simp; omega
          go_wp2_with fail
          go_ret
          exact ⟨false, rfl, hB, by simp⟩
    · obtain rfl : t = M := by omega
      clear hR
      go_wp2_with fail
      go_ret
      exact ⟨true, rfl, hB, fun _ => ⟨fun j hj => ⟨(HI.out.1 j hj).1, (HI.out.1 j hj).2.1⟩, HI.out.2⟩⟩
end Go.Proofs.Qxb6000023a
