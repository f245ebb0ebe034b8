import Derived.Test.Qxb6000023aClone
namespace Go.Proofs.Qxb6000023a
open Go.RowKit

def IdxPost (w : World) (e : Ending) (w' : World) : Prop := ∃ p : Nat, e = .returned (.int .i64 p) ∧ w = w'

set_option maxHeartbeats 1000000 in
theorem index_any (b off m c x : Nat) (κ : Nat → Nat) (w : World) (h : ∀ i, i < m → w.cell? ⟨b, off + i, none⟩ = some (.int .i64 (κ i))) (hm : m ≤ 4096) (hx : ∃ j, j < m ∧ κ j = x) :
    Calls Try.prog 35 #[.slice (some ⟨b, off, none⟩) m c, .int .i64 x] w (IdxPost w) := by
  have HX : Hid (∃ j, j < m ∧ κ j = x) := hx
  clear hx
  go_enter Try.func35, Try.ntmps35
  go_wp2_with fail
  go_loopg [8] m (fun g s8 wr => ∃ t : Nat, t ≤ m ∧ g = m - t ∧ s8 = .int .i64 t ∧ w = wr ∧ ∀ j, j < t → κ j ≠ x)
  case atStart => exact ⟨0, Nat.zero_le _, rfl, rfl, rfl, fun j hj => absurd hj (Nat.not_lt_zero _)⟩
  case round =>
    obtain ⟨t, ht, rfl, rfl, rfl, hall⟩ := hrel
    have HA : Hid (∀ j, j < t → κ j ≠ x) := hall
    clear hall
    by_cases hlt : t < m
    · have q1 := h t hlt
      have hltz : (t : Int) < (m : Int) := by omega
      by_cases he : κ t = x
      · have he' : ((x : Int) == (κ t : Int)) = true := by simp [he]
        clear he
        go_wp2_with fail
        go_ret
        exact ⟨t, rfl, rfl⟩
      · have he' : ((x : Int) == (κ t : Int)) = false := by simp; omega
        have HE : Hid (¬ κ t = x) := he
        clear he
        go_wp2_with fail
        go_roundg (m - (t + 1))
        case measure => omega
        case rel => exact ⟨t + 1, by omega, rfl, by go_num, rfl, fun j hj => by
          by_cases e : j = t
          · subst e; exact HE.out
          · exact HA.out j (by omega)⟩
    · exfalso
      obtain ⟨j, hj, hx⟩ := HX.out
      exact HA.out j (by omega) hx

set_option maxHeartbeats 1000000 in
theorem contains_any (b off m c x : Nat) (κ : Nat → Nat) (w : World) (h : ∀ i, i < m → w.cell? ⟨b, off + i, none⟩ = some (.int .i64 (κ i))) (hm : m ≤ 4096) (hx : ∃ j, j < m ∧ κ j = x) :
    Calls Try.prog 31 #[.slice (some ⟨b, off, none⟩) m c, .int .i64 x] w fun e w' => e = .returned (.bool true) ∧ w = w' := by
  have hi := index_any b off m c x κ w h hm hx
  clear h hx
  go_enter Try.func31, Try.ntmps31
  go_wp2_with (go_at_call 35; refine hi.mono ?_; rintro e w' ⟨p, rfl, rfl⟩)
  go_ret
  exact ⟨rfl, rfl⟩
end Go.Proofs.Qxb6000023a
