import Derived.Test.Qxb6000043aMem
namespace Go.Proofs.Qxb6000043a
open Go.RowKit

/-- What zzBytes leaves. -/
def SizePost (N : Nat) (L : Nat → Nat) (w : World) (e : Ending) (w' : World) : Prop :=
  ∃ r, e = .returned (.bool r) ∧ w = w' ∧ (r = true → N ≤ 1048576 ∧ ∀ i, i < N → L i ≤ 1048576)

set_option maxRecDepth 100000 in
set_option maxHeartbeats 4000000 in
theorem bytes_sat (a : Option Addr) (N c : Nat) (L : Nat → Nat) (Z : Nat → Nat → Int) (r : Int) (lo hi : Int) (w : World)
    (h : Grid w a N L Z) (b0 : N ≤ 9223372036854775807) (bl : ∀ i, i < N → L i ≤ 9223372036854775807) :
    Calls Try.prog 19 #[.slice a N c, .int .i32 r, .int .i64 lo, .int .i64 hi] w (SizePost N L w) := by
  obtain ⟨A, C, hR, hx⟩ := h
  clear hx
  by_cases hN : N ≤ 1048576
  · go_enter Try.func19, Try.ntmps19
    go_wp2_with fail
    go_loopg [9, 10] N (fun g sn si wr => ∃ (t : Nat) (z : Nat), t ≤ N ∧ g = N - t ∧ si = .int .i64 t ∧ sn = .int .i64 z ∧ z ≤ 1048576 ∧ wr = w ∧ ∀ i, i < t → L i ≤ 1048576)
    case atStart => exact ⟨0, N, Nat.zero_le _, rfl, rfl, by go_num, hN, rfl, fun i hi => absurd hi (Nat.not_lt_zero _)⟩
    case round =>
      obtain ⟨t, z, ht, rfl, rfl, rfl, hz, rfl, hall⟩ := hrel
      have HA : Hid (∀ i, i < t → L i ≤ 1048576) := hall
      clear hall
      by_cases hlt : t < N
      · obtain ⟨b, off, rfl, hc⟩ := hR (by omega)
        have q1 := hc t hlt
        have hbt := bl t hlt
        have hltz : (t : Int) < (N : Int) := by omega
        clear hc hR bl
        by_cases d1 : L t ≤ 1048576
        · by_cases d2 : z + L t ≤ 1048576
          · go_wp2_with fail
            go_roundg (N - (t + 1))
            case measure => omega
            case rel => exact ⟨t + 1, z + L t, by omega, rfl, by go_num, by go_num, d2, rfl, fun i hi => by
              by_cases e : i = t
              · subst e; exact d1
              · exact HA.out i (by omega)⟩
          · go_wp2_with fail
            go_ret
            exact ⟨false, rfl, rfl, by simp⟩
        · go_wp2_with fail
          go_ret
          exact ⟨false, rfl, rfl, by simp⟩
      · obtain rfl : t = N := by omega
        clear hR bl
        go_wp2_with fail
        all_goals
          go_ret
          exact ⟨_, rfl, rfl, fun _ => ⟨hN, HA.out⟩⟩
  · clear hR bl
    go_enter Try.func19, Try.ntmps19
    go_wp2_with fail
    go_ret
    exact ⟨false, rfl, rfl, by simp⟩

set_option maxRecDepth 100000 in
set_option maxHeartbeats 4000000 in
theorem bytes_closed (a : Option Addr) (N c : Nat) (L : Nat → Nat) (Z : Nat → Nat → Int) (r : Int) (lim : Int) (w : World)
    (h : Grid w a N L Z) (b0 : N ≤ 9223372036854775807) (bl : ∀ i, i < N → L i ≤ 9223372036854775807) :
    Calls Try.prog 10 #[.slice a N c, .int .i32 r, .int .i64 lim] w (SizePost N L w) := by
  obtain ⟨A, C, hR, hx⟩ := h
  clear hx
  by_cases hN : N ≤ 1048576
  · go_enter Try.func10, Try.ntmps10
    go_wp2_with fail
    go_loopg [7, 8] N (fun g sn si wr => ∃ (t : Nat) (z : Nat), t ≤ N ∧ g = N - t ∧ si = .int .i64 t ∧ sn = .int .i64 z ∧ z ≤ 1048576 ∧ wr = w ∧ ∀ i, i < t → L i ≤ 1048576)
    case atStart => exact ⟨0, N, Nat.zero_le _, rfl, rfl, by go_num, hN, rfl, fun i hi => absurd hi (Nat.not_lt_zero _)⟩
    case round =>
      obtain ⟨t, z, ht, rfl, rfl, rfl, hz, rfl, hall⟩ := hrel
      have HA : Hid (∀ i, i < t → L i ≤ 1048576) := hall
      clear hall
      by_cases hlt : t < N
      · obtain ⟨b, off, rfl, hc⟩ := hR (by omega)
        have q1 := hc t hlt
        have hbt := bl t hlt
        have hltz : (t : Int) < (N : Int) := by omega
        clear hc hR bl
        by_cases d1 : L t ≤ 1048576
        · by_cases d2 : z + L t ≤ 1048576
          · go_wp2_with fail
            go_roundg (N - (t + 1))
            case measure => omega
            case rel => exact ⟨t + 1, z + L t, by omega, rfl, by go_num, by go_num, d2, rfl, fun i hi => by
              by_cases e : i = t
              · subst e; exact d1
              · exact HA.out i (by omega)⟩
          · go_wp2_with fail
            go_ret
            exact ⟨false, rfl, rfl, by simp⟩
        · go_wp2_with fail
          go_ret
          exact ⟨false, rfl, rfl, by simp⟩
      · obtain rfl : t = N := by omega
        clear hR bl
        go_wp2_with fail
        all_goals
          go_ret
          exact ⟨_, rfl, rfl, fun _ => ⟨hN, HA.out⟩⟩
  · clear hR bl
    go_enter Try.func10, Try.ntmps10
    go_wp2_with fail
    go_ret
    exact ⟨false, rfl, rfl, by simp⟩

set_option maxRecDepth 100000 in
set_option maxHeartbeats 4000000 in
theorem bytes_cycle (a : Option Addr) (N c : Nat) (L : Nat → Nat) (Z : Nat → Nat → Int) (r : Int) (bk : Bool) (lim : Int) (w : World)
    (h : Grid w a N L Z) (b0 : N ≤ 9223372036854775807) (bl : ∀ i, i < N → L i ≤ 9223372036854775807) :
    Calls Try.prog 29 #[.slice a N c, .int .i32 r, .bool bk, .int .i64 lim] w (SizePost N L w) := by
  obtain ⟨A, C, hR, hx⟩ := h
  clear hx
  by_cases hN : N ≤ 1048576
  · go_enter Try.func29, Try.ntmps29
    go_wp2_with fail
    go_loopg [9, 10] N (fun g sn si wr => ∃ (t : Nat) (z : Nat), t ≤ N ∧ g = N - t ∧ si = .int .i64 t ∧ sn = .int .i64 z ∧ z ≤ 1048576 ∧ wr = w ∧ ∀ i, i < t → L i ≤ 1048576)
    case atStart => exact ⟨0, N, Nat.zero_le _, rfl, rfl, by go_num, hN, rfl, fun i hi => absurd hi (Nat.not_lt_zero _)⟩
    case round =>
      obtain ⟨t, z, ht, rfl, rfl, rfl, hz, rfl, hall⟩ := hrel
      have HA : Hid (∀ i, i < t → L i ≤ 1048576) := hall
      clear hall
      by_cases hlt : t < N
      · obtain ⟨b, off, rfl, hc⟩ := hR (by omega)
        have q1 := hc t hlt
        have hbt := bl t hlt
        have hltz : (t : Int) < (N : Int) := by omega
        clear hc hR bl
        by_cases d1 : L t ≤ 1048576
        · by_cases d2 : z + L t ≤ 1048576
          · go_wp2_with fail
            go_roundg (N - (t + 1))
            case measure => omega
            case rel => exact ⟨t + 1, z + L t, by omega, rfl, by go_num, by go_num, d2, rfl, fun i hi => by
              by_cases e : i = t
              · subst e; exact d1
              · exact HA.out i (by omega)⟩
          · go_wp2_with fail
            go_ret
            exact ⟨false, rfl, rfl, by simp⟩
        · go_wp2_with fail
          go_ret
          exact ⟨false, rfl, rfl, by simp⟩
      · obtain rfl : t = N := by omega
        clear hR bl
        go_wp2_with fail
        all_goals
          go_ret
          exact ⟨_, rfl, rfl, fun _ => ⟨hN, HA.out⟩⟩
  · clear hR bl
    go_enter Try.func29, Try.ntmps29
    go_wp2_with fail
    go_ret
    exact ⟨false, rfl, rfl, by simp⟩

set_option maxRecDepth 100000 in
set_option maxHeartbeats 4000000 in
theorem bytes_forget (a : Option Addr) (N c : Nat) (L : Nat → Nat) (Z : Nat → Nat → Int) (ao : Option Addr) (no co : Nat) (lim : Int) (bo : no ≤ 9223372036854775807) (w : World)
    (h : Grid w a N L Z) (b0 : N ≤ 9223372036854775807) (bl : ∀ i, i < N → L i ≤ 9223372036854775807) :
    Calls Try.prog 34 #[.slice a N c, .slice ao no co, .int .i64 lim] w (SizePost N L w) := by
  obtain ⟨A, C, hR, hx⟩ := h
  clear hx
  by_cases hN : N ≤ 1048576
  · go_enter Try.func34, Try.ntmps34
    go_wp2_with fail
    go_loopg [7, 8] N (fun g sn si wr => ∃ (t : Nat) (z : Nat), t ≤ N ∧ g = N - t ∧ si = .int .i64 t ∧ sn = .int .i64 z ∧ z ≤ 1048576 ∧ wr = w ∧ ∀ i, i < t → L i ≤ 1048576)
    case atStart => exact ⟨0, N, Nat.zero_le _, rfl, rfl, by go_num, hN, rfl, fun i hi => absurd hi (Nat.not_lt_zero _)⟩
    case round =>
      obtain ⟨t, z, ht, rfl, rfl, rfl, hz, rfl, hall⟩ := hrel
      have HA : Hid (∀ i, i < t → L i ≤ 1048576) := hall
      clear hall
      by_cases hlt : t < N
      · obtain ⟨b, off, rfl, hc⟩ := hR (by omega)
        have q1 := hc t hlt
        have hbt := bl t hlt
        have hltz : (t : Int) < (N : Int) := by omega
        clear hc hR bl
        by_cases d1 : L t ≤ 1048576
        · by_cases d2 : z + L t ≤ 1048576
          · go_wp2_with fail
            go_roundg (N - (t + 1))
            case measure => omega
            case rel => exact ⟨t + 1, z + L t, by omega, rfl, by go_num, by go_num, d2, rfl, fun i hi => by
              by_cases e : i = t
              · subst e; exact d1
              · exact HA.out i (by omega)⟩
          · go_wp2_with fail
            go_ret
            exact ⟨false, rfl, rfl, by simp⟩
        · go_wp2_with fail
          go_ret
          exact ⟨false, rfl, rfl, by simp⟩
      · obtain rfl : t = N := by omega
        clear hR bl
        go_wp2_with fail
        all_goals
          go_ret
          exact ⟨_, rfl, rfl, fun _ => ⟨hN, HA.out⟩⟩
  · clear hR bl
    go_enter Try.func34, Try.ntmps34
    go_wp2_with fail
    go_ret
    exact ⟨false, rfl, rfl, by simp⟩

def NumPost (B : Int) (w : World) (e : Ending) (w' : World) : Prop := ∃ T : Int, e = .returned (.int .i64 T) ∧ w = w' ∧ 0 ≤ T ∧ T ≤ B

set_option maxHeartbeats 4000000 in
theorem graphBytes_any (a : Option Addr) (N c : Nat) (L : Nat → Nat) (Z : Nat → Nat → Int) (w : World)
    (h : Grid w a N L Z) (b0 : N ≤ 4096) (bl : ∀ i, i < N → L i ≤ 1048576) :
    Calls Try.prog 11 #[.slice a N c] w (NumPost 10000000 w) := by
  obtain ⟨A, C, hR, hx⟩ := h
  clear hx
  go_enter Try.func11, Try.ntmps11
  go_wp2_with fail
  go_loopg [3, 4] N (fun g s5 s6 wr => ∃ (t : Nat) (z : Nat), t ≤ N ∧ g = N - t ∧ s6 = .int .i64 t ∧ s5 = .int .i64 z ∧ z ≤ 1048576 ∧ wr = w)
  case atStart => exact ⟨0, 8 * N, Nat.zero_le _, rfl, rfl, by go_num, by omega, rfl⟩
  case round =>
    obtain ⟨t, z, ht, rfl, rfl, rfl, hz, rfl⟩ := hrel
    by_cases hlt : t < N
    · obtain ⟨b, off, rfl, hc⟩ := hR (by omega)
      have q1 := hc t hlt
      have hbt := bl t hlt
      have hltz : (t : Int) < (N : Int) := by omega
      clear hc hR bl
      by_cases d2 : z + 4 * L t ≤ 1048576
      · go_wp2_with fail
        go_roundg (N - (t + 1))
        case measure => omega
        case rel => exact ⟨t + 1, z + 4 * L t, by omega, rfl, by go_num, by go_num, by omega, rfl⟩
      · go_wp2_with fail
        go_ret
        exact ⟨_, rfl, rfl, by omega, by omega⟩
    · obtain rfl : t = N := by omega
      clear hR bl
      go_wp2_with fail
      go_ret
      exact ⟨_, rfl, rfl, by omega, by omega⟩
end Go.Proofs.Qxb6000043a
