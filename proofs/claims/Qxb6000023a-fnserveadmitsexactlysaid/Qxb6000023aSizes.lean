import Derived.Test.Qxb6000023aNest
namespace Go.Proofs.Qxb6000023a
open Go.RowKit

/-- What zzBytes leaves. -/
def SizePost (N N' : Nat) (lo hi : Nat → Option (List Nat)) (w : World) (e : Ending) (w' : World) : Prop :=
  ∃ r, e = .returned (.bool r) ∧ w = w' ∧ (r = true → (∀ i, i < N → lenO (lo i) ≤ 1048576) ∧ ∀ i, i < N' → lenO (hi i) ≤ 1048576)

set_option maxRecDepth 100000 in
set_option maxHeartbeats 4000000 in
theorem bytes_any (a a' a2 a3 a4 a5 a6 : Option Addr) (N N' n2 n3 n4 n5 n6 c c' c2 c3 c4 c5 c6 : Nat) (lo hi : Nat → Option (List Nat)) (v : Int) (w : World)
    (h : Nest w a N lo) (h' : Nest w a' N' hi) (b0 : N ≤ 9223372036854775807) (b1 : N' ≤ 9223372036854775807) (b2 : n2 ≤ 9223372036854775807) (b3 : n3 ≤ 9223372036854775807) (b4 : n4 ≤ 9223372036854775807) (b5 : n5 ≤ 9223372036854775807) (b6 : n6 ≤ 9223372036854775807)
    (bl : ∀ i, i < N → lenO (lo i) ≤ 9223372036854775807) (bh : ∀ i, i < N' → lenO (hi i) ≤ 9223372036854775807) :
    Calls Try.prog 16 #[.slice a N c, .slice a' N' c', .slice a2 n2 c2, .slice a3 n3 c3, .slice a4 n4 c4, .slice a5 n5 c5, .int .i64 v, .slice a6 n6 c6] w (SizePost N N' lo hi w) := by
  obtain ⟨A, C, hR, hx⟩ := h
  obtain ⟨A', C', hR', hx'⟩ := h'
  clear hx hx'
  by_cases hN : N ≤ 1048576
  · go_enter Try.func16, Try.ntmps16
    go_wp2_with fail
    go_loopg [17, 18] N (fun g s17 s18 wr => ∃ (t : Nat) (z : Nat), t ≤ N ∧ g = N - t ∧ s18 = .int .i64 t ∧ s17 = .int .i64 z ∧ z ≤ 1048576 ∧ wr = w ∧ ∀ i, i < t → lenO (lo i) ≤ 1048576)
    case atStart => exact ⟨0, N, Nat.zero_le _, rfl, rfl, by go_num, hN, rfl, fun i hi => absurd hi (Nat.not_lt_zero _)⟩
    case round =>
      obtain ⟨t, z, ht, rfl, rfl, rfl, hz, rfl, hall⟩ := hrel
      have HA : Hid (∀ i, i < t → lenO (lo i) ≤ 1048576) := hall
      clear hall
      by_cases hlt : t < N
      · obtain ⟨b, off, rfl, hc⟩ := hR (by omega)
        have q1 := hc t hlt
        have hbt := bl t hlt
        have hltz : (t : Int) < (N : Int) := by omega
        clear hc hR hR' bl bh
        by_cases d1 : lenO (lo t) ≤ 1048576
        · by_cases d2 : z + lenO (lo t) ≤ 1048576
          · go_wp2_with fail
            go_roundg (N - (t + 1))
            case measure => omega
            case rel => exact ⟨t + 1, z + lenO (lo t), by omega, rfl, by go_num, by go_num, d2, rfl, fun i hi => by
              by_cases e : i = t
              · subst e; exact d1
              · exact HA.out i (by omega)⟩
          · go_wp2_with fail
            go_ret
            exact ⟨false, rfl, rfl, by simp⟩
        · go_wp2_with fail
          go_ret
          exact ⟨false, rfl, rfl, by simp⟩
      · obtain rfl : t = N := by omega
        clear hR bl
        by_cases hN' : N' ≤ 1048576
        · by_cases hs : z + N' ≤ 1048576
          · go_wp2_with fail
            go_loopg [17, 19] N' (fun g s17 s19 wx => ∃ (u : Nat) (z : Nat), u ≤ N' ∧ g = N' - u ∧ s19 = .int .i64 u ∧ s17 = .int .i64 z ∧ z ≤ 1048576 ∧ wx = wr ∧ ∀ i, i < u → lenO (hi i) ≤ 1048576)
            case atStart => exact ⟨0, z + N', Nat.zero_le _, rfl, rfl, by go_num, hs, rfl, fun i hi => absurd hi (Nat.not_lt_zero _)⟩
            case round =>
              obtain ⟨u, z2, hu, rfl, rfl, rfl, hz2, rfl, hall⟩ := hrel
              have HA2 : Hid (∀ i, i < u → lenO (hi i) ≤ 1048576) := hall
              clear hall
              by_cases hlt : u < N'
              · obtain ⟨b, off, rfl, hc⟩ := hR' (by omega)
                have q1 := hc u hlt
                have hbt := bh u hlt
                have hltz : (u : Int) < (N' : Int) := by omega
                clear hc hR' bh
                by_cases d1 : lenO (hi u) ≤ 1048576
                · by_cases d2 : z2 + lenO (hi u) ≤ 1048576
                  · go_wp2_with fail
                    go_roundg (N' - (u + 1))
                    case measure => omega
                    case rel => exact ⟨u + 1, z2 + lenO (hi u), by omega, rfl, by go_num, by go_num, d2, rfl, fun i hi => by
                      by_cases e : i = u
                      · subst e; exact d1
                      · exact HA2.out i (by omega)⟩
                  · go_wp2_with fail
                    go_ret
                    exact ⟨false, rfl, rfl, by simp⟩
                · go_wp2_with fail
                  go_ret
                  exact ⟨false, rfl, rfl, by simp⟩
              · obtain rfl : u = N' := by omega
                clear hR' bh
                go_wp2_with fail
                all_goals
                  go_ret
                  exact ⟨_, rfl, rfl, fun _ => ⟨HA.out, HA2.out⟩⟩
          · go_wp2_with fail
            go_ret
            exact ⟨false, rfl, rfl, by simp⟩
        · go_wp2_with fail
          go_ret
          exact ⟨false, rfl, rfl, by simp⟩
  · clear hR hR' bl bh
    go_enter Try.func16, Try.ntmps16
    go_wp2_with fail
    go_ret
    exact ⟨false, rfl, rfl, by simp⟩

def NumPost (B : Int) (w : World) (e : Ending) (w' : World) : Prop := ∃ T : Int, e = .returned (.int .i64 T) ∧ w = w' ∧ 0 ≤ T ∧ T ≤ B

set_option maxHeartbeats 4000000 in
theorem nested_any (a a' : Option Addr) (N N' c c' : Nat) (lo hi : Nat → Option (List Nat)) (w : World)
    (h : Nest w a N lo) (h' : Nest w a' N' hi) (b0 : N ≤ 4096) (b1 : N' ≤ 4096)
    (bl : ∀ i, i < N → lenO (lo i) ≤ 1048576) (bh : ∀ i, i < N' → lenO (hi i) ≤ 1048576) :
    Calls Try.prog 17 #[.slice a N c, .slice a' N' c'] w (NumPost 10000000000 w) := by
  obtain ⟨A, C, hR, hx⟩ := h
  obtain ⟨A', C', hR', hx'⟩ := h'
  clear hx hx'
  go_enter Try.func17, Try.ntmps17
  go_wp2_with fail
  go_loopg [5, 6] N (fun g s5 s6 wr => ∃ (t : Nat) (z : Nat), t ≤ N ∧ g = N - t ∧ s6 = .int .i64 t ∧ s5 = .int .i64 z ∧ z ≤ 200000 + t * 1048576 ∧ wr = w)
  case atStart => exact ⟨0, 24 * N + 24 * N', Nat.zero_le _, rfl, rfl, by go_num, by omega, rfl⟩
  case round =>
    obtain ⟨t, z, ht, rfl, rfl, rfl, hz, rfl⟩ := hrel
    by_cases hlt : t < N
    · obtain ⟨b, off, rfl, hc⟩ := hR (by omega)
      have q1 := hc t hlt
      have hbt := bl t hlt
      have hltz : (t : Int) < (N : Int) := by omega
      clear hc hR hR' bl bh
      go_wp2_with fail
      go_roundg (N - (t + 1))
      case measure => omega
      case rel => exact ⟨t + 1, z + lenO (lo t), by omega, rfl, by go_num, by go_num, by omega, rfl⟩
    · obtain rfl : t = N := by omega
      clear hR bl
      go_wp2_with fail
      go_loopg [5, 7] N' (fun g s5 s7 wx => ∃ (u : Nat) (z : Nat), u ≤ N' ∧ g = N' - u ∧ s7 = .int .i64 u ∧ s5 = .int .i64 z ∧ z ≤ 200000 + t * 1048576 + u * 1048576 ∧ wx = wr)
      case atStart => exact ⟨0, z, Nat.zero_le _, rfl, rfl, rfl, by omega, rfl⟩
      case round =>
        obtain ⟨u, z2, hu, rfl, rfl, rfl, hz2, rfl⟩ := hrel
        by_cases hlt : u < N'
        · obtain ⟨b, off, rfl, hc⟩ := hR' (by omega)
          have q1 := hc u hlt
          have hbt := bh u hlt
          have hltz : (u : Int) < (N' : Int) := by omega
          clear hc hR' bh
          go_wp2_with fail
          go_roundg (N' - (u + 1))
          case measure => omega
          case rel => exact ⟨u + 1, z2 + lenO (hi u), by omega, rfl, by go_num, by go_num, by omega, rfl⟩
        · obtain rfl : u = N' := by omega
          clear hR' bh
          go_wp2_with fail
          go_ret
          exact ⟨_, rfl, rfl, by omega, by omega⟩
end Go.Proofs.Qxb6000023a
