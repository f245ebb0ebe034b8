import Derived.Test.Qxb6000023aMem
namespace Go.Proofs.Qxb6000023a
open Go.RowKit

theorem cmp_end {l l' : List Nat} {i : Nat} (h1 : i ≤ l.length) (h2 : i ≤ l'.length) (h : ¬ (i < l.length ∧ i < l'.length)) :
    cmpL (l.drop i) (l'.drop i) = if l.length < l'.length then -1 else if l'.length < l.length then 1 else 0 := by
  by_cases a : i < l.length
  · have e : l'.drop i = [] := List.drop_eq_nil_of_le (by omega)
    obtain ⟨x, hx, _⟩ := at8_drop a
    rw [e, hx, if_neg (by omega), if_pos (by omega)]; rfl
  · have e : l.drop i = [] := List.drop_eq_nil_of_le (by omega)
    by_cases b : i < l'.length
    · obtain ⟨x, hx, _⟩ := at8_drop b
      rw [e, hx, if_pos (by omega)]; rfl
    · have e' : l'.drop i = [] := List.drop_eq_nil_of_le (by omega)
      rw [e, e', if_neg (by omega), if_neg (by omega)]; rfl

theorem cmp_step {l l' : List Nat} {i : Nat} (h1 : i < l.length) (h2 : i < l'.length) :
    cmpL (l.drop i) (l'.drop i) = if at8 l i < at8 l' i then -1 else if at8 l' i < at8 l i then 1 else cmpL (l.drop (i + 1)) (l'.drop (i + 1)) := by
  obtain ⟨x, hx, ex⟩ := at8_drop h1
  obtain ⟨y, hy, ey⟩ := at8_drop h2
  rw [hx, hy, ex, ey]
  simp only [cmpL, Int.ofNat_lt]

set_option maxHeartbeats 2000000 in
theorem cmp_any (a a' : Option Addr) (l l' : List Nat) (c c' : Nat) (w : World) (h : Bts w a l) (h' : Bts w a' l') (b1 : l.length ≤ 1099511627776) (b2 : l'.length ≤ 1099511627776) :
    Calls Try.prog 11 #[.slice a l.length c, .slice a' l'.length c'] w (CmpPost (cmpL l l') w) := by
  by_cases hs : l'.length < l.length
  all_goals
    go_enter Try.func11, Try.ntmps11
    go_wp2_with fail
    go_loopg [6] (l.length + l'.length) (fun g s6 wr => ∃ i : Nat, i ≤ l.length ∧ i ≤ l'.length ∧ g = l.length + l'.length - i ∧ s6 = .int .i64 i ∧ (∃ kd, wr = w.drewN kd) ∧ cmpL (l.drop i) (l'.drop i) = cmpL l l')
    case atStart => exact ⟨0, Nat.zero_le _, Nat.zero_le _, rfl, rfl, ⟨0, rfl⟩, rfl⟩
    case round =>
      obtain ⟨i, hi1, hi2, rfl, rfl, ⟨kd, rfl⟩, hc⟩ := hrel
      have HC : Hid (cmpL (l.drop i) (l'.drop i) = cmpL l l') := hc
      clear hc
      by_cases hlt : i < l.length ∧ i < l'.length
      · obtain ⟨hl1, hl2⟩ := hlt
        obtain ⟨b, off, rfl, r1⟩ := h (by omega)
        obtain ⟨b', off', rfl, r2⟩ := h' (by omega)
        have q1 := r1 i hl1
        have q2 := r2 i hl2
        have hz1 : (i : Int) < (l.length : Int) := by omega
        have hz2 : (i : Int) < (l'.length : Int) := by omega
        have hst := cmp_step hl1 hl2
        have HS : Hid (cmpL (l.drop i) (l'.drop i) = if at8 l i < at8 l' i then -1 else if at8 l' i < at8 l i then 1 else cmpL (l.drop (i + 1)) (l'.drop (i + 1))) := hst
        clear hst h h'
        by_cases c1 : at8 l i < at8 l' i
        · have c1d : decide (at8 l i < at8 l' i) = true := by simpa using c1
          go_wp2_with fail
          go_quiet (fail)
          go_wp2_with fail
          go_ret
          refine ⟨?_, kd + nq, by first | rfl | exact World.drewN_drewN ..⟩
          rw [← HC.out, HS.out, if_pos c1]; rfl
        · by_cases c2 : at8 l' i < at8 l i
          · go_wp2_with fail
            go_quiet (fail)
            go_wp2_with fail
            go_quiet (fail)
            go_wp2_with fail
            go_ret
            refine ⟨?_, _, by first | rfl | (simp only [World.drewN_drewN]; rfl)⟩
            rw [← HC.out, HS.out, if_neg (by omega), if_pos c2]; rfl
          · go_wp2_with fail
            go_quiet (fail)
            go_wp2_with fail
            go_quiet (fail)
            go_wp2_with fail
            go_roundg (l.length + l'.length - (i + 1))
            case measure => omega
            case rel => exact ⟨i + 1, by omega, by omega, rfl, by go_num, ⟨_, by first | rfl | (simp only [World.drewN_drewN]; rfl)⟩, by rw [← HC.out, HS.out, if_neg (by omega), if_neg (by omega)]⟩
      · have he := cmp_end hi1 hi2 hlt
        rw [HC.out] at he
        have HE : Hid (cmpL l l' = if l.length < l'.length then -1 else if l'.length < l.length then 1 else 0) := he
        clear he HC h h'
        by_cases g1 : l.length < l'.length
        · go_wp2_with fail
          all_goals (go_ret; exact ⟨by rw [HE.out, if_pos g1]; rfl, kd, rfl⟩)
        · by_cases g2 : l'.length < l.length
          · go_wp2_with fail
            all_goals (go_ret; exact ⟨by rw [HE.out, if_neg g1, if_pos g2]; rfl, kd, rfl⟩)
          · go_wp2_with fail
            all_goals (go_ret; exact ⟨by rw [HE.out, if_neg g1, if_neg g2]; rfl, kd, rfl⟩)
end Go.Proofs.Qxb6000023a
