import Derived.Test.Qxb6000043aNew
namespace Go.Proofs.Qxb6000043a
open Go.RowKit

/-- z, cut at M. -/
def capN (M z : Nat) : Nat := if M < z then M else z
theorem capN_hi {M z : Nat} (h : M < z) : capN M z = M := by simp [capN, h]
theorem capN_lo {M z : Nat} (h : z ≤ M) : capN M z = z := by simp [capN]; omega
theorem capN_le (M z : Nat) : capN M z ≤ M := by unfold capN; split <;> omega

set_option maxHeartbeats 1000000 in
theorem add_any (B lim x y : Nat) (w : World) (hc : w.cell? ⟨B, 2, none⟩ = some (.int .i64 lim)) (hl : lim ≤ 9223372036854775806) (hx : x ≤ lim + 1) (hy : y ≤ lim + 1) :
    Calls Try.prog 43 #[.pointer (some ⟨B, 0, none⟩), .int .i64 x, .int .i64 y] w fun e w' => e = .returned (.int .i64 ((capN (lim + 1) (x + y) : Nat) : Int)) ∧ w = w' := by
  by_cases h : lim + 1 < x + y
  · rw [capN_hi h]
    have hd : decide ((lim : Int) + 1 - (y : Int) < (x : Int)) = true := by simp; omega
    go_enter Try.func43, Try.ntmps43
    go_wp2_with fail
    go_ret
    exact ⟨by go_num, rfl⟩
  · rw [capN_lo (by omega)]
    have hd : decide ((lim : Int) + 1 - (y : Int) < (x : Int)) = false := by simp; omega
    go_enter Try.func43, Try.ntmps43
    go_wp2_with fail
    go_ret
    exact ⟨by go_num, rfl⟩

theorem div_iff {M x y : Nat} (hy : 0 < y) : M / y < x ↔ M < x * y := Nat.div_lt_iff_lt_mul hy

set_option maxHeartbeats 1000000 in
theorem multiply_any (B lim x y : Nat) (w : World) (hc : w.cell? ⟨B, 2, none⟩ = some (.int .i64 lim)) (hl : lim ≤ 9223372036854775806) (hy : y ≤ 9223372036854775807) (hy0 : 0 < y) :
    Calls Try.prog 42 #[.pointer (some ⟨B, 0, none⟩), .int .i64 x, .int .i64 y] w fun e w' => e = .returned (.int .i64 ((capN (lim + 1) (x * y) : Nat) : Int)) ∧ w = w' := by
  have hy1 : decide ((0 : Int) < (y : Int)) = true := by simpa using hy0
  have hq : ((lim : Int) + 1) / (y : Int) = (((lim + 1) / y : Nat) : Int) := by simp
  by_cases h : lim + 1 < x * y
  · rw [capN_hi h]
    have hd : decide (((lim : Int) + 1) / (y : Int) < (x : Int)) = true := by
      have := (div_iff (M := lim + 1) (x := x) hy0).2 h
      rw [hq]
      simp only [decide_eq_true_eq]; omega
    clear hq h
    go_enter Try.func42, Try.ntmps42
    go_wp2_with fail
    go_ret
    exact ⟨by go_num, rfl⟩
  · rw [capN_lo (by omega)]
    have hd : decide (((lim : Int) + 1) / (y : Int) < (x : Int)) = false := by
      have : ¬ (lim + 1) / y < x := fun e => h ((div_iff (M := lim + 1) (x := x) hy0).1 e)
      rw [hq]
      simp only [decide_eq_false_iff_not]; omega
    have hp : (x : Int) * (y : Int) = ((x * y : Nat) : Int) := by simp
    have h1 : 0 ≤ (x : Int) * (y : Int) := by omega
    have h2 : (x : Int) * (y : Int) ≤ 9223372036854775807 := by omega
    have HP : Hid ((x : Int) * (y : Int) = ((x * y : Nat) : Int)) := hp
    clear hq h hp
    go_enter Try.func42, Try.ntmps42
    go_wp2_with fail
    go_ret
    rw [← HP.out]
    exact ⟨by go_num, rfl⟩
end Go.Proofs.Qxb6000043a
