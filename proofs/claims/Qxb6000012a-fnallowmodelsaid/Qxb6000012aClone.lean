import Derived.Test.Qxb6000012aMem
import Derived.Deep.LoopGhost
import Derived.WalkSpells
namespace Go.Proofs.Qxb6000012a
open Go.RowKit

/-- A row whose first t cells are filled by f, the rest by z. -/
def upTo (f : Nat → Value) (z : Value) (t : Nat) : Nat → Value := fun i => if i < t then f i else z
theorem upTo_set (f : Nat → Value) (z : Value) (t j : Nat) : (if j = t then f t else upTo f z t j) = upTo f z (t + 1) j := by
  simp only [upTo]
  by_cases e : j = t
  · subst e; simp
  · rw [if_neg e]
    by_cases h : j < t
    · rw [if_pos h, if_pos (by omega)]
    · rw [if_neg h, if_neg (by omega)]

set_option maxHeartbeats 1000000 in
theorem cloneI_any (b off n c : Nat) (f : Nat → Int) (w : World) (hn : n ≤ 4096)
    (hL : ∀ i, i < n → w.cell? ⟨b, off + i, none⟩ = some (.int .i64 (f i))) (hb : b < w.heap.size) :
    Calls Try.prog 14 #[.slice (some ⟨b, off, none⟩) n c] w fun e w' => e = .returned (.slice (some ⟨w.heap.size, 0, none⟩) n n) ∧ Below w.heap.size w w' ∧ w'.heap.size = w.heap.size + 1 ∧ w'.rowIs w.heap.size 3 n (fun i => .int .i64 (f i)) := by
  have hmk := make_ints n hn
  have hnil := fun (w : World) => Lib.run_eql_slice_nil (P := Try.prog) w 32 3 (some ⟨b, off, none⟩) n c 0 0 Try.underlying32
  go_enter Try.func14, Try.ntmps14
  go_wp2_with fail
  clear hmk hnil
  go_loopg [4] n (fun g i wr => ∃ t : Nat, t ≤ n ∧ g = n - t ∧ i = .int .i64 t ∧ Below w.heap.size w wr ∧ wr.heap.size = w.heap.size + 1 ∧ wr.rowIs w.heap.size 3 n (upTo (fun i => .int .i64 (f i)) (.int .i64 0) t))
  case atStart => exact ⟨0, Nat.zero_le _, rfl, rfl, (Below.refl _ _).alloc (Nat.le_refl _) _, by simp, (World.rowIs_made w (.int .i64 0) n 3).congr (fun i _ => by simp [upTo])⟩
  case round =>
    obtain ⟨t, ht, rfl, rfl, hB, hsz, hR⟩ := hrel
    by_cases hlt : t < n
    · have q1 : wr.cell? ⟨b, off + t, none⟩ = some (.int .i64 (f t)) := Below.at hB hb (hL t hlt)
      obtain ⟨v, q2⟩ : ∃ v, wr.cell? ⟨w.heap.size, t, none⟩ = some v := ⟨_, hR.cell hlt⟩
      have q3 : wr.frozen? ⟨w.heap.size, t, none⟩ = false := hR.frozen t
      go_wp2_with fail
      go_roundg (n - (t + 1))
      case measure => omega
      case rel => exact ⟨t + 1, by omega, rfl, by go_num, hB.setCell (by simp) _, by simp [hsz], (hR.set t _).congr (fun j _ => upTo_set (fun i => .int .i64 (f i)) (.int .i64 0) t j)⟩
    · obtain rfl : t = n := by omega
      go_wp2_with fail
      go_ret
      exact ⟨rfl, hB, hsz, hR.congr (fun i hi => by simp [upTo, hi])⟩

set_option maxHeartbeats 1000000 in
theorem cloneU_any (b off n c : Nat) (f : Nat → BitVec 32) (w : World) (hn : n ≤ 4096)
    (hL : ∀ i, i < n → w.cell? ⟨b, off + i, none⟩ = some (V32 (f i))) (hb : b < w.heap.size) :
    Calls Try.prog 15 #[.slice (some ⟨b, off, none⟩) n c] w fun e w' => e = .returned (.slice (some ⟨w.heap.size, 0, none⟩) n n) ∧ Below w.heap.size w w' ∧ w'.heap.size = w.heap.size + 1 ∧ w'.rowIs w.heap.size 22 n (fun i => V32 (f i)) := by
  have hmk := make_u32 n hn
  have hnil := fun (w : World) => Lib.run_eql_slice_nil (P := Try.prog) w 33 22 (some ⟨b, off, none⟩) n c 0 0 Try.underlying33
  go_enter Try.func15, Try.ntmps15
  go_wp2_with fail
  clear hmk hnil
  go_loopg [4] n (fun g i wr => ∃ t : Nat, t ≤ n ∧ g = n - t ∧ i = .int .i64 t ∧ Below w.heap.size w wr ∧ wr.heap.size = w.heap.size + 1 ∧ wr.rowIs w.heap.size 22 n (upTo (fun i => V32 (f i)) (.int .u32 0) t))
  case atStart => exact ⟨0, Nat.zero_le _, rfl, rfl, (Below.refl _ _).alloc (Nat.le_refl _) _, by simp, (World.rowIs_made w (.int .u32 0) n 22).congr (fun i _ => by simp [upTo])⟩
  case round =>
    obtain ⟨t, ht, rfl, rfl, hB, hsz, hR⟩ := hrel
    by_cases hlt : t < n
    · have q1 : wr.cell? ⟨b, off + t, none⟩ = some (V32 (f t)) := Below.at hB hb (hL t hlt)
      obtain ⟨v, q2⟩ : ∃ v, wr.cell? ⟨w.heap.size, t, none⟩ = some v := ⟨_, hR.cell hlt⟩
      have q3 : wr.frozen? ⟨w.heap.size, t, none⟩ = false := hR.frozen t
      go_wp2_with fail
      go_roundg (n - (t + 1))
      case measure => omega
      case rel => exact ⟨t + 1, by omega, rfl, by go_num, hB.setCell (by simp) _, by simp [hsz], (hR.set t _).congr (fun j _ => upTo_set (fun i => V32 (f i)) (.int .u32 0) t j)⟩
    · obtain rfl : t = n := by omega
      go_wp2_with fail
      go_ret
      exact ⟨rfl, hB, hsz, hR.congr (fun i hi => by simp [upTo, hi])⟩

def BoolPost (w : World) (e : Ending) (w' : World) : Prop := ∃ r, e = .returned (.bool r) ∧ w = w'

set_option maxHeartbeats 1000000 in
theorem bytes19_any (a0 a1 a2 : Option Addr) (l0 l1 l2 c0 c1 c2 : Nat) (k m : Int) (w : World) (h0 : l0 ≤ 9223372036854775807) (h1 : l1 ≤ 9223372036854775807) (h2 : l2 ≤ 9223372036854775807) :
    Calls Try.prog 19 #[.slice a0 l0 c0, .slice a1 l1 c1, .slice a2 l2 c2, .int .i64 k, .int .u32 m] w (BoolPost w) := by
  go_enter Try.func19, Try.ntmps19
  go_wp2_with fail
  all_goals
    go_ret
    exact ⟨_, rfl, rfl⟩

set_option maxHeartbeats 1000000 in
theorem bytes12_any (a0 a1 a2 : Option Addr) (l0 l1 l2 c0 c1 c2 : Nat) (k m : Int) (w : World) (h0 : l0 ≤ 9223372036854775807) (h1 : l1 ≤ 9223372036854775807) (h2 : l2 ≤ 9223372036854775807) :
    Calls Try.prog 12 #[.slice a0 l0 c0, .slice a1 l1 c1, .slice a2 l2 c2, .int .i64 k, .int .u32 m] w (BoolPost w) := by
  go_enter Try.func12, Try.ntmps12
  go_wp2_with fail
  all_goals
    go_ret
    exact ⟨_, rfl, rfl⟩
end Go.Proofs.Qxb6000012a
