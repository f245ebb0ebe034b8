import Derived.Test.Qxb6000043aMem
import Derived.Deep.DeepCutAuto
namespace Go.Proofs.Qxb6000043a
open Go.RowKit

def CopyPost (w : World) (n : Nat) (f : Nat → Int) (e : Ending) (w' : World) : Prop := e = .returned (.slice (some ⟨w.heap.size, 0, none⟩) n n) ∧ Below w.heap.size w w' ∧ w'.rowIs w.heap.size 21 n (fun i => .int .i32 (f i))

set_option maxHeartbeats 2000000 in
theorem order_any (B : Nat) (a : Option Addr) (n c : Nat) (f : Nat → Int) (w : World) (q : w.cell? ⟨B, 6, none⟩ = some (.slice a n c)) (hR : Row w a n (fun i => .int .i32 (f i))) (hn : n ≤ 4096) :
    Calls Try.prog 22 #[.pointer (some ⟨B, 0, none⟩)] w (CopyPost w n f) := by
  have hmk := make35 n (by omega) w
  have hp0 := World.rowIs_made w (.int .i32 0) n 21
  have hb0 : Below w.heap.size w (w.alloc (.cells (madeCells #[.int .i32 0] n) 21)) := (Below.refl _ _).alloc (Nat.le_refl _) _
  generalize w.alloc (.cells (madeCells #[.int .i32 0] n) 21) = w1 at hp0 hmk hb0
  have HR : Hid (Row w a n (fun i => .int .i32 (f i))) := hR
  have HP : Hid (Below w.heap.size w w1 ∧ w1.rowIs w.heap.size 21 n (fun _ => .int .i32 0)) := ⟨hb0, hp0⟩
  clear hR hp0 hb0
  go_enter Try.func22, Try.ntmps22
  go_wp2_with fail
  clear hmk
  go_loopg [4] n (fun g s4 wr => ∃ t : Nat, t ≤ n ∧ g = n - t ∧ s4 = .int .i64 t ∧ Below w.heap.size w wr ∧ wr.rowIs w.heap.size 21 n (upTo (fun i => .int .i32 (f i)) (.int .i32 0) t))
  case atStart => exact ⟨0, Nat.zero_le _, rfl, rfl, HP.out.1, HP.out.2.congr (fun i _ => by simp [upTo])⟩
  case round =>
    clear HP
    obtain ⟨t, ht, rfl, rfl, hB, hP⟩ := hrel
    have q' : wr.cell? ⟨B, 6, none⟩ = some (.slice a n c) := Below.at hB (lt_of_cell q) q
    by_cases htl : t < n
    · obtain ⟨b1, off1, rfl, hc1⟩ := HR.out (by omega)
      have p1 : wr.cell? ⟨b1, off1 + t, none⟩ = some (.int .i32 (f t)) := Below.at hB (lt_of_cell (hc1 t htl)) (hc1 t htl)
      obtain ⟨pv, p2⟩ : ∃ pv, wr.cell? ⟨w.heap.size, t, none⟩ = some pv := ⟨_, hP.cell htl⟩
      have p3 : wr.frozen? ⟨w.heap.size, t, none⟩ = false := hP.frozen t
      have htz : (t : Int) < (n : Int) := by omega
      have HS : Hid ((wr.setCell ⟨w.heap.size, t, none⟩ (.int .i32 (f t))).rowIs w.heap.size 21 n (upTo (fun i => .int .i32 (f i)) (.int .i32 0) (t + 1))) := (hP.set t _).congr (fun j _ => upTo_set (fun i => .int .i32 (f i)) _ t j)
      have HB : Hid (Below w.heap.size w (wr.setCell ⟨w.heap.size, t, none⟩ (.int .i32 (f t)))) := hB.setCell (Nat.le_refl _) _
      clear hB hP hc1
      go_wp2_with fail
      go_roundg (n - (t + 1))
      case measure => omega
      case rel => exact ⟨t + 1, by omega, rfl, by go_num, HB.out, HS.out⟩
    · obtain rfl : t = n := by omega
      have HS : Hid (wr.rowIs w.heap.size 21 t (fun i => .int .i32 (f i))) := hP.congr (fun i hi => by simp [upTo, hi])
      have HB : Hid (Below w.heap.size w wr) := hB
      clear hP hB
      go_wp2_with fail
      go_ret
      exact ⟨rfl, HB.out, HS.out⟩

set_option maxHeartbeats 2000000 in
theorem left_any (B : Nat) (a : Option Addr) (n c : Nat) (f : Nat → Int) (w : World) (q : w.cell? ⟨B, 5, none⟩ = some (.slice a n c)) (hR : Row w a n (fun i => .int .i32 (f i))) (hn : n ≤ 4096) :
    Calls Try.prog 23 #[.pointer (some ⟨B, 0, none⟩)] w (CopyPost w n f) := by
  have hmk := make35 n (by omega) w
  have hp0 := World.rowIs_made w (.int .i32 0) n 21
  have hb0 : Below w.heap.size w (w.alloc (.cells (madeCells #[.int .i32 0] n) 21)) := (Below.refl _ _).alloc (Nat.le_refl _) _
  generalize w.alloc (.cells (madeCells #[.int .i32 0] n) 21) = w1 at hp0 hmk hb0
  have HR : Hid (Row w a n (fun i => .int .i32 (f i))) := hR
  have HP : Hid (Below w.heap.size w w1 ∧ w1.rowIs w.heap.size 21 n (fun _ => .int .i32 0)) := ⟨hb0, hp0⟩
  clear hR hp0 hb0
  go_enter Try.func23, Try.ntmps23
  go_wp2_with fail
  clear hmk
  go_loopg [4] n (fun g s4 wr => ∃ t : Nat, t ≤ n ∧ g = n - t ∧ s4 = .int .i64 t ∧ Below w.heap.size w wr ∧ wr.rowIs w.heap.size 21 n (upTo (fun i => .int .i32 (f i)) (.int .i32 0) t))
  case atStart => exact ⟨0, Nat.zero_le _, rfl, rfl, HP.out.1, HP.out.2.congr (fun i _ => by simp [upTo])⟩
  case round =>
    clear HP
    obtain ⟨t, ht, rfl, rfl, hB, hP⟩ := hrel
    have q' : wr.cell? ⟨B, 5, none⟩ = some (.slice a n c) := Below.at hB (lt_of_cell q) q
    by_cases htl : t < n
    · obtain ⟨b1, off1, rfl, hc1⟩ := HR.out (by omega)
      have p1 : wr.cell? ⟨b1, off1 + t, none⟩ = some (.int .i32 (f t)) := Below.at hB (lt_of_cell (hc1 t htl)) (hc1 t htl)
      obtain ⟨pv, p2⟩ : ∃ pv, wr.cell? ⟨w.heap.size, t, none⟩ = some pv := ⟨_, hP.cell htl⟩
      have p3 : wr.frozen? ⟨w.heap.size, t, none⟩ = false := hP.frozen t
      have htz : (t : Int) < (n : Int) := by omega
      have HS : Hid ((wr.setCell ⟨w.heap.size, t, none⟩ (.int .i32 (f t))).rowIs w.heap.size 21 n (upTo (fun i => .int .i32 (f i)) (.int .i32 0) (t + 1))) := (hP.set t _).congr (fun j _ => upTo_set (fun i => .int .i32 (f i)) _ t j)
      have HB : Hid (Below w.heap.size w (wr.setCell ⟨w.heap.size, t, none⟩ (.int .i32 (f t)))) := hB.setCell (Nat.le_refl _) _
      clear hB hP hc1
      go_wp2_with fail
      go_roundg (n - (t + 1))
      case measure => omega
      case rel => exact ⟨t + 1, by omega, rfl, by go_num, HB.out, HS.out⟩
    · obtain rfl : t = n := by omega
      have HS : Hid (wr.rowIs w.heap.size 21 t (fun i => .int .i32 (f i))) := hP.congr (fun i hi => by simp [upTo, hi])
      have HB : Hid (Below w.heap.size w wr) := hB
      clear hP hB
      go_wp2_with fail
      go_ret
      exact ⟨rfl, HB.out, HS.out⟩

def SamePost (w : World) (e : Ending) (w' : World) : Prop := e = .returned (.bool true) ∧ Below w.heap.size w w'

set_option maxHeartbeats 2000000 in
theorem same_any (a a' : Option Addr) (n c c' : Nat) (f : Nat → Int) (w : World) (hR : Row w a n (fun i => .int .i32 (f i))) (hR' : Row w a' n (fun i => .int .i32 (f i))) (hn : n ≤ 4096) :
    Calls Try.prog 25 #[.slice a n c, .slice a' n c'] w (SamePost w) := by
  have HR : Hid (Row w a n (fun i => .int .i32 (f i)) ∧ Row w a' n (fun i => .int .i32 (f i))) := ⟨hR, hR'⟩
  clear hR hR'
  go_enter Try.func25, Try.ntmps25
  go_wp2_with fail
  go_loopg [5] n (fun g s5 wr => ∃ t : Nat, t ≤ n ∧ g = n - t ∧ s5 = .int .i64 t ∧ Below w.heap.size w wr)
  case atStart => exact ⟨0, Nat.zero_le _, rfl, rfl, Below.refl _ _⟩
  case round =>
    obtain ⟨t, ht, rfl, rfl, hB⟩ := hrel
    have HB : Hid (Below w.heap.size w wr) := hB
    by_cases htl : t < n
    · obtain ⟨b1, off1, rfl, hc1⟩ := HR.out.1 (by omega)
      obtain ⟨b2, off2, rfl, hc2⟩ := HR.out.2 (by omega)
      have p1 : wr.cell? ⟨b1, off1 + t, none⟩ = some (.int .i32 (f t)) := Below.at hB (lt_of_cell (hc1 t htl)) (hc1 t htl)
      have p2 : wr.cell? ⟨b2, off2 + t, none⟩ = some (.int .i32 (f t)) := Below.at hB (lt_of_cell (hc2 t htl)) (hc2 t htl)
      have htz : (t : Int) < (n : Int) := by omega
      clear hB hc1 hc2
      go_upto_region 6 with fail
      go_quiet (fail)
      go_wp2_with fail
      go_roundg (n - (t + 1))
      case measure => omega
      case rel => exact ⟨t + 1, by omega, rfl, by go_num, below_drewN HB.out _⟩
    · obtain rfl : t = n := by omega
      clear hB
      go_wp2_with fail
      go_ret
      exact ⟨rfl, HB.out⟩
end Go.Proofs.Qxb6000043a
