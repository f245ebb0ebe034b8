import Derived.Test.Qxb6000043aRows
import Derived.WalkKit
import Derived.Deep.Draws
import Derived.Deep.OwnRows
import Derived.Deep.LoopGhost
import Derived.Deep.QuietTactic
import Derived.BigQuiet
import Derived.WalkSpells
import Derived.WalkLawsBesides
namespace Go.Proofs.Qxb6000043a
open Go.RowKit

theorem Below.row {B : Nat} {w w' : World} (h : Below B w w') {b : Nat} {t : TypeId} {n : Nat} {f : Nat → Value} (hb : b < B) (hr : w.rowIs b t n f) : w'.rowIs b t n f := hr.of_block (h.block b hb)
theorem Below.at {B : Nat} {w w' : World} (h : Below B w w') {b o : Nat} {v : Value} (hb : b < B) (hr : w.cell? ⟨b, o, none⟩ = some v) : w'.cell? ⟨b, o, none⟩ = some v := (h.cell (p := ⟨b, o, none⟩) hb).trans hr
theorem lt_of_cell {w : World} {b o : Nat} {v : Value} (h : w.cell? ⟨b, o, none⟩ = some v) : b < w.heap.size := World.block_lt_of_cell? _ _ h
theorem below_drewN {B : Nat} {a w : World} (h : Below B a w) (k : Nat) : Below B a (w.drewN k) := ⟨h.os, h.tape, h.output, h.size, h.block⟩

/-- The slice that begins at a holds f 0, .., f (N - 1). -/
def Row (w : World) (a : Option Addr) (N : Nat) (f : Nat → Value) : Prop :=
  0 < N → ∃ b off, a = some ⟨b, off, none⟩ ∧ ∀ i, i < N → w.cell? ⟨b, off + i, none⟩ = some (f i)

theorem Row.below {w w' : World} {a : Option Addr} {N : Nat} {f : Nat → Value} (h : Row w a N f) (hb : Below w.heap.size w w') : Row w' a N f := by
  intro hl
  obtain ⟨b, off, e, hc⟩ := h hl
  exact ⟨b, off, e, fun i hi => Below.at hb (lt_of_cell (hc i hi)) (hc i hi)⟩
theorem Row.of_rowIs {w : World} {b : Nat} {t : TypeId} {N : Nat} {f : Nat → Value} (h : w.rowIs b t N f) : Row w (some ⟨b, 0, none⟩) N f :=
  fun _ => ⟨b, 0, rfl, fun i hi => by rw [Nat.zero_add]; exact h.cell hi⟩
theorem Row.congr {w : World} {a : Option Addr} {N : Nat} {f g : Nat → Value} (h : Row w a N f) (e : ∀ i, i < N → f i = g i) : Row w a N g := by
  intro hl
  obtain ⟨b, off, e1, hc⟩ := h hl
  exact ⟨b, off, e1, fun i hi => by rw [hc i hi, e i hi]⟩
theorem Row.nil {w : World} {a : Option Addr} {f : Nat → Value} : Row w a 0 f := fun h => absurd h (Nat.lt_irrefl _)
theorem Row.of_none {w : World} {a : Option Addr} {N : Nat} {f : Nat → Value} (h : Row w a N f) (e : a = none) : N = 0 := by
  cases N with
  | zero => rfl
  | succ n => obtain ⟨b, off, e1, _⟩ := h (by omega); rw [e] at e1; cases e1
/-- A store into another block. -/
theorem Row.setOther {w : World} {a : Option Addr} {N : Nat} {f : Nat → Value} (h : Row w a N f) {p : Addr} {v : Value} (hp : ∀ b off, a = some ⟨b, off, none⟩ → 0 < N → b ≠ p.block) : Row (w.setCell p v) a N f := by
  intro hl
  obtain ⟨b, off, e, hc⟩ := h hl
  refine ⟨b, off, e, fun i hi => ?_⟩
  have hne := hp b off e hl
  rw [← hc i hi]
  exact World.cell?_of_block (Deep.blk_setCell_other _ _ _ _ hne)

/-- A row whose first t cells are filled by f, the rest by z. -/
def upTo (f : Nat → Value) (z : Value) (t : Nat) : Nat → Value := fun i => if i < t then f i else z
theorem upTo_set (f : Nat → Value) (z : Value) (t j : Nat) : (if j = t then f t else upTo f z t j) = upTo f z (t + 1) j := by
  simp only [upTo]
  by_cases e : j = t
  · subst e; simp
  · rw [if_neg e]
    by_cases h : j < t
    · rw [if_pos h, if_pos (by omega)]
    · rw [if_neg h, if_neg (by omega)]

/-- The rows of a graph as they come in. -/
def Grid (w : World) (a : Option Addr) (N : Nat) (L : Nat → Nat) (Z : Nat → Nat → Int) : Prop :=
  ∃ (A : Nat → Option Addr) (C : Nat → Nat), Row w a N (fun v => .slice (A v) (L v) (C v)) ∧ ∀ v, v < N → Row w (A v) (L v) (fun i => .int .i32 (Z v i))
theorem Grid.below {w w' : World} {a : Option Addr} {N : Nat} {L : Nat → Nat} {Z : Nat → Nat → Int} (h : Grid w a N L Z) (hb : Below w.heap.size w w') : Grid w' a N L Z := by
  obtain ⟨A, C, h1, h2⟩ := h
  exact ⟨A, C, h1.below hb, fun i hi => (h2 i hi).below hb⟩

theorem Try.info21 : (Try.prog.info? 21).map (fun i => (i.zero, i.size, i.bytes)) = some (some (.int .i32 0), 1, 4) := by kernel_rfl
theorem Try.info54 : (Try.prog.info? 54).map (fun i => (i.zero, i.size, i.bytes)) = some (some (.int .i32 0), 1, 4) := by kernel_rfl
theorem Try.info4 : (Try.prog.info? 4).map (fun i => (i.zero, i.size, i.bytes)) = some (some (.bool false), 1, 1) := by kernel_rfl
theorem Try.info3 : (Try.prog.info? 3).map (fun i => (i.zero, i.size, i.bytes)) = some (some (.int .i64 0), 1, 8) := by kernel_rfl
theorem Try.info35 : (Try.prog.info? 35).map (fun i => (i.zero, i.size, i.bytes)) = some (some (.slice none 0 0), 1, 24) := by kernel_rfl
theorem Try.info57 : (Try.prog.info? 57).map (fun i => (i.zero, i.size, i.bytes)) = some (some (.slice none 0 0), 1, 24) := by kernel_rfl
theorem make35 (n : Nat) (h : n ≤ 1048576) (w : World) :
    (Instr.makeSlice 35 (.int .i64 (n : Int)) (.int .i64 (n : Int))).run Try.prog w = .ok (.slice (some ⟨w.heap.size, 0, none⟩) n n) (w.alloc (.cells (madeCells #[.int .i32 0] n) 21)) :=
  run_make_row' 35 21 (.int .i32 0) 4 Try.underlying35 Try.info21 rfl .i64 .i64 n (by omega) (by omega) w
theorem make57 (n : Nat) (h : n ≤ 1048576) (w : World) :
    (Instr.makeSlice 57 (.int .i64 (n : Int)) (.int .i64 (n : Int))).run Try.prog w = .ok (.slice (some ⟨w.heap.size, 0, none⟩) n n) (w.alloc (.cells (madeCells #[.int .i32 0] n) 54)) :=
  run_make_row' 57 54 (.int .i32 0) 4 Try.underlying57 Try.info54 rfl .i64 .i64 n (by omega) (by omega) w
theorem make39 (n : Nat) (h : n ≤ 1048576) (w : World) :
    (Instr.makeSlice 39 (.int .i64 (n : Int)) (.int .i64 (n : Int))).run Try.prog w = .ok (.slice (some ⟨w.heap.size, 0, none⟩) n n) (w.alloc (.cells (madeCells #[.int .i64 0] n) 3)) :=
  run_make_row' 39 3 (.int .i64 0) 8 Try.underlying39 Try.info3 rfl .i64 .i64 n (by omega) (by omega) w
theorem make41 (n : Nat) (h : n ≤ 1048576) (w : World) :
    (Instr.makeSlice 41 (.int .i64 (n : Int)) (.int .i64 (n : Int))).run Try.prog w = .ok (.slice (some ⟨w.heap.size, 0, none⟩) n n) (w.alloc (.cells (madeCells #[.bool false] n) 4)) :=
  run_make_row' 41 4 (.bool false) 1 Try.underlying41 Try.info4 rfl .i64 .i64 n (by omega) (by omega) w
theorem make22 (n : Nat) (h : n ≤ 1048576) (w : World) :
    (Instr.makeSlice 22 (.int .i64 (n : Int)) (.int .i64 (n : Int))).run Try.prog w = .ok (.slice (some ⟨w.heap.size, 0, none⟩) n n) (w.alloc (.cells (madeCells #[.slice none 0 0] n) 35)) :=
  run_make_row' 22 35 (.slice none 0 0) 24 Try.underlying22 Try.info35 rfl .i64 .i64 n (by omega) (by omega) w
theorem make55 (n : Nat) (h : n ≤ 1048576) (w : World) :
    (Instr.makeSlice 55 (.int .i64 (n : Int)) (.int .i64 (n : Int))).run Try.prog w = .ok (.slice (some ⟨w.heap.size, 0, none⟩) n n) (w.alloc (.cells (madeCells #[.slice none 0 0] n) 57)) :=
  run_make_row' 55 57 (.slice none 0 0) 24 Try.underlying55 Try.info57 rfl .i64 .i64 n (by omega) (by omega) w
end Go.Proofs.Qxb6000043a
