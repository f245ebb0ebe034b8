import Derived.Test.Qxb6000012aGrant
namespace Go.Proofs.Qxb6000012a
open Go.RowKit

theorem Below.row {B : Nat} {w w' : World} (h : Below B w w') {b : Nat} {t : TypeId} {n : Nat} {f : Nat → Value} (hb : b < B) (hr : w.rowIs b t n f) : w'.rowIs b t n f := hr.of_block (h.block b hb)
theorem Below.at {B : Nat} {w w' : World} (h : Below B w w') {b o : Nat} {v : Value} (hb : b < B) (hr : w.cell? ⟨b, o, none⟩ = some v) : w'.cell? ⟨b, o, none⟩ = some v := (h.cell (p := ⟨b, o, none⟩) hb).trans hr
theorem grown_row {w w' : World} {r : Nat} (h : w.grownBy w' (some r)) {b : Nat} {t : TypeId} {n : Nat} {f : Nat → Value} (hb : b ≠ r) (hr : w.rowIs b t n f) : w'.rowIs b t n f :=
  hr.of_block (h.block b hr.lt (by simpa using hb))
theorem lt_of_cell {w : World} {b o : Nat} {v : Value} (h : w.cell? ⟨b, o, none⟩ = some v) : b < w.heap.size := World.block_lt_of_cell? _ _ h

/-- A new row, of which the cells are whatever they are. -/
theorem row_new (w : World) (c : Array Value) (t : TypeId) : (w.alloc (.cells c t)).rowIs w.heap.size t c.size (fun i => c.getD i undef) :=
  World.rowIs_alloc w c t _ (fun i hi => by simp [Array.getD, hi])

theorem Try.info3 : (Try.prog.info? 3).map (fun i => (i.zero, i.size, i.bytes)) = some (some (.int .i64 0), 1, 8) := by kernel_rfl
theorem Try.info22 : (Try.prog.info? 22).map (fun i => (i.zero, i.size, i.bytes)) = some (some (.int .u32 0), 1, 4) := by kernel_rfl
theorem Try.info4 : (Try.prog.info? 4).map (fun i => (i.zero, i.size, i.bytes)) = some (some (.bool false), 1, 1) := by kernel_rfl

theorem make_ints (n : Nat) (h : n ≤ 4096) (w : World) :
    (Instr.makeSlice 32 (.int .i64 (n : Int)) (.int .i64 (n : Int))).run Try.prog w = .ok (.slice (some ⟨w.heap.size, 0, none⟩) n n) (w.alloc (.cells (madeCells #[.int .i64 0] n) 3)) :=
  run_make_row' 32 3 (.int .i64 0) 8 Try.underlying32 Try.info3 rfl .i64 .i64 n (by omega) (by omega) w
theorem make_u32 (n : Nat) (h : n ≤ 4096) (w : World) :
    (Instr.makeSlice 33 (.int .i64 (n : Int)) (.int .i64 (n : Int))).run Try.prog w = .ok (.slice (some ⟨w.heap.size, 0, none⟩) n n) (w.alloc (.cells (madeCells #[.int .u32 0] n) 22)) :=
  run_make_row' 33 22 (.int .u32 0) 4 Try.underlying33 Try.info22 rfl .i64 .i64 n (by omega) (by omega) w

/-- 'make' of elements of several cells. -/
theorem run_make_wide {P : Program} (t e : TypeId) (z : Array Value) (size bytes : Nat) (ht : P.underlying t = some (.slice e))
    (hinfo : (P.info? e).map (fun i => (i.zero.map Value.cells, i.size, i.bytes)) = some (some z, size, bytes))
    (n : Nat) (hbytes : bytes * n ≤ 281474976710656) (h63 : n ≤ 9223372036854775807) (w : World) :
    (Instr.makeSlice t (.int .i64 (n : Int)) (.int .i64 (n : Int))).run P w = .ok (.slice (some ⟨w.heap.size, 0, none⟩) n n) (w.alloc (.cells (madeCells z (n * size)) e)) := by
  obtain ⟨i, hi, hzz⟩ := Option.map_eq_some_iff.1 hinfo
  simp only [Prod.mk.injEq] at hzz
  obtain ⟨hz, hs, hb⟩ := hzz
  obtain ⟨zv, hz1, hz2⟩ := Option.map_eq_some_iff.1 hz
  subst hs hb
  have hb' : (i.bytes : Int) * (n : Int) ≤ 281474976710656 := by
    have h : ((i.bytes * n : Nat) : Int) ≤ 281474976710656 := by omega
    rwa [Int.natCast_mul] at h
  have hr := run_make (P := P) w t e i zv ht hi hz1 .i64 .i64 n n (by omega) (Int.le_refl _) hb' (by omega)
  simp only [Int.toNat_natCast, hz2] at hr
  exact hr

def z69 : Array Value := #[.int .i64 0, .int .u8 0, .int .u8 0, .int .u8 0, .int .u8 0, .int .u8 0, .int .u8 0, .int .u8 0, .int .u8 0, .int .u8 0, .int .u8 0, .int .u8 0, .int .u8 0, .int .u8 0, .int .u8 0, .int .u8 0, .int .u8 0, .int .i64 0, .int .i64 0]
theorem Try.info69 : (Try.prog.info? 69).map (fun i => (i.zero.map Value.cells, i.size, i.bytes)) = some (some z69, 19, 40) := by kernel_rfl
theorem Try.info72 : (Try.prog.info? 72).map (fun i => (i.zero.map Value.cells, i.size, i.bytes)) = some (some #[.int .u32 0, .int .u32 0], 2, 8) := by kernel_rfl

/-- The cells that 'make' lays for the nodes; behind a name. -/
def cells69 (n : Nat) : Array Value := madeCells z69 (n * 19)
def cells72 (n : Nat) : Array Value := madeCells #[.int .u32 0, .int .u32 0] (n * 2)
theorem size69 (n : Nat) : (cells69 n).size = n * 19 := size_madeCells _ _
theorem size72 (n : Nat) : (cells72 n).size = n * 2 := size_madeCells _ _
theorem make_nodes (n : Nat) (h : n ≤ 4096) (w : World) :
    (Instr.makeSlice 60 (.int .i64 (n : Int)) (.int .i64 (n : Int))).run Try.prog w = .ok (.slice (some ⟨w.heap.size, 0, none⟩) n n) (w.alloc (.cells (cells69 n) 69)) :=
  run_make_wide 60 69 z69 19 40 Try.underlying60 Try.info69 n (by omega) (by omega) w
theorem make_states (n : Nat) (h : n ≤ 4096) (w : World) :
    (Instr.makeSlice 70 (.int .i64 (n : Int)) (.int .i64 (n : Int))).run Try.prog w = .ok (.slice (some ⟨w.heap.size, 0, none⟩) n n) (w.alloc (.cells (cells72 n) 72)) :=
  run_make_wide 70 72 _ 2 8 Try.underlying70 Try.info72 n (by omega) (by omega) w
end Go.Proofs.Qxb6000012a
