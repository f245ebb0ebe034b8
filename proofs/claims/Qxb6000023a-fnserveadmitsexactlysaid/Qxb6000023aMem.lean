import Derived.Test.Qxb6000023aRows
import Derived.WalkKit
import Derived.Deep.Draws
import Derived.Deep.OwnRows
import Derived.Deep.LoopGhost
import Derived.Deep.QuietTactic
import Derived.BigQuiet
import Derived.WalkSpells
import Derived.WalkLawsBesides
namespace Go.Proofs.Qxb6000023a
open Go.RowKit

theorem Below.row {B : Nat} {w w' : World} (h : Below B w w') {b : Nat} {t : TypeId} {n : Nat} {f : Nat → Value} (hb : b < B) (hr : w.rowIs b t n f) : w'.rowIs b t n f := hr.of_block (h.block b hb)
theorem Below.at {B : Nat} {w w' : World} (h : Below B w w') {b o : Nat} {v : Value} (hb : b < B) (hr : w.cell? ⟨b, o, none⟩ = some v) : w'.cell? ⟨b, o, none⟩ = some v := (h.cell (p := ⟨b, o, none⟩) hb).trans hr
theorem lt_of_cell {w : World} {b o : Nat} {v : Value} (h : w.cell? ⟨b, o, none⟩ = some v) : b < w.heap.size := World.block_lt_of_cell? _ _ h
theorem below_drewN {B : Nat} {a w : World} (h : Below B a w) (k : Nat) : Below B a (w.drewN k) := ⟨h.os, h.tape, h.output, h.size, h.block⟩

/-- Byte i of l, as a number. Behind a name that the walk does not open. -/
def at8 (l : List Nat) (i : Nat) : Int := ((l.getD i 0 : Nat) : Int)
abbrev B8 (l : List Nat) (i : Nat) : Value := .int .u8 (at8 l i)

/-- The slice that begins at a holds the bytes l. -/
def Bts (w : World) (a : Option Addr) (l : List Nat) : Prop :=
  0 < l.length → ∃ b off, a = some ⟨b, off, none⟩ ∧ ∀ i, i < l.length → w.cell? ⟨b, off + i, none⟩ = some (B8 l i)

theorem Bts.below {w w' : World} {a : Option Addr} {l : List Nat} (h : Bts w a l) (hb : Below w.heap.size w w') : Bts w' a l := by
  intro hl
  obtain ⟨b, off, e, hc⟩ := h hl
  exact ⟨b, off, e, fun i hi => Below.at hb (lt_of_cell (hc i hi)) (hc i hi)⟩
theorem Bts.drewN {w : World} {a : Option Addr} {l : List Nat} (h : Bts w a l) (k : Nat) : Bts (w.drewN k) a l := h

/-- Bytes in their order. -/
def cmpL : List Nat → List Nat → Int
  | [], [] => 0
  | [], _ :: _ => -1
  | _ :: _, [] => 1
  | x :: xs, y :: ys => if x < y then -1 else if y < x then 1 else cmpL xs ys

theorem at8_drop {l : List Nat} {i : Nat} (h : i < l.length) : ∃ x, l.drop i = x :: l.drop (i + 1) ∧ at8 l i = (x : Int) := by
  refine ⟨l[i], List.drop_eq_getElem_cons h, ?_⟩
  simp [at8, h]

def CmpPost (r : Int) (w : World) (e : Ending) (w' : World) : Prop := e = .returned (.int .i64 r) ∧ ∃ nq, w' = w.drewN nq
end Go.Proofs.Qxb6000023a
