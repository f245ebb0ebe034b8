import Derived.Test.Qxb6000012aRows
import Derived.WalkKit
import Derived.Deep.Draws
import Derived.Deep.OwnRows
namespace Go.Proofs.Qxb6000012a
open Go.RowKit

/-- A 32-bit word as a number. Behind a name that the walk does not open. -/
def n32 (x : BitVec 32) : Int := (x.toNat : Int)
/-- A 32-bit word as the cell holds it. -/
abbrev V32 (x : BitVec 32) : Value := .int .u32 (n32 x)

theorem ofInt_n32 (a : BitVec 32) : BitVec.ofInt 32 (n32 a) = a := by simp [n32]
theorem wrap_nat (a : BitVec 32) : IntKind.u32.wrap (a.toNat : Int) = n32 a := by
  have := a.isLt
  simp only [IntKind.wrap, IntKind.bits, IntKind.signed, n32]
  simp
  omega
theorem n32_bd (a : BitVec 32) : 0 ≤ n32 a ∧ n32 a < 4294967296 := by have := a.isLt; unfold n32; omega
theorem n32_inj {a b : BitVec 32} (h : n32 a = n32 b) : a = b := by
  have := congrArg (BitVec.ofInt 32) h; simpa [ofInt_n32] using this
theorem wrap_n32 (a : BitVec 32) : IntKind.u32.wrap (n32 a) = n32 a := wrap_nat a
theorem bor (a b : BitVec 32) : bits .or .u32 (n32 a) (n32 b) = n32 (a ||| b) := by
  show IntKind.u32.wrap ((BitVec.ofInt 32 (n32 a) ||| BitVec.ofInt 32 (n32 b)).toNat : Int) = _
  rw [ofInt_n32, ofInt_n32, wrap_nat]
theorem band (a b : BitVec 32) : bits .and .u32 (n32 a) (n32 b) = n32 (a &&& b) := by
  show IntKind.u32.wrap ((BitVec.ofInt 32 (n32 a) &&& BitVec.ofInt 32 (n32 b)).toNat : Int) = _
  rw [ofInt_n32, ofInt_n32, wrap_nat]
theorem bnot (a b : BitVec 32) : bits .andNot .u32 (n32 a) (n32 b) = n32 (a &&& ~~~b) := by
  show IntKind.u32.wrap ((BitVec.ofInt 32 (n32 a) &&& ~~~(BitVec.ofInt 32 (n32 b))).toNat : Int) = _
  rw [ofInt_n32, ofInt_n32, wrap_nat]
theorem eq_of_wf {n : Int} (h : (Lit.int .u32 n).wf = true) : n = n32 (BitVec.ofInt 32 n) := by
  have h' : 0 ≤ n ∧ n < 4294967296 := by
    simp [Lit.wf, IntKind.min, IntKind.max, IntKind.signed, IntKind.bits] at h
    omega
  simp only [n32, BitVec.toNat_ofInt]
  omega

set_option maxHeartbeats 400000 in
theorem grant_any (b o : Nat) (D G m : BitVec 32) (w : World)
    (hD : w.cell? ⟨b, o, none⟩ = some (V32 D)) (hG : w.cell? ⟨b, o + 1, none⟩ = some (V32 G))
    (fD : w.frozen? ⟨b, o, none⟩ = false) (fG : w.frozen? ⟨b, o + 1, none⟩ = false) :
    Calls Try.prog 29 #[.pointer (some ⟨b, o, none⟩), V32 m] w fun e w' => e = .returned (.tuple #[]) ∧
      w' = (((w.setCell ⟨b, o + 1, none⟩ (V32 (G ||| (m &&& ~~~D)))).setCell ⟨b, o, none⟩ (V32 (D ||| m)))).drew := by
  have h1 := bor
  have h2 := bnot
  go_enter Try.func29, Try.ntmps29
  go_wp2
  go_region
  go_wp2
  go_end0
  exact ⟨rfl, rfl⟩
end Go.Proofs.Qxb6000012a
