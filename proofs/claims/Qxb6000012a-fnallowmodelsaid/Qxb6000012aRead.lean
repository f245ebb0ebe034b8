import Derived.Test.Qxb6000012aMem
import Derived.OpenShut
namespace Go.Proofs.Qxb6000012a
open Go.RowKit

/-- From a row of integers that came in to what the walks ask. -/
theorem read_row {k : IntKind} {w : World} {x : Addr} {len cap : Nat} {zs : List Int} (hl : len ≤ cap) (hz : zs.length = cap)
    (hc : ∀ i, i < zs.length → w.cell? (x.add i) = some (.int k (zs.getD i 0))) (hlen : 0 < len) :
    ∃ b off, some x = some (⟨b, off, none⟩ : Addr) ∧ ∀ i, i < len → w.cell? ⟨b, off + i, none⟩ = some (.int k (zs.getD i 0)) := by
  obtain ⟨b, off, rfl, hc'⟩ := ints_at hc (by omega)
  exact ⟨b, off, rfl, fun i hi => hc' i (by omega)⟩

theorem word_of {zs : List Int} (h : ∀ n ∈ zs, (Lit.int .u32 n).wf = true) (i : Nat) : (Value.int .u32 (zs.getD i 0)) = V32 (BitVec.ofInt 32 (zs.getD i 0)) := by
  have hb := range_u32 h i
  rw [V32, ← eq_of_wf (WalkArith.wf_u32 (by simpa using hb))]
end Go.Proofs.Qxb6000012a
