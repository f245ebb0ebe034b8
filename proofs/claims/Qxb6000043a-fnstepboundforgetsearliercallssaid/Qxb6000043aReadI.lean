import Derived.Test.Qxb6000043aRead
namespace Go.Proofs.Qxb6000043a
open Go.ChangeShapes Go.WideShapes Go.ChangeAt Go.RowKit

/-- What the law asks of the script that comes in. -/
structure InInts (w : World) (a : Option Addr) (n : Nat) (f : Nat → Int) : Prop where
  row : Row w a n (fun i => .int .i32 (f i))
  top : n ≤ 9223372036854775807
  num : ∀ i, i < n → -2147483648 ≤ f i ∧ f i ≤ 2147483647
theorem in_ints {w : World} {a : Addr} {len cap : Nat} {zs : List Int} (hl : len ≤ cap) (hm : cap ≤ maxLen) (hz : zs.length = cap) (hw : ∀ n ∈ zs, (Lit.int .i32 n).wf = true) (hc : ∀ i, i < zs.length → w.cell? (a.add i) = some (.int .i32 (zs.getD i 0))) : InInts w (some a) len (fun i => zs.getD i 0) := by
  unfold maxLen at hm
  refine ⟨row_at fun i hi => hc i (by omega), by omega, fun i hi => ?_⟩
  have hi' : i < zs.length := by omega
  have hb := bounds_i32 (hw zs[i] (List.getElem_mem hi'))
  simp only [List.getD, List.getElem?_eq_getElem hi', Option.getD_some]
  exact hb
theorem in_ints_nil (w : World) : InInts w none 0 (fun _ => 0) := ⟨Row.nil, by omega, fun i hi => absurd hi (by omega)⟩
end Go.Proofs.Qxb6000043a
