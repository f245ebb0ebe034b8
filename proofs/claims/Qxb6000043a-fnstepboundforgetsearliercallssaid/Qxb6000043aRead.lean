import Derived.Test.Qxb6000043aMem
import Derived.OpenShut
import Derived.ProofKit
import Derived.Deep.Matrix
/- From the arguments as they come in to what the walks ask. -/
namespace Go.Proofs.Qxb6000043a
open Go.ChangeShapes Go.WideShapes Go.ChangeAt Go.RowKit

theorem row_at {w : World} {a : Addr} {N : Nat} {f : Nat → Value} (h : ∀ i, i < N → w.cell? (a.add i) = some (f i)) : Row w (some a) N f := by
  intro hN
  obtain ⟨b, off, spot⟩ := a
  have hspot : spot = none := by simpa [Addr.add] using World.cell?_spot (h 0 hN)
  subst hspot
  exact ⟨b, off, rfl, fun j hj => by rw [← Go.WideShapes.add_plain]; exact h j hj⟩

/-- What the laws ask of the graph that comes in. -/
structure InGrid (w : World) (a : Option Addr) (N : Nat) (L : Nat → Nat) (Z : Nat → Nat → Int) : Prop where
  grid : Grid w a N L Z
  nil : a = none → N = 0
  top : N ≤ 9223372036854775807
  len : ∀ i, i < N → L i ≤ 9223372036854775807
  num : ∀ v, v < N → ∀ i, i < L v → -2147483648 ≤ Z v i ∧ Z v i ≤ 2147483647

theorem in_grid {w : World} {a : Addr} {len cap : Nat} {A : Nat → Option Addr} {L C : Nat → Nat} {Z : Nat → List Int} (hl : len ≤ cap) (hm : cap ≤ maxLen)
    (h : ∀ r, r < cap → w.cell? (a.add r) = some (.slice (A r) (L r) (C r)) ∧ L r ≤ C r ∧ C r ≤ maxLen ∧ (Z r).length = C r ∧ (∀ n ∈ Z r, (Lit.int .i32 n).wf = true) ∧ (A r = none → C r = 0) ∧
        ∀ a', A r = some a' → 0 ≤ a'.block ∧ ∀ c, c < C r → w.cell? (a'.add c) = some (.int .i32 ((Z r).getD c 0))) :
    InGrid w (some a) len L (fun v i => (Z v).getD i 0) := by
  unfold maxLen at hm
  refine ⟨⟨A, C, row_at fun i hi => (h i (by omega)).1, fun v hv => ?_⟩, fun e => (by cases e), by omega, fun i hi => ?_, fun v hv i hi => ?_⟩
  · obtain ⟨h1, h2, h3, h4, h5, h6, h7⟩ := h v (by omega)
    cases e : A v with
    | none => have := h6 e; intro hp; omega
    | some a' => exact row_at fun i hi => (h7 a' e).2 i (by omega)
  · obtain ⟨h1, h2, h3, _⟩ := h i (by omega)
    unfold maxLen at h3
    omega
  · obtain ⟨h1, h2, h3, h4, h5, h6, h7⟩ := h v (by omega)
    have hi' : i < (Z v).length := by omega
    have hb := bounds_i32 (h5 (Z v)[i] (List.getElem_mem hi'))
    simp only [List.getD, List.getElem?_eq_getElem hi', Option.getD_some]
    exact hb
theorem in_grid_nil (w : World) : InGrid w none 0 (fun _ => 0) (fun _ _ => 0) :=
  ⟨⟨fun _ => none, fun _ => 0, Row.nil, fun i hi => absurd hi (by omega)⟩, fun _ => rfl, by omega, fun i hi => absurd hi (by omega), fun i hi => absurd hi (by omega)⟩
end Go.Proofs.Qxb6000043a
