import Derived.Test.Qxb6000023aLawAll
import Derived.OpenShut
import Derived.ProofKit
import Derived.Deep.Matrix
import Derived.Deep.Grids
/- From the arguments as they come in to what the law asks. -/
namespace Go.Proofs.Qxb6000023a
open Go.ChangeShapes Go.WideShapes Go.ChangeAt Go.RowKit

theorem row_at {w : World} {a : Addr} {N : Nat} {f : Nat → Value} (h : ∀ i, i < N → w.cell? (a.add i) = some (f i)) : Row w (some a) N f := by
  intro hN
  obtain ⟨b, off, spot⟩ := a
  have hspot : spot = none := by simpa [Addr.add] using World.cell?_spot (h 0 hN)
  subst hspot
  exact ⟨b, off, rfl, fun j hj => by rw [← Go.WideShapes.add_plain]; exact h j hj⟩

/-- The numbers of a row of bytes, the first n. -/
def natsOf (zs : List Int) (n : Nat) : List Nat := (zs.take n).map Int.toNat

theorem nats_len {zs : List Int} {n : Nat} (h : n ≤ zs.length) : (natsOf zs n).length = n := by simp [natsOf]; omega
theorem nats_lt {zs : List Int} {n : Nat} (h : ∀ m ∈ zs, (Lit.int .u8 m).wf = true) : ∀ x ∈ natsOf zs n, x < 256 := by
  intro x hx
  simp only [natsOf, List.mem_map] at hx
  obtain ⟨z, hz, rfl⟩ := hx
  have := bounds_u8 (h z (List.mem_of_mem_take hz))
  omega
theorem nats_at {zs : List Int} {n i : Nat} (h : ∀ m ∈ zs, (Lit.int .u8 m).wf = true) (hn : n ≤ zs.length) (hi : i < n) : at8 (natsOf zs n) i = zs.getD i 0 := by
  have hb := bounds_u8 (h zs[i] (List.getElem_mem (by omega)))
  have e : (natsOf zs n).getD i 0 = zs[i].toNat := by
    simp [natsOf, List.getD, List.getElem?_map, hi, List.getElem?_eq_getElem (show i < zs.length by omega)]
  rw [at8, e]
  simp [List.getD, List.getElem?_eq_getElem (show i < zs.length by omega)]
  omega

theorem bts_at {w : World} {a : Addr} {n : Nat} {zs : List Int} (h : ∀ m ∈ zs, (Lit.int .u8 m).wf = true) (hn : n ≤ zs.length)
    (hc : ∀ i, i < n → w.cell? (a.add i) = some (.int .u8 (zs.getD i 0))) : Bts w (some a) (natsOf zs n) := by
  intro hl
  rw [nats_len hn] at hl
  obtain ⟨b, off, e, hc'⟩ := row_at hc hl
  refine ⟨b, off, e, fun i hi => ?_⟩
  rw [nats_len hn] at hi
  rw [hc' i hi, B8, nats_at h hn hi]

/-- A bound as it came in. -/
def colOf (a : Option Addr) (n : Nat) (zs : List Int) : Option (List Nat) := match a with
  | none => none
  | some _ => some (natsOf zs n)

/-- What the law asks of a column of bounds. -/
def InNest (w : World) (a : Option Addr) (n : Nat) (lo : Nat → Option (List Nat)) : Prop :=
  Nest w a n lo ∧ (a = none → n = 0) ∧ n ≤ 9223372036854775807 ∧ (∀ i, i < n → lenO (lo i) ≤ 9223372036854775807) ∧ ∀ i, i < n → ∀ x ∈ getO (lo i), x < 256

theorem in_nest {w : World} {a : Addr} {len cap : Nat} {A : Nat → Option Addr} {L C : Nat → Nat} {Z : Nat → List Int} (hl : len ≤ cap) (hm : cap ≤ maxLen)
    (h : ∀ r, r < cap → w.cell? (a.add r) = some (.slice (A r) (L r) (C r)) ∧ L r ≤ C r ∧ C r ≤ maxLen ∧ (Z r).length = C r ∧ (∀ n ∈ Z r, (Lit.int .u8 n).wf = true) ∧ (A r = none → C r = 0) ∧
        ∀ a', A r = some a' → 0 ≤ a'.block ∧ ∀ c, c < C r → w.cell? (a'.add c) = some (.int .u8 ((Z r).getD c 0))) :
    InNest w (some a) len (fun i => colOf (A i) (L i) (Z i)) := by
  have el : ∀ i, i < len → lenO (colOf (A i) (L i) (Z i)) = L i := by
    intro i hi
    obtain ⟨h1, h2, h3, h4, h5, h6, h7⟩ := h i (by omega)
    cases e : A i with
    | none => have := h6 e; simp [lenO, colOf]; omega
    | some a' => exact nats_len (by omega)
  unfold maxLen at hm
  refine ⟨⟨A, C, ?_, ?_⟩, fun e => (by cases e), by omega, ?_, ?_⟩
  · refine row_at fun i hi => ?_
    rw [el i hi]
    exact (h i (by omega)).1
  · intro i hi
    show Col w (A i) (lenO (colOf (A i) (L i) (Z i))) (colOf (A i) (L i) (Z i))
    rw [el i hi]
    obtain ⟨h1, h2, h3, h4, h5, h6, h7⟩ := h i (by omega)
    cases e : A i with
    | none => have := h6 e; exact ⟨rfl, by omega⟩
    | some a' => exact ⟨rfl, (nats_len (by omega)).symm, bts_at h5 (by omega) (fun j hj => (h7 a' e).2 j (by omega))⟩
  · intro i hi
    show lenO (colOf (A i) (L i) (Z i)) ≤ _
    rw [el i hi]
    obtain ⟨h1, h2, h3, _⟩ := h i (by omega)
    unfold maxLen at h3
    omega
  · intro i hi
    show ∀ x ∈ getO (colOf (A i) (L i) (Z i)), x < 256
    obtain ⟨h1, h2, h3, h4, h5, h6, h7⟩ := h i (by omega)
    cases e : A i with
    | none => intro x hx; cases hx
    | some a' => exact nats_lt h5

theorem in_nest_nil (w : World) : InNest w none 0 (fun _ => none) :=
  ⟨⟨fun _ => none, fun _ => 0, fun h => absurd h (by omega), fun i hi => absurd hi (by omega)⟩, fun _ => rfl, by omega, fun i hi => absurd hi (by omega), fun i hi => absurd hi (by omega)⟩

/-- What the law asks of a row. -/
def InRow (w : World) (a : Option Addr) (n : Nat) (f : Nat → Value) : Prop := Row w a n f ∧ (a = none → n = 0) ∧ n ≤ 9223372036854775807
theorem in_row {w : World} {a : Addr} {len cap : Nat} {f : Nat → Value} (hl : len ≤ cap) (hm : cap ≤ maxLen) (h : ∀ i, i < cap → w.cell? (a.add i) = some (f i)) : InRow w (some a) len f := by
  unfold maxLen at hm
  exact ⟨row_at fun i hi => h i (by omega), fun e => (by cases e), by omega⟩
theorem in_row_nil (w : World) (f : Nat → Value) : InRow w none 0 f := ⟨fun h => absurd h (by omega), fun _ => rfl, by omega⟩

/-- What the law asks of the key. -/
def InKey (w : World) (a : Option Addr) (n : Nat) (k : List Nat) : Prop := n = k.length ∧ Bts w a k ∧ (a = none → k.length = 0) ∧ k.length ≤ 9223372036854775807 ∧ ∀ x ∈ k, x < 256
theorem in_key {w : World} {a : Addr} {len cap : Nat} {zs : List Int} (hl : len ≤ cap) (hm : cap ≤ maxLen) (hz : zs.length = cap) (h : ∀ m ∈ zs, (Lit.int .u8 m).wf = true)
    (hc : ∀ i, i < zs.length → w.cell? (a.add i) = some (.int .u8 (zs.getD i 0))) : InKey w (some a) len (natsOf zs len) := by
  unfold maxLen at hm
  have e := nats_len (zs := zs) (n := len) (by omega)
  exact ⟨e.symm, bts_at h (by omega) (fun i hi => hc i (by omega)), fun e => (by cases e), by omega, nats_lt h⟩
theorem in_key_nil (w : World) : InKey w none 0 [] := ⟨rfl, fun h => absurd h (by simp), fun _ => rfl, by simp, by simp⟩

theorem law_in {a0 a1 a2 a3 a4 a5 a6 : Option Addr} {n n1 n2 n3 n4 M l c0 c1 c2 c3 c4 c5 c6 : Nat} {v : Int} {lo hi : Nat → Option (List Nat)} {le he nr : Nat → Bool} {K : Nat → Int} {k : List Nat} {w : World}
    (h0 : InNest w a0 n lo) (h1 : InNest w a1 n1 hi) (h2 : InRow w a2 n2 (fun i => .bool (le i))) (h3 : InRow w a3 n3 (fun i => .bool (he i))) (h4 : InRow w a4 n4 (fun i => .bool (nr i)))
    (h5 : InRow w a5 M (fun i => .int .i64 (K i))) (h6 : InKey w a6 l k) (hv : (Lit.int .i64 v).wf = true) :
    Calls Try.prog 5 #[.slice a0 n c0, .slice a1 n1 c1, .slice a2 n2 c2, .slice a3 n3 c3, .slice a4 n4 c4, .slice a5 M c5, .int .i64 v, .slice a6 l c6] w (TruePost w) := by
  have bv := bounds_i64 hv
  obtain ⟨rfl, k1, k2, k3, k4⟩ := h6
  obtain ⟨p1, p2, p3, p4, p5⟩ := h0
  obtain ⟨q1, q2, q3, q4, q5⟩ := h1
  exact law_any a0 a1 a2 a3 a4 a5 a6 n n1 n2 n3 n4 M c0 c1 c2 c3 c4 c5 c6 v ⟨lo, hi, le, he, nr⟩ K k w p1 q1 h2.1 h3.1 h4.1 h5.1 k1 p4 q4 p5 q5 k4 p2 q2 h2.2.1 h3.2.1 h4.2.1 h5.2.1 k2 p3 q3 h2.2.2 h3.2.2 h4.2.2 h5.2.2 k3 bv.1 bv.2
end Go.Proofs.Qxb6000023a
