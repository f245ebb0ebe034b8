import Derived.Test.Qxb6000043aNew
import Derived.Test.Qxb6000043aValid
/- The graph as lists, once it is known to be one. -/
namespace Go.Proofs.Qxb6000043a
open Go.RowKit

/-- A graph: every edge leads to a vertex, none to itself, no row names one twice. -/
structure IsGraph (N : Nat) (E : Nat → List Nat) : Prop where
  hN : N ≤ 4096
  hE : ∀ v, v < N → ∀ q ∈ E v, q < N ∧ q ≠ v
  nd : ∀ v, v < N → (E v).Nodup

def listE (L : Nat → Nat) (Z : Nat → Nat → Int) (v : Nat) : List Nat := (List.range (L v)).map fun i => (Z v i).toNat
theorem listE_len (L : Nat → Nat) (Z : Nat → Nat → Int) (v : Nat) : (listE L Z v).length = L v := by simp [listE]
theorem listE_get (L : Nat → Nat) (Z : Nat → Nat → Int) (v i : Nat) (h : i < L v) : (listE L Z v)[i]'(by rw [listE_len]; exact h) = (Z v i).toNat := by simp [listE]
theorem listE_at {N : Nat} {L : Nat → Nat} {Z : Nat → Nat → Int} (hV : Valid N L Z) {v i : Nat} (hv : v < N) (h : i < L v) : atN (listE L Z v) i = Z v i := by
  rw [atN_get (by rw [listE_len]; exact h), listE_get L Z v i h]
  have := (hV v hv i h).1
  omega

theorem grid_list {w : World} {a : Option Addr} {N : Nat} {L : Nat → Nat} {Z : Nat → Nat → Int} (h : Grid w a N L Z) (hV : Valid N L Z) : GridN w a N (listE L Z) := by
  obtain ⟨A, C, h1, h2⟩ := h
  refine ⟨A, C, h1.congr (fun v _ => by simp only [listE_len]), fun v hv => ?_⟩
  show Row w (A v) (listE L Z v).length _
  rw [listE_len]
  exact (h2 v hv).congr (fun i hi => by simp only [listE_at hV hv hi])

theorem graph_list {N : Nat} {L : Nat → Nat} {Z : Nat → Nat → Int} (hV : Valid N L Z) (hN : N ≤ 4096) : IsGraph N (listE L Z) := by
  refine ⟨hN, fun v hv q hq => ?_, fun v hv => ?_⟩
  · simp only [listE, List.mem_map, List.mem_range] at hq
    obtain ⟨i, hi, rfl⟩ := hq
    obtain ⟨h1, h2, h3, _⟩ := hV v hv i hi
    omega
  · rw [List.Nodup, List.pairwise_iff_getElem]
    intro i j hi hj hij
    rw [listE_len] at hi hj
    rw [listE_get L Z v i hi, listE_get L Z v j hj]
    obtain ⟨h1, _, _, h4⟩ := hV v hv j hj
    have h5 := h4 i hij
    have h6 := (hV v hv i hi).1
    omega

theorem nodup_len {l : List Nat} {N : Nat} (h : l.Nodup) (hl : ∀ q ∈ l, q < N) : l.length ≤ N := by
  have := List.Nodup.length_le_of_subset (l₂ := List.range N) h (fun q hq => List.mem_range.2 (hl q hq))
  simpa using this

theorem IsGraph.len {N : Nat} {E : Nat → List Nat} (h : IsGraph N E) {v : Nat} (hv : v < N) : (E v).length ≤ N := nodup_len (h.nd v hv) (fun q hq => (h.hE v hv q hq).1)

theorem one_le {t x : Nat} : ∀ {l : List Nat}, l.Nodup → (l.filterMap fun y => if y = x then some t else none).length ≤ 1
  | [], _ => by simp
  | y :: l, h => by
    rw [List.nodup_cons] at h
    by_cases e : y = x
    · subst e
      have : (l.filterMap fun z => if z = y then some t else none) = [] := by
        rw [List.filterMap_eq_nil_iff]
        intro z hz
        rw [if_neg (fun e => by subst e; exact h.1 hz)]
      simp [this]
    · have := one_le (t := t) (x := x) h.2
      simp only [List.filterMap_cons, if_neg e]
      exact this

theorem rv_mem {E : Nat → List Nat} {t x v : Nat} : v ∈ rvT E t x ↔ v < t ∧ x ∈ E v := by
  simp only [rvT, List.mem_flatMap, List.mem_range, List.mem_filterMap]
  constructor
  · rintro ⟨u, hu, y, hy, e⟩
    by_cases h : y = x
    · rw [if_pos h] at e; cases e; subst h; exact ⟨hu, hy⟩
    · rw [if_neg h] at e; cases e
  · rintro ⟨h1, h2⟩
    exact ⟨v, h1, x, h2, by simp⟩

theorem rv_len {N : Nat} {E : Nat → List Nat} (h : ∀ v, v < N → (E v).Nodup) (x : Nat) : ∀ t, t ≤ N → (rvT E t x).length ≤ t := by
  intro t
  induction t with
  | zero => intro _; simp [rvT]
  | succ t ih =>
    intro ht
    have h1 := ih (by omega)
    have h2 := one_le (t := t) (x := x) (h t (by omega))
    have e : rvT E (t + 1) x = rvT E t x ++ (E t).filterMap fun y => if y = x then some t else none := by simp [rvT, List.range_succ]
    rw [e, List.length_append]
    omega

theorem rv_nodup {N : Nat} {E : Nat → List Nat} (h : ∀ v, v < N → (E v).Nodup) (x : Nat) : ∀ t, t ≤ N → (rvT E t x).Nodup := by
  intro t
  induction t with
  | zero => intro _; simp [rvT]
  | succ t ih =>
    intro ht
    have h1 := ih (by omega)
    have h2 := one_le (t := t) (x := x) (h t (by omega))
    have e : rvT E (t + 1) x = rvT E t x ++ (E t).filterMap fun y => if y = x then some t else none := by simp [rvT, List.range_succ]
    rw [e, List.nodup_append]
    refine ⟨h1, ?_, ?_⟩
    · cases hl : (E t).filterMap fun y => if y = x then some t else none with
      | nil => simp
      | cons a l =>
        rw [hl] at h2
        have : l = [] := by cases l with
          | nil => rfl
          | cons b l => simp at h2
        subst this
        simp
    · intro a ha b hb
      have h3 := (rv_mem.1 ha).1
      simp only [List.mem_filterMap] at hb
      obtain ⟨y, _, e⟩ := hb
      by_cases h4 : y = x
      · rw [if_pos h4] at e; cases e; omega
      · rw [if_neg h4] at e; cases e
end Go.Proofs.Qxb6000043a
