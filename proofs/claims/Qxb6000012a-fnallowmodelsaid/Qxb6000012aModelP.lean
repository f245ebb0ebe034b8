import Derived.Test.Qxb6000012aPlain
import Derived.Test.Qxb6000012aShapeP
namespace Go.Proofs.Qxb6000012a

theorem IsPar.uniq {lv : Nat → Int} {i : Nat} {p p' : Int} (h : IsPar lv i p) (h' : IsPar lv i p') : p = p' := by
  rcases h with ⟨e, h1⟩ | ⟨q, e, h1, h2, h3⟩ <;> rcases h' with ⟨e', h1'⟩ | ⟨q', e', h1', h2', h3'⟩
  · omega
  · have := h1 q' h1'; omega
  · have := h1' q h1; omega
  · by_cases c : q < q'
    · have := h3 q' c h1'; omega
    · by_cases c' : q' < q
      · have := h3' q c' h1; omega
      · omega

/-- What the nodes of a level from j on, c of them looked at, have in common. -/
def scan (lv : Nat → Int) (s : St) (l : Int) : Nat → Nat → BitVec 32 → BitVec 32
  | 0, _, a => a
  | c + 1, j, a => scan lv s l c (j + 1) (if lv j = l then a &&& (s j).2 else a)

theorem scan_add (lv : Nat → Int) (s : St) (l : Int) : ∀ c d j a, scan lv s l (c + d) j a = scan lv s l d (j + c) (scan lv s l c j a) := by
  intro c
  induction c with
  | zero => intro d j a; simp [scan]
  | succ c ih =>
    intro d j a
    rw [show c + 1 + d = (c + d) + 1 by omega, scan, ih, scan, show j + 1 + c = j + (c + 1) by omega]

theorem scan_skip (lv : Nat → Int) (s : St) (l : Int) : ∀ c j a, (∀ t, j ≤ t → t < j + c → lv t ≠ l) → scan lv s l c j a = a := by
  intro c
  induction c with
  | zero => intro j a _; rfl
  | succ c ih =>
    intro j a h
    rw [scan, if_neg (h j (Nat.le_refl _) (by omega))]
    exact ih _ _ (fun t h1 h2 => h t (by omega) (by omega))

/-- The children by the ends are the nodes one level down. -/
theorem shr_scan {lv : Nat → Int} {n : Nat} {E : Nat → Nat} (hE : ∀ i, i < n → IsEnd lv n i (E i)) (s : St) (l : Int) (e : Nat) (he : e ≤ n) (hel : e < n → lv e < l) :
    ∀ f c a, e ≤ c + f → c ≤ e → (c < e → lv c = l) → (∀ j, c ≤ j → j < e → l ≤ lv j) → shr E s f c e a = scan lv s l (e - c) c a := by
  intro f
  induction f with
  | zero =>
    intro c a h1 h2 _ _
    have : e - c = 0 := by omega
    rw [this]; rfl
  | succ f ih =>
    intro c a h1 h2 h3 h4
    rw [shr]
    by_cases hc : c < e
    · rw [if_pos hc]
      obtain ⟨g1, g2, g3, g4⟩ := hE c (by omega)
      have hcl := h3 hc
      have hle : E c ≤ e := by
        by_cases hlt : e < E c
        · exfalso
          have := g3 e hc hlt
          have := hel (by omega)
          omega
        · omega
      rw [ih (E c) _ (by omega) hle ?_ (fun j hj1 hj2 => h4 j (by omega) hj2)]
      · have e1 : e - c = (1 + (E c - c - 1)) + (e - E c) := by omega
        rw [e1, scan_add, scan_add]
        have e2 : c + (1 + (E c - c - 1)) = E c := by omega
        rw [e2]
        congr 1
        rw [scan_skip lv s l (E c - c - 1) (c + 1)]
        · simp [scan, hcl]
        · intro t ht1 ht2
          have := g3 t (by omega) (by omega)
          omega
      · intro hlt
        have k1 := g4 (by omega)
        have k2 := h4 (E c) (by omega) hlt
        omega
    · rw [if_neg hc]
      have : e - c = 0 := by omega
      rw [this]; rfl
end Go.Proofs.Qxb6000012a
