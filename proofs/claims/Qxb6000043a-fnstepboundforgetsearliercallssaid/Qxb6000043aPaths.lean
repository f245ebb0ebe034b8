import Derived.KernelRfl
/- The paths, in plain: positions; the suffix counts F and G; the forward pass keeps phi. -/
namespace Go.Proofs.Qxb6000043a

def updF {α : Type} (f : Nat → α) (v : Nat) (a : α) : Nat → α := fun x => if x = v then a else f x
theorem updF_same {α : Type} (f : Nat → α) (v : Nat) (a : α) : updF f v a v = a := by simp [updF]
theorem updF_other {α : Type} (f : Nat → α) {v x : Nat} (a : α) (h : x ≠ v) : updF f v a x = f x := by simp [updF, h]

/-- v's place in l from 1, and 0 where v is absent. -/
def posA : List Nat → Nat → (Nat → Nat) → (Nat → Nat)
  | [], _, f => f
  | v :: l, k, f => posA l (k + 1) (updF f v (k + 1))
def posF (l : List Nat) : Nat → Nat := posA l 0 (fun _ => 0)
theorem posA_app (v : Nat) : ∀ (l : List Nat) (k : Nat) (f : Nat → Nat), posA (l ++ [v]) k f = updF (posA l k f) v (k + l.length + 1)
  | [], k, f => rfl
  | x :: l, k, f => by
    show posA (l ++ [v]) (k + 1) _ = _
    rw [posA_app v l (k + 1)]
    show _ = updF (posA l (k + 1) _) v _
    simp only [List.length_cons]
    rw [show k + 1 + l.length + 1 = k + (l.length + 1) + 1 by omega]
theorem posF_app (l : List Nat) (v : Nat) : posF (l ++ [v]) = updF (posF l) v (l.length + 1) := by
  rw [posF, posA_app]
  simp [posF]
theorem posA_not (x : Nat) : ∀ (l : List Nat) (k : Nat) (f : Nat → Nat), x ∉ l → posA l k f x = f x
  | [], _, _, _ => rfl
  | v :: l, k, f, h => by
    rw [List.mem_cons, not_or] at h
    show posA l (k + 1) _ x = f x
    rw [posA_not x l (k + 1) _ h.2, updF_other _ _ h.1]
theorem posF_zero {l : List Nat} {x : Nat} (h : x ∉ l) : posF l x = 0 := posA_not x l 0 _ h
theorem posA_at : ∀ (l : List Nat) (k : Nat) (f : Nat → Nat) (i : Nat) (hi : i < l.length), l.Nodup → posA l k f l[i] = k + i + 1
  | v :: l, k, f, 0, _, h => by
    rw [List.nodup_cons] at h
    show posA l (k + 1) _ v = _
    rw [posA_not v l (k + 1) _ h.1, updF_same]
  | v :: l, k, f, i + 1, hi, h => by
    rw [List.nodup_cons] at h
    have hi' : i < l.length := by simpa using hi
    have := posA_at l (k + 1) (updF f v (k + 1)) i hi' h.2
    show posA l (k + 1) _ (l[i]'hi') = _
    rw [this]
    omega
theorem posF_at {l : List Nat} (h : l.Nodup) {i : Nat} (hi : i < l.length) : posF l l[i] = i + 1 := by
  have := posA_at l 0 (fun _ => 0) i hi h
  rw [posF, this]; omega
theorem posF_le (l : List Nat) (h : l.Nodup) (x : Nat) : posF l x ≤ l.length := by
  by_cases hx : x ∈ l
  · obtain ⟨i, hi, rfl⟩ := List.mem_iff_getElem.1 hx
    rw [posF_at h hi]; omega
  · rw [posF_zero hx]; omega
theorem posF_pos {l : List Nat} (h : l.Nodup) {x : Nat} (hx : x ∈ l) : 0 < posF l x := by
  obtain ⟨i, hi, rfl⟩ := List.mem_iff_getElem.1 hx
  rw [posF_at h hi]; omega

/-- The suffix counts: how many, and their edges in all. -/
def sf (E : Nat → List Nat) (r : Nat) (pos : Nat → Nat) : Nat → Nat → Nat × Nat
  | 0, _ => (0, 0)
  | n + 1, u => (((E u).map fun w => if w = r then 1 else if pos w < pos u then (sf E r pos n w).1 else 0).sum, ((E u).map fun w => if w = r then 0 else if pos w < pos u then (sf E r pos n w).2 + (sf E r pos n w).1 else 0).sum)
theorem sf_fuel (E : Nat → List Nat) (r : Nat) (pos : Nat → Nat) : ∀ (n m u : Nat), pos u < n → pos u < m → sf E r pos n u = sf E r pos m u
  | 0, _, _, h, _ => by omega
  | _ + 1, 0, _, _, h => by omega
  | n + 1, m + 1, u, hn, hm => by
    have e : ∀ w, pos w < pos u → sf E r pos n w = sf E r pos m w := fun w hw => sf_fuel E r pos n m w (by omega) (by omega)
    have e1 : ((E u).map fun w => if w = r then 1 else if pos w < pos u then (sf E r pos n w).1 else 0) = ((E u).map fun w => if w = r then 1 else if pos w < pos u then (sf E r pos m w).1 else 0) := by
      refine List.map_congr_left (fun w _ => ?_)
      by_cases h : pos w < pos u
      · rw [e w h]
      · simp [h]
    have e2 : ((E u).map fun w => if w = r then 0 else if pos w < pos u then (sf E r pos n w).2 + (sf E r pos n w).1 else 0) = ((E u).map fun w => if w = r then 0 else if pos w < pos u then (sf E r pos m w).2 + (sf E r pos m w).1 else 0) := by
      refine List.map_congr_left (fun w _ => ?_)
      by_cases h : pos w < pos u
      · rw [e w h]
      · simp [h]
    rw [sf, sf, e1, e2]
def FF (E : Nat → List Nat) (r : Nat) (pos : Nat → Nat) (u : Nat) : Nat := (sf E r pos (pos u + 1) u).1
def GG (E : Nat → List Nat) (r : Nat) (pos : Nat → Nat) (u : Nat) : Nat := (sf E r pos (pos u + 1) u).2
/-- What an edge of u adds to F, to G. -/
def fw (E : Nat → List Nat) (r : Nat) (pos : Nat → Nat) (u w : Nat) : Nat := if w = r then 1 else if pos w < pos u then FF E r pos w else 0
def gw (E : Nat → List Nat) (r : Nat) (pos : Nat → Nat) (u w : Nat) : Nat := if w = r then 0 else if pos w < pos u then GG E r pos w + FF E r pos w else 0
theorem FF_eq (E : Nat → List Nat) (r : Nat) (pos : Nat → Nat) (u : Nat) : FF E r pos u = ((E u).map (fw E r pos u)).sum := by
  unfold FF
  rw [sf]
  show (List.map _ (E u)).sum = _
  congr 1
  refine List.map_congr_left (fun w _ => ?_)
  unfold fw FF
  by_cases h : pos w < pos u
  · rw [sf_fuel E r pos (pos u) (pos w + 1) w h (by omega)]
  · simp [h]
theorem GG_eq (E : Nat → List Nat) (r : Nat) (pos : Nat → Nat) (u : Nat) : GG E r pos u = ((E u).map (gw E r pos u)).sum := by
  unfold GG
  rw [sf]
  show (List.map _ (E u)).sum = _
  congr 1
  refine List.map_congr_left (fun w _ => ?_)
  unfold gw GG FF
  by_cases h : pos w < pos u
  · rw [sf_fuel E r pos (pos u) (pos w + 1) w h (by omega)]
  · simp [h]

/-- What w's entries are worth. -/
def worth (E : Nat → List Nat) (r : Nat) (pos : Nat → Nat) (P L : Nat → Nat) (w : Nat) : Nat := L w * FF E r pos w + P w * GG E r pos w + 2 * (P w * FF E r pos w)
def phi (E : Nat → List Nat) (r : Nat) (pos : Nat → Nat) (S : Nat) (rem : List Nat) (P L : Nat → Nat) : Nat := S + (rem.map (worth E r pos P L)).sum
/-- What the edge v -> w adds. -/
def dl (E : Nat → List Nat) (r : Nat) (pos : Nat → Nat) (p l v w : Nat) : Nat := l * fw E r pos v w + p * gw E r pos v w + 2 * (p * fw E r pos v w)

theorem sum_congr_not {f g : Nat → Nat} {rem : List Nat} (h : ∀ x ∈ rem, f x = g x) : (rem.map f).sum = (rem.map g).sum := by
  rw [List.map_congr_left h]
theorem sum_upd {f g : Nat → Nat} {w d : Nat} (hw : g w = f w + d) (ho : ∀ x, x ≠ w → g x = f x) : ∀ {rem : List Nat}, rem.Nodup → w ∈ rem → (rem.map g).sum = (rem.map f).sum + d
  | x :: rem, hn, hm => by
    rw [List.nodup_cons] at hn
    simp only [List.map_cons, List.sum_cons]
    by_cases e : x = w
    · subst e
      rw [hw, sum_congr_not (f := g) (g := f) (fun y hy => ho y (fun e => by subst e; exact hn.1 hy))]
      omega
    · have hm' : w ∈ rem := by
        rcases List.mem_cons.1 hm with e2 | h
        · exact absurd e2.symm e
        · exact h
      rw [ho x e, sum_upd hw ho hn.2 hm']
      omega

/-- One edge, not into the root, to an earlier vertex. -/
theorem phi_edge {E : Nat → List Nat} {r : Nat} {pos : Nat → Nat} {S : Nat} {rem : List Nat} {P L : Nat → Nat} {p l v w : Nat} (hn : rem.Nodup) (hw : w ∈ rem) (hr : w ≠ r) (hp : pos w < pos v) :
    phi E r pos S rem (updF P w (P w + p)) (updF L w (L w + (l + p))) = phi E r pos S rem P L + dl E r pos p l v w := by
  unfold phi
  rw [sum_upd (f := worth E r pos P L) (g := worth E r pos (updF P w (P w + p)) (updF L w (L w + (l + p)))) (w := w) (d := dl E r pos p l v w) ?_ (fun x hx => ?_) hn hw]
  · omega
  · simp only [worth, dl, fw, gw, if_neg hr, if_pos hp, updF_same, Nat.add_mul, Nat.mul_add]
    omega
  · simp only [worth, updF_other _ _ hx]
theorem dl_root {E : Nat → List Nat} {r : Nat} {pos : Nat → Nat} {p l v : Nat} : dl E r pos p l v r = l + p + p := by
  simp [dl, fw, gw]; omega
theorem dl_none {E : Nat → List Nat} {r : Nat} {pos : Nat → Nat} {p l v w : Nat} (hr : w ≠ r) (hp : ¬ pos w < pos v) : dl E r pos p l v w = 0 := by
  simp [dl, fw, gw, hr, hp]
theorem dl_sum (E : Nat → List Nat) (r : Nat) (pos : Nat → Nat) (p l v : Nat) (ws : List Nat) : (ws.map (dl E r pos p l v)).sum = l * (ws.map (fw E r pos v)).sum + p * (ws.map (gw E r pos v)).sum + 2 * (p * (ws.map (fw E r pos v)).sum) := by
  induction ws with
  | nil => simp
  | cons w ws ih => simp only [List.map_cons, List.sum_cons, ih, dl, Nat.mul_add]; omega
/-- All edges of v together are worth what v's entries were. -/
theorem dl_all (E : Nat → List Nat) (r : Nat) (pos : Nat → Nat) (P L : Nat → Nat) (v : Nat) : ((E v).map (dl E r pos (P v) (L v) v)).sum = worth E r pos P L v := by
  rw [dl_sum, ← FF_eq, ← GG_eq, worth]

theorem phi_start {E : Nat → List Nat} {r : Nat} {pos : Nat → Nat} {rem : List Nat} (hn : rem.Nodup) (hr : r ∈ rem) : phi E r pos 0 rem (updF (fun _ => 0) r 1) (fun _ => 0) = GG E r pos r + 2 * FF E r pos r := by
  unfold phi
  rw [sum_upd (f := fun _ => 0) (g := worth E r pos (updF (fun _ => 0) r 1) (fun _ => 0)) (w := r) (d := GG E r pos r + 2 * FF E r pos r) ?_ (fun x hx => ?_) hn hr]
  · have : ∀ l : List Nat, (l.map fun _ => 0).sum = 0 := by
      intro l
      induction l with
      | nil => rfl
      | cons x l ih => simp only [List.map_cons, List.sum_cons, ih]
    rw [this]
    omega
  · simp [worth, updF]
  · simp [worth, updF, hx]
end Go.Proofs.Qxb6000043a
