import Derived.Test.Qxb6000023aPlain
namespace Go.Proofs.Qxb6000023a

/-- Column j's value in k. -/
def seg (k : List Nat) (W j : Nat) : List Nat := (k.drop (j * W)).take W
/-- Column i admits v. -/
def admB (c : Cols) (i : Nat) (v : List Nat) : Bool := loB (c.lo i) (c.le i) v && hiB (c.hi i) (c.he i) v
/-- The first j columns of the key admit their values. -/
def wantB (c : Cols) (κ : Nat → Nat) (W : Nat) (k : List Nat) : Nat → Bool
  | 0 => true
  | j + 1 => wantB c κ W k j && admB c (κ j) (seg k W j)

theorem pt_admits {c : Cols} {i : Nat} {v l : List Nat} (h : c.pt i = true) (hl : c.lo i = some l) : admB c i v = decide (v = l) := by
  unfold Cols.pt at h
  rw [hl] at h
  cases hh : c.hi i with
  | none => rw [hh] at h; exact Bool.noConfusion h
  | some l' =>
    rw [hh] at h
    simp only [ptO, Bool.and_eq_true, Bool.not_eq_true', decide_eq_true_eq] at h
    obtain ⟨⟨h1, h2⟩, h3⟩ := h
    have e := (cmp_zero l l').1 h3
    subst e
    rw [admB, hl, hh, h1, h2]
    simp only [loB, hiB, Bool.and_false, Bool.or_false]
    have hk : decide (v = l) = decide (cmpL v l = 0) := by simp [cmp_zero]
    rw [hk]
    rcases cmp_cases v l with e | e | e <;> simp [e]

theorem take_seg (k : List Nat) (W j : Nat) : k.take ((j + 1) * W) = k.take (j * W) ++ seg k W j := by
  rw [Nat.add_mul, Nat.one_mul, List.take_add]; rfl

theorem append_eq {a b x y : List Nat} (h : a.length = b.length) : decide (a ++ x = b ++ y) = (decide (a = b) && decide (x = y)) := by
  by_cases e : a = b
  · subst e; simp
  · have : ¬ (a ++ x = b ++ y) := fun he => e (List.append_inj_left he h)
    simp [e, this]

theorem preL_len {c : Cols} {κ : Nat → Nat} {W : Nat} {t : Nat} (hp : ∀ j, j < t → c.pt (κ j) = true) (hw : ∀ j, j < t → ∀ l, c.lo (κ j) = some l → l.length = W) : (preL c κ t).length = t * W := by
  induction t with
  | zero => simp [preL]
  | succ t ih =>
    obtain ⟨l, hl⟩ := pt_some (hp t (by omega))
    rw [preL, List.length_append, ih (fun j hj => hp j (by omega)) (fun j hj => hw j (by omega)), hl, getO_some, hw t (by omega) l hl, Nat.add_mul, Nat.one_mul]

theorem preL_le {c : Cols} {κ : Nat → Nat} {W : Nat} {t : Nat} (hw : ∀ j, j < t → (getO (c.lo (κ j))).length ≤ W) : (preL c κ t).length ≤ t * W := by
  induction t with
  | zero => simp [preL]
  | succ t ih =>
    have h1 := ih (fun j hj => hw j (by omega))
    have h2 := hw t (by omega)
    rw [preL, List.length_append, Nat.add_mul, Nat.one_mul]
    omega
theorem preL_bytes {c : Cols} {κ : Nat → Nat} {t : Nat} (hw : ∀ j, j < t → ∀ x ∈ getO (c.lo (κ j)), x < 256) : ∀ x ∈ preL c κ t, x < 256 := by
  induction t with
  | zero => intro x hx; cases hx
  | succ t ih =>
    intro x hx
    rw [preL] at hx
    rcases List.mem_append.1 hx with h | h
    · exact ih (fun j hj => hw j (by omega)) x h
    · exact hw t (by omega) x h

theorem want_pts {c : Cols} {κ : Nat → Nat} {W : Nat} {k : List Nat} {t : Nat} (hk : t * W ≤ k.length) (hp : ∀ j, j < t → c.pt (κ j) = true) (hw : ∀ j, j < t → ∀ l, c.lo (κ j) = some l → l.length = W) : wantB c κ W k t = decide (k.take (t * W) = preL c κ t) := by
  induction t with
  | zero => simp [wantB, preL]
  | succ t ih =>
    obtain ⟨l, hl⟩ := pt_some (hp t (by omega))
    have hle : t * W ≤ k.length := by rw [Nat.add_mul] at hk; omega
    have hlen := preL_len (c := c) (κ := κ) (W := W) (t := t) (fun j hj => hp j (by omega)) (fun j hj => hw j (by omega))
    rw [wantB, ih hle (fun j hj => hp j (by omega)) (fun j hj => hw j (by omega)), pt_admits (hp t (by omega)) hl, take_seg, preL, hl, getO_some, append_eq]
    rw [hlen, List.length_take]; omega

theorem want_open {c : Cols} {κ : Nat → Nat} {W : Nat} {k : List Nat} {a : Nat} (d : Nat) (h : ∀ j, a ≤ j → j < a + d → c.lo (κ j) = none ∧ c.hi (κ j) = none) : wantB c κ W k (a + d) = wantB c κ W k a := by
  induction d with
  | zero => rfl
  | succ d ih =>
    obtain ⟨h1, h2⟩ := h (a + d) (by omega) (by omega)
    rw [← Nat.add_assoc, wantB, ih (fun j h3 h4 => h j h3 (by omega)), admB, h1, h2]
    simp [loB, hiB]

theorem serve_law {c : Cols} {κ : Nat → Nat} {M W t : Nat} {k : List Nat} (hk : k.length = W * M) (hkb : ∀ x ∈ k, x < 256) (hP : Pts c κ M t)
    (hw : ∀ j, j < M → (∀ l, c.lo (κ j) = some l → l.length = W) ∧ ∀ l, c.hi (κ j) = some l → l.length = W)
    (hopen : ∀ j, t < j → j < M → c.lo (κ j) = none ∧ c.hi (κ j) = none) :
    (lowerAt (lowF (nxO c.lo κ M t) (nxB c.le κ M t) (preO c κ t)) k && hiB (upF (nxO c.hi κ M t) (nxB c.he κ M t) (preO c κ t)) true k) = wantB c κ W k M := by
  obtain ⟨htM, hpts, _⟩ := hP
  have hkm : k.length = M * W := by rw [hk, Nat.mul_comm]
  have htW : t * W ≤ k.length := by rw [hkm]; exact Nat.mul_le_mul_right W htM
  have hlen := preL_len (c := c) (κ := κ) (W := W) (t := t) hpts (fun j hj => (hw j (by omega)).1)
  have hk1 : (k.take (t * W)).length = (preL c κ t).length := by rw [hlen, List.length_take]; omega
  have hpo : preO c κ t = (if decide (t = 0) then none else some (preL c κ t)) := by simp [preO]
  have hz : decide (t = 0) = true → preL c κ t = [] := fun h => by rw [of_decide_eq_true h]; rfl
  have hb1 : ∀ x ∈ k.take (t * W), x < 256 := fun x hx => hkb x (List.mem_of_mem_take hx)
  by_cases hlt : t < M
  · have hsplit : k = k.take (t * W) ++ (seg k W t ++ k.drop ((t + 1) * W)) := by
      have h1 := List.take_append_drop ((t + 1) * W) k
      rw [take_seg, List.append_assoc] at h1
      exact h1.symm
    have hsl : (seg k W t).length = W := by
      have h2 : (t + 1) * W ≤ k.length := by rw [hkm]; exact Nat.mul_le_mul_right W hlt
      rw [Nat.add_mul, Nat.one_mul] at h2
      unfold seg
      rw [List.length_take, List.length_drop]
      omega
    have hbv : ∀ x ∈ seg k W t, x < 256 := fun x hx => hkb x (List.mem_of_mem_drop (List.mem_of_mem_take hx))
    have hb := both_ok (le := c.le (κ t)) (he := c.he (κ t)) (rest := k.drop ((t + 1) * W)) hk1 (v := seg k W t) (o := c.lo (κ t)) (o' := c.hi (κ t)) (fun l hl => by rw [hsl, (hw t hlt).1 l hl]) (fun l hl => by rw [hsl, (hw t hlt).2 l hl]) hb1 hbv hz
    rw [← hsplit, ← hpo] at hb
    rw [nxO, nxB, nxO, nxB, if_pos hlt, if_pos hlt, if_pos hlt, if_pos hlt, hb]
    have hM : M = (t + 1) + (M - (t + 1)) := by omega
    rw [hM, want_open _ (fun j h1 h2 => hopen j (by omega) (by omega)), wantB, want_pts htW hpts (fun j hj => (hw j (by omega)).1)]
    rfl
  · have htm : t = M := by omega
    subst htm
    have hfull : k.take (t * W) = k := List.take_of_length_le (by omega)
    have hb := both_ok (le := false) (he := false) (rest := []) hk1 (v := []) (o := none) (o' := none) (fun l hl => by cases hl) (fun l hl => by cases hl) hb1 (fun x hx => by cases hx) hz
    rw [List.nil_append, List.append_nil, hfull, ← hpo] at hb
    rw [nxO, nxB, nxO, nxB, if_neg hlt, if_neg hlt, if_neg hlt, if_neg hlt, hb, want_pts htW hpts (fun j hj => (hw j hj).1), hfull]
    simp [loB, hiB]

theorem aft_len {l q : List Nat} (h : aft l = some q) : q.length ≤ l.length := by
  induction l generalizing q with
  | nil => simp [aft] at h
  | cons x xs ih =>
    simp only [aft] at h
    cases hx : aft xs with
    | some ys =>
      rw [hx] at h
      injection h with h
      subst h
      have := ih hx
      simp; omega
    | none =>
      rw [hx] at h
      by_cases e : x = 255
      · simp [e] at h
      · simp [e] at h
        subst h
        simp

theorem low_len {o op : Option (List Nat)} {le : Bool} {r : Option (List Nat)} (h : lowF o le op = some r) : lenO r ≤ (getO op).length + (getO o).length := by
  have hb : (getO op ++ getO o).length = (getO op).length + (getO o).length := List.length_append
  unfold lowF at h
  split at h
  · cases hq : aft (getO op ++ getO o) with
    | none => rw [hq] at h; cases h
    | some q =>
      rw [hq] at h
      injection h with h
      subst h
      have := aft_len hq
      simp only [lenO]; omega
  · split at h
    · injection h with h
      subst h
      simp only [lenO]; omega
    · injection h with h
      subst h
      simp [lenO]
theorem up_len {o op : Option (List Nat)} {he : Bool} : lenO (upF o he op) ≤ (getO op).length + (getO o).length := by
  have hb : (getO op ++ getO o).length = (getO op).length + (getO o).length := List.length_append
  unfold upF
  split
  · simp only [lenO]; omega
  · split
    · cases hq : aft (getO op ++ getO o) with
      | none => simp [lenO]
      | some q =>
        have := aft_len hq
        simp only [lenO]; omega
    · simp [lenO]
theorem getO_len (o : Option (List Nat)) : (getO o).length = lenO o := by cases o <;> rfl
end Go.Proofs.Qxb6000023a
