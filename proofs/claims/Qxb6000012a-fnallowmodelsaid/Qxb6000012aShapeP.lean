namespace Go.Proofs.Qxb6000012a

/-- The nearest node before i at a lower level; -1 if there is none. -/
def IsPar (lv : Nat → Int) (i : Nat) (p : Int) : Prop :=
  (p = -1 ∧ ∀ j, j < i → lv i ≤ lv j) ∨ ∃ q : Nat, p = q ∧ q < i ∧ lv q < lv i ∧ ∀ j, q < j → j < i → lv i ≤ lv j

/-- The first node behind i at no greater level; n if there is none. -/
def IsEnd (lv : Nat → Int) (n i e : Nat) : Prop :=
  i < e ∧ e ≤ n ∧ (∀ j, i < j → j < e → lv i < lv j) ∧ (e < n → lv e ≤ lv i)

theorem IsPar.bd {lv : Nat → Int} {i : Nat} {p : Int} (h : IsPar lv i p) : -1 ≤ p ∧ p < i := by
  rcases h with ⟨h, _⟩ | ⟨q, h, h2, _⟩ <;> omega

/-- What holds of the stack (its bottom first), the parents and the ends ahead of node i. -/
structure Stk (lv : Nat → Int) (n i : Nat) (st : List Nat) (P : Nat → Int) (E : Nat → Nat) : Prop where
  sorted : st.Pairwise (· < ·)
  lt : ∀ x ∈ st, x < i
  hi : ∀ x ∈ st, ∀ j, x < j → j < i → lv x < lv j
  par : ∀ j, j < i → IsPar lv j (P j)
  en : ∀ j, j < i → j ∉ st → IsEnd lv n j (E j) ∧ E j ≤ i ∧ (E j < n → lv (E j) ≤ lv j)

theorem stk_start (lv : Nat → Int) (n : Nat) (P : Nat → Int) (E : Nat → Nat) : Stk lv n 0 [] P E :=
  ⟨List.Pairwise.nil, by simp, by simp, by omega, by omega⟩

/-- A pop while node i is looked at. -/
theorem stk_pop {lv : Nat → Int} {n i : Nat} {ys : List Nat} {x : Nat} {P : Nat → Int} {E : Nat → Nat} (h : Stk lv n i (ys ++ [x]) P E) (hn : i ≤ n) (hx : i < n → lv i ≤ lv x) :
    Stk lv n i ys P (fun j => if j = x then i else E j) := by
  have hs := List.pairwise_append.1 h.sorted
  refine ⟨hs.1, fun y hy => h.lt y (by simp [hy]), fun y hy => h.hi y (by simp [hy]), h.par, fun j hj hjy => ?_⟩
  by_cases e : j = x
  · subst e
    simp only [if_pos trivial]
    refine ⟨⟨h.lt j (by simp), hn, fun t ht1 ht2 => h.hi j (by simp) t ht1 ht2, hx⟩, Nat.le_refl _, hx⟩
  · simp only [if_neg e]
    exact h.en j hj (by simp [hjy, e])

/-- The nodes behind the stack's top are at least as high as i, once what is higher has been popped. -/
theorem stk_above {lv : Nat → Int} {n i : Nat} {st : List Nat} {P : Nat → Int} {E : Nat → Nat} (h : Stk lv n i st P E) (hi : i < n) (q : Int) (hq : ∀ x ∈ st, (x : Int) ≤ q) :
    ∀ d j : Nat, j < i → i - j ≤ d → q < j → lv i ≤ lv j := by
  intro d
  induction d with
  | zero => intro j hj hd; omega
  | succ d ih =>
    intro j hj hd hqj
    have hjs : j ∉ st := fun hm => by have := hq j hm; omega
    obtain ⟨he, hle, hlv⟩ := h.en j hj hjs
    have h1 := hlv (by omega)
    by_cases e : E j = i
    · rw [e] at h1; exact h1
    · have h2 := ih (E j) (by omega) (by have := he.1; omega) (by have := he.1; omega)
      omega

/-- Node i is pushed: behind a stack that is empty .. -/
theorem stk_push_nil {lv : Nat → Int} {n i : Nat} {P : Nat → Int} {E : Nat → Nat} (h : Stk lv n i [] P E) (hi : i < n) :
    Stk lv n (i + 1) [i] (fun j => if j = i then -1 else P j) E := by
  refine ⟨by simp, by simp, by simp; omega, fun j hj => ?_, fun j hj hjs => ?_⟩
  · by_cases e : j = i
    · subst e
      simp only [if_pos trivial]
      exact .inl ⟨rfl, fun t ht => stk_above h hi (-1) (by simp) j t ht (by omega) (by omega)⟩
    · simp only [if_neg e]
      exact h.par j (by omega)
  · simp at hjs
    have := h.en j (by omega) (by simp)
    exact ⟨this.1, by omega, this.2.2⟩

/-- .. or whose top is lower than i. -/
theorem stk_push {lv : Nat → Int} {n i : Nat} {ys : List Nat} {x : Nat} {P : Nat → Int} {E : Nat → Nat} (h : Stk lv n i (ys ++ [x]) P E) (hi : i < n) (hx : lv x < lv i) :
    Stk lv n (i + 1) (ys ++ [x] ++ [i]) (fun j => if j = i then (x : Int) else P j) E := by
  have hs := List.pairwise_append.1 h.sorted
  have hyx : ∀ y ∈ ys, y < x := fun y hy => hs.2.2 y hy x (by simp)
  have hxi := h.lt x (by simp)
  refine ⟨?_, ?_, ?_, fun j hj => ?_, fun j hj hjs => ?_⟩
  · refine List.pairwise_append.2 ⟨h.sorted, by simp, fun a ha b hb => ?_⟩
    simp only [List.mem_singleton] at hb; subst hb
    exact h.lt a ha
  · intro y hy
    simp only [List.mem_append, List.mem_singleton] at hy
    rcases hy with (hy | hy) | hy
    · have := h.lt y (by simp [hy]); omega
    · subst hy; omega
    · omega
  · intro y hy j hyj hji
    simp only [List.mem_append, List.mem_singleton] at hy
    by_cases e : j = i
    · subst e
      rcases hy with (hy | hy) | hy
      · have h1 := hyx y hy
        have h2 := h.hi y (by simp [hy]) x h1 hxi
        omega
      · subst hy; exact hx
      · omega
    · rcases hy with (hy | hy) | hy
      · exact h.hi y (by simp [hy]) j hyj (by omega)
      · exact h.hi y (by simp [hy]) j hyj (by omega)
      · omega
  · by_cases e : j = i
    · subst e
      simp only [if_pos trivial]
      refine .inr ⟨x, rfl, hxi, hx, fun t ht1 ht2 => stk_above h hi x ?_ j t ht2 (by omega) (by omega)⟩
      intro y hy
      simp only [List.mem_append, List.mem_singleton] at hy
      rcases hy with hy | hy
      · have := hyx y hy; omega
      · omega
    · simp only [if_neg e]
      exact h.par j (by omega)
  · have hjs' : j ∉ ys ++ [x] := fun hm => hjs (List.mem_append_left _ hm)
    have hji : j ≠ i := fun e => hjs (by simp [e])
    have := h.en j (by omega) hjs'
    exact ⟨this.1, by omega, this.2.2⟩

/-- All is popped. -/
theorem stk_done {lv : Nat → Int} {n : Nat} {P : Nat → Int} {E : Nat → Nat} (h : Stk lv n n [] P E) : (∀ i, i < n → IsPar lv i (P i)) ∧ ∀ i, i < n → IsEnd lv n i (E i) :=
  ⟨h.par, fun i hi => (h.en i hi (by simp)).1⟩

end Go.Proofs.Qxb6000012a
