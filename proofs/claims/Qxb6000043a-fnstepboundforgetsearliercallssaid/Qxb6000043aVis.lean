import Derived.KernelRfl
/- The search, in plain: what it leaves, and in which order. -/
namespace Go.Proofs.Qxb6000043a

structure VSt where
  seen : Nat → Bool
  ord : List Nat
def VSt.mark (s : VSt) (v : Nat) : VSt := ⟨fun x => x == v || s.seen x, s.ord⟩
def VSt.leave (s : VSt) (v : Nat) : VSt := ⟨s.seen, s.ord ++ [v]⟩

/-- From s, the neighbours ws still to be taken, n steps lead to s'. -/
inductive VisL (R : Nat → List Nat) : Nat → List Nat → VSt → VSt → Prop
  | nil (s : VSt) : VisL R 0 [] s s
  | seen {s s' : VSt} {w n : Nat} {ws : List Nat} : s.seen w = true → VisL R n ws s s' → VisL R (n + 1) (w :: ws) s s'
  | new {s s1 s' : VSt} {w n1 n2 : Nat} {ws : List Nat} : s.seen w = false → VisL R n1 (R w) (s.mark w) s1 → VisL R n2 ws (s1.leave w) s' → VisL R (n1 + n2 + 2) (w :: ws) s s'

theorem VisL.det {R : Nat → List Nat} {n : Nat} {ws : List Nat} {s s' : VSt} (h : VisL R n ws s s') : ∀ {m : Nat} {s'' : VSt}, VisL R m ws s s'' → n = m ∧ s' = s'' := by
  induction h with
  | nil s => intro m s'' h; cases h; exact ⟨rfl, rfl⟩
  | seen hs _ ih =>
    intro m s'' h
    cases h with
    | seen _ h2 => obtain ⟨rfl, rfl⟩ := ih h2; exact ⟨rfl, rfl⟩
    | new h1 => rw [hs] at h1; cases h1
  | new hs _ _ ih1 ih2 =>
    intro m s'' h
    cases h with
    | seen h1 => rw [hs] at h1; cases h1
    | new _ h2 h3 =>
      obtain ⟨rfl, rfl⟩ := ih1 h2
      obtain ⟨rfl, rfl⟩ := ih2 h3
      exact ⟨rfl, rfl⟩

theorem VisL.nil_inv {R : Nat → List Nat} {n : Nat} {s s' : VSt} (h : VisL R n [] s s') : n = 0 ∧ s = s' := by cases h; exact ⟨rfl, rfl⟩
theorem VisL.seen_inv {R : Nat → List Nat} {n w : Nat} {ws : List Nat} {s s' : VSt} (h : VisL R n (w :: ws) s s') (hs : s.seen w = true) : ∃ m, n = m + 1 ∧ VisL R m ws s s' := by
  cases h with
  | seen _ h2 => exact ⟨_, rfl, h2⟩
  | new h1 => rw [hs] at h1; cases h1
theorem VisL.new_inv {R : Nat → List Nat} {n w : Nat} {ws : List Nat} {s s' : VSt} (h : VisL R n (w :: ws) s s') (hs : s.seen w = false) : ∃ n1 n2 s1, n = n1 + n2 + 2 ∧ VisL R n1 (R w) (s.mark w) s1 ∧ VisL R n2 ws (s1.leave w) s' := by
  cases h with
  | seen h1 => rw [hs] at h1; cases h1
  | new _ h2 h3 => exact ⟨_, _, _, rfl, h2, h3⟩

/-- How many of the N are unseen. -/
def un (N : Nat) (s : VSt) : Nat := ((List.range N).filter fun v => !s.seen v).length
theorem filter_len_le {p q : Nat → Bool} (l : List Nat) (h : ∀ x ∈ l, p x = true → q x = true) : (l.filter p).length ≤ (l.filter q).length := by
  induction l with
  | nil => exact Nat.le_refl _
  | cons x l ih =>
    have h1 := ih (fun y hy => h y (by simp [hy]))
    by_cases hp : p x = true
    · rw [List.filter_cons, if_pos hp, List.filter_cons, if_pos (h x (by simp) hp)]
      simp only [List.length_cons]; omega
    · rw [List.filter_cons, if_neg hp, List.filter_cons]
      split
      · simp only [List.length_cons]; omega
      · exact h1
theorem filter_len_lt {p q : Nat → Bool} (l : List Nat) (h : ∀ x ∈ l, p x = true → q x = true) {y : Nat} (hy : y ∈ l) (hp : p y = false) (hq : q y = true) : (l.filter p).length < (l.filter q).length := by
  induction l with
  | nil => cases hy
  | cons x l ih =>
    have h1 := filter_len_le l (fun z hz => h z (by simp [hz]))
    by_cases e : x = y
    · subst e
      rw [List.filter_cons, if_neg (by rw [hp]; simp), List.filter_cons, if_pos hq]
      simp only [List.length_cons]; omega
    · have hy' : y ∈ l := by
        rcases List.mem_cons.1 hy with e2 | h2
        · exact absurd e2.symm e
        · exact h2
      have h2 := ih (fun z hz => h z (by simp [hz])) hy'
      by_cases hpx : p x = true
      · rw [List.filter_cons, if_pos hpx, List.filter_cons, if_pos (h x (by simp) hpx)]
        simp only [List.length_cons]; omega
      · rw [List.filter_cons, if_neg hpx, List.filter_cons]
        split
        · simp only [List.length_cons]; omega
        · exact h2
theorem un_mark {N : Nat} {s : VSt} {w : Nat} (hw : w < N) (hs : s.seen w = false) : un N (s.mark w) < un N s := by
  refine filter_len_lt (List.range N) (fun x _ hx => ?_) (List.mem_range.2 hw) ?_ (by simp [hs])
  · simp only [VSt.mark, Bool.not_or, Bool.and_eq_true] at hx
    exact hx.2
  · simp [VSt.mark]
theorem un_mono {N : Nat} {s s' : VSt} (h : ∀ x, s.seen x = true → s'.seen x = true) : un N s' ≤ un N s := by
  refine filter_len_le (List.range N) (fun x _ hx => ?_)
  cases e : s.seen x with
  | false => rfl
  | true => rw [h x e] at hx; cases hx

theorem vis_ex {N : Nat} {R : Nat → List Nat} (hR : ∀ v, v < N → ∀ q ∈ R v, q < N) : ∀ (k : Nat) (s : VSt), un N s ≤ k → ∀ ws : List Nat, (∀ q ∈ ws, q < N) → ∃ n s', VisL R n ws s s' ∧ ∀ x, s.seen x = true → s'.seen x = true := by
  intro k
  induction k with
  | zero =>
    intro s hk ws
    induction ws with
    | nil => intro _; exact ⟨0, s, .nil s, fun _ h => h⟩
    | cons w ws ih =>
      intro hw
      obtain ⟨n, s', h1, h2⟩ := ih (fun q hq => hw q (by simp [hq]))
      cases e : s.seen w with
      | true => exact ⟨n + 1, s', .seen e h1, h2⟩
      | false => have := un_mark (hw w (by simp)) e; omega
  | succ k ihk =>
    intro s hk ws
    induction ws with
    | nil => intro _; exact ⟨0, s, .nil s, fun _ h => h⟩
    | cons w ws ih =>
      intro hw
      have hws : ∀ q ∈ ws, q < N := fun q hq => hw q (by simp [hq])
      cases e : s.seen w with
      | true =>
        obtain ⟨n, s', h1, h2⟩ := ih hws
        exact ⟨n + 1, s', .seen e h1, h2⟩
      | false =>
        have hwN := hw w (by simp)
        have h0 := un_mark hwN e
        obtain ⟨n1, s1, h1, h2⟩ := ihk (s.mark w) (by omega) (R w) (hR w hwN)
        have h3 : un N (s1.leave w) ≤ un N (s.mark w) := un_mono (s' := s1.leave w) h2
        obtain ⟨n2, s', h4, h5⟩ := ihk (s1.leave w) (by omega) ws hws
        exact ⟨n1 + n2 + 2, s', .new e h1 h4, fun x hx => h5 x (h2 x (by simp [VSt.mark, hx]))⟩

/-- What a run adds. -/
structure VisFacts (R : Nat → List Nat) (ws : List Nat) (s s' : VSt) (new : List Nat) : Prop where
  ord : s'.ord = s.ord ++ new
  seen : ∀ x, s'.seen x = true ↔ s.seen x = true ∨ x ∈ new
  nd : new.Nodup
  un : ∀ x ∈ new, s.seen x = false
  all : ∀ w ∈ ws, s'.seen w = true
  rows : ∀ x ∈ new, ∀ w ∈ R x, s'.seen w = true
  from_ : ∀ x ∈ new, x ∈ ws ∨ ∃ y ∈ new, x ∈ R y

theorem VisL.facts {R : Nat → List Nat} {n : Nat} {ws : List Nat} {s s' : VSt} (h : VisL R n ws s s') : ∃ new, VisFacts R ws s s' new := by
  induction h with
  | nil s => exact ⟨[], by simp, by simp, by simp, by simp, by simp, by simp, by simp⟩
  | @seen s s' w n ws hs _ ih =>
    obtain ⟨new, f⟩ := ih
    refine ⟨new, f.ord, f.seen, f.nd, f.un, fun x hx => ?_, f.rows, fun x hx => ?_⟩
    · rcases List.mem_cons.1 hx with rfl | hx
      · exact (f.seen _).2 (.inl hs)
      · exact f.all x hx
    · exact (f.from_ x hx).imp (fun h => List.mem_cons_of_mem _ h) id
  | @new s s1 s' w n1 n2 ws hs _ _ ih1 ih2 =>
    obtain ⟨a, f⟩ := ih1
    obtain ⟨b, g⟩ := ih2
    have hsw : s1.seen w = true := (f.seen w).2 (.inl (by simp [VSt.mark]))
    have hwa : w ∉ a := fun h => by have := f.un w h; simp [VSt.mark] at this
    have hwb : w ∉ b := fun h => by have := g.un w h; rw [show (s1.leave w).seen w = s1.seen w from rfl, hsw] at this; cases this
    have s1s' : ∀ x, s1.seen x = true → s'.seen x = true := fun x h => (g.seen x).2 (.inl h)
    have hab : ∀ x ∈ a, x ∉ b := fun x hx hb => by
      have h1 := g.un x hb
      rw [show (s1.leave w).seen x = s1.seen x from rfl, (f.seen x).2 (.inr hx)] at h1
      cases h1
    refine ⟨a ++ w :: b, ?_, fun x => ?_, ?_, fun x hx => ?_, fun x hx => ?_, fun x hx y hy => ?_, fun x hx => ?_⟩
    · rw [g.ord]; show (s1.ord ++ [w]) ++ b = _; rw [f.ord]; show ((s.ord ++ a) ++ [w]) ++ b = _; simp
    · constructor
      · intro h
        rcases (g.seen x).1 h with h1 | h1
        · rcases (f.seen x).1 h1 with h2 | h2
          · simp only [VSt.mark, Bool.or_eq_true, beq_iff_eq] at h2
            rcases h2 with rfl | h2
            · exact .inr (by simp)
            · exact .inl h2
          · exact .inr (by simp [h2])
        · exact .inr (by simp [h1])
      · rintro (h | h)
        · exact s1s' x ((f.seen x).2 (.inl (by simp [VSt.mark, h])))
        · rcases List.mem_append.1 h with h | h
          · exact s1s' x ((f.seen x).2 (.inr h))
          · rcases List.mem_cons.1 h with rfl | h
            · exact s1s' _ hsw
            · exact (g.seen x).2 (.inr h)
    · rw [List.nodup_append]
      refine ⟨f.nd, List.nodup_cons.2 ⟨hwb, g.nd⟩, fun x hx y hy e => ?_⟩
      subst e
      rcases List.mem_cons.1 hy with rfl | hy
      · exact hwa hx
      · exact hab x hx hy
    · rcases List.mem_append.1 hx with h | h
      · have := f.un x h; simp only [VSt.mark, Bool.or_eq_false_iff] at this; exact this.2
      · rcases List.mem_cons.1 h with rfl | h
        · exact hs
        · have h1 := g.un x h
          cases e : s.seen x with
          | false => rfl
          | true =>
            rw [show (s1.leave w).seen x = s1.seen x from rfl, (f.seen x).2 (.inl (by simp [VSt.mark, e]))] at h1
            cases h1
    · rcases List.mem_cons.1 hx with rfl | hx
      · exact s1s' _ hsw
      · exact g.all x hx
    · rcases List.mem_append.1 hx with h | h
      · exact s1s' y (f.rows x h y hy)
      · rcases List.mem_cons.1 h with rfl | h
        · exact s1s' y (f.all y hy)
        · exact g.rows x h y hy
    · rcases List.mem_append.1 hx with h | h
      · rcases f.from_ x h with h1 | ⟨y, hy, h1⟩
        · exact .inr ⟨w, by simp, h1⟩
        · exact .inr ⟨y, by simp [hy], h1⟩
      · rcases List.mem_cons.1 h with rfl | h
        · exact .inl (by simp)
        · rcases g.from_ x h with h1 | ⟨y, hy, h1⟩
          · exact .inl (by simp [h1])
          · exact .inr ⟨y, by simp [hy], h1⟩
end Go.Proofs.Qxb6000043a
