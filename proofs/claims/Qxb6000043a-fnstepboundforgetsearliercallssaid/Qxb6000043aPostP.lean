import Derived.Test.Qxb6000043aVis
import Derived.Test.Qxb6000043aPaths
/- What a search from the root leaves; the machine with a path of cursors, in plain. -/
namespace Go.Proofs.Qxb6000043a

def st0 : VSt := ⟨fun _ => false, []⟩
/-- A search from r leaves ord. -/
def Post (R : Nat → List Nat) (r : Nat) (ord : List Nat) : Prop := ∃ n s1, VisL R n (R r) (st0.mark r) s1 ∧ ord = s1.ord ++ [r]

theorem post_ex {N : Nat} {R : Nat → List Nat} (hR : ∀ v, v < N → ∀ q ∈ R v, q < N) {r : Nat} (hr : r < N) : ∃ ord, Post R r ord := by
  obtain ⟨n, s1, h, _⟩ := vis_ex hR (un N (st0.mark r)) (st0.mark r) (Nat.le_refl _) (R r) (hR r hr)
  exact ⟨_, n, s1, h, rfl⟩
theorem Post.det {R : Nat → List Nat} {r : Nat} {o o' : List Nat} (h : Post R r o) (h' : Post R r o') : o = o' := by
  obtain ⟨n, s1, h1, rfl⟩ := h
  obtain ⟨n', s1', h1', rfl⟩ := h'
  obtain ⟨_, rfl⟩ := h1.det h1'
  rfl
theorem VisL.lt {N : Nat} {R : Nat → List Nat} (hR : ∀ v, v < N → ∀ q ∈ R v, q < N) {n : Nat} {ws : List Nat} {s s' : VSt} (h : VisL R n ws s s') : (∀ q ∈ ws, q < N) → (∀ q ∈ s.ord, q < N) → ∀ q ∈ s'.ord, q < N := by
  induction h with
  | nil s => exact fun _ h => h
  | seen _ _ ih => exact fun h1 h2 => ih (fun q hq => h1 q (by simp [hq])) h2
  | @new s s1 s' w n1 n2 ws hs _ _ ih1 ih2 =>
    intro h1 h2
    have hw := h1 w (by simp)
    refine ih2 (fun q hq => h1 q (by simp [hq])) (fun q hq => ?_)
    rcases List.mem_append.1 hq with hq | hq
    · exact ih1 (hR w hw) h2 q hq
    · obtain rfl := List.mem_singleton.1 hq; exact hw

structure PFacts (R : Nat → List Nat) (N r : Nat) (ord : List Nat) : Prop where
  nd : ord.Nodup
  root : r ∈ ord
  last : ∃ l, ord = l ++ [r]
  lt : ∀ x ∈ ord, x < N
  rows : ∀ x ∈ ord, ∀ w ∈ R x, w ∈ ord
theorem Post.facts {N : Nat} {R : Nat → List Nat} (hR : ∀ v, v < N → ∀ q ∈ R v, q < N) {r : Nat} (hr : r < N) {ord : List Nat} (h : Post R r ord) : PFacts R N r ord := by
  obtain ⟨n, s1, h, rfl⟩ := h
  have hlt := h.lt hR (hR r hr) (by simp [VSt.mark, st0])
  obtain ⟨new, f⟩ := h.facts
  have e : s1.ord = new := by rw [f.ord]; simp [VSt.mark, st0]
  have hseen : ∀ x, s1.seen x = true → x ∈ s1.ord ++ [r] := by
    intro x hx
    rcases (f.seen x).1 hx with h1 | h1
    · simp only [VSt.mark, st0, Bool.or_false, beq_iff_eq] at h1
      simp [h1]
    · simp [e, h1]
  refine ⟨?_, by simp, ⟨_, rfl⟩, fun x hx => ?_, fun x hx w hw => ?_⟩
  · rw [e, List.nodup_append]
    refine ⟨f.nd, by simp, fun x hx y hy e2 => ?_⟩
    obtain rfl := List.mem_singleton.1 hy
    subst e2
    have := f.un x hx
    simp [VSt.mark] at this
  · rcases List.mem_append.1 hx with hx | hx
    · exact hlt x hx
    · obtain rfl := List.mem_singleton.1 hx; exact hr
  · rcases List.mem_append.1 hx with hx | hx
    · rw [e] at hx; exact hseen w (f.rows x hx w hw)
    · obtain rfl := List.mem_singleton.1 hx; exact hseen w (f.all w hw)
theorem PFacts.len {R : Nat → List Nat} {N r : Nat} {ord : List Nat} (h : PFacts R N r ord) : ord.length ≤ N := by
  have := List.Nodup.length_le_of_subset (l₂ := List.range N) h.nd (fun q hq => List.mem_range.2 (h.lt q hq))
  simpa using this

/-- The machine: cursors, top first, each with what is left of its row; k: a bound on the steps. -/
inductive Fin (R : Nat → List Nat) : List (Nat × List Nat) → VSt → VSt → Nat → Prop
  | nil (s : VSt) : Fin R [] s s 0
  | cons {v : Nat} {rest : List Nat} {p : List (Nat × List Nat)} {s s1 sF : VSt} {n m : Nat} : VisL R n rest s s1 → Fin R p (s1.leave v) sF m → Fin R ((v, rest) :: p) s sF (n + m + 1)

theorem Fin.seen_step {R : Nat → List Nat} {v w : Nat} {rest : List Nat} {p : List (Nat × List Nat)} {s sF : VSt} {k : Nat} (h : Fin R ((v, w :: rest) :: p) s sF k) (hs : s.seen w = true) : ∃ k', k' < k ∧ Fin R ((v, rest) :: p) s sF k' := by
  cases h with
  | cons h1 h2 =>
    obtain ⟨m, rfl, h3⟩ := h1.seen_inv hs
    exact ⟨_, by omega, .cons h3 h2⟩
theorem Fin.new_step {R : Nat → List Nat} {v w : Nat} {rest : List Nat} {p : List (Nat × List Nat)} {s sF : VSt} {k : Nat} (h : Fin R ((v, w :: rest) :: p) s sF k) (hs : s.seen w = false) : ∃ k', k' < k ∧ Fin R ((w, R w) :: (v, rest) :: p) (s.mark w) sF k' := by
  cases h with
  | cons h1 h2 =>
    obtain ⟨n1, n2, s1, rfl, h3, h4⟩ := h1.new_inv hs
    exact ⟨_, by omega, .cons h3 (.cons h4 h2)⟩
theorem Fin.leave_step {R : Nat → List Nat} {v : Nat} {p : List (Nat × List Nat)} {s sF : VSt} {k : Nat} (h : Fin R ((v, []) :: p) s sF k) : ∃ k', k' < k ∧ Fin R p (s.leave v) sF k' := by
  cases h with
  | cons h1 h2 =>
    obtain ⟨rfl, rfl⟩ := h1.nil_inv
    exact ⟨_, by omega, h2⟩
theorem Fin.nil_end {R : Nat → List Nat} {s sF : VSt} {k : Nat} (h : Fin R [] s sF k) : s = sF := by cases h; rfl
theorem Fin.pos {R : Nat → List Nat} {x : Nat × List Nat} {p : List (Nat × List Nat)} {s sF : VSt} {k : Nat} (h : Fin R (x :: p) s sF k) : 0 < k := by cases h; omega
theorem Fin.len {R : Nat → List Nat} {p : List (Nat × List Nat)} {s sF : VSt} {k : Nat} (h : Fin R p s sF k) : s.ord.length + p.length ≤ sF.ord.length := by
  induction h with
  | nil s => simp
  | cons h1 _ ih =>
    obtain ⟨new, f⟩ := h1.facts
    simp only [VSt.leave, f.ord, List.length_append, List.length_cons, List.length_nil] at ih ⊢
    omega
theorem Post.fin {R : Nat → List Nat} {r : Nat} {ord : List Nat} (h : Post R r ord) : ∃ k sF, Fin R [(r, R r)] (st0.mark r) sF k ∧ sF.ord = ord := by
  obtain ⟨n, s1, h, rfl⟩ := h
  exact ⟨_, _, .cons h (.nil _), rfl⟩
theorem Post.seenF {R : Nat → List Nat} {r : Nat} {sF : VSt} {k : Nat} (h : Fin R [(r, R r)] (st0.mark r) sF k) (x : Nat) : sF.seen x = true ↔ x ∈ sF.ord := by
  cases h with
  | cons h1 h2 =>
    obtain rfl := h2.nil_end
    rename_i s1 n m
    obtain ⟨new, f⟩ := h1.facts
    have e : s1.ord = new := by rw [f.ord]; simp [VSt.mark, st0]
    show s1.seen x = true ↔ x ∈ s1.ord ++ [r]
    rw [f.seen x, e]
    simp [VSt.mark, st0, or_comm]

/-- What left holds: the place from 1 of whoever is left, -1 on the path, 0 else. -/
def leftZ (s : VSt) (x : Nat) : Int := if s.seen x = true then (if posF s.ord x = 0 then -1 else (posF s.ord x : Int)) else 0
theorem leftZ_un {s : VSt} {x : Nat} (h : s.seen x = false) : leftZ s x = 0 := by simp [leftZ, h]
theorem leftZ_seen {s : VSt} {x : Nat} (h : s.seen x = true) : leftZ s x ≠ 0 := by
  simp only [leftZ, h, if_true]
  split <;> omega
theorem leftZ_mark {s : VSt} {w : Nat} (hs : s.seen w = false) (ho : ∀ x ∈ s.ord, s.seen x = true) (x : Nat) : (if x = w then -1 else leftZ s x) = leftZ (s.mark w) x := by
  have hw : w ∉ s.ord := fun h => by rw [ho w h] at hs; cases hs
  by_cases e : x = w
  · subst e
    simp [leftZ, VSt.mark, posF_zero hw]
  · rw [if_neg e]
    unfold leftZ
    rw [show (s.mark w).seen x = s.seen x by simp [VSt.mark, e]]
    rfl
theorem leftZ_leave {s : VSt} {v : Nat} (hs : s.seen v = true) (x : Nat) : (if x = v then ((s.ord.length + 1 : Nat) : Int) else leftZ s x) = leftZ (s.leave v) x := by
  by_cases e : x = v
  · subst e
    simp [leftZ, VSt.leave, hs, posF_app, updF]
  · simp [leftZ, VSt.leave, posF_app, updF, e]
theorem leftZ_le {s : VSt} (x : Nat) : -1 ≤ leftZ s x := by
  simp only [leftZ]
  split
  · split <;> omega
  · omega
/-- At the end. -/
theorem leftZ_end {s : VSt} (h : ∀ x, s.seen x = true ↔ x ∈ s.ord) (nd : s.ord.Nodup) (x : Nat) : leftZ s x = (posF s.ord x : Int) := by
  by_cases hx : x ∈ s.ord
  · have := posF_pos nd hx
    simp only [leftZ, (h x).2 hx, if_true]
    rw [if_neg (by omega)]
  · have : s.seen x = false := by
      cases e : s.seen x with
      | false => rfl
      | true => exact absurd ((h x).1 e) hx
    rw [leftZ_un this, posF_zero hx]; rfl
end Go.Proofs.Qxb6000043a
