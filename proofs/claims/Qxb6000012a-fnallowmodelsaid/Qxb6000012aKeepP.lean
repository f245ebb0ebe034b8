import Derived.Test.Qxb6000012aPlain
namespace Go.Proofs.Qxb6000012a

/-- What allow keeps of one node: granted within decided; nothing undone; no decision changed; what is newly decided is granted. -/
structure Kept (a s : BitVec 32 × BitVec 32) : Prop where
  z1 : s.2 &&& ~~~s.1 = 0
  z2 : a.1 &&& ~~~s.1 = 0
  z3 : s.2 &&& a.1 = a.2
  z4 : (s.1 &&& ~~~a.1) &&& ~~~s.2 = 0

theorem bv_ext {a b : BitVec 32} (h : ∀ i, i < 32 → a.getLsbD i = b.getLsbD i) : a = b := BitVec.eq_of_getLsbD_eq h
theorem bit_zero (i : Nat) : (0 : BitVec 32).getLsbD i = false := BitVec.getLsbD_zero
theorem bit_of {a b : BitVec 32} (h : a = b) (i : Nat) : a.getLsbD i = b.getLsbD i := by rw [h]

theorem Kept.refl {a : BitVec 32 × BitVec 32} (h : a.2 &&& ~~~a.1 = 0) : Kept a a := by
  refine ⟨h, ?_, ?_, ?_⟩
  · exact BitVec.and_not_self _
  · refine bv_ext fun i hi => ?_
    have := bit_of h i
    simp [hi] at this ⊢
    intro h1
    simp [h1] at this
    exact this
  · rw [BitVec.and_not_self]; exact BitVec.zero_and

theorem Kept.gr {a s : BitVec 32 × BitVec 32} (h : Kept a s) (m : BitVec 32) : Kept a (gr m s) := by
  obtain ⟨h1, h2, h3, h4⟩ := h
  refine ⟨bv_ext fun i hi => ?_, bv_ext fun i hi => ?_, bv_ext fun i hi => ?_, bv_ext fun i hi => ?_⟩ <;>
    (have e1 := bit_of h1 i
     have e2 := bit_of h2 i
     have e3 := bit_of h3 i
     have e4 := bit_of h4 i
     simp only [BitVec.getLsbD_and, BitVec.getLsbD_not, BitVec.getLsbD_or, bit_zero, hi, decide_true, Bool.true_and, Go.Proofs.Qxb6000012a.gr] at e1 e2 e3 e4 ⊢
     revert e1 e2 e3 e4
     cases s.1.getLsbD i <;> cases s.2.getLsbD i <;> cases a.1.getLsbD i <;> cases a.2.getLsbD i <;> cases m.getLsbD i <;> decide)

theorem sub_gr {s : BitVec 32 × BitVec 32} {m : BitVec 32} (x : BitVec 32) (h : s.1 &&& m = m) : (gr x s).1 &&& m = m := by
  refine bv_ext fun i hi => ?_
  have e1 := bit_of h i
  simp only [BitVec.getLsbD_and, BitVec.getLsbD_or, gr] at e1 ⊢
  revert e1
  cases s.1.getLsbD i <;> cases m.getLsbD i <;> cases x.getLsbD i <;> decide

theorem sub_new (s : BitVec 32 × BitVec 32) (m : BitVec 32) : (gr m s).1 &&& m = m := by
  refine bv_ext fun i hi => ?_
  simp only [BitVec.getLsbD_and, BitVec.getLsbD_or, gr]
  cases s.1.getLsbD i <;> cases m.getLsbD i <;> decide

/-- Node i lies on the way up from q. -/
def inCh (P : Nat → Int) : Nat → Int → Nat → Prop
  | 0, _, _ => False
  | f + 1, q, i => 0 ≤ q ∧ (i = q.toNat ∨ inCh P f (P q.toNat) i)

theorem up_kept (P : Nat → Int) (E : Nat → Nat) (n : Nat) (a : BitVec 32 × BitVec 32) (i : Nat) : ∀ f q s, Kept a (s i) → Kept a (up P E n f q s i) := by
  intro f
  induction f with
  | zero => intro q s h; exact h
  | succ f ih =>
    intro q s h
    rw [up]
    split
    · split
      · exact h
      · refine ih _ _ ?_
        simp only [grAt]
        split
        · exact h.gr _
        · exact h
    · exact h

theorem up_sub (P : Nat → Int) (E : Nat → Nat) (n : Nat) (m : BitVec 32) (i : Nat) : ∀ f q s, (s i).1 &&& m = m → (up P E n f q s i).1 &&& m = m := by
  intro f
  induction f with
  | zero => intro q s h; exact h
  | succ f ih =>
    intro q s h
    rw [up]
    split
    · split
      · exact h
      · refine ih _ _ ?_
        simp only [grAt]
        split
        · exact sub_gr _ h
        · exact h
    · exact h

theorem up_out (P : Nat → Int) (E : Nat → Nat) (n : Nat) (i : Nat) : ∀ f q s, ¬ inCh P f q i → up P E n f q s i = s i := by
  intro f
  induction f with
  | zero => intro q s h; rfl
  | succ f ih =>
    intro q s h
    rw [up]
    split
    · rename_i hq
      split
      · rfl
      · rw [ih _ _ (fun hc => h ⟨hq, .inr hc⟩)]
        simp only [grAt]
        rw [if_neg (fun e => h ⟨hq, .inl e⟩)]
    · rfl

theorem keep_all (P : Nat → Int) (E : Nat → Nat) (n : Nat) (s : St) (k : Nat) (m : BitVec 32) (i : Nat) (h : (s i).2 &&& ~~~(s i).1 = 0) : Kept (s i) (allowF P E n s k m i) := by
  refine up_kept P E n (s i) i n _ _ ?_
  simp only [span]
  split
  · exact (Kept.refl h).gr m
  · exact Kept.refl h

theorem keep_sub (P : Nat → Int) (E : Nat → Nat) (n : Nat) (s : St) (k : Nat) (m : BitVec 32) (i : Nat) (h1 : k ≤ i) (h2 : i < E k) : (allowF P E n s k m i).1 &&& m = m := by
  refine up_sub P E n m i n _ _ ?_
  simp only [span]
  rw [if_pos ⟨h1, h2⟩]
  exact sub_new _ _

theorem keep_out (P : Nat → Int) (E : Nat → Nat) (n : Nat) (s : St) (k : Nat) (m : BitVec 32) (i : Nat) (h1 : ¬ (k ≤ i ∧ i < E k)) (h2 : ¬ inCh P n (P k) i) : allowF P E n s k m i = s i := by
  rw [allowF, up_out P E n i n _ _ h2]
  simp only [span]
  rw [if_neg h1]
end Go.Proofs.Qxb6000012a
