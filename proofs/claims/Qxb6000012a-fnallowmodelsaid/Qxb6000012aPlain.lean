namespace Go.Proofs.Qxb6000012a

/-- The states: of each node what is decided, and of that what is granted. -/
abbrev St := Nat → BitVec 32 × BitVec 32

/-- One grant. -/
def gr (m : BitVec 32) (s : BitVec 32 × BitVec 32) : BitVec 32 × BitVec 32 := (s.1 ||| m, s.2 ||| (m &&& ~~~s.1))

/-- A grant at node i. -/
def grAt (s : St) (i : Nat) (m : BitVec 32) : St := fun j => if j = i then gr m (s j) else s j

/-- A grant at the nodes from k to below i. -/
def span (s : St) (k i : Nat) (m : BitVec 32) : St := fun j => if k ≤ j ∧ j < i then gr m (s j) else s j

theorem span_start (s : St) (k : Nat) (m : BitVec 32) : span s k k m = s := by
  funext j; simp only [span]; rw [if_neg (by omega)]

theorem span_step (s : St) (k i : Nat) (m : BitVec 32) (h : k ≤ i) : span s k (i + 1) m = grAt (span s k i m) i m := by
  funext j
  simp only [span, grAt]
  by_cases e : j = i
  · subst e; rw [if_pos (by omega), if_pos rfl, if_neg (by omega)]
  · rw [if_neg e]
    by_cases h2 : k ≤ j ∧ j < i
    · rw [if_pos h2, if_pos (by omega)]
    · rw [if_neg h2, if_neg (by omega)]

/-- What the children have in common: from c on, each next one where the one before it ends, up to e. -/
def shr (E : Nat → Nat) (s : St) : Nat → Nat → Nat → BitVec 32 → BitVec 32
  | 0, _, _, a => a
  | f + 1, c, e, a => if c < e then shr E s f (E c) e (a &&& (s c).2) else a

/-- What node q is given of what its children share. -/
def addd (E : Nat → Nat) (s : St) (n q : Nat) : BitVec 32 := shr E s n (q + 1) (E q) (BitVec.allOnes 32) &&& ~~~(s q).1

/-- Going up from p. -/
def up (P : Nat → Int) (E : Nat → Nat) (n : Nat) : Nat → Int → St → St
  | 0, _, s => s
  | f + 1, p, s => if 0 ≤ p then (if addd E s n p.toNat = 0 then s else up P E n f (P p.toNat) (grAt s p.toNat (addd E s n p.toNat))) else s

/-- The whole of allow. -/
def allowF (P : Nat → Int) (E : Nat → Nat) (n : Nat) (s : St) (k : Nat) (m : BitVec 32) : St := up P E n n (P k) (span s k (E k) m)

end Go.Proofs.Qxb6000012a
