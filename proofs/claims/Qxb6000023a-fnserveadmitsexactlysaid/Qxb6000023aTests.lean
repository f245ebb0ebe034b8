import Derived.Test.Qxb6000023aCmp
namespace Go.Proofs.Qxb6000023a
open Go.RowKit

/-- A column's bound as a slice value: nil, or bytes. -/
def Col (w : World) (a : Option Addr) (n : Nat) : Option (List Nat) → Prop
  | none => a = none ∧ n = 0
  | some l => a.isNone = false ∧ n = l.length ∧ Bts w a l

theorem Col.below {w w' : World} {a : Option Addr} {n : Nat} {o : Option (List Nat)} (h : Col w a n o) (hb : Below w.heap.size w w') : Col w' a n o := by
  cases o with
  | none => exact h
  | some l => exact ⟨h.1, h.2.1, h.2.2.below hb⟩
theorem Col.drewN {w : World} {a : Option Addr} {n : Nat} {o : Option (List Nat)} (h : Col w a n o) (k : Nat) : Col (w.drewN k) a n o := by
  cases o with
  | none => exact h
  | some l => exact h

def lenO : Option (List Nat) → Nat
  | none => 0
  | some l => l.length
theorem Col.len {w : World} {a : Option Addr} {n : Nat} {o : Option (List Nat)} (h : Col w a n o) : n = lenO o := by
  cases o with
  | none => exact h.2
  | some l => exact h.2.1

/-- Does the span admit one value alone? -/
def ptO : Option (List Nat) → Option (List Nat) → Bool → Bool → Bool
  | some l, some l', le, he => !le && !he && decide (cmpL l l' = 0)
  | _, _, _, _ => false

/-- Is v within the lower ¦ the upper bound? -/
def loB : Option (List Nat) → Bool → List Nat → Bool
  | none, _, _ => true
  | some l, e, v => !(decide (cmpL v l < 0) || (decide (cmpL v l = 0) && e))
def hiB : Option (List Nat) → Bool → List Nat → Bool
  | none, _, _ => true
  | some l, e, v => !(decide (0 < cmpL v l) || (decide (cmpL v l = 0) && e))

def BPost (r : Bool) (w : World) (e : Ending) (w' : World) : Prop := e = .returned (.bool r) ∧ ∃ nq, w' = w.drewN nq
def BBPost (r : Bool) (w : World) (e : Ending) (w' : World) : Prop := e = .returned (.bool r) ∧ Below w.heap.size w w'

theorem nil22 (w : World) (a : Option Addr) (n c : Nat) : (binOp .neq 22 (.slice a n c) (.slice none 0 0)).run Try.prog w = .ok (.bool (!a.isNone)) w :=
  run_neq_slice_nil_any w 22 5 a n c 0 0 Try.underlying22

theorem cmp_cases (l l' : List Nat) : cmpL l l' = -1 ∨ cmpL l l' = 0 ∨ cmpL l l' = 1 := by
  induction l generalizing l' with
  | nil => cases l' <;> simp [cmpL]
  | cons x xs ih =>
    cases l' with
    | nil => simp [cmpL]
    | cons y ys =>
      simp only [cmpL]
      split
      · simp
      · split
        · simp
        · exact ih ys

set_option maxHeartbeats 2000000 in
theorem isPoint_any (a a' : Option Addr) (n n' c c' : Nat) (o o' : Option (List Nat)) (le he : Bool) (w : World) (h : Col w a n o) (h' : Col w a' n' o') (b1 : n ≤ 1099511627776) (b2 : n' ≤ 1099511627776) :
    Calls Try.prog 26 #[.slice a n c, .slice a' n' c', .bool le, .bool he] w (BPost (ptO o o' le he) w) := by
  have hnil := nil22
  cases o with
  | none =>
    obtain ⟨rfl, rfl⟩ := h
    go_enter Try.func26, Try.ntmps26
    go_wp2_with fail
    go_ret
    exact ⟨rfl, 0, rfl⟩
  | some l =>
    obtain ⟨ha, rfl, hB⟩ := h
    cases o' with
    | none =>
      obtain ⟨rfl, rfl⟩ := h'
      go_enter Try.func26, Try.ntmps26
      go_wp2_with fail
      go_ret
      exact ⟨rfl, 0, rfl⟩
    | some l' =>
      obtain ⟨ha', rfl, hB'⟩ := h'
      cases le
      · cases he
        · obtain ⟨r, hr⟩ : ∃ r, r = cmpL l l' := ⟨_, rfl⟩
          have HR : Hid (r = cmpL l l') := hr
          have hc := cmp_any a a' l l' c c' w hB hB' b1 b2
          rw [← hr] at hc
          clear hr hB hB'
          by_cases hz : r = 0
          · have hz' : (r == 0) = true := by simp [hz]
            have HZ : Hid (r = 0) := hz
            clear hz
            go_enter Try.func26, Try.ntmps26
            go_wp2_with (go_at_call 11; refine hc.mono ?_; rintro e w' ⟨rfl, nq, rfl⟩)
            go_ret
            exact ⟨by simp only [ptO, ← HR.out, HZ.out]; rfl, nq, rfl⟩
          · have hz' : (r == 0) = false := by simp [hz]
            have HZ : Hid (¬ r = 0) := hz
            clear hz
            go_enter Try.func26, Try.ntmps26
            go_wp2_with (go_at_call 11; refine hc.mono ?_; rintro e w' ⟨rfl, nq, rfl⟩)
            go_ret
            exact ⟨by simp only [ptO, ← HR.out, decide_eq_false HZ.out]; rfl, nq, rfl⟩
        · clear hB hB'
          go_enter Try.func26, Try.ntmps26
          go_wp2_with fail
          go_ret
          exact ⟨rfl, 0, rfl⟩
      · clear hB hB'
        go_enter Try.func26, Try.ntmps26
        go_wp2_with fail
        go_ret
        exact ⟨rfl, 0, rfl⟩
end Go.Proofs.Qxb6000023a
