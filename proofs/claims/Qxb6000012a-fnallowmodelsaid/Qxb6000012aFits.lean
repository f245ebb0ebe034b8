import Derived.Test.Qxb6000012aMem
import Derived.Deep.LoopGhost
import Derived.Deep.QuietTactic
import Derived.BigQuiet
import Derived.WalkLawsBesides
namespace Go.Proofs.Qxb6000012a
open Go.RowKit

def Valid (lv : Nat → Int) (n : Nat) : Prop := lv 0 = 0 ∧ ∀ i, 1 ≤ i → i < n → 1 ≤ lv i ∧ lv i ≤ lv (i - 1) + 1

theorem Valid.bd {lv : Nat → Int} {n : Nat} (h : Valid lv n) : ∀ i, i < n → 0 ≤ lv i ∧ lv i ≤ i := by
  intro i
  induction i with
  | zero => intro _; have := h.1; omega
  | succ i ih =>
    intro hi
    have h1 := ih (by omega)
    have h2 := h.2 (i + 1) (by omega) hi
    simp only [Nat.add_sub_cancel] at h2
    omega

theorem valid_step {lv : Nat → Int} {i : Nat} (h : Valid lv i) (h1 : 1 ≤ lv i) (h2 : lv i ≤ lv (i - 1) + 1) : Valid lv (i + 1) :=
  ⟨h.1, fun j hj hji => by
    by_cases e : j = i
    · subst e; exact ⟨h1, h2⟩
    · exact h.2 j hj (by omega)⟩

set_option maxHeartbeats 1000000 in
theorem valid_any (b off n c : Nat) (lv : Nat → Int) (w : World) (hn0 : 0 < n) (hn : n ≤ 4096)
    (hL : ∀ i, i < n → w.cell? ⟨b, off + i, none⟩ = some (.int .i64 (lv i))) :
    Calls Try.prog 23 #[.slice (some ⟨b, off, none⟩) n c] w fun e w' => ∃ r, e = .returned (.bool r) ∧ (∃ nq, w' = w.drewN nq) ∧ (r = true → Valid lv n) := by
  have c0 : w.cell? ⟨b, off, none⟩ = some (.int .i64 (lv 0)) := by simpa using hL 0 hn0
  have z0 : ((n : Int) == 0) = false := by simp; omega
  by_cases h0 : lv 0 = 0
  · have h0' : (lv 0 != 0) = false := by simp [h0]
    have H0 : Hid (lv 0 = 0) := h0
    clear h0
    go_enter Try.func23, Try.ntmps23
    go_wp2_with fail
    clear c0
    go_loopg [3] (n - 1) (fun g s3 wr => ∃ i : Nat, 1 ≤ i ∧ i ≤ n ∧ g = n - i ∧ s3 = .int .i64 i ∧ (∃ nq, wr = w.drewN nq) ∧ Valid lv i)
    case atStart => exact ⟨1, by omega, by omega, rfl, rfl, ⟨0, rfl⟩, H0.out, fun i h1 h2 => by omega⟩
    case round =>
      obtain ⟨i, hi1, hi, rfl, rfl, ⟨k0, rfl⟩, hV⟩ := hrel
      by_cases hlt : i < n
      · have hb := hV.bd (i - 1) (by omega)
        have q1 := hL i hlt
        have q2 : w.cell? ⟨b, off + (i - 1), none⟩ = some (.int .i64 (lv (i - 1))) := hL (i - 1) (by omega)
        have hltz : (i : Int) < (n : Int) := by omega
        by_cases c1 : lv i < 1
        · go_wp2_with fail
          go_quiet (fail)
          go_wp2_with fail
          go_ret
          exact ⟨false, rfl, ⟨k0 + nq, World.drewN_drewN ..⟩, by simp⟩
        · have c1' : decide (lv i < 1) = false := by simp; omega
          go_wp2_with fail
          go_quiet (fail)
          go_wp2_with fail
          · go_ret
            exact ⟨false, rfl, ⟨k0 + nq, World.drewN_drewN ..⟩, by simp⟩
          · go_roundg (n - (i + 1))
            case measure => omega
            case rel => exact ⟨i + 1, by omega, by omega, rfl, by go_num, ⟨k0 + nq, rfl⟩, valid_step hV (by omega) (by omega)⟩
      · obtain rfl : i = n := by omega
        go_wp2_with fail
        go_ret
        exact ⟨true, rfl, ⟨_, rfl⟩, fun _ => hV⟩
  · have h0' : (lv 0 != 0) = true := by simp [h0]
    clear h0
    go_enter Try.func23, Try.ntmps23
    go_wp2_with fail
    go_ret
    exact ⟨false, rfl, ⟨0, rfl⟩, by simp⟩

/-- What zzAllowFits asks. -/
structure Fits (lv : Nat → Int) (s : Nat → BitVec 32 × BitVec 32) (l0 l1 l2 : Nat) (k : Int) : Prop where
  small : l0 ≤ 4096
  e1 : l1 = l0
  e2 : l2 = l0
  k0 : 0 ≤ k
  kn : k < l0
  valid : Valid lv l0
  sub : ∀ i, i < l0 → (s i).2 &&& ~~~(s i).1 = 0

theorem n32_bne (a : BitVec 32) : (n32 a != 0) = !decide (a = 0) := by
  have : (n32 a == 0) = decide (a = 0) := by
    by_cases h : a = 0
    · subst h; decide
    · rw [decide_eq_false h, beq_eq_false_iff_ne]
      intro e
      exact h (n32_inj (e.trans (by decide)))
  simp only [bne, this]

/-- What zzAllowFits leaves. -/
def FitsPost (lv : Nat → Int) (s : Nat → BitVec 32 × BitVec 32) (l0 l1 l2 : Nat) (k : Int) (w : World) (e : Ending) (w' : World) : Prop :=
  ∃ r, e = .returned (.bool r) ∧ (∃ nq, w' = w.drewN nq) ∧ (r = true → Fits lv s l0 l1 l2 k)

set_option maxHeartbeats 2000000 in
theorem fits_any (a0 a1 a2 : Option Addr) (l0 l1 l2 c0 c1 c2 : Nat) (lv : Nat → Int) (s : Nat → BitVec 32 × BitVec 32) (k : Int) (w : World)
    (h0 : 0 < l0 → ∃ b off, a0 = some ⟨b, off, none⟩ ∧ ∀ i, i < l0 → w.cell? ⟨b, off + i, none⟩ = some (.int .i64 (lv i)))
    (h1 : 0 < l1 → ∃ b off, a1 = some ⟨b, off, none⟩ ∧ ∀ i, i < l1 → w.cell? ⟨b, off + i, none⟩ = some (V32 (s i).1))
    (h2 : 0 < l2 → ∃ b off, a2 = some ⟨b, off, none⟩ ∧ ∀ i, i < l2 → w.cell? ⟨b, off + i, none⟩ = some (V32 (s i).2))
    (s0 : l0 ≤ 4096) (s1 : l1 ≤ 4096) (s2 : l2 ≤ 4096) (k0 : -9223372036854775808 ≤ k) (k1 : k ≤ 9223372036854775807) :
    Calls Try.prog 13 #[.slice a0 l0 c0, .slice a1 l1 c1, .slice a2 l2 c2, .int .i64 k] w (FitsPost lv s l0 l1 l2 k w) := by
  by_cases e1 : l1 = l0
  · by_cases e2 : l2 = l0
    · subst e1 e2
      by_cases hk0 : k < 0
      · go_enter Try.func13, Try.ntmps13
        go_wp2_with fail
        go_ret
        exact ⟨false, rfl, ⟨0, rfl⟩, by simp⟩
      · obtain ⟨q, rfl⟩ := Int.eq_ofNat_of_zero_le (by omega : 0 ≤ k)
        by_cases hkn : q < l2
        · obtain ⟨b0, o0, rfl, r0⟩ := h0 (by omega)
          obtain ⟨b1, o1, rfl, r1⟩ := h1 (by omega)
          obtain ⟨b2, o2, rfl, r2⟩ := h2 (by omega)
          clear h0 h1 h2
          go_enter Try.func13, Try.ntmps13
          go_wp2_with (go_at_call 23; refine (valid_any b0 o0 l2 c0 lv _ (by omega) s2 r0).mono ?_; rintro e w' ⟨r, rfl, ⟨n0, rfl⟩, hv⟩; cases r)
          · go_ret
            exact ⟨false, rfl, ⟨n0, rfl⟩, by simp⟩
          · have hV : Valid lv l2 := by first | exact hv rfl | exact hv trivial
            clear hv
            go_loopg [10] l2 (fun g s10 wr => ∃ i : Nat, i ≤ l2 ∧ g = l2 - i ∧ s10 = .int .i64 i ∧ (∃ nq, wr = w.drewN nq) ∧ ∀ j, j < i → (s j).2 &&& ~~~(s j).1 = 0)
            case atStart => exact ⟨0, by omega, rfl, rfl, ⟨n0, rfl⟩, fun j hj => by omega⟩
            case round =>
              obtain ⟨i, hi, rfl, rfl, ⟨k0, rfl⟩, hS⟩ := hrel
              by_cases hlt : i < l2
              · have q1 := r1 i hlt
                have q2 := r2 i hlt
                have hb := bnot
                have hltz : (i : Int) < (l2 : Int) := by omega
                have HS : Hid (∀ j, j < i → (s j).2 &&& ~~~(s j).1 = 0) := hS
                clear hS
                by_cases hz : (s i).2 &&& ~~~(s i).1 = 0
                · have hz' : (n32 ((s i).2 &&& ~~~(s i).1) != 0) = false := by rw [n32_bne, decide_eq_true hz]; rfl
                  have HZ : Hid ((s i).2 &&& ~~~(s i).1 = 0) := hz
                  clear hz
                  go_wp2_with fail
                  go_quiet (fail)
                  go_wp2_with fail
                  go_roundg (l2 - (i + 1))
                  case measure => omega
                  case rel => exact ⟨i + 1, by omega, rfl, by go_num, ⟨k0 + nq, by first | rfl | exact World.drewN_drewN ..⟩, fun j hj => by
                    by_cases e : j = i
                    · subst e; exact HZ.out
                    · exact HS.out j (by omega)⟩
                · have hz' : (n32 ((s i).2 &&& ~~~(s i).1) != 0) = true := by rw [n32_bne, decide_eq_false hz]; rfl
                  clear hz
                  go_wp2_with fail
                  go_quiet (fail)
                  go_wp2_with fail
                  go_ret
                  exact ⟨false, rfl, ⟨k0 + nq, by first | rfl | exact World.drewN_drewN ..⟩, by simp⟩
              · obtain rfl : i = l2 := by omega
                go_wp2_with fail
                go_ret
                exact ⟨true, rfl, ⟨_, rfl⟩, fun _ => ⟨s0, rfl, rfl, by omega, by omega, hV, hS⟩⟩
        · go_enter Try.func13, Try.ntmps13
          go_wp2_with fail
          go_ret
          exact ⟨false, rfl, ⟨0, rfl⟩, by simp⟩
    · have z2 : ((l2 : Int) != (l0 : Int)) = true := by simp; omega
      go_enter Try.func13, Try.ntmps13
      go_wp2_with fail
      go_ret
      exact ⟨false, rfl, ⟨0, rfl⟩, by simp⟩
  · have z2 : ((l1 : Int) != (l0 : Int)) = true := by simp; omega
    go_enter Try.func13, Try.ntmps13
    go_wp2_with fail
    go_ret
    exact ⟨false, rfl, ⟨0, rfl⟩, by simp⟩
end Go.Proofs.Qxb6000012a
