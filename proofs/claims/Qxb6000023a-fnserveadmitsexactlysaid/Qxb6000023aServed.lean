import Derived.Test.Qxb6000023aNest
namespace Go.Proofs.Qxb6000023a
open Go.RowKit

/-- The columns' spans: lower and upper bound, whether each is exclusive. -/
structure Cols where
  lo : Nat → Option (List Nat)
  hi : Nat → Option (List Nat)
  le : Nat → Bool
  he : Nat → Bool
  nr : Nat → Bool

def Cols.pt (c : Cols) (i : Nat) : Bool := ptO (c.lo i) (c.hi i) (c.le i) (c.he i)

/-- The columns in memory. -/
structure ColsIn (w : World) (a0 a1 a2 a3 a4 : Option Addr) (n : Nat) (c : Cols) : Prop where
  lo : Nest w a0 n c.lo
  hi : Nest w a1 n c.hi
  le : Row w a2 n (fun i => .bool (c.le i))
  he : Row w a3 n (fun i => .bool (c.he i))
  nr : Row w a4 n (fun i => .bool (c.nr i))
  bl : ∀ i, i < n → lenO (c.lo i) ≤ 1048576
  bh : ∀ i, i < n → lenO (c.hi i) ≤ 1048576

theorem ColsIn.below {w w' : World} {a0 a1 a2 a3 a4 : Option Addr} {n : Nat} {c : Cols} (h : ColsIn w a0 a1 a2 a3 a4 n c) (hb : Below w.heap.size w w') : ColsIn w' a0 a1 a2 a3 a4 n c :=
  ⟨h.lo.below hb, h.hi.below hb, h.le.below hb, h.he.below hb, h.nr.below hb, h.bl, h.bh⟩

/-- Column i of the columns in memory, the slices laid open. -/
theorem ColsIn.open {w : World} {a0 a1 a2 a3 a4 : Option Addr} {n : Nat} {c : Cols} (h : ColsIn w a0 a1 a2 a3 a4 n c) (hn : 0 < n) :
    ∃ b0 o0 b1 o1 b2 o2 b3 o3 b4 o4 : Nat, a0 = some ⟨b0, o0, none⟩ ∧ a1 = some ⟨b1, o1, none⟩ ∧ a2 = some ⟨b2, o2, none⟩ ∧ a3 = some ⟨b3, o3, none⟩ ∧ a4 = some ⟨b4, o4, none⟩ ∧
      ∃ (A A' : Nat → Option Addr) (C C' : Nat → Nat), ∀ i, i < n → w.cell? ⟨b0, o0 + i, none⟩ = some (.slice (A i) (lenO (c.lo i)) (C i)) ∧ w.cell? ⟨b1, o1 + i, none⟩ = some (.slice (A' i) (lenO (c.hi i)) (C' i)) ∧
        w.cell? ⟨b2, o2 + i, none⟩ = some (.bool (c.le i)) ∧ w.cell? ⟨b3, o3 + i, none⟩ = some (.bool (c.he i)) ∧ w.cell? ⟨b4, o4 + i, none⟩ = some (.bool (c.nr i)) ∧
        Col w (A i) (lenO (c.lo i)) (c.lo i) ∧ Col w (A' i) (lenO (c.hi i)) (c.hi i) := by
  obtain ⟨A, C, h1, h2⟩ := h.lo
  obtain ⟨A', C', h3, h4⟩ := h.hi
  obtain ⟨b0, o0, e0, r0⟩ := h1 hn
  obtain ⟨b1, o1, e1, r1⟩ := h3 hn
  obtain ⟨b2, o2, e2, r2⟩ := h.le hn
  obtain ⟨b3, o3, e3, r3⟩ := h.he hn
  obtain ⟨b4, o4, e4, r4⟩ := h.nr hn
  exact ⟨b0, o0, b1, o1, b2, o2, b3, o3, b4, o4, e0, e1, e2, e3, e4, A, A', C, C', fun i hi => ⟨r0 i hi, r1 i hi, r2 i hi, r3 i hi, r4 i hi, h2 i hi, h4 i hi⟩⟩

def ServedPost (c : Cols) (κ : Nat → Nat) (M n : Nat) (w : World) (e : Ending) (w' : World) : Prop :=
  ∃ r, e = .returned (.bool r) ∧ Below w.heap.size w w' ∧ (r = true → ∀ i, i < n → c.nr i = true → ∃ j, j < M ∧ κ j = i ∧ ∀ j', j' < j → c.pt (κ j') = true)

set_option maxRecDepth 100000 in
set_option maxHeartbeats 4000000 in
theorem served_any (a0 a1 a2 a3 a4 a5 : Option Addr) (n M c0 c1 c2 c3 c4 c5 : Nat) (c : Cols) (κ : Nat → Nat) (w : World) (hI : ColsIn w a0 a1 a2 a3 a4 n c)
    (hK : Row w a5 M (fun j => .int .i64 (κ j))) (hκ : ∀ j, j < M → κ j < n) (hM : M ≤ 4096) (hn : n ≤ 4096) :
    Calls Try.prog 19 #[.slice a0 n c0, .slice a1 n c1, .slice a2 n c2, .slice a3 n c3, .slice a4 n c4, .slice a5 M c5] w (ServedPost c κ M n w) := by
  have hmk := make37 n (by omega)
  go_enter Try.func19, Try.ntmps19
  go_wp2_with fail
  clear hmk
  go_loopg [14] M (fun g s14 wr => ∃ (t : Nat) (S : Nat → Bool), t ≤ M ∧ g = M - t ∧ s14 = .int .i64 t ∧ Below w.heap.size w wr ∧ wr.rowIs w.heap.size 4 n (fun i => .bool (S i)) ∧ (∀ i, S i = true → ∃ j, j < M ∧ κ j = i ∧ ∀ j', j' < j → c.pt (κ j') = true) ∧ ∀ j, j < t → c.pt (κ j) = true)
  case atStart => exact ⟨0, fun _ => false, Nat.zero_le _, rfl, rfl, (Below.refl _ _).alloc (Nat.le_refl _) _, World.rowIs_made w (.bool false) n 4, fun i hi => Bool.noConfusion hi, fun j hj => absurd hj (Nat.not_lt_zero _)⟩
  case round =>
    obtain ⟨t, S, ht, rfl, rfl, hB, hS, hser, hpts⟩ := hrel
    have HI : Hid ((∀ i, S i = true → ∃ j, j < M ∧ κ j = i ∧ ∀ j', j' < j → c.pt (κ j') = true) ∧ ∀ j, j < t → c.pt (κ j) = true) := ⟨hser, hpts⟩
    clear hser hpts
    by_cases hlt : t < M
    · have hkn := hκ t hlt
      obtain ⟨b5, o5, rfl, hk5⟩ := hK (by omega)
      have q5 : wr.cell? ⟨b5, o5 + t, none⟩ = some (.int .i64 (κ t)) := Below.at hB (lt_of_cell (hk5 t hlt)) (hk5 t hlt)
      obtain ⟨v6, q6⟩ : ∃ v, wr.cell? ⟨w.heap.size, κ t, none⟩ = some v := ⟨_, hS.cell hkn⟩
      have q7 := hS.frozen (κ t)
      have hltz : (t : Int) < (M : Int) := by omega
      have hknz : (κ t : Int) < (n : Int) := by omega
      have hS1 := hS.set (κ t) (.bool true)
      have hB1 := hB.setCell (p := ⟨w.heap.size, κ t, none⟩) (by simp) (.bool true)
      have HS1 : Hid (∀ i, (if i = κ t then true else S i) = true → ∃ j, j < M ∧ κ j = i ∧ ∀ j', j' < j → c.pt (κ j') = true) := fun i hi => by
        by_cases e : i = κ t
        · exact ⟨t, hlt, e.symm, HI.out.2⟩
        · rw [if_neg e] at hi; exact HI.out.1 i hi
      clear hk5
      go_wp2_with fail
      obtain ⟨w1, hw1⟩ : ∃ w1 : World, w1 = wr.setCell ⟨w.heap.size, κ t, none⟩ (.bool true) := ⟨_, rfl⟩
      rw [← hw1] at hS1 hB1 ⊢
      clear hw1 q5 q6 q7 hS hB
      replace hS1 : w1.rowIs w.heap.size 4 n (fun i => .bool (if i = κ t then true else S i)) := hS1.congr (fun j _ => by by_cases e : j = κ t <;> simp [e])
      have hbl := hI.bl (κ t) hkn
      have hbh := hI.bh (κ t) hkn
      obtain ⟨b0, o0, b1, o1, b2, o2, b3, o3, b4, o4, e0, e1, e2, e3, e4, A, A', C, C', hcells⟩ := (hI.below hB1).open (by omega)
      obtain ⟨q0, q1, q2, q3, _, k0, k1⟩ := hcells (κ t) hkn
      clear hcells
      clear e4
      subst e0 e1 e2 e3
      obtain ⟨pv, hpv⟩ : ∃ pv, pv = c.pt (κ t) := ⟨_, rfl⟩
      have hcall := fun kd => isPoint_any (A (κ t)) (A' (κ t)) (lenO (c.lo (κ t))) (lenO (c.hi (κ t))) (C (κ t)) (C' (κ t)) (c.lo (κ t)) (c.hi (κ t)) (c.le (κ t)) (c.he (κ t)) (w1.drewN kd) (k0.drewN kd) (k1.drewN kd) (by omega) (by omega)
      replace hcall : ∀ kd, Calls Try.prog 26 #[.slice (A (κ t)) (lenO (c.lo (κ t))) (C (κ t)), .slice (A' (κ t)) (lenO (c.hi (κ t))) (C' (κ t)), .bool (c.le (κ t)), .bool (c.he (κ t))] (w1.drewN kd) (fun e w' => e = .returned (.bool pv) ∧ ∃ m, w' = (w1.drewN kd).drewN m) := by rw [hpv]; exact hcall
      have HPV : Hid (pv = c.pt (κ t)) := hpv
      clear hpv k0 k1
      go_quiet ((go_at_call 26; exact Calls.quiet_of (hcall _)))
      clear hcall q0 q1 q2 q3
      cases pv
      · -- no point: the loop is left
        go_wp2_with fail
        obtain ⟨Sf, hSfe⟩ : ∃ Sf : Nat → Bool, Sf = fun i => if i = κ t then true else S i := ⟨_, rfl⟩
        have HSf : Hid (∀ i, Sf i = true → ∃ j, j < M ∧ κ j = i ∧ ∀ j', j' < j → c.pt (κ j') = true) := by rw [hSfe]; exact HS1.out
        have hSx : w1.rowIs w.heap.size 4 n (fun i => .bool (Sf i)) := by rw [hSfe]; exact hS1
        clear hSfe HS1 HI hS1 HPV
        obtain ⟨wf, hwf⟩ : ∃ wf : World, wf = w1.drewN nq := ⟨_, rfl⟩
        have hBf : Below w.heap.size w wf := by rw [hwf]; exact below_drewN hB1 nq
        have hSf : wf.rowIs w.heap.size 4 n (fun i => .bool (Sf i)) := by rw [hwf]; exact hSx
        rw [← hwf]
        clear hwf
        have hIf := hI.below hBf
        go_loopg [16] n (fun g s16 wx => ∃ i : Nat, i ≤ n ∧ g = n - i ∧ s16 = .int .i64 i ∧ wx = wf ∧ ∀ x, x < i → c.nr x = true → Sf x = true)
        case atStart => exact ⟨0, Nat.zero_le _, rfl, rfl, rfl, fun x hx => absurd hx (Nat.not_lt_zero _)⟩
        case round =>
          obtain ⟨i, hi, rfl, rfl, rfl, hall⟩ := hrel
          have HA : Hid (∀ x, x < i → c.nr x = true → Sf x = true) := hall
          clear hall
          by_cases hin : i < n
          · obtain ⟨b4, o4, e4, r4⟩ := hIf.nr (by omega)
            have q4 : wr.cell? ⟨b4, o4 + i, none⟩ = some (.bool (c.nr i)) := r4 i hin
            have q5 : wr.cell? ⟨w.heap.size, i, none⟩ = some (.bool (Sf i)) := hSf.cell hin
            clear r4 hIf
            have hinz : (i : Int) < (n : Int) := by omega
            subst e4
            cases hnr : c.nr i
            · rw [hnr] at q4
              have HN : Hid (c.nr i = false) := hnr
              clear hnr
              go_wp2_with fail
              go_roundg (n - (i + 1))
              case measure => omega
              case rel => exact ⟨i + 1, by omega, rfl, by go_num, rfl, fun x hx hnx => by
                by_cases e : x = i
                · subst e; rw [HN.out] at hnx; exact Bool.noConfusion hnx
                · exact HA.out x (by omega) hnx⟩
            · rw [hnr] at q4
              clear hnr
              cases hsf : Sf i
              · rw [hsf] at q5
                clear hsf
                go_wp2_with fail
                go_ret
                exact ⟨false, rfl, hBf, by simp⟩
              · rw [hsf] at q5
                have HN : Hid (Sf i = true) := hsf
                clear hsf
                go_wp2_with fail
                go_roundg (n - (i + 1))
                case measure => omega
                case rel => exact ⟨i + 1, by omega, rfl, by go_num, rfl, fun x hx hnx => by
                  by_cases e : x = i
                  · subst e; exact HN.out
                  · exact HA.out x (by omega) hnx⟩
          · obtain rfl : i = n := by omega
            clear hIf
            go_wp2_with fail
            go_ret
            exact ⟨true, rfl, hBf, fun _ x hx hnx => HSf.out x (HA.out x hx hnx)⟩
      · go_wp2_with fail
        go_roundg (M - (t + 1))
        case measure => omega
        case rel => exact ⟨t + 1, _, by omega, rfl, by go_num, below_drewN hB1 nq, hS1, HS1.out, fun j hj => by
          by_cases e : j = t
          · subst e; exact HPV.out.symm
          · exact HI.out.2 j (by omega)⟩
    · obtain rfl : t = M := by omega
      go_wp2_with fail
      obtain ⟨Sf, hSfe⟩ : ∃ Sf : Nat → Bool, Sf = S := ⟨_, rfl⟩
      rw [← hSfe] at HI hS
      clear hSfe
      have HSf := HI
      obtain ⟨wf, hwf⟩ : ∃ wf : World, wf = wr := ⟨_, rfl⟩
      have hBf : Below w.heap.size w wf := by rw [hwf]; exact hB
      have hSf : wf.rowIs w.heap.size 4 n (fun i => .bool (Sf i)) := by rw [hwf]; exact hS
      rw [← hwf]
      clear hwf
      have hIf := hI.below hBf
      go_loopg [16] n (fun g s16 wx => ∃ i : Nat, i ≤ n ∧ g = n - i ∧ s16 = .int .i64 i ∧ wx = wf ∧ ∀ x, x < i → c.nr x = true → Sf x = true)
      case atStart => exact ⟨0, Nat.zero_le _, rfl, rfl, rfl, fun x hx => absurd hx (Nat.not_lt_zero _)⟩
      case round =>
        obtain ⟨i, hi, rfl, rfl, rfl, hall⟩ := hrel
        have HA : Hid (∀ x, x < i → c.nr x = true → Sf x = true) := hall
        clear hall
        by_cases hin : i < n
        · obtain ⟨b4, o4, e4, r4⟩ := hIf.nr (by omega)
          have q4 : wr.cell? ⟨b4, o4 + i, none⟩ = some (.bool (c.nr i)) := r4 i hin
          have q5 : wr.cell? ⟨w.heap.size, i, none⟩ = some (.bool (Sf i)) := hSf.cell hin
          clear r4 hIf
          have hinz : (i : Int) < (n : Int) := by omega
          subst e4
          cases hnr : c.nr i
          · rw [hnr] at q4
            have HN : Hid (c.nr i = false) := hnr
            clear hnr
            go_wp2_with fail
            go_roundg (n - (i + 1))
            case measure => omega
            case rel => exact ⟨i + 1, by omega, rfl, by go_num, rfl, fun x hx hnx => by
              by_cases e : x = i
              · subst e; rw [HN.out] at hnx; exact Bool.noConfusion hnx
              · exact HA.out x (by omega) hnx⟩
          · rw [hnr] at q4
            clear hnr
            cases hsf : Sf i
            · rw [hsf] at q5
              clear hsf
              go_wp2_with fail
              go_ret
              exact ⟨false, rfl, hBf, by simp⟩
            · rw [hsf] at q5
              have HN : Hid (Sf i = true) := hsf
              clear hsf
              go_wp2_with fail
              go_roundg (n - (i + 1))
              case measure => omega
              case rel => exact ⟨i + 1, by omega, rfl, by go_num, rfl, fun x hx hnx => by
                by_cases e : x = i
                · subst e; exact HN.out
                · exact HA.out x (by omega) hnx⟩
        · obtain rfl : i = n := by omega
          clear hIf
          go_wp2_with fail
          go_ret
          exact ⟨true, rfl, hBf, fun _ x hx hnx => HSf.out.1 x (HA.out x hx hnx)⟩
end Go.Proofs.Qxb6000023a
