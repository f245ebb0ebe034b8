import Derived.Test.Qxb6000023aKeys
import Derived.Test.Qxb6000023aPoint
import Derived.Test.Qxb6000023aContains
import Derived.Test.Qxb6000023aServed
namespace Go.Proofs.Qxb6000023a
open Go.RowKit

/-- The spans in memory: five cells a column. -/
def SpIn (w : World) (bs n : Nat) (c : Cols) : Prop :=
  ∃ (A A' : Nat → Option Addr) (C C' : Nat → Nat), ∀ i, i < n → w.cell? ⟨bs, i * 5, none⟩ = some (.slice (A i) (lenO (c.lo i)) (C i)) ∧ w.cell? ⟨bs, i * 5 + 1, none⟩ = some (.slice (A' i) (lenO (c.hi i)) (C' i)) ∧
    w.cell? ⟨bs, i * 5 + 2, none⟩ = some (.bool (c.le i)) ∧ w.cell? ⟨bs, i * 5 + 3, none⟩ = some (.bool (c.he i)) ∧ w.cell? ⟨bs, i * 5 + 4, none⟩ = some (.bool (c.nr i)) ∧
    Col w (A i) (lenO (c.lo i)) (c.lo i) ∧ Col w (A' i) (lenO (c.hi i)) (c.hi i)

theorem SpIn.below {w w' : World} {bs n : Nat} {c : Cols} (h : SpIn w bs n c) (hb : Below w.heap.size w w') : SpIn w' bs n c := by
  obtain ⟨A, A', C, C', hc⟩ := h
  refine ⟨A, A', C, C', fun i hi => ?_⟩
  obtain ⟨q0, q1, q2, q3, q4, k0, k1⟩ := hc i hi
  exact ⟨Below.at hb (lt_of_cell q0) q0, Below.at hb (lt_of_cell q1) q1, Below.at hb (lt_of_cell q2) q2, Below.at hb (lt_of_cell q3) q3, Below.at hb (lt_of_cell q4) q4, k0.below hb, k1.below hb⟩

/-- The first E columns' lower bounds, one behind the other. -/
def preL (c : Cols) (κ : Nat → Nat) : Nat → List Nat
  | 0 => []
  | E + 1 => preL c κ E ++ getO (c.lo (κ E))
def preO (c : Cols) (κ : Nat → Nat) (E : Nat) : Option (List Nat) := if E = 0 then none else some (preL c κ E)

def nxO (o : Nat → Option (List Nat)) (κ : Nat → Nat) (M t : Nat) : Option (List Nat) := if t < M then o (κ t) else none
def nxB (o : Nat → Bool) (κ : Nat → Nat) (M t : Nat) : Bool := if t < M then o (κ t) else false

def RangePost (lo : Option (Option (List Nat))) (up : Option (List Nat)) (w : World) (e : Ending) (w' : World) : Prop :=
  Below w.heap.size w w' ∧ match lo with
    | none => e = .returned (.tuple #[.agg #[.pointer none, .pointer none, .bool false, .int .i64 0], .bool false, .slice none 0 0])
    | some o => ∃ p1 p2, e = .returned (.tuple #[.agg #[.pointer p1, .pointer p2, .bool false, .int .i64 0], .bool true, .slice none 0 0]) ∧ Bd w' p1 false o ∧ Bd w' p2 true up

/-- t columns of the key are points, and the next one, if there is one, is none. -/
def Pts (c : Cols) (κ : Nat → Nat) (M t : Nat) : Prop := t ≤ M ∧ (∀ j, j < t → c.pt (κ j) = true) ∧ (t < M → c.pt (κ t) = false)

def ServePost (c : Cols) (κ : Nat → Nat) (M : Nat) (w : World) (e : Ending) (w' : World) : Prop :=
  ∃ t, Pts c κ M t ∧ RangePost (lowF (nxO c.lo κ M t) (nxB c.le κ M t) (preO c κ t)) (upF (nxO c.hi κ M t) (nxB c.he κ M t) (preO c κ t)) w e w'

/-- The prefix as it grows. -/
def PreIn (w wr : World) (v : Value) (l : List Nat) (u : Nat) : Prop :=
  wr.ownsRow w.heap.size 5 1 v l.length (cb l) ∧ Below w.heap.size w wr ∧ (u = 0 → v = .slice none 0 0) ∧ (0 < u → ∃ g cap, v = .slice (some ⟨g, 0, none⟩) l.length cap)

theorem at8_lt {l : List Nat} (h : ∀ x ∈ l, x < 256) (i : Nat) : at8 l i < 256 := by
  unfold at8
  by_cases hi : i < l.length
  · have := h (l.getD i 0) (by simp [hi])
    omega
  · have : l.getD i 0 = 0 := by simp [hi]
    omega
theorem good_bytes {o : Option (List Nat)} (h : Good o) : ∀ x ∈ getO o, x < 256 := by
  cases o with
  | none => intro x hx; cases hx
  | some l => exact (h l rfl).2
theorem good_len {o : Option (List Nat)} (h : Good o) (hs : o.isSome = true) : 0 < lenO o := by
  cases o with
  | none => exact Bool.noConfusion hs
  | some l => exact (h l rfl).1

theorem pre_col {w wr : World} {v : Value} {c : Cols} {κ : Nat → Nat} {u : Nat} (h : PreIn w wr v (preL c κ u) u) : ∃ ap cp, v = .slice ap (lenO (preO c κ u)) cp ∧ Col wr ap (lenO (preO c κ u)) (preO c κ u) := by
  obtain ⟨h1, h2, h3, h4⟩ := h
  by_cases hu : u = 0
  · subst hu
    exact ⟨none, 0, h3 rfl, rfl, rfl⟩
  · obtain ⟨g, cap, hv⟩ := h4 (by omega)
    have e : preO c κ u = some (preL c κ u) := by simp [preO, hu]
    rw [e]
    refine ⟨some ⟨g, 0, none⟩, cap, hv, rfl, rfl, ?_⟩
    subst hv
    exact Bts.of_own h1 rfl

theorem pt_some {c : Cols} {i : Nat} (h : c.pt i = true) : ∃ l, c.lo i = some l := by
  unfold Cols.pt at h
  cases hl : c.lo i with
  | none => rw [hl] at h; exact Bool.noConfusion h
  | some l => exact ⟨l, rfl⟩

set_option maxRecDepth 100000 in
set_option maxHeartbeats 4000000 in
theorem serve_any (bs n cs bk ok M ck : Nat) (c : Cols) (κ : Nat → Nat) (w : World) (hS : SpIn w bs n c) (hk : ∀ j, j < M → w.cell? ⟨bk, ok + j, none⟩ = some (.int .i64 (κ j))) (hκ : ∀ j, j < M → κ j < n)
    (hM : M ≤ 4096) (hn : n ≤ 4096) (hck : M ≤ ck) (hck2 : ck ≤ 9223372036854775807)
    (hg : ∀ i, i < n → Good (c.lo i) ∧ Good (c.hi i)) (hsv : ∀ i, i < n → c.nr i = true → ∃ j, j < M ∧ κ j = i ∧ ∀ j', j' < j → c.pt (κ j') = true)
    (hpl : ∀ u, u ≤ M → (preL c κ u).length ≤ 1048576) (hpb : ∀ u, u ≤ M → ∀ x ∈ preL c κ u, x < 256) (hbl : ∀ i, i < n → lenO (c.lo i) ≤ 1048576 ∧ lenO (c.hi i) ≤ 1048576) :
    Calls Try.prog 27 #[.slice (some ⟨bs, 0, none⟩) n cs, .slice (some ⟨bk, ok, none⟩) M ck] w (ServePost c κ M w) := by
  go_enter Try.func27, Try.ntmps27
  go_wp2_with fail
  obtain ⟨w0, hw0⟩ : ∃ w0 : World, w0 = w.alloc (.cells #[.pointer none, .pointer none, .bool false, .int .i64 0] 27) := ⟨_, rfl⟩
  rw [← hw0]
  have hb0 : Below w.heap.size w w0 := by rw [hw0]; exact (Below.refl _ _).alloc (Nat.le_refl _) _
  have hS0 := hS.below hb0
  have hk0 : ∀ j, j < M → w0.cell? ⟨bk, ok + j, none⟩ = some (.int .i64 (κ j)) := fun j hj => Below.at hb0 (lt_of_cell (hk j hj)) (hk j hj)
  clear hS hk
  go_loopg [7] M (fun g s7 wr => ∃ t : Nat, t ≤ M ∧ g = M - t ∧ s7 = .int .i64 t ∧ Below w0.heap.size w0 wr ∧ ∀ j, j < t → c.pt (κ j) = true)
  case atStart => exact ⟨0, Nat.zero_le _, rfl, rfl, Below.refl _ _, fun j hj => absurd hj (Nat.not_lt_zero _)⟩
  case round =>
    obtain ⟨t, ht, rfl, rfl, hB, hpts⟩ := hrel
    have HP : Hid (∀ j, j < t → c.pt (κ j) = true) := hpts
    clear hpts
    obtain ⟨v, hv⟩ : ∃ v, v = (decide (t < M) && c.pt (κ t)) := ⟨_, rfl⟩
    have HV : Hid (v = (decide (t < M) && c.pt (κ t))) := hv
    clear hv
    go_upto_region 2 with fail
    go_cut [31] (fun s31 wc => s31 = .bool v ∧ Below w0.heap.size w0 wc)
    case first =>
      by_cases hlt : t < M
      · obtain ⟨A, A', C, C', hc⟩ := hS0.below hB
        have hkn := hκ t hlt
        obtain ⟨q0, q1, q2, q3, q4, k0, k1⟩ := hc (κ t) hkn
        have q5 := Below.at hB (lt_of_cell (hk0 t hlt)) (hk0 t hlt)
        have hltz : decide ((t : Int) < (M : Int)) = true := by simp; omega
        have hltz2 : (t : Int) < (M : Int) := by omega
        have hkz : (κ t : Int) < (n : Int) := by omega
        have hpt := point_any (A (κ t)) (A' (κ t)) (lenO (c.lo (κ t))) (lenO (c.hi (κ t))) (C (κ t)) (C' (κ t)) (c.lo (κ t)) (c.hi (κ t)) (c.le (κ t)) (c.he (κ t)) (c.nr (κ t)) wr k0 k1 (hg _ hkn).1 (hg _ hkn).2
        obtain ⟨pv, hpv⟩ : ∃ pv, pv = c.pt (κ t) := ⟨_, rfl⟩
        have hpt' : Calls Try.prog 30 #[.agg #[.slice (A (κ t)) (lenO (c.lo (κ t))) (C (κ t)), .slice (A' (κ t)) (lenO (c.hi (κ t))) (C' (κ t)), .bool (c.le (κ t)), .bool (c.he (κ t)), .bool (c.nr (κ t))]] wr (BBPost pv wr) := by rw [hpv]; exact hpt
        have HVP : Hid (v = pv) := by show v = pv; rw [HV.out, hpv, decide_eq_true hlt]; rfl
        clear hc k0 k1 hpt hpv hk0 hS0 hg hκ
        go_wp2_with (go_at_call 30; refine hpt'.mono ?_; rintro e w' ⟨rfl, hB'⟩)
        go_meet
        exact ⟨by rw [HVP.out], hB.trans (hB'.mono hB.size)⟩
      · have hltz : decide ((t : Int) < (M : Int)) = false := by simp; omega
        have HVP : Hid (v = false) := by show v = false; rw [HV.out, decide_eq_false hlt]; rfl
        clear hk0 hS0 hg hκ
        go_wp2_with fail
        go_meet
        exact ⟨by rw [HVP.out], hB⟩
    case rest =>
      obtain ⟨rfl, hBc⟩ := hcut
      clear hB
      cases v
      · -- the loop is left: t columns are points
        have hE : t < M → c.pt (κ t) = false := fun h => by
          have := HV.out
          rw [decide_eq_true h] at this
          simpa using this.symm
        have HE : Hid ((∀ j, j < t → c.pt (κ j) = true) ∧ (t < M → c.pt (κ t) = false)) := ⟨HP.out, hE⟩
        obtain ⟨m, hm⟩ : ∃ m, m = min (t + 1) M := ⟨_, rfl⟩
        have hsv' : ∀ i, i < n → c.nr i = true → ∃ j, j < m ∧ κ j = i := fun i hi hnr => by
          obtain ⟨j, h1, h2, h3⟩ := hsv i hi hnr
          refine ⟨j, ?_, h2⟩
          by_cases hjt : j ≤ t
          · omega
          · exfalso
            have h4 := h3 t (by omega)
            rw [hE (by omega)] at h4
            exact Bool.noConfusion h4
        have hm1 : m ≤ M := by omega
        have HM : Hid (m = min (t + 1) M) := hm
        clear hE HV HP hsv hm
        go_upto_region 4 with fail
        go_cut [8] (fun s8 wd => s8 = .slice (some ⟨bk, ok, none⟩) m ck ∧ wd = wc)
        case first =>
          by_cases htM : t + 1 ≤ M
          · have hmt : m = t + 1 := by have := HM.out; omega
            have HMT : Hid (m = t + 1) := hmt
            clear hmt hk0 hS0 hg hκ hsv'
            go_wp2_with fail
            go_meet
            exact ⟨by rw [HMT.out], rfl⟩
          · have hmt : m = M := by have := HM.out; omega
            have HMT : Hid (m = M) := hmt
            clear hmt hk0 hS0 hg hκ hsv'
            go_wp2_with fail
            go_meet
            exact ⟨by rw [HMT.out], rfl⟩
        case rest =>
          obtain ⟨rfl, rfl⟩ := hcut
          go_wp2_with fail
          go_loopg [9, 43] n (fun g s9 s43 wr => ∃ i : Nat, i ≤ n ∧ g = n - i ∧ s43 = .int .i64 i ∧ s9 = .slice none 0 0 ∧ Below w0.heap.size w0 wr)
          case atStart => exact ⟨0, Nat.zero_le _, rfl, rfl, rfl, hBc⟩
          case round =>
            obtain ⟨i, hi, rfl, rfl, rfl, hB⟩ := hrel
            clear hBc
            by_cases hin : i < n
            · obtain ⟨A, A', C, C', hc⟩ := hS0.below hB
              obtain ⟨q0, q1, q2, q3, q4, k0, k1⟩ := hc i hin
              have hinz : (i : Int) < (n : Int) := by omega
              clear hc k0 k1
              cases hnr : c.nr i
              · rw [hnr] at q4
                clear hnr hk0 hS0 hg hκ hsv'
                go_wp2_with fail
                go_roundg (n - (i + 1))
                case measure => omega
                case rel => exact ⟨i + 1, by omega, rfl, by go_num, rfl, hB.alloc hB.size _⟩
              · have hcon := fun X => contains_any bk ok m ck i κ (wr.alloc X) (fun j hj => Below.at (hB.alloc hB.size X) (lt_of_cell (hk0 j (by omega))) (hk0 j (by omega))) (by omega) (hsv' i hin hnr)
                rw [hnr] at q4
                clear hnr hk0 hS0 hg hκ hsv'
                go_wp2_with (go_at_call 31; refine (hcon _).mono ?_; rintro e w' ⟨rfl, rfl⟩)
                go_roundg (n - (i + 1))
                case measure => omega
                case rel => exact ⟨i + 1, by omega, rfl, by go_num, rfl, hB.alloc hB.size _⟩
            · -- no column is left unserved
              obtain rfl : i = n := by omega
              clear hsv'
              have hnil38 := fun (w : World) (n c : Nat) => run_neq_slice_nil_any (P := Try.prog) w 38 3 none n c 0 0 Try.underlying38
              go_wp2_with fail
              obtain ⟨i0, hi0, hz0, hz1, hz2⟩ := info_parts Try.info5
              clear hnil38
              go_loopg [12, 69] t (fun g s12 s69 wx => ∃ u : Nat, u ≤ t ∧ g = t - u ∧ s69 = .int .i64 u ∧ PreIn w0 wx s12 (preL c κ u) u)
              case atStart => exact ⟨0, Nat.zero_le _, rfl, rfl, World.ownsRow_nil _ _ _ _, hB, fun _ => rfl, fun h => absurd h (Nat.lt_irrefl _)⟩
              case round =>
                obtain ⟨u, hu, rfl, rfl, hPI⟩ := hrel
                have hPI2 := hPI
                obtain ⟨hown, hBu, hn0, hn1⟩ := hPI2
                clear hB
                by_cases hut : u < t
                · obtain ⟨A, A', C, C', hc⟩ := hS0.below hBu
                  have hkn := hκ u (by omega)
                  obtain ⟨q0, _, _, _, _, k0, _⟩ := hc (κ u) hkn
                  have q5 := Below.at hBu (lt_of_cell (hk0 u (by omega))) (hk0 u (by omega))
                  obtain ⟨l, hl⟩ := pt_some (HE.out.1 u hut)
                  have hlp := hpl (u + 1) (by omega)
                  have hsuc : preL c κ (u + 1) = preL c κ u ++ l := by simp [preL, hl, getO]
                  have HS : Hid (preL c κ (u + 1) = preL c κ u ++ l) := hsuc
                  rw [hsuc] at hlp
                  rw [hl] at q0 k0
                  obtain ⟨ka, kl, kb⟩ := k0
                  have hgood := ((hg (κ u) hkn).1 l hl)
                  obtain ⟨b, off, hA, hcell⟩ := kb hgood.1
                  have hbts : Bts wr (some ⟨b, off, none⟩) l := by rw [← hA]; exact kb
                  rw [hA] at q0
                  have hutz : (u : Int) < (t : Int) := by omega
                  have hkz : (κ u : Int) < (i : Int) := by omega
                  have hsz := hBu.size
                  simp only [lenO, List.length_append] at q0 hlp
                  have hlt' := hown.lt
                  generalize hpu : preL c κ u = pu at *
                  have HPU : Hid (preL c κ u = pu) := hpu
                  clear hc hl kb ka kl hA hsuc hpu hcell
                  go_wp2_with (at_builtin; refine wpList_append_own _ rfl (.tmp 73) (.tmp 78) 22 rfl w0.heap.size 5 i0 (.int .u8 0) 1 1 Try.underlying22 hi0 hz0 hz1 hz2 rfl (by decide) _ pu.length (cb pu) rfl hown ⟨b, off, none⟩ l.length _ (cb l) rfl (by rw [cb_len, Nat.mul_one]) (bts_news hbts _ rfl) (cb_one l) (by unfold maxLen; omega) (by omega) hsz ?_; intro v' w1 hown' hgrow hiff)
                  go_roundg (t - (u + 1))
                  case measure => omega
                  case rel =>
                    refine ⟨u + 1, by omega, rfl, by go_num, ?_⟩
                    rw [HS.out]
                    have ho2 : w1.ownsRow w0.heap.size 5 1 v' (pu ++ l).length (cb (pu ++ l)) := by rw [List.length_append, cb_app]; exact hown'
                    refine ⟨ho2, hBu.grown hgrow hsz (fun k hk => (hlt' k hk).1), fun h => absurd h (by omega), fun _ => ?_⟩
                    rcases ho2.2 with ⟨hv, h0⟩ | ⟨g, cap, cur, hv, _⟩
                    · exfalso
                      have := hgood.1
                      rw [List.length_append] at h0
                      omega
                    · exact ⟨g, cap, hv⟩
                · obtain rfl : u = t := by omega
                  have hlp := hpl u ht
                  have hlb := hpb u ht
                  obtain ⟨ap, cp, hv12, hcolp⟩ := pre_col hPI
                  subst hv12
                  have hpb' : ∀ x ∈ getO (preO c κ u), x < 256 := fun x hx => by
                    by_cases hu0 : u = 0
                    · simp [preO, hu0, getO] at hx
                    · simp only [preO, hu0, if_false, getO] at hx
                      exact hlb x hx
                  have hpl' : lenO (preO c κ u) ≤ 2097152 := by
                    by_cases hu0 : u = 0
                    · simp [preO, hu0, lenO]
                    · simp only [preO, hu0, if_false, lenO]; omega
                  have hpz : (preO c κ u).isSome = true → 0 < lenO (preO c κ u) := fun h => by
                    by_cases hu0 : u = 0
                    · simp [preO, hu0] at h
                    · obtain ⟨l, hl⟩ := pt_some (HE.out.1 (u - 1) (by omega))
                      have hgl := (hg (κ (u - 1)) (hκ _ (by omega))).1 l hl
                      have hs : preL c κ u = preL c κ (u - 1) ++ l := by
                        obtain ⟨u', rfl⟩ : ∃ u', u = u' + 1 := ⟨u - 1, by omega⟩
                        simp only [Nat.add_sub_cancel] at hl
                        simp [preL, hl, getO]
                      simp only [preO, hu0, if_false, lenO, hs, List.length_append]
                      omega
                  have hrow0 : w0.rowIs w.heap.size 27 4 (rng none none) := by
                    rw [hw0]
                    exact World.rowIs_alloc w #[.pointer none, .pointer none, .bool false, .int .i64 0] 27 _ (fun i hi => by
                      match i, hi with
                      | 0, _ => rfl
                      | 1, _ => rfl
                      | 2, _ => rfl
                      | 3, _ => rfl)
                  have hrow := Below.row hBu hrow0.lt hrow0
                  have hbw : Below w.heap.size w wr := hb0.trans (hBu.mono hb0.size)
                  clear hn0 hn1 hPI hown hlp hlb hrow0 hw0 hb0
                  by_cases huM : u < M
                  · obtain ⟨A, A', C, C', hc⟩ := hS0.below hBu
                    have hkn := hκ u huM
                    obtain ⟨q0, q1, q2, q3, q4, k0, k1⟩ := hc (κ u) hkn
                    have q5 := Below.at hBu (lt_of_cell (hk0 u huM)) (hk0 u huM)
                    have huz : (u : Int) < (M : Int) := by omega
                    have hkz : (κ u : Int) < (i : Int) := by omega
                    obtain ⟨g1, g2⟩ := hg (κ u) hkn
                    obtain ⟨l1, l2⟩ := hbl (κ u) hkn
                    have hal := fun X => (Below.refl wr.heap.size wr).alloc (Nat.le_refl _) X
                    have hkeys := fun X => keys_any (A (κ u)) (A' (κ u)) ap (lenO (c.lo (κ u))) (C (κ u)) (lenO (c.hi (κ u))) (C' (κ u)) (lenO (preO c κ u)) cp (c.lo (κ u)) (c.hi (κ u)) (preO c κ u) (c.le (κ u)) (c.he (κ u)) (c.nr (κ u)) (wr.alloc X) (k0.below (hal X)) (k1.below (hal X)) (hcolp.below (hal X))
                      l1 l2 hpl' (good_len g1) (good_len g2) hpz (at8_lt (fun x hx => by rcases List.mem_append.1 hx with h | h; exact hpb' x h; exact good_bytes g1 x h)) (at8_lt (fun x hx => by rcases List.mem_append.1 hx with h | h; exact hpb' x h; exact good_bytes g2 x h))
                    have q0' := fun X => Below.at (hal X) (lt_of_cell q0) q0
                    have q1' := fun X => Below.at (hal X) (lt_of_cell q1) q1
                    have q2' := fun X => Below.at (hal X) (lt_of_cell q2) q2
                    have q3' := fun X => Below.at (hal X) (lt_of_cell q3) q3
                    have q4' := fun X => Below.at (hal X) (lt_of_cell q4) q4
                    have q5' := fun X => Below.at (hal X) (lt_of_cell q5) q5
                    clear hc k0 k1 hS0 hk0 hg hκ hcolp hpb' g1 g2 hpl hpb hbl hpz hpl' q0 q1 q2 q3 q4 q5 hal
                    go_wp2_with fail
                    have NX1 : nxO c.lo κ M u = c.lo (κ u) := by simp [nxO, huM]
                    have NX2 : nxB c.le κ M u = c.le (κ u) := by simp [nxB, huM]
                    have NX3 : nxO c.hi κ M u = c.hi (κ u) := by simp [nxO, huM]
                    have NX4 : nxB c.he κ M u = c.he (κ u) := by simp [nxB, huM]
                    refine (hkeys _).mono ?_
                    rintro e w6 ⟨hB6, hkp⟩
                    clear hkeys
                    have hrow6 : w6.rowIs w.heap.size 27 4 (rng none none) := Below.row hB6 (by have := hrow.lt; simp; omega) (hrow.alloc _)
                    have hB7 : Below w.heap.size w w6 := (hbw.alloc hbw.size _).trans (hB6.mono (by have := hbw.size; simp; omega))
                    have hrl := hrow6.lt
                    have t0 : w6.cell? ⟨w.heap.size, 0, none⟩ = some (.pointer none) := hrow6.cell (i := 0) (by omega)
                    have t1 : w6.cell? ⟨w.heap.size, 1, none⟩ = some (.pointer none) := hrow6.cell (i := 1) (by omega)
                    have t2 : w6.cell? ⟨w.heap.size, 2, none⟩ = some (.bool false) := hrow6.cell (i := 2) (by omega)
                    have t3 : w6.cell? ⟨w.heap.size, 3, none⟩ = some (.int .i64 0) := hrow6.cell (i := 3) (by omega)
                    have tf0 := hrow6.frozen 0
                    have tf1 := hrow6.frozen 1
                    have tf2 := hrow6.frozen 2
                    have tf3 := hrow6.frozen 3
                    clear hB6 hrow hbw hBu
                    cases hlo : lowF (c.lo (κ u)) (c.le (κ u)) (preO c κ u) with
                    | none =>
                      rw [hlo] at hkp
                      obtain rfl := hkp
                      have HLO : Hid (lowF (c.lo (κ u)) (c.le (κ u)) (preO c κ u) = none) := hlo
                      clear hlo
                      go_wp2_with fail
                      refine bodyPost_ret (v := .tuple #[.agg #[.pointer none, .pointer none, .bool false, .int .i64 0], .bool false, .slice none 0 0]) (by simp [results, Try.results27, go_sem, t0, t1, t2, t3, hrl]) rfl ?_
                      refine ⟨u, ⟨ht, HE.out.1, HE.out.2⟩, ((((hB7.setCell (by simp) _).setCell (by simp) _).setCell (by simp) _).setCell (by simp) _).alloc (by have := hB7.size; simp; omega) _, ?_⟩
                      rw [NX1, NX2, NX3, NX4, HLO.out]
                    | some o =>
                      rw [hlo] at hkp
                      obtain ⟨p1, p2, rfl, hb1, hb2⟩ := hkp
                      have HLO : Hid (lowF (c.lo (κ u)) (c.le (κ u)) (preO c κ u) = some o) := hlo
                      clear hlo
                      go_wp2_with fail
                      refine bodyPost_ret (v := .tuple #[.agg #[.pointer p1, .pointer p2, .bool false, .int .i64 0], .bool true, .slice none 0 0]) (by simp [results, Try.results27, go_sem, t0, t1, t2, t3, hrl]) rfl ?_
                      refine ⟨u, ⟨ht, HE.out.1, HE.out.2⟩, ((((hB7.setCell (by simp) _).setCell (by simp) _).setCell (by simp) _).setCell (by simp) _).alloc (by have := hB7.size; simp; omega) _, ?_⟩
                      rw [NX1, NX2, NX3, NX4, HLO.out]
                      have hgr := grownBy_set (grownBy_set (grownBy_set (grownBy_set (World.grownBy.refl w6 (some w.heap.size)) 0 (.pointer p1)) 1 (.pointer p2)) 2 (.bool false)) 3 (.int .i64 0)
                      exact ⟨p1, p2, rfl, (hb1.grown hrow6 (rng_plain _ _ _) hgr).below ((Below.refl _ _).alloc (Nat.le_refl _) _), (hb2.grown hrow6 (rng_plain _ _ _) hgr).below ((Below.refl _ _).alloc (Nat.le_refl _) _)⟩
                  · have huz : ¬ (u : Int) < (M : Int) := by omega
                    have hal := fun X => (Below.refl wr.heap.size wr).alloc (Nat.le_refl _) X
                    have hkeys := fun X => keys_any none none ap 0 0 0 0 (lenO (preO c κ u)) cp none none (preO c κ u) false false false (wr.alloc X) ⟨rfl, rfl⟩ ⟨rfl, rfl⟩ (hcolp.below (hal X))
                      (by omega) (by omega) hpl' (fun h => Bool.noConfusion h) (fun h => Bool.noConfusion h) hpz (at8_lt (fun x hx => by rcases List.mem_append.1 hx with h | h; exact hpb' x h; cases h)) (at8_lt (fun x hx => by rcases List.mem_append.1 hx with h | h; exact hpb' x h; cases h))
                    clear hS0 hk0 hg hκ hcolp hpb' hpl hpb hbl hpz hpl' hal
                    go_wp2_with fail
                    have NX1 : nxO c.lo κ M u = none := by simp [nxO, huM]
                    have NX2 : nxB c.le κ M u = false := by simp [nxB, huM]
                    have NX3 : nxO c.hi κ M u = none := by simp [nxO, huM]
                    have NX4 : nxB c.he κ M u = false := by simp [nxB, huM]
                    refine (hkeys _).mono ?_
                    rintro e w6 ⟨hB6, hkp⟩
                    clear hkeys
                    have hrow6 : w6.rowIs w.heap.size 27 4 (rng none none) := Below.row hB6 (by have := hrow.lt; simp; omega) (hrow.alloc _)
                    have hB7 : Below w.heap.size w w6 := (hbw.alloc hbw.size _).trans (hB6.mono (by have := hbw.size; simp; omega))
                    have hrl := hrow6.lt
                    have t0 : w6.cell? ⟨w.heap.size, 0, none⟩ = some (.pointer none) := hrow6.cell (i := 0) (by omega)
                    have t1 : w6.cell? ⟨w.heap.size, 1, none⟩ = some (.pointer none) := hrow6.cell (i := 1) (by omega)
                    have t2 : w6.cell? ⟨w.heap.size, 2, none⟩ = some (.bool false) := hrow6.cell (i := 2) (by omega)
                    have t3 : w6.cell? ⟨w.heap.size, 3, none⟩ = some (.int .i64 0) := hrow6.cell (i := 3) (by omega)
                    have tf0 := hrow6.frozen 0
                    have tf1 := hrow6.frozen 1
                    have tf2 := hrow6.frozen 2
                    have tf3 := hrow6.frozen 3
                    clear hB6 hrow hbw hBu
                    cases hlo : lowF (none) (false) (preO c κ u) with
                    | none =>
                      rw [hlo] at hkp
                      obtain rfl := hkp
                      have HLO : Hid (lowF (none) (false) (preO c κ u) = none) := hlo
                      clear hlo
                      go_wp2_with fail
                      refine bodyPost_ret (v := .tuple #[.agg #[.pointer none, .pointer none, .bool false, .int .i64 0], .bool false, .slice none 0 0]) (by simp [results, Try.results27, go_sem, t0, t1, t2, t3, hrl]) rfl ?_
                      refine ⟨u, ⟨ht, HE.out.1, HE.out.2⟩, ((((hB7.setCell (by simp) _).setCell (by simp) _).setCell (by simp) _).setCell (by simp) _).alloc (by have := hB7.size; simp; omega) _, ?_⟩
                      rw [NX1, NX2, NX3, NX4, HLO.out]
                    | some o =>
                      rw [hlo] at hkp
                      obtain ⟨p1, p2, rfl, hb1, hb2⟩ := hkp
                      have HLO : Hid (lowF (none) (false) (preO c κ u) = some o) := hlo
                      clear hlo
                      go_wp2_with fail
                      refine bodyPost_ret (v := .tuple #[.agg #[.pointer p1, .pointer p2, .bool false, .int .i64 0], .bool true, .slice none 0 0]) (by simp [results, Try.results27, go_sem, t0, t1, t2, t3, hrl]) rfl ?_
                      refine ⟨u, ⟨ht, HE.out.1, HE.out.2⟩, ((((hB7.setCell (by simp) _).setCell (by simp) _).setCell (by simp) _).setCell (by simp) _).alloc (by have := hB7.size; simp; omega) _, ?_⟩
                      rw [NX1, NX2, NX3, NX4, HLO.out]
                      have hgr := grownBy_set (grownBy_set (grownBy_set (grownBy_set (World.grownBy.refl w6 (some w.heap.size)) 0 (.pointer p1)) 1 (.pointer p2)) 2 (.bool false)) 3 (.int .i64 0)
                      exact ⟨p1, p2, rfl, (hb1.grown hrow6 (rng_plain _ _ _) hgr).below ((Below.refl _ _).alloc (Nat.le_refl _) _), (hb2.grown hrow6 (rng_plain _ _ _) hgr).below ((Below.refl _ _).alloc (Nat.le_refl _) _)⟩
      · have hlt : t < M := by
          by_cases h : t < M
          · exact h
          · have := HV.out; rw [decide_eq_false h] at this; exact Bool.noConfusion this
        have HPT : Hid (c.pt (κ t) = true) := by
          have := HV.out
          rw [decide_eq_true hlt] at this
          exact (by simpa using this.symm : c.pt (κ t) = true)
        clear hk0 hS0 hg hκ
        go_wp2_with fail
        go_roundg (M - (t + 1))
        case measure => omega
        case rel => exact ⟨t + 1, by omega, rfl, by go_num, hBc, fun j hj => by
          by_cases e : j = t
          · subst e; exact HPT.out
          · exact HP.out j (by omega)⟩
end Go.Proofs.Qxb6000023a
