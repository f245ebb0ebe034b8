import Derived.Test.Qxb6000023aKeysMem
import Derived.Deep.DeepCutAuto
import Derived.Deep.CutBlock
namespace Go.Proofs.Qxb6000023a
open Go.RowKit

def getO : Option (List Nat) → List Nat
  | none => []
  | some l => l

/-- keys' lower bound: 'none' where there is none to give (false is returned), else the bound or no bound. -/
def lowF (o : Option (List Nat)) (le : Bool) (op : Option (List Nat)) : Option (Option (List Nat)) :=
  if o.isSome && le then (match aft (getO op ++ getO o) with | none => none | some q => some (some q))
  else if o.isSome || op.isSome then some (some (getO op ++ getO o)) else some none
def upF (o : Option (List Nat)) (he : Bool) (op : Option (List Nat)) : Option (List Nat) :=
  if o.isSome && he then some (getO op ++ getO o)
  else if o.isSome || op.isSome then aft (getO op ++ getO o) else none

def KeysPost (lo : Option (Option (List Nat))) (up : Option (List Nat)) (w : World) (e : Ending) (w' : World) : Prop :=
  Below w.heap.size w w' ∧ match lo with
    | none => e = .returned (.tuple #[.agg #[.pointer none, .pointer none, .bool false, .int .i64 0], .bool false])
    | some o => ∃ p1 p2, e = .returned (.tuple #[.agg #[.pointer p1, .pointer p2, .bool false, .int .i64 0], .bool true]) ∧ Bd w' p1 false o ∧ Bd w' p2 true up

theorem colBts {w : World} {a : Option Addr} {n : Nat} {o : Option (List Nat)} (h : Col w a n o) : n = (getO o).length ∧ Bts w a (getO o) ∧ (a = none → getO o = []) ∧ a.isNone = !o.isSome := by
  cases o with
  | none => exact ⟨h.2, fun hl => absurd hl (Nat.lt_irrefl _), fun _ => rfl, by rw [h.1]; rfl⟩
  | some l => exact ⟨h.2.1, h.2.2, fun e => by rw [e] at h; exact Bool.noConfusion h.1, h.1⟩

set_option maxRecDepth 100000 in
set_option maxHeartbeats 4000000 in
theorem keys_any (a1 a2 ap : Option Addr) (n1 c1 n2 c2 np cp : Nat) (o1 o2 op : Option (List Nat)) (le he nr : Bool) (w : World) (h1 : Col w a1 n1 o1) (h2 : Col w a2 n2 o2) (hp : Col w ap np op)
    (b1 : n1 ≤ 1048576) (b2 : n2 ≤ 1048576) (bp : np ≤ 2097152) (z1 : o1.isSome = true → 0 < n1) (z2 : o2.isSome = true → 0 < n2) (zp : op.isSome = true → 0 < np)
    (y1 : ∀ i, at8 (getO op ++ getO o1) i < 256) (y2 : ∀ i, at8 (getO op ++ getO o2) i < 256) :
    Calls Try.prog 25 #[.agg #[.slice a1 n1 c1, .slice a2 n2 c2, .bool le, .bool he, .bool nr], .slice ap np cp] w (KeysPost (lowF o1 le op) (upF o2 he op) w) := by
  have hnil := nil22
  obtain ⟨rfl, k1, m1, s1⟩ := colBts h1
  obtain ⟨rfl, k2, m2, s2⟩ := colBts h2
  obtain ⟨rfl, kp, mp, sp⟩ := colBts hp
  have hK0 := kb_start w (.slice a1 (getO o1).length c1) (.slice a2 (getO o2).length c2) le he nr
  go_enter Try.func25, Try.ntmps25
  go_upto_block 0 with fail
  rw [show w.heap.size + 1 + 1 = w.heap.size + 2 from rfl]
  obtain ⟨q1, hq1⟩ : ∃ q, q = getO op ++ getO o1 := ⟨_, rfl⟩
  obtain ⟨q2, hq2⟩ : ∃ q, q = getO op ++ getO o2 := ⟨_, rfl⟩
  have HQ1 : Hid (q1 = getO op ++ getO o1) := hq1
  have HQ2 : Hid (q2 = getO op ++ getO o2) := hq2
  have L1 : q1.length = (getO op).length + (getO o1).length := by rw [hq1]; simp
  have L2 : q2.length = (getO op).length + (getO o2).length := by rw [hq2]; simp
  rw [← hq1] at y1
  rw [← hq2] at y2
  generalize hw3 : ((w.alloc (Obj.cells #[Value.slice a1 (getO o1).length c1, Value.slice a2 (getO o2).length c2, Value.bool le, Value.bool he, Value.bool nr] 50)).alloc (Obj.cells #[Value.pointer none, Value.pointer none, Value.bool false, Value.int IntKind.i64 0] 27)).alloc (Obj.cells #[Value.pointer none, Value.pointer none, Value.bool false, Value.int IntKind.i64 0] 27) = w3 at hK0 ⊢
  clear hw3
  go_cut [11] (fun _ wc => ∃ p1 lo, lowF o1 le op = some lo ∧ KB w wc (.slice a1 (getO o1).length c1) (.slice a2 (getO o2).length c2) le he nr p1 none ∧ Bd wc p1 false lo)
  case first =>
    obtain ⟨f0, f1, f2, f3⟩ := hK0.spCells
    have hcat : 0 < (getO op).length + (getO o1).length → _ := fun hpos => cat_at w3 ap a1 (getO op) (getO o1) cp c1 (kp.below hK0.below) (k1.below hK0.below) mp m1 hpos (by omega) (by omega)
    rw [← hq1] at hcat
    clear hq1 hq2 k2 m2 s2 z2 y2 L2 HQ2
    cases ho1 : o1.isSome
    · cases hop : op.isSome
      · -- neither: no bound
        rw [ho1] at s1
        rw [hop] at sp
        simp only [Bool.not_false] at s1 sp
        clear hcat
        go_wp2_with fail
        go_meet
        exact ⟨none, none, by simp [lowF, ho1, hop], hK0, rfl⟩
      · -- the prefix alone
        rw [ho1] at s1
        rw [hop] at sp
        simp only [Bool.not_false, Bool.not_true] at s1 sp
        have hcat1 := hcat (by have := zp hop; omega)
        clear hcat
        have HL : Hid (lowF o1 le op = some (some q1)) := by show lowF o1 le op = _; rw [HQ1.out]; simp [lowF, ho1, hop]
        clear L1 y1
        go_wp2_with fail
        refine hcat1.mono ?_
        rintro e w4 ⟨g, cap, rfl, hcap, hcap2, hbt, hB4⟩
        clear hcat1
        have hK4 := hK0.next hB4
        have hbd := bd_new (c := cap) false hbt
        have hK5 := hK4.alloc (.cells #[.slice (some ⟨g, 0, none⟩) q1.length cap, .bool false] 53)
        have hK6 := hK5.setLower (some ⟨w4.heap.size, 0, none⟩)
        have hbd6 := hbd.set_row hK5.r (rng_plain _ _ _) 0 (.pointer (some ⟨w4.heap.size, 0, none⟩))
        have r0 := hK5.rCells.1
        have rf0 := hK5.rCells.2.2.2.2 0
        clear hK4 hK5 hbd hbt hK0
        go_wp2_with fail
        go_meet
        exact ⟨_, _, HL.out, hK6, hbd6⟩
    · cases le
      · -- the prefix and lo
        rw [ho1] at s1
        simp only [Bool.not_true] at s1
        have hcat1 := hcat (by have := z1 ho1; omega)
        clear hcat
        have HL : Hid (lowF o1 false op = some (some q1)) := by show lowF o1 false op = _; rw [HQ1.out]; simp [lowF, ho1]
        clear L1 y1
        go_wp2_with fail
        refine hcat1.mono ?_
        rintro e w4 ⟨g, cap, rfl, hcap, hcap2, hbt, hB4⟩
        clear hcat1
        have hK4 := hK0.next hB4
        have hbd := bd_new (c := cap) false hbt
        have hK5 := hK4.alloc (.cells #[.slice (some ⟨g, 0, none⟩) q1.length cap, .bool false] 53)
        have hK6 := hK5.setLower (some ⟨w4.heap.size, 0, none⟩)
        have hbd6 := hbd.set_row hK5.r (rng_plain _ _ _) 0 (.pointer (some ⟨w4.heap.size, 0, none⟩))
        have r0 := hK5.rCells.1
        have rf0 := hK5.rCells.2.2.2.2 0
        clear hK4 hK5 hbd hbt hK0
        go_wp2_with fail
        go_meet
        exact ⟨_, _, HL.out, hK6, hbd6⟩
      · -- above all that begin with the prefix and lo
        rw [ho1] at s1
        simp only [Bool.not_true] at s1
        have hpos : 0 < q1.length := by have := z1 ho1; omega
        have hcat1 := hcat (by omega)
        have hq8 : q1.length ≤ 16777216 := by omega
        clear hcat
        have HL : Hid (lowF o1 true op = (match aft q1 with | none => none | some q => some (some q))) := by show lowF o1 true op = _; rw [HQ1.out]; simp [lowF, ho1]
        clear L1
        go_wp2_with fail
        refine hcat1.mono ?_
        rintro e w4 ⟨g, cap, rfl, hcap, hcap2, hbt, hB4⟩
        clear hcat1
        have hK4 := hK0.next hB4
        have haft := after_any g 0 cap q1 w4 hbt hpos hq8 hcap hcap2 y1
        clear hK0 y1 hbt hB4
        go_wp2_with fail
        refine haft.mono ?_
        rintro e w5 ⟨a', c', rfl, hcol, hB5⟩
        clear haft
        have hK5 := hK4.next hB5
        clear hK4 hB5
        cases haq : aft q1 with
        | none =>
          obtain ⟨t0, t1, t2, t3, tf⟩ := hK5.resCells
          have tf0 := tf 0
          have tf1 := tf 1
          have tf2 := tf 2
          have tf3 := tf 3
          rw [haq] at HL hcol
          simp only [Option.isSome_none, lenO]
          clear haq tf
          go_wp2_with fail
          refine bodyPost_ret (v := .tuple #[.agg #[.pointer none, .pointer none, .bool false, .int .i64 0], .bool false]) (by simp [results, Try.results25, go_sem, t0, t1, t2, t3]) rfl ?_
          refine ⟨(((hK5.below.setCell (by simp) _).setCell (by simp) _).setCell (by simp) _).setCell (by simp) _, ?_⟩
          rw [HL.out]
        | some q =>
          rw [haq] at HL hcol
          simp only [Option.isSome_some, lenO]
          clear haq
          have hbd := bd_new (c := c') false hcol.2.2
          have hK6 := hK5.alloc (.cells #[.slice a' q.length c', .bool false] 53)
          have hK7 := hK6.setLower (some ⟨w5.heap.size, 0, none⟩)
          have hbd7 := hbd.set_row hK6.r (rng_plain _ _ _) 0 (.pointer (some ⟨w5.heap.size, 0, none⟩))
          have r0 := hK6.rCells.1
          have rf0 := hK6.rCells.2.2.2.2 0
          clear hK5 hK6 hbd hcol
          go_wp2_with fail
          go_meet
          exact ⟨_, _, HL.out, hK7, hbd7⟩
  case rest =>
    obtain ⟨p1, lo, hlo, hKc, hbdc⟩ := hcut
    have HLO : Hid (lowF o1 le op = some lo) := hlo
    clear hlo hK0 hq1 k1 m1 s1 z1 y1 L1 HQ1
    go_upto_block 1 with fail
    go_cut [51] (fun _ wd => ∃ p2, KB w wd (.slice a1 (getO o1).length c1) (.slice a2 (getO o2).length c2) le he nr p1 p2 ∧ Bd wd p1 false lo ∧ Bd wd p2 true (upF o2 he op))
    case first =>
      obtain ⟨f0, f1, f2, f3⟩ := hKc.spCells
      have hcat : 0 < (getO op).length + (getO o2).length → _ := fun hpos => cat_at wc ap a2 (getO op) (getO o2) cp c2 (kp.below hKc.below) (k2.below hKc.below) mp m2 hpos (by omega) (by omega)
      rw [← hq2] at hcat
      clear hq2
      cases ho2 : o2.isSome
      · cases hop : op.isSome
        · rw [ho2] at s2
          rw [hop] at sp
          simp only [Bool.not_false] at s2 sp
          have HU : Hid (upF o2 he op = none) := by show upF o2 he op = _; simp [upF, ho2, hop]
          clear hcat
          go_wp2_with fail
          go_meet
          exact ⟨none, hKc, hbdc, by rw [HU.out]; rfl⟩
        · rw [ho2] at s2
          rw [hop] at sp
          simp only [Bool.not_false, Bool.not_true] at s2 sp
          have hpos : 0 < q2.length := by have := zp hop; omega
          have HU : Hid (upF o2 he op = aft q2) := by show upF o2 he op = _; rw [HQ2.out]; simp [upF, ho2, hop]
          have hcat1 := hcat (by omega)
          have hq8 : q2.length ≤ 16777216 := by omega
          clear hcat L2
          go_wp2_with fail
          refine hcat1.mono ?_
          rintro e w4 ⟨g, cap, rfl, hcap, hcap2, hbt, hB4⟩
          clear hcat1
          have hK4 := hKc.next hB4
          have hb4 := hbdc.below hB4
          have haft := after_any g 0 cap q2 w4 hbt hpos hq8 hcap hcap2 y2
          clear hKc y2 hbt hB4 hbdc
          go_wp2_with fail
          refine haft.mono ?_
          rintro e w5 ⟨a', c', rfl, hcol, hB5⟩
          clear haft
          have hK5 := hK4.next hB5
          have hb5 := hb4.below hB5
          clear hK4 hB5 hb4
          cases haq : aft q2 with
          | none =>
            rw [haq] at HU
            simp only [Option.isSome_none, lenO]
            clear haq hcol
            go_wp2_with fail
            go_meet
            exact ⟨none, hK5, hb5, by rw [HU.out]; rfl⟩
          | some q =>
            rw [haq] at HU hcol
            simp only [Option.isSome_some, lenO]
            clear haq
            have hbd := bd_new (c := c') true hcol.2.2
            have hK6 := hK5.alloc (.cells #[.slice a' q.length c', .bool true] 53)
            have hb6 := hb5.below ((Below.refl _ _).alloc (Nat.le_refl _) (.cells #[.slice a' q.length c', .bool true] 53))
            have hK7 := hK6.setUpper (some ⟨w5.heap.size, 0, none⟩)
            have hbd7 := hbd.set_row hK6.r (rng_plain _ _ _) 1 (.pointer (some ⟨w5.heap.size, 0, none⟩))
            have hb7 := hb6.set_row hK6.r (rng_plain _ _ _) 1 (.pointer (some ⟨w5.heap.size, 0, none⟩))
            have r0 := hK6.rCells.2.1
            have rf0 := hK6.rCells.2.2.2.2 1
            clear hK5 hK6 hbd hcol hb5 hb6
            go_wp2_with fail
            go_meet
            exact ⟨_, hK7, hb7, by rw [HU.out]; exact hbd7⟩
      · cases he
        · rw [ho2] at s2
          simp only [Bool.not_true] at s2
          have hpos : 0 < q2.length := by have := z2 ho2; omega
          have HU : Hid (upF o2 false op = aft q2) := by show upF o2 false op = _; rw [HQ2.out]; simp [upF, ho2]
          have hcat1 := hcat (by omega)
          have hq8 : q2.length ≤ 16777216 := by omega
          clear hcat L2
          go_wp2_with fail
          refine hcat1.mono ?_
          rintro e w4 ⟨g, cap, rfl, hcap, hcap2, hbt, hB4⟩
          clear hcat1
          have hK4 := hKc.next hB4
          have hb4 := hbdc.below hB4
          have haft := after_any g 0 cap q2 w4 hbt hpos hq8 hcap hcap2 y2
          clear hKc y2 hbt hB4 hbdc
          go_wp2_with fail
          refine haft.mono ?_
          rintro e w5 ⟨a', c', rfl, hcol, hB5⟩
          clear haft
          have hK5 := hK4.next hB5
          have hb5 := hb4.below hB5
          clear hK4 hB5 hb4
          cases haq : aft q2 with
          | none =>
            rw [haq] at HU
            simp only [Option.isSome_none, lenO]
            clear haq hcol
            go_wp2_with fail
            go_meet
            exact ⟨none, hK5, hb5, by rw [HU.out]; rfl⟩
          | some q =>
            rw [haq] at HU hcol
            simp only [Option.isSome_some, lenO]
            clear haq
            have hbd := bd_new (c := c') true hcol.2.2
            have hK6 := hK5.alloc (.cells #[.slice a' q.length c', .bool true] 53)
            have hb6 := hb5.below ((Below.refl _ _).alloc (Nat.le_refl _) (.cells #[.slice a' q.length c', .bool true] 53))
            have hK7 := hK6.setUpper (some ⟨w5.heap.size, 0, none⟩)
            have hbd7 := hbd.set_row hK6.r (rng_plain _ _ _) 1 (.pointer (some ⟨w5.heap.size, 0, none⟩))
            have hb7 := hb6.set_row hK6.r (rng_plain _ _ _) 1 (.pointer (some ⟨w5.heap.size, 0, none⟩))
            have r0 := hK6.rCells.2.1
            have rf0 := hK6.rCells.2.2.2.2 1
            clear hK5 hK6 hbd hcol hb5 hb6
            go_wp2_with fail
            go_meet
            exact ⟨_, hK7, hb7, by rw [HU.out]; exact hbd7⟩
        · rw [ho2] at s2
          simp only [Bool.not_true] at s2
          have hpos : 0 < q2.length := by have := z2 ho2; omega
          have HU : Hid (upF o2 true op = some q2) := by show upF o2 true op = _; rw [HQ2.out]; simp [upF, ho2]
          have hcat1 := hcat (by omega)
          clear hcat L2 y2
          go_wp2_with fail
          refine hcat1.mono ?_
          rintro e w4 ⟨g, cap, rfl, hcap, hcap2, hbt, hB4⟩
          clear hcat1
          have hK4 := hKc.next hB4
          have hb4 := hbdc.below hB4
          have hbd := bd_new (c := cap) true hbt
          have hK5 := hK4.alloc (.cells #[.slice (some ⟨g, 0, none⟩) q2.length cap, .bool true] 53)
          have hb5 := hb4.below ((Below.refl _ _).alloc (Nat.le_refl _) (.cells #[.slice (some ⟨g, 0, none⟩) q2.length cap, .bool true] 53))
          have hK6 := hK5.setUpper (some ⟨w4.heap.size, 0, none⟩)
          have hbd6 := hbd.set_row hK5.r (rng_plain _ _ _) 1 (.pointer (some ⟨w4.heap.size, 0, none⟩))
          have hb6 := hb5.set_row hK5.r (rng_plain _ _ _) 1 (.pointer (some ⟨w4.heap.size, 0, none⟩))
          have r0 := hK5.rCells.2.1
          have rf0 := hK5.rCells.2.2.2.2 1
          clear hK4 hK5 hbd hbt hKc hb4 hb5 hbdc
          go_wp2_with fail
          go_meet
          exact ⟨_, hK6, hb6, by rw [HU.out]; exact hbd6⟩
    case rest =>
      obtain ⟨p2, hKd, hb1, hb2⟩ := hcut
      obtain ⟨r0, r1, r2, r3, _⟩ := hKd.rCells
      obtain ⟨t0, t1, t2, t3, tf⟩ := hKd.resCells
      have tf0 := tf 0
      have tf1 := tf 1
      have tf2 := tf 2
      have tf3 := tf 3
      clear tf hKc hbdc
      have hrow := hKd.res
      have hbel := hKd.below
      clear hKd
      go_wp2_with fail
      refine bodyPost_ret (v := .tuple #[.agg #[.pointer p1, .pointer p2, .bool false, .int .i64 0], .bool true]) (by simp [results, Try.results25, go_sem, t0, t1, t2, t3]) rfl ?_
      refine ⟨(((hbel.setCell (by simp) _).setCell (by simp) _).setCell (by simp) _).setCell (by simp) _, ?_⟩
      rw [HLO.out]
      have hg := grownBy_set (grownBy_set (grownBy_set (grownBy_set (World.grownBy.refl wc (some (w.heap.size + 1))) 0 (.pointer p1)) 1 (.pointer p2)) 2 (.bool false)) 3 (.int .i64 0)
      exact ⟨p1, p2, rfl, hb1.grown hrow (rng_plain _ _ _) hg, hb2.grown hrow (rng_plain _ _ _) hg⟩
end Go.Proofs.Qxb6000023a
