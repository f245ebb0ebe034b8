import Derived.Test.Qxb6000023aTests
namespace Go.Proofs.Qxb6000023a
open Go.RowKit

/-- One end of a Range: nil, or a Bound in memory. -/
def Bd (w : World) (p : Option Addr) (e : Bool) : Option (List Nat) → Prop
  | none => p = none
  | some l => ∃ b a c, p = some ⟨b, 0, none⟩ ∧ w.cell? ⟨b, 0, none⟩ = some (.slice a l.length c) ∧ w.cell? ⟨b, 1, none⟩ = some (.bool e) ∧ Bts w a l

theorem Bd.below {w w' : World} {p : Option Addr} {e : Bool} {o : Option (List Nat)} (h : Bd w p e o) (hb : Below w.heap.size w w') : Bd w' p e o := by
  cases o with
  | none => exact h
  | some l =>
    obtain ⟨b, a, c, h1, h2, h3, h4⟩ := h
    exact ⟨b, a, c, h1, Below.at hb (lt_of_cell h2) h2, Below.at hb (lt_of_cell h3) h3, h4.below hb⟩

/-- What is known of a bound in the world behind the box, whatever was drawn. -/
theorem bd_open {w : World} {p : Option Addr} {e : Bool} {l : List Nat} (h : Bd w p e (some l)) : ∃ b a c, p = some ⟨b, 0, none⟩ ∧ (∀ X, (w.alloc X).cell? ⟨b, 0, none⟩ = some (.slice a l.length c)) ∧ (∀ X, (w.alloc X).cell? ⟨b, 1, none⟩ = some (.bool e)) ∧ ∀ X kd, Bts ((w.alloc X).drewN kd) a l := by
  obtain ⟨b, a, c, h1, h2, h3, h4⟩ := h
  have hb := fun X => (Below.refl w.heap.size w).alloc (Nat.le_refl _) X
  exact ⟨b, a, c, h1, fun X => Below.at (hb X) (lt_of_cell h2) h2, fun X => Below.at (hb X) (lt_of_cell h3) h3, fun X kd => (h4.below (hb X)).drewN kd⟩

set_option maxHeartbeats 4000000 in
theorem inRange_any (p p' av : Option Addr) (cv : Nat) (o o' : Option (List Nat)) (le he rv : Bool) (lim : Int) (v : List Nat) (w : World) (h : Bd w p le o) (h' : Bd w p' he o') (hv : Bts w av v)
    (b1 : lenO o ≤ 1099511627776) (b2 : lenO o' ≤ 1099511627776) (bv : v.length ≤ 1099511627776) :
    Calls Try.prog 13 #[.agg #[.pointer p, .pointer p', .bool rv, .int .i64 lim], .slice av v.length cv] w (BBPost (loB o le v && hiB o' he v) w) := by
  have hbox := fun X => (Below.refl w.heap.size w).alloc (Nat.le_refl _) X
  have hv' := fun X kd => (hv.below (hbox X)).drewN kd
  clear hv
  cases o with
  | none =>
    obtain rfl := h
    have HB : Hid (loB none le v = true) := rfl
    cases o' with
    | none =>
      obtain rfl := h'
      go_enter Try.func13, Try.ntmps13
      go_wp2_with fail
      go_ret
      first | exact ⟨by rw [HB.out]; rfl, hbox _⟩ | exact ⟨by rw [HB.out]; rfl, below_drewN (hbox _) _⟩ | exact ⟨by rw [HB.out]; rfl, below_drewN (below_drewN (hbox _) _) _⟩
    | some l' =>
      obtain ⟨b', a', c', rfl, q3, q4, hB'⟩ := bd_open h'
      have hc2 := fun X kd => cmp_any av a' v l' cv c' ((w.alloc X).drewN kd) (hv' X kd) (hB' X kd) bv b2
      rcases cmp_cases v l' with hr2 | hr2 | hr2 <;> cases he <;>
        (rw [hr2] at hc2
         have HB2 : Hid (cmpL v l' = _) := hr2
         clear hr2 hB' hv'
         go_enter Try.func13, Try.ntmps13
         go_wp2_with fail
         refine (hc2 _ 0).mono ?_
         rintro e w' ⟨rfl, nq2, rfl⟩
         go_wp2_with fail
         go_ret
         first | exact ⟨by rw [HB.out]; simp only [hiB, HB2.out]; rfl, hbox _⟩ | exact ⟨by rw [HB.out]; simp only [hiB, HB2.out]; rfl, below_drewN (hbox _) _⟩ | exact ⟨by rw [HB.out]; simp only [hiB, HB2.out]; rfl, below_drewN (below_drewN (hbox _) _) _⟩)
  | some l =>
    obtain ⟨b, a, c, rfl, q1, q2, hB⟩ := bd_open h
    have hc := fun X kd => cmp_any av a v l cv c ((w.alloc X).drewN kd) (hv' X kd) (hB X kd) bv b1
    rcases cmp_cases v l with hr | hr | hr <;> cases le
    · have HB : Hid (loB (some l) false v = false) := by show loB _ _ _ = _; simp only [loB, hr]; rfl
      rw [hr] at hc
      clear hr hB hv' h'
      go_enter Try.func13, Try.ntmps13
      go_wp2_with fail
      refine (hc _ 0).mono ?_
      rintro e w' ⟨rfl, nq, rfl⟩
      go_wp2_with fail
      go_ret
      first | exact ⟨by rw [HB.out]; rfl, hbox _⟩ | exact ⟨by rw [HB.out]; rfl, below_drewN (hbox _) _⟩ | exact ⟨by rw [HB.out]; rfl, below_drewN (below_drewN (hbox _) _) _⟩
    · have HB : Hid (loB (some l) true v = false) := by show loB _ _ _ = _; simp only [loB, hr]; rfl
      rw [hr] at hc
      clear hr hB hv' h'
      go_enter Try.func13, Try.ntmps13
      go_wp2_with fail
      refine (hc _ 0).mono ?_
      rintro e w' ⟨rfl, nq, rfl⟩
      go_wp2_with fail
      go_ret
      first | exact ⟨by rw [HB.out]; rfl, hbox _⟩ | exact ⟨by rw [HB.out]; rfl, below_drewN (hbox _) _⟩ | exact ⟨by rw [HB.out]; rfl, below_drewN (below_drewN (hbox _) _) _⟩
    · have HB : Hid (loB (some l) false v = true) := by show loB _ _ _ = _; simp only [loB, hr]; rfl
      rw [hr] at hc
      clear hr hB
      cases o' with
      | none =>
        obtain rfl := h'
        go_enter Try.func13, Try.ntmps13
        go_wp2_with fail
        refine (hc _ 0).mono ?_
        rintro e w' ⟨rfl, nq, rfl⟩
        go_wp2_with fail
        go_ret
        first | exact ⟨by rw [HB.out]; rfl, hbox _⟩ | exact ⟨by rw [HB.out]; rfl, below_drewN (hbox _) _⟩ | exact ⟨by rw [HB.out]; rfl, below_drewN (below_drewN (hbox _) _) _⟩
      | some l' =>
        obtain ⟨b', a', c', rfl, q3, q4, hB'⟩ := bd_open h'
        have hc2 := fun X kd => cmp_any av a' v l' cv c' ((w.alloc X).drewN kd) (hv' X kd) (hB' X kd) bv b2
        rcases cmp_cases v l' with hr2 | hr2 | hr2 <;> cases he <;>
          (rw [hr2] at hc2
           have HB2 : Hid (cmpL v l' = _) := hr2
           clear hr2 hB' hv'
           go_enter Try.func13, Try.ntmps13
           go_wp2_with fail
           refine (hc _ 0).mono ?_
           rintro e w' ⟨rfl, nq, rfl⟩
           go_wp2_with fail
           refine (hc2 _ nq).mono ?_
           rintro e w' ⟨rfl, nq2, rfl⟩
           go_wp2_with fail
           go_ret
           first | exact ⟨by rw [HB.out]; simp only [hiB, HB2.out]; rfl, hbox _⟩ | exact ⟨by rw [HB.out]; simp only [hiB, HB2.out]; rfl, below_drewN (hbox _) _⟩ | exact ⟨by rw [HB.out]; simp only [hiB, HB2.out]; rfl, below_drewN (below_drewN (hbox _) _) _⟩)
    · have HB : Hid (loB (some l) true v = false) := by show loB _ _ _ = _; simp only [loB, hr]; rfl
      rw [hr] at hc
      clear hr hB hv' h'
      go_enter Try.func13, Try.ntmps13
      go_wp2_with fail
      refine (hc _ 0).mono ?_
      rintro e w' ⟨rfl, nq, rfl⟩
      go_wp2_with fail
      go_ret
      first | exact ⟨by rw [HB.out]; rfl, hbox _⟩ | exact ⟨by rw [HB.out]; rfl, below_drewN (hbox _) _⟩ | exact ⟨by rw [HB.out]; rfl, below_drewN (below_drewN (hbox _) _) _⟩
    · have HB : Hid (loB (some l) false v = true) := by show loB _ _ _ = _; simp only [loB, hr]; rfl
      rw [hr] at hc
      clear hr hB
      cases o' with
      | none =>
        obtain rfl := h'
        go_enter Try.func13, Try.ntmps13
        go_wp2_with fail
        refine (hc _ 0).mono ?_
        rintro e w' ⟨rfl, nq, rfl⟩
        go_wp2_with fail
        go_ret
        first | exact ⟨by rw [HB.out]; rfl, hbox _⟩ | exact ⟨by rw [HB.out]; rfl, below_drewN (hbox _) _⟩ | exact ⟨by rw [HB.out]; rfl, below_drewN (below_drewN (hbox _) _) _⟩
      | some l' =>
        obtain ⟨b', a', c', rfl, q3, q4, hB'⟩ := bd_open h'
        have hc2 := fun X kd => cmp_any av a' v l' cv c' ((w.alloc X).drewN kd) (hv' X kd) (hB' X kd) bv b2
        rcases cmp_cases v l' with hr2 | hr2 | hr2 <;> cases he <;>
          (rw [hr2] at hc2
           have HB2 : Hid (cmpL v l' = _) := hr2
           clear hr2 hB' hv'
           go_enter Try.func13, Try.ntmps13
           go_wp2_with fail
           refine (hc _ 0).mono ?_
           rintro e w' ⟨rfl, nq, rfl⟩
           go_wp2_with fail
           refine (hc2 _ nq).mono ?_
           rintro e w' ⟨rfl, nq2, rfl⟩
           go_wp2_with fail
           go_ret
           first | exact ⟨by rw [HB.out]; simp only [hiB, HB2.out]; rfl, hbox _⟩ | exact ⟨by rw [HB.out]; simp only [hiB, HB2.out]; rfl, below_drewN (hbox _) _⟩ | exact ⟨by rw [HB.out]; simp only [hiB, HB2.out]; rfl, below_drewN (below_drewN (hbox _) _) _⟩)
    · have HB : Hid (loB (some l) true v = true) := by show loB _ _ _ = _; simp only [loB, hr]; rfl
      rw [hr] at hc
      clear hr hB
      cases o' with
      | none =>
        obtain rfl := h'
        go_enter Try.func13, Try.ntmps13
        go_wp2_with fail
        refine (hc _ 0).mono ?_
        rintro e w' ⟨rfl, nq, rfl⟩
        go_wp2_with fail
        go_ret
        first | exact ⟨by rw [HB.out]; rfl, hbox _⟩ | exact ⟨by rw [HB.out]; rfl, below_drewN (hbox _) _⟩ | exact ⟨by rw [HB.out]; rfl, below_drewN (below_drewN (hbox _) _) _⟩
      | some l' =>
        obtain ⟨b', a', c', rfl, q3, q4, hB'⟩ := bd_open h'
        have hc2 := fun X kd => cmp_any av a' v l' cv c' ((w.alloc X).drewN kd) (hv' X kd) (hB' X kd) bv b2
        rcases cmp_cases v l' with hr2 | hr2 | hr2 <;> cases he <;>
          (rw [hr2] at hc2
           have HB2 : Hid (cmpL v l' = _) := hr2
           clear hr2 hB' hv'
           go_enter Try.func13, Try.ntmps13
           go_wp2_with fail
           refine (hc _ 0).mono ?_
           rintro e w' ⟨rfl, nq, rfl⟩
           go_wp2_with fail
           refine (hc2 _ nq).mono ?_
           rintro e w' ⟨rfl, nq2, rfl⟩
           go_wp2_with fail
           go_ret
           first | exact ⟨by rw [HB.out]; simp only [hiB, HB2.out]; rfl, hbox _⟩ | exact ⟨by rw [HB.out]; simp only [hiB, HB2.out]; rfl, below_drewN (hbox _) _⟩ | exact ⟨by rw [HB.out]; simp only [hiB, HB2.out]; rfl, below_drewN (below_drewN (hbox _) _) _⟩)
end Go.Proofs.Qxb6000023a
