import Derived.Test.Qxb6000023aTests
namespace Go.Proofs.Qxb6000023a
open Go.RowKit

set_option maxHeartbeats 4000000 in
theorem admits_any (a a' av : Option Addr) (n n' c c' cv : Nat) (o o' : Option (List Nat)) (le he : Bool) (v : List Nat) (w : World) (h : Col w a n o) (h' : Col w a' n' o') (hv : Bts w av v) (b1 : n ≤ 1099511627776) (b2 : n' ≤ 1099511627776) (bv : v.length ≤ 1099511627776) :
    Calls Try.prog 24 #[.slice a n c, .slice a' n' c', .bool le, .bool he, .slice av v.length cv] w (BPost (loB o le v && hiB o' he v) w) := by
  have hnil := nil22
  cases o with
  | none =>
    obtain ⟨rfl, rfl⟩ := h
    have HB : Hid (loB none le v = true) := rfl
    cases o' with
    | none =>
      obtain ⟨rfl, rfl⟩ := h'
      go_enter Try.func24, Try.ntmps24
      go_wp2_with fail
      go_ret
      exact ⟨by rw [HB.out]; rfl, 0, rfl⟩
    | some l' =>
      obtain ⟨ha', rfl, hB'⟩ := h'
      have hc2 := fun kd => cmp_any av a' v l' cv c' (w.drewN kd) (hv.drewN kd) (hB'.drewN kd) bv b2
      rcases cmp_cases v l' with hr2 | hr2 | hr2 <;> cases he <;>
        (rw [hr2] at hc2
         have HB2 : Hid (cmpL v l' = _) := hr2
         clear hr2 hB' hv
         go_enter Try.func24, Try.ntmps24
         go_wp2_with fail
         refine (hc2 0).mono ?_
         rintro e w' ⟨rfl, nq2, rfl⟩
         go_wp2_with fail
         go_ret
         exact ⟨by rw [HB.out]; simp only [hiB, HB2.out]; rfl, _, by first | rfl | (simp only [World.drewN_drewN]; rfl)⟩)
  | some l =>
    obtain ⟨ha, rfl, hB⟩ := h
    have hc := fun kd => cmp_any av a v l cv c (w.drewN kd) (hv.drewN kd) (hB.drewN kd) bv b1
    rcases cmp_cases v l with hr | hr | hr <;> cases le
    · have HB : Hid (loB (some l) false v = false) := by show loB _ _ _ = _; simp only [loB, hr]; rfl
      rw [hr] at hc
      clear hr hB hv h'
      go_enter Try.func24, Try.ntmps24
      go_wp2_with fail
      refine (hc 0).mono ?_
      rintro e w' ⟨rfl, nq, rfl⟩
      go_wp2_with fail
      go_ret
      exact ⟨by rw [HB.out]; rfl, nq, by first | rfl | (simp only [World.drewN_drewN]; rfl)⟩
    · have HB : Hid (loB (some l) true v = false) := by show loB _ _ _ = _; simp only [loB, hr]; rfl
      rw [hr] at hc
      clear hr hB hv h'
      go_enter Try.func24, Try.ntmps24
      go_wp2_with fail
      refine (hc 0).mono ?_
      rintro e w' ⟨rfl, nq, rfl⟩
      go_wp2_with fail
      go_ret
      exact ⟨by rw [HB.out]; rfl, nq, by first | rfl | (simp only [World.drewN_drewN]; rfl)⟩
    · have HB : Hid (loB (some l) false v = true) := by show loB _ _ _ = _; simp only [loB, hr]; rfl
      rw [hr] at hc
      clear hr hB
      cases o' with
      | none =>
        obtain ⟨rfl, rfl⟩ := h'
        go_enter Try.func24, Try.ntmps24
        go_wp2_with fail
        refine (hc 0).mono ?_
        rintro e w' ⟨rfl, nq, rfl⟩
        go_wp2_with fail
        go_ret
        exact ⟨by rw [HB.out]; rfl, nq, rfl⟩
      | some l' =>
        obtain ⟨ha', rfl, hB'⟩ := h'
        have hc2 := fun kd => cmp_any av a' v l' cv c' (w.drewN kd) (hv.drewN kd) (hB'.drewN kd) bv b2
        rcases cmp_cases v l' with hr2 | hr2 | hr2 <;> cases he <;>
          (rw [hr2] at hc2
           have HB2 : Hid (cmpL v l' = _) := hr2
           clear hr2 hB' hv
           go_enter Try.func24, Try.ntmps24
           go_wp2_with fail
           refine (hc 0).mono ?_
           rintro e w' ⟨rfl, nq, rfl⟩
           go_wp2_with fail
           refine (hc2 nq).mono ?_
           rintro e w' ⟨rfl, nq2, rfl⟩
           go_wp2_with fail
           go_ret
           exact ⟨by rw [HB.out]; simp only [hiB, HB2.out]; rfl, _, by first | rfl | (simp only [World.drewN_drewN]; rfl)⟩)
    · have HB : Hid (loB (some l) true v = false) := by show loB _ _ _ = _; simp only [loB, hr]; rfl
      rw [hr] at hc
      clear hr hB hv h'
      go_enter Try.func24, Try.ntmps24
      go_wp2_with fail
      refine (hc 0).mono ?_
      rintro e w' ⟨rfl, nq, rfl⟩
      go_wp2_with fail
      go_ret
      exact ⟨by rw [HB.out]; rfl, nq, by first | rfl | (simp only [World.drewN_drewN]; rfl)⟩
    · have HB : Hid (loB (some l) false v = true) := by show loB _ _ _ = _; simp only [loB, hr]; rfl
      rw [hr] at hc
      clear hr hB
      cases o' with
      | none =>
        obtain ⟨rfl, rfl⟩ := h'
        go_enter Try.func24, Try.ntmps24
        go_wp2_with fail
        refine (hc 0).mono ?_
        rintro e w' ⟨rfl, nq, rfl⟩
        go_wp2_with fail
        go_ret
        exact ⟨by rw [HB.out]; rfl, nq, rfl⟩
      | some l' =>
        obtain ⟨ha', rfl, hB'⟩ := h'
        have hc2 := fun kd => cmp_any av a' v l' cv c' (w.drewN kd) (hv.drewN kd) (hB'.drewN kd) bv b2
        rcases cmp_cases v l' with hr2 | hr2 | hr2 <;> cases he <;>
          (rw [hr2] at hc2
           have HB2 : Hid (cmpL v l' = _) := hr2
           clear hr2 hB' hv
           go_enter Try.func24, Try.ntmps24
           go_wp2_with fail
           refine (hc 0).mono ?_
           rintro e w' ⟨rfl, nq, rfl⟩
           go_wp2_with fail
           refine (hc2 nq).mono ?_
           rintro e w' ⟨rfl, nq2, rfl⟩
           go_wp2_with fail
           go_ret
           exact ⟨by rw [HB.out]; simp only [hiB, HB2.out]; rfl, _, by first | rfl | (simp only [World.drewN_drewN]; rfl)⟩)
    · have HB : Hid (loB (some l) true v = true) := by show loB _ _ _ = _; simp only [loB, hr]; rfl
      rw [hr] at hc
      clear hr hB
      cases o' with
      | none =>
        obtain ⟨rfl, rfl⟩ := h'
        go_enter Try.func24, Try.ntmps24
        go_wp2_with fail
        refine (hc 0).mono ?_
        rintro e w' ⟨rfl, nq, rfl⟩
        go_wp2_with fail
        go_ret
        exact ⟨by rw [HB.out]; rfl, nq, rfl⟩
      | some l' =>
        obtain ⟨ha', rfl, hB'⟩ := h'
        have hc2 := fun kd => cmp_any av a' v l' cv c' (w.drewN kd) (hv.drewN kd) (hB'.drewN kd) bv b2
        rcases cmp_cases v l' with hr2 | hr2 | hr2 <;> cases he <;>
          (rw [hr2] at hc2
           have HB2 : Hid (cmpL v l' = _) := hr2
           clear hr2 hB' hv
           go_enter Try.func24, Try.ntmps24
           go_wp2_with fail
           refine (hc 0).mono ?_
           rintro e w' ⟨rfl, nq, rfl⟩
           go_wp2_with fail
           refine (hc2 nq).mono ?_
           rintro e w' ⟨rfl, nq2, rfl⟩
           go_wp2_with fail
           go_ret
           exact ⟨by rw [HB.out]; simp only [hiB, HB2.out]; rfl, _, by first | rfl | (simp only [World.drewN_drewN]; rfl)⟩)
end Go.Proofs.Qxb6000023a
