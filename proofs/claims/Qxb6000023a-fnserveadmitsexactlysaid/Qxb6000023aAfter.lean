import Derived.Test.Qxb6000023aLib
namespace Go.Proofs.Qxb6000023a
open Go.RowKit

set_option maxHeartbeats 2000000 in
theorem clone_any (b off c : Nat) (l : List Nat) (w : World) (hb : Bts w (some ⟨b, off, none⟩) l) (hl : 0 < l.length) (h8 : l.length ≤ 16777216) :
    Calls Try.prog 32 #[.slice (some ⟨b, off, none⟩) l.length c] w fun e w' => ∃ g cap, e = .returned (.slice (some ⟨g, 0, none⟩) l.length cap) ∧ w.heap.size ≤ g ∧
      w'.ownsRow w.heap.size 5 1 (.slice (some ⟨g, 0, none⟩) l.length cap) l.length (cb l) ∧ Below w.heap.size w w' := by
  obtain ⟨i0, hi0, hz0, hz1, hz2⟩ := info_parts Try.info5
  have hnil := fun (w : World) => Lib.run_eql_slice_nil (P := Try.prog) w 22 5 (some ⟨b, off, none⟩) l.length c 0 0 Try.underlying22
  go_enter Try.func32, Try.ntmps32
  have hown0 : (w.alloc (.cells #[] 5)).ownsRow w.heap.size 5 1 (.slice (some ⟨w.heap.size, 0, none⟩) 0 0) 0 [] := World.ownsRow_made w #[] 0 (Nat.le_refl _) (by unfold maxLen; omega) rfl
  have hb1 : Bts (w.alloc (.cells #[] 5)) (some ⟨b, off, none⟩) l := hb.below ((Below.refl _ _).alloc (Nat.le_refl _) _)
  have hbel : Below w.heap.size w (w.alloc (.cells #[] 5)) := (Below.refl _ _).alloc (Nat.le_refl _) _
  go_wp2_with (at_builtin; refine wpList_append_own _ rfl (.tmp 5) (.tmp 6) 22 rfl w.heap.size 5 i0 (.int .u8 0) 1 1 Try.underlying22 hi0 hz0 hz1 hz2 rfl (by decide) _ 0 [] rfl hown0 ⟨b, off, none⟩ l.length c (cb l) rfl (by rw [cb_len, Nat.mul_one]) (bts_news hb1 _ rfl) (cb_one l) (by unfold maxLen; omega) (by omega) (by simp) ?_; intro v' w1 hown' hgrow hiff)
  go_ret
  simp only [Nat.zero_add, List.nil_append] at hown'
  rcases hown'.2 with ⟨hv, h0⟩ | ⟨g, cap, cur, hv, hg, _⟩
  · omega
  · subst hv
    exact ⟨g, cap, rfl, hg, hown', hbel.grown hgrow (by simp) (fun k hk => by cases hk; exact Nat.le_refl _)⟩

/-- The least bytes above all that begin with l; none where l is nothing but 255. -/
def aft : List Nat → Option (List Nat)
  | [] => none
  | x :: xs => match aft xs with
    | some ys => some (x :: ys)
    | none => if x = 255 then none else some [x + 1]

theorem aft_ff {l : List Nat} (h : ∀ j, j < l.length → l.getD j 0 = 255) : aft l = none := by
  induction l with
  | nil => rfl
  | cons x xs ih =>
    have h0 := h 0 (by simp)
    have h1 := ih (fun j hj => by have := h (j + 1) (by simpa using hj); simpa using this)
    simp at h0
    simp [aft, h1, h0]

theorem aft_at {l : List Nat} {i : Nat} (hi : i < l.length) (hne : l.getD i 0 ≠ 255) (h : ∀ j, i < j → j < l.length → l.getD j 0 = 255) : aft l = some (l.take i ++ [l.getD i 0 + 1]) := by
  induction l generalizing i with
  | nil => simp at hi
  | cons x xs ih =>
    cases i with
    | zero =>
      have h1 : aft xs = none := aft_ff (fun j hj => by have := h (j + 1) (by omega) (by simpa using hj); simpa using this)
      simp at hne
      simp [aft, h1, hne]
    | succ i =>
      have h1 := ih (i := i) (by simpa using hi) (by simpa using hne) (fun j hj1 hj2 => by have := h (j + 1) (by omega) (by simpa using hj2); simpa using this)
      simp [aft, h1]

theorem take_at8 (l : List Nat) (i j : Nat) (h : j < i) : at8 (l.take i) j = at8 l j := by
  simp [at8, h]

theorem Bts.take {w : World} {a : Option Addr} {l : List Nat} (h : Bts w a l) (i : Nat) : Bts w a (l.take i) := by
  intro hl
  have hl2 : (l.take i).length ≤ l.length := by rw [List.length_take]; omega
  have hl3 : (l.take i).length ≤ i := by rw [List.length_take]; omega
  obtain ⟨b, off, e, hc⟩ := h (by omega)
  exact ⟨b, off, e, fun j hj => by rw [hc j (by omega), B8, B8, take_at8 l i j (by omega)]⟩

theorem cb_set {l : List Nat} {i : Nat} (h : i < l.length) : (cb (l.take (i + 1))).set i (.int .u8 (at8 l i + 1)) = cb (l.take i ++ [l.getD i 0 + 1]) := by
  have hl : (cb (l.take i)).length = i := by rw [cb_len, List.length_take]; omega
  rw [List.take_succ_eq_append_getElem h, cb_app, cb_app, List.set_append_right _ _ (by omega), hl, Nat.sub_self]
  simp [cb, at8, h]

def AftPost (o : Option (List Nat)) (w : World) (e : Ending) (w' : World) : Prop :=
  ∃ a' c', e = .returned (.tuple #[.slice a' (lenO o) c', .bool o.isSome]) ∧ Col w' a' (lenO o) o ∧ Below w.heap.size w w'

theorem Bts.of_own {w : World} {base g n cap : Nat} {l : List Nat} (h : w.ownsRow base 5 1 (.slice (some ⟨g, 0, none⟩) n cap) n (cb l)) (hn : n = l.length) : Bts w (some ⟨g, 0, none⟩) l := by
  subst hn
  intro _
  exact ⟨g, 0, rfl, fun i hi => by rw [Nat.zero_add, h.cellAt i (by omega), cb_at l i hi]⟩

set_option maxHeartbeats 4000000 in
theorem after_any (b off c : Nat) (l : List Nat) (w : World) (hb : Bts w (some ⟨b, off, none⟩) l) (hl : 0 < l.length) (h8 : l.length ≤ 16777216) (hc : l.length ≤ c) (hc2 : c ≤ 9223372036854775807) (hby : ∀ i, at8 l i < 256) :
    Calls Try.prog 28 #[.slice (some ⟨b, off, none⟩) l.length c] w (AftPost (aft l) w) := by
  obtain ⟨b', off', e, hcell⟩ := hb hl
  cases e
  go_enter Try.func28, Try.ntmps28
  go_wp2_with fail
  go_loopg [4] l.length (fun g s4 wr => ∃ i : Nat, i ≤ l.length ∧ g = i ∧ s4 = .int .i64 i ∧ w = wr ∧ ∀ j, i ≤ j → j < l.length → l.getD j 0 = 255)
  case atStart => exact ⟨l.length, Nat.le_refl _, rfl, rfl, rfl, fun j h1 h2 => by omega⟩
  case round =>
    obtain ⟨i, hi, rfl, rfl, rfl, hall⟩ := hrel
    have HA : Hid (∀ j, gk ≤ j → j < l.length → l.getD j 0 = 255) := hall
    clear hall
    cases gk with
    | zero =>
      go_wp2_with fail
      go_ret2
      refine ⟨none, 0, ?_, ?_, Below.refl _ _⟩
      · rw [aft_ff (fun j hj => HA.out j (Nat.zero_le _) hj)]; rfl
      · rw [aft_ff (fun j hj => HA.out j (Nat.zero_le _) hj)]; exact ⟨rfl, rfl⟩
    | succ i =>
      have q1 := hcell i (by omega)
      have hp : (0 : Int) < ((i + 1 : Nat) : Int) := by omega
      by_cases hff : at8 l i = 255
      · have hff' : (at8 l i == 255) = true := by simp [hff]
        have HF : Hid (at8 l i = 255) := hff
        clear hff
        go_wp2_with fail
        go_roundg i
        case measure => omega
        case rel => exact ⟨i, by omega, rfl, by go_num, rfl, fun j h1 h2 => by
          by_cases e : j = i
          · subst e
            have := HF.out
            unfold at8 at this
            omega
          · exact HA.out j (by omega) h2⟩
      · have hff' : (at8 l i == 255) = false := by simp [hff]
        have hat := aft_at (l := l) (i := i) (by omega) (fun e => hff (by unfold at8; omega)) (fun j h1 h2 => HA.out j (by omega) h2)
        have HT : Hid (aft l = some (l.take i ++ [l.getD i 0 + 1])) := hat
        have HF : Hid (¬ at8 l i = 255) := hff
        clear hat hff HA
        have hlen : (l.take (i + 1)).length = i + 1 := by rw [List.length_take]; omega
        have hcl := clone_any b off c (l.take (i + 1)) w (hb.take _) (by omega) (by omega)
        rw [hlen] at hcl
        go_wp2_with fail
        refine hcl.mono ?_
        rintro e w1 ⟨g, cap, rfl, hg, hown, hB⟩
        clear hcl
        have hbi := hby i
        have hbi0 : 0 ≤ at8 l i := by unfold at8; omega
        have hne := HF.out
        have p1 : w1.cell? ⟨g, i, none⟩ = some (B8 l i) := by
          rw [hown.cellAt i (by omega), cb_at _ i (by omega), B8, B8, take_at8 l (i + 1) i (by omega)]
        have p2 := hown.frozenAt i
        have hst := (hown.stored i (.int .u8 (at8 l i + 1))).1
        have hB2 := hB.setCell (p := ⟨g, i, none⟩) hg (.int .u8 (at8 l i + 1))
        have hcap : i + 1 ≤ cap := by
          rcases hown.2 with ⟨hv, h0⟩ | ⟨g', cap', cur, hv, _, _, h3, _⟩
          · cases hv
          · cases hv; exact h3
        clear hown hB q1 hcell
        go_wp2_with fail
        go_ret2
        rw [HT.out]
        have hle : (l.take i ++ [l.getD i 0 + 1]).length = i + 1 := by simp; omega
        refine ⟨some ⟨g, 0, none⟩, cap, by simp only [lenO, hle]; rfl, ⟨rfl, rfl, Bts.of_own (base := w.heap.size) (cap := cap) ?_ hle.symm⟩, hB2⟩
        have hcb := cb_set (l := l) (i := i) (by omega)
        rw [← hcb]
        exact hst
end Go.Proofs.Qxb6000023a
