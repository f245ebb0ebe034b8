import Derived.Test.Qxb6000023aTests
import Derived.Laws.BytesArg
namespace Go.Proofs.Qxb6000023a
open Go.RowKit

theorem cmp_zero (l l' : List Nat) : cmpL l l' = 0 ↔ l = l' := by
  induction l generalizing l' with
  | nil => cases l' <;> simp [cmpL]
  | cons x xs ih =>
    cases l' with
    | nil => simp [cmpL]
    | cons y ys =>
      simp only [cmpL]
      split
      · constructor
        · intro h; omega
        · intro h; injection h with h1 h2; omega
      · split
        · constructor
          · intro h; omega
          · intro h; injection h with h1 h2; omega
        · rw [ih ys]
          constructor
          · intro h; rw [h]; congr 1; omega
          · intro h; injection h

def nums (l : List Nat) : List Int := l.map (fun x : Nat => (x : Int))
theorem nums_len (l : List Nat) : (nums l).length = l.length := by simp [nums]
theorem nums_at (l : List Nat) (i : Nat) (h : i < l.length) : (nums l).getD i 0 = at8 l i := by simp [nums, at8, h]

theorem bytes_inj {l l' : List Nat} (h : ∀ x ∈ l, x < 256) (h' : ∀ x ∈ l', x < 256) (e : (strOfNums (nums l)).data.toList = (strOfNums (nums l')).data.toList) : l = l' := by
  rw [strOfNums_data, strOfNums_data] at e
  simp only [nums, List.map_map] at e
  induction l generalizing l' with
  | nil => cases l' with
    | nil => rfl
    | cons y ys => simp at e
  | cons x xs ih => cases l' with
    | nil => simp at e
    | cons y ys =>
      simp only [List.map_cons] at e
      injection e with e1 e2
      have hx := h x (by simp)
      have hy := h' y (by simp)
      have e3 : x = y := by
        have := congrArg UInt8.toNat e1
        simp at this
        omega
      rw [e3, ih (fun z hz => h z (by simp [hz])) (fun z hz => h' z (by simp [hz])) e2]

theorem str_beq {l l' : List Nat} (h : ∀ x ∈ l, x < 256) (h' : ∀ x ∈ l', x < 256) : ((strOfNums (nums l)).toList == (strOfNums (nums l')).toList) = decide (cmpL l l' = 0) := by
  rw [ByteArray.toList_eq, ByteArray.toList_eq]
  by_cases e : l = l'
  · subst e
    have : cmpL l l = 0 := (cmp_zero l l).2 rfl
    simp [this]
  · have : ¬ cmpL l l' = 0 := fun h0 => e ((cmp_zero l l').1 h0)
    rw [decide_eq_false this, beq_eq_false_iff_ne]
    exact fun he => e (bytes_inj h h' he)

set_option maxHeartbeats 1000000 in
theorem equal_any (b off c b' off' c' : Nat) (l l' : List Nat) (w : World) (h : ∀ i, i < l.length → w.cell? ⟨b, off + i, none⟩ = some (B8 l i)) (h' : ∀ i, i < l'.length → w.cell? ⟨b', off' + i, none⟩ = some (B8 l' i))
    (y : ∀ x ∈ l, x < 256) (y' : ∀ x ∈ l', x < 256) :
    Calls Try.prog 34 #[.slice (some ⟨b, off, none⟩) l.length c, .slice (some ⟨b', off', none⟩) l'.length c'] w fun e w' => e = .returned (.bool (decide (cmpL l l' = 0))) ∧ w = w' := by
  have c1 := run_convert_bytes_arg (P := Try.prog) w 22 5 Try.underlying22 Try.underlying5 b off l.length c (nums l) (nums_len l) (fun i hi => by rw [nums_at l i hi]; exact h i hi) 9 Try.underlying9
  have c2 := run_convert_bytes_arg (P := Try.prog) w 22 5 Try.underlying22 Try.underlying5 b' off' l'.length c' (nums l') (nums_len l') (fun i hi => by rw [nums_at l' i hi]; exact h' i hi) 9 Try.underlying9
  have hb := str_beq y y'
  clear h h'
  go_enter Try.func34, Try.ntmps34
  go_wp2_with fail
  go_ret
  exact ⟨rfl, rfl⟩

/-- A bound that is there has bytes, each below 256. -/
def Good (o : Option (List Nat)) : Prop := ∀ l, o = some l → 0 < l.length ∧ ∀ x ∈ l, x < 256

set_option maxHeartbeats 2000000 in
theorem point_any (a a' : Option Addr) (n n' c c' : Nat) (o o' : Option (List Nat)) (le he nr : Bool) (w : World) (h : Col w a n o) (h' : Col w a' n' o') (g : Good o) (g' : Good o') :
    Calls Try.prog 30 #[.agg #[.slice a n c, .slice a' n' c', .bool le, .bool he, .bool nr]] w (BBPost (ptO o o' le he) w) := by
  have hnil := nil22
  have hbox := fun X => (Below.refl w.heap.size w).alloc (Nat.le_refl _) X
  cases o with
  | none =>
    obtain ⟨rfl, rfl⟩ := h
    go_enter Try.func30, Try.ntmps30
    go_wp2_with fail
    go_ret
    exact ⟨rfl, hbox _⟩
  | some l =>
    obtain ⟨ha, rfl, hB⟩ := h
    cases o' with
    | none =>
      obtain ⟨rfl, rfl⟩ := h'
      go_enter Try.func30, Try.ntmps30
      go_wp2_with fail
      go_ret
      exact ⟨rfl, hbox _⟩
    | some l' =>
      obtain ⟨ha', rfl, hB'⟩ := h'
      cases le
      · cases he
        · obtain ⟨b, off, rfl, hc⟩ := hB (g l rfl).1
          obtain ⟨b', off', rfl, hc'⟩ := hB' (g' l' rfl).1
          have heq := fun X => equal_any b off c b' off' c' l l' (w.alloc X) (fun i hi => Below.at (hbox X) (lt_of_cell (hc i hi)) (hc i hi)) (fun i hi => Below.at (hbox X) (lt_of_cell (hc' i hi)) (hc' i hi)) (g l rfl).2 (g' l' rfl).2
          obtain ⟨r, hr⟩ : ∃ r, r = decide (cmpL l l' = 0) := ⟨_, rfl⟩
          rw [← hr] at heq
          have HR : Hid (r = decide (cmpL l l' = 0)) := hr
          clear hr hB hB' hc hc' g g'
          go_enter Try.func30, Try.ntmps30
          go_wp2_with (go_at_call 34; refine (heq _).mono ?_; rintro e w' ⟨rfl, rfl⟩)
          go_ret
          exact ⟨by rw [HR.out]; simp [ptO], hbox _⟩
        · clear hB hB'
          go_enter Try.func30, Try.ntmps30
          go_wp2_with fail
          go_ret
          exact ⟨rfl, hbox _⟩
      · clear hB hB'
        go_enter Try.func30, Try.ntmps30
        go_wp2_with fail
        go_ret
        exact ⟨rfl, hbox _⟩
end Go.Proofs.Qxb6000023a
