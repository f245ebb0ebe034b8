import Derived.Test.Qxb6000023aTests
namespace Go.Proofs.Qxb6000023a
open Go.RowKit

/-- The slice that begins at a holds f 0, .., f (N - 1). -/
def Row (w : World) (a : Option Addr) (N : Nat) (f : Nat → Value) : Prop :=
  0 < N → ∃ b off, a = some ⟨b, off, none⟩ ∧ ∀ i, i < N → w.cell? ⟨b, off + i, none⟩ = some (f i)

theorem Row.below {w w' : World} {a : Option Addr} {N : Nat} {f : Nat → Value} (h : Row w a N f) (hb : Below w.heap.size w w') : Row w' a N f := by
  intro hl
  obtain ⟨b, off, e, hc⟩ := h hl
  exact ⟨b, off, e, fun i hi => Below.at hb (lt_of_cell (hc i hi)) (hc i hi)⟩
theorem Row.of_rowIs {w : World} {b : Nat} {t : TypeId} {N : Nat} {f : Nat → Value} (h : w.rowIs b t N f) : Row w (some ⟨b, 0, none⟩) N f :=
  fun _ => ⟨b, 0, rfl, fun i hi => by rw [Nat.zero_add]; exact h.cell hi⟩

/-- A row whose first t cells are filled by f, the rest by z. -/
def upTo (f : Nat → Value) (z : Value) (t : Nat) : Nat → Value := fun i => if i < t then f i else z
theorem upTo_set (f : Nat → Value) (z : Value) (t j : Nat) : (if j = t then f t else upTo f z t j) = upTo f z (t + 1) j := by
  simp only [upTo]
  by_cases e : j = t
  · subst e; simp
  · rw [if_neg e]
    by_cases h : j < t
    · rw [if_pos h, if_pos (by omega)]
    · rw [if_neg h, if_neg (by omega)]

theorem Try.info5 : (Try.prog.info? 5).map (fun i => (i.zero, i.size, i.bytes)) = some (some (.int .u8 0), 1, 1) := by kernel_rfl
theorem Try.info4 : (Try.prog.info? 4).map (fun i => (i.zero, i.size, i.bytes)) = some (some (.bool false), 1, 1) := by kernel_rfl
theorem Try.info3 : (Try.prog.info? 3).map (fun i => (i.zero, i.size, i.bytes)) = some (some (.int .i64 0), 1, 8) := by kernel_rfl
theorem Try.info22 : (Try.prog.info? 22).map (fun i => (i.zero, i.size, i.bytes)) = some (some (.slice none 0 0), 1, 24) := by kernel_rfl

theorem make22 (n : Nat) (h : n ≤ 1048576) (w : World) :
    (Instr.makeSlice 22 (.int .i64 (n : Int)) (.int .i64 (n : Int))).run Try.prog w = .ok (.slice (some ⟨w.heap.size, 0, none⟩) n n) (w.alloc (.cells (madeCells #[.int .u8 0] n) 5)) :=
  run_make_row' 22 5 (.int .u8 0) 1 Try.underlying22 Try.info5 rfl .i64 .i64 n (by omega) (by omega) w

set_option maxHeartbeats 1000000 in
theorem cloneB_core (b off n c : Nat) (f : Nat → Int) (w : World) (hn : n ≤ 1048576)
    (hL : ∀ i, i < n → w.cell? ⟨b, off + i, none⟩ = some (Value.int .u8 (f i))) (hb : 0 < n → b < w.heap.size) (a : Option Addr) (ha : a.isNone = false) (hab : 0 < n → a = some ⟨b, off, none⟩) :
    Calls Try.prog 7 #[.slice a n c] w fun e w' => e = .returned (.slice (some ⟨w.heap.size, 0, none⟩) n n) ∧ Below w.heap.size w w' ∧ w'.rowIs w.heap.size 5 n (fun i => Value.int .u8 (f i)) := by
  have hmk := make22 n hn
  have hnil := fun (w : World) => Lib.run_eql_slice_nil (P := Try.prog) w 22 5 a n c 0 0 Try.underlying22
  go_enter Try.func7, Try.ntmps7
  go_wp2_with fail
  clear hmk hnil
  go_loopg [4] n (fun g i wr => ∃ t : Nat, t ≤ n ∧ g = n - t ∧ i = .int .i64 t ∧ Below w.heap.size w wr ∧ wr.rowIs w.heap.size 5 n (upTo (fun i => Value.int .u8 (f i)) (.int .u8 0) t))
  case atStart => exact ⟨0, Nat.zero_le _, rfl, rfl, (Below.refl _ _).alloc (Nat.le_refl _) _, (World.rowIs_made w (.int .u8 0) n 5).congr (fun i _ => by simp [upTo])⟩
  case round =>
    obtain ⟨t, ht, rfl, rfl, hB, hR⟩ := hrel
    by_cases hlt : t < n
    · obtain rfl := hab (by omega)
      have q1 : wr.cell? ⟨b, off + t, none⟩ = some (Value.int .u8 (f t)) := Below.at hB (hb (by omega)) (hL t hlt)
      obtain ⟨v, q2⟩ : ∃ v, wr.cell? ⟨w.heap.size, t, none⟩ = some v := ⟨_, hR.cell hlt⟩
      have q3 : wr.frozen? ⟨w.heap.size, t, none⟩ = false := hR.frozen t
      have hltz : (t : Int) < (n : Int) := by omega
      clear hL
      go_wp2_with fail
      go_roundg (n - (t + 1))
      case measure => omega
      case rel => exact ⟨t + 1, by omega, rfl, by go_num, hB.setCell (by simp) _, (hR.set t _).congr (fun j _ => upTo_set (fun i => Value.int .u8 (f i)) (.int .u8 0) t j)⟩
    · obtain rfl : t = n := by omega
      clear hL
      go_wp2_with fail
      go_ret
      exact ⟨rfl, hB, hR.congr (fun i hi => by simp [upTo, hi])⟩

set_option maxHeartbeats 1000000 in
theorem cloneB_nil (c : Nat) (w : World) : Calls Try.prog 7 #[.slice none 0 c] w fun e w' => e = .returned (.slice none 0 0) ∧ w = w' := by
  have hnil := fun (w : World) => Lib.run_eql_slice_nil (P := Try.prog) w 22 5 none 0 c 0 0 Try.underlying22
  go_enter Try.func7, Try.ntmps7
  go_wp2_with fail
  go_ret
  exact ⟨rfl, rfl⟩

theorem cloneB_any (a : Option Addr) (n c : Nat) (f : Nat → Int) (w : World) (hn : n ≤ 1048576) (hR : Row w a n (fun i => Value.int .u8 (f i))) (hnl : a = none → n = 0) :
    Calls Try.prog 7 #[.slice a n c] w fun e w' => ∃ a' c', e = .returned (.slice a' n c') ∧ a'.isNone = a.isNone ∧ Row w' a' n (fun i => Value.int .u8 (f i)) ∧ Below w.heap.size w w' ∧ ((a' = none ∧ c' = 0) ∨ ∃ b, a' = some ⟨b, 0, none⟩ ∧ c' = n) := by
  cases a with
  | none =>
    obtain rfl := hnl rfl
    refine (cloneB_nil c w).mono ?_
    rintro e w' ⟨rfl, rfl⟩
    exact ⟨none, 0, rfl, rfl, fun h => absurd h (Nat.lt_irrefl _), Below.refl _ _, .inl ⟨rfl, rfl⟩⟩
  | some ad =>
    by_cases hp : 0 < n
    · obtain ⟨b, off, e, hc⟩ := hR hp
      refine (cloneB_core b off n c f w hn hc (fun _ => lt_of_cell (hc 0 hp)) (some ad) rfl (fun _ => e)).mono ?_
      rintro e w' ⟨rfl, hB, hr⟩
      exact ⟨_, _, rfl, rfl, Row.of_rowIs hr, hB, .inr ⟨_, rfl, rfl⟩⟩
    · refine (cloneB_core 0 0 n c f w hn (fun i hi => absurd hi (by omega)) (fun h => absurd h hp) (some ad) rfl (fun h => absurd h hp)).mono ?_
      rintro e w' ⟨rfl, hB, hr⟩
      exact ⟨_, _, rfl, rfl, Row.of_rowIs hr, hB, .inr ⟨_, rfl, rfl⟩⟩

theorem make37 (n : Nat) (h : n ≤ 1048576) (w : World) :
    (Instr.makeSlice 37 (.int .i64 (n : Int)) (.int .i64 (n : Int))).run Try.prog w = .ok (.slice (some ⟨w.heap.size, 0, none⟩) n n) (w.alloc (.cells (madeCells #[.bool false] n) 4)) :=
  run_make_row' 37 4 (.bool false) 1 Try.underlying37 Try.info4 rfl .i64 .i64 n (by omega) (by omega) w

set_option maxHeartbeats 1000000 in
theorem cloneL_core (b off n c : Nat) (f : Nat → Bool) (w : World) (hn : n ≤ 1048576)
    (hL : ∀ i, i < n → w.cell? ⟨b, off + i, none⟩ = some (Value.bool (f i))) (hb : 0 < n → b < w.heap.size) (a : Option Addr) (ha : a.isNone = false) (hab : 0 < n → a = some ⟨b, off, none⟩) :
    Calls Try.prog 21 #[.slice a n c] w fun e w' => e = .returned (.slice (some ⟨w.heap.size, 0, none⟩) n n) ∧ Below w.heap.size w w' ∧ w'.rowIs w.heap.size 4 n (fun i => Value.bool (f i)) := by
  have hmk := make37 n hn
  have hnil := fun (w : World) => Lib.run_eql_slice_nil (P := Try.prog) w 37 4 a n c 0 0 Try.underlying37
  go_enter Try.func21, Try.ntmps21
  go_wp2_with fail
  clear hmk hnil
  go_loopg [4] n (fun g i wr => ∃ t : Nat, t ≤ n ∧ g = n - t ∧ i = .int .i64 t ∧ Below w.heap.size w wr ∧ wr.rowIs w.heap.size 4 n (upTo (fun i => Value.bool (f i)) (.bool false) t))
  case atStart => exact ⟨0, Nat.zero_le _, rfl, rfl, (Below.refl _ _).alloc (Nat.le_refl _) _, (World.rowIs_made w (.bool false) n 4).congr (fun i _ => by simp [upTo])⟩
  case round =>
    obtain ⟨t, ht, rfl, rfl, hB, hR⟩ := hrel
    by_cases hlt : t < n
    · obtain rfl := hab (by omega)
      have q1 : wr.cell? ⟨b, off + t, none⟩ = some (Value.bool (f t)) := Below.at hB (hb (by omega)) (hL t hlt)
      obtain ⟨v, q2⟩ : ∃ v, wr.cell? ⟨w.heap.size, t, none⟩ = some v := ⟨_, hR.cell hlt⟩
      have q3 : wr.frozen? ⟨w.heap.size, t, none⟩ = false := hR.frozen t
      have hltz : (t : Int) < (n : Int) := by omega
      clear hL
      go_wp2_with fail
      go_roundg (n - (t + 1))
      case measure => omega
      case rel => exact ⟨t + 1, by omega, rfl, by go_num, hB.setCell (by simp) _, (hR.set t _).congr (fun j _ => upTo_set (fun i => Value.bool (f i)) (.bool false) t j)⟩
    · obtain rfl : t = n := by omega
      clear hL
      go_wp2_with fail
      go_ret
      exact ⟨rfl, hB, hR.congr (fun i hi => by simp [upTo, hi])⟩

set_option maxHeartbeats 1000000 in
theorem cloneL_nil (c : Nat) (w : World) : Calls Try.prog 21 #[.slice none 0 c] w fun e w' => e = .returned (.slice none 0 0) ∧ w = w' := by
  have hnil := fun (w : World) => Lib.run_eql_slice_nil (P := Try.prog) w 37 4 none 0 c 0 0 Try.underlying37
  go_enter Try.func21, Try.ntmps21
  go_wp2_with fail
  go_ret
  exact ⟨rfl, rfl⟩

theorem cloneL_any (a : Option Addr) (n c : Nat) (f : Nat → Bool) (w : World) (hn : n ≤ 1048576) (hR : Row w a n (fun i => Value.bool (f i))) (hnl : a = none → n = 0) :
    Calls Try.prog 21 #[.slice a n c] w fun e w' => ∃ a' c', e = .returned (.slice a' n c') ∧ a'.isNone = a.isNone ∧ Row w' a' n (fun i => Value.bool (f i)) ∧ Below w.heap.size w w' ∧ ((a' = none ∧ c' = 0) ∨ ∃ b, a' = some ⟨b, 0, none⟩ ∧ c' = n) := by
  cases a with
  | none =>
    obtain rfl := hnl rfl
    refine (cloneL_nil c w).mono ?_
    rintro e w' ⟨rfl, rfl⟩
    exact ⟨none, 0, rfl, rfl, fun h => absurd h (Nat.lt_irrefl _), Below.refl _ _, .inl ⟨rfl, rfl⟩⟩
  | some ad =>
    by_cases hp : 0 < n
    · obtain ⟨b, off, e, hc⟩ := hR hp
      refine (cloneL_core b off n c f w hn hc (fun _ => lt_of_cell (hc 0 hp)) (some ad) rfl (fun _ => e)).mono ?_
      rintro e w' ⟨rfl, hB, hr⟩
      exact ⟨_, _, rfl, rfl, Row.of_rowIs hr, hB, .inr ⟨_, rfl, rfl⟩⟩
    · refine (cloneL_core 0 0 n c f w hn (fun i hi => absurd hi (by omega)) (fun h => absurd h hp) (some ad) rfl (fun h => absurd h hp)).mono ?_
      rintro e w' ⟨rfl, hB, hr⟩
      exact ⟨_, _, rfl, rfl, Row.of_rowIs hr, hB, .inr ⟨_, rfl, rfl⟩⟩

theorem make38 (n : Nat) (h : n ≤ 1048576) (w : World) :
    (Instr.makeSlice 38 (.int .i64 (n : Int)) (.int .i64 (n : Int))).run Try.prog w = .ok (.slice (some ⟨w.heap.size, 0, none⟩) n n) (w.alloc (.cells (madeCells #[.int .i64 0] n) 3)) :=
  run_make_row' 38 3 (.int .i64 0) 8 Try.underlying38 Try.info3 rfl .i64 .i64 n (by omega) (by omega) w

set_option maxHeartbeats 1000000 in
theorem cloneI_core (b off n c : Nat) (f : Nat → Int) (w : World) (hn : n ≤ 1048576)
    (hL : ∀ i, i < n → w.cell? ⟨b, off + i, none⟩ = some (Value.int .i64 (f i))) (hb : 0 < n → b < w.heap.size) (a : Option Addr) (ha : a.isNone = false) (hab : 0 < n → a = some ⟨b, off, none⟩) :
    Calls Try.prog 22 #[.slice a n c] w fun e w' => e = .returned (.slice (some ⟨w.heap.size, 0, none⟩) n n) ∧ Below w.heap.size w w' ∧ w'.rowIs w.heap.size 3 n (fun i => Value.int .i64 (f i)) := by
  have hmk := make38 n hn
  have hnil := fun (w : World) => Lib.run_eql_slice_nil (P := Try.prog) w 38 3 a n c 0 0 Try.underlying38
  go_enter Try.func22, Try.ntmps22
  go_wp2_with fail
  clear hmk hnil
  go_loopg [4] n (fun g i wr => ∃ t : Nat, t ≤ n ∧ g = n - t ∧ i = .int .i64 t ∧ Below w.heap.size w wr ∧ wr.rowIs w.heap.size 3 n (upTo (fun i => Value.int .i64 (f i)) (.int .i64 0) t))
  case atStart => exact ⟨0, Nat.zero_le _, rfl, rfl, (Below.refl _ _).alloc (Nat.le_refl _) _, (World.rowIs_made w (.int .i64 0) n 3).congr (fun i _ => by simp [upTo])⟩
  case round =>
    obtain ⟨t, ht, rfl, rfl, hB, hR⟩ := hrel
    by_cases hlt : t < n
    · obtain rfl := hab (by omega)
      have q1 : wr.cell? ⟨b, off + t, none⟩ = some (Value.int .i64 (f t)) := Below.at hB (hb (by omega)) (hL t hlt)
      obtain ⟨v, q2⟩ : ∃ v, wr.cell? ⟨w.heap.size, t, none⟩ = some v := ⟨_, hR.cell hlt⟩
      have q3 : wr.frozen? ⟨w.heap.size, t, none⟩ = false := hR.frozen t
      have hltz : (t : Int) < (n : Int) := by omega
      clear hL
      go_wp2_with fail
      go_roundg (n - (t + 1))
      case measure => omega
      case rel => exact ⟨t + 1, by omega, rfl, by go_num, hB.setCell (by simp) _, (hR.set t _).congr (fun j _ => upTo_set (fun i => Value.int .i64 (f i)) (.int .i64 0) t j)⟩
    · obtain rfl : t = n := by omega
      clear hL
      go_wp2_with fail
      go_ret
      exact ⟨rfl, hB, hR.congr (fun i hi => by simp [upTo, hi])⟩

set_option maxHeartbeats 1000000 in
theorem cloneI_nil (c : Nat) (w : World) : Calls Try.prog 22 #[.slice none 0 c] w fun e w' => e = .returned (.slice none 0 0) ∧ w = w' := by
  have hnil := fun (w : World) => Lib.run_eql_slice_nil (P := Try.prog) w 38 3 none 0 c 0 0 Try.underlying38
  go_enter Try.func22, Try.ntmps22
  go_wp2_with fail
  go_ret
  exact ⟨rfl, rfl⟩

theorem cloneI_any (a : Option Addr) (n c : Nat) (f : Nat → Int) (w : World) (hn : n ≤ 1048576) (hR : Row w a n (fun i => Value.int .i64 (f i))) (hnl : a = none → n = 0) :
    Calls Try.prog 22 #[.slice a n c] w fun e w' => ∃ a' c', e = .returned (.slice a' n c') ∧ a'.isNone = a.isNone ∧ Row w' a' n (fun i => Value.int .i64 (f i)) ∧ Below w.heap.size w w' ∧ ((a' = none ∧ c' = 0) ∨ ∃ b, a' = some ⟨b, 0, none⟩ ∧ c' = n) := by
  cases a with
  | none =>
    obtain rfl := hnl rfl
    refine (cloneI_nil c w).mono ?_
    rintro e w' ⟨rfl, rfl⟩
    exact ⟨none, 0, rfl, rfl, fun h => absurd h (Nat.lt_irrefl _), Below.refl _ _, .inl ⟨rfl, rfl⟩⟩
  | some ad =>
    by_cases hp : 0 < n
    · obtain ⟨b, off, e, hc⟩ := hR hp
      refine (cloneI_core b off n c f w hn hc (fun _ => lt_of_cell (hc 0 hp)) (some ad) rfl (fun _ => e)).mono ?_
      rintro e w' ⟨rfl, hB, hr⟩
      exact ⟨_, _, rfl, rfl, Row.of_rowIs hr, hB, .inr ⟨_, rfl, rfl⟩⟩
    · refine (cloneI_core 0 0 n c f w hn (fun i hi => absurd hi (by omega)) (fun h => absurd h hp) (some ad) rfl (fun h => absurd h hp)).mono ?_
      rintro e w' ⟨rfl, hB, hr⟩
      exact ⟨_, _, rfl, rfl, Row.of_rowIs hr, hB, .inr ⟨_, rfl, rfl⟩⟩

theorem cloneCol_any (a : Option Addr) (n c : Nat) (o : Option (List Nat)) (w : World) (hn : n ≤ 1048576) (h : Col w a n o) :
    Calls Try.prog 7 #[.slice a n c] w fun e w' => ∃ a' c', e = .returned (.slice a' n c') ∧ Col w' a' n o ∧ Below w.heap.size w w' := by
  cases o with
  | none =>
    obtain ⟨rfl, rfl⟩ := h
    refine (cloneB_nil c w).mono ?_
    rintro e w' ⟨rfl, rfl⟩
    exact ⟨none, 0, rfl, ⟨rfl, rfl⟩, Below.refl _ _⟩
  | some l =>
    obtain ⟨h1, rfl, h3⟩ := h
    refine (cloneB_any a l.length c (at8 l) w hn h3 (fun e => by rw [e] at h1; exact Bool.noConfusion h1)).mono ?_
    rintro e w' ⟨a', c', rfl, h5, h6, h7, _⟩
    exact ⟨a', c', rfl, ⟨h5.trans h1, rfl, h6⟩, h7⟩
end Go.Proofs.Qxb6000023a
