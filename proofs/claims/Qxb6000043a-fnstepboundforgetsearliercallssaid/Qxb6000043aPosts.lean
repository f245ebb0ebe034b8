import Derived.Test.Qxb6000043aVisit
import Derived.Test.Qxb6000043aPostP
import Derived.Test.Qxb6000043aArith
namespace Go.Proofs.Qxb6000043a
open Go.RowKit

set_option maxHeartbeats 1000000 in
theorem capAdd_any (M x y : Nat) (w : World) (hM : M ≤ 9223372036854775807) (hx : x ≤ M) (hy : y ≤ M) :
    Calls Try.prog 32 #[.int .i64 x, .int .i64 y, .int .i64 M] w fun e w' => e = .returned (.int .i64 ((capN M (x + y) : Nat) : Int)) ∧ w = w' := by
  by_cases h : M < x + y
  · rw [capN_hi h]
    have hd : decide ((M : Int) - (y : Int) < (x : Int)) = true := by simp; omega
    go_enter Try.func32, Try.ntmps32
    go_wp2_with fail
    go_ret
    exact ⟨rfl, rfl⟩
  · rw [capN_lo (by omega)]
    have hd : decide ((M : Int) - (y : Int) < (x : Int)) = false := by simp; omega
    go_enter Try.func32, Try.ntmps32
    go_wp2_with fail
    go_ret
    exact ⟨by go_num, rfl⟩

theorem owns_row {w : World} {base : Nat} {t : TypeId} {V : Value} {l : List Nat} (h : w.ownsRow base t 1 V l.length (cv l)) : ∃ a c, V = .slice a l.length c ∧ Row w a l.length (fun i => .int .i32 (atN l i)) := by
  rcases h.2 with ⟨e1, e2⟩ | ⟨g, cap, cur, e1, _, hg, hle, hm, hs, ht⟩
  · exact ⟨none, 0, by rw [e1, e2], by rw [e2]; exact Row.nil⟩
  · refine ⟨_, cap, e1, fun _ => ⟨g, 0, rfl, fun i hi => ?_⟩⟩
    have e : cur[i]? = some (.int .i32 (atN l i)) := by
      have : (cur.toList.take (l.length * 1))[i]? = (cv l)[i]? := by rw [ht]
      rw [cv_at hi, List.getElem?_take, if_pos (by omega), Array.getElem?_toList] at this
      exact this
    rw [Nat.zero_add]
    simp [World.cell?, hg, e]

def PostPost (w : World) (ord : List Nat) (e : Ending) (w' : World) : Prop := ∃ a c, e = .returned (.slice a ord.length c) ∧ Below w.heap.size w w' ∧ Row w' a ord.length (fun i => .int .i32 (atN ord i))

set_option maxHeartbeats 1000000 in
theorem postorder_any (a : Option Addr) (N c : Nat) (E : Nat → List Nat) (bk : Bool) (r : Nat) (w : World) (hE : GridN w a N E) (hN : N ≤ 4096) (rE : ∀ v, v < N → ∀ q ∈ E v, q < N) (lE : ∀ v, v < N → (E v).length ≤ 1048576) (hr : r < N) (ord : List Nat) (hp : Post (rowB E bk) r ord) (hol : ord.length ≤ 100000) :
    Calls Try.prog 24 #[.slice a N c, .int .i32 r, .bool bk] w (PostPost w ord) := by
  have hmk := make41 N (by omega) w
  obtain ⟨n, s1, hv, rfl⟩ := hp
  have hseen := World.rowIs_made w (.bool false) N 4
  have hb0 : Below w.heap.size w (w.alloc (.cells (madeCells #[.bool false] N) 4)) := (Below.refl _ _).alloc (Nat.le_refl _) _
  generalize hw1 : w.alloc (.cells (madeCells #[.bool false] N) 4) = w1 at hseen hmk hb0
  have hM : VMem w w1 N w.heap.size st0 (.slice none 0 0) := ⟨hb0, hseen, World.ownsRow_nil _ _ _ _⟩
  have hcall := visit_any a N c w.heap.size E bk w hE hN rE lE (Nat.le_refl _) n r st0 s1 w1 (.slice none 0 0) hv hr (by simp at hol; omega) hM
  clear hE rE lE hv hM hseen hb0 hw1
  go_enter Try.func24, Try.ntmps24
  go_wp2_with fail
  refine hcall.mono ?_
  rintro e w2 ⟨a2, c2, rfl, hM⟩
  clear hcall
  have HM : Hid (VMem w w2 N w.heap.size (s1.leave r) (.slice a2 (s1.leave r).ord.length c2)) := hM
  clear hM hmk
  go_wp2_with fail
  go_ret
  obtain ⟨a3, c3, e3, hrow⟩ := owns_row HM.out.ord
  cases e3
  exact ⟨_, _, rfl, HM.out.below, hrow⟩

def PosPost (w : World) (ord : List Nat) (N : Nat) (e : Ending) (w' : World) : Prop := e = .returned (.slice (some ⟨w.heap.size, 0, none⟩) N N) ∧ Below w.heap.size w w' ∧ w'.rowIs w.heap.size 3 N (fun x => .int .i64 (posF ord x : Nat))

theorem posF_take {l : List Nat} {t : Nat} (h : t < l.length) (x : Nat) : (if x = l.getD t 0 then t + 1 else posF (l.take t) x) = posF (l.take (t + 1)) x := by
  have e : l.getD t 0 = l[t] := by simp [h]
  rw [List.take_succ_eq_append_getElem h, posF_app, e]
  simp [updF, Nat.min_eq_left (Nat.le_of_lt h)]

set_option maxHeartbeats 2000000 in
theorem positions_any (a : Option Addr) (ord : List Nat) (c N : Nat) (w : World) (hN : N ≤ 4096) (hlt : ∀ x ∈ ord, x < N) (hol : ord.length ≤ 100000) (hrow : Row w a ord.length (fun i => .int .i32 (atN ord i))) :
    Calls Try.prog 26 #[.slice a ord.length c, .int .i64 N] w (PosPost w ord N) := by
  have hmk := make39 N (by omega) w
  have hp0 := World.rowIs_made w (.int .i64 0) N 3
  have hb0 : Below w.heap.size w (w.alloc (.cells (madeCells #[.int .i64 0] N) 3)) := (Below.refl _ _).alloc (Nat.le_refl _) _
  generalize w.alloc (.cells (madeCells #[.int .i64 0] N) 3) = w1 at hp0 hmk hb0
  obtain ⟨nn, hnn⟩ : ∃ nn, nn = ord.length := ⟨_, rfl⟩
  have HNN : Hid (nn = ord.length) := hnn
  rw [← hnn] at hol
  have HR : Hid (Row w a ord.length (fun i => .int .i32 (atN ord i))) := hrow
  have HLT : Hid (∀ x ∈ ord, x < N) := hlt
  have HP : Hid (Below w.heap.size w w1 ∧ w1.rowIs w.heap.size 3 N (fun _ => .int .i64 0)) := ⟨hb0, hp0⟩
  clear hrow hlt hp0 hb0
  rw [← hnn]
  clear hnn
  go_enter Try.func26, Try.ntmps26
  go_wp2_with fail
  clear hmk
  go_loopg [6] nn (fun g s6 wr => ∃ t : Nat, t ≤ nn ∧ g = nn - t ∧ s6 = .int .i64 t ∧ Below w.heap.size w wr ∧ wr.rowIs w.heap.size 3 N (fun x => .int .i64 (posF (ord.take t) x : Nat)))
  case atStart =>
    refine ⟨0, Nat.zero_le _, rfl, rfl, HP.out.1, HP.out.2.congr (fun i _ => ?_)⟩
    simp [posF, posA]
  case round =>
    clear HP
    obtain ⟨t, ht, rfl, rfl, hB, hP⟩ := hrel
    by_cases htl : t < nn
    · have htl' : t < ord.length := by rw [← HNN.out]; exact htl
      obtain ⟨b1, off1, rfl, hc1⟩ := HR.out (by omega)
      obtain ⟨y, hy⟩ : ∃ y, y = ord.getD t 0 := ⟨_, rfl⟩
      have hye : y = ord[t] := by rw [hy]; simp [htl']
      have hyN : y < N := by rw [hye]; exact HLT.out _ (List.getElem_mem htl')
      have p1 : wr.cell? ⟨b1, off1 + t, none⟩ = some (.int .i32 (y : Int)) := by
        rw [Below.at hB (lt_of_cell (hc1 t htl')) (hc1 t htl'), hy]
        rfl
      obtain ⟨pv, p2⟩ : ∃ pv, wr.cell? ⟨w.heap.size, y, none⟩ = some pv := ⟨_, hP.cell hyN⟩
      have p3 : wr.frozen? ⟨w.heap.size, y, none⟩ = false := hP.frozen y
      have htz : (t : Int) < (nn : Int) := by omega
      have hyz : (y : Int) < (N : Int) := by omega
      have hset := (hP.set y (.int .i64 ((t : Int) + 1))).congr (g := fun x => .int .i64 (posF (ord.take (t + 1)) x : Nat)) (fun x _ => by
        rw [← posF_take htl' x, ← hy]
        by_cases e : x = y <;> simp [e])
      have HS : Hid ((wr.setCell ⟨w.heap.size, y, none⟩ (.int .i64 ((t : Int) + 1))).rowIs w.heap.size 3 N (fun x => .int .i64 (posF (ord.take (t + 1)) x : Nat))) := hset
      have HB : Hid (Below w.heap.size w (wr.setCell ⟨w.heap.size, y, none⟩ (.int .i64 ((t : Int) + 1)))) := hB.setCell (Nat.le_refl _) _
      clear hset hB hP hc1 hy hye
      go_wp2_with fail
      go_roundg (nn - (t + 1))
      case measure => omega
      case rel => exact ⟨t + 1, by omega, rfl, by go_num, HB.out, HS.out⟩
    · obtain rfl : t = nn := by omega
      have htk : ord.take t = ord := by rw [HNN.out]; exact List.take_length
      rw [htk] at hP
      have HS : Hid (wr.rowIs w.heap.size 3 N (fun x => .int .i64 (posF ord x : Nat))) := hP
      have HB : Hid (Below w.heap.size w wr) := hB
      clear hP hB htk
      go_wp2_with fail
      go_ret
      exact ⟨rfl, HB.out, HS.out⟩
end Go.Proofs.Qxb6000043a
