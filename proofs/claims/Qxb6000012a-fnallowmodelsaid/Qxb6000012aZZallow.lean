import Derived.Test.Qxb6000012aMem
import Derived.Test.Qxb6000012aAllow
namespace Go.Proofs.Qxb6000012a
open Go.RowKit

/-- The list's nodes, t of them filled. -/
structure Nodes (w wr : World) (B n : Nat) (P : Nat → Int) (E : Nat → Nat) (t : Nat) : Prop where
  below : Below B w wr
  box : wr.rowIs (B + 1) 62 1 (fun _ => .slice (some ⟨B, 0, none⟩) n n)
  row : ∃ f, wr.rowIs B 69 (n * 19) f ∧ ∀ i, i < t → f (i * 19 + 17) = .int .i64 (P i) ∧ f (i * 19 + 18) = .int .i64 (E i)

theorem Nodes.par {w wr : World} {B n : Nat} {P : Nat → Int} {E : Nat → Nat} {t : Nat} (h : Nodes w wr B n P E t) {i : Nat} (hi : i < t) (hn : i < n) : wr.cell? ⟨B, i * 19 + 17, none⟩ = some (.int .i64 (P i)) := by
  obtain ⟨f, hf, hv⟩ := h.row
  rw [hf.cell (i := i * 19 + 17) (by omega), (hv i hi).1]
theorem Nodes.en {w wr : World} {B n : Nat} {P : Nat → Int} {E : Nat → Nat} {t : Nat} (h : Nodes w wr B n P E t) {i : Nat} (hi : i < t) (hn : i < n) : wr.cell? ⟨B, i * 19 + 18, none⟩ = some (.int .i64 (E i)) := by
  obtain ⟨f, hf, hv⟩ := h.row
  rw [hf.cell (i := i * 19 + 18) (by omega), (hv i hi).2]

theorem nodes_start (w : World) (n : Nat) (P : Nat → Int) (E : Nat → Nat) :
    Nodes w ((w.alloc (.cells (cells69 n) 69)).alloc (.cells #[.slice (some ⟨w.heap.size, 0, none⟩) n n] 62)) w.heap.size n P E 0 := by
  refine ⟨((Below.refl _ _).alloc (Nat.le_refl _) _).alloc (by simp) _, ?_, ⟨_, ((size69 n) ▸ (row_new w (cells69 n) 69)).alloc _, fun i hi => absurd hi (Nat.not_lt_zero _)⟩⟩
  have h := World.rowIs_alloc (w.alloc (.cells (cells69 n) 69)) #[.slice (some ⟨w.heap.size, 0, none⟩) n n] 62 (fun _ => .slice (some ⟨w.heap.size, 0, none⟩) n n) (fun i hi => by
    simp at hi; subst hi; rfl)
  rw [Deep.nblk_alloc] at h
  exact h

theorem nodes_step {w wr : World} {B n : Nat} {P : Nat → Int} {E : Nat → Nat} {t : Nat} (h : Nodes w wr B n P E t) :
    Nodes w ((wr.setCell ⟨B, t * 19 + 17, none⟩ (.int .i64 (P t))).setCell ⟨B, t * 19 + 18, none⟩ (.int .i64 (E t))).drew.drew B n P E (t + 1) := by
  refine ⟨(((h.below.setCell (Nat.le_refl _) _).setCell (Nat.le_refl _) _).drew).drew, (((h.box.setOther (by simp) _).setOther (by simp) _).drew).drew, ?_⟩
  obtain ⟨f, hf, hv⟩ := h.row
  refine ⟨_, (((hf.set (t * 19 + 17) _).set (t * 19 + 18) _).drew).drew, fun i hi => ?_⟩
  by_cases e : i = t
  · subst e
    simp
  · have := hv i (by omega)
    have e1 : ¬ i * 19 + 17 = t * 19 + 18 := by omega
    have e2 : ¬ i * 19 + 17 = t * 19 + 17 := by omega
    have e3 : ¬ i * 19 + 18 = t * 19 + 18 := by omega
    have e4 : ¬ i * 19 + 18 = t * 19 + 17 := by omega
    simp only [if_neg e1, if_neg e2, if_neg e3, if_neg e4]
    exact this

/-- The first t states filled. -/
def part (s : St) (t : Nat) : St := fun i => if i < t then s i else (0, 0)

theorem part_full (s : St) (n i : Nat) (h : i < n) : part s n i = s i := by simp [part, h]

/-- The states, t of them filled. -/
structure States (w wr : World) (B n : Nat) (P : Nat → Int) (E : Nat → Nat) (s : St) (t : Nat) : Prop where
  nodes : Nodes w wr B n P E n
  size : wr.heap.size = B + 3
  st : wr.rowIs (B + 2) 72 (2 * n) (stCells (part s t))

theorem c72 (n i : Nat) (h : i < n * 2) : (cells72 n)[i]? = some (V32 0) := by
  have h1 : i % 2 < 2 := Nat.mod_lt _ (by omega)
  have h2 : (#[Value.int .u32 0, .int .u32 0] : Array Value)[i % 2]! = V32 0 := by
    rcases (by omega : i % 2 = 0 ∨ i % 2 = 1) with e | e <;> rw [e] <;> rfl
  simp only [cells72, madeCells]
  rw [Array.getElem?_map, Array.getElem?_range]
  rw [if_pos h]
  show some ((#[Value.int .u32 0, .int .u32 0] : Array Value)[i % 2]!) = _
  rw [h2]

theorem states_start {w wr : World} {B n : Nat} {P : Nat → Int} {E : Nat → Nat} {s : St} (h : Nodes w wr B n P E n) (hs : wr.heap.size = B + 2) :
    States w (wr.alloc (.cells (cells72 n) 72)) B n P E s 0 := by
  refine ⟨⟨h.below.alloc (by omega) _, h.box.alloc _, ?_⟩, by rw [Deep.nblk_alloc]; omega, ?_⟩
  · obtain ⟨f, hf, hv⟩ := h.row
    exact ⟨f, hf.alloc _, hv⟩
  · have h2 := World.rowIs_alloc wr (cells72 n) 72 (fun _ => V32 0) (fun i hi => by rw [size72] at hi; exact c72 n i hi)
    rw [size72, hs] at h2
    rw [Nat.mul_comm]
    refine h2.congr (fun i _ => ?_)
    simp [stCells, part]

theorem states_step {w wr : World} {B n : Nat} {P : Nat → Int} {E : Nat → Nat} {s : St} {t : Nat} (h : States w wr B n P E s t) :
    States w ((wr.setCell ⟨B + 2, t * 2, none⟩ (V32 (s t).1)).setCell ⟨B + 2, t * 2 + 1, none⟩ (V32 (s t).2)) B n P E s (t + 1) := by
  refine ⟨⟨(h.nodes.below.setCell (by simp) _).setCell (by simp) _, (h.nodes.box.setOther (by simp) _).setOther (by simp) _, ?_⟩, by rw [Deep.nblk_setCell, Deep.nblk_setCell, h.size], ?_⟩
  · obtain ⟨f, hf, hv⟩ := h.nodes.row
    exact ⟨f, (hf.setOther (by simp) _).setOther (by simp) _, hv⟩
  · refine ((h.st.set (t * 2) _).set (t * 2 + 1) _).congr (fun j _ => ?_)
    by_cases e1 : j = t * 2 + 1
    · subst e1
      rw [if_pos rfl, stCells_odd]; simp [part]
    · rw [if_neg e1]
      by_cases e0 : j = t * 2
      · subst e0
        rw [if_pos rfl, stCells_even]; simp [part]
      · rw [if_neg e0]
        simp only [stCells, part]
        by_cases hj : j / 2 < t
        · rw [if_pos hj, if_pos (by omega : j / 2 < t + 1)]
        · rw [if_neg hj, if_neg (by omega : ¬ j / 2 < t + 1)]

theorem stCells_full (s : St) (n j : Nat) (h : j < 2 * n) : stCells (part s n) j = stCells s j := by
  simp only [stCells, part]
  rw [if_pos (by omega : j / 2 < n)]

/-- The first t cells of a row filled. -/
def fill (f : Nat → BitVec 32) (t : Nat) : Nat → Value := fun i => if i < t then V32 (f i) else V32 0
theorem fill_set (f : Nat → BitVec 32) (t j : Nat) : (if j = t then V32 (f t) else fill f t j) = fill f (t + 1) j := by
  simp only [fill]
  by_cases e : j = t
  · subst e; simp
  · rw [if_neg e]
    by_cases h : j < t
    · rw [if_pos h, if_pos (by omega)]
    · rw [if_neg h, if_neg (by omega)]

structure Outs (w wr : World) (B n : Nat) (s : St) (t : Nat) : Prop where
  below : Below B w wr
  st : wr.rowIs (B + 2) 72 (2 * n) (stCells s)
  d : wr.rowIs (B + 3) 22 n (fill (fun i => (s i).1) t)
  g : wr.rowIs (B + 4) 22 n (fill (fun i => (s i).2) t)

theorem outs_start {w wr w' : World} {B n : Nat} {P : Nat → Int} {E : Nat → Nat} {s' : St} (hN : Nodes w wr B n P E n) (hsz : wr.heap.size = B + 3) (hI : Inv wr w' (B + 2) n s') :
    Outs w ((w'.alloc (.cells (madeCells #[.int .u32 0] n) 22)).alloc (.cells (madeCells #[.int .u32 0] n) 22)) B n s' 0 := by
  have hb := hN.below.grown hI.only (by omega) (fun k hk => by simp at hk; omega)
  have hs' := hI.size
  have r1 := World.rowIs_made w' (.int .u32 0) n 22
  have r2 := World.rowIs_made (w'.alloc (.cells (madeCells #[.int .u32 0] n) 22)) (.int .u32 0) n 22
  rw [hs', hsz] at r1
  rw [Deep.nblk_alloc, hs', hsz] at r2
  exact ⟨(hb.alloc (by omega) _).alloc (by rw [Deep.nblk_alloc]; omega) _, (hI.st.alloc _).alloc _, (r1.alloc _).congr (fun i _ => by simp [fill]; rfl), r2.congr (fun i _ => by simp [fill]; rfl)⟩

theorem outs_step {w wr : World} {B n : Nat} {s : St} {t : Nat} (h : Outs w wr B n s t) :
    Outs w ((wr.setCell ⟨B + 3, t, none⟩ (V32 (s t).1)).setCell ⟨B + 4, t, none⟩ (V32 (s t).2)) B n s (t + 1) :=
  ⟨(h.below.setCell (by simp) _).setCell (by simp) _, (h.st.setOther (by simp) _).setOther (by simp) _,
    ((h.d.set t _).setOther (by simp) _).congr (fun j _ => fill_set (fun i => (s i).1) t j),
    ((h.g.setOther (by simp) _).set t _).congr (fun j _ => fill_set (fun i => (s i).2) t j)⟩

set_option maxHeartbeats 2000000 in
theorem zzallow_any (bP bE bD bG n k : Nat) (P : Nat → Int) (E : Nat → Nat) (s : St) (m : BitVec 32) (w : World) (hn : n ≤ 4096) (hk : k < n)
    (hP : ∀ i, i < n → w.cell? ⟨bP, i, none⟩ = some (.int .i64 (P i)))
    (hE : ∀ i, i < n → w.cell? ⟨bE, i, none⟩ = some (.int .i64 (E i)))
    (hD : ∀ i, i < n → w.cell? ⟨bD, i, none⟩ = some (V32 (s i).1))
    (hG : ∀ i, i < n → w.cell? ⟨bG, i, none⟩ = some (V32 (s i).2))
    (hPb : ∀ i, i < n → -1 ≤ P i ∧ P i < i) (hEb : ∀ i, i < n → i < E i ∧ E i ≤ n) :
    Calls Try.prog 17 #[.slice (some ⟨bP, 0, none⟩) n n, .slice (some ⟨bE, 0, none⟩) n n, .slice (some ⟨bD, 0, none⟩) n n, .slice (some ⟨bG, 0, none⟩) n n, .int .i64 k, V32 m] w fun e w' =>
      ∃ bd bg, e = .returned (.tuple #[.slice (some ⟨bd, 0, none⟩) n n, .slice (some ⟨bg, 0, none⟩) n n]) ∧ Below w.heap.size w w' ∧
        w'.rowIs bd 22 n (fun i => V32 (allowF P E n s k m i).1) ∧ w'.rowIs bg 22 n (fun i => V32 (allowF P E n s k m i).2) ∧ w.heap.size ≤ bd ∧ w.heap.size ≤ bg := by
  have hmk := make_nodes n hn
  have lP := lt_of_cell (hP k hk)
  have lE := lt_of_cell (hE k hk)
  have lD := lt_of_cell (hD k hk)
  have lG := lt_of_cell (hG k hk)
  go_enter Try.func17, Try.ntmps17
  go_wp2_with fail
  clear hmk
  have hN0 := nodes_start w n P E
  go_loopg [15] n (fun g i wr => ∃ t : Nat, t ≤ n ∧ g = n - t ∧ i = .int .i64 t ∧ Nodes w wr w.heap.size n P E t ∧ wr.heap.size = w.heap.size + 2)
  case atStart => exact ⟨0, Nat.zero_le _, rfl, rfl, hN0, by simp⟩
  case round =>
    obtain ⟨t, ht, rfl, rfl, hN, hsz⟩ := hrel
    clear hN0
    by_cases hlt : t < n
    · have q1 := Below.at hN.below lP (hP t hlt)
      have q2 := Below.at hN.below lE (hE t hlt)
      have q3 : wr.cell? ⟨w.heap.size + 1, 0, none⟩ = some (.slice (some ⟨w.heap.size, 0, none⟩) n n) := hN.box.cell (by omega)
      obtain ⟨v17, q4⟩ : ∃ v, wr.cell? ⟨w.heap.size, t * 19 + 17, none⟩ = some v := by obtain ⟨f, hf, _⟩ := hN.row; exact ⟨_, hf.cell (i := t * 19 + 17) (by omega)⟩
      obtain ⟨v18, q5⟩ : ∃ v, wr.cell? ⟨w.heap.size, t * 19 + 18, none⟩ = some v := by obtain ⟨f, hf, _⟩ := hN.row; exact ⟨_, hf.cell (i := t * 19 + 18) (by omega)⟩
      have q6 : wr.frozen? ⟨w.heap.size, t * 19 + 17, none⟩ = false := by obtain ⟨f, hf, _⟩ := hN.row; exact hf.frozen _
      have q7 : wr.frozen? ⟨w.heap.size, t * 19 + 18, none⟩ = false := by obtain ⟨f, hf, _⟩ := hN.row; exact hf.frozen _
      have hltz : (t : Int) < (n : Int) := by omega
      go_wp2_with fail
      go_region
      go_wp2_with fail
      go_region
      go_wp2_with fail
      go_roundg (n - (t + 1))
      case measure => omega
      case rel => exact ⟨t + 1, by omega, rfl, by go_num, nodes_step hN, by simp [hsz]⟩
    · obtain rfl : t = n := by omega
      have hmk := make_states t hn
      go_wp2_with fail
      clear hmk
      have hS0 := states_start (s := s) hN hsz
      clear hN hsz
      go_loopg [17] t (fun g i wr => ∃ u : Nat, u ≤ t ∧ g = t - u ∧ i = .int .i64 u ∧ States w wr w.heap.size t P E s u)
      case atStart => exact ⟨0, Nat.zero_le _, rfl, rfl, hS0⟩
      case round =>
        obtain ⟨u, hu, rfl, rfl, hS⟩ := hrel
        clear hS0
        by_cases hlt : u < t
        · have q1 := Below.at hS.nodes.below lD (hD u hlt)
          have q2 := Below.at hS.nodes.below lG (hG u hlt)
          obtain ⟨v0, q4⟩ : ∃ v, wr.cell? ⟨w.heap.size + 2, u * 2, none⟩ = some v := ⟨_, hS.st.cell (by omega)⟩
          obtain ⟨v1, q5⟩ : ∃ v, wr.cell? ⟨w.heap.size + 2, u * 2 + 1, none⟩ = some v := ⟨_, hS.st.cell (by omega)⟩
          have q6 : wr.frozen? ⟨w.heap.size + 2, u * 2, none⟩ = false := hS.st.frozen _
          have q7 : wr.frozen? ⟨w.heap.size + 2, u * 2 + 1, none⟩ = false := hS.st.frozen _
          go_wp2_with fail
          go_roundg (t - (u + 1))
          case measure => omega
          case rel => exact ⟨u + 1, by omega, rfl, by go_num, states_step hS⟩
        · obtain rfl : u = t := by omega
          have hst := hS.st.congr (g := stCells s) (fun j hj => stCells_full s u j hj)
          have hmk2 := make_u32 u hn
          have hszr := hS.size
          go_wp2_with (go_at_call 24; refine (allow_any (w.heap.size + 1) w.heap.size (w.heap.size + 2) u k P E s m _ hn hk (by omega) (by omega) (hS.nodes.box.cell (by omega)) (fun i hi => hS.nodes.par hi hi) (fun i hi => hS.nodes.en hi hi) hPb hEb hst).mono ?_; rintro e w' ⟨rfl, hI⟩; have hsz' := hI.size.trans hszr)
          have hO0 := outs_start hS.nodes hszr hI
          clear hmk2 hst hS hI hszr hsz'
          go_loopg [20] u (fun g i wr => ∃ t : Nat, t ≤ u ∧ g = u - t ∧ i = .int .i64 t ∧ Outs w wr w.heap.size u (allowF P E u s k m) t)
          case atStart => exact ⟨0, Nat.zero_le _, rfl, rfl, hO0⟩
          case round =>
            obtain ⟨t, ht, rfl, rfl, hO⟩ := hrel
            clear hO0
            by_cases hlt : t < u
            · have q1 : wr.cell? ⟨w.heap.size + 2, t * 2, none⟩ = some (V32 (allowF P E u s k m t).1) := by rw [hO.st.cell (by omega), stCells_even]
              have q2 : wr.cell? ⟨w.heap.size + 2, t * 2 + 1, none⟩ = some (V32 (allowF P E u s k m t).2) := by rw [hO.st.cell (by omega), stCells_odd]
              obtain ⟨v0, q4⟩ : ∃ v, wr.cell? ⟨w.heap.size + 3, t, none⟩ = some v := ⟨_, hO.d.cell (by omega)⟩
              obtain ⟨v1, q5⟩ : ∃ v, wr.cell? ⟨w.heap.size + 4, t, none⟩ = some v := ⟨_, hO.g.cell (by omega)⟩
              have q6 : wr.frozen? ⟨w.heap.size + 3, t, none⟩ = false := hO.d.frozen _
              have q7 : wr.frozen? ⟨w.heap.size + 4, t, none⟩ = false := hO.g.frozen _
              go_wp2_with fail
              go_roundg (u - (t + 1))
              case measure => omega
              case rel => exact ⟨t + 1, by omega, rfl, by go_num, outs_step hO⟩
            · obtain rfl : t = u := by omega
              go_wp2_with fail
              go_ret2
              exact ⟨w.heap.size + 3, w.heap.size + 4, rfl, hO.below, hO.d.congr (fun i hi => by simp [fill, hi]), hO.g.congr (fun i hi => by simp [fill, hi]), by omega, by omega⟩
end Go.Proofs.Qxb6000012a
