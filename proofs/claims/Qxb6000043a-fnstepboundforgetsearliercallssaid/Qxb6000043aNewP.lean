import Derived.Test.Qxb6000043aDraw
namespace Go.Proofs.Qxb6000043a
open Go.RowKit

/-- The fourteen cells of a stepBound. -/
def sbCells (N : Nat) (ge gw gl gp gn gb gx : Nat) (lim work : Int) (ord path cand : Value) (mark : Int) : Nat → Value
  | 0 => .slice (some ⟨ge, 0, none⟩) N N
  | 1 => .slice (some ⟨gw, 0, none⟩) N N
  | 2 => .int .i64 lim
  | 3 => .slice none 0 0
  | 4 => .int .i64 work
  | 5 => .slice (some ⟨gl, 0, none⟩) N N
  | 6 => ord
  | 7 => path
  | 8 => .slice (some ⟨gp, 0, none⟩) N N
  | 9 => .slice (some ⟨gn, 0, none⟩) N N
  | 10 => cand
  | 11 => .slice (some ⟨gb, 0, none⟩) N N
  | 12 => .slice (some ⟨gx, 0, none⟩) N N
  | _ => .int .i64 mark

abbrev nilV : Value := .slice none 0 0
def arrV (N ge gw gl gp gn gb gx : Nat) (lim : Int) : Array Value :=
  #[.slice (some ⟨ge, 0, none⟩) N N, .slice (some ⟨gw, 0, none⟩) N N, .int .i64 lim, .slice none 0 0, .int .i64 0, .slice (some ⟨gl, 0, none⟩) N N, .slice none 0 0, .slice none 0 0,
    .slice (some ⟨gp, 0, none⟩) N N, .slice (some ⟨gn, 0, none⟩) N N, .slice none 0 0, .slice (some ⟨gb, 0, none⟩) N N, .slice (some ⟨gx, 0, none⟩) N N, .int .i64 0]

theorem run_build60 (w : World) (N ge gw gl gp gn gb gx : Nat) (lim : Int) :
    (Instr.build 60 #[(0, .slice (some ⟨ge, 0, none⟩) N N), (1, .slice (some ⟨gw, 0, none⟩) N N), (2, .int .i64 lim), (5, .slice (some ⟨gl, 0, none⟩) N N), (8, .slice (some ⟨gp, 0, none⟩) N N), (9, .slice (some ⟨gn, 0, none⟩) N N), (11, .slice (some ⟨gb, 0, none⟩) N N), (12, .slice (some ⟨gx, 0, none⟩) N N)]).run Try.prog w =
      .ok (.agg (arrV N ge gw gl gp gn gb gx lim)) w := by
  unfold arrV
  go_simp

theorem run_box60 (w : World) (N ge gw gl gp gn gb gx : Nat) (lim : Int) :
    (Instr.box 60 (.agg (arrV N ge gw gl gp gn gb gx lim))).run Try.prog w = .ok (.pointer (some ⟨w.heap.size, 0, none⟩)) (w.alloc (.cells (arrV N ge gw gl gp gn gb gx lim) 60)) := by
  unfold arrV
  go_simp

theorem arr_row (w : World) (N ge gw gl gp gn gb gx : Nat) (lim : Int) :
    (w.alloc (.cells (arrV N ge gw gl gp gn gb gx lim) 60)).rowIs w.heap.size 60 14 (sbCells N ge gw gl gp gn gb gx lim 0 nilV nilV nilV 0) := by
  refine World.rowIs_alloc w (arrV N ge gw gl gp gn gb gx lim) 60 _ (fun i hi => ?_)
  have hi' : i < 14 := hi
  match i, hi' with
  | 0, _ => rfl
  | 1, _ => rfl
  | 2, _ => rfl
  | 3, _ => rfl
  | 4, _ => rfl
  | 5, _ => rfl
  | 6, _ => rfl
  | 7, _ => rfl
  | 8, _ => rfl
  | 9, _ => rfl
  | 10, _ => rfl
  | 11, _ => rfl
  | 12, _ => rfl
  | 13, _ => rfl

/-- What operation j < 15 of the region leaves in its slot. -/
def valJ (a a' : Option Addr) (N c c' : Nat) (lim : Int) (G : Nat → Nat) : Nat → Value
  | 0 => .slice a N c
  | 2 => .slice a' N c'
  | 4 => .int .i64 lim
  | 5 => .int .i64 N
  | 7 => .int .i64 N
  | 9 => .int .i64 N
  | 11 => .int .i64 N
  | 13 => .int .i64 N
  | j => .slice (some ⟨G j, 0, none⟩) N N
def is3 (j : Nat) : Bool := j == 8 || j == 10 || j == 12 || j == 14
def hpJ (w : World) (N : Nat) (E Wt : Nat → List Nat) (G : Nat → Nat) (w' : World) (j : Nat) : Prop :=
  (j = 1 → ∃ B, VG w' (fun k => w.heap.size ≤ k) (G 1) N E B) ∧ (j = 3 → ∃ B, VG w' (fun k => w.heap.size ≤ k) (G 3) N Wt B) ∧
  (j = 6 → w.heap.size ≤ G 6 ∧ w'.rowIs (G 6) 21 N (fun _ => .int .i32 0)) ∧ (is3 j = true → w.heap.size ≤ G j ∧ w'.rowIs (G j) 3 N (fun _ => .int .i64 0))

def upd (G : Nat → Nat) (j g : Nat) : Nat → Nat := fun k => if k = j then g else G k
theorem upd_same (G : Nat → Nat) (j g : Nat) : upd G j g j = g := by simp [upd]
theorem upd_other (G : Nat → Nat) {j g k : Nat} (h : k ≠ j) : upd G j g k = G k := by simp [upd, h]
theorem val_upd {a a' : Option Addr} {N c c' : Nat} {lim : Int} {G : Nat → Nat} {j g k : Nat} (h : k ≠ j) : valJ a a' N c c' lim (upd G j g) k = valJ a a' N c c' lim G k := by
  unfold valJ
  split <;> first | rfl | rw [upd_other G h]

theorem hp_upd {w : World} {N : Nat} {E Wt : Nat → List Nat} {G : Nat → Nat} {w' w'' : World} {j g k : Nat} (h : k ≠ j) (hb : Below w'.heap.size w' w'') (hp : hpJ w N E Wt G w' k) : hpJ w N E Wt (upd G j g) w'' k := by
  obtain ⟨h1, h2, h3, h4⟩ := hp
  refine ⟨fun e => ?_, fun e => ?_, fun e => ?_, fun e => ?_⟩
  · subst e; obtain ⟨B, hB⟩ := h1 rfl; rw [upd_other G h]; exact ⟨B, hB.below hb⟩
  · subst e; obtain ⟨B, hB⟩ := h2 rfl; rw [upd_other G h]; exact ⟨B, hB.below hb⟩
  · subst e; obtain ⟨h5, h6⟩ := h3 rfl; rw [upd_other G h]; exact ⟨h5, Below.row hb h6.lt h6⟩
  · obtain ⟨h5, h6⟩ := h4 e; rw [upd_other G h]; exact ⟨h5, Below.row hb h6.lt h6⟩

structure NInv (w : World) (a a' : Option Addr) (N c c' : Nat) (lim : Int) (E Wt : Nat → List Nat) (l : Array Bool) (s : Act) (w' : World) : Prop where
  sz : l.size = 18
  l15 : l[15]? = some false
  l16 : l[16]? = some false
  l17 : l[17]? = some false
  tz : s.tmps.size = 27
  df : s.defers = []
  i0 : s.tmps[0]? = some (.slice a N c)
  i1 : s.tmps[1]? = some (.slice a' N c')
  i2 : s.tmps[2]? = some (.int .i64 lim)
  i7 : s.tmps[7]? = some (.int .i64 N)
  bel : Below w.heap.size w w'
  vals : ∃ G : Nat → Nat, (∀ j, j < 15 → l.getD j false = true → s.tmps[10 + j]? = some (valJ a a' N c c' lim G j) ∧ hpJ w N E Wt G w' j) ∧
    ∀ i j, i < 15 → j < 15 → l.getD i false = true → l.getD j false = true → is3 i = true → is3 j = true → i ≠ j → G i ≠ G j

theorem ninv_step {w : World} {a a' : Option Addr} {N c c' : Nat} {lim : Int} {E Wt : Nat → List Nat} {l : Array Bool} {s : Act} {w' w'' : World} (h : NInv w a a' N c c' lim E Wt l s w') (j g : Nat) (hj : j < 15)
    (hb : Below w'.heap.size w' w'') (v : Value) (hv : ∀ G : Nat → Nat, G j = g → v = valJ a a' N c c' lim G j) (hp : ∀ G : Nat → Nat, G j = g → hpJ w N E Wt G w'' j)
    (hg : is3 j = true → w'.heap.size ≤ g) : NInv w a a' N c c' lim E Wt (l.setIfInBounds j true) (s.put (some (10 + j)) v) w'' := by
  obtain ⟨G, h1, h2⟩ := h.vals
  have hl : ∀ k, k ≠ j → (l.setIfInBounds j true).getD k false = true → l.getD k false = true := by
    intro k hk e
    rwa [getD_set_ne _ (fun e => hk e.symm)] at e
  refine ⟨by simpa using h.sz, ?_, ?_, ?_, by rw [put_size]; exact h.tz, h.df, ?_, ?_, ?_, ?_, h.bel.trans (hb.mono h.bel.size), upd G j g, ?_, ?_⟩
  · rw [Array.getElem?_setIfInBounds, if_neg (by omega)]; exact h.l15
  · rw [Array.getElem?_setIfInBounds, if_neg (by omega)]; exact h.l16
  · rw [Array.getElem?_setIfInBounds, if_neg (by omega)]; exact h.l17
  · rw [put_other (by omega)]; exact h.i0
  · rw [put_other (by omega)]; exact h.i1
  · rw [put_other (by omega)]; exact h.i2
  · rw [put_other (by omega)]; exact h.i7
  · intro k hk hlk
    by_cases e : k = j
    · subst e
      exact ⟨by rw [put_same (by rw [h.tz]; omega), hv (upd G k g) (upd_same G k g)], hp (upd G k g) (upd_same G k g)⟩
    · obtain ⟨h3, h4⟩ := h1 k hk (hl k e hlk)
      exact ⟨by rw [put_other (by omega), h3, val_upd e], hp_upd e hb h4⟩
  · intro i k hi hk hli hlk h3i h3k hne
    by_cases e1 : i = j
    · subst e1
      have e2 : k ≠ i := fun e => hne e.symm
      rw [upd_same, upd_other G e2]
      have h5 := ((h1 k hk (hl k e2 hlk)).2.2.2.2 h3k).2.lt
      have := hg h3i
      omega
    · by_cases e2 : k = j
      · subst e2
        rw [upd_same, upd_other G e1]
        have h5 := ((h1 i hi (hl i e1 hli)).2.2.2.2 h3i).2.lt
        have := hg h3k
        omega
      · rw [upd_other G e1, upd_other G e2]
        exact h2 i k hi hk (hl i e1 hli) (hl k e2 hlk) h3i h3k hne
end Go.Proofs.Qxb6000043a
