import Derived.Test.Qxb6000043aSB
import Derived.Test.Qxb6000043aPostP
import Derived.WalkSmall
import Derived.Laws.OwnMore
namespace Go.Proofs.Qxb6000043a
open Go.RowKit

theorem Try.info66 : (Try.prog.info? 66).map (fun i => (i.zero, i.size, i.bytes)) = some (some (.agg #[.int .i32 0, .int .i64 0]), 2, 16) := by kernel_rfl

/-- The cells of the path, bottom first; the path is given top first. -/
def pv (p : List (Nat × Nat)) : List Value := p.reverse.flatMap fun x => [.int .i32 (x.1 : Nat), .int .i64 (x.2 : Nat)]
theorem pv_cons (v t : Nat) (p : List (Nat × Nat)) : pv ((v, t) :: p) = pv p ++ [.int .i32 (v : Nat), .int .i64 (t : Nat)] := by simp [pv]
theorem pv_len : ∀ p : List (Nat × Nat), (pv p).length = p.length * 2
  | [] => rfl
  | (v, t) :: p => by rw [pv_cons, List.length_append, pv_len p]; simp; omega
theorem pv_at0 (v t : Nat) (p : List (Nat × Nat)) : (pv ((v, t) :: p))[2 * p.length]? = some (.int .i32 (v : Nat)) := by
  rw [pv_cons, List.getElem?_append_right (by rw [pv_len]; omega), pv_len, show 2 * p.length - p.length * 2 = 0 by omega]; rfl
theorem pv_at1 (v t : Nat) (p : List (Nat × Nat)) : (pv ((v, t) :: p))[2 * p.length + 1]? = some (.int .i64 (t : Nat)) := by
  rw [pv_cons, List.getElem?_append_right (by rw [pv_len]; omega), pv_len, show 2 * p.length + 1 - p.length * 2 = 1 by omega]; rfl
theorem pv_set1 (v t t' : Nat) (p : List (Nat × Nat)) : (pv ((v, t) :: p)).set (2 * p.length + 1) (.int .i64 (t' : Nat)) = pv ((v, t') :: p) := by
  rw [pv_cons, pv_cons, List.set_append_right _ _ (by rw [pv_len]; omega), pv_len, show 2 * p.length + 1 - p.length * 2 = 1 by omega]; rfl

theorem own_keep {w w' : World} {base : Nat} {e : TypeId} {size : Nat} {V : Value} {n : Nat} {xs : List Value} (h : w.ownsRow base e size V n xs) (hk : ∀ g, V.ownBlock = some g → w'.heap[g]? = w.heap[g]?) : w'.ownsRow base e size V n xs := by
  refine ⟨h.1, ?_⟩
  rcases h.2 with h2 | ⟨g, cap, cur, rfl, hb, hg, r⟩
  · exact .inl h2
  · exact .inr ⟨g, cap, cur, rfl, hb, (hk g rfl).trans hg, r⟩
theorem own_type {w : World} {base : Nat} {e : TypeId} {size : Nat} {V : Value} {n : Nat} {xs : List Value} (h : w.ownsRow base e size V n xs) {g : Nat} (hg : V.ownBlock = some g) : ∃ c, w.heap[g]? = some (.cells c e) := by
  rcases h.2 with ⟨e1, _⟩ | ⟨g', cap, cur, rfl, _, hh, _⟩
  · rw [e1] at hg; cases hg
  · cases hg; exact ⟨cur, hh⟩
theorem own_lt {w : World} {base : Nat} {e : TypeId} {size : Nat} {V : Value} {n : Nat} {xs : List Value} (h : w.ownsRow base e size V n xs) {g : Nat} (hg : V.ownBlock = some g) : g < w.heap.size := by
  obtain ⟨c, hc⟩ := own_type h hg
  rcases Nat.lt_or_ge g w.heap.size with h1 | h1
  · exact h1
  · rw [Array.getElem?_eq_none h1] at hc; cases hc
theorem own_ne_row {w : World} {base : Nat} {e : TypeId} {size : Nat} {V : Value} {n : Nat} {xs : List Value} (h : w.ownsRow base e size V n xs) {b : Nat} {t : TypeId} {m : Nat} {f : Nat → Value} (hr : w.rowIs b t m f) (ht : e ≠ t) : V.ownBlock ≠ some b := by
  intro hg
  obtain ⟨c, h1⟩ := own_type h hg
  obtain ⟨c', h2, _⟩ := hr
  rw [h1] at h2
  simp at h2
  exact ht h2.2
theorem own_ne_own {w : World} {base : Nat} {e : TypeId} {size : Nat} {V : Value} {n : Nat} {xs : List Value} (h : w.ownsRow base e size V n xs) {base' : Nat} {e' : TypeId} {size' : Nat} {V' : Value} {n' : Nat} {xs' : List Value} (h' : w.ownsRow base' e' size' V' n' xs') (ht : e ≠ e') {g : Nat} (hg : V.ownBlock = some g) : V'.ownBlock ≠ some g := by
  intro hg'
  obtain ⟨c, h1⟩ := own_type h hg
  obtain ⟨c', h2⟩ := own_type h' hg'
  rw [h1] at h2
  simp at h2
  exact ht h2.2
theorem own_cell {w : World} {base : Nat} {e : TypeId} {size : Nat} {g n cap : Nat} {xs : List Value} (h : w.ownsRow base e size (.slice (some ⟨g, 0, none⟩) n cap) n xs) {j : Nat} {u : Value} (hj : xs[j]? = some u) : w.cell? ⟨g, j, none⟩ = some u := by
  rcases h.2 with ⟨e1, _⟩ | ⟨g', cap', cur, e1, _, hg, hle, hm, hs, ht⟩
  · cases e1
  · cases e1
    have hjl : j < n * size := by
      have := (List.getElem?_eq_some_iff.1 hj).1
      rwa [h.1] at this
    rw [← ht, List.getElem?_take, if_pos hjl, Array.getElem?_toList] at hj
    simp [World.cell?, hg, hj]

/-- What stays in the course of a search, and where the call began. -/
structure YC where
  B : Nat
  ge : Nat
  gw : Nat
  gl : Nat
  gp : Nat
  gn : Nat
  gb : Nat
  gx : Nat
  Be : Nat → Nat
  N : Nat
  E : Nat → List Nat
  lim : Nat
  mrk : Nat
  cand : Value
  ord : Value
  path : Value
  w : World

def YC.X (c : YC) (k : Nat) : Prop := k = c.B ∨ k = c.gl ∨ k = c.gp ∨ k = c.gn ∨ c.ord.ownBlock = some k ∨ c.path.ownBlock = some k
def YC.sb (c : YC) (work : Int) (ord path : Value) : Nat → Value := sbCells c.N c.ge c.gw c.gl c.gp c.gn c.gb c.gx c.lim work ord path c.cand c.mrk

structure YFix (c : YC) : Prop where
  ev : VG c.w (fun _ => True) c.ge c.N c.E c.Be
  nge : ¬ c.X c.ge
  nBe : ∀ v, v < c.N → ¬ c.X (c.Be v)
  npn : c.gp ≠ c.gn
  hN : c.N ≤ 4096
  hE : ∀ v, v < c.N → ∀ q ∈ c.E v, q < c.N ∧ q ≠ v
  lE : ∀ v, v < c.N → (c.E v).length ≤ 1048576
  hl : c.lim ≤ 9223372036854775806

/-- The state: the order ol lies at ordV, the path p at pathV; left, paths, length hold lf, P, L. -/
structure YS (c : YC) (wr : World) (work : Int) (ordV : Value) (ol : List Nat) (pathV : Value) (p : List (Nat × Nat)) (lf : Nat → Int) (P L : Nat → Nat) : Prop where
  kept : Kept c.X c.w wr
  st : wr.rowIs c.B 60 14 (c.sb work ordV pathV)
  oo : wr.ownsRow 0 54 1 ordV ol.length (cv ol)
  po : wr.ownsRow 0 66 2 pathV p.length (pv p)
  rl : wr.rowIs c.gl 21 c.N (fun x => .int .i32 (lf x))
  rp : wr.rowIs c.gp 3 c.N (fun x => .int .i64 (P x : Nat))
  rn : wr.rowIs c.gn 3 c.N (fun x => .int .i64 (L x : Nat))
  og : ∀ g, ordV.ownBlock = some g → c.ord.ownBlock = some g ∨ c.w.heap.size ≤ g
  pg : ∀ g, pathV.ownBlock = some g → c.path.ownBlock = some g ∨ c.w.heap.size ≤ g

theorem ysb_work (c : YC) (work work' : Int) (o p : Value) : ∀ i, i < 14 → (if i = 4 then .int .i64 work' else c.sb work o p i) = c.sb work' o p i := by
  intro i hi
  match i, hi with
  | 0, _ | 1, _ | 2, _ | 3, _ | 4, _ | 5, _ | 6, _ | 7, _ | 8, _ | 9, _ | 10, _ | 11, _ | 12, _ | 13, _ => rfl
theorem ysb_ord (c : YC) (work : Int) (o o' p : Value) : ∀ i, i < 14 → (if i = 6 then o' else c.sb work o p i) = c.sb work o' p i := by
  intro i hi
  match i, hi with
  | 0, _ | 1, _ | 2, _ | 3, _ | 4, _ | 5, _ | 6, _ | 7, _ | 8, _ | 9, _ | 10, _ | 11, _ | 12, _ | 13, _ => rfl
theorem ysb_path (c : YC) (work : Int) (o p p' : Value) : ∀ i, i < 14 → (if i = 7 then p' else c.sb work o p i) = c.sb work o p' i := by
  intro i hi
  match i, hi with
  | 0, _ | 1, _ | 2, _ | 3, _ | 4, _ | 5, _ | 6, _ | 7, _ | 8, _ | 9, _ | 10, _ | 11, _ | 12, _ | 13, _ => rfl

namespace YS
variable {c : YC} {wr : World} {work : Int} {ordV : Value} {ol : List Nat} {pathV : Value} {p : List (Nat × Nat)} {lf : Nat → Int} {P L : Nat → Nat}

theorem drewN (h : YS c wr work ordV ol pathV p lf P L) (n : Nat) : YS c (wr.drewN n) work ordV ol pathV p lf P L := ⟨h.kept.drewN n, h.st, h.oo, h.po, h.rl, h.rp, h.rn, h.og, h.pg⟩
theorem drew (h : YS c wr work ordV ol pathV p lf P L) : YS c wr.drew work ordV ol pathV p lf P L := ⟨h.kept.drew, h.st, h.oo, h.po, h.rl, h.rp, h.rn, h.og, h.pg⟩
theorem vE (h : YS c wr work ordV ol pathV p lf P L) (hf : YFix c) : VG wr (fun _ => True) c.ge c.N c.E c.Be := h.kept.vg hf.ev hf.nge hf.nBe
theorem congr (h : YS c wr work ordV ol pathV p lf P L) {lf' : Nat → Int} {P' L' : Nat → Nat} (h1 : ∀ x, x < c.N → lf x = lf' x) (h2 : ∀ x, x < c.N → P x = P' x) (h3 : ∀ x, x < c.N → L x = L' x) : YS c wr work ordV ol pathV p lf' P' L' :=
  ⟨h.kept, h.st, h.oo, h.po, h.rl.congr (fun i hi => by rw [h1 i hi]), h.rp.congr (fun i hi => by rw [h2 i hi]), h.rn.congr (fun i hi => by rw [h3 i hi]), h.og, h.pg⟩
theorem setl (h : YS c wr work ordV ol pathV p lf P L) (x : Nat) (v : Int) : YS c (wr.setCell ⟨c.gl, x, none⟩ (.int .i32 v)) work ordV ol pathV p (updF lf x v) P L :=
  ⟨h.kept.setCell (.inl (.inr (.inl rfl))) _, h.st.setOther (ne_type h.st h.rl (by decide)) _, ownsRow_setCell_other h.oo (own_ne_row h.oo h.rl (by decide)) _, ownsRow_setCell_other h.po (own_ne_row h.po h.rl (by decide)) _,
    (h.rl.set x _).congr (fun j _ => by by_cases e : j = x <;> simp [updF, e]), h.rp.setOther (ne_type h.rp h.rl (by decide)) _, h.rn.setOther (ne_type h.rn h.rl (by decide)) _, h.og, h.pg⟩
theorem setp (h : YS c wr work ordV ol pathV p lf P L) (hf : YFix c) (x v : Nat) : YS c (wr.setCell ⟨c.gp, x, none⟩ (.int .i64 (v : Nat))) work ordV ol pathV p lf (updF P x v) L :=
  ⟨h.kept.setCell (.inl (.inr (.inr (.inl rfl)))) _, h.st.setOther (ne_type h.st h.rp (by decide)) _, ownsRow_setCell_other h.oo (own_ne_row h.oo h.rp (by decide)) _, ownsRow_setCell_other h.po (own_ne_row h.po h.rp (by decide)) _,
    h.rl.setOther (ne_type h.rl h.rp (by decide)) _, (h.rp.set x _).congr (fun j _ => by by_cases e : j = x <;> simp [updF, e]), h.rn.setOther (fun e => hf.npn e.symm) _, h.og, h.pg⟩
theorem setn (h : YS c wr work ordV ol pathV p lf P L) (hf : YFix c) (x v : Nat) : YS c (wr.setCell ⟨c.gn, x, none⟩ (.int .i64 (v : Nat))) work ordV ol pathV p lf P (updF L x v) :=
  ⟨h.kept.setCell (.inl (.inr (.inr (.inr (.inl rfl))))) _, h.st.setOther (ne_type h.st h.rn (by decide)) _, ownsRow_setCell_other h.oo (own_ne_row h.oo h.rn (by decide)) _, ownsRow_setCell_other h.po (own_ne_row h.po h.rn (by decide)) _,
    h.rl.setOther (ne_type h.rl h.rn (by decide)) _, h.rp.setOther hf.npn _, (h.rn.set x _).congr (fun j _ => by by_cases e : j = x <;> simp [updF, e]), h.og, h.pg⟩
theorem setWork (h : YS c wr work ordV ol pathV p lf P L) (work' : Int) : YS c (wr.setCell ⟨c.B, 4, none⟩ (.int .i64 work')) work' ordV ol pathV p lf P L :=
  ⟨h.kept.setCell (.inl (.inl rfl)) _, (h.st.set 4 _).congr (ysb_work c work work' ordV pathV), ownsRow_setCell_other h.oo (own_ne_row h.oo h.st (by decide)) _, ownsRow_setCell_other h.po (own_ne_row h.po h.st (by decide)) _,
    h.rl.setOther (ne_type h.rl h.st (by decide)) _, h.rp.setOther (ne_type h.rp h.st (by decide)) _, h.rn.setOther (ne_type h.rn h.st (by decide)) _, h.og, h.pg⟩
/-- The field order is set to a row of the same block, or of none. -/
theorem setOrd (h : YS c wr work ordV ol pathV p lf P L) {ordV' : Value} {ol' : List Nat} (ho : wr.ownsRow 0 54 1 ordV' ol'.length (cv ol')) (hg : ∀ g, ordV'.ownBlock = some g → c.ord.ownBlock = some g ∨ c.w.heap.size ≤ g) : YS c (wr.setCell ⟨c.B, 6, none⟩ ordV') work ordV' ol' pathV p lf P L :=
  ⟨h.kept.setCell (.inl (.inl rfl)) _, (h.st.set 6 _).congr (ysb_ord c work ordV ordV' pathV), ownsRow_setCell_other ho (own_ne_row ho h.st (by decide)) _, ownsRow_setCell_other h.po (own_ne_row h.po h.st (by decide)) _,
    h.rl.setOther (ne_type h.rl h.st (by decide)) _, h.rp.setOther (ne_type h.rp h.st (by decide)) _, h.rn.setOther (ne_type h.rn h.st (by decide)) _, hg, h.pg⟩
theorem setPath (h : YS c wr work ordV ol pathV p lf P L) {pathV' : Value} {p' : List (Nat × Nat)} (ho : wr.ownsRow 0 66 2 pathV' p'.length (pv p')) (hg : ∀ g, pathV'.ownBlock = some g → c.path.ownBlock = some g ∨ c.w.heap.size ≤ g) : YS c (wr.setCell ⟨c.B, 7, none⟩ pathV') work ordV ol pathV' p' lf P L :=
  ⟨h.kept.setCell (.inl (.inl rfl)) _, (h.st.set 7 _).congr (ysb_path c work ordV pathV pathV'), ownsRow_setCell_other h.oo (own_ne_row h.oo h.st (by decide)) _, ownsRow_setCell_other ho (own_ne_row ho h.st (by decide)) _,
    h.rl.setOther (ne_type h.rl h.st (by decide)) _, h.rp.setOther (ne_type h.rp h.st (by decide)) _, h.rn.setOther (ne_type h.rn h.st (by decide)) _, h.og, hg⟩
/-- Another world in which every block but the path's (or the order's) is as it was. -/
theorem move (h : YS c wr work ordV ol pathV p lf P L) {w1 : World} (hk : Kept c.X c.w w1) (hb : ∀ k, k < wr.heap.size → ordV.ownBlock ≠ some k → pathV.ownBlock ≠ some k → w1.heap[k]? = wr.heap[k]?) (ho : w1.ownsRow 0 54 1 ordV ol.length (cv ol)) {p' : List (Nat × Nat)} (hp : w1.ownsRow 0 66 2 pathV p'.length (pv p')) :
    YS c w1 work ordV ol pathV p' lf P L :=
  ⟨hk, h.st.of_block (hb _ h.st.lt (own_ne_row h.oo h.st (by decide)) (own_ne_row h.po h.st (by decide))), ho, hp,
    h.rl.of_block (hb _ h.rl.lt (own_ne_row h.oo h.rl (by decide)) (own_ne_row h.po h.rl (by decide))), h.rp.of_block (hb _ h.rp.lt (own_ne_row h.oo h.rp (by decide)) (own_ne_row h.po h.rp (by decide))),
    h.rn.of_block (hb _ h.rn.lt (own_ne_row h.oo h.rn (by decide)) (own_ne_row h.po h.rn (by decide))), h.og, h.pg⟩
theorem taken {g cap : Nat} {v t : Nat} (h : YS c wr work ordV ol (.slice (some ⟨g, 0, none⟩) (p.length + 1) cap) ((v, t) :: p) lf P L) (t' : Nat) : YS c (wr.setCell ⟨g, 2 * p.length + 1, none⟩ (.int .i64 (t' : Nat))) work ordV ol (.slice (some ⟨g, 0, none⟩) (p.length + 1) cap) ((v, t') :: p) lf P L := by
  have hX : c.X g ∨ c.w.heap.size ≤ g := (h.pg g rfl).elim (fun e => .inl (.inr (.inr (.inr (.inr (.inr e)))))) .inr
  have hs := (World.ownsRow.stored h.po (2 * p.length + 1) (.int .i64 (t' : Nat))).1
  rw [pv_set1] at hs
  have ho : (wr.setCell ⟨g, 2 * p.length + 1, none⟩ (.int .i64 (t' : Nat))).ownsRow 0 54 1 ordV ol.length (cv ol) := ownsRow_setCell_other h.oo (a := ⟨g, 2 * p.length + 1, none⟩) (fun e => own_ne_own h.oo h.po (by decide) e rfl) _
  generalize hu : (Value.int .i64 (t' : Nat)) = u at hs ho ⊢
  generalize 2 * p.length + 1 = q at hs ho ⊢
  exact h.move (h.kept.setCell (a := ⟨g, q, none⟩) hX u) (fun k _ _ hk => Deep.blk_setCell_other _ _ _ _ (fun e => hk (congrArg some e.symm))) ho hs
/-- An append to the path's row has been made; the field still holds the old value: the fields' other facts. -/
theorem grownPath (h : YS c wr work ordV ol pathV p lf P L) {w0 w1 : World} (hw0 : w0.heap.size = wr.heap.size + 1 ∧ (∀ k, k < wr.heap.size → w0.heap[k]? = wr.heap[k]?) ∧ w0.os = wr.os ∧ w0.tape = wr.tape ∧ w0.output = wr.output) (hg : w0.grownBy w1 pathV.ownBlock)
    {g cap : Nat} {p' : List (Nat × Nat)} (hp : w1.ownsRow 0 66 2 (.slice (some ⟨g, 0, none⟩) p'.length cap) p'.length (pv p')) (hat : pathV.ownBlock = some g ∨ g = wr.heap.size + 1) :
    YS c (w1.setCell ⟨c.B, 7, none⟩ (.slice (some ⟨g, 0, none⟩) p'.length cap)) work ordV ol (.slice (some ⟨g, 0, none⟩) p'.length cap) p' lf P L := by
  obtain ⟨hs, hb0, e1, e2, e3⟩ := hw0
  have hb : ∀ k, k < wr.heap.size → pathV.ownBlock ≠ some k → w1.heap[k]? = wr.heap[k]? := fun k hk hne => (hg.block k (by omega) (fun e => hne e.symm)).trans (hb0 k hk)
  have hrow : ∀ {b : Nat} {t : TypeId} {n : Nat} {f : Nat → Value}, wr.rowIs b t n f → 66 ≠ t → w1.rowIs b t n f := fun hr ht => hr.of_block (hb _ hr.lt (own_ne_row h.po hr ht))
  have hk : Kept c.X c.w w1 := by
    refine ⟨hg.os.trans (e1.trans h.kept.os), hg.tape.trans (e2.trans h.kept.tape), hg.output.trans (e3.trans h.kept.output), Nat.le_trans h.kept.size (Nat.le_trans (by omega) hg.size), fun k hk hn => ?_⟩
    have hkw : k < wr.heap.size := Nat.lt_of_lt_of_le hk h.kept.size
    refine (hb k hkw (fun e => ?_)).trans (h.kept.block k hk hn)
    exact (h.pg k e).elim (fun e => hn (.inr (.inr (.inr (.inr (.inr e)))))) (fun h => by omega)
  have oo : w1.ownsRow 0 54 1 ordV ol.length (cv ol) := own_keep h.oo (fun k e => hb k (own_lt h.oo e) (own_ne_own h.oo h.po (by decide) e))
  have st := hrow h.st (by decide)
  have hsz := h.kept.size
  refine ⟨hk.setCell (.inl (.inl rfl)) _, (st.set 7 _).congr (ysb_path c work ordV pathV _), ownsRow_setCell_other oo (own_ne_row oo st (by decide)) _, ownsRow_setCell_other hp (own_ne_row hp st (by decide)) _,
    (hrow h.rl (by decide)).setOther (ne_type h.rl h.st (by decide)) _, (hrow h.rp (by decide)).setOther (ne_type h.rp h.st (by decide)) _, (hrow h.rn (by decide)).setOther (ne_type h.rn h.st (by decide)) _, h.og, fun k e => ?_⟩
  cases e
  rcases hat with e | e
  · exact h.pg _ e
  · exact .inr (by show c.w.heap.size ≤ g; omega)
theorem grownOrd (h : YS c wr work ordV ol pathV p lf P L) {w0 w1 : World} (hw0 : w0.heap.size = wr.heap.size + 1 ∧ (∀ k, k < wr.heap.size → w0.heap[k]? = wr.heap[k]?) ∧ w0.os = wr.os ∧ w0.tape = wr.tape ∧ w0.output = wr.output) (hg : w0.grownBy w1 ordV.ownBlock)
    {a : Option Addr} {n cap : Nat} {ol' : List Nat} (hp : w1.ownsRow 0 54 1 (.slice a n cap) ol'.length (cv ol')) (hat : (Value.slice a n cap).ownBlock = ordV.ownBlock ∨ (Value.slice a n cap).ownBlock = some w0.heap.size) :
    YS c (w1.setCell ⟨c.B, 6, none⟩ (.slice a n cap)) work (.slice a n cap) ol' pathV p lf P L := by
  obtain ⟨hs, hb0, e1, e2, e3⟩ := hw0
  have hb : ∀ k, k < wr.heap.size → ordV.ownBlock ≠ some k → w1.heap[k]? = wr.heap[k]? := fun k hk hne => (hg.block k (by omega) (fun e => hne e.symm)).trans (hb0 k hk)
  have hrow : ∀ {b : Nat} {t : TypeId} {n : Nat} {f : Nat → Value}, wr.rowIs b t n f → 54 ≠ t → w1.rowIs b t n f := fun hr ht => hr.of_block (hb _ hr.lt (own_ne_row h.oo hr ht))
  have hk : Kept c.X c.w w1 := by
    refine ⟨hg.os.trans (e1.trans h.kept.os), hg.tape.trans (e2.trans h.kept.tape), hg.output.trans (e3.trans h.kept.output), Nat.le_trans h.kept.size (Nat.le_trans (by omega) hg.size), fun k hk hn => ?_⟩
    have hkw : k < wr.heap.size := Nat.lt_of_lt_of_le hk h.kept.size
    refine (hb k hkw (fun e => ?_)).trans (h.kept.block k hk hn)
    exact (h.og k e).elim (fun e => hn (.inr (.inr (.inr (.inr (.inl e)))))) (fun h => by omega)
  have po : w1.ownsRow 0 66 2 pathV p.length (pv p) := own_keep h.po (fun k e => hb k (own_lt h.po e) (own_ne_own h.po h.oo (by decide) e))
  have st := hrow h.st (by decide)
  have hsz := h.kept.size
  refine ⟨hk.setCell (.inl (.inl rfl)) _, (st.set 6 _).congr (ysb_ord c work ordV _ pathV), ownsRow_setCell_other hp (own_ne_row hp st (by decide)) _, ownsRow_setCell_other po (own_ne_row po st (by decide)) _,
    (hrow h.rl (by decide)).setOther (ne_type h.rl h.st (by decide)) _, (hrow h.rp (by decide)).setOther (ne_type h.rp h.st (by decide)) _, (hrow h.rn (by decide)).setOther (ne_type h.rn h.st (by decide)) _, fun k e => ?_, h.pg⟩
  rcases hat with e1 | e1
  · rw [e1] at e; exact h.og _ e
  · rw [e1] at e; cases e; exact .inr (by show c.w.heap.size ≤ w0.heap.size; omega)
end YS

theorem slice0o_run (V : Value) (l : List Nat) (w0 : World) (h : w0.ownsRow 0 54 1 V l.length (cv l)) :
    ∃ a k, (∀ w, (Instr.sliceAt 57 V none (some (.int .i64 0)) none).run Try.prog w = .ok (.slice a 0 k) w) ∧ w0.ownsRow 0 54 1 (.slice a 0 k) 0 [] ∧ (Value.slice a 0 k).ownBlock = V.ownBlock := by
  rcases h.2 with ⟨rfl, h0⟩ | ⟨g, cap, cur, rfl, _, hg, hle, hm, hs, ht⟩
  · exact ⟨none, 0, fun w => by go_simp, World.ownsRow_nil _ _ _ _, rfl⟩
  · exact ⟨some ⟨g, 0, none⟩, cap, fun w => by go_simp, ⟨rfl, .inr ⟨g, cap, cur, rfl, Nat.zero_le _, hg, Nat.zero_le _, hm, hs, by simp⟩⟩, rfl⟩
theorem slice0p_run (V : Value) (p : List (Nat × Nat)) (w0 : World) (h : w0.ownsRow 0 66 2 V p.length (pv p)) :
    ∃ a k, (∀ w, (Instr.sliceAt 58 V none (some (.int .i64 0)) none).run Try.prog w = .ok (.slice a 0 k) w) ∧ w0.ownsRow 0 66 2 (.slice a 0 k) 0 [] ∧ (Value.slice a 0 k).ownBlock = V.ownBlock := by
  rcases h.2 with ⟨rfl, h0⟩ | ⟨g, cap, cur, rfl, _, hg, hle, hm, hs, ht⟩
  · exact ⟨none, 0, fun w => by go_simp, World.ownsRow_nil _ _ _ _, rfl⟩
  · exact ⟨some ⟨g, 0, none⟩, cap, fun w => by go_simp, ⟨rfl, .inr ⟨g, cap, cur, rfl, Nat.zero_le _, hg, Nat.zero_le _, hm, hs, by simp⟩⟩, rfl⟩
end Go.Proofs.Qxb6000043a
