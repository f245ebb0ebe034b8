import Derived.Test.Qxb6000043aSB
namespace Go.Proofs.Qxb6000043a
open Go.RowKit

/-- Does c wait for x and x for c? -/
def mt (E Wt : Nat → List Nat) (x c : Nat) : Bool := (E x).contains c && (Wt x).contains c
/-- How many join the clique behind x, the candidates being cs. -/
def gr (E Wt : Nat → List Nat) : Nat → List Nat → Nat → Nat
  | 0, _, _ => 0
  | f + 1, cs, x => match cs.filter (mt E Wt x) with
    | [] => 0
    | c :: rest => 1 + gr E Wt f (c :: rest) c
theorem gr_le (E Wt : Nat → List Nat) : ∀ (f : Nat) (cs : List Nat) (x : Nat), gr E Wt f cs x ≤ f
  | 0, _, _ => Nat.le_refl _
  | f + 1, cs, x => by
    unfold gr
    split
    · omega
    · have := gr_le E Wt f; rename_i c rest _; have := this (c :: rest) c; omega
theorem gr_nil {E Wt : Nat → List Nat} {f : Nat} {cs : List Nat} {x : Nat} (h : cs.filter (mt E Wt x) = []) : gr E Wt f cs x = 0 := by
  cases f with
  | zero => rfl
  | succ f => unfold gr; rw [h]
theorem gr_cons {E Wt : Nat → List Nat} {f : Nat} {cs : List Nat} {x c : Nat} {rest : List Nat} (h : cs.filter (mt E Wt x) = c :: rest) : gr E Wt (f + 1) cs x = 1 + gr E Wt f (c :: rest) c := by
  rw [gr, h]
def clq (E Wt : Nat → List Nat) (r : Nat) : Nat := 1 + gr E Wt ((E r).length + 1) (E r) r

/-- The steps, from j on. -/
def stL (M k : Nat) : Nat → Nat → Nat → Nat → Nat
  | 0, _, _, st => st
  | f + 1, j, o, st => if k < j then st else if M ≤ capN M (o * (k - j + 1)) then capN M (o * (k - j + 1)) else
    stL M k f (j + 1) (capN M (o * (k - j + 1))) (capN M (st + capN M (capN M (o * (k - j + 1)) / j * (j + 1))))
def cliqueF (M k : Nat) : Nat := stL M k k 2 k 0

theorem filt_lt {E Wt : Nat → List Nat} {y : Nat} {rest : List Nat} (h : mt E Wt y y = false) : ((y :: rest).filter (mt E Wt y)).length < (y :: rest).length := by
  rw [List.filter_cons_of_neg (by rw [h]; simp)]
  have := List.length_filter_le (mt E Wt y) rest
  simp only [List.length_cons]; omega
theorem stL_end {M k f j o st : Nat} (h : k < j) : stL M k f j o st = st := by
  cases f with
  | zero => rfl
  | succ f => rw [stL, if_pos h]
theorem stL_big {M k f j o st : Nat} (h : ¬ k < j) (h2 : M ≤ capN M (o * (k - j + 1))) : stL M k (f + 1) j o st = capN M (o * (k - j + 1)) := by rw [stL, if_neg h, if_pos h2]
theorem stL_next {M k f j o st : Nat} (h : ¬ k < j) (h2 : ¬ M ≤ capN M (o * (k - j + 1))) : stL M k (f + 1) j o st = stL M k f (j + 1) (capN M (o * (k - j + 1))) (capN M (st + capN M (capN M (o * (k - j + 1)) / j * (j + 1)))) := by rw [stL, if_neg h, if_neg h2]

/-- What stays, and where the call began. -/
structure CC where
  B : Nat
  ge : Nat
  gw : Nat
  gl : Nat
  gp : Nat
  gn : Nat
  gb : Nat
  gx : Nat
  Be : Nat → Nat
  Bw : Nat → Nat
  N : Nat
  E : Nat → List Nat
  Wt : Nat → List Nat
  lim : Nat
  ord : Value
  path : Value
  cand : Value
  w : World

def CC.X (c : CC) (k : Nat) : Prop := k = c.B ∨ k = c.gb ∨ k = c.gx ∨ c.cand.ownBlock = some k
def CC.R (c : CC) (g : Nat) : Prop := c.cand.ownBlock = some g ∨ c.w.heap.size ≤ g
def CC.sb (c : CC) (work : Int) (cand : Value) (mk : Nat) : Nat → Value := sbCells c.N c.ge c.gw c.gl c.gp c.gn c.gb c.gx c.lim work c.ord c.path cand mk

structure CFix (c : CC) : Prop where
  ev : VG c.w (fun _ => True) c.ge c.N c.E c.Be
  wv : VG c.w (fun _ => True) c.gw c.N c.Wt c.Bw
  nge : ¬ c.X c.ge
  ngw : ¬ c.X c.gw
  nBe : ∀ v, v < c.N → ¬ c.X (c.Be v)
  nBw : ∀ v, v < c.N → ¬ c.X (c.Bw v)
  nbx : c.gb ≠ c.gx
  hN : c.N ≤ 4096
  hE : ∀ v, v < c.N → ∀ q ∈ c.E v, q < c.N ∧ q ≠ v
  hW : ∀ v, v < c.N → ∀ q ∈ c.Wt v, q < c.N
  lE : ∀ v, v < c.N → (c.E v).length ≤ 1048576
  lW : ∀ v, v < c.N → (c.Wt v).length ≤ 8589934592
  hl : c.lim ≤ 9223372036854775806

structure CS (c : CC) (wr : World) (work : Int) (cand : Value) (cs : List Nat) (bA wA : Nat → Int) (mk : Nat) : Prop where
  kept : Kept c.X c.w wr
  st : wr.rowIs c.B 60 14 (c.sb work cand mk)
  ca : CandAt wr c.Be c.Bw c.N c.R cand cs
  rb : wr.rowIs c.gb 3 c.N (fun v => .int .i64 (bA v))
  rx : wr.rowIs c.gx 3 c.N (fun v => .int .i64 (wA v))

theorem CandAt.keep {w w' : World} {Be Bw : Nat → Nat} {N : Nat} {R : Nat → Prop} {cand : Value} {cs : List Nat} (h : CandAt w Be Bw N R cand cs) (hk : ∀ g, cand.ownBlock = some g → w'.heap[g]? = w.heap[g]?) : CandAt w' Be Bw N R cand cs := by
  rcases h with h | ⟨g, cap, F, rfl, h1, h2, h3, h4, h5, h6⟩
  · exact .inl h
  · exact .inr ⟨g, cap, F, rfl, h1, h2, h3.of_block (hk g rfl), h4, h5, h6⟩
theorem CandAt.form {w : World} {Be Bw : Nat → Nat} {N : Nat} {R : Nat → Prop} {cand : Value} {cs : List Nat} (h : CandAt w Be Bw N R cand cs) : ∃ a cap, cand = .slice a cs.length cap := by
  rcases h with ⟨rfl, rfl⟩ | ⟨g, cap, F, rfl, _⟩
  · exact ⟨none, 0, rfl⟩
  · exact ⟨_, cap, rfl⟩
theorem CandAt.type {w : World} {Be Bw : Nat → Nat} {N : Nat} {R : Nat → Prop} {cand : Value} {cs : List Nat} (h : CandAt w Be Bw N R cand cs) {g : Nat} (hg : cand.ownBlock = some g) {b : Nat} {t : TypeId} {n : Nat} {f : Nat → Value} (hb : w.rowIs b t n f) (ht : t ≠ 54) : g ≠ b := by
  rcases h with ⟨rfl, _⟩ | ⟨g', cap, F, rfl, h1, h2, h3, h4, h5, h6⟩
  · cases hg
  · cases hg
    exact ne_type h3 hb (fun e => ht e.symm)

theorem sb_mark (c : CC) (work : Int) (cand : Value) (mk mk' : Nat) (v : Value) (hv : v = .int .i64 mk') : ∀ i, i < 14 → (if i = 13 then v else c.sb work cand mk i) = c.sb work cand mk' i := by
  subst hv
  intro i hi
  match i, hi with
  | 0, _ | 1, _ | 2, _ | 3, _ | 4, _ | 5, _ | 6, _ | 7, _ | 8, _ | 9, _ | 10, _ | 11, _ | 12, _ | 13, _ => rfl
theorem sb_work (c : CC) (work work' : Int) (cand : Value) (mk : Nat) : ∀ i, i < 14 → (if i = 4 then .int .i64 work' else c.sb work cand mk i) = c.sb work' cand mk i := by
  intro i hi
  match i, hi with
  | 0, _ | 1, _ | 2, _ | 3, _ | 4, _ | 5, _ | 6, _ | 7, _ | 8, _ | 9, _ | 10, _ | 11, _ | 12, _ | 13, _ => rfl
theorem sb_cand (c : CC) (work : Int) (cand cand' : Value) (mk : Nat) : ∀ i, i < 14 → (if i = 10 then cand' else c.sb work cand mk i) = c.sb work cand' mk i := by
  intro i hi
  match i, hi with
  | 0, _ | 1, _ | 2, _ | 3, _ | 4, _ | 5, _ | 6, _ | 7, _ | 8, _ | 9, _ | 10, _ | 11, _ | 12, _ | 13, _ => rfl

namespace CS
variable {c : CC} {wr : World} {work : Int} {cand : Value} {cs : List Nat} {bA wA : Nat → Int} {mk : Nat}

theorem drewN (h : CS c wr work cand cs bA wA mk) (n : Nat) : CS c (wr.drewN n) work cand cs bA wA mk := ⟨h.kept.drewN n, h.st, h.ca, h.rb, h.rx⟩
theorem vE (h : CS c wr work cand cs bA wA mk) (hf : CFix c) : VG wr (fun _ => True) c.ge c.N c.E c.Be := h.kept.vg hf.ev hf.nge hf.nBe
theorem vW (h : CS c wr work cand cs bA wA mk) (hf : CFix c) : VG wr (fun _ => True) c.gw c.N c.Wt c.Bw := h.kept.vg hf.wv hf.ngw hf.nBw

theorem setMark (h : CS c wr work cand cs bA wA mk) (mk' : Nat) (v : Value) (hv : v = .int .i64 mk') : CS c (wr.setCell ⟨c.B, 13, none⟩ v) work cand cs bA wA mk' :=
  ⟨h.kept.setCell (.inl (.inl rfl)) _, (h.st.set 13 v).congr (sb_mark c work cand mk mk' v hv), h.ca.keep (fun g hg => Deep.blk_setCell_other _ _ _ _ (h.ca.type hg h.st (by decide))),
    h.rb.setOther (ne_type h.rb h.st (by decide)) _, h.rx.setOther (ne_type h.rx h.st (by decide)) _⟩
theorem setWork (h : CS c wr work cand cs bA wA mk) (work' : Int) : CS c (wr.setCell ⟨c.B, 4, none⟩ (.int .i64 work')) work' cand cs bA wA mk :=
  ⟨h.kept.setCell (.inl (.inl rfl)) _, (h.st.set 4 _).congr (sb_work c work work' cand mk), h.ca.keep (fun g hg => Deep.blk_setCell_other _ _ _ _ (h.ca.type hg h.st (by decide))),
    h.rb.setOther (ne_type h.rb h.st (by decide)) _, h.rx.setOther (ne_type h.rx h.st (by decide)) _⟩
theorem setb (h : CS c wr work cand cs bA wA mk) (hf : CFix c) (x : Nat) (v : Int) : CS c (wr.setCell ⟨c.gb, x, none⟩ (.int .i64 v)) work cand cs (fun j => if j = x then v else bA j) wA mk :=
  ⟨h.kept.setCell (.inl (.inr (.inl rfl))) _, h.st.setOther (ne_type h.st h.rb (by decide)) _, h.ca.keep (fun g hg => Deep.blk_setCell_other _ _ _ _ (h.ca.type hg h.rb (by decide))),
    (h.rb.set x _).congr (fun j _ => by by_cases e : j = x <;> simp [e]), h.rx.setOther (fun e => hf.nbx e.symm) _⟩
theorem setx (h : CS c wr work cand cs bA wA mk) (hf : CFix c) (x : Nat) (v : Int) : CS c (wr.setCell ⟨c.gx, x, none⟩ (.int .i64 v)) work cand cs bA (fun j => if j = x then v else wA j) mk :=
  ⟨h.kept.setCell (.inl (.inr (.inr (.inl rfl)))) _, h.st.setOther (ne_type h.st h.rx (by decide)) _, h.ca.keep (fun g hg => Deep.blk_setCell_other _ _ _ _ (h.ca.type hg h.rx (by decide))),
    h.rb.setOther hf.nbx _, (h.rx.set x _).congr (fun j _ => by by_cases e : j = x <;> simp [e])⟩
theorem congr (h : CS c wr work cand cs bA wA mk) {bA' wA' : Nat → Int} (hb : ∀ v, bA v = bA' v) (hx : ∀ v, wA v = wA' v) : CS c wr work cand cs bA' wA' mk := by
  obtain rfl : bA = bA' := funext hb
  obtain rfl : wA = wA' := funext hx
  exact h
end CS

theorem new_cell (w : World) (v : Value) (t : TypeId) : (w.alloc (.cells #[v] t)).cell? ⟨w.heap.size, 0, none⟩ = some v :=
  (World.rowIs_alloc w #[v] t (fun _ => v) (fun i hi => by
    have : i = 0 := by simpa using hi
    subst this; rfl)).cell (by simp)

/-- The marks, u of l's entries marked. -/
def mkd (l : List Nat) (u : Nat) (m : Int) (bA : Nat → Int) : Nat → Int := fun v => if v ∈ l.take u then m else bA v
theorem mkd_zero (l : List Nat) (m : Int) (bA : Nat → Int) (v : Nat) : bA v = mkd l 0 m bA v := by simp [mkd]
theorem mkd_succ {l : List Nat} {u : Nat} (h : u < l.length) (m : Int) (bA : Nat → Int) (v : Nat) : (if v = l.getD u 0 then m else mkd l u m bA v) = mkd l (u + 1) m bA v := by
  have e : l.getD u 0 = l[u] := by simp [h]
  simp only [mkd, List.take_succ_eq_append_getElem h, List.mem_append, List.mem_singleton, e]
  by_cases h1 : v = l[u]
  · simp [h1]
  · simp [h1]
theorem mkd_all (l : List Nat) (m : Int) (bA : Nat → Int) (v : Nat) : mkd l l.length m bA v = if v ∈ l then m else bA v := by simp [mkd]
theorem mkd_le {l : List Nat} {u : Nat} {m : Int} {bA : Nat → Int} {v : Nat} (h : bA v ≤ m) : mkd l u m bA v ≤ m := by
  unfold mkd
  split
  · omega
  · exact h

/-- In the midst of the filter: u candidates seen, ks kept, in the same row. -/
structure FS (c : CC) (wr : World) (work : Int) (cand : Value) (cs : List Nat) (bA wA : Nat → Int) (mk u : Nat) (ks : List Nat) (s11 : Value) : Prop where
  kept : Kept c.X c.w wr
  st : wr.rowIs c.B 60 14 (c.sb work cand mk)
  rb : wr.rowIs c.gb 3 c.N (fun v => .int .i64 (bA v))
  rx : wr.rowIs c.gx 3 c.N (fun v => .int .i64 (wA v))
  row : (cand = nilV ∧ cs = [] ∧ s11 = nilV ∧ ks = []) ∨ ∃ (g cap : Nat) (F : Nat → Value), cand = .slice (some ⟨g, 0, none⟩) cs.length cap ∧ s11 = .slice (some ⟨g, 0, none⟩) ks.length cap ∧ ks.length ≤ u ∧ cs.length ≤ cap ∧ cap ≤ maxLen ∧ wr.rowIs g 54 cap F ∧
    (∀ j, j < ks.length → F j = .int .i32 (atN ks j)) ∧ (∀ j, u ≤ j → j < cs.length → F j = .int .i32 (atN cs j)) ∧ (∀ v, v < c.N → c.Be v ≠ g ∧ c.Bw v ≠ g) ∧ c.R g

theorem CS.filt {c : CC} {wr : World} {work : Int} {cand : Value} {cs : List Nat} {bA wA : Nat → Int} {mk : Nat} (h : CS c wr work cand cs bA wA mk) :
    ∃ v0, (∀ w, (Instr.sliceAt 57 cand none (some (.int .i64 0)) none).run Try.prog w = .ok v0 w) ∧ FS c wr work cand cs bA wA mk 0 [] v0 := by
  rcases h.ca with ⟨e1, e2⟩ | ⟨g, cap, F, rfl, h1, h2, h3, h4, h5, h6⟩
  · refine ⟨nilV, fun w => ?_, h.kept, h.st, h.rb, h.rx, .inl ⟨e1, e2, rfl, rfl⟩⟩
    subst e1
    go_simp
  · exact ⟨.slice (some ⟨g, 0, none⟩) 0 cap, fun w => by go_simp, h.kept, h.st, h.rb, h.rx, .inr ⟨g, cap, F, rfl, rfl, Nat.le_refl _, h1, h2, h3, fun j hj => absurd hj (Nat.not_lt_zero _), fun j _ hj => h4 j hj, h5, h6⟩⟩

namespace FS
variable {c : CC} {wr : World} {work : Int} {cand : Value} {cs : List Nat} {bA wA : Nat → Int} {mk u : Nat} {ks : List Nat} {s11 : Value}
theorem drewN (h : FS c wr work cand cs bA wA mk u ks s11) (n : Nat) : FS c (wr.drewN n) work cand cs bA wA mk u ks s11 := ⟨h.kept.drewN n, h.st, h.rb, h.rx, h.row⟩
theorem form (h : FS c wr work cand cs bA wA mk u ks s11) : ∃ a cap, s11 = .slice a ks.length cap := by
  rcases h.row with ⟨_, _, rfl, rfl⟩ | ⟨g, cap, F, _, rfl, _⟩
  · exact ⟨none, 0, rfl⟩
  · exact ⟨_, cap, rfl⟩
theorem skip (h : FS c wr work cand cs bA wA mk u ks s11) : FS c wr work cand cs bA wA mk (u + 1) ks s11 := by
  refine ⟨h.kept, h.st, h.rb, h.rx, ?_⟩
  rcases h.row with h1 | ⟨g, cap, F, h1, h2, h3, h4, h5, h6, h7, h8, h9⟩
  · exact .inl h1
  · exact .inr ⟨g, cap, F, h1, h2, by omega, h4, h5, h6, h7, fun j hj => h8 j (by omega), h9⟩

theorem take {g cap : Nat} {F : Nat → Value} (k : Kept c.X c.w wr) (st : wr.rowIs c.B 60 14 (c.sb work (.slice (some ⟨g, 0, none⟩) cs.length cap) mk)) (rb : wr.rowIs c.gb 3 c.N (fun v => .int .i64 (bA v))) (rx : wr.rowIs c.gx 3 c.N (fun v => .int .i64 (wA v)))
    (h3 : ks.length ≤ u) (h4 : cs.length ≤ cap) (h5 : cap ≤ maxLen) (h6 : wr.rowIs g 54 cap F) (h7 : ∀ j, j < ks.length → F j = .int .i32 (atN ks j)) (h8 : ∀ j, u ≤ j → j < cs.length → F j = .int .i32 (atN cs j))
    (h9 : ∀ v, v < c.N → c.Be v ≠ g ∧ c.Bw v ≠ g) (h10 : c.R g) (o : Obj) (q : Nat) :
    FS c ((wr.alloc o).setCell ⟨g, ks.length, none⟩ (.int .i32 q)) work (.slice (some ⟨g, 0, none⟩) cs.length cap) cs bA wA mk (u + 1) (ks ++ [q]) (.slice (some ⟨g, 0, none⟩) (ks.length + 1) cap) := by
  refine ⟨(k.alloc o).setCell ?_ _, (st.alloc o).setOther (ne_type st h6 (by decide)) _, (rb.alloc o).setOther (ne_type rb h6 (by decide)) _, (rx.alloc o).setOther (ne_type rx h6 (by decide)) _, .inr ⟨g, cap, _, rfl, by simp, by simp; omega, h4, h5, (h6.alloc o).set ks.length _, ?_, ?_, h9, h10⟩⟩
  · exact h10.elim (fun e => .inl (.inr (.inr (.inr e)))) .inr
  · intro j hj
    simp only [List.length_append, List.length_singleton] at hj
    by_cases e : j = ks.length
    · subst e; simp [atN]
    · simp only [if_neg e]
      rw [h7 j (by omega)]
      have : j < ks.length := by omega
      simp [atN, List.getElem?_append_left this]
  · intro j hj1 hj2
    have e : j ≠ ks.length := by omega
    simp only [if_neg e]
    exact h8 j (by omega) hj2

theorem done (h : FS c wr work cand cs bA wA mk cs.length ks s11) : CS c (wr.setCell ⟨c.B, 10, none⟩ s11) work s11 ks bA wA mk := by
  refine ⟨h.kept.setCell (.inl (.inl rfl)) _, (h.st.set 10 _).congr (sb_cand c work cand s11 mk), ?_, h.rb.setOther (ne_type h.rb h.st (by decide)) _, h.rx.setOther (ne_type h.rx h.st (by decide)) _⟩
  rcases h.row with ⟨_, _, e3, e4⟩ | ⟨g, cap, F, h1, h2, h3, h4, h5, h6, h7, h8, h9, h10⟩
  · exact .inl ⟨e3, e4⟩
  · exact .inr ⟨g, cap, F, h2, by omega, h5, h6.setOther (ne_type h6 h.st (by decide)) _, h7, h9, h10⟩
end FS
end Go.Proofs.Qxb6000043a
