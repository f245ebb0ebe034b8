import Derived.Test.Qxb6000043aArith
import Derived.Deep.RegionHeld3
import Derived.Deep.RegionLaw
import Derived.ArgAppend
namespace Go.Proofs.Qxb6000043a
open Go.RowKit

/-- w' is w but for the blocks that meet X, and new ones. -/
structure Kept (X : Nat → Prop) (w w' : World) : Prop where
  os : w'.os = w.os
  tape : w'.tape = w.tape
  output : w'.output = w.output
  size : w.heap.size ≤ w'.heap.size
  block : ∀ k, k < w.heap.size → ¬ X k → w'.heap[k]? = w.heap[k]?

namespace Kept
variable {X X' : Nat → Prop} {w w1 w2 : World}
theorem refl (X : Nat → Prop) (w : World) : Kept X w w := ⟨rfl, rfl, rfl, Nat.le_refl _, fun _ _ _ => rfl⟩
theorem trans (h : Kept X w w1) (h' : Kept X' w1 w2) (hx : ∀ k, X' k → X k ∨ w.heap.size ≤ k) : Kept X w w2 :=
  ⟨h'.os.trans h.os, h'.tape.trans h.tape, h'.output.trans h.output, Nat.le_trans h.size h'.size, fun k hk hn => (h'.block k (Nat.lt_of_lt_of_le hk h.size) (fun e => (hx k e).elim hn (fun h => by omega))).trans (h.block k hk hn)⟩
theorem setCell (h : Kept X w w1) {a : Addr} (ha : X a.block ∨ w.heap.size ≤ a.block) (v : Value) : Kept X w (w1.setCell a v) :=
  ⟨h.os, h.tape, h.output, by rw [Deep.nblk_setCell]; exact h.size, fun k hk hn => (Deep.blk_setCell_other _ _ _ _ (fun e => by subst e; exact ha.elim hn (fun h => by omega))).trans (h.block k hk hn)⟩
theorem alloc (h : Kept X w w1) (o : Obj) : Kept X w (w1.alloc o) :=
  ⟨h.os, h.tape, h.output, by have := h.size; simp; omega, fun k hk hn => (Deep.blk_alloc_lt _ _ _ (Nat.lt_of_lt_of_le hk h.size)).trans (h.block k hk hn)⟩
theorem drewN (h : Kept X w w1) (n : Nat) : Kept X w (w1.drewN n) := ⟨h.os, h.tape, h.output, h.size, h.block⟩
theorem drew (h : Kept X w w1) : Kept X w w1.drew := ⟨h.os, h.tape, h.output, h.size, h.block⟩
theorem grown (h : Kept X w w1) {row : Option Nat} (hg : w1.grownBy w2 row) (hr : ∀ k, row = some k → X k ∨ w.heap.size ≤ k) : Kept X w w2 :=
  ⟨hg.os.trans h.os, hg.tape.trans h.tape, hg.output.trans h.output, Nat.le_trans h.size hg.size, fun k hk hn => (hg.block k (Nat.lt_of_lt_of_le hk h.size) (fun e => (hr k e.symm).elim hn (fun h => by omega))).trans (h.block k hk hn)⟩
theorem row (h : Kept X w w1) {b : Nat} {t : TypeId} {n : Nat} {f : Nat → Value} (hr : w.rowIs b t n f) (hb : ¬ X b) : w1.rowIs b t n f := hr.of_block (h.block b hr.lt hb)
theorem below (h : Kept X w w1) {B : Nat} (hB : B ≤ w.heap.size) (hx : ∀ k, k < B → ¬ X k) : Below B w w1 := ⟨h.os, h.tape, h.output, h.size, fun k hk => h.block k (by omega) (hx k hk)⟩
theorem vg (h : Kept X w w1) {D : Nat → Prop} {bo N : Nat} {E : Nat → List Nat} {B : Nat → Nat} (hv : VG w D bo N E B) (h1 : ¬ X bo) (h2 : ∀ v, v < N → ¬ X (B v)) : VG w1 D bo N E B :=
  ⟨hv.db, h.row hv.top h1, fun v hv' => ⟨(hv.rows v hv').1, h.row (hv.rows v hv').2 (h2 v hv')⟩⟩
end Kept

/-- Blocks of two types are two. -/
theorem ne_type {w : World} {b b' : Nat} {t t' : TypeId} {n n' : Nat} {f f' : Nat → Value} (h : w.rowIs b t n f) (h' : w.rowIs b' t' n' f') (ht : t ≠ t') : b ≠ b' := by
  intro e
  subst e
  obtain ⟨c, h1, _⟩ := h
  obtain ⟨c', h2, _⟩ := h'
  rw [h1] at h2
  simp at h2
  exact ht h2.2

/-- Where the candidates lie, and what they are. -/
def CandAt (w : World) (Be Bw : Nat → Nat) (N : Nat) (R : Nat → Prop) (cand : Value) (cs : List Nat) : Prop :=
  (cand = nilV ∧ cs = []) ∨ ∃ (g cap : Nat) (F : Nat → Value), cand = .slice (some ⟨g, 0, none⟩) cs.length cap ∧ cs.length ≤ cap ∧ cap ≤ maxLen ∧ w.rowIs g 54 cap F ∧ (∀ j, j < cs.length → F j = .int .i32 (atN cs j)) ∧ (∀ v, v < N → Be v ≠ g ∧ Bw v ≠ g) ∧ R g

theorem CandAt.owns {w : World} {Be Bw : Nat → Nat} {N : Nat} {R : Nat → Prop} {cand : Value} {cs : List Nat} (h : CandAt w Be Bw N R cand cs) : w.ownsRow 0 54 1 cand cs.length (cv cs) := by
  rcases h with ⟨rfl, rfl⟩ | ⟨g, cap, F, rfl, h1, h2, ⟨c, h3, h4, h5⟩, h6, _⟩
  · exact World.ownsRow_nil _ _ _ _
  · refine ⟨by rw [cv_len, Nat.mul_one], .inr ⟨g, cap, c, rfl, Nat.zero_le _, h3, h1, h2, by omega, ?_⟩⟩
    rw [Nat.mul_one]
    refine List.ext_getElem? (fun j => ?_)
    rw [List.getElem?_take]
    by_cases hj : j < cs.length
    · rw [if_pos hj, Array.getElem?_toList, h5 j (by omega), h6 j hj, cv_at hj]
    · rw [if_neg hj, List.getElem?_eq_none (by rw [cv_len]; omega)]

theorem CandAt.of_owns {w : World} {Be Bw : Nat → Nat} {N : Nat} {R : Nat → Prop} {cand : Value} {cs : List Nat} (h : w.ownsRow 0 54 1 cand cs.length (cv cs)) (h1 : ∀ g, cand.ownBlock = some g → (∀ v, v < N → Be v ≠ g ∧ Bw v ≠ g) ∧ R g) : CandAt w Be Bw N R cand cs := by
  rcases h.2 with ⟨rfl, h0⟩ | ⟨g, cap, cur, rfl, _, hg, hle, hm, hs, ht⟩
  · exact .inl ⟨rfl, List.eq_nil_of_length_eq_zero h0⟩
  · refine .inr ⟨g, cap, fun j => cur.getD j undef, rfl, hle, hm, ⟨cur, hg, by omega, fun i hi => ?_⟩, fun j hj => ?_, (h1 g rfl).1, (h1 g rfl).2⟩
    · show cur[i]? = some (cur.getD i undef)
      rw [Array.getD_eq_getD_getElem?, Array.getElem?_eq_getElem (by omega)]; rfl
    · have e : cur[j]? = some (.int .i32 (atN cs j)) := by
        have : (cur.toList.take (cs.length * 1))[j]? = (cv cs)[j]? := by rw [ht]
        rw [cv_at hj, List.getElem?_take, if_pos (by omega), Array.getElem?_toList] at this
        exact this
      show cur.getD j undef = _
      rw [Array.getD_eq_getD_getElem?, e]; rfl

/-- The first m of them. -/
theorem owns_cut {w : World} {g n cap : Nat} {xs : List Value} (h : w.ownsRow 0 54 1 (.slice (some ⟨g, 0, none⟩) n cap) n xs) : w.ownsRow 0 54 1 (.slice (some ⟨g, 0, none⟩) 0 cap) 0 [] := by
  rcases h.2 with ⟨e, _⟩ | ⟨g', cap', cur, e, _, hg, hle, hm, hs, ht⟩
  · cases e
  · cases e
    exact ⟨rfl, .inr ⟨g, cap, cur, rfl, Nat.zero_le _, hg, Nat.zero_le _, hm, hs, by simp⟩⟩

/-- append of one element where there is room. -/
theorem wpList_append_one {P : Program} (w : World) {ops : Array Oper} {rest : List Oper} {o : Oper} {a : Act} {Q : Exit → Act → World → Prop} (hgd : o.guard = none) (s x : Operand) (t : TypeId)
    (ho : o.op = .call { callee := .builtin .append, args := #[s, x], argTypes := #[t, t] }) (e : TypeId) (i : TypeInfo) (ht : P.underlying t = some (.slice e)) (hi : P.info? e = some i) (hsize : i.size = 1)
    (g n cap : Nat) (hs : a.eval s = .slice (some ⟨g, 0, none⟩) n cap) (B c : Nat) (u : Value) (hx : a.eval x = .slice (some ⟨B, 0, none⟩) 1 c) (hu : w.cell? ⟨B, 0, none⟩ = some u) (h1 : u.oneCell' = true)
    (hroom : n < cap) (hc : (w.cell? ⟨g, n, none⟩).isSome = true) (hf : w.frozen? ⟨g, n, none⟩ = false)
    (h : wpList P ops Q rest (a.put o.dst (.slice (some ⟨g, 0, none⟩) (n + 1) cap)) (w.setCell ⟨g, n, none⟩ u)) : wpList P ops Q (o :: rest) a w := by
  refine wpList_plain hgd fun K hK => ?_
  have hr := run_append_room_cells (P := P) w t o.type e i ht hi g 0 n cap ⟨B, 0, none⟩ 1 c [u] (by rw [hsize]; rfl) (fun j v hj => by
    cases j with
    | zero => simp at hj; subst hj; rw [Go.WideShapes.add_plain]; exact hu
    | succ j => simp at hj) (by simpa using h1) (by omega) (fun j hj => by
      obtain rfl : j = 0 := by simpa using hj
      rw [hsize]; simpa using hc) (fun j hj => by
      obtain rfl : j = 0 := by simpa using hj
      rw [hsize]; simpa using hf)
  have e1 : w.setCells g (0 + n * i.size) [u] = w.setCell ⟨g, n, none⟩ u := by rw [hsize]; simp [World.setCells]
  rw [e1] at hr
  unfold Oper.wp execOp
  simp only [ho, resolve, invoke, builtin, Sem.run_bind, Sem.run_pure, Result.andThen_ok, List.map_toArray, List.map_cons, List.map_nil, hs, hx, hr]
  exact hK _ _ h

/-- append onto what the call owns, also of nothing, as a step of a region that draws. -/
theorem step_append_at {P : Program} (w : World) {ops : Array Oper} {o : Oper} {a : Act} {K : Act → World → Prop} {Q : Exit → Act → World → Prop} {E : Prop} (hgd : o.guard = none) (s x : Operand) (t : TypeId)
    (ho : o.op = .call { callee := .builtin .append, args := #[s, x], argTypes := #[t, t] })
    (base : Nat) (e : TypeId) (i : TypeInfo) (z : Value) (size bytes : Nat) (ht : P.underlying t = some (.slice e)) (hi : P.info? e = some i) (hz : i.zero = some z)
    (hsize : i.size = size) (hby : i.bytes = bytes) (hzs : z.cells.size = size) (hsz : 0 < size)
    (v : Value) (n : Nat) (xs : List Value) (hs : a.eval s = v) (hown : w.ownsRow base e size v n xs)
    (ad : Addr) (m c : Nat) (news : List Value) (hx : a.eval x = .slice (some ad) m c) (hl : news.length = m * size) (hnews : ∀ j u, news[j]? = some u → w.cell? (ad.add j) = some u) (h1 : ∀ u ∈ news, u.oneCell' = true)
    (h63 : n + m ≤ maxLen) (hbytes : (n + m) * bytes ≤ 140737488355328) (hbase : base ≤ w.heap.size)
    (h : ∀ a' cap w', w'.ownsRow base e size (.slice a' (n + m) cap) (n + m) (xs ++ news) → w.grownBy w' v.ownBlock → ((Value.slice a' (n + m) cap).ownBlock = v.ownBlock ∨ (Value.slice a' (n + m) cap).ownBlock = some w.heap.size) → K (a.put o.dst (.slice a' (n + m) cap)) w') :
    if Region.wanted o (yielded ops a.tmps) = true then Oper.wp P o a w K Q else E := by
  have hw : Region.wanted o (yielded ops a.tmps) = true := by simp [Region.wanted, hgd]
  rw [if_pos hw]
  obtain ⟨v', w', hr, h2, h3, _, h5⟩ := run_append_own_at (P := P) w base t o.type e i z size bytes ht hi hz hsize hby hzs hsz v n xs hown ad m c news hl hnews h1 h63 hbytes hbase
  unfold Oper.wp execOp
  simp only [ho, resolve, invoke, builtin, Sem.run_bind, Sem.run_pure, Result.andThen_ok, List.map_toArray, List.map_cons, List.map_nil, hs, hx, hr]
  rcases h2.2 with ⟨rfl, h0⟩ | ⟨g, cap, cur, rfl, _⟩
  · have := h none 0 w'
    rw [h0] at h2 this
    exact this h2 h3 h5
  · exact h _ cap w' h2 h3 h5
end Go.Proofs.Qxb6000043a
