import Derived.Test.Qxb6000043aCycP
import Derived.Test.Qxb6000043aVisit
import Derived.Deep.DeepCutAuto
import Derived.Deep.CutBlock
import Derived.BigRegion
namespace Go.Proofs.Qxb6000043a
open Go.RowKit

theorem cell_grown {w w7 : World} {o : Obj} {row : Option Nat} (hg : (w.alloc o).grownBy w7 row) {a : Addr} {v : Value} (hb : a.block < w.heap.size) (hne : some a.block ≠ row) (h : w.cell? a = some v) : w7.cell? a = some v := by
  rw [World.cell?_of_block ((hg.block a.block (by simp; omega) hne).trans (Deep.blk_alloc_lt _ _ _ hb))]; exact h
theorem frozen_grown {w w7 : World} {o : Obj} {row : Option Nat} (hg : (w.alloc o).grownBy w7 row) {a : Addr} (hb : a.block < w.heap.size) (hne : some a.block ≠ row) (h : w.frozen? a = false) : w7.frozen? a = false := by
  rw [World.frozen?_of_block ((hg.block a.block (by simp; omega) hne).trans (Deep.blk_alloc_lt _ _ _ hb))]; exact h
theorem alloc_parts (w : World) (o : Obj) : (w.alloc o).heap.size = w.heap.size + 1 ∧ (∀ k, k < w.heap.size → (w.alloc o).heap[k]? = w.heap[k]?) ∧ (w.alloc o).os = w.os ∧ (w.alloc o).tape = w.tape ∧ (w.alloc o).output = w.output :=
  ⟨by simp, fun k hk => Deep.blk_alloc_lt _ _ _ hk, rfl, rfl, rfl⟩

/-- How a search begins: the order of an earlier one lies there; off it the three rows hold zeros. -/
structure YBeg (c : YC) (work : Int) (ol : List Nat) (p : List (Nat × Nat)) (lf : Nat → Int) (P L : Nat → Nat) : Prop where
  ys : YS c c.w work c.ord ol c.path p lf P L
  lt : ∀ x ∈ ol, x < c.N
  off : ∀ x, x < c.N → x ∉ ol → lf x = 0 ∧ P x = 0 ∧ L x = 0
  len : ol.length ≤ 4096

/-- A path's cursors with what is left of their rows. -/
def curs (R : Nat → List Nat) (p : List (Nat × Nat)) : List (Nat × List Nat) := p.map fun x => (x.1, (R x.1).drop x.2)

/-- In the course of the search. -/
def YIn (c : YC) (bk : Bool) (sF : VSt) (g : Nat) (wr : World) : Prop :=
  ∃ (k : Nat) (s : VSt) (work : Int) (ordV pathV : Value) (p : List (Nat × Nat)), g = k ∧ YS c wr work ordV s.ord pathV p (leftZ s) (fun _ => 0) (fun _ => 0) ∧ Fin (rowB c.E bk) (curs (rowB c.E bk) p) s sF k ∧
    (∀ x ∈ s.ord, s.seen x = true) ∧ ∀ x ∈ p, x.1 < c.N ∧ s.seen x.1 = true

def SearchPost (c : YC) (sF : VSt) (e : Ending) (w' : World) : Prop :=
  e = .returned (.tuple #[]) ∧ ∃ (work : Int) (ordV pathV : Value), YS c w' work ordV sF.ord pathV [] (leftZ sF) (fun _ => 0) (fun _ => 0)

set_option maxRecDepth 100000 in
set_option maxHeartbeats 16000000 in
theorem search_any (c : YC) (hf : YFix c) (work : Int) (ol : List Nat) (p : List (Nat × Nat)) (lf : Nat → Int) (P L : Nat → Nat) (r : Nat) (bk : Bool) (w : World) (hw : c.w = w) (hb : YBeg c work ol p lf P L) (hr : r < c.N)
    (k0 : Nat) (sF : VSt) (hF : Fin (rowB c.E bk) [(r, rowB c.E bk r)] (st0.mark r) sF k0) (hsl : sF.ord.length ≤ 4096) :
    Calls Try.prog 39 #[.pointer (some ⟨c.B, 0, none⟩), .int .i32 r, .bool bk] w (SearchPost c sF) := by
  have hN := hf.hN
  have hys := hb.ys
  rw [hw] at hys
  obtain ⟨nn, hnn⟩ : ∃ nn, nn = ol.length := ⟨_, rfl⟩
  obtain ⟨ao, co, eo⟩ : ∃ a cc, c.ord = .slice a ol.length cc := by
    rcases hys.oo.2 with ⟨e1, e2⟩ | ⟨g, cap, cur, e1, _⟩
    · exact ⟨none, 0, by rw [e1, e2]⟩
    · exact ⟨_, cap, e1⟩
  have q6 : w.cell? ⟨c.B, 6, none⟩ = some (.slice ao nn co) := by rw [hnn, ← eo]; exact hys.st.cell (i := 6) (by omega)
  have hlen : nn ≤ 4096 := by rw [hnn]; exact hb.len
  have HNN : Hid (nn = ol.length) := hnn
  have HEO : Hid (c.ord = .slice ao nn co) := by rw [hnn]; exact eo
  have HB : Hid (YBeg c work ol p lf P L) := hb
  have HYS : Hid (YS c w work c.ord ol c.path p lf P L) := hys
  have HF : Hid (YFix c) := hf
  have HFI : Hid (Fin (rowB c.E bk) [(r, rowB c.E bk r)] (st0.mark r) sF k0) := hF
  have HRow : Hid (∀ t, t < nn → ∃ b, ao = some ⟨b, 0, none⟩ ∧ ∀ wr : World, (∀ g : Nat, c.ord.ownBlock = some g → wr.heap[g]? = w.heap[g]?) → wr.cell? ⟨b, t, none⟩ = some (.int .i32 (atN ol t))) := by
    intro t ht
    rw [hnn] at ht
    rcases hys.oo.2 with ⟨e1, e2⟩ | ⟨g, cap, cur, e1, _, hg, hle, hm, hs, htk⟩
    · omega
    · obtain rfl : ao = some ⟨g, 0, none⟩ := by rw [eo] at e1; cases e1; rfl
      refine ⟨g, rfl, fun wr hwr => ?_⟩
      have ho : wr.ownsRow 0 54 1 c.ord ol.length (cv ol) := own_keep hys.oo hwr
      rw [e1] at ho
      exact own_cell ho (cv_at ht)
  have hrz : (r : Int) < (c.N : Int) := by omega
  clear hb hys hf hF hnn eo
  go_enter Try.func39, Try.ntmps39
  go_wp2_with fail
  go_loopg [17] nn (fun g s17 wr => ∃ (u : Nat) (lf : Nat → Int) (P L : Nat → Nat), u ≤ nn ∧ g = nn - u ∧ s17 = .int .i64 u ∧ YS c wr work c.ord ol c.path p lf P L ∧ (∀ g, c.ord.ownBlock = some g → wr.heap[g]? = w.heap[g]?) ∧ ∀ x, x < c.N → x ∉ ol.drop u → lf x = 0 ∧ P x = 0 ∧ L x = 0)
  case atStart => exact ⟨0, lf, P, L, Nat.zero_le _, rfl, rfl, HYS.out, fun _ _ => rfl, by simpa using HB.out.off⟩
  case round =>
    clear HYS
    obtain ⟨u, lf, P, L, hu, rfl, rfl, hY, hbl, hoff⟩ := hrel
    by_cases hul : u < nn
    · have hul' : u < ol.length := by rw [← HNN.out]; exact hul
      obtain ⟨b, rfl, hcell⟩ := HRow.out u hul
      obtain ⟨y, hy⟩ : ∃ y, y = ol.getD u 0 := ⟨_, rfl⟩
      have hye : y = ol[u] := by rw [hy]; simp [hul']
      have hyN : y < c.N := by rw [hye]; exact HB.out.lt _ (List.getElem_mem hul')
      have p1 : wr.cell? ⟨b, u, none⟩ = some (.int .i32 (y : Int)) := by rw [hcell wr hbl, hy]; rfl
      have huz : (u : Int) < (nn : Int) := by omega
      have hyz : (y : Int) < (c.N : Int) := by omega
      have q5 : wr.cell? ⟨c.B, 5, none⟩ = some (.slice (some ⟨c.gl, 0, none⟩) c.N c.N) := hY.st.cell (i := 5) (by omega)
      have q8 : wr.cell? ⟨c.B, 8, none⟩ = some (.slice (some ⟨c.gp, 0, none⟩) c.N c.N) := hY.st.cell (i := 8) (by omega)
      have q9 : wr.cell? ⟨c.B, 9, none⟩ = some (.slice (some ⟨c.gn, 0, none⟩) c.N c.N) := hY.st.cell (i := 9) (by omega)
      obtain ⟨v5, p5⟩ : ∃ v5, wr.cell? ⟨c.gl, y, none⟩ = some v5 := ⟨_, hY.rl.cell hyN⟩
      have f5 : wr.frozen? ⟨c.gl, y, none⟩ = false := hY.rl.frozen y
      have hY1 := hY.setl y 0
      obtain ⟨v8, p8⟩ : ∃ v8, (wr.setCell ⟨c.gl, y, none⟩ (.int .i32 0)).cell? ⟨c.gp, y, none⟩ = some v8 := ⟨_, hY1.rp.cell hyN⟩
      have f8 : (wr.setCell ⟨c.gl, y, none⟩ (.int .i32 0)).frozen? ⟨c.gp, y, none⟩ = false := hY1.rp.frozen y
      have hY2 := hY1.setp HF.out y 0
      obtain ⟨v9, p9⟩ : ∃ v9, ((wr.setCell ⟨c.gl, y, none⟩ (.int .i32 0)).setCell ⟨c.gp, y, none⟩ (.int .i64 0)).cell? ⟨c.gn, y, none⟩ = some v9 := ⟨_, hY2.rn.cell hyN⟩
      have f9 : ((wr.setCell ⟨c.gl, y, none⟩ (.int .i32 0)).setCell ⟨c.gp, y, none⟩ (.int .i64 0)).frozen? ⟨c.gn, y, none⟩ = false := hY2.rn.frozen y
      have HY3 : Hid (YS c (((wr.setCell ⟨c.gl, y, none⟩ (.int .i32 0)).setCell ⟨c.gp, y, none⟩ (.int .i64 0)).setCell ⟨c.gn, y, none⟩ (.int .i64 0)) work c.ord ol c.path p (updF lf y 0) (updF P y 0) (updF L y 0)) := hY2.setn HF.out y 0
      have HYE : Hid (y = ol[u]) := hye
      clear hY1 hY2 hcell hy hye
      go_upto_region 3 with fail
      go_region
      have hdrop : ol.drop u = y :: ol.drop (u + 1) := by rw [HYE.out]; exact List.drop_eq_getElem_cons hul'
      have HOFF : Hid (∀ x, x < c.N → x ∉ ol.drop (u + 1) → updF lf y 0 x = 0 ∧ updF P y 0 x = 0 ∧ updF L y 0 x = 0) := by
        intro x hx hn
        by_cases e : x = y
        · subst e; simp [updF]
        · simp only [updF, if_neg e]
          exact hoff x hx (by rw [hdrop]; simp [e, hn])
      have HBL : Hid (∀ g : Nat, c.ord.ownBlock = some g → (((wr.setCell ⟨c.gl, y, none⟩ (.int .i32 0)).setCell ⟨c.gp, y, none⟩ (.int .i64 0)).setCell ⟨c.gn, y, none⟩ (.int .i64 0)).heap[g]? = w.heap[g]?) := by
        intro g hg
        have n1 : g ≠ c.gl := fun e => own_ne_row hY.oo hY.rl (by decide) (by rw [hg, e])
        have n2 : g ≠ c.gp := fun e => own_ne_row hY.oo hY.rp (by decide) (by rw [hg, e])
        have n3 : g ≠ c.gn := fun e => own_ne_row hY.oo hY.rn (by decide) (by rw [hg, e])
        rw [Deep.blk_setCell_other _ _ _ _ n3, Deep.blk_setCell_other _ _ _ _ n2, Deep.blk_setCell_other _ _ _ _ n1, hbl g hg]
      clear hdrop hoff hbl hY q5 q8 q9 p5 f5 p8 f8 p9 f9 p1
      generalize ((wr.setCell ⟨c.gl, y, none⟩ (.int .i32 0)).setCell ⟨c.gp, y, none⟩ (.int .i64 0)).setCell ⟨c.gn, y, none⟩ (.int .i64 0) = w5 at HY3 HBL ⊢
      go_wp2_with fail
      go_roundg (nn - (u + 1))
      case measure => omega
      case rel => exact ⟨u + 1, _, _, _, by omega, rfl, by go_num, HY3.out.drew, HBL.out, HOFF.out⟩
    · obtain rfl : u = nn := by omega
      have hzero : ∀ x, x < c.N → lf x = 0 ∧ P x = 0 ∧ L x = 0 := fun x hx => hoff x hx (by rw [HNN.out, List.drop_length]; simp)
      have hY1 : YS c wr work c.ord ol c.path p (leftZ st0) (fun _ => 0) (fun _ => 0) := hY.congr (fun x hx => by rw [(hzero x hx).1]; rfl) (fun x hx => (hzero x hx).2.1) (fun x hx => (hzero x hx).2.2)
      clear hY hzero hoff hbl HRow HNN HEO HB
      obtain ⟨a0, k0', hsl0, hown0, hob0⟩ := slice0o_run c.ord ol wr hY1.oo
      obtain ⟨a1, k1', hsl1, hown1, hob1⟩ := slice0p_run c.path p wr hY1.po
      have q6 : wr.cell? ⟨c.B, 6, none⟩ = some c.ord := hY1.st.cell (i := 6) (by omega)
      have f6 : wr.frozen? ⟨c.B, 6, none⟩ = false := hY1.st.frozen 6
      have hY2 := hY1.setOrd (ol' := []) hown0 (fun g hg => .inl (by rw [← hob0]; exact hg))
      have hown1' : (wr.setCell ⟨c.B, 6, none⟩ (.slice a0 0 k0')).ownsRow 0 66 2 (.slice a1 0 k1') 0 [] := ownsRow_setCell_other hown1 (own_ne_row hown1 hY1.st (by decide)) _
      clear hY1 hown0 hown1
      go_upto_region 6 with fail
      generalize wr.setCell ⟨c.B, 6, none⟩ (.slice a0 0 k0') = w5 at hY2 hown1' ⊢
      clear q6 f6 hsl0
      have q5 : w5.cell? ⟨c.B, 5, none⟩ = some (.slice (some ⟨c.gl, 0, none⟩) c.N c.N) := hY2.st.cell (i := 5) (by omega)
      obtain ⟨v5, p5⟩ : ∃ v5, w5.cell? ⟨c.gl, r, none⟩ = some v5 := ⟨_, hY2.rl.cell hr⟩
      have f5 : w5.frozen? ⟨c.gl, r, none⟩ = false := hY2.rl.frozen r
      have hY3 := (hY2.setl r (-1)).congr (lf' := leftZ (st0.mark r)) (P' := fun _ => 0) (L' := fun _ => 0) (fun x _ => leftZ_mark (s := st0) (w := r) rfl (by simp [st0]) x) (fun _ _ => rfl) (fun _ _ => rfl)
      have hown2 : (w5.setCell ⟨c.gl, r, none⟩ (.int .i32 (-1))).ownsRow 0 66 2 (.slice a1 0 k1') 0 [] := ownsRow_setCell_other hown1' (own_ne_row hown1' hY2.rl (by decide)) _
      clear hY2 hown1'
      go_upto_region 7 with fail
      generalize w5.setCell ⟨c.gl, r, none⟩ (.int .i32 (-1)) = w6 at hY3 hown2 ⊢
      clear q5 p5 f5
      have q7 : w6.cell? ⟨c.B, 7, none⟩ = some c.path := hY3.st.cell (i := 7) (by omega)
      have f7 : w6.frozen? ⟨c.B, 7, none⟩ = false := hY3.st.frozen 7
      obtain ⟨i0, hi0, hz0, hz1, hz2⟩ := info_parts Try.info66
      have hown3 := hown2.alloc (.cells #[.int .i32 (r : Int), .int .i64 0] 66)
      have HY3 : Hid (YS c w6 work (.slice a0 0 k0') [] c.path p (leftZ (st0.mark r)) (fun _ => 0) (fun _ => 0)) := hY3
      have hBlt : c.B < w6.heap.size := hY3.st.lt
      have hoB : some c.B ≠ (Value.slice a1 0 k1').ownBlock := fun e => own_ne_row hown2 hY3.st (by decide) e.symm
      have HOB1 : Hid ((Value.slice a1 0 k1').ownBlock = c.path.ownBlock) := hob1
      clear hY3 hown2 hob0 hob1
      go_wp2_with (at_builtin; refine wpList_append_lies _ rfl (.tmp 59) (.tmp 62) 58 rfl 0 66 i0 (.agg #[.int .i32 0, .int .i64 0]) 2 16 Try.underlying58 hi0 hz0 hz1 hz2 rfl (by decide) (.slice a1 0 k1') 0 [] rfl hown3 ⟨w6.heap.size, 0, none⟩ 1 1 [.int .i32 (r : Int), .int .i64 0] rfl rfl (World.news_of_block (heap_alloc_new w6 _)) (by simp [Value.oneCell']) (by omega) (by unfold maxLen; omega) (by omega) (Nat.zero_le _) (w6.heap.size + 1) (by simp) ?_; intro g cap w7 hown7 hgrow hat hlt1; have q7' : w7.cell? ⟨c.B, 7, none⟩ = some c.path := cell_grown hgrow hBlt hoB q7; have f7' : w7.frozen? ⟨c.B, 7, none⟩ = false := frozen_grown hgrow hBlt hoB f7)
      have hY7 : YS c (w7.setCell ⟨c.B, 7, none⟩ (.slice (some ⟨g, 0, none⟩) 1 cap)) work (.slice a0 0 k0') [] (.slice (some ⟨g, 0, none⟩) 1 cap) [(r, 0)] (leftZ (st0.mark r)) (fun _ => 0) (fun _ => 0) := by
        rw [HOB1.out] at hgrow hat
        exact HY3.out.grownPath (p' := [(r, 0)]) (alloc_parts w6 _) hgrow hown7 hat
      clear HY3 hown7 hgrow hat hlt1 q7' f7' q7 f7 hown3 HOB1
      generalize w7.setCell ⟨c.B, 7, none⟩ (.slice (some ⟨g, 0, none⟩) 1 cap) = w8 at hY7 ⊢
      have HY7 : Hid (YS c w8 work (.slice a0 0 k0') [] (.slice (some ⟨g, 0, none⟩) 1 cap) [(r, 0)] (leftZ (st0.mark r)) (fun _ => 0) (fun _ => 0)) := hY7
      clear hY7
      go_loopg [8] k0 (fun g s8 wr => YIn c bk sF g wr)
      case atStart =>
        refine ⟨k0, st0.mark r, work, _, _, [(r, 0)], rfl, HY7.out, by simpa [curs] using HFI.out, by simp [VSt.mark, st0], fun x hx => ?_⟩
        obtain rfl := List.mem_singleton.1 hx
        exact ⟨hr, by simp [VSt.mark]⟩
      case round =>
        clear HY7 HFI hsl1 hBlt hoB
        obtain ⟨kk, s, work, ordV, pathV, p, hM, hY, hFin, hos, hps⟩ := hrel
        have HOS : Hid (∀ x ∈ s.ord, s.seen x = true) := hos
        have HPS : Hid (∀ x ∈ p, x.1 < c.N ∧ s.seen x.1 = true) := hps
        clear hos hps
        cases p with
        | nil =>
          obtain ⟨ap, cp, ep⟩ : ∃ a cc, pathV = .slice a 0 cc := by
            rcases hY.po.2 with ⟨e1, e2⟩ | ⟨g, cap, cur, e1, _⟩
            · exact ⟨none, 0, e1⟩
            · exact ⟨_, cap, e1⟩
          subst ep
          obtain rfl := hFin.nil_end
          have q7 : wr.cell? ⟨c.B, 7, none⟩ = some (.slice ap 0 cp) := hY.st.cell (i := 7) (by omega)
          have HY : Hid (YS c wr work ordV s.ord (.slice ap 0 cp) [] (leftZ s) (fun _ => 0) (fun _ => 0)) := hY
          clear hY hFin
          go_wp2_with fail
          refine bodyPost_end (results_none rfl _ _ _) rfl ?_
          exact ⟨rfl, work, ordV, _, HY.out⟩
        | cons x p =>
          obtain ⟨v, t⟩ := x
          obtain ⟨g, cap, ep, _, _⟩ := hY.po.form (by simp)
          subst ep
          have hlenF := hFin.len
          simp only [curs, List.length_cons, List.length_map] at hlenF
          obtain ⟨hvN, hvs⟩ := HPS.out (v, t) (by simp)
          have HVS : Hid (s.seen v = true) := hvs
          have HYp : Hid (YS c wr work ordV s.ord (.slice (some ⟨g, 0, none⟩) (p.length + 1) cap) ((v, t) :: p) (leftZ s) (fun _ => 0) (fun _ => 0)) := hY
          have HFin : Hid (Fin (rowB c.E bk) (curs (rowB c.E bk) ((v, t) :: p)) s sF kk) := hFin
          obtain ⟨m, hm⟩ : ∃ m, m = p.length := ⟨_, rfl⟩
          have hml : m ≤ 4096 := by omega
          have t0 : wr.cell? ⟨g, m * 2, none⟩ = some (.int .i32 (v : Int)) := by rw [hm, Nat.mul_comm]; exact own_cell hY.po (pv_at0 v t p)
          have t1 : wr.cell? ⟨g, m * 2 + 1, none⟩ = some (.int .i64 (t : Int)) := by rw [hm, Nat.mul_comm]; exact own_cell hY.po (pv_at1 v t p)
          have f1 : wr.frozen? ⟨g, m * 2 + 1, none⟩ = false := World.ownsRow.frozenAt hY.po _
          have q7 : wr.cell? ⟨c.B, 7, none⟩ = some (.slice (some ⟨g, 0, none⟩) (m + 1) cap) := by rw [hm]; exact hY.st.cell (i := 7) (by omega)
          have q0 : wr.cell? ⟨c.B, 0, none⟩ = some (.slice (some ⟨c.ge, 0, none⟩) c.N c.N) := hY.st.cell (i := 0) (by omega)
          have qv : wr.cell? ⟨c.ge, v, none⟩ = some (.slice (some ⟨c.Be v, 0, none⟩) (c.E v).length (c.E v).length) := (hY.vE HF.out).top.cell hvN
          have hvz : (v : Int) < (c.N : Int) := by omega
          have hlv := HF.out.lE v hvN
          have HMM : Hid (m = p.length) := hm
          clear hY hFin hvs hm hlenF
          by_cases htl : t < (c.E v).length
          · have htz : (t : Int) < (((c.E v).length : Nat) : Int) := by omega
            obtain ⟨y, hy⟩ : ∃ y, y = (rowB c.E bk v).getD t 0 := ⟨_, rfl⟩
            have htr : t < (rowB c.E bk v).length := by rw [rowB_len]; exact htl
            have hye : y = (rowB c.E bk v)[t] := by rw [hy]; simp [htr]
            have hyN : y < c.N := by rw [hye]; exact (HF.out.hE v hvN _ (rowB_mem.1 (List.getElem_mem htr))).1
            have HDR : Hid ((rowB c.E bk v).drop t = y :: (rowB c.E bk v).drop (t + 1)) := by show _ = _; rw [hye]; exact List.drop_eq_getElem_cons htr
            obtain ⟨i, hi, hib⟩ : ∃ i, i = (if bk then (c.E v).length - 1 - t else t) ∧ i < (c.E v).length := ⟨_, rfl, by cases bk <;> simp <;> omega⟩
            have HYI : Hid (atN (c.E v) i = (y : Int)) := by
              show _ = _
              rw [hy, hi]
              cases bk
              · rw [← rowB_fwd]; rfl
              · rw [← rowB_bwd htl]; rfl
            have hyz : (y : Int) < (c.N : Int) := by omega
            clear hy hye
            have hiz : bk = true → (((c.E v).length : Nat) : Int) - 1 - (t : Int) = (i : Int) := by intro e; subst e; simp at hi; omega
            have hif : bk = false → t = i := by intro e; subst e; simp at hi; exact hi.symm
            clear hi
            rcases bk with _ | _
            · obtain rfl := hif rfl
              clear hiz hif
              go_upto_region 9 with fail
              go_quiet (fail)
              generalize nq = n1
              go_upto_region 10 with fail
              go_quiet (fail)
              generalize nq = n2
              go_upto_region 16 with fail
              have hY1 : YS c ((wr.drewN (n1 + n2)).setCell ⟨g, m * 2 + 1, none⟩ (.int .i64 ((t : Int) + 1))) work ordV s.ord (.slice (some ⟨g, 0, none⟩) (p.length + 1) cap) ((v, t + 1) :: p) (leftZ s) (fun _ => 0) (fun _ => 0) := by
                rw [HMM.out, Nat.mul_comm]
                exact (HYp.out.drewN _).taken (t + 1)
              clear HYp t0 t1 f1 q7 q0 qv
              generalize (wr.drewN (n1 + n2)).setCell ⟨g, m * 2 + 1, none⟩ (.int .i64 ((t : Int) + 1)) = w5 at hY1 ⊢
              have q16 : w5.cell? ⟨c.Be v, t, none⟩ = some (.int .i32 (y : Int)) := by rw [((hY1.vE HF.out).rows v hvN).2.cell hib, HYI.out]
              have q5 : w5.cell? ⟨c.B, 5, none⟩ = some (.slice (some ⟨c.gl, 0, none⟩) c.N c.N) := hY1.st.cell (i := 5) (by omega)
              have ql : w5.cell? ⟨c.gl, y, none⟩ = some (.int .i32 (leftZ s y)) := hY1.rl.cell hyN
              cases hsn : s.seen y with
              | true =>
                have hzne := leftZ_seen hsn
                obtain ⟨z, hz⟩ : ∃ z, z = leftZ s y := ⟨_, rfl⟩
                rw [← hz] at ql hzne
                have hzb : (z == 0) = false := by simp [hzne]
                have HY : Hid (YS c w5 work ordV s.ord (.slice (some ⟨g, 0, none⟩) (p.length + 1) cap) ((v, t + 1) :: p) (leftZ s) (fun _ => 0) (fun _ => 0)) := hY1
                have HST : Hid (∃ k', k' < kk ∧ Fin (rowB c.E false) (curs (rowB c.E false) ((v, t + 1) :: p)) s sF k') := by
                  have h := HFin.out
                  simp only [curs, List.map_cons, HDR.out] at h
                  exact h.seen_step hsn
                obtain ⟨k', hk', HF2⟩ := HST.out
                have HF3 : Hid (Fin (rowB c.E false) (curs (rowB c.E false) ((v, t + 1) :: p)) s sF k') := HF2
                clear hY1 hz hzne hsn HF2 HST
                go_wp2_with fail
                go_roundg k'
                case measure => omega
                case rel => exact ⟨k', s, work, ordV, _, (v, t + 1) :: p, rfl, HY.out, HF3.out, HOS.out, fun x hx => by
                  rcases List.mem_cons.1 hx with rfl | hx
                  · exact ⟨hvN, HVS.out⟩
                  · exact HPS.out x (by simp [hx])⟩
              | false =>
                have hz := leftZ_un hsn
                rw [hz] at ql
                have fl : w5.frozen? ⟨c.gl, y, none⟩ = false := hY1.rl.frozen y
                have hY2 := (hY1.setl y (-1)).congr (lf' := leftZ (s.mark y)) (P' := fun _ => 0) (L' := fun _ => 0) (fun x _ => leftZ_mark hsn HOS.out x) (fun _ _ => rfl) (fun _ _ => rfl)
                have HST : Hid (∃ k', k' < kk ∧ Fin (rowB c.E false) (curs (rowB c.E false) ((y, 0) :: (v, t + 1) :: p)) (s.mark y) sF k') := by
                  have h := HFin.out
                  simp only [curs, List.map_cons, HDR.out] at h
                  have := h.new_step hsn
                  show ∃ k', _ ∧ _
                  simpa [curs] using this
                obtain ⟨k', hk', HF2⟩ := HST.out
                have HF3 : Hid (Fin (rowB c.E false) (curs (rowB c.E false) ((y, 0) :: (v, t + 1) :: p)) (s.mark y) sF k') := HF2
                clear hY1 hz hsn HF2 HST HFin
                go_upto_region 19 with fail
                generalize w5.setCell ⟨c.gl, y, none⟩ (.int .i32 (-1)) = w6 at hY2 ⊢
                clear q16 q5 ql fl
                have q7 : w6.cell? ⟨c.B, 7, none⟩ = some (.slice (some ⟨g, 0, none⟩) (m + 1) cap) := by rw [HMM.out]; exact hY2.st.cell (i := 7) (by omega)
                have f7 : w6.frozen? ⟨c.B, 7, none⟩ = false := hY2.st.frozen 7
                obtain ⟨i1, hi1, hz0, hz1, hz2⟩ := info_parts Try.info66
                have hown3 : (w6.alloc (.cells #[.int .i32 (y : Int), .int .i64 0] 66)).ownsRow 0 66 2 (.slice (some ⟨g, 0, none⟩) (m + 1) cap) (m + 1) (pv ((v, t + 1) :: p)) := by rw [HMM.out]; exact hY2.po.alloc _
                have hBlt : c.B < w6.heap.size := hY2.st.lt
                have hoB : some c.B ≠ (Value.slice (some ⟨g, 0, none⟩) (m + 1) cap).ownBlock := fun e => own_ne_row hY2.po hY2.st (by decide) (by rw [e]; rfl)
                obtain ⟨xs, hxs⟩ : ∃ xs, xs = pv ((v, t + 1) :: p) := ⟨_, rfl⟩
                rw [← hxs] at hown3
                have HXS : Hid (xs = pv ((v, t + 1) :: p)) := hxs
                have HY : Hid (YS c w6 work ordV s.ord (.slice (some ⟨g, 0, none⟩) (p.length + 1) cap) ((v, t + 1) :: p) (leftZ (s.mark y)) (fun _ => 0) (fun _ => 0)) := hY2
                clear hY2 hxs
                go_wp2_with (at_builtin; refine wpList_append_lies _ rfl (.tmp 139) (.tmp 142) 58 rfl 0 66 i1 (.agg #[.int .i32 0, .int .i64 0]) 2 16 Try.underlying58 hi1 hz0 hz1 hz2 rfl (by decide) (.slice (some ⟨g, 0, none⟩) (m + 1) cap) (m + 1) xs rfl hown3 ⟨w6.heap.size, 0, none⟩ 1 1 [.int .i32 (y : Int), .int .i64 0] rfl rfl (World.news_of_block (heap_alloc_new w6 _)) (by simp [Value.oneCell']) (by omega) (by unfold maxLen; omega) (by omega) (Nat.zero_le _) (w6.heap.size + 1) (by simp) ?_; intro g2 cap2 w7 hown7 hgrow hat hlt1; have q7' : w7.cell? ⟨c.B, 7, none⟩ = some (.slice (some ⟨g, 0, none⟩) (m + 1) cap) := cell_grown hgrow hBlt hoB q7; have f7' : w7.frozen? ⟨c.B, 7, none⟩ = false := frozen_grown hgrow hBlt hoB f7)
                go_roundg k'
                case measure => omega
                case rel =>
                  refine ⟨k', s.mark y, work, ordV, .slice (some ⟨g2, 0, none⟩) (m + 1 + 1) cap2, (y, 0) :: (v, t + 1) :: p, rfl, ?_, HF3.out, fun x hx => by have := HOS.out x hx; simp [VSt.mark, this], fun x hx => ?_⟩
                  · obtain rfl := HMM.out
                    obtain rfl := HXS.out
                    refine HY.out.grownPath (p' := (y, 0) :: (v, t + 1) :: p) (alloc_parts w6 _) hgrow ?_ hat
                    rw [pv_cons y 0]
                    exact hown7
                  · rcases List.mem_cons.1 hx with rfl | hx
                    · exact ⟨hyN, by simp [VSt.mark]⟩
                    · rcases List.mem_cons.1 hx with rfl | hx
                      · exact ⟨hvN, by simp [VSt.mark, HVS.out]⟩
                      · have := HPS.out x (by simp [hx])
                        exact ⟨this.1, by simp [VSt.mark, this.2]⟩
            · have hiz' := hiz rfl
              clear hiz hif
              go_upto_region 9 with fail
              go_quiet (fail)
              generalize nq = n1
              go_upto_region 10 with fail
              go_quiet (fail)
              generalize nq = n2
              go_upto_region 16 with fail
              have hY1 : YS c ((wr.drewN (n1 + n2)).setCell ⟨g, m * 2 + 1, none⟩ (.int .i64 ((t : Int) + 1))) work ordV s.ord (.slice (some ⟨g, 0, none⟩) (p.length + 1) cap) ((v, t + 1) :: p) (leftZ s) (fun _ => 0) (fun _ => 0) := by
                rw [HMM.out, Nat.mul_comm]
                exact (HYp.out.drewN _).taken (t + 1)
              clear HYp t0 t1 f1 q7 q0 qv
              generalize (wr.drewN (n1 + n2)).setCell ⟨g, m * 2 + 1, none⟩ (.int .i64 ((t : Int) + 1)) = w5 at hY1 ⊢
              have q16 : w5.cell? ⟨c.Be v, i, none⟩ = some (.int .i32 (y : Int)) := by rw [((hY1.vE HF.out).rows v hvN).2.cell hib, HYI.out]
              have q5 : w5.cell? ⟨c.B, 5, none⟩ = some (.slice (some ⟨c.gl, 0, none⟩) c.N c.N) := hY1.st.cell (i := 5) (by omega)
              have ql : w5.cell? ⟨c.gl, y, none⟩ = some (.int .i32 (leftZ s y)) := hY1.rl.cell hyN
              cases hsn : s.seen y with
              | true =>
                have hzne := leftZ_seen hsn
                obtain ⟨z, hz⟩ : ∃ z, z = leftZ s y := ⟨_, rfl⟩
                rw [← hz] at ql hzne
                have hzb : (z == 0) = false := by simp [hzne]
                have HY : Hid (YS c w5 work ordV s.ord (.slice (some ⟨g, 0, none⟩) (p.length + 1) cap) ((v, t + 1) :: p) (leftZ s) (fun _ => 0) (fun _ => 0)) := hY1
                have HST : Hid (∃ k', k' < kk ∧ Fin (rowB c.E true) (curs (rowB c.E true) ((v, t + 1) :: p)) s sF k') := by
                  have h := HFin.out
                  simp only [curs, List.map_cons, HDR.out] at h
                  exact h.seen_step hsn
                obtain ⟨k', hk', HF2⟩ := HST.out
                have HF3 : Hid (Fin (rowB c.E true) (curs (rowB c.E true) ((v, t + 1) :: p)) s sF k') := HF2
                clear hY1 hz hzne hsn HF2 HST
                go_wp2_with fail
                go_roundg k'
                case measure => omega
                case rel => exact ⟨k', s, work, ordV, _, (v, t + 1) :: p, rfl, HY.out, HF3.out, HOS.out, fun x hx => by
                  rcases List.mem_cons.1 hx with rfl | hx
                  · exact ⟨hvN, HVS.out⟩
                  · exact HPS.out x (by simp [hx])⟩
              | false =>
                have hz := leftZ_un hsn
                rw [hz] at ql
                have fl : w5.frozen? ⟨c.gl, y, none⟩ = false := hY1.rl.frozen y
                have hY2 := (hY1.setl y (-1)).congr (lf' := leftZ (s.mark y)) (P' := fun _ => 0) (L' := fun _ => 0) (fun x _ => leftZ_mark hsn HOS.out x) (fun _ _ => rfl) (fun _ _ => rfl)
                have HST : Hid (∃ k', k' < kk ∧ Fin (rowB c.E true) (curs (rowB c.E true) ((y, 0) :: (v, t + 1) :: p)) (s.mark y) sF k') := by
                  have h := HFin.out
                  simp only [curs, List.map_cons, HDR.out] at h
                  have := h.new_step hsn
                  show ∃ k', _ ∧ _
                  simpa [curs] using this
                obtain ⟨k', hk', HF2⟩ := HST.out
                have HF3 : Hid (Fin (rowB c.E true) (curs (rowB c.E true) ((y, 0) :: (v, t + 1) :: p)) (s.mark y) sF k') := HF2
                clear hY1 hz hsn HF2 HST HFin
                go_upto_region 19 with fail
                generalize w5.setCell ⟨c.gl, y, none⟩ (.int .i32 (-1)) = w6 at hY2 ⊢
                clear q16 q5 ql fl
                have q7 : w6.cell? ⟨c.B, 7, none⟩ = some (.slice (some ⟨g, 0, none⟩) (m + 1) cap) := by rw [HMM.out]; exact hY2.st.cell (i := 7) (by omega)
                have f7 : w6.frozen? ⟨c.B, 7, none⟩ = false := hY2.st.frozen 7
                obtain ⟨i1, hi1, hz0, hz1, hz2⟩ := info_parts Try.info66
                have hown3 : (w6.alloc (.cells #[.int .i32 (y : Int), .int .i64 0] 66)).ownsRow 0 66 2 (.slice (some ⟨g, 0, none⟩) (m + 1) cap) (m + 1) (pv ((v, t + 1) :: p)) := by rw [HMM.out]; exact hY2.po.alloc _
                have hBlt : c.B < w6.heap.size := hY2.st.lt
                have hoB : some c.B ≠ (Value.slice (some ⟨g, 0, none⟩) (m + 1) cap).ownBlock := fun e => own_ne_row hY2.po hY2.st (by decide) (by rw [e]; rfl)
                obtain ⟨xs, hxs⟩ : ∃ xs, xs = pv ((v, t + 1) :: p) := ⟨_, rfl⟩
                rw [← hxs] at hown3
                have HXS : Hid (xs = pv ((v, t + 1) :: p)) := hxs
                have HY : Hid (YS c w6 work ordV s.ord (.slice (some ⟨g, 0, none⟩) (p.length + 1) cap) ((v, t + 1) :: p) (leftZ (s.mark y)) (fun _ => 0) (fun _ => 0)) := hY2
                clear hY2 hxs
                go_wp2_with (at_builtin; refine wpList_append_lies _ rfl (.tmp 139) (.tmp 142) 58 rfl 0 66 i1 (.agg #[.int .i32 0, .int .i64 0]) 2 16 Try.underlying58 hi1 hz0 hz1 hz2 rfl (by decide) (.slice (some ⟨g, 0, none⟩) (m + 1) cap) (m + 1) xs rfl hown3 ⟨w6.heap.size, 0, none⟩ 1 1 [.int .i32 (y : Int), .int .i64 0] rfl rfl (World.news_of_block (heap_alloc_new w6 _)) (by simp [Value.oneCell']) (by omega) (by unfold maxLen; omega) (by omega) (Nat.zero_le _) (w6.heap.size + 1) (by simp) ?_; intro g2 cap2 w7 hown7 hgrow hat hlt1; have q7' : w7.cell? ⟨c.B, 7, none⟩ = some (.slice (some ⟨g, 0, none⟩) (m + 1) cap) := cell_grown hgrow hBlt hoB q7; have f7' : w7.frozen? ⟨c.B, 7, none⟩ = false := frozen_grown hgrow hBlt hoB f7)
                go_roundg k'
                case measure => omega
                case rel =>
                  refine ⟨k', s.mark y, work, ordV, .slice (some ⟨g2, 0, none⟩) (m + 1 + 1) cap2, (y, 0) :: (v, t + 1) :: p, rfl, ?_, HF3.out, fun x hx => by have := HOS.out x hx; simp [VSt.mark, this], fun x hx => ?_⟩
                  · obtain rfl := HMM.out
                    obtain rfl := HXS.out
                    refine HY.out.grownPath (p' := (y, 0) :: (v, t + 1) :: p) (alloc_parts w6 _) hgrow ?_ hat
                    rw [pv_cons y 0]
                    exact hown7
                  · rcases List.mem_cons.1 hx with rfl | hx
                    · exact ⟨hyN, by simp [VSt.mark]⟩
                    · rcases List.mem_cons.1 hx with rfl | hx
                      · exact ⟨hvN, by simp [VSt.mark, HVS.out]⟩
                      · have := HPS.out x (by simp [hx])
                        exact ⟨this.1, by simp [VSt.mark, this.2]⟩
          · have htz : (((c.E v).length : Nat) : Int) ≤ (t : Int) := by omega
            go_upto_region 9 with fail
            go_quiet (fail)
            generalize nq = n1
            go_upto_region 10 with fail
            go_quiet (fail)
            generalize nq = n2
            go_upto_region 20 with fail
            have q4 : wr.cell? ⟨c.B, 4, none⟩ = some (.int .i64 work) := HYp.out.st.cell (i := 4) (by omega)
            have f4 : wr.frozen? ⟨c.B, 4, none⟩ = false := HYp.out.st.frozen 4
            go_upto_region 21 with fail
            obtain ⟨work2, hw2⟩ : ∃ z, z = wrap64 (work + (1 + ↑(c.E v).length)) := ⟨_, rfl⟩
            rw [← hw2]
            have hY1 : YS c ((wr.drewN (n1 + n2)).setCell ⟨c.B, 4, none⟩ (.int .i64 work2)) work2 ordV s.ord (.slice (some ⟨g, 0, none⟩) (p.length + 1) cap) ((v, t) :: p) (leftZ s) (fun _ => 0) (fun _ => 0) := (HYp.out.drewN _).setWork work2
            clear HYp t0 t1 f1 q7 q0 qv q4 f4 hw2
            generalize (wr.drewN (n1 + n2)).setCell ⟨c.B, 4, none⟩ (.int .i64 work2) = w5 at hY1 ⊢
            obtain ⟨i1, hi1, hz0, hz1, hz2⟩ := info_parts Try.info54
            obtain ⟨nn, hnn⟩ : ∃ nn, nn = s.ord.length := ⟨_, rfl⟩
            have hnl : nn < 4096 := by have := HFin.out.len; simp only [curs, List.length_cons, List.length_map] at this; omega
            have t0 : w5.cell? ⟨g, m * 2, none⟩ = some (.int .i32 (v : Int)) := by rw [HMM.out, Nat.mul_comm]; exact own_cell hY1.po (pv_at0 v t p)
            have q6 : w5.cell? ⟨c.B, 6, none⟩ = some ordV := hY1.st.cell (i := 6) (by omega)
            have f6 : w5.frozen? ⟨c.B, 6, none⟩ = false := hY1.st.frozen 6
            have q6a : (w5.alloc (.cells #[.int .i32 (v : Int)] 54)).cell? ⟨c.B, 6, none⟩ = some ordV := (World.cell?_of_block (Deep.blk_alloc_lt _ _ _ hY1.st.lt)).trans q6
            have hown : (w5.drew.alloc (.cells #[.int .i32 (v : Int)] 54)).ownsRow 0 54 1 ordV nn (cv s.ord) := by rw [hnn]; exact World.ownsRow.alloc (w := w5.drew) hY1.oo _
            have hBlt : c.B < w5.drew.heap.size := hY1.st.lt
            have hoB : some c.B ≠ ordV.ownBlock := fun e => own_ne_row hY1.oo hY1.st (by decide) e.symm
            have hnews : ∀ j u, [Value.int .i32 (v : Int)][j]? = some u → (w5.drew.alloc (.cells #[.int .i32 (v : Int)] 54)).cell? ((⟨w5.heap.size, 0, none⟩ : Addr).add j) = some u := World.news_of_block (heap_alloc_new w5.drew _)
            have h63 : nn + 1 ≤ maxLen := by unfold maxLen; omega
            have hbt : (nn + 1) * 4 ≤ 140737488355328 := by omega
            have hone : ∀ u ∈ [Value.int .i32 (v : Int)], u.oneCell' = true := by simp [Value.oneCell']
            have HS : Hid (∀ (w1 : World) (a1 : Option Addr) (c1 : Nat), w1.ownsRow 0 54 1 (.slice a1 (nn + 1) c1) (nn + 1) (cv s.ord ++ [.int .i32 (v : Int)]) → (w5.drew.alloc (.cells #[.int .i32 (v : Int)] 54)).grownBy w1 ordV.ownBlock →
                ((Value.slice a1 (nn + 1) c1).ownBlock = ordV.ownBlock ∨ (Value.slice a1 (nn + 1) c1).ownBlock = some (w5.drew.alloc (.cells #[.int .i32 (v : Int)] 54)).heap.size) → YS c (w1.setCell ⟨c.B, 6, none⟩ (.slice a1 (nn + 1) c1)) work2 (.slice a1 (nn + 1) c1) (s.ord ++ [v]) (.slice (some ⟨g, 0, none⟩) (p.length + 1) cap) ((v, t) :: p) (leftZ s) (fun _ => 0) (fun _ => 0)) := by
              intro w1 a1 c1 h1 h2 h3
              refine hY1.drew.grownOrd (alloc_parts w5.drew _) h2 ?_ h3
              rw [cv_app, List.length_append, ← hnn]
              exact h1
            have HNN : Hid (nn = s.ord.length) := hnn
            clear hY1 hnn
            go_cut [166] (fun _ wc => ∃ a1 c1, YS c wc work2 (.slice a1 (nn + 1) c1) (s.ord ++ [v]) (.slice (some ⟨g, 0, none⟩) (p.length + 1) cap) ((v, t) :: p) (leftZ s) (fun _ => 0) (fun _ => 0))
            case first =>
              go_region_law ((refine step_append_at _ (by rfl) (.tmp 160) (.tmp 165) 57 (by rfl) 0 54 i1 (.int .i32 0) 1 4 Try.underlying57 hi1 hz0 hz1 hz2 rfl (by decide) ordV nn (cv s.ord) (by rfl) hown ⟨w5.heap.size, 0, none⟩ 1 1 [.int .i32 (v : Int)] (by rfl) rfl hnews hone h63 hbt (Nat.zero_le _) ?_; intro a1 c1 w1 hown1 hgrow hat; have hgrow : (w5.drew.alloc (.cells #[.int .i32 (v : Int)] 54)).grownBy w1 ordV.ownBlock := hgrow; have q6' : w1.cell? ⟨c.B, 6, none⟩ = some ordV := cell_grown hgrow hBlt hoB q6; have f6' : w1.frozen? ⟨c.B, 6, none⟩ = false := frozen_grown hgrow hBlt hoB f6; have HR : Hid (YS c (w1.setCell ⟨c.B, 6, none⟩ (.slice a1 (nn + 1) c1)) work2 (.slice a1 (nn + 1) c1) (s.ord ++ [v]) (.slice (some ⟨g, 0, none⟩) (p.length + 1) cap) ((v, t) :: p) (leftZ s) (fun _ => 0) (fun _ => 0)) := HS.out _ _ _ hown1 hgrow hat; clear hown1 hgrow hat))
              all_goals
                clear hown hnews hone h63 hbt HS q6 f6 q6a t0 hBlt hoB
                go_wp2_with fail
                go_meet
                exact ⟨_, _, HR.out⟩
            case rest =>
              obtain ⟨a1, c1, hY⟩ := hcut
              clear t0 q6 f6 q6a hown hBlt hoB hnews HS h63 hbt hone
              have t0 : wc.cell? ⟨g, m * 2, none⟩ = some (.int .i32 (v : Int)) := by rw [HMM.out, Nat.mul_comm]; exact own_cell hY.po (pv_at0 v t p)
              have q6 : wc.cell? ⟨c.B, 6, none⟩ = some (.slice a1 (nn + 1) c1) := hY.st.cell (i := 6) (by omega)
              have q5 : wc.cell? ⟨c.B, 5, none⟩ = some (.slice (some ⟨c.gl, 0, none⟩) c.N c.N) := hY.st.cell (i := 5) (by omega)
              obtain ⟨v5, p5⟩ : ∃ v5, wc.cell? ⟨c.gl, v, none⟩ = some v5 := ⟨_, hY.rl.cell hvN⟩
              have f5 : wc.frozen? ⟨c.gl, v, none⟩ = false := hY.rl.frozen v
              have hY2 := (hY.setl v ((nn + 1 : Nat) : Int)).congr (lf' := leftZ (s.leave v)) (P' := fun _ => 0) (L' := fun _ => 0) (fun x _ => by rw [HNN.out]; exact leftZ_leave HVS.out x) (fun _ _ => rfl) (fun _ _ => rfl)
              clear hY
              go_upto_region 22 with fail
              go_region
              have hY3 : YS c (wc.setCell ⟨c.gl, v, none⟩ (.int .i32 ((nn : Int) + 1))).drew work2 (.slice a1 (nn + 1) c1) (s.leave v).ord (.slice (some ⟨g, 0, none⟩) (p.length + 1) cap) ((v, t) :: p) (leftZ (s.leave v)) (fun _ => 0) (fun _ => 0) := hY2.drew
              clear hY2 t0 q6 q5 p5 f5
              generalize (wc.setCell ⟨c.gl, v, none⟩ (.int .i32 ((nn : Int) + 1))).drew = w9 at hY3 ⊢
              have q7 : w9.cell? ⟨c.B, 7, none⟩ = some (.slice (some ⟨g, 0, none⟩) (m + 1) cap) := by rw [HMM.out]; exact hY3.st.cell (i := 7) (by omega)
              have f7 : w9.frozen? ⟨c.B, 7, none⟩ = false := hY3.st.frozen 7
              have hcap : m + 1 ≤ cap := by
                rw [HMM.out]
                rcases hY3.po.2 with ⟨e, _⟩ | ⟨g', cap', cur, e, _, _, hle, _⟩
                · cases e
                · cases e; exact hle
              have hpop : w9.ownsRow 0 66 2 (.slice (some ⟨g, 0, none⟩) p.length cap) p.length (pv p) := by
                have h := hY3.po
                rw [pv_cons] at h
                exact ownsRow_pop (pv_len p) h
              have HY4 : Hid (YS c (w9.setCell ⟨c.B, 7, none⟩ (.slice (some ⟨g, 0, none⟩) m cap)) work2 (.slice a1 (nn + 1) c1) (s.leave v).ord (.slice (some ⟨g, 0, none⟩) m cap) p (leftZ (s.leave v)) (fun _ => 0) (fun _ => 0)) := by
                show YS _ _ _ _ _ _ _ _ _ _
                rw [HMM.out]
                exact hY3.setPath hpop (fun g' e => hY3.pg g' e)
              have HST : Hid (∃ k', k' < kk ∧ Fin (rowB c.E bk) (curs (rowB c.E bk) p) (s.leave v) sF k') := by
                have h := HFin.out
                have hd : (rowB c.E bk v).drop t = [] := List.drop_eq_nil_of_le (by rw [rowB_len]; omega)
                simp only [curs, List.map_cons, hd] at h
                exact h.leave_step
              obtain ⟨k', hk', HF2⟩ := HST.out
              have HF3 : Hid (Fin (rowB c.E bk) (curs (rowB c.E bk) p) (s.leave v) sF k') := HF2
              have hcz : (m : Int) + 1 ≤ (cap : Int) := by omega
              clear hY3 hpop HF2 HST HFin
              go_upto_region 23 with fail
              go_region
              clear q7 f7
              go_wp2_with fail
              go_roundg k'
              case measure => omega
              case rel => exact ⟨k', s.leave v, work2, _, _, p, rfl, HY4.out.drew, HF3.out, fun x hx => by
                rcases List.mem_append.1 hx with hx | hx
                · exact HOS.out x hx
                · obtain rfl := List.mem_singleton.1 hx; exact HVS.out, fun x hx => HPS.out x (by simp [hx])⟩
end Go.Proofs.Qxb6000043a
