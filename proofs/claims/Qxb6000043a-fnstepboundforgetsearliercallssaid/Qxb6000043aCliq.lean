import Derived.Test.Qxb6000043aCliqP
import Derived.Deep.DeepCutAuto
import Derived.Deep.CutBlock
namespace Go.Proofs.Qxb6000043a
open Go.RowKit

theorem slice0_run (cand : Value) (cs : List Nat) (w0 : World) (h : w0.ownsRow 0 54 1 cand cs.length (cv cs)) :
    ∃ v0, (∀ w, (Instr.sliceAt 57 cand none (some (.int .i64 0)) none).run Try.prog w = .ok v0 w) ∧ w0.ownsRow 0 54 1 v0 0 [] ∧ v0.ownBlock = cand.ownBlock := by
  rcases h.2 with ⟨rfl, h0⟩ | ⟨g, cap, cur, rfl, _⟩
  · exact ⟨.slice none 0 0, fun w => by go_simp, World.ownsRow_nil _ _ _ _, rfl⟩
  · exact ⟨.slice (some ⟨g, 0, none⟩) 0 cap, fun w => by go_simp, owns_cut h, rfl⟩

/-- How cliqueSteps begins. -/
structure CBeg (c : CC) (work : Int) (cs : List Nat) (bA wA : Nat → Int) (m0 : Nat) : Prop where
  st : c.w.rowIs c.B 60 14 (c.sb work c.cand m0)
  ca : CandAt c.w c.Be c.Bw c.N (fun _ => True) c.cand cs
  rb : c.w.rowIs c.gb 3 c.N (fun v => .int .i64 (bA v))
  rx : c.w.rowIs c.gx 3 c.N (fun v => .int .i64 (wA v))
  bm : ∀ v, v < c.N → bA v ≤ m0
  xm : ∀ v, v < c.N → wA v ≤ m0

/-- Behind 'b.candidates = append(b.candidates[:0], b.edges[r]...)'. -/
theorem cs_start {c : CC} (hf : CFix c) {work : Int} {cs : List Nat} {bA wA : Nat → Int} {m0 : Nat} (hb : CBeg c work cs bA wA m0) {r : Nat} {v0 : Value} (hob : v0.ownBlock = c.cand.ownBlock) {w' w1 : World} (hw' : w'.heap = c.w.heap) (hos : w'.os = c.w.os ∧ w'.tape = c.w.tape ∧ w'.output = c.w.output) {a1 : Option Addr} {c1 : Nat}
    (hown : w1.ownsRow 0 54 1 (.slice a1 (c.E r).length c1) (c.E r).length (cv (c.E r))) (hg : w'.grownBy w1 v0.ownBlock) (hat : (Value.slice a1 (c.E r).length c1).ownBlock = v0.ownBlock ∨ (Value.slice a1 (c.E r).length c1).ownBlock = some w'.heap.size) :
    CS c (w1.setCell ⟨c.B, 10, none⟩ (.slice a1 (c.E r).length c1)) work (.slice a1 (c.E r).length c1) (c.E r) bA wA m0 := by
  rw [hob] at hg hat
  have hk0 : Kept c.X c.w w' := ⟨hos.1, hos.2.1, hos.2.2, by rw [hw']; exact Nat.le_refl _, fun k _ _ => by rw [hw']⟩
  have hk : Kept c.X c.w w1 := hk0.grown hg (fun k e => .inl (.inr (.inr (.inr e))))
  have hne : ∀ {b : Nat} {t : TypeId} {n : Nat} {f : Nat → Value}, c.w.rowIs b t n f → t ≠ 54 → some b ≠ c.cand.ownBlock := fun hr ht e => hb.ca.type e.symm hr ht rfl
  have hrow : ∀ {b : Nat} {t : TypeId} {n : Nat} {f : Nat → Value}, c.w.rowIs b t n f → t ≠ 54 → w1.rowIs b t n f := fun hr ht => hr.of_block ((hg.block _ (by rw [hw']; exact hr.lt) (hne hr ht)).trans (by rw [hw']))
  have st1 := hrow hb.st (by decide)
  have ca1 : CandAt w1 c.Be c.Bw c.N c.R (.slice a1 (c.E r).length c1) (c.E r) := by
    refine CandAt.of_owns hown (fun g hgo => ?_)
    rcases hat with e | e
    · rw [hgo] at e
      refine ⟨?_, .inl e.symm⟩
      rcases hb.ca with ⟨e1, _⟩ | ⟨g', cap, F, e1, _, _, _, _, h5, _⟩
      · rw [e1] at e; cases e
      · rw [e1] at e; cases e; exact h5
    · rw [hgo, hw'] at e
      cases e
      exact ⟨fun v hv => ⟨Nat.ne_of_lt (hf.ev.rows v hv).2.lt, Nat.ne_of_lt (hf.wv.rows v hv).2.lt⟩, .inr (Nat.le_refl _)⟩
  exact ⟨hk.setCell (.inl (.inl rfl)) _, (st1.set 10 _).congr (sb_cand c work c.cand _ m0), ca1.keep (fun g hgo => Deep.blk_setCell_other _ _ _ _ (ca1.type hgo st1 (by decide))),
    (hrow hb.rb (by decide)).setOther (ne_type hb.rb hb.st (by decide)) _, (hrow hb.rx (by decide)).setOther (ne_type hb.rx hb.st (by decide)) _⟩

theorem cv_one (l : List Nat) : ∀ u ∈ cv l, u.oneCell' = true := by
  intro u hu
  simp only [cv, List.mem_map] at hu
  obtain ⟨n, _, rfl⟩ := hu
  rfl
theorem row_news {w : World} {b : Nat} {l : List Nat} (h : w.rowIs b 54 l.length (fun i => .int .i32 (atN l i))) : ∀ j u, (cv l)[j]? = some u → w.cell? ((⟨b, 0, none⟩ : Addr).add j) = some u := by
  intro j u hj
  have hl : j < l.length := by
    have := (List.getElem?_eq_some_iff.1 hj).1
    rwa [cv_len] at this
  rw [cv_at hl] at hj
  rw [Go.WideShapes.add_plain, Nat.zero_add, h.cell hl, hj]

def CliquePost (c : CC) (r m0 : Nat) (e : Ending) (w' : World) : Prop :=
  e = .returned (.int .i64 ((cliqueF (c.lim + 1) (clq c.E c.Wt r) : Nat) : Int)) ∧ ∃ work cand cs bA wA mk, CS c w' work cand cs bA wA mk ∧ (∀ v, v < c.N → bA v ≤ (mk : Nat)) ∧ (∀ v, v < c.N → wA v ≤ (mk : Nat)) ∧ mk ≤ m0 + (c.E r).length + 1

/-- The head of the loop. -/
def CHead (c : CC) (r m0 g : Nat) (s5 s6 : Value) (wr : World) : Prop :=
  ∃ (M k x : Nat) (cs : List Nat) (work : Int) (cand : Value) (bA wA : Nat → Int) (mk : Nat), g = M ∧ s5 = .int .i64 k ∧ s6 = .int .i32 x ∧ x < c.N ∧ (∀ q ∈ cs, q < c.N) ∧ CS c wr work cand cs bA wA mk ∧ (∀ v, v < c.N → bA v ≤ mk) ∧ (∀ v, v < c.N → wA v ≤ mk) ∧
    k + gr c.E c.Wt M cs x = clq c.E c.Wt r ∧ (cs.filter (mt c.E c.Wt x)).length < M ∧ mk + M = m0 + (c.E r).length + 1 ∧ 1 ≤ k ∧ cs.length ≤ 1048576

set_option maxRecDepth 100000 in
set_option maxHeartbeats 16000000 in
theorem clique_core (c : CC) (hf : CFix c) (work : Int) (cs : List Nat) (bA wA : Nat → Int) (m0 r : Nat) (w : World) (hw : c.w = w)
    (hb : CBeg c work cs bA wA m0) (hm : m0 ≤ 4611686018427387904) (hr : r < c.N) :
    Calls Try.prog 36 #[.pointer (some ⟨c.B, 0, none⟩), .int .i32 r] w (CliquePost c r m0) := by
  obtain ⟨v0, hsl, hown0, hob⟩ := slice0_run c.cand cs w (by rw [← hw]; exact hb.ca.owns)
  obtain ⟨i0, hi0, hz0, hz1, hz2⟩ := info_parts Try.info54
  have hN := hf.hN
  have hstw := hb.st
  have hevw := hf.ev
  rw [hw] at hstw hevw
  have q0 : w.cell? ⟨c.B, 0, none⟩ = some (.slice (some ⟨c.ge, 0, none⟩) c.N c.N) := hstw.cell (i := 0) (by omega)
  have q10 : w.cell? ⟨c.B, 10, none⟩ = some c.cand := hstw.cell (i := 10) (by omega)
  have f10 : w.frozen? ⟨c.B, 10, none⟩ = false := hstw.frozen 10
  have qr : w.cell? ⟨c.ge, r, none⟩ = some (.slice (some ⟨c.Be r, 0, none⟩) (c.E r).length (c.E r).length) := hevw.top.cell hr
  have hrz : (r : Int) < (c.N : Int) := by omega
  have hlr := hf.lE r hr
  have hoB : some c.B ≠ v0.ownBlock := by rw [hob]; exact fun e => hb.ca.type e.symm hb.st (by decide) rfl
  have hBlt := hstw.lt
  have hnews := row_news (hevw.rows r hr).2
  have hone := cv_one (c.E r)
  have HS : Hid (∀ (w' w1 : World) (a1 : Option Addr) (c1 : Nat), w'.heap = w.heap → (w'.os = w.os ∧ w'.tape = w.tape ∧ w'.output = w.output) → w1.ownsRow 0 54 1 (.slice a1 (c.E r).length c1) (c.E r).length (cv (c.E r)) → w'.grownBy w1 v0.ownBlock →
      ((Value.slice a1 (c.E r).length c1).ownBlock = v0.ownBlock ∨ (Value.slice a1 (c.E r).length c1).ownBlock = some w'.heap.size) → CS c (w1.setCell ⟨c.B, 10, none⟩ (.slice a1 (c.E r).length c1)) work (.slice a1 (c.E r).length c1) (c.E r) bA wA m0) := by
    intro w' w1 a1 c1 e1 e2 e3 e4 e5
    exact cs_start hf hb hob (by rw [hw]; exact e1) (by rw [hw]; exact e2) e3 e4 e5
  have HB : Hid (CBeg c work cs bA wA m0) := hb
  have HF : Hid (CFix c) := hf
  have hlim := hf.hl
  clear hb hf hstw hevw hob
  go_enter Try.func36, Try.ntmps36
  go_upto_region 1 with fail
  go_cut [30] (fun _ wc => ∃ cand1, CS c wc work cand1 (c.E r) bA wA m0)
  case first =>
    as_aux_lemma =>
      go_region_law ((refine step_append_at _ (by rfl) (.tmp 22) (.tmp 29) 57 (by rfl) 0 54 i0 (.int .i32 0) 1 4 Try.underlying57 hi0 hz0 hz1 hz2 rfl (by decide) v0 0 [] (by rfl) hown0 ⟨c.Be r, 0, none⟩ (c.E r).length (c.E r).length (cv (c.E r)) (by rfl) (by rw [cv_len, Nat.mul_one]) hnews hone (by unfold maxLen; omega) (by omega) (Nat.zero_le _) ?_; intro a1 c1 w1 hown1 hgrow hat; have q10' : w1.cell? ⟨c.B, 10, none⟩ = some c.cand := (hgrow.cell_far _ hBlt hoB).trans q10; have f10' : w1.frozen? ⟨c.B, 10, none⟩ = false := (hgrow.frozen_far _ hBlt hoB).trans f10))
      all_goals
        go_wp2_with fail
        go_meet
        simp only [Nat.zero_add, List.nil_append] at hown1 hat ⊢
        exact ⟨_, HS.out w.drew _ _ _ rfl ⟨rfl, rfl, rfl⟩ hown1 hgrow hat⟩
  case rest =>
    obtain ⟨cand1, hC⟩ := hcut
    clear q0 q10 f10 qr hoB hBlt hnews hone HS hown0 hsl
    have HC : Hid (CS c wc work cand1 (c.E r) bA wA m0) := hC
    clear hC
    go_wp2_with fail
    go_loopg [5, 6] ((c.E r).length + 1) (fun g s5 s6 wr => CHead c r m0 g s5 s6 wr)
    case atStart =>
      have hb := HB.out
      have hf := HF.out
      exact ⟨_, 1, r, c.E r, work, cand1, bA, wA, m0, rfl, rfl, rfl, hr, fun q hq => (hf.hE r hr q hq).1, HC.out, hb.bm, hb.xm, rfl, by have := List.length_filter_le (mt c.E c.Wt r) (c.E r); omega, by omega, Nat.le_refl _, hlr⟩
    case round =>
      obtain ⟨M, k, x, cs, work, cand, bA, wA, mk, hM, rfl, rfl, hx, hcs, hC, hbm, hxm, hk, hlen, hmk, hk1, hcl⟩ := hrel
      have hf := HF.out
      have HC2 : Hid (∀ q ∈ cs, q < c.N) := hcs
      have HBM : Hid ((∀ v, v < c.N → bA v ≤ mk) ∧ (∀ v, v < c.N → wA v ≤ mk)) := ⟨hbm, hxm⟩
      have HK : Hid (k + gr c.E c.Wt M cs x = clq c.E c.Wt r ∧ (cs.filter (mt c.E c.Wt x)).length < M) := ⟨hk, hlen⟩
      have hkle : k ≤ 1048578 := by have h1 := gr_le c.E c.Wt ((c.E r).length + 1) (c.E r) r; unfold clq at hk; omega
      have hxz : (x : Int) < (c.N : Int) := by omega
      have hlx := hf.lE x hx
      have hlw := hf.lW x hx
      clear hcs hbm hxm hk hlen HC HB
      have q13 : wr.cell? ⟨c.B, 13, none⟩ = some (.int .i64 mk) := hC.st.cell (i := 13) (by omega)
      have f13 : wr.frozen? ⟨c.B, 13, none⟩ = false := hC.st.frozen 13
      have hC1 := hC.setMark (mk + 1) (.int .i64 ((mk : Int) + 1)) (by simp)
      clear hC hf
      go_upto_region 6 with fail
      generalize wr.setCell ⟨c.B, 13, none⟩ (.int .i64 ((mk : Int) + 1)) = w5 at hC1 ⊢
      clear q13 f13
      have q0 : w5.cell? ⟨c.B, 0, none⟩ = some (.slice (some ⟨c.ge, 0, none⟩) c.N c.N) := hC1.st.cell (i := 0) (by omega)
      have qx : w5.cell? ⟨c.ge, x, none⟩ = some (.slice (some ⟨c.Be x, 0, none⟩) (c.E x).length (c.E x).length) := (hC1.vE HF.out).top.cell hx
      have HC3 : Hid (CS c w5 work cand cs bA wA (mk + 1)) := hC1
      clear hC1
      go_wp2_with fail
      clear q0 qx
      go_loopg [51] (c.E x).length (fun g s51 wi => ∃ u : Nat, u ≤ (c.E x).length ∧ g = (c.E x).length - u ∧ s51 = .int .i64 u ∧ CS c wi work cand cs (mkd (c.E x) u (mk + 1) bA) wA (mk + 1))
      case atStart => exact ⟨0, Nat.zero_le _, rfl, rfl, HC3.out.congr (mkd_zero _ _ _) (fun _ => rfl)⟩
      case round =>
        clear HC3
        obtain ⟨u, hu, rfl, rfl, hC⟩ := hrel
        by_cases hul : u < (c.E x).length
        · as_aux_lemma =>
            obtain ⟨y, hy⟩ : ∃ y, y = (c.E x).getD u 0 := ⟨_, rfl⟩
            have hyN : y < c.N := by rw [hy]; have := HF.out.hE x hx ((c.E x)[u]) (List.getElem_mem hul); simp [hul]; exact this.1
            have HY : Hid (y = (c.E x).getD u 0) := hy
            have q1 : wr.cell? ⟨c.Be x, u, none⟩ = some (.int .i32 (y : Int)) := by rw [hy]; exact ((hC.vE HF.out).rows x hx).2.cell hul
            have q11 : wr.cell? ⟨c.B, 11, none⟩ = some (.slice (some ⟨c.gb, 0, none⟩) c.N c.N) := hC.st.cell (i := 11) (by omega)
            have q13 : wr.cell? ⟨c.B, 13, none⟩ = some (.int .i64 ((mk : Int) + 1)) := hC.st.cell (i := 13) (by omega)
            obtain ⟨v, qy⟩ : ∃ v, wr.cell? ⟨c.gb, y, none⟩ = some v := ⟨_, hC.rb.cell hyN⟩
            have fy : wr.frozen? ⟨c.gb, y, none⟩ = false := hC.rb.frozen y
            have hC1 := (hC.drewN 1).setb HF.out y ((mk : Int) + 1)
            have hulz : (u : Int) < (((c.E x).length : Nat) : Int) := by omega
            have hyz : (y : Int) < (c.N : Int) := by omega
            have HC3 : Hid (CS c ((wr.drewN 1).setCell ⟨c.gb, y, none⟩ (.int .i64 ((mk : Int) + 1))) work cand cs _ wA (mk + 1)) := hC1
            clear hC hC1 hy
            go_wp2_with fail
            go_region
            go_wp2_with fail
            go_roundg ((c.E x).length - (u + 1))
            case measure => omega
            case rel => exact ⟨u + 1, by omega, rfl, by go_num, HC3.out.congr (fun v => by rw [← mkd_succ hul, HY.out]) (fun _ => rfl)⟩
        · obtain rfl : u = (c.E x).length := by omega
          have hbB : ∀ v, mkd (c.E x) (c.E x).length (mk + 1) bA v = if v ∈ c.E x then ((mk : Int) + 1) else bA v := mkd_all _ _ _
          generalize mkd (c.E x) (c.E x).length (mk + 1) bA = bB at hC hbB
          have HBB : Hid (∀ v, bB v = if v ∈ c.E x then ((mk : Int) + 1) else bA v) := hbB
          have q1 : wr.cell? ⟨c.B, 1, none⟩ = some (.slice (some ⟨c.gw, 0, none⟩) c.N c.N) := hC.st.cell (i := 1) (by omega)
          have qx : wr.cell? ⟨c.gw, x, none⟩ = some (.slice (some ⟨c.Bw x, 0, none⟩) (c.Wt x).length (c.Wt x).length) := (hC.vW HF.out).top.cell hx
          have HC3 : Hid (CS c wr work cand cs bB wA (mk + 1)) := hC
          clear hbB hC
          go_wp2_with fail
          clear q1 qx
          go_loopg [74] (c.Wt x).length (fun g s74 wi => ∃ u : Nat, u ≤ (c.Wt x).length ∧ g = (c.Wt x).length - u ∧ s74 = .int .i64 u ∧ CS c wi work cand cs bB (mkd (c.Wt x) u (mk + 1) wA) (mk + 1))
          case atStart => exact ⟨0, Nat.zero_le _, rfl, rfl, HC3.out.congr (fun _ => rfl) (mkd_zero _ _ _)⟩
          case round =>
            clear HC3
            obtain ⟨u, hu, rfl, rfl, hC⟩ := hrel
            by_cases hul : u < (c.Wt x).length
            · as_aux_lemma =>
                obtain ⟨y, hy⟩ : ∃ y, y = (c.Wt x).getD u 0 := ⟨_, rfl⟩
                have hyN : y < c.N := by rw [hy]; have := HF.out.hW x hx ((c.Wt x)[u]) (List.getElem_mem hul); simp [hul]; exact this
                have HY : Hid (y = (c.Wt x).getD u 0) := hy
                have q1 : wr.cell? ⟨c.Bw x, u, none⟩ = some (.int .i32 (y : Int)) := by rw [hy]; exact ((hC.vW HF.out).rows x hx).2.cell hul
                have q12 : wr.cell? ⟨c.B, 12, none⟩ = some (.slice (some ⟨c.gx, 0, none⟩) c.N c.N) := hC.st.cell (i := 12) (by omega)
                have q13 : wr.cell? ⟨c.B, 13, none⟩ = some (.int .i64 ((mk : Int) + 1)) := hC.st.cell (i := 13) (by omega)
                obtain ⟨v, qy⟩ : ∃ v, wr.cell? ⟨c.gx, y, none⟩ = some v := ⟨_, hC.rx.cell hyN⟩
                have fy : wr.frozen? ⟨c.gx, y, none⟩ = false := hC.rx.frozen y
                have hC1 := (hC.drewN 1).setx HF.out y ((mk : Int) + 1)
                have hulz : (u : Int) < (((c.Wt x).length : Nat) : Int) := by omega
                have hyz : (y : Int) < (c.N : Int) := by omega
                have HC3 : Hid (CS c ((wr.drewN 1).setCell ⟨c.gx, y, none⟩ (.int .i64 ((mk : Int) + 1))) work cand cs bB _ (mk + 1)) := hC1
                clear hC hC1 hy
                go_wp2_with fail
                go_region
                go_wp2_with fail
                go_roundg ((c.Wt x).length - (u + 1))
                case measure => omega
                case rel => exact ⟨u + 1, by omega, rfl, by go_num, HC3.out.congr (fun _ => rfl) (fun v => by rw [← mkd_succ hul, HY.out])⟩
            · obtain rfl : u = (c.Wt x).length := by omega
              have hwB : ∀ v, mkd (c.Wt x) (c.Wt x).length (mk + 1) wA v = if v ∈ c.Wt x then ((mk : Int) + 1) else wA v := mkd_all _ _ _
              generalize mkd (c.Wt x) (c.Wt x).length (mk + 1) wA = wB at hC hwB
              have HWB : Hid (∀ v, wB v = if v ∈ c.Wt x then ((mk : Int) + 1) else wA v) := hwB
              clear hwB
              have q0 : wr.cell? ⟨c.B, 0, none⟩ = some (.slice (some ⟨c.ge, 0, none⟩) c.N c.N) := hC.st.cell (i := 0) (by omega)
              have qe : wr.cell? ⟨c.ge, x, none⟩ = some (.slice (some ⟨c.Be x, 0, none⟩) (c.E x).length (c.E x).length) := (hC.vE HF.out).top.cell hx
              have q1 : wr.cell? ⟨c.B, 1, none⟩ = some (.slice (some ⟨c.gw, 0, none⟩) c.N c.N) := hC.st.cell (i := 1) (by omega)
              have qx : wr.cell? ⟨c.gw, x, none⟩ = some (.slice (some ⟨c.Bw x, 0, none⟩) (c.Wt x).length (c.Wt x).length) := (hC.vW HF.out).top.cell hx
              have q4 : wr.cell? ⟨c.B, 4, none⟩ = some (.int .i64 work) := hC.st.cell (i := 4) (by omega)
              have f4 : wr.frozen? ⟨c.B, 4, none⟩ = false := hC.st.frozen 4
              have q10 : wr.cell? ⟨c.B, 10, none⟩ = some cand := hC.st.cell (i := 10) (by omega)
              obtain ⟨ac, cc, rfl⟩ := hC.ca.form
              have HC3 : Hid (∀ z : Int, CS c ((wr.drewN 1).setCell ⟨c.B, 4, none⟩ (.int .i64 z)) z (.slice ac cs.length cc) cs bB wB (mk + 1)) := fun z => (hC.drewN 1).setWork z
              clear hC
              go_upto_region 16 with fail
              go_region
              clear q0 qe q1 qx q4 f4 q10
              go_upto_region 17 with fail
              have hC := HC3.out (wrap64 (work + (1 + ↑(c.E x).length + ↑(c.Wt x).length + ↑cs.length)))
              clear HC3
              generalize hw6 : (wr.setCell ⟨c.B, 4, none⟩ (.int .i64 (wrap64 (work + (1 + ↑(c.E x).length + ↑(c.Wt x).length + ↑cs.length))))).drew = w6
              replace hC : CS c w6 (wrap64 (work + (1 + ↑(c.E x).length + ↑(c.Wt x).length + ↑cs.length))) (.slice ac cs.length cc) cs bB wB (mk + 1) := by rw [← hw6]; exact hC
              clear hw6
              generalize wrap64 (work + (1 + ↑(c.E x).length + ↑(c.Wt x).length + ↑cs.length)) = work2 at hC
              obtain ⟨vk, hsl, hF⟩ := hC.filt
              have q10 : w6.cell? ⟨c.B, 10, none⟩ = some (.slice ac cs.length cc) := hC.st.cell (i := 10) (by omega)
              clear hC
              have HF1 : Hid (FS c w6 work2 (.slice ac cs.length cc) cs bB wB (mk + 1) 0 [] vk) := hF
              clear hF
              go_wp2_with fail
              clear hsl q10
              go_loopg [11, 130] cs.length (fun g s11 s130 wi => ∃ u : Nat, u ≤ cs.length ∧ g = cs.length - u ∧ s130 = .int .i64 u ∧ FS c wi work2 (.slice ac cs.length cc) cs bB wB (mk + 1) u ((cs.take u).filter (mt c.E c.Wt x)) s11)
              case atStart => exact ⟨0, Nat.zero_le _, rfl, rfl, HF1.out⟩
              case round =>
                clear HF1
                obtain ⟨u, hu, rfl, rfl, hF⟩ := hrel
                by_cases hul : u < cs.length
                · obtain ⟨q, hq⟩ : ∃ q, q = cs.getD u 0 := ⟨_, rfl⟩
                  have hqe : q = cs[u] := by rw [hq]; simp [hul]
                  have hqN : q < c.N := by rw [hqe]; exact HC2.out _ (List.getElem_mem hul)
                  have hqz : (q : Int) < (c.N : Int) := by omega
                  have hulz : (u : Int) < ((cs.length : Nat) : Int) := by omega
                  have hks : (cs.take (u + 1)).filter (mt c.E c.Wt x) = if mt c.E c.Wt x q = true then (cs.take u).filter (mt c.E c.Wt x) ++ [q] else (cs.take u).filter (mt c.E c.Wt x) := by
                    rw [List.take_succ_eq_append_getElem hul, List.filter_append, hqe]
                    by_cases e : mt c.E c.Wt x cs[u] = true <;> simp [e]
                  have HKS : Hid ((cs.take (u + 1)).filter (mt c.E c.Wt x) = if mt c.E c.Wt x q = true then (cs.take u).filter (mt c.E c.Wt x) ++ [q] else (cs.take u).filter (mt c.E c.Wt x)) := hks
                  clear hks
                  generalize (cs.take u).filter (mt c.E c.Wt x) = ks at hF HKS
                  rcases hF.row with ⟨_, e2, _⟩ | ⟨g, cap, F, e1, e2, h3, h4, h5, h6, h7, h8, h9, h10⟩
                  · rw [e2] at hul; simp at hul
                  obtain ⟨rfl, rfl⟩ : ac = some ⟨g, 0, none⟩ ∧ cc = cap := by injection e1 with e3 _ e4; exact ⟨e3, e4⟩
                  subst e2
                  have qc : wr.cell? ⟨g, u, none⟩ = some (.int .i32 (q : Int)) := by rw [h6.cell (by omega), h8 u (Nat.le_refl _) hul, hq]; rfl
                  have q11 : wr.cell? ⟨c.B, 11, none⟩ = some (.slice (some ⟨c.gb, 0, none⟩) c.N c.N) := hF.st.cell (i := 11) (by omega)
                  have q12 : wr.cell? ⟨c.B, 12, none⟩ = some (.slice (some ⟨c.gx, 0, none⟩) c.N c.N) := hF.st.cell (i := 12) (by omega)
                  have q13 : wr.cell? ⟨c.B, 13, none⟩ = some (.int .i64 ((mk : Int) + 1)) := hF.st.cell (i := 13) (by omega)
                  have qb : wr.cell? ⟨c.gb, q, none⟩ = some (.int .i64 (bB q)) := hF.rb.cell hqN
                  have qw : wr.cell? ⟨c.gx, q, none⟩ = some (.int .i64 (wB q)) := hF.rx.cell hqN
                  have HT : Hid (∀ (n : Nat) (o : Obj), FS c (((wr.drewN n).alloc o).setCell ⟨g, ks.length, none⟩ (.int .i32 q)) work2 (.slice (some ⟨g, 0, none⟩) cs.length cc) cs bB wB (mk + 1) (u + 1) (ks ++ [q]) (.slice (some ⟨g, 0, none⟩) (ks.length + 1) cc)) :=
                    fun n o => FS.take (hF.kept.drewN n) hF.st hF.rb hF.rx h3 h4 h5 h6 h7 h8 h9 h10 o q
                  have HSK : Hid (∀ n : Nat, FS c (wr.drewN n) work2 (.slice (some ⟨g, 0, none⟩) cs.length cc) cs bB wB (mk + 1) (u + 1) ks (.slice (some ⟨g, 0, none⟩) ks.length cc)) := fun n => (hF.drewN n).skip
                  have hks' : ks.length < cc := by omega
                  have HR : Hid (wr.rowIs g 54 cc F) := h6
                  have HBq : Hid (bB q = if q ∈ c.E x then ((mk : Int) + 1) else bA q) := HBB.out q
                  have HWq : Hid (wB q = if q ∈ c.Wt x then ((mk : Int) + 1) else wA q) := HWB.out q
                  have hbq := HBM.out.1 q hqN
                  have hwq := HBM.out.2 q hqN
                  have hmt : mt c.E c.Wt x q = (decide (q ∈ c.E x) && decide (q ∈ c.Wt x)) := by simp [mt, List.contains_eq_mem]
                  have HMT : Hid (mt c.E c.Wt x q = (decide (q ∈ c.E x) && decide (q ∈ c.Wt x))) := hmt
                  clear hF h6 h7 h8 h9 h10 e1 hq hqe hmt
                  by_cases m1 : q ∈ c.E x
                  · have d1 : (bB q == ((mk : Int) + 1)) = true := by rw [HBq.out, if_pos m1]; simp
                    by_cases m2 : q ∈ c.Wt x
                    · as_aux_lemma =>
                        have d2 : (wB q == ((mk : Int) + 1)) = true := by rw [HWq.out, if_pos m2]; simp
                        go_wp2_with fail
                        go_quiet (fail)
                        have hr2 : (wr.drewN nq).rowIs g 54 cc F := HR.out
                        have ha1 : (((wr.drewN nq).alloc (.cells #[.int .i32 (q : Int)] 54)).cell? ⟨g, ks.length, none⟩).isSome = true := by rw [(hr2.alloc _).cell hks']; rfl
                        have ha2 : ((wr.drewN nq).alloc (.cells #[.int .i32 (q : Int)] 54)).frozen? ⟨g, ks.length, none⟩ = false := (hr2.alloc _).frozen _
                        clear hr2 q11 q12 q13 qb qw qc d1 d2 HBq HWq hbq hwq
                        go_wp2_with (at_builtin; refine wpList_append_one _ rfl (.tmp 160) (.tmp 162) 57 rfl 54 i0 Try.underlying57 hi0 hz1 g ks.length cc rfl wr.heap.size 1 (.int .i32 (q : Int)) rfl (new_cell (wr.drewN nq) _ 54) rfl hks' ha1 ha2 ?_)
                        go_roundg (cs.length - (u + 1))
                        case measure => omega
                        case rel =>
                          refine ⟨u + 1, by omega, rfl, by go_num, ?_⟩
                          rw [HKS.out, HMT.out, if_pos (by simp [m1, m2])]
                          exact HT.out nq _
                    · as_aux_lemma =>
                        have d2 : (wB q == ((mk : Int) + 1)) = false := by rw [HWq.out, if_neg m2]; simp; omega
                        go_wp2_with fail
                        go_quiet (fail)
                        clear q11 q12 q13 qb qw qc HBq HWq hbq hwq
                        go_wp2_with fail
                        go_roundg (cs.length - (u + 1))
                        case measure => omega
                        case rel =>
                          refine ⟨u + 1, by omega, rfl, by go_num, ?_⟩
                          rw [HKS.out, HMT.out, if_neg (by simp [m2])]
                          exact HSK.out nq
                  · as_aux_lemma =>
                      have d1 : (bB q == ((mk : Int) + 1)) = false := by rw [HBq.out, if_neg m1]; simp; omega
                      go_wp2_with fail
                      go_quiet (fail)
                      clear q11 q12 q13 qb qw qc HBq HWq hbq hwq
                      go_wp2_with fail
                      go_roundg (cs.length - (u + 1))
                      case measure => omega
                      case rel =>
                        refine ⟨u + 1, by omega, rfl, by go_num, ?_⟩
                        rw [HKS.out, HMT.out, if_neg (by simp [m1])]
                        exact HSK.out nq
                · obtain rfl : u = cs.length := by omega
                  rw [List.take_length] at hF
                  have HB2 : Hid ((∀ v, v < c.N → bB v ≤ ((mk + 1 : Nat) : Int)) ∧ (∀ v, v < c.N → wB v ≤ ((mk + 1 : Nat) : Int))) := by
                    refine ⟨fun v hv => ?_, fun v hv => ?_⟩
                    · have := HBM.out.1 v hv; rw [HBB.out v]; split <;> omega
                    · have := HBM.out.2 v hv; rw [HWB.out v]; split <;> omega
                  have q10 : wr.cell? ⟨c.B, 10, none⟩ = some (.slice ac cs.length cc) := hF.st.cell (i := 10) (by omega)
                  have f10 : wr.frozen? ⟨c.B, 10, none⟩ = false := hF.st.frozen 10
                  obtain ⟨ak, ck, rfl⟩ := hF.form
                  have hC := hF.done
                  clear hF HBB HWB HBM
                  cases hks : cs.filter (mt c.E c.Wt x) with
                  | nil =>
                    as_aux_lemma =>
                      rw [hks] at hC
                      have hkk : k = clq c.E c.Wt r := by have := HK.out.1; rw [gr_nil hks] at this; omega
                      have HKK : Hid (k = clq c.E c.Wt r) := hkk
                      clear hkk
                      have q2 : (wr.setCell ⟨c.B, 10, none⟩ (.slice ak ([] : List Nat).length ck)).cell? ⟨c.B, 2, none⟩ = some (.int .i64 c.lim) := hC.st.cell (i := 2) (by omega)
                      have HP : Hid (∃ work cand cs bA wA mk', CS c (wr.setCell ⟨c.B, 10, none⟩ (.slice ak ([] : List Nat).length ck)) work cand cs bA wA mk' ∧ (∀ v, v < c.N → bA v ≤ (mk' : Nat)) ∧ (∀ v, v < c.N → wA v ≤ (mk' : Nat)) ∧ mk' ≤ m0 + (c.E r).length + 1) :=
                        ⟨_, _, _, _, _, _, hC, HB2.out.1, HB2.out.2, by have := HK.out.2; omega⟩
                      clear hC HK HB2 HC2
                      simp only [List.length_nil] at q2 HP ⊢
                      go_upto_region 27 with fail
                      generalize wr.setCell ⟨c.B, 10, none⟩ (.slice ak 0 ck) = w8 at q2 HP ⊢
                      clear q10 f10
                      go_wp2_with fail
                      go_loopg [14, 15, 16] k (fun g s14 s15 s16 wx => ∃ j o st : Nat, g = k + 2 - j ∧ 2 ≤ j ∧ j ≤ k + 1 ∧ s14 = .int .i64 st ∧ s15 = .int .i64 o ∧ s16 = .int .i64 j ∧ wx = w8 ∧ st ≤ c.lim + 1 ∧ o ≤ 9223372036854775807 ∧ stL (c.lim + 1) k (k + 2 - j) j o st = cliqueF (c.lim + 1) k)
                      case atStart => exact ⟨2, k, 0, by omega, Nat.le_refl _, by omega, rfl, rfl, rfl, rfl, Nat.zero_le _, by omega, by rw [Nat.add_sub_cancel]; rfl⟩
                      case round =>
                        obtain ⟨j, o, st, hgm, hj2, hjk, rfl, rfl, rfl, rfl, hst, ho, hres⟩ := hrel
                        have HRES : Hid (stL (c.lim + 1) k (k + 2 - j) j o st = cliqueF (c.lim + 1) k) := hres
                        clear hres
                        by_cases hjl : j ≤ k
                        · obtain ⟨y, hy⟩ : ∃ y, y = k - j + 1 := ⟨_, rfl⟩
                          have hyz : (k : Int) - (j : Int) + 1 = (y : Int) := by omega
                          have hjz : (j : Int) ≤ (k : Int) := by omega
                          have HYE : Hid (y = k - j + 1) := hy
                          have hy0 : 0 < y := by omega
                          have hyb : y ≤ 1048578 := by omega
                          have hmul := multiply_any c.B c.lim o y wr q2 hlim (by omega) hy0
                          obtain ⟨o', ho'⟩ : ∃ o', o' = capN (c.lim + 1) (o * y) := ⟨_, rfl⟩
                          rw [← ho'] at hmul
                          have HO : Hid (o' = capN (c.lim + 1) (o * y)) := ho'
                          have ho'l : o' ≤ c.lim + 1 := by rw [ho']; exact capN_le _ _
                          clear hy ho'
                          go_wp2_with fail
                          refine hmul.mono ?_
                          rintro e w' ⟨rfl, rfl⟩
                          clear hmul
                          by_cases hbig : c.lim < o'
                          · have hbz : (c.lim : Int) < (o' : Int) := by omega
                            go_wp2_with fail
                            go_ret
                            refine ⟨?_, HP.out⟩
                            have hfin : cliqueF (c.lim + 1) (clq c.E c.Wt r) = o' := by
                              rw [← HKK.out, ← HRES.out, show k + 2 - j = (k + 1 - j) + 1 by omega, stL_big (by omega) (by rw [← HYE.out, ← HO.out]; omega), ← HYE.out, ← HO.out]
                            rw [hfin]
                            rfl
                          · have hbz : (o' : Int) ≤ (c.lim : Int) := by omega
                            obtain ⟨z, hz⟩ : ∃ z, z = o' / j := ⟨_, rfl⟩
                            have hzz : (o' : Int) / (j : Int) = (z : Int) := by rw [hz]; simp
                            have HZ : Hid (z = o' / j) := hz
                            have hzl : z ≤ o' := by rw [hz]; exact Nat.div_le_self _ _
                            have hmul := multiply_any c.B c.lim z (j + 1) wr q2 hlim (by omega) (by omega)
                            obtain ⟨p, hp⟩ : ∃ p, p = capN (c.lim + 1) (z * (j + 1)) := ⟨_, rfl⟩
                            rw [← hp] at hmul
                            have HPP : Hid (p = capN (c.lim + 1) (z * (j + 1))) := hp
                            have hpl : p ≤ c.lim + 1 := by rw [hp]; exact capN_le _ _
                            have hadd := add_any c.B c.lim st p wr q2 hlim hst hpl
                            clear hz hp
                            go_wp2_with fail
                            refine hmul.mono ?_
                            rintro e w' ⟨rfl, rfl⟩
                            clear hmul
                            go_wp2_with fail
                            refine hadd.mono ?_
                            rintro e w' ⟨rfl, rfl⟩
                            clear hadd
                            go_wp2_with fail
                            go_roundg (k + 2 - (j + 1))
                            case measure => omega
                            case rel =>
                              refine ⟨j + 1, o', capN (c.lim + 1) (st + p), rfl, by omega, by omega, rfl, rfl, by go_num, rfl, capN_le _ _, by omega, ?_⟩
                              rw [← HRES.out, show k + 2 - j = (k + 2 - (j + 1)) + 1 by omega, stL_next (by omega) (by rw [← HYE.out, ← HO.out]; omega), ← HYE.out, ← HO.out, ← HZ.out, ← HPP.out]
                        · obtain rfl : j = k + 1 := by omega
                          go_wp2_with fail
                          go_ret
                          refine ⟨?_, HP.out⟩
                          have hfin : cliqueF (c.lim + 1) (clq c.E c.Wt r) = st := by rw [← HKK.out, ← HRES.out, stL_end (by omega)]
                          rw [hfin]
                          rfl
                  | cons y rest =>
                    as_aux_lemma =>
                      rw [hks] at hC
                      have hyc : y ∈ cs.filter (mt c.E c.Wt x) := by rw [hks]; simp
                      have hycs : y ∈ cs := (List.mem_filter.1 hyc).1
                      have hyN : y < c.N := HC2.out y hycs
                      have hyy : mt c.E c.Wt y y = false := by
                        have : y ∉ c.E y := fun h => (HF.out.hE y hyN y h).2 rfl
                        simp [mt, List.contains_eq_mem, this]
                      have hM0 : 0 < M := by have := HK.out.2; omega
                      have HH : Hid (∀ q ∈ (y :: rest), q < c.N) := fun q hq => HC2.out q (List.mem_filter.1 (by rw [hks]; exact hq : q ∈ cs.filter (mt c.E c.Wt x))).1
                      have HG : Hid (k + 1 + gr c.E c.Wt (M - 1) (y :: rest) y = clq c.E c.Wt r ∧ ((y :: rest).filter (mt c.E c.Wt y)).length < M - 1) := by
                        obtain ⟨h1, h2⟩ := HK.out
                        rw [show M = (M - 1) + 1 by omega, gr_cons hks] at h1
                        rw [hks] at h2
                        have h3 := filt_lt (rest := rest) hyy
                        exact ⟨by omega, by omega⟩
                      have hlk : (y :: rest).length ≤ 1048576 := by
                        have := List.length_filter_le (mt c.E c.Wt x) cs
                        rw [hks] at this
                        omega
                      obtain ⟨g, F, rfl, h6, h7⟩ : ∃ g F, ak = some ⟨g, 0, none⟩ ∧ (wr.setCell ⟨c.B, 10, none⟩ (.slice ak (y :: rest).length ck)).rowIs g 54 ck F ∧ F 0 = .int .i32 (y : Int) ∧ 0 < ck := by
                        rcases hC.ca with ⟨_, e⟩ | ⟨g, cap, F, e1, h4, h5, h6, h7, _⟩
                        · cases e
                        · obtain ⟨e2, e3⟩ : ak = some ⟨g, 0, none⟩ ∧ ck = cap := by injection e1 with e3 _ e4; exact ⟨e3, e4⟩
                          subst e3
                          exact ⟨g, F, e2, h6, h7 0 (by simp), by simp at h4; omega⟩
                      have q0 : (wr.setCell ⟨c.B, 10, none⟩ (.slice (some ⟨g, 0, none⟩) (y :: rest).length ck)).cell? ⟨g, 0, none⟩ = some (.int .i32 (y : Int)) := by rw [h6.cell h7.2, h7.1]
                      have HCC : Hid (CS c (wr.setCell ⟨c.B, 10, none⟩ (.slice (some ⟨g, 0, none⟩) (y :: rest).length ck)) work2 (.slice (some ⟨g, 0, none⟩) (y :: rest).length ck) (y :: rest) bB wB (mk + 1)) := hC
                      obtain ⟨ksl, hksl⟩ : ∃ ksl, ksl = (y :: rest).length := ⟨_, rfl⟩
                      have hkl0 : 0 < ksl := by rw [hksl]; simp
                      rw [← hksl] at q0 hlk
                      have HKSL : Hid (ksl = (y :: rest).length) := hksl
                      clear hC HK h6 h7 hyc hycs hyy HC2
                      rw [← hksl]
                      clear hks hksl
                      go_upto_region 25 with fail
                      generalize hw8 : wr.setCell ⟨c.B, 10, none⟩ (.slice (some ⟨g, 0, none⟩) ksl ck) = w8 at q0 ⊢
                      have HW8 : Hid (wr.setCell ⟨c.B, 10, none⟩ (.slice (some ⟨g, 0, none⟩) ksl ck) = w8) := hw8
                      clear hw8 q10 f10
                      go_wp2_with fail
                      go_roundg (M - 1)
                      case measure => omega
                      case rel =>
                        refine ⟨M - 1, k + 1, y, y :: rest, work2, .slice (some ⟨g, 0, none⟩) (y :: rest).length ck, bB, wB, mk + 1, rfl, by go_num, rfl, hyN, HH.out, ?_, HB2.out.1, HB2.out.2, HG.out.1, HG.out.2, by omega, by omega, by rw [← HKSL.out]; exact hlk⟩
                        rw [← HW8.out, HKSL.out]
                        exact HCC.out
end Go.Proofs.Qxb6000043a
