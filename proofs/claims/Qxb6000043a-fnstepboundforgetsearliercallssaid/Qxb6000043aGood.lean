import Derived.Test.Qxb6000043aLawSeven
import Derived.Test.Qxb6000043aFresh
namespace Go.Proofs.Qxb6000043a
open Go.RowKit

/-- What of a stepBound stays. -/
structure SBk where
  B : Nat
  ge : Nat
  gw : Nat
  gl : Nat
  gp : Nat
  gn : Nat
  gb : Nat
  gx : Nat
  Be : Nat → Nat
  Bw : Nat → Nat
  N : Nat
  E : Nat → List Nat
  Wt : Nat → List Nat
  lim : Nat

/-- A stepBound as its methods leave it: its blocks lie in Dm; the last order is ol, left holds lf. -/
structure Good (b : SBk) (w : World) (Dm : Nat → Prop) (mk : Nat) (ol : List Nat) (lf : Nat → Int) (work : Int) (ord path cand : Value) (cs : List Nat) (bA wA : Nat → Int) (P L : Nat → Nat) : Prop where
  ev : VG w Dm b.ge b.N b.E b.Be
  wv : VG w Dm b.gw b.N b.Wt b.Bw
  st : w.rowIs b.B 60 14 (sbCells b.N b.ge b.gw b.gl b.gp b.gn b.gb b.gx b.lim work ord path cand mk)
  oo : w.ownsRow 0 54 1 ord ol.length (cv ol)
  po : w.ownsRow 0 66 2 path ([] : List (Nat × Nat)).length (pv [])
  ca : CandAt w b.Be b.Bw b.N (fun _ => True) cand cs
  rl : w.rowIs b.gl 21 b.N (fun x => .int .i32 (lf x))
  rp : w.rowIs b.gp 3 b.N (fun x => .int .i64 (P x : Nat))
  rn : w.rowIs b.gn 3 b.N (fun x => .int .i64 (L x : Nat))
  rb : w.rowIs b.gb 3 b.N (fun v => .int .i64 (bA v))
  rx : w.rowIs b.gx 3 b.N (fun v => .int .i64 (wA v))
  olt : ∀ x ∈ ol, x < b.N
  olen : ol.length ≤ 4096
  off : ∀ x, x < b.N → x ∉ ol → lf x = 0 ∧ P x = 0 ∧ L x = 0
  bm : ∀ v, v < b.N → bA v ≤ mk
  xm : ∀ v, v < b.N → wA v ≤ mk
  dB : Dm b.B
  dl : Dm b.gl
  dp : Dm b.gp
  dn : Dm b.gn
  db : Dm b.gb
  dx : Dm b.gx
  dord : ∀ g, ord.ownBlock = some g → Dm g ∧ (∀ v, v < b.N → b.Be v ≠ g ∧ b.Bw v ≠ g) ∧ cand.ownBlock ≠ some g
  dpath : ∀ g, path.ownBlock = some g → Dm g
  dcand : ∀ g, cand.ownBlock = some g → Dm g
  n1 : b.gp ≠ b.gn
  n2 : b.gp ≠ b.gb
  n3 : b.gp ≠ b.gx
  n4 : b.gn ≠ b.gb
  n5 : b.gn ≠ b.gx
  n6 : b.gb ≠ b.gx

def GoodE (b : SBk) (w : World) (Dm : Nat → Prop) (m : Nat) (ol : List Nat) (lf : Nat → Int) : Prop := ∃ mk work ord path cand cs bA wA P L, mk ≤ m ∧ Good b w Dm mk ol lf work ord path cand cs bA wA P L

theorem CandAt.block {w : World} {Be Bw : Nat → Nat} {N : Nat} {R : Nat → Prop} {cand : Value} {cs : List Nat} (h : CandAt w Be Bw N R cand cs) {g : Nat} (hg : cand.ownBlock = some g) : g < w.heap.size ∧ (∀ v, v < N → Be v ≠ g ∧ Bw v ≠ g) ∧ R g := by
  rcases h with ⟨rfl, _⟩ | ⟨g', cap, F, rfl, h1, h2, h3, h4, h5, h6⟩
  · cases hg
  · cases hg; exact ⟨h3.lt, h5, h6⟩

theorem GoodE.keep {b : SBk} {w w' : World} {Dm : Nat → Prop} {m : Nat} {ol : List Nat} {lf : Nat → Int} (h : GoodE b w Dm m ol lf) {X : Nat → Prop} (hk : Kept X w w') (hx : ∀ k, Dm k → k < w.heap.size → ¬ X k) : GoodE b w' Dm m ol lf := by
  obtain ⟨mk, work, ord, path, cand, cs, bA, wA, P, L, hm, g⟩ := h
  have bl : ∀ k, Dm k → k < w.heap.size → w'.heap[k]? = w.heap[k]? := fun k h1 h2 => hk.block k h2 (hx k h1 h2)
  have rw' : ∀ {b : Nat} {t : TypeId} {n : Nat} {f : Nat → Value}, w.rowIs b t n f → Dm b → w'.rowIs b t n f := fun hr hd => hr.of_block (bl _ hd hr.lt)
  refine ⟨mk, work, ord, path, cand, cs, bA, wA, P, L, hm, ⟨⟨g.ev.db, rw' g.ev.top g.ev.db, fun v hv => ⟨(g.ev.rows v hv).1, rw' (g.ev.rows v hv).2 (g.ev.rows v hv).1⟩⟩, ⟨g.wv.db, rw' g.wv.top g.wv.db, fun v hv => ⟨(g.wv.rows v hv).1, rw' (g.wv.rows v hv).2 (g.wv.rows v hv).1⟩⟩,
    rw' g.st g.dB, own_keep g.oo (fun k e => bl k (g.dord k e).1 (own_lt g.oo e)), own_keep g.po (fun k e => bl k (g.dpath k e) (own_lt g.po e)), g.ca.keep (fun k e => bl k (g.dcand k e) (g.ca.block e).1),
    rw' g.rl g.dl, rw' g.rp g.dp, rw' g.rn g.dn, rw' g.rb g.db, rw' g.rx g.dx, g.olt, g.olen, g.off, g.bm, g.xm, g.dB, g.dl, g.dp, g.dn, g.db, g.dx, g.dord, g.dpath, g.dcand, g.n1, g.n2, g.n3, g.n4, g.n5, g.n6⟩⟩
theorem GoodE.mono {b : SBk} {w : World} {Dm Dm' : Nat → Prop} {m m' : Nat} {ol : List Nat} {lf : Nat → Int} (h : GoodE b w Dm m ol lf) (hd : ∀ k, Dm k → k < w.heap.size → Dm' k) (hm : m ≤ m') : GoodE b w Dm' m' ol lf := by
  obtain ⟨mk, work, ord, path, cand, cs, bA, wA, P, L, hmk, g⟩ := h
  exact ⟨mk, work, ord, path, cand, cs, bA, wA, P, L, by omega, ⟨⟨hd _ g.ev.db g.ev.top.lt, g.ev.top, fun v hv => ⟨hd _ (g.ev.rows v hv).1 (g.ev.rows v hv).2.lt, (g.ev.rows v hv).2⟩⟩, ⟨hd _ g.wv.db g.wv.top.lt, g.wv.top, fun v hv => ⟨hd _ (g.wv.rows v hv).1 (g.wv.rows v hv).2.lt, (g.wv.rows v hv).2⟩⟩,
    g.st, g.oo, g.po, g.ca, g.rl, g.rp, g.rn, g.rb, g.rx, g.olt, g.olen, g.off, g.bm, g.xm, hd _ g.dB g.st.lt, hd _ g.dl g.rl.lt, hd _ g.dp g.rp.lt, hd _ g.dn g.rn.lt, hd _ g.db g.rb.lt, hd _ g.dx g.rx.lt,
    fun k e => ⟨hd _ (g.dord k e).1 (own_lt g.oo e), (g.dord k e).2⟩, fun k e => hd _ (g.dpath k e) (own_lt g.po e), fun k e => hd _ (g.dcand k e) (g.ca.block e).1, g.n1, g.n2, g.n3, g.n4, g.n5, g.n6⟩⟩
theorem GoodE.below {b : SBk} {w w' : World} {Dm : Nat → Prop} {m : Nat} {ol : List Nat} {lf : Nat → Int} (h : GoodE b w Dm m ol lf) (hb : Below w.heap.size w w') : GoodE b w' Dm m ol lf :=
  h.keep (X := fun _ => False) ⟨hb.os, hb.tape, hb.output, hb.size, fun k hk _ => hb.block k hk⟩ (fun _ _ _ h => h)

/-- What a new one is. -/
theorem good_new {N : Nat} {E Wt : Nat → List Nat} {lim : Nat} {w : World} {e : Ending} {w' : World} (h : NewPost N E Wt lim w e w') : ∃ b : SBk, e = .returned (.pointer (some ⟨b.B, 0, none⟩)) ∧ Below w.heap.size w w' ∧ b.N = N ∧ b.E = E ∧ b.Wt = Wt ∧ b.lim = lim ∧ GoodE b w' (fun k => w.heap.size ≤ k) 0 [] (fun _ => 0) := by
  obtain ⟨B, ge, gw, gl, gp, gn, gb, gx, Be, Bw, rfl, hbel, hE, hW, hB, hst, hlb, hgl, ⟨hpb, rp⟩, ⟨hnb, rn⟩, ⟨hgb, rb⟩, ⟨hgx, rx⟩, n1, n2, n3, n4, n5, n6⟩ := h
  refine ⟨⟨B, ge, gw, gl, gp, gn, gb, gx, Be, Bw, N, E, Wt, lim⟩, rfl, hbel, rfl, rfl, rfl, rfl, 0, 0, nilV, nilV, nilV, [], fun _ => 0, fun _ => 0, fun _ => 0, fun _ => 0, Nat.le_refl _, ?_⟩
  exact ⟨hE, hW, hst, World.ownsRow_nil _ _ _ _, World.ownsRow_nil _ _ _ _, .inl ⟨rfl, rfl⟩, hgl, rp, rn, rb, rx, fun _ h => (by cases h), Nat.zero_le _, fun _ _ _ => ⟨rfl, rfl, rfl⟩, fun _ _ => Int.le_refl _, fun _ _ => Int.le_refl _, hB, hlb, hpb, hnb, hgb, hgx, fun _ e => (by cases e), fun _ e => (by cases e), fun _ e => (by cases e), n1, n2, n3, n4, n5, n6⟩

/-- cycleSteps on one that has been used. -/
theorem good_cycle {b : SBk} {w : World} {Dm : Nat → Prop} {m : Nat} {ol : List Nat} {lf : Nat → Int} (h : GoodE b w Dm m ol lf) (hg : IsGraph b.N b.E) (hl : b.lim ≤ 9223372036854775806) {r : Nat} (hr : r < b.N) (bk : Bool) (ord : List Nat) (hp : Post (rowB b.E bk) r ord) :
    Calls Try.prog 30 #[.pointer (some ⟨b.B, 0, none⟩), .int .i32 r, .bool bk] w fun e w' => e = .returned (.int .i64 ((capN (b.lim + 1) (cycT b.E r ord) : Nat) : Int)) ∧ GoodE b w' (fun k => Dm k ∨ w.heap.size ≤ k) m ord (posZ ord) ∧ Kept Dm w w' := by
  obtain ⟨mk, work, oV, pV, cV, cs, bA, wA, P, L, hmk, g⟩ := h
  have hN := hg.hN
  have hR : ∀ v, v < b.N → ∀ q ∈ rowB b.E bk v, q < b.N := fun v hv q hq => (hg.hE v hv q (rowB_mem.1 hq)).1
  have hfa := hp.facts hR hr
  have hX : ∀ k, (YC.mk b.B b.ge b.gw b.gl b.gp b.gn b.gb b.gx b.Be b.N b.E b.lim mk cV oV pV w).X k → Dm k := by
    rintro k (e | e | e | e | e | e)
    · rw [e]; exact g.dB
    · rw [e]; exact g.dl
    · rw [e]; exact g.dp
    · rw [e]; exact g.dn
    · exact (g.dord k e).1
    · exact g.dpath k e
  have nX : ∀ {k : Nat} {t : TypeId} {n : Nat} {f : Nat → Value}, w.rowIs k t n f → t ≠ 60 → t ≠ 21 → (t = 3 → k ≠ b.gp ∧ k ≠ b.gn) → t ≠ 66 → oV.ownBlock ≠ some k → ¬ (YC.mk b.B b.ge b.gw b.gl b.gp b.gn b.gb b.gx b.Be b.N b.E b.lim mk cV oV pV w).X k := by
    rintro k t n f hr h60 h21 h3 h66 hord (e | e | e | e | e | e)
    · exact ne_type hr g.st h60 e
    · exact ne_type hr g.rl h21 e
    · by_cases ht : t = 3
      · exact (h3 ht).1 e
      · exact ne_type hr g.rp ht e
    · by_cases ht : t = 3
      · exact (h3 ht).2 e
      · exact ne_type hr g.rn ht e
    · exact hord e
    · exact own_ne_row g.po hr (fun e => h66 e.symm) e
  have nge := nX g.ev.top (by decide) (by decide) (fun e => absurd e (by decide)) (by decide) (own_ne_row g.oo g.ev.top (by decide))
  have ngw := nX g.wv.top (by decide) (by decide) (fun e => absurd e (by decide)) (by decide) (own_ne_row g.oo g.wv.top (by decide))
  have nBe : ∀ v, v < b.N → ¬ (YC.mk b.B b.ge b.gw b.gl b.gp b.gn b.gb b.gx b.Be b.N b.E b.lim mk cV oV pV w).X (b.Be v) := fun v hv => nX (g.ev.rows v hv).2 (by decide) (by decide) (fun e => absurd e (by decide)) (by decide) (fun e => ((g.dord _ e).2.1 v hv).1 rfl)
  have nBw : ∀ v, v < b.N → ¬ (YC.mk b.B b.ge b.gw b.gl b.gp b.gn b.gb b.gx b.Be b.N b.E b.lim mk cV oV pV w).X (b.Bw v) := fun v hv => nX (g.wv.rows v hv).2 (by decide) (by decide) (fun e => absurd e (by decide)) (by decide) (fun e => ((g.dord _ e).2.1 v hv).2 rfl)
  have hfix : YFix (YC.mk b.B b.ge b.gw b.gl b.gp b.gn b.gb b.gx b.Be b.N b.E b.lim mk cV oV pV w) :=
    ⟨g.ev.mono (fun _ _ => trivial), nge, nBe, g.n1, hN, hg.hE, fun v hv => by have := hg.len hv; simp only; omega, hl⟩
  have hbeg : YBeg (YC.mk b.B b.ge b.gw b.gl b.gp b.gn b.gb b.gx b.Be b.N b.E b.lim mk cV oV pV w) work ol [] lf P L :=
    ⟨⟨Kept.refl _ _, g.st, g.oo, g.po, g.rl, g.rp, g.rn, fun _ e => .inl e, fun _ e => .inl e⟩, g.olt, g.off, g.olen⟩
  refine (zzcycle_any _ hfix work ol [] lf P L r bk w rfl hbeg hr ord hp).mono ?_
  rintro e w' ⟨rfl, work', oV', pV', P', L', hY, hoff⟩
  have hk := hY.kept
  have cb : ∀ k, cV.ownBlock = some k → w'.heap[k]? = w.heap[k]? := fun k e => by
    refine hk.block k (g.ca.block e).1 ?_
    rintro (e1 | e1 | e1 | e1 | e1 | e1)
    · exact g.ca.type e g.st (by decide) e1
    · exact g.ca.type e g.rl (by decide) e1
    · exact g.ca.type e g.rp (by decide) e1
    · exact g.ca.type e g.rn (by decide) e1
    · exact (g.dord k e1).2.2 e
    · exact own_ne_own g.ca.owns g.po (by decide) e e1
  refine ⟨rfl, ⟨mk, work', oV', pV', cV, cs, bA, wA, P', L', hmk, ?_⟩, ⟨hk.os, hk.tape, hk.output, hk.size, fun k h1 h2 => hk.block k h1 (fun e => h2 (hX k e))⟩⟩
  have hw := hk.size
  exact ⟨(hk.vg g.ev nge nBe).mono (fun _ h => .inl h), (hk.vg g.wv ngw nBw).mono (fun _ h => .inl h), hY.st, hY.oo, hY.po, g.ca.keep cb, hY.rl, hY.rp, hY.rn,
    hk.row g.rb (nX g.rb (by decide) (by decide) (fun _ => ⟨g.n2.symm, g.n4.symm⟩) (by decide) (own_ne_row g.oo g.rb (by decide))), hk.row g.rx (nX g.rx (by decide) (by decide) (fun _ => ⟨g.n3.symm, g.n5.symm⟩) (by decide) (own_ne_row g.oo g.rx (by decide))),
    hfa.lt, by have := hfa.len; omega, fun x hx hn => ⟨by simp [posZ, posF_zero hn], (hoff x hx hn).1, (hoff x hx hn).2⟩, g.bm, g.xm, .inl g.dB, .inl g.dl, .inl g.dp, .inl g.dn, .inl g.db, .inl g.dx,
    fun k e => by
      rcases hY.og k e with e1 | e1
      · exact ⟨.inl (g.dord k e1).1, (g.dord k e1).2⟩
      · have e1' : w.heap.size ≤ k := e1
        exact ⟨.inr e1', fun v hv => ⟨fun e2 => by have := (g.ev.rows v hv).2.lt; omega, fun e2 => by have := (g.wv.rows v hv).2.lt; omega⟩, fun e2 => by have := (g.ca.block e2).1; omega⟩,
    fun k e => (hY.pg k e).elim (fun e1 => .inl (g.dpath k e1)) .inr, fun k e => .inl (g.dcand k e), g.n1, g.n2, g.n3, g.n4, g.n5, g.n6⟩

/-- cliqueSteps on one that has been used. -/
theorem good_clique {b : SBk} {w : World} {Dm : Nat → Prop} {m : Nat} {ol : List Nat} {lf : Nat → Int} (h : GoodE b w Dm m ol lf) (hg : IsGraph b.N b.E) (hwt : b.Wt = rvT b.E b.N) (hl : b.lim ≤ 9223372036854775806) (hm : m ≤ 4611686018427387904) {r : Nat} (hr : r < b.N) :
    Calls Try.prog 15 #[.pointer (some ⟨b.B, 0, none⟩), .int .i32 r] w fun e w' => e = .returned (.int .i64 ((cliqueF (b.lim + 1) (clq b.E b.Wt r) : Nat) : Int)) ∧ GoodE b w' (fun k => Dm k ∨ w.heap.size ≤ k) (m + 4097) ol lf ∧ Kept Dm w w' := by
  obtain ⟨mk, work, oV, pV, cV, cs, bA, wA, P, L, hmk, g⟩ := h
  have hN := hg.hN
  have hX : ∀ k, (CC.mk b.B b.ge b.gw b.gl b.gp b.gn b.gb b.gx b.Be b.Bw b.N b.E b.Wt b.lim oV pV cV w).X k → Dm k := by
    rintro k (e | e | e | e)
    · rw [e]; exact g.dB
    · rw [e]; exact g.db
    · rw [e]; exact g.dx
    · exact g.dcand k e
  have nX : ∀ {k : Nat} {t : TypeId} {n : Nat} {f : Nat → Value}, w.rowIs k t n f → t ≠ 60 → (t = 3 → k ≠ b.gb ∧ k ≠ b.gx) → cV.ownBlock ≠ some k → ¬ (CC.mk b.B b.ge b.gw b.gl b.gp b.gn b.gb b.gx b.Be b.Bw b.N b.E b.Wt b.lim oV pV cV w).X k := by
    rintro k t n f hr h60 h3 hc (e | e | e | e)
    · exact ne_type hr g.st h60 e
    · by_cases ht : t = 3
      · exact (h3 ht).1 e
      · exact ne_type hr g.rb ht e
    · by_cases ht : t = 3
      · exact (h3 ht).2 e
      · exact ne_type hr g.rx ht e
    · exact hc e
  have cne : ∀ {k : Nat} {t : TypeId} {n : Nat} {f : Nat → Value}, w.rowIs k t n f → t ≠ 54 → cV.ownBlock ≠ some k := fun hr ht e => g.ca.type e hr ht rfl
  have nge := nX g.ev.top (by decide) (fun e => absurd e (by decide)) (cne g.ev.top (by decide))
  have ngw := nX g.wv.top (by decide) (fun e => absurd e (by decide)) (cne g.wv.top (by decide))
  have nBe : ∀ v, v < b.N → ¬ (CC.mk b.B b.ge b.gw b.gl b.gp b.gn b.gb b.gx b.Be b.Bw b.N b.E b.Wt b.lim oV pV cV w).X (b.Be v) := fun v hv => nX (g.ev.rows v hv).2 (by decide) (fun e => absurd e (by decide)) (fun e => ((g.ca.block e).2.1 v hv).1 rfl)
  have nBw : ∀ v, v < b.N → ¬ (CC.mk b.B b.ge b.gw b.gl b.gp b.gn b.gb b.gx b.Be b.Bw b.N b.E b.Wt b.lim oV pV cV w).X (b.Bw v) := fun v hv => nX (g.wv.rows v hv).2 (by decide) (fun e => absurd e (by decide)) (fun e => ((g.ca.block e).2.1 v hv).2 rfl)
  have hfix : CFix (CC.mk b.B b.ge b.gw b.gl b.gp b.gn b.gb b.gx b.Be b.Bw b.N b.E b.Wt b.lim oV pV cV w) :=
    ⟨g.ev.mono (fun _ _ => trivial), g.wv.mono (fun _ _ => trivial), nge, ngw, nBe, nBw, g.n6, hN, hg.hE, fun v _ q hq => by simp only [hwt] at hq; exact (rv_mem.1 hq).1, fun v hv => by have := hg.len hv; simp only; omega,
      fun v hv => by have := rv_len hg.nd v b.N (Nat.le_refl _); simp only [hwt]; omega, hl⟩
  have hbeg : CBeg (CC.mk b.B b.ge b.gw b.gl b.gp b.gn b.gb b.gx b.Be b.Bw b.N b.E b.Wt b.lim oV pV cV w) work cs bA wA mk := ⟨g.st, g.ca, g.rb, g.rx, g.bm, g.xm⟩
  refine (zzclique_any _ hfix work cs bA wA mk r w rfl hbeg (by omega) hr).mono ?_
  rintro e w' ⟨rfl, work', cV', cs', bA', wA', mk', hC, hbm, hxm, hmk'⟩
  have hk := hC.kept
  have hlr := hg.len hr
  have hmk2 : mk' ≤ mk + (b.E r).length + 1 := hmk'
  refine ⟨rfl, ⟨mk', work', oV, pV, cV', cs', bA', wA', P, L, by omega, ?_⟩, ⟨hk.os, hk.tape, hk.output, hk.size, fun k h1 h2 => hk.block k h1 (fun e => h2 (hX k e))⟩⟩
  have ownk : ∀ {t : TypeId} {s : Nat} {V : Value} {n : Nat} {xs : List Value}, w.ownsRow 0 t s V n xs → t ≠ 60 → t ≠ 3 → (∀ k, V.ownBlock = some k → cV.ownBlock ≠ some k) → w'.ownsRow 0 t s V n xs := fun ho h60 h3 hc => own_keep ho (fun k e => by
    refine hk.block k (own_lt ho e) ?_
    rintro (e1 | e1 | e1 | e1)
    · exact own_ne_row ho g.st h60 (by rw [e, e1])
    · exact own_ne_row ho g.rb h3 (by rw [e, e1])
    · exact own_ne_row ho g.rx h3 (by rw [e, e1])
    · exact hc k e e1)
  exact ⟨(hk.vg g.ev nge nBe).mono (fun _ h => .inl h), (hk.vg g.wv ngw nBw).mono (fun _ h => .inl h), hC.st, ownk g.oo (by decide) (by decide) (fun k e => (g.dord k e).2.2), ownk g.po (by decide) (by decide) (fun k e e2 => own_ne_own g.po g.ca.owns (by decide) e e2),
    (by rcases hC.ca with h | ⟨g', cap, F, h1, h2, h3, h4, h5, h6, _⟩
        · exact .inl h
        · exact .inr ⟨g', cap, F, h1, h2, h3, h4, h5, h6, trivial⟩),
    hk.row g.rl (nX g.rl (by decide) (fun e => absurd e (by decide)) (cne g.rl (by decide))), hk.row g.rp (nX g.rp (by decide) (fun _ => ⟨g.n2, g.n3⟩) (cne g.rp (by decide))), hk.row g.rn (nX g.rn (by decide) (fun _ => ⟨g.n4, g.n5⟩) (cne g.rn (by decide))), hC.rb, hC.rx,
    g.olt, g.olen, g.off, hbm, hxm, .inl g.dB, .inl g.dl, .inl g.dp, .inl g.dn, .inl g.db, .inl g.dx,
    fun k e => ⟨.inl (g.dord k e).1, (g.dord k e).2.1, fun e2 => by
      rcases (hC.ca.block e2).2.2 with e3 | e3
      · exact (g.dord k e).2.2 e3
      · have e3' : w.heap.size ≤ k := e3
        have := own_lt g.oo e
        omega⟩,
    fun k e => .inl (g.dpath k e), fun k e => (hC.ca.block e).2.2.elim (fun e3 => .inl (g.dcand k e3)) .inr, g.n1, g.n2, g.n3, g.n4, g.n5, g.n6⟩
end Go.Proofs.Qxb6000043a
