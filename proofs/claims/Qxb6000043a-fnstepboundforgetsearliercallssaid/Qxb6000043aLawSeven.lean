import Derived.Test.Qxb6000043aCycle
import Derived.Test.Qxb6000043aSuffix
import Derived.Test.Qxb6000043aGraph
import Derived.Test.Qxb6000043aSizes
import Derived.Test.Qxb6000043aClone
namespace Go.Proofs.Qxb6000043a
open Go.RowKit

set_option maxHeartbeats 1000000 in
theorem zzcycle_any (c : YC) (hf : YFix c) (work : Int) (ol : List Nat) (p : List (Nat × Nat)) (lf : Nat → Int) (P L : Nat → Nat) (r : Nat) (bk : Bool) (w : World) (hw : c.w = w) (hb : YBeg c work ol p lf P L) (hr : r < c.N)
    (ord : List Nat) (hp : Post (rowB c.E bk) r ord) :
    Calls Try.prog 30 #[.pointer (some ⟨c.B, 0, none⟩), .int .i32 r, .bool bk] w (CycPost c r ord) := by
  have h := cycle_any c hf work ol p lf P L r bk w hw hb hr ord hp
  clear hf hb hp
  go_enter Try.func30, Try.ntmps30
  go_wp2_with fail
  refine h.mono ?_
  rintro e w' ⟨rfl, hq⟩
  clear h
  have HQ : Hid (∃ (work : Int) (ordV pathV : Value) (P L : Nat → Nat), YS c w' work ordV ord pathV [] (posZ ord) P L ∧ OffZ c.N ord P L) := hq
  clear hq
  go_wp2_with fail
  go_ret
  exact ⟨rfl, HQ.out⟩

/-- A fresh stepBound's cycle steps. -/
theorem cycle_fresh {N : Nat} {E : Nat → List Nat} {lim r : Nat} {bk : Bool} {w : World} {e : Ending} {w' : World} (h : NewPost N E (rvT E N) lim w e w') (hg : IsGraph N E) (hl : lim ≤ 9223372036854775806) (hr : r < N) (ord : List Nat) (hp : Post (rowB E bk) r ord) :
    ∃ B, e = .returned (.pointer (some ⟨B, 0, none⟩)) ∧ Below w.heap.size w w' ∧
      Calls Try.prog 30 #[.pointer (some ⟨B, 0, none⟩), .int .i32 r, .bool bk] w' fun e w'' => e = .returned (.int .i64 ((capN (lim + 1) (cycT E r ord) : Nat) : Int)) ∧ Below w.heap.size w w'' := by
  obtain ⟨B, ge, gw, gl, gp, gn, gb, gx, Be, Bw, rfl, hbel, hE, hW, hB, hst, hlb, hgl, ⟨hpb, rp⟩, ⟨hnb, rn⟩, ⟨hgb, rb⟩, ⟨hgx, rx⟩, hpn, _⟩ := h
  refine ⟨B, rfl, hbel, ?_⟩
  have hN := hg.hN
  have nX : ∀ {b : Nat} {t : TypeId} {n : Nat} {f : Nat → Value}, w'.rowIs b t n f → t ≠ 60 → t ≠ 21 → t ≠ 3 → ¬ (YC.mk B ge gw gl gp gn gb gx Be N E lim 0 nilV nilV nilV w').X b := by
    rintro b t n f hr h60 h21 h3 (e | e | e | e | e | e)
    · exact ne_type hr hst h60 e
    · exact ne_type hr hgl h21 e
    · exact ne_type hr rp h3 e
    · exact ne_type hr rn h3 e
    · cases e
    · cases e
  have hfix : YFix (YC.mk B ge gw gl gp gn gb gx Be N E lim 0 nilV nilV nilV w') :=
    ⟨hE.mono (fun _ _ => trivial), nX hE.top (by decide) (by decide) (by decide), fun v hv => nX (hE.rows v hv).2 (by decide) (by decide) (by decide), hpn, hN, hg.hE, fun v hv => by have := hg.len hv; simp only; omega, hl⟩
  have hbeg : YBeg (YC.mk B ge gw gl gp gn gb gx Be N E lim 0 nilV nilV nilV w') 0 [] [] (fun _ => 0) (fun _ => 0) (fun _ => 0) :=
    ⟨⟨Kept.refl _ _, hst, World.ownsRow_nil _ _ _ _, World.ownsRow_nil _ _ _ _, hgl, rp, rn, fun _ e => (by cases e), fun _ e => (by cases e)⟩, fun _ h => (by cases h), fun _ _ _ => ⟨rfl, rfl, rfl⟩, Nat.zero_le _⟩
  refine (zzcycle_any _ hfix 0 [] [] _ _ _ r bk w' rfl hbeg hr ord hp).mono ?_
  rintro e w'' ⟨rfl, work, ordV, pathV, P, L, hY, _⟩
  refine ⟨rfl, hbel.trans ((hY.kept.below hbel.size ?_))⟩
  rintro k hk (e | e | e | e | e | e)
  · subst e; exact absurd hk (Nat.not_lt.2 hB)
  · subst e; exact absurd hk (Nat.not_lt.2 hlb)
  · subst e; exact absurd hk (Nat.not_lt.2 hpb)
  · subst e; exact absurd hk (Nat.not_lt.2 hnb)
  · cases e
  · cases e

def TrueEnd (w : World) (e : Ending) (w' : World) : Prop := e = .returned (.bool true) ∧ Below w.heap.size w w'

set_option maxRecDepth 100000 in
set_option maxHeartbeats 8000000 in
theorem cyclaw_any (a : Option Addr) (N c : Nat) (L : Nat → Nat) (Z : Nat → Nat → Int) (root : Int) (bk : Bool) (lim : Int) (w : World) (h : Grid w a N L Z) (ha : a = none → N = 0) (b0 : N ≤ 9223372036854775807) (bl : ∀ i, i < N → L i ≤ 9223372036854775807)
    (bz : ∀ v, v < N → ∀ i, i < L v → -2147483648 ≤ Z v i ∧ Z v i ≤ 2147483647) (br : -2147483648 ≤ root ∧ root ≤ 2147483647) (blo : -9223372036854775808 ≤ lim ∧ lim ≤ 9223372036854775807) :
    Calls Try.prog 7 #[.slice a N c, .int .i32 root, .bool bk, .int .i64 lim] w (TrueEnd w) := by
  have hbytes := bytes_cycle a N c L Z root bk lim w h b0 bl
  go_enter Try.func7, Try.ntmps7
  go_wp2_with fail
  refine hbytes.mono ?_
  rintro e w' ⟨r, rfl, rfl, hsz⟩
  clear hbytes
  cases r
  · go_wp2_with fail
    go_ret
    exact ⟨rfl, Below.refl _ _⟩
  obtain ⟨hN1, hL1⟩ := hsz rfl
  clear hsz bl b0
  by_cases hN : N ≤ 4096
  · have d0 : decide ((4096 : Int) < (N : Int)) = false := by simp; omega
    have hgb := graphBytes_any a N c L Z w h hN hL1
    have HL : Hid (∀ i, i < N → L i ≤ 1048576) := hL1
    have HG : Hid (Grid w a N L Z) := h
    have HZ : Hid (∀ v, v < N → ∀ i, i < L v → -2147483648 ≤ Z v i ∧ Z v i ≤ 2147483647) := bz
    clear hL1 h bz
    go_wp2_with fail
    refine hgb.mono ?_
    rintro e w' ⟨T, rfl, rfl, hT0, hT1⟩
    clear hgb
    by_cases hT : T ≤ 1048576
    · have dT : decide ((1048576 : Int) < T) = false := by simp; omega
      by_cases g1 : lim < 0
      · have d1 : decide (lim < 0) = true := by simpa using g1
        go_wp2_with fail
        go_ret
        exact ⟨rfl, Below.refl _ _⟩
      have d1 : decide (lim < 0) = false := by simpa using g1
      by_cases g3 : 9223372036854775806 < lim
      · have d3 : decide ((9223372036854775806 : Int) < lim) = true := by simpa using g3
        go_wp2_with fail
        go_ret
        exact ⟨rfl, Below.refl _ _⟩
      have d3 : decide ((9223372036854775806 : Int) < lim) = false := by simpa using g3
      obtain ⟨lim, rfl⟩ := Int.eq_ofNat_of_zero_le (by omega : 0 ≤ lim)
      have hval := valid_any a N c L Z w HG.out hN HL.out HZ.out
      go_wp2_with fail
      refine hval.mono ?_
      rintro e w1 ⟨r, rfl, hB1, hV⟩
      clear hval
      cases r
      · go_wp2_with fail
        go_ret
        exact ⟨rfl, hB1⟩
      have HV : Hid (Valid N L Z) := hV rfl
      clear hV
      by_cases g4 : root < 0
      · have d4 : decide (root < 0) = true := by simpa using g4
        go_wp2_with fail
        go_ret
        exact ⟨rfl, hB1⟩
      have d4 : decide (root < 0) = false := by simpa using g4
      obtain ⟨rt, rfl⟩ := Int.eq_ofNat_of_zero_le (by omega : 0 ≤ root)
      by_cases g5 : N ≤ rt
      · have d5 : decide ((N : Int) ≤ (rt : Int)) = true := by simpa using g5
        go_wp2_with fail
        go_ret
        exact ⟨rfl, hB1⟩
      have d5 : decide ((N : Int) ≤ (rt : Int)) = false := by simp; omega
      have hcl := cloneN_any a N c L Z w1 (by omega) ha (HG.out.below hB1) HL.out
      go_wp2_with fail
      refine hcl.mono ?_
      rintro e w2 ⟨a2, c2, rfl, hG2, hB2⟩
      clear hcl
      have hg := graph_list HV.out hN
      have hGN := grid_list hG2 HV.out
      clear hG2 HG HZ HL HV
      generalize listE L Z = E at hg hGN
      have hrv := reverse_any a2 N c2 E w2 hGN hN (fun i hi => by have := hg.len hi; omega) (fun v hv i hi => by have := (hg.hE v hv ((E v)[i]) (List.getElem_mem hi)).1; simpa [hi] using this)
      have HGN : Hid (GridN w2 a2 N E) := hGN
      have HI : Hid (IsGraph N E) := hg
      clear hGN hg
      go_wp2_with fail
      refine hrv.mono ?_
      rintro e w3 ⟨rfl, hRv⟩
      clear hrv
      have hB3 := hRv.below
      have HW : Hid (GridN w3 (some ⟨w2.heap.size, 0, none⟩) N (rvT E N)) := hRv.grid
      have HE : Hid (GridN w3 a2 N E) := Grid.below HGN.out hB3
      have hB03 : Below w.heap.size w w3 := (hB1.trans (hB2.mono hB1.size)).trans (hB3.mono (Nat.le_trans hB1.size hB2.size))
      clear hRv HGN hB3 hB2 hB1
      have hlen : ∀ i, i < N → (E i).length ≤ 1048576 := fun i hi => by have := HI.out.len hi; omega
      have hlen' : ∀ i, i < N → (rvT E N i).length ≤ 1048576 := fun i hi => by have := rv_len HI.out.nd i N (Nat.le_refl _); omega
      have hrow : ∀ v, v < N → ∀ q ∈ E v, q < N := fun v hv q hq => (HI.out.hE v hv q hq).1
      have hrowB : ∀ v, v < N → ∀ q ∈ rowB E bk v, q < N := fun v hv q hq => hrow v hv q (rowB_mem.1 hq)
      obtain ⟨ord, hpost⟩ := post_ex hrowB (by omega : rt < N)
      have hfa := hpost.facts hrowB (by omega : rt < N)
      have hol : ord.length ≤ 100000 := by have := hfa.len; omega
      have hnew := new_any a2 (some ⟨w2.heap.size, 0, none⟩) N c2 N E (rvT E N) lim w3 HE.out HW.out hN hlen hlen'
      have HLE : Hid (∀ i, i < N → (E i).length ≤ 1048576) := hlen
      have HRO : Hid (∀ v, v < N → ∀ q ∈ E v, q < N) := hrow
      have HPO : Hid (Post (rowB E bk) rt ord) := hpost
      have HLT : Hid (∀ x ∈ ord, x < N) := hfa.lt
      clear hlen hlen' hrow hrowB hfa hpost
      go_wp2_with fail
      refine hnew.mono ?_
      intro e w4 hnp
      clear hnew
      obtain ⟨B, rfl, hB4, hcq⟩ := cycle_fresh hnp HI.out (by omega) (by omega : rt < N) ord HPO.out
      clear hnp
      obtain ⟨M, hM⟩ : ∃ M, M = lim + 1 := ⟨_, rfl⟩
      rw [← hM] at hcq
      have HM : Hid (M = lim + 1) := hM
      clear hM hB4
      go_wp2_with fail
      refine hcq.mono ?_
      rintro e w5 ⟨rfl, hB5⟩
      clear hcq
      have HB5 : Hid (Below w3.heap.size w3 w5) := hB5
      have hpo := postorder_any a2 N c2 E bk rt w5 (Grid.below HE.out hB5) hN HRO.out HLE.out (by omega) ord HPO.out hol
      clear hB5
      go_wp2_with fail
      refine hpo.mono ?_
      rintro e w6 ⟨a6, c6, rfl, hB6, hrow6⟩
      clear hpo
      have HB6 : Hid (Below w5.heap.size w5 w6) := hB6
      have hps := positions_any a6 ord c6 N w6 hN HLT.out hol hrow6
      clear hB6 hrow6
      obtain ⟨on, hon⟩ : ∃ on, on = ord.length := ⟨_, rfl⟩
      rw [← hon] at hps hol ⊢
      clear hon
      go_wp2_with fail
      refine hps.mono ?_
      rintro e w7 ⟨rfl, hB7, hpos⟩
      clear hps
      have hmk3 := make39 N (by omega)
      have hmk4 := make41 N (by omega)
      have hMz : (lim : Int) + 1 = (M : Int) := by have := HM.out; omega
      have hB37 : Below w3.heap.size w3 w7 := (HB5.out.trans (HB6.out.mono HB5.out.size)).trans (hB7.mono (Nat.le_trans HB5.out.size HB6.out.size))
      have hS0 : SufM w7 (((w7.alloc (.cells (madeCells #[.int .i64 0] N) 3)).alloc (.cells (madeCells #[.int .i64 0] N) 3)).alloc (.cells (madeCells #[.bool false] N) 4)) N w7.heap.size (w7.heap.size + 1) (w7.heap.size + 2) (fun _ => 0) (fun _ => 0) (fun _ => false) := by
        have r1 := World.rowIs_made w7 (.int .i64 0) N 3
        have r2 := World.rowIs_made (w7.alloc (.cells (madeCells #[.int .i64 0] N) 3)) (.int .i64 0) N 3
        have r3 := World.rowIs_made ((w7.alloc (.cells (madeCells #[.int .i64 0] N) 3)).alloc (.cells (madeCells #[.int .i64 0] N) 3)) (.bool false) N 4
        have e2 : (w7.alloc (.cells (madeCells #[.int .i64 0] N) 3)).heap.size = w7.heap.size + 1 := by simp
        have e3 : ((w7.alloc (.cells (madeCells #[.int .i64 0] N) 3)).alloc (.cells (madeCells #[.int .i64 0] N) 3)).heap.size = w7.heap.size + 2 := by simp
        rw [e2] at r2
        rw [e3] at r3
        have b1 : Below w7.heap.size w7 (w7.alloc (.cells (madeCells #[.int .i64 0] N) 3)) := (Below.refl _ _).alloc (Nat.le_refl _) _
        have b2 := b1.alloc (by rw [e2]; omega) (.cells (madeCells #[.int .i64 0] N) 3)
        have b3 := b2.alloc (by rw [e3]; omega) (.cells (madeCells #[.bool false] N) 4)
        exact ⟨b3, (r1.alloc _).alloc _, r2.alloc _, r3⟩
      have hE7 : GridN w7 a2 N E := Grid.below HE.out hB37
      have hsuf := suffix_any a2 N c2 w6.heap.size w7.heap.size (w7.heap.size + 1) (w7.heap.size + 2) E rt M (posF ord) w7 hE7 hN HRO.out HLE.out hpos (by have := HM.out; omega) (by have := HM.out; omega) (Nat.le_refl _) (by omega) (by omega) (by omega) (by omega) _ rt (fun _ => False) (fun _ => 0) (fun _ => 0) (fun _ => false) _ rfl (by omega) (fun _ h => h.elim) hS0 (fun _ _ h => by cases h)
      have HB37 : Hid (Below w3.heap.size w3 w7) := hB37
      clear hS0 hE7 hpos hB7 hB37
      go_upto_region 17 with fail
      generalize ((w7.alloc (.cells (madeCells #[.int .i64 0] N) 3)).alloc (.cells (madeCells #[.int .i64 0] N) 3)).alloc (.cells (madeCells #[.bool false] N) 4) = w8 at hsuf ⊢
      clear hmk3 hmk4
      go_wp2_with fail
      refine hsuf.mono ?_
      rintro e w9 ⟨rfl, F, G, D, hS, hOK, hD⟩
      clear hsuf
      obtain ⟨eF, eG⟩ := (hOK rt (by omega) (hD rt (.inr rfl))).resolve_right (fun h => h)
      have pf : w9.cell? ⟨w7.heap.size, rt, none⟩ = some (.int .i64 (F rt : Nat)) := hS.f.cell (by omega)
      have pg : w9.cell? ⟨w7.heap.size + 1, rt, none⟩ = some (.int .i64 (G rt : Nat)) := hS.g.cell (by omega)
      obtain ⟨fr, hfr⟩ : ∃ fr, fr = F rt := ⟨_, rfl⟩
      obtain ⟨gr', hgr⟩ : ∃ gr', gr' = G rt := ⟨_, rfl⟩
      rw [← hfr] at pf eF
      rw [← hgr] at pg eG
      have hfl : fr ≤ M := by rw [eF]; exact capN_le _ _
      have hgl : gr' ≤ M := by rw [eG]; exact capN_le _ _
      have hM9 : M ≤ 9223372036854775807 := by have := HM.out; omega
      have c1 : ∀ (x y : Nat) (w : World), x ≤ M → y ≤ M → Calls Try.prog 32 #[.int .i64 x, .int .i64 y, .int .i64 M] w fun e w' => e = .returned (.int .i64 ((capN M (x + y) : Nat) : Int)) ∧ w' = w := fun x y w hx hy => (capAdd_any M x y w hM9 hx hy).mono (fun e w' h => ⟨h.1, h.2.symm⟩)
      have hcmp : (((capN M (cycT E rt ord) : Nat) : Int) == ((capN M (gr' + capN M (fr + fr)) : Nat) : Int)) = true := by
        have e1 : capN M (gr' + capN M (fr + fr)) = capN M (cycT E rt ord) := by
          rw [eF, eG, cap_cap M (FF E rt (posF ord) rt) (FF E rt (posF ord) rt), cap_cap, cycT, show 2 * FF E rt (posF ord) rt = FF E rt (posF ord) rt + FF E rt (posF ord) rt by omega]
        rw [e1]; simp
      have HBE : Hid (Below w.heap.size w w9) := (hB03.trans (HB37.out.mono hB03.size)).trans (hS.below.mono (Nat.le_trans hB03.size HB37.out.size))
      have hrz : (rt : Int) < (N : Int) := by omega
      clear hS hOK hD eF eG hfr hgr hB03 HB37 HE HW
      generalize capN M (cycT E rt ord) = x at hcmp ⊢
      go_upto_region 18 with fail
      go_quiet (first | (go_at_call 32; refine Calls.quiet_of_same (c1 _ _ _ ?_ ?_) <;> first | assumption | exact capN_le _ _))
      go_wp2_with fail
      go_ret
      exact ⟨rfl, below_drewN HBE.out _⟩
    · have dT : decide ((1048576 : Int) < T) = true := by simp; omega
      go_wp2_with fail
      go_ret
      exact ⟨rfl, Below.refl _ _⟩
  · have d0 : decide ((4096 : Int) < (N : Int)) = true := by simp; omega
    clear hL1 h bz
    go_wp2_with fail
    go_ret
    exact ⟨rfl, Below.refl _ _⟩
end Go.Proofs.Qxb6000043a
