import Derived.Test.Qxb6000043aSearch
import Derived.Test.Qxb6000043aCycL
namespace Go.Proofs.Qxb6000043a
open Go.RowKit

set_option maxRecDepth 100000 in
set_option maxHeartbeats 16000000 in
theorem cycle_any (c : YC) (hf : YFix c) (work : Int) (ol : List Nat) (p : List (Nat × Nat)) (lf : Nat → Int) (P L : Nat → Nat) (r : Nat) (bk : Bool) (w : World) (hw : c.w = w) (hb : YBeg c work ol p lf P L) (hr : r < c.N)
    (ord : List Nat) (hp : Post (rowB c.E bk) r ord) :
    Calls Try.prog 41 #[.pointer (some ⟨c.B, 0, none⟩), .int .i32 r, .bool bk] w (CycPost c r ord) := by
  have hN := hf.hN
  have hR : ∀ v, v < c.N → ∀ q ∈ rowB c.E bk v, q < c.N := fun v hv q hq => (hf.hE v hv q (rowB_mem.1 hq)).1
  have hfa := hp.facts hR hr
  have hol : ord.length ≤ 4096 := by have := hfa.len; omega
  obtain ⟨k0, sF, hF, eF⟩ := hp.fin
  have hseen := Post.seenF hF
  have hcall := search_any c hf work ol p lf P L r bk w hw hb hr k0 sF hF (by rw [eF]; exact hol)
  have HLZ : Hid (∀ x, leftZ sF x = posZ ord x) := by
    intro x
    rw [← eF] at hfa ⊢
    exact leftZ_end hseen hfa.nd x
  have HF : Hid (YFix c) := hf
  have HFA : Hid (PFacts (rowB c.E bk) c.N r ord) := hfa
  have HEF : Hid (sF.ord = ord) := eF
  have hlim := hf.hl
  have hrz : (r : Int) < (c.N : Int) := by omega
  clear hR hfa hp hF hseen hb hf eF
  go_enter Try.func41, Try.ntmps41
  go_wp2_with fail
  refine hcall.mono ?_
  rintro e w1 ⟨rfl, work1, ordV, pathV, hY0⟩
  clear hcall
  rw [HEF.out] at hY0
  have hY : YS c w1 work1 ordV ord pathV [] (posZ ord) (fun _ => 0) (fun _ => 0) := hY0.congr (fun x _ => HLZ.out x) (fun _ _ => rfl) (fun _ _ => rfl)
  clear hY0
  obtain ⟨ao, co, eo⟩ : ∃ a cc, ordV = .slice a ord.length cc := by
    rcases hY.oo.2 with ⟨e1, e2⟩ | ⟨g, cap, cur, e1, _⟩
    · exact ⟨none, 0, by rw [e1, e2]⟩
    · exact ⟨_, cap, e1⟩
  subst eo
  have q8 : w1.cell? ⟨c.B, 8, none⟩ = some (.slice (some ⟨c.gp, 0, none⟩) c.N c.N) := hY.st.cell (i := 8) (by omega)
  obtain ⟨v8, p8⟩ : ∃ v8, w1.cell? ⟨c.gp, r, none⟩ = some v8 := ⟨_, hY.rp.cell hr⟩
  have f8 : w1.frozen? ⟨c.gp, r, none⟩ = false := hY.rp.frozen r
  have hY1 : YS c (w1.setCell ⟨c.gp, r, none⟩ (.int .i64 1)) work1 (.slice ao ord.length co) ord pathV [] (posZ ord) (updF (fun _ => 0) r 1) (fun _ => 0) := hY.setp HF.out r 1
  clear hY
  go_upto_region 4 with fail
  generalize w1.setCell ⟨c.gp, r, none⟩ (.int .i64 1) = w2 at hY1 ⊢
  clear q8 p8 f8
  obtain ⟨nn, hnn⟩ : ∃ nn, nn = ord.length := ⟨_, rfl⟩
  have q6 : w2.cell? ⟨c.B, 6, none⟩ = some (.slice ao nn co) := by rw [hnn]; exact hY1.st.cell (i := 6) (by omega)
  have hnl : nn ≤ 4096 := by omega
  have HNN : Hid (nn = ord.length) := hnn
  have HST : Hid (CycIn c r ord (.slice ao ord.length co) pathV nn 0 (.int .i64 0) w2) := by
    refine ⟨0, work1, updF (fun _ => 0) r 1, fun _ => 0, by rw [capN_lo (Nat.zero_le _)]; rfl, hY1.congr (fun _ _ => rfl) (fun x _ => ?_) (fun x _ => ?_), ?_, fun x hx hn => ?_⟩
    · by_cases e : x = r
      · subst e; simp only [updF, capF, if_true]; exact (capN_lo (by omega)).symm
      · simp only [updF, capF, if_neg e]; exact (capN_lo (by omega)).symm
    · exact (capN_lo (Nat.zero_le _)).symm
    · rw [hnn, List.take_length, Nat.add_zero, phi_start HFA.out.nd HFA.out.root]; rfl
    · have hne : x ≠ r := fun e => hn (by rw [e]; exact HFA.out.root)
      simp [updF, hne]
  clear hY1 hnn hol
  go_wp2_with fail
  clear q6
  go_loopg [7, 8] nn (fun g s7 s8 wr => ∃ (i : Nat) (z : Int), g = i ∧ i ≤ nn ∧ s8 = .int .i64 z ∧ z = (i : Int) - 1 ∧ CycIn c r ord (.slice ao ord.length co) pathV i 0 s7 wr)
  case atStart => exact ⟨nn, _, rfl, Nat.le_refl _, by go_num, rfl, HST.out⟩
  case round =>
    clear HST
    obtain ⟨i, z, hgi, hin, rfl, hz, S, work2, P, L, rfl, hY, hphi, hoff⟩ := hrel
    cases i with
    | zero =>
      obtain rfl : z = -1 := by omega
      clear hz
      have hS : S = cycT c.E r ord := by simpa [phi] using hphi
      subst hS
      have HYR : Hid (YS c wr work2 (.slice ao ord.length co) ord pathV [] (posZ ord) (capF (c.lim + 1) P) (capF (c.lim + 1) L)) := hY
      have HOFF : Hid (OffZ c.N ord P L) := hoff
      clear hY hoff hphi hgi
      go_wp2_with fail
      go_ret
      exact ⟨rfl, work2, _, pathV, _, _, HYR.out, fun x hx hn => by obtain ⟨h1, h2⟩ := HOFF.out x hx hn; exact ⟨by rw [capF, h1]; exact capN_lo (Nat.zero_le _), by rw [capF, h2]; exact capN_lo (Nat.zero_le _)⟩⟩
    | succ j =>
      obtain rfl : z = (j : Int) := by omega
      clear hz
      have hjl : j < ord.length := by rw [← HNN.out]; omega
      have hjz : (j : Int) < (nn : Int) := by omega
      obtain ⟨v, hv⟩ : ∃ v, v = ord[j] := ⟨_, rfl⟩
      have hvo : v ∈ ord := by rw [hv]; exact List.getElem_mem hjl
      have hvN : v < c.N := HFA.out.lt v hvo
      have hvz : (v : Int) < (c.N : Int) := by omega
      obtain ⟨go, e1, hcv⟩ : ∃ go, ao = some ⟨go, 0, none⟩ ∧ wr.cell? ⟨go, j, none⟩ = some (.int .i32 (v : Int)) := by
        obtain ⟨g, cap, e, _⟩ := hY.oo.form (by omega)
        cases e
        refine ⟨g, rfl, ?_⟩
        rw [own_cell hY.oo (cv_at hjl), atN_get hjl, hv]
      subst e1
      have q6 : wr.cell? ⟨c.B, 6, none⟩ = some (.slice (some ⟨go, 0, none⟩) nn co) := by rw [HNN.out]; exact hY.st.cell (i := 6) (by omega)
      have q8 : wr.cell? ⟨c.B, 8, none⟩ = some (.slice (some ⟨c.gp, 0, none⟩) c.N c.N) := hY.st.cell (i := 8) (by omega)
      have q9 : wr.cell? ⟨c.B, 9, none⟩ = some (.slice (some ⟨c.gn, 0, none⟩) c.N c.N) := hY.st.cell (i := 9) (by omega)
      have q4 : wr.cell? ⟨c.B, 4, none⟩ = some (.int .i64 work2) := hY.st.cell (i := 4) (by omega)
      have f4 : wr.frozen? ⟨c.B, 4, none⟩ = false := hY.st.frozen 4
      have q0 : wr.cell? ⟨c.B, 0, none⟩ = some (.slice (some ⟨c.ge, 0, none⟩) c.N c.N) := hY.st.cell (i := 0) (by omega)
      have qv : wr.cell? ⟨c.ge, v, none⟩ = some (.slice (some ⟨c.Be v, 0, none⟩) (c.E v).length (c.E v).length) := (hY.vE HF.out).top.cell hvN
      have pv8 : wr.cell? ⟨c.gp, v, none⟩ = some (.int .i64 (capF (c.lim + 1) P v : Nat)) := hY.rp.cell hvN
      have pv9 : wr.cell? ⟨c.gn, v, none⟩ = some (.int .i64 (capF (c.lim + 1) L v : Nat)) := hY.rn.cell hvN
      obtain ⟨pp, hpp⟩ : ∃ pp, pp = capN (c.lim + 1) (P v) := ⟨_, rfl⟩
      obtain ⟨ll, hll⟩ : ∃ ll, ll = capN (c.lim + 1) (L v) := ⟨_, rfl⟩
      rw [show capF (c.lim + 1) P v = pp from hpp.symm] at pv8
      rw [show capF (c.lim + 1) L v = ll from hll.symm] at pv9
      have hppl : pp ≤ c.lim + 1 := by rw [hpp]; exact capN_le _ _
      have hlll : ll ≤ c.lim + 1 := by rw [hll]; exact capN_le _ _
      have hlv := HF.out.lE v hvN
      have HY : Hid (YS c wr work2 (.slice (some ⟨go, 0, none⟩) ord.length co) ord pathV [] (posZ ord) (capF (c.lim + 1) P) (capF (c.lim + 1) L)) := hY
      rw [Nat.add_zero, phi_open hjl, ← hv] at hphi
      have HPH : Hid (phi c.E r (posF ord) S (ord.take j) P L + ((c.E v).map (dl c.E r (posF ord) (P v) (L v) v)).sum = cycT c.E r ord) := hphi
      have HOFF : Hid (OffZ c.N ord P L) := hoff
      have HPP : Hid (pp = capN (c.lim + 1) (P v) ∧ ll = capN (c.lim + 1) (L v) ∧ v = ord[j]) := ⟨hpp, hll, hv⟩
      clear hY hphi hoff hpp hll hv
      go_upto_region 8 with fail
      go_quiet (fail)
      generalize nq = n1
      go_upto_region 9 with fail
      go_region
      go_upto_region 10 with fail
      obtain ⟨work3, hw3⟩ : ∃ z, z = wrap64 (work2 + (1 + ↑(c.E v).length)) := ⟨_, rfl⟩
      rw [← hw3]
      have hY1 : YS c ((wr.drewN (n1 + 1)).setCell ⟨c.B, 4, none⟩ (.int .i64 work3)) work3 (.slice (some ⟨go, 0, none⟩) ord.length co) ord pathV [] (posZ ord) (capF (c.lim + 1) P) (capF (c.lim + 1) L) := (HY.out.drewN _).setWork work3
      clear HY hcv q6 q8 q9 q4 f4 q0 qv pv8 pv9 hw3
      generalize (wr.drewN (n1 + 1)).setCell ⟨c.B, 4, none⟩ (.int .i64 work3) = w5 at hY1 ⊢
      have q0 : w5.cell? ⟨c.B, 0, none⟩ = some (.slice (some ⟨c.ge, 0, none⟩) c.N c.N) := hY1.st.cell (i := 0) (by omega)
      have qv : w5.cell? ⟨c.ge, v, none⟩ = some (.slice (some ⟨c.Be v, 0, none⟩) (c.E v).length (c.E v).length) := (hY1.vE HF.out).top.cell hvN
      obtain ⟨p0, hp0⟩ : ∃ p0, p0 = P v := ⟨_, rfl⟩
      obtain ⟨l0, hl0⟩ : ∃ l0, l0 = L v := ⟨_, rfl⟩
      have HIN : Hid (CycIn c r ord (.slice (some ⟨go, 0, none⟩) ord.length co) pathV j (((c.E v).drop 0).map (dl c.E r (posF ord) p0 l0 v)).sum (.int .i64 ((capN (c.lim + 1) S : Nat) : Int)) w5) :=
        ⟨S, work3, P, L, rfl, hY1, by rw [hp0, hl0]; exact HPH.out, HOFF.out⟩
      have HPP2 : Hid (pp = capN (c.lim + 1) p0 ∧ ll = capN (c.lim + 1) l0 ∧ v = ord[j]) := by rw [hp0, hl0]; exact HPP.out
      clear hY1 HPP HOFF HPH hp0 hl0
      go_wp2_with fail
      clear q0 qv
      go_loopg [7, 79] (c.E v).length (fun g s7 s79 wr => ∃ u : Nat, u ≤ (c.E v).length ∧ g = (c.E v).length - u ∧ s79 = .int .i64 u ∧ CycIn c r ord (.slice (some ⟨go, 0, none⟩) ord.length co) pathV j (((c.E v).drop u).map (dl c.E r (posF ord) p0 l0 v)).sum s7 wr)
      case atStart => exact ⟨0, Nat.zero_le _, rfl, rfl, HIN.out⟩
      case round =>
        clear HIN
        obtain ⟨u, hul, rfl, rfl, S, work4, P, L, rfl, hY, hphi, hoff⟩ := hrel
        have HOFF : Hid (OffZ c.N ord P L) := hoff
        clear hoff
        by_cases hu : u < (c.E v).length
        · obtain ⟨y, hy⟩ : ∃ y, y = (c.E v).getD u 0 := ⟨_, rfl⟩
          have hym : y ∈ c.E v := by rw [hy]; simp [hu]
          have hyN : y < c.N := (HF.out.hE v hvN y hym).1
          have hyo : y ∈ ord := HFA.out.rows v hvo y (rowB_mem.2 hym)
          have hyz : (y : Int) < (c.N : Int) := by omega
          have huz : (u : Int) < (((c.E v).length : Nat) : Int) := by omega
          have qy : wr.cell? ⟨c.Be v, u, none⟩ = some (.int .i32 (y : Int)) := by rw [((hY.vE HF.out).rows v hvN).2.cell hu, hy]; rfl
          have q2 : wr.cell? ⟨c.B, 2, none⟩ = some (.int .i64 c.lim) := hY.st.cell (i := 2) (by omega)
          obtain ⟨st, hst⟩ : ∃ st, st = capN (c.lim + 1) S := ⟨_, rfl⟩
          have hstl : st ≤ c.lim + 1 := by rw [hst]; exact capN_le _ _
          rw [← hst]
          have HSS : Hid (st = capN (c.lim + 1) S ∧ y = (c.E v).getD u 0) := ⟨hst, hy⟩
          have HPH : Hid (phi c.E r (posF ord) S (ord.take j) P L + (((c.E v).drop u).map (dl c.E r (posF ord) p0 l0 v)).sum = cycT c.E r ord) := hphi
          have HY : Hid (YS c wr work4 (.slice (some ⟨go, 0, none⟩) ord.length co) ord pathV [] (posZ ord) (capF (c.lim + 1) P) (capF (c.lim + 1) L)) := hY
          clear hst hphi hy hym
          by_cases hyr : y = r
          · have hd : ((y : Int) == (r : Int)) = true := by simp [hyr]
            have HYR : Hid (y = r) := hyr
            have hc1 := add_any c.B c.lim ll pp wr q2 hlim hlll hppl
            have hc2 := add_any c.B c.lim (capN (c.lim + 1) (ll + pp)) pp wr q2 hlim (capN_le _ _) hppl
            have hc3 := add_any c.B c.lim st (capN (c.lim + 1) (capN (c.lim + 1) (ll + pp) + pp)) wr q2 hlim hstl (capN_le _ _)
            obtain ⟨z1, hz1⟩ : ∃ z1, z1 = capN (c.lim + 1) (ll + pp) := ⟨_, rfl⟩
            rw [← hz1] at hc1 hc2 hc3
            obtain ⟨z2, hz2⟩ : ∃ z2, z2 = capN (c.lim + 1) (z1 + pp) := ⟨_, rfl⟩
            rw [← hz2] at hc2 hc3
            have HZ : Hid (z1 = capN (c.lim + 1) (ll + pp) ∧ z2 = capN (c.lim + 1) (z1 + pp)) := ⟨hz1, hz2⟩
            clear hY hyr hz1 hz2
            go_wp2_with fail
            refine hc1.mono ?_
            rintro e w' ⟨rfl, rfl⟩
            clear hc1
            go_wp2_with fail
            refine hc2.mono ?_
            rintro e w' ⟨rfl, rfl⟩
            clear hc2
            go_wp2_with fail
            refine hc3.mono ?_
            rintro e w' ⟨rfl, rfl⟩
            clear hc3
            go_wp2_with fail
            go_roundg ((c.E v).length - (u + 1))
            case measure => omega
            case rel =>
              refine ⟨u + 1, by omega, rfl, by go_num, S + (l0 + p0 + p0), work4, P, L, ?_, HY.out, cin_root hu (by rw [← HSS.out.2]; exact HYR.out) HPH.out, HOFF.out⟩
              rw [HSS.out.1, HZ.out.2, HZ.out.1, HPP2.out.1, HPP2.out.2.1, cap3]
          · have hd : ((y : Int) == (r : Int)) = false := by simp; omega
            have HYR : Hid (y ≠ r) := hyr
            have q5 : wr.cell? ⟨c.B, 5, none⟩ = some (.slice (some ⟨c.gl, 0, none⟩) c.N c.N) := hY.st.cell (i := 5) (by omega)
            have ly : wr.cell? ⟨c.gl, y, none⟩ = some (.int .i32 (posF ord y : Nat)) := hY.rl.cell hyN
            have lv : wr.cell? ⟨c.gl, v, none⟩ = some (.int .i32 (posF ord v : Nat)) := hY.rl.cell hvN
            obtain ⟨py, hpy⟩ : ∃ py, py = posF ord y := ⟨_, rfl⟩
            obtain ⟨pv, hpv⟩ : ∃ pv, pv = posF ord v := ⟨_, rfl⟩
            rw [← hpy] at ly
            rw [← hpv] at lv
            have HPY : Hid (py = posF ord y ∧ pv = posF ord v) := ⟨hpy, hpv⟩
            clear hyr hpy hpv
            by_cases hlt : py < pv
            · have hltz : (py : Int) < (pv : Int) := by omega
              clear hY
              go_upto_region 15 with fail
              go_quiet (fail)
              generalize nq = n2
              go_upto_region 16 with fail
              have hY6 := HY.out.drewN n2
              clear HY qy q2 q5 ly lv
              generalize wr.drewN n2 = w6 at hY6 ⊢
              have q8 : w6.cell? ⟨c.B, 8, none⟩ = some (.slice (some ⟨c.gp, 0, none⟩) c.N c.N) := hY6.st.cell (i := 8) (by omega)
              have q2 : w6.cell? ⟨c.B, 2, none⟩ = some (.int .i64 c.lim) := hY6.st.cell (i := 2) (by omega)
              have qp : w6.cell? ⟨c.gp, y, none⟩ = some (.int .i64 (capF (c.lim + 1) P y : Nat)) := hY6.rp.cell hyN
              have f8 : w6.frozen? ⟨c.gp, y, none⟩ = false := hY6.rp.frozen y
              obtain ⟨pw, hpw⟩ : ∃ pw, pw = capF (c.lim + 1) P y := ⟨_, rfl⟩
              rw [← hpw] at qp
              have hpwl : pw ≤ c.lim + 1 := by rw [hpw]; exact capN_le _ _
              obtain ⟨s1, hs1⟩ : ∃ s1, s1 = capN (c.lim + 1) (pw + pp) := ⟨_, rfl⟩
              have hadd : ∀ w' : World, w'.heap = w6.heap → Calls Try.prog 43 #[.pointer (some ⟨c.B, 0, none⟩), .int .i64 pw, .int .i64 pp] w' fun e w'' => e = .returned (.int .i64 (s1 : Int)) ∧ w' = w'' := fun w' hw' => by
                rw [hs1]
                exact add_any c.B c.lim pw pp w' ((World.cell?_of_block (by rw [hw'])).trans q2) hlim hpwl hppl
              have HY7 : Hid (YS c (w6.setCell ⟨c.gp, y, none⟩ (.int .i64 (s1 : Nat))).drew work4 (.slice (some ⟨go, 0, none⟩) ord.length co) ord pathV [] (posZ ord) (capF (c.lim + 1) (updF P y (P y + p0))) (capF (c.lim + 1) L)) :=
                ((hY6.setp HF.out y s1).congr (fun _ _ => rfl) (fun x _ => by rw [hs1, hpw, HPP2.out.1]; exact capF_upd x) (fun _ _ => rfl)).drew
              clear hY6 hpw hs1 q2
              go_cut [128] (fun _ wc => YS c wc work4 (.slice (some ⟨go, 0, none⟩) ord.length co) ord pathV [] (posZ ord) (capF (c.lim + 1) (updF P y (P y + p0))) (capF (c.lim + 1) L))
              case first =>
                · go_region_law ((refine step_call3 (by rfl) (by rfl) (.pointer (some ⟨c.B, 0, none⟩)) (.int .i64 pw) (.int .i64 pp) (.int .i64 (s1 : Int)) (by rfl) (by rfl) (by rfl) (enter43 _ _ _ _) (hadd _ rfl) ?_))
                  all_goals
                    go_wp2_with fail
                    go_meet
                    exact HY7.out
              case rest =>
                clear HY7 hadd q8 qp f8
                have hY6 := hcut
                clear hcut
                have q9 : wc.cell? ⟨c.B, 9, none⟩ = some (.slice (some ⟨c.gn, 0, none⟩) c.N c.N) := hY6.st.cell (i := 9) (by omega)
                have q2 : wc.cell? ⟨c.B, 2, none⟩ = some (.int .i64 c.lim) := hY6.st.cell (i := 2) (by omega)
                have qn : wc.cell? ⟨c.gn, y, none⟩ = some (.int .i64 (capF (c.lim + 1) L y : Nat)) := hY6.rn.cell hyN
                have f9 : wc.frozen? ⟨c.gn, y, none⟩ = false := hY6.rn.frozen y
                obtain ⟨lw, hlw⟩ : ∃ lw, lw = capF (c.lim + 1) L y := ⟨_, rfl⟩
                rw [← hlw] at qn
                have hlwl : lw ≤ c.lim + 1 := by rw [hlw]; exact capN_le _ _
                obtain ⟨z1, hz1⟩ : ∃ z1, z1 = capN (c.lim + 1) (ll + pp) := ⟨_, rfl⟩
                have hz1l : z1 ≤ c.lim + 1 := by rw [hz1]; exact capN_le _ _
                obtain ⟨z2, hz2⟩ : ∃ z2, z2 = capN (c.lim + 1) (lw + z1) := ⟨_, rfl⟩
                have hadd1 : ∀ w' : World, w'.heap = wc.heap → Calls Try.prog 43 #[.pointer (some ⟨c.B, 0, none⟩), .int .i64 ll, .int .i64 pp] w' fun e w'' => e = .returned (.int .i64 (z1 : Int)) ∧ w'' = w' := fun w' hw' => by
                  rw [hz1]
                  exact (add_any c.B c.lim ll pp w' ((World.cell?_of_block (by rw [hw'])).trans q2) hlim hlll hppl).mono (fun _ _ h => ⟨h.1, h.2.symm⟩)
                have hadd2 : ∀ w' : World, w'.heap = wc.heap → Calls Try.prog 43 #[.pointer (some ⟨c.B, 0, none⟩), .int .i64 lw, .int .i64 z1] w' fun e w'' => e = .returned (.int .i64 (z2 : Int)) ∧ w'' = w' := fun w' hw' => by
                  rw [hz2]
                  exact (add_any c.B c.lim lw z1 w' ((World.cell?_of_block (by rw [hw'])).trans q2) hlim hlwl hz1l).mono (fun _ _ h => ⟨h.1, h.2.symm⟩)
                have HY7 : Hid (YS c (wc.setCell ⟨c.gn, y, none⟩ (.int .i64 (z2 : Nat))).drew work4 (.slice (some ⟨go, 0, none⟩) ord.length co) ord pathV [] (posZ ord) (capF (c.lim + 1) (updF P y (P y + p0))) (capF (c.lim + 1) (updF L y (L y + (l0 + p0))))) :=
                  ((hY6.setn HF.out y z2).congr (fun _ _ => rfl) (fun _ _ => rfl) (fun x _ => by rw [hz2, hz1, hlw, HPP2.out.1, HPP2.out.2.1, cap_cap (c.lim + 1) l0 p0]; exact capF_upd x)).drew
                clear hY6 hlw hz1 hz2 q2
                go_upto_region 17 with fail
                have hlt' : posF ord y < posF ord v := by rw [← HPY.out.1, ← HPY.out.2]; exact hlt
                have hyt : y ∈ ord.take j := pos_mem_take HFA.out.nd hjl hyo (by rw [← HPP2.out.2.2]; exact hlt')
                have hph := cin_edge (P := P) (L := L) hu (HFA.out.nd.sublist (List.take_sublist _ _)) (by rw [← HSS.out.2]; exact hyt) (by rw [← HSS.out.2]; exact HYR.out) (by rw [← HSS.out.2]; exact hlt') HPH.out
                rw [← HSS.out.2] at hph
                have HEND : Hid (CycIn c r ord (.slice (some ⟨go, 0, none⟩) ord.length co) pathV j (((c.E v).drop (u + 1)).map (dl c.E r (posF ord) p0 l0 v)).sum (.int .i64 (st : Int)) (wc.setCell ⟨c.gn, y, none⟩ (.int .i64 (z2 : Nat))).drew) := by
                  refine ⟨S, work4, _, _, by rw [HSS.out.1], HY7.out, hph, fun x hx hn => ?_⟩
                  have hne : x ≠ y := fun e => hn (by rw [e]; exact hyo)
                  rw [updF_other _ _ hne, updF_other _ _ hne]
                  exact HOFF.out x hx hn
                clear hlt' hyt hph HY7
                refine region_still_tail 18 (by kernel_rfl) (by kernel_rfl) ?_
                simp only [List.take_succ_cons, List.take_zero, List.drop_succ_cons, List.drop_zero]
                repeat still_step
                still_call (hadd1 wc.drew rfl)
                repeat still_step
                still_call (hadd2 wc.drew rfl)
                repeat still_step
                refine wpStill_nil ?_
                clear hadd1 hadd2
                go_wp2_with fail
                go_roundg ((c.E v).length - (u + 1))
                case measure => omega
                case rel => exact ⟨u + 1, by omega, rfl, by go_num, HEND.out⟩
            · have hltz : (pv : Int) ≤ (py : Int) := by omega
              clear hY
              go_upto_region 15 with fail
              go_quiet (fail)
              go_wp2_with fail
              go_roundg ((c.E v).length - (u + 1))
              case measure => omega
              case rel =>
                refine ⟨u + 1, by omega, rfl, by go_num, S, work4, P, L, by rw [HSS.out.1], HY.out.drewN _, cin_none hu (by rw [← HSS.out.2]; exact HYR.out) (by rw [← HSS.out.2, ← HPY.out.1, ← HPY.out.2]; exact hlt) HPH.out, HOFF.out⟩
        · obtain rfl : u = (c.E v).length := by omega
          have HYY : Hid (CycIn c r ord (.slice (some ⟨go, 0, none⟩) ord.length co) pathV j 0 (.int .i64 ((capN (c.lim + 1) S : Nat) : Int)) wr) := ⟨S, work4, P, L, rfl, hY, by simpa using hphi, HOFF.out⟩
          clear hY hphi HOFF
          go_wp2_with fail
          go_roundg j
          case measure => omega
          case rel => exact ⟨j, _, rfl, by omega, by go_num, rfl, HYY.out⟩
end Go.Proofs.Qxb6000043a
