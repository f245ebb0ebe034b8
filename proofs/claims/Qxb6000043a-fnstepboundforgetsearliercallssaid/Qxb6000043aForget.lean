import Derived.Test.Qxb6000043aGoodW
import Derived.Deep.DeepCutAuto
namespace Go.Proofs.Qxb6000043a
open Go.RowKit

set_option maxRecDepth 100000 in
set_option maxHeartbeats 8000000 in
theorem forget_any (a : Option Addr) (N c : Nat) (L : Nat → Nat) (Z : Nat → Nat → Int) (ao : Option Addr) (no co : Nat) (f : Nat → Int) (lim : Int) (w : World) (h : Grid w a N L Z) (ha : a = none → N = 0) (b0 : N ≤ 9223372036854775807) (bl : ∀ i, i < N → L i ≤ 9223372036854775807)
    (bz : ∀ v, v < N → ∀ i, i < L v → -2147483648 ≤ Z v i ∧ Z v i ≤ 2147483647) (ho : Row w ao no (fun i => .int .i32 (f i))) (bo : no ≤ 9223372036854775807) (bf : ∀ i, i < no → -2147483648 ≤ f i ∧ f i ≤ 2147483647) (blo : -9223372036854775808 ≤ lim ∧ lim ≤ 9223372036854775807) :
    Calls Try.prog 9 #[.slice a N c, .slice ao no co, .int .i64 lim] w (TrueEnd w) := by
  have hbytes := bytes_forget a N c L Z ao no co lim bo w h b0 bl
  have HRO : Hid (Row w ao no (fun i => .int .i32 (f i))) := ho
  have HBF : Hid (∀ i, i < no → -2147483648 ≤ f i ∧ f i ≤ 2147483647) := bf
  clear ho bf
  go_enter Try.func9, Try.ntmps9
  go_wp2_with fail
  refine hbytes.mono ?_
  rintro e w' ⟨r, rfl, rfl, hsz⟩
  clear hbytes
  cases r
  · go_wp2_with fail
    go_ret
    exact ⟨rfl, Below.refl _ _⟩
  obtain ⟨hN1, hL1⟩ := hsz rfl
  clear hsz bl b0
  by_cases hN : N ≤ 4096
  · have d0 : decide ((4096 : Int) < (N : Int)) = false := by simp; omega
    by_cases hno : no ≤ 256
    · have d1 : decide ((256 : Int) < (no : Int)) = false := by simp; omega
      have hgb := graphBytes_any a N c L Z w h hN hL1
      have HL : Hid (∀ i, i < N → L i ≤ 1048576) := hL1
      have HG : Hid (Grid w a N L Z) := h
      have HZ : Hid (∀ v, v < N → ∀ i, i < L v → -2147483648 ≤ Z v i ∧ Z v i ≤ 2147483647) := bz
      clear hL1 h bz
      go_wp2_with fail
      refine hgb.mono ?_
      rintro e w' ⟨T, rfl, rfl, hT0, hT1⟩
      clear hgb
      by_cases hT : T + 4 * (no : Int) ≤ 1048576
      · have dT : decide ((1048576 : Int) < T + 4 * (no : Int)) = false := by simp; omega
        have eT : T + 4 * (no : Int) ≤ 1048576 := hT
        by_cases g1 : lim < 0
        · have d1 : decide (lim < 0) = true := by simpa using g1
          go_wp2_with fail
          go_ret
          exact ⟨rfl, Below.refl _ _⟩
        have d2 : decide (lim < 0) = false := by simpa using g1
        by_cases g3 : 9223372036854775806 < lim
        · have d3 : decide ((9223372036854775806 : Int) < lim) = true := by simpa using g3
          go_wp2_with fail
          go_ret
          exact ⟨rfl, Below.refl _ _⟩
        have d3 : decide ((9223372036854775806 : Int) < lim) = false := by simpa using g3
        obtain ⟨lim, rfl⟩ := Int.eq_ofNat_of_zero_le (by omega : 0 ≤ lim)
        by_cases g4 : N = 0
        · have d4 : ((N : Int) == 0) = true := by simp [g4]
          go_wp2_with fail
          go_ret
          exact ⟨rfl, Below.refl _ _⟩
        have d4 : ((N : Int) == 0) = false := by simp; omega
        have hval := valid_any a N c L Z w HG.out hN HL.out HZ.out
        go_wp2_with fail
        refine hval.mono ?_
        rintro e w1 ⟨r, rfl, hB1, hV⟩
        clear hval
        cases r
        · go_wp2_with fail
          go_ret
          exact ⟨rfl, hB1⟩
        have HV : Hid (Valid N L Z) := hV rfl
        clear hV
        have hcl := cloneN_any a N c L Z w1 (by omega) ha (HG.out.below hB1) HL.out
        go_wp2_with fail
        refine hcl.mono ?_
        rintro e w2 ⟨a2, c2, rfl, hG2, hB2⟩
        clear hcl
        have hg := graph_list HV.out hN
        have hGN := grid_list hG2 HV.out
        clear hG2 HG HZ HL HV
        generalize listE L Z = E at hg hGN
        have hB02 : Below w.heap.size w w2 := hB1.trans (hB2.mono hB1.size)
        have hcb := cloneB_any ao no co f w2 (by omega) (HRO.out.below hB02)
        have HGN : Hid (GridN w2 a2 N E) := hGN
        have HI : Hid (IsGraph N E) := hg
        clear hGN hg HRO hB1 hB2
        go_wp2_with fail
        refine hcb.mono ?_
        rintro e w2' ⟨a3, c3, rfl, hRo, hB2', _⟩
        clear hcb
        have hGN' : GridN w2' a2 N E := Grid.below HGN.out hB2'
        have hrv := reverse_any a2 N c2 E w2' hGN' hN (fun i hi => by have := HI.out.len hi; omega) (fun v hv i hi => by have := (HI.out.hE v hv ((E v)[i]) (List.getElem_mem hi)).1; simpa [hi] using this)
        have HGN2 : Hid (GridN w2' a2 N E) := hGN'
        have HRO : Hid (Row w2' a3 no (fun i => .int .i32 (f i))) := hRo
        have hB03 : Below w.heap.size w w2' := hB02.trans (hB2'.mono hB02.size)
        clear HGN hGN' hRo hB02 hB2'
        go_wp2_with fail
        refine hrv.mono ?_
        rintro e w3 ⟨rfl, hRv⟩
        clear hrv
        have hB3 := hRv.below
        have HW : Hid (GridN w3 (some ⟨w2'.heap.size, 0, none⟩) N (rvT E N)) := hRv.grid
        have HE : Hid (GridN w3 a2 N E) := Grid.below HGN2.out hB3
        have HR3 : Hid (Row w3 a3 no (fun i => .int .i32 (f i))) := HRO.out.below hB3
        have hB04 : Below w.heap.size w w3 := hB03.trans (hB3.mono hB03.size)
        clear hRv HGN2 hB3 hB03 HRO
        have hlen : ∀ i, i < N → (E i).length ≤ 1048576 := fun i hi => by have := HI.out.len hi; omega
        have hlen' : ∀ i, i < N → (rvT E N i).length ≤ 1048576 := fun i hi => by have := rv_len HI.out.nd i N (Nat.le_refl _); omega
        have hnew := new_any a2 (some ⟨w2'.heap.size, 0, none⟩) N c2 N E (rvT E N) lim w3 HE.out HW.out hN hlen hlen'
        have HLE : Hid ((∀ i, i < N → (E i).length ≤ 1048576) ∧ (∀ i, i < N → (rvT E N i).length ≤ 1048576)) := ⟨hlen, hlen'⟩
        clear hlen hlen'
        go_wp2_with fail
        refine hnew.mono ?_
        intro e w4 hnp
        clear hnew
        obtain ⟨sh, rfl, hB4, hGd⟩ := sb_new hnp
        clear hnp
        have HGD : Hid (SB sh N E lim w4 (fun k => w3.heap.size ≤ k) 0 [] (fun _ => 0)) := hGd
        have HB4 : Hid (Below w3.heap.size w3 w4) := hB4
        have HB04 : Hid (Below w.heap.size w w3) := hB04
        clear hGd hB4 hB04
        go_wp2_with fail
        go_loopg [9] no (fun g s9 wr => ∃ (t : Nat) (ol : List Nat) (lf : Nat → Int), t ≤ no ∧ g = no - t ∧ s9 = .int .i64 t ∧ Below w3.heap.size w3 wr ∧ SB sh N E lim wr (fun k => w3.heap.size ≤ k) (t * 4097) ol lf)
        case atStart => exact ⟨0, [], fun _ => 0, Nat.zero_le _, rfl, rfl, HB4.out, HGD.out.mono (fun _ h _ => h) (by omega)⟩
        case round =>
          clear HB4 HGD
          obtain ⟨t, ol, lf, ht, rfl, rfl, hB, hGd⟩ := hrel
          have HGD : Hid (SB sh N E lim wr (fun k => w3.heap.size ≤ k) (t * 4097) ol lf) := hGd
          have HB : Hid (Below w3.heap.size w3 wr) := hB
          by_cases htl : t < no
          · obtain ⟨b3, off3, rfl, hc3⟩ := HR3.out (by omega)
            have p1 : wr.cell? ⟨b3, off3 + t, none⟩ = some (.int .i32 (f t)) := Below.at hB (lt_of_cell (hc3 t htl)) (hc3 t htl)
            have htz : (t : Int) < (no : Int) := by omega
            obtain ⟨x, hx⟩ : ∃ x, x = f t := ⟨_, rfl⟩
            have hxb : -2147483648 ≤ x ∧ x ≤ 2147483647 := by rw [hx]; exact HBF.out t htl
            rw [← hx] at p1
            clear hB hGd hc3 hx
            go_upto_region 22 with fail
            obtain ⟨rt, hrt, hrl⟩ : ∃ rt : Nat, wrap32 (x % 4294967296 / 8 % ↑N) = (rt : Int) ∧ rt < N := by
              have h1 : 0 ≤ x % 4294967296 / 8 % (N : Int) := Int.emod_nonneg _ (by omega)
              have h2 : x % 4294967296 / 8 % (N : Int) < N := Int.emod_lt_of_pos _ (by omega)
              obtain ⟨rt, hr⟩ := Int.eq_ofNat_of_zero_le h1
              refine ⟨rt, ?_, by omega⟩
              rw [hr]
              unfold wrap32
              omega
            rw [hrt]
            generalize (bits BinOp.and IntKind.u32 (x % 4294967296) 1 == 1) = bk
            have hkd0 : 0 ≤ x % 4294967296 / 2 % 3 := Int.emod_nonneg _ (by omega)
            generalize x % 4294967296 / 2 % 3 = kd at hkd0
            clear hrt p1 hxb
            have hrowB : ∀ v, v < N → ∀ q ∈ rowB E bk v, q < N := fun v hv q hq => (HI.out.hE v hv q (rowB_mem.1 hq)).1
            obtain ⟨ord, hpost⟩ := post_ex hrowB hrl
            have hol : ord.length ≤ 4096 := by have := (hpost.facts hrowB hrl).len; omega
            have HPO : Hid (Post (rowB E bk) rt ord) := hpost
            clear hrowB hpost
            by_cases hk1 : kd = 1
            · subst hk1
              obtain ⟨ol2, hol2⟩ : ∃ ol2, ol2 = ol := ⟨_, rfl⟩
              obtain ⟨lf2, hlf2⟩ : ∃ lf2, lf2 = lf := ⟨_, rfl⟩
              have HSC : Hid (SB sh N E lim wr (fun k => w3.heap.size ≤ k) (t * 4097) ol2 lf2) := by rw [hol2, hlf2]; exact HGD.out
              have HBC : Hid (Below w3.heap.size w3 wr) := HB.out
              clear HGD HB hol2 hlf2
              have hck := sb_clique HSC.out HI.out (by omega) (by omega) (by omega : rt < N)
              go_wp2_with fail
              refine hck.mono ?_
              rintro e wb ⟨rfl, hSC2, hKc⟩
              clear hck
              have hBb : Below w3.heap.size w3 wb := HBC.out.trans (hKc.below HBC.out.size (fun k hk h => by omega))
              have hnew := new_any a2 (some ⟨w2'.heap.size, 0, none⟩) N c2 N E (rvT E N) lim wb (Grid.below HE.out hBb) (Grid.below HW.out hBb) hN HLE.out.1 HLE.out.2
              have HSC3 : Hid (SB sh N E lim wb (fun k => w3.heap.size ≤ k) (t * 4097 + 4097) ol2 lf2) := hSC2.mono (fun k h hk => h.elim (fun h => h) (fun h => by have := HBC.out.size; omega)) (Nat.le_refl _)
              have HBB : Hid (Below w3.heap.size w3 wb) := hBb
              clear hSC2 hKc hBb HSC HBC
              go_wp2_with fail
              refine hnew.mono ?_
              intro e wd hnp
              clear hnew
              obtain ⟨B2, rfl, _, hcq⟩ := clique_fresh hnp HI.out (by omega) (by omega : rt < N)
              clear hnp
              go_wp2_with fail
              refine hcq.mono ?_
              rintro e wf ⟨rfl, hBf⟩
              clear hcq
              have HSF : Hid (SB sh N E lim wf (fun k => w3.heap.size ≤ k) ((t + 1) * 4097) ol2 lf2) := (HSC3.out.below hBf).mono (fun _ h _ => h) (by omega)
              have HBF2 : Hid (Below w3.heap.size w3 wf) := HBB.out.trans (hBf.mono HBB.out.size)
              clear hBf HSC3 HBB
              generalize cliqueF (lim + 1) (clq E (rvT E N) rt) = y
              have hne : ((y : Int) != (y : Int)) = false := by simp
              go_wp2_with fail
              go_roundg (no - (t + 1))
              case measure => omega
              case rel => exact ⟨t + 1, ol2, lf2, by omega, rfl, by go_num, HBF2.out, HSF.out⟩
            · have k1 : (kd != 1) = true := by simp [hk1]
              clear hk1
              have hnew := new_any a2 (some ⟨w2'.heap.size, 0, none⟩) N c2 N E (rvT E N) lim wr (Grid.below HE.out HB.out) (Grid.below HW.out HB.out) hN HLE.out.1 HLE.out.2
              go_wp2_with fail
              refine hnew.mono ?_
              intro e w5 hnp
              clear hnew
              obtain ⟨fb, rfl, hB5, hSF⟩ := sb_new hnp
              clear hnp
              have hw3r := HB.out.size
              have HS5 : Hid (SB sh N E lim w5 (fun k => w3.heap.size ≤ k ∧ k < wr.heap.size) (t * 4097) ol lf) := (HGD.out.mono (fun k h hk => ⟨h, hk⟩) (Nat.le_refl _)).below hB5
              have HF5 : Hid (SB fb N E lim w5 (fun k => wr.heap.size ≤ k ∧ k < w5.heap.size) 0 [] (fun _ => 0)) := hSF.mono (fun k h hk => ⟨h, hk⟩) (Nat.le_refl _)
              have HB35 : Hid (Below w3.heap.size w3 w5) := HB.out.trans (hB5.mono HB.out.size)
              clear hSF hB5
              have hcy := sb_cycle HS5.out HI.out (by omega) (by omega : rt < N) bk ord HPO.out
              go_wp2_with fail
              refine hcy.mono ?_
              rintro e w6 ⟨rfl, hS6, hK6⟩
              clear hcy
              have HF6 : Hid (SB fb N E lim w6 (fun k => wr.heap.size ≤ k ∧ k < w5.heap.size) 0 [] (fun _ => 0)) := HF5.out.keep hK6 (fun k h _ h2 => by omega)
              have HS6 : Hid (SB sh N E lim w6 (fun k => (w3.heap.size ≤ k ∧ k < wr.heap.size) ∨ w5.heap.size ≤ k) (t * 4097) ord (posZ ord)) := hS6
              have HB36 : Hid (Below w3.heap.size w3 w6) := HB35.out.trans (hK6.below HB35.out.size (fun k hk h => by omega))
              clear hS6 hK6 HF5 HS5
              have hcy := sb_cycle HF6.out HI.out (by omega) (by omega : rt < N) bk ord HPO.out
              go_wp2_with fail
              refine hcy.mono ?_
              rintro e w7 ⟨rfl, hF7, hK7⟩
              clear hcy
              have HS7 : Hid (SB sh N E lim w7 (fun k => (w3.heap.size ≤ k ∧ k < wr.heap.size) ∨ w5.heap.size ≤ k) (t * 4097) ord (posZ ord)) := HS6.out.keep hK7 (fun k h _ h2 => by omega)
              have HF7 : Hid (SB fb N E lim w7 (fun k => (wr.heap.size ≤ k ∧ k < w5.heap.size) ∨ w6.heap.size ≤ k) 0 ord (posZ ord)) := hF7
              have HB37 : Hid (Below w3.heap.size w3 w7) := HB36.out.trans (hK7.below HB36.out.size (fun k hk h => by omega))
              clear hF7 hK7 HF6 HS6 HB36
              generalize capN (lim + 1) (cycT E rt ord) = yc
              have hne : ((yc : Int) != (yc : Int)) = false := by simp
              have hor := sb_order HS7.out
              obtain ⟨on, hon⟩ : ∃ on, on = ord.length := ⟨_, rfl⟩
              rw [← hon] at hor
              have HON : Hid (on = ord.length) := hon
              clear hon
              go_wp2_with fail
              refine hor.mono ?_
              rintro e w8 ⟨rfl, hB8, hr8⟩
              clear hor
              have hor := sb_order (HF7.out.below hB8)
              rw [← HON.out] at hor
              have HR8 : Hid (w8.rowIs w7.heap.size 21 on (fun i => .int .i32 (atN ord i))) := hr8
              have HB78 : Hid (Below w7.heap.size w7 w8) := hB8
              clear hr8 hB8
              go_wp2_with fail
              refine hor.mono ?_
              rintro e w9 ⟨rfl, hB9, hr9⟩
              clear hor
              have hsm := same_any (some ⟨w7.heap.size, 0, none⟩) (some ⟨w8.heap.size, 0, none⟩) on on on (fun i => atN ord i) w9 (Row.of_rowIs (Below.row hB9 HR8.out.lt HR8.out)) (Row.of_rowIs hr9) (by rw [HON.out]; exact hol)
              have HB79 : Hid (Below w7.heap.size w7 w9) := HB78.out.trans (hB9.mono HB78.out.size)
              clear hB9 hr9 HR8 HB78
              go_wp2_with fail
              refine hsm.mono ?_
              rintro e w10 ⟨rfl, hB10⟩
              clear hsm
              have HB710 : Hid (Below w7.heap.size w7 w10) := HB79.out.trans (hB10.mono HB79.out.size)
              clear hB10 HB79
              have hlf := sb_left (HS7.out.below HB710.out) hN
              go_wp2_with fail
              refine hlf.mono ?_
              rintro e w11 ⟨rfl, hB11, hr11⟩
              clear hlf
              have HB711 : Hid (Below w7.heap.size w7 w11) := HB710.out.trans (hB11.mono HB710.out.size)
              have hlf := sb_left (HF7.out.below HB711.out) hN
              have HR11 : Hid (w11.rowIs w10.heap.size 21 N (fun i => .int .i32 (posZ ord i))) := hr11
              clear hr11 hB11 HB710
              go_wp2_with fail
              refine hlf.mono ?_
              rintro e w12 ⟨rfl, hB12, hr12⟩
              clear hlf
              have hsm := same_any (some ⟨w10.heap.size, 0, none⟩) (some ⟨w11.heap.size, 0, none⟩) N N N (posZ ord) w12 (Row.of_rowIs (Below.row hB12 HR11.out.lt HR11.out)) (Row.of_rowIs hr12) hN
              have HB712 : Hid (Below w7.heap.size w7 w12) := HB711.out.trans (hB12.mono HB711.out.size)
              clear hB12 hr12 HR11 HB711
              go_wp2_with fail
              refine hsm.mono ?_
              rintro e wa ⟨rfl, hBa⟩
              clear hsm
              have hB7a : Below w7.heap.size w7 wa := HB712.out.trans (hBa.mono HB712.out.size)
              have HSC : Hid (SB sh N E lim wa (fun k => w3.heap.size ≤ k) (t * 4097) ord (posZ ord)) := (HS7.out.below hB7a).mono (fun k h _ => by have := HB35.out.size; omega) (Nat.le_refl _)
              have HBC : Hid (Below w3.heap.size w3 wa) := HB37.out.trans (hB7a.mono HB37.out.size)
              clear hBa hB7a HB712 HS7 HF7 HB35 HB37 HGD HB
              by_cases hk0 : kd = 0
              · subst hk0
                have HSF : Hid (SB sh N E lim wa (fun k => w3.heap.size ≤ k) ((t + 1) * 4097) ord (posZ ord)) := HSC.out.mono (fun _ h _ => h) (by omega)
                clear HSC
                go_wp2_with fail
                go_roundg (no - (t + 1))
                case measure => omega
                case rel => exact ⟨t + 1, ord, posZ ord, by omega, rfl, by go_num, HBC.out, HSF.out⟩
              · have k0 : (kd != 0) = true := by simp [hk0]
                clear hk0
                obtain ⟨lf2, hlf2⟩ : ∃ lf2, lf2 = posZ ord := ⟨_, rfl⟩
                rw [← hlf2] at HSC
                obtain ⟨ol2, hol2⟩ : ∃ ol2, ol2 = ord := ⟨_, rfl⟩
                rw [← hol2] at HSC
                clear hlf2 hol2
                have hck := sb_clique HSC.out HI.out (by omega) (by omega) (by omega : rt < N)
                go_wp2_with fail
                refine hck.mono ?_
                rintro e wb ⟨rfl, hSC2, hKc⟩
                clear hck
                have hBb : Below w3.heap.size w3 wb := HBC.out.trans (hKc.below HBC.out.size (fun k hk h => by omega))
                have hnew := new_any a2 (some ⟨w2'.heap.size, 0, none⟩) N c2 N E (rvT E N) lim wb (Grid.below HE.out hBb) (Grid.below HW.out hBb) hN HLE.out.1 HLE.out.2
                have HSC3 : Hid (SB sh N E lim wb (fun k => w3.heap.size ≤ k) (t * 4097 + 4097) ol2 lf2) := hSC2.mono (fun k h hk => h.elim (fun h => h) (fun h => by have := HBC.out.size; omega)) (Nat.le_refl _)
                have HBB : Hid (Below w3.heap.size w3 wb) := hBb
                clear hSC2 hKc hBb HSC HBC
                go_wp2_with fail
                refine hnew.mono ?_
                intro e wd hnp
                clear hnew
                obtain ⟨B2, rfl, _, hcq⟩ := clique_fresh hnp HI.out (by omega) (by omega : rt < N)
                clear hnp
                go_wp2_with fail
                refine hcq.mono ?_
                rintro e wf ⟨rfl, hBf⟩
                clear hcq
                have HSF : Hid (SB sh N E lim wf (fun k => w3.heap.size ≤ k) ((t + 1) * 4097) ol2 lf2) := (HSC3.out.below hBf).mono (fun _ h _ => h) (by omega)
                have HBF2 : Hid (Below w3.heap.size w3 wf) := HBB.out.trans (hBf.mono HBB.out.size)
                clear hBf HSC3 HBB
                generalize cliqueF (lim + 1) (clq E (rvT E N) rt) = y
                have hne : ((y : Int) != (y : Int)) = false := by simp
                go_wp2_with fail
                go_roundg (no - (t + 1))
                case measure => omega
                case rel => exact ⟨t + 1, ol2, lf2, by omega, rfl, by go_num, HBF2.out, HSF.out⟩
          · obtain rfl : t = no := by omega
            clear hB hGd
            go_wp2_with fail
            go_ret
            exact ⟨rfl, HB04.out.trans (HB.out.mono HB04.out.size)⟩
      · have dT : decide ((1048576 : Int) < T + 4 * (no : Int)) = true := by simp; omega
        go_wp2_with fail
        go_ret
        exact ⟨rfl, Below.refl _ _⟩
    · have d1 : decide ((256 : Int) < (no : Int)) = true := by simp; omega
      clear hL1 h bz
      go_wp2_with fail
      go_ret
      exact ⟨rfl, Below.refl _ _⟩
  · have d0 : decide ((4096 : Int) < (N : Int)) = true := by simp; omega
    clear hL1 h bz
    go_wp2_with fail
    go_ret
    exact ⟨rfl, Below.refl _ _⟩
end Go.Proofs.Qxb6000043a
