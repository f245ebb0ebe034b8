import Derived.Test.Qxb6000043aPosts
import Derived.Test.Qxb6000043aCliqL
namespace Go.Proofs.Qxb6000043a
open Go.RowKit

/-- The sums over the first t edges of u. -/
def fsum (E : Nat → List Nat) (r : Nat) (pos : Nat → Nat) (u t : Nat) : Nat := (((E u).take t).map (fw E r pos u)).sum
def gsum (E : Nat → List Nat) (r : Nat) (pos : Nat → Nat) (u t : Nat) : Nat := (((E u).take t).map (gw E r pos u)).sum
theorem fsum_zero (E : Nat → List Nat) (r : Nat) (pos : Nat → Nat) (u : Nat) : fsum E r pos u 0 = 0 := by simp [fsum]
theorem gsum_zero (E : Nat → List Nat) (r : Nat) (pos : Nat → Nat) (u : Nat) : gsum E r pos u 0 = 0 := by simp [gsum]
theorem fsum_succ {E : Nat → List Nat} {r : Nat} {pos : Nat → Nat} {u t : Nat} (h : t < (E u).length) : fsum E r pos u (t + 1) = fsum E r pos u t + fw E r pos u ((E u).getD t 0) := by
  have e : (E u).getD t 0 = (E u)[t] := by simp [h]
  rw [fsum, List.take_succ_eq_append_getElem h, List.map_append, List.sum_append, e]
  simp [fsum]
theorem gsum_succ {E : Nat → List Nat} {r : Nat} {pos : Nat → Nat} {u t : Nat} (h : t < (E u).length) : gsum E r pos u (t + 1) = gsum E r pos u t + gw E r pos u ((E u).getD t 0) := by
  have e : (E u).getD t 0 = (E u)[t] := by simp [h]
  rw [gsum, List.take_succ_eq_append_getElem h, List.map_append, List.sum_append, e]
  simp [gsum]
theorem fsum_all (E : Nat → List Nat) (r : Nat) (pos : Nat → Nat) (u : Nat) : fsum E r pos u (E u).length = FF E r pos u := by rw [fsum, List.take_length, FF_eq]
theorem gsum_all (E : Nat → List Nat) (r : Nat) (pos : Nat → Nat) (u : Nat) : gsum E r pos u (E u).length = GG E r pos u := by rw [gsum, List.take_length, GG_eq]
theorem cap_one {M a : Nat} (hM : 1 ≤ M) : capN M (capN M a + 1) = capN M (a + 1) := by
  have := cap_cap M a 1
  rwa [capN_lo (z := 1) hM] at this

structure SufM (w0 w : World) (N gf gg gd : Nat) (F G : Nat → Nat) (D : Nat → Bool) : Prop where
  below : Below w0.heap.size w0 w
  f : w.rowIs gf 3 N (fun x => .int .i64 (F x : Nat))
  g : w.rowIs gg 3 N (fun x => .int .i64 (G x : Nat))
  d : w.rowIs gd 4 N (fun x => .bool (D x))
theorem SufM.drewN {w0 w : World} {N gf gg gd : Nat} {F G : Nat → Nat} {D : Nat → Bool} (h : SufM w0 w N gf gg gd F G D) (n : Nat) : SufM w0 (w.drewN n) N gf gg gd F G D := ⟨below_drewN h.below n, h.f, h.g, h.d⟩
theorem SufM.setf {w0 w : World} {N gf gg gd : Nat} {F G : Nat → Nat} {D : Nat → Bool} (h : SufM w0 w N gf gg gd F G D) (h1 : w0.heap.size ≤ gf) (hne : gf ≠ gg) (x v : Nat) : SufM w0 (w.setCell ⟨gf, x, none⟩ (.int .i64 (v : Nat))) N gf gg gd (updF F x v) G D :=
  ⟨h.below.setCell h1 _, (h.f.set x _).congr (fun j _ => by by_cases e : j = x <;> simp [updF, e]), h.g.setOther (fun e => hne e.symm) _, h.d.setOther (ne_type h.d h.f (by decide)) _⟩
theorem SufM.setg {w0 w : World} {N gf gg gd : Nat} {F G : Nat → Nat} {D : Nat → Bool} (h : SufM w0 w N gf gg gd F G D) (h1 : w0.heap.size ≤ gg) (hne : gf ≠ gg) (x v : Nat) : SufM w0 (w.setCell ⟨gg, x, none⟩ (.int .i64 (v : Nat))) N gf gg gd F (updF G x v) D :=
  ⟨h.below.setCell h1 _, h.f.setOther hne _, (h.g.set x _).congr (fun j _ => by by_cases e : j = x <;> simp [updF, e]), h.d.setOther (ne_type h.d h.g (by decide)) _⟩
theorem SufM.setd {w0 w : World} {N gf gg gd : Nat} {F G : Nat → Nat} {D : Nat → Bool} (h : SufM w0 w N gf gg gd F G D) (h1 : w0.heap.size ≤ gd) (x : Nat) : SufM w0 (w.setCell ⟨gd, x, none⟩ (.bool true)) N gf gg gd F G (updF D x true) :=
  ⟨h.below.setCell h1 _, h.f.setOther (ne_type h.f h.d (by decide)) _, h.g.setOther (ne_type h.g h.d (by decide)) _, (h.d.set x _).congr (fun j _ => by by_cases e : j = x <;> simp [updF, e])⟩

/-- Whoever is done holds the right counts, but for those of Sx. -/
def SufOK (E : Nat → List Nat) (r : Nat) (pos : Nat → Nat) (M N : Nat) (Sx : Nat → Prop) (F G : Nat → Nat) (D : Nat → Bool) : Prop :=
  ∀ x, x < N → D x = true → (F x = capN M (FF E r pos x) ∧ G x = capN M (GG E r pos x)) ∨ Sx x
def SufPost (w0 : World) (N gf gg gd : Nat) (E : Nat → List Nat) (r : Nat) (pos : Nat → Nat) (M : Nat) (Sx : Nat → Prop) (u : Nat) (D0 : Nat → Bool) (e : Ending) (w' : World) : Prop :=
  e = .returned (.tuple #[]) ∧ ∃ F G D, SufM w0 w' N gf gg gd F G D ∧ SufOK E r pos M N Sx F G D ∧ ∀ x, D0 x = true ∨ x = u → D x = true

theorem sufok_end {E : Nat → List Nat} {r : Nat} {pos : Nat → Nat} {M N : Nat} {Sx : Nat → Prop} {F G : Nat → Nat} {D : Nat → Bool} {u fu gu : Nat} (h : SufOK E r pos M N (fun x => Sx x ∨ x = u) F G D) (hf : fu = capN M (FF E r pos u)) (hg : gu = capN M (GG E r pos u)) :
    SufOK E r pos M N Sx (updF F u fu) (updF G u gu) D := by
  intro x hx hd
  by_cases e : x = u
  · subst e
    exact .inl ⟨by rw [updF_same, hf], by rw [updF_same, hg]⟩
  · rw [updF_other _ _ e, updF_other _ _ e]
    rcases h x hx hd with h1 | h1 | h1
    · exact .inl h1
    · exact .inr h1
    · exact absurd h1 e

set_option maxRecDepth 100000 in
set_option maxHeartbeats 8000000 in
theorem suffix_any (a : Option Addr) (N c gp gf gg gd : Nat) (E : Nat → List Nat) (r M : Nat) (pos : Nat → Nat) (w0 : World) (hE : GridN w0 a N E) (hN : N ≤ 4096) (rE : ∀ v, v < N → ∀ q ∈ E v, q < N) (lE : ∀ v, v < N → (E v).length ≤ 1048576)
    (hP : w0.rowIs gp 3 N (fun x => .int .i64 (pos x : Nat))) (hM : M ≤ 9223372036854775807) (hM1 : 1 ≤ M) (h1 : w0.heap.size ≤ gf) (h2 : w0.heap.size ≤ gg) (h3 : w0.heap.size ≤ gd) (hne : gf ≠ gg) (hr : r < N) :
    ∀ (n u : Nat) (Sx : Nat → Prop) (F G : Nat → Nat) (D : Nat → Bool) (w : World), pos u = n → u < N → (∀ x, Sx x → pos u < pos x) → SufM w0 w N gf gg gd F G D → SufOK E r pos M N Sx F G D →
      Calls Try.prog 31 #[.slice a N c, .int .i32 r, .int .i32 u, .slice (some ⟨gp, 0, none⟩) N N, .int .i64 M, .slice (some ⟨gf, 0, none⟩) N N, .slice (some ⟨gg, 0, none⟩) N N, .slice (some ⟨gd, 0, none⟩) N N] w (SufPost w0 N gf gg gd E r pos M Sx u D) := by
  intro n
  induction n using Nat.strongRecOn with
  | ind n ih =>
    intro u Sx F G D w hn hu hSx hS hOK
    have HIH : Hid (∀ m, m < n → ∀ (u : Nat) (Sx : Nat → Prop) (F G : Nat → Nat) (D : Nat → Bool) (w : World), pos u = m → u < N → (∀ x, Sx x → pos u < pos x) → SufM w0 w N gf gg gd F G D → SufOK E r pos M N Sx F G D →
      Calls Try.prog 31 #[.slice a N c, .int .i32 r, .int .i32 u, .slice (some ⟨gp, 0, none⟩) N N, .int .i64 M, .slice (some ⟨gf, 0, none⟩) N N, .slice (some ⟨gg, 0, none⟩) N N, .slice (some ⟨gd, 0, none⟩) N N] w (SufPost w0 N gf gg gd E r pos M Sx u D)) := ih
    obtain ⟨A, C, hR, hx⟩ := hE
    obtain ⟨b, off, rfl, hc⟩ := hR (by omega)
    have q0 : w0.cell? ⟨b, off + u, none⟩ = some (.slice (A u) (E u).length (C u)) := hc u hu
    have qr : Row w0 (A u) (E u).length (fun i => .int .i32 (atN (E u) i)) := hx u hu
    generalize A u = av at q0 qr
    generalize C u = cv' at q0
    have huz : (u : Int) < (N : Int) := by omega
    have hlu := lE u hu
    have hS1 := hS.setd h3 u
    obtain ⟨vs, p1⟩ : ∃ vs, w.cell? ⟨gd, u, none⟩ = some vs := ⟨_, hS.d.cell hu⟩
    have p2 : w.frozen? ⟨gd, u, none⟩ = false := hS.d.frozen u
    have HRE : Hid (∀ q ∈ E u, q < N) := rE u hu
    have HPO : Hid (w0.rowIs gp 3 N (fun x => .int .i64 (pos x : Nat))) := hP
    have HSX : Hid ((∀ x, Sx x → pos u < pos x) ∧ pos u = n) := ⟨hSx, hn⟩
    have HOK : Hid (SufOK E r pos M N (fun x => Sx x ∨ x = u) F G (updF D u true)) := by
      intro x hx hd
      by_cases e : x = u
      · exact .inr (.inr e)
      · rw [updF_other _ _ e] at hd
        exact (hOK x hx hd).imp id .inl
    have HDU : Hid (∀ x, D x = true ∨ x = u → updF D u true x = true) := by
      intro x hx
      by_cases e : x = u
      · subst e; exact updF_same _ _ _
      · rw [updF_other _ _ e]; exact hx.resolve_right e
    obtain ⟨D0, hD0⟩ : ∃ D0, D0 = D := ⟨_, rfl⟩
    rw [← hD0] at HDU ⊢
    rw [← hD0] at hS1 HOK
    generalize updF D0 u true = D1 at hS1 HOK HDU
    clear hD0
    clear ih hc hR hx hS hOK rE lE hP hSx hn
    go_enter Try.func31, Try.ntmps31
    go_upto_region 1 with fail
    generalize w.setCell ⟨gd, u, none⟩ (.bool true) = w1 at hS1 ⊢
    have HS1 : Hid (SufM w0 w1 N gf gg gd F G D1) := hS1
    clear hS1 p1 p2
    go_wp2_with fail
    go_loopg [16, 17, 18] (E u).length (fun g s16 s17 s18 wr => ∃ (t : Nat) (F G : Nat → Nat) (D : Nat → Bool), t ≤ (E u).length ∧ g = (E u).length - t ∧ s18 = .int .i64 t ∧ s16 = .int .i64 ((capN M (fsum E r pos u t) : Nat) : Int) ∧ s17 = .int .i64 ((capN M (gsum E r pos u t) : Nat) : Int) ∧ SufM w0 wr N gf gg gd F G D ∧ SufOK E r pos M N (fun x => Sx x ∨ x = u) F G D ∧ ∀ x, D0 x = true ∨ x = u → D x = true)
    case atStart => exact ⟨0, F, G, D1, Nat.zero_le _, rfl, rfl, by rw [fsum_zero, capN_lo (Nat.zero_le _)]; rfl, by rw [gsum_zero, capN_lo (Nat.zero_le _)]; rfl, HS1.out, HOK.out, HDU.out⟩
    case round =>
      clear HS1 HOK HDU
      obtain ⟨t, F, G, D, ht, rfl, rfl, rfl, rfl, hS, hOK, hDu⟩ := hrel
      have q1 : wr.cell? ⟨b, off + u, none⟩ = some (.slice av (E u).length cv') := Below.at hS.below (lt_of_cell q0) q0
      obtain ⟨fu, hfu⟩ : ∃ fu, fu = capN M (fsum E r pos u t) := ⟨_, rfl⟩
      obtain ⟨gu, hgu⟩ : ∃ gu, gu = capN M (gsum E r pos u t) := ⟨_, rfl⟩
      have hful : fu ≤ M := by rw [hfu]; exact capN_le _ _
      have hgul : gu ≤ M := by rw [hgu]; exact capN_le _ _
      rw [← hfu, ← hgu]
      have HFU : Hid (fu = capN M (fsum E r pos u t)) := hfu
      have HGU : Hid (gu = capN M (gsum E r pos u t)) := hgu
      have HOK : Hid (SufOK E r pos M N (fun x => Sx x ∨ x = u) F G D) := hOK
      have HDU : Hid (∀ x, D0 x = true ∨ x = u → D x = true) := hDu
      clear hfu hgu hOK hDu
      by_cases htl : t < (E u).length
      · obtain ⟨b1, off1, rfl, hc1⟩ := qr (Nat.lt_of_le_of_lt (Nat.zero_le _) htl)
        obtain ⟨y, hy⟩ : ∃ y, y = (E u).getD t 0 := ⟨_, rfl⟩
        have hyN : y < N := by rw [hy]; have := HRE.out ((E u)[t]) (List.getElem_mem htl); simpa [htl] using this
        have p1 : wr.cell? ⟨b1, off1 + t, none⟩ = some (.int .i32 (y : Int)) := by rw [hy]; exact Below.at hS.below (lt_of_cell (hc1 t htl)) (hc1 t htl)
        have htz : (t : Int) < (((E u).length : Nat) : Int) := by omega
        have hyz : (y : Int) < (N : Int) := by omega
        have HY : Hid (y = (E u).getD t 0) := hy
        clear hc1 hy qr
        by_cases hyr : y = r
        · have hd : ((y : Int) == (r : Int)) = true := by simp [hyr]
          have hcall := capAdd_any M fu 1 wr hM hful hM1
          have HS : Hid (SufM w0 wr N gf gg gd F G D) := hS
          have HYR : Hid (y = r) := hyr
          clear hS hyr
          go_wp2_with fail
          refine hcall.mono ?_
          rintro e w2 ⟨rfl, rfl⟩
          clear hcall
          go_wp2_with fail
          go_roundg ((E u).length - (t + 1))
          case measure => omega
          case rel =>
            refine ⟨t + 1, F, G, D, by omega, rfl, by go_num, ?_, ?_, HS.out, HOK.out, HDU.out⟩
            · rw [HFU.out, cap_one hM1, fsum_succ htl, ← HY.out, fw, if_pos HYR.out]
            · rw [HGU.out, gsum_succ htl, ← HY.out, gw, if_pos HYR.out, Nat.add_zero]
        · have hd : ((y : Int) == (r : Int)) = false := by simp; omega
          have p2 : wr.cell? ⟨gp, y, none⟩ = some (.int .i64 (pos y : Nat)) := Below.at hS.below HPO.out.lt (HPO.out.cell hyN)
          have p3 : wr.cell? ⟨gp, u, none⟩ = some (.int .i64 (pos u : Nat)) := Below.at hS.below HPO.out.lt (HPO.out.cell hu)
          have HYR : Hid (y ≠ r) := hyr
          clear hyr
          by_cases hlt : pos y < pos u
          · have HLT : Hid (pos y < pos u) := hlt
            have dlt : (pos y : Int) < (pos u : Int) := by omega
            have HNS : Hid (¬ (Sx y ∨ y = u)) := by
              rintro (h | h)
              · have := HSX.out.1 y h; omega
              · subst h; omega
            obtain ⟨pu, hpu⟩ : ∃ pu, pu = pos u := ⟨_, rfl⟩
            obtain ⟨py, hpy⟩ : ∃ py, py = pos y := ⟨_, rfl⟩
            rw [← hpu] at p3 dlt
            rw [← hpy] at p2 dlt
            have p4 : wr.cell? ⟨gd, y, none⟩ = some (.bool (D y)) := hS.d.cell hyN
            clear hlt hpu hpy
            cases hDy : D y with
            | true =>
              rw [hDy] at p4
              obtain ⟨eF, eG⟩ := (HOK.out y hyN hDy).resolve_right HNS.out
              have p5 : wr.cell? ⟨gf, y, none⟩ = some (.int .i64 (F y : Nat)) := hS.f.cell hyN
              have p6 : wr.cell? ⟨gg, y, none⟩ = some (.int .i64 (G y : Nat)) := hS.g.cell hyN
              obtain ⟨fy, hfy⟩ : ∃ fy, fy = F y := ⟨_, rfl⟩
              obtain ⟨gy, hgy⟩ : ∃ gy, gy = G y := ⟨_, rfl⟩
              rw [← hfy] at p5 eF
              rw [← hgy] at p6 eG
              have hfyl : fy ≤ M := by rw [eF]; exact capN_le _ _
              have hgyl : gy ≤ M := by rw [eG]; exact capN_le _ _
              have c0 : ∀ w, Calls Try.prog 32 #[.int .i64 fu, .int .i64 fy, .int .i64 M] w fun e w' => e = .returned (.int .i64 ((capN M (fu + fy) : Nat) : Int)) ∧ w = w' := fun w => capAdd_any M fu fy w hM hful hfyl
              have c1 : ∀ (x y : Nat) (w : World), x ≤ M → y ≤ M → Calls Try.prog 32 #[.int .i64 x, .int .i64 y, .int .i64 M] w fun e w' => e = .returned (.int .i64 ((capN M (x + y) : Nat) : Int)) ∧ w' = w := fun x y w hx hy => (capAdd_any M x y w hM hx hy).mono (fun e w' h => ⟨h.1, h.2.symm⟩)
              have HE1 : Hid (fy = capN M (FF E r pos y)) := eF
              have HE2 : Hid (gy = capN M (GG E r pos y)) := eG
              have HS : Hid (SufM w0 wr N gf gg gd F G D) := hS
              clear hS hDy eF eG hfy hgy
              go_upto_region 8 with fail
              go_quiet (fail)
              go_wp2_with fail
              refine (c0 _).mono ?_
              rintro e w2 ⟨rfl, rfl⟩
              clear c0
              have p5' : (wr.drewN nq).cell? ⟨gf, y, none⟩ = some (.int .i64 (fy : Nat)) := p5
              have p6' : (wr.drewN nq).cell? ⟨gg, y, none⟩ = some (.int .i64 (gy : Nat)) := p6
              have HS2 : Hid (SufM w0 (wr.drewN nq) N gf gg gd F G D) := HS.out.drewN nq
              clear p1 p2 p3 p4 p5 p6 q1 HS
              generalize wr.drewN nq = w5 at p5' p6' HS2 ⊢
              go_upto_region 12 with fail
              go_quiet (first | (go_at_call 32; refine Calls.quiet_of_same (c1 _ _ _ ?_ ?_) <;> first | assumption | exact capN_le _ _))
              go_wp2_with fail
              go_roundg ((E u).length - (t + 1))
              case measure => omega
              case rel =>
                refine ⟨t + 1, F, G, D, by omega, rfl, by go_num, ?_, ?_, HS2.out.drewN _, HOK.out, HDU.out⟩
                · rw [HFU.out, HE1.out, cap_cap, fsum_succ htl, ← HY.out, fw, if_neg HYR.out, if_pos HLT.out]
                · rw [HGU.out, HE1.out, HE2.out, cap_cap M (GG E r pos y), cap_cap, gsum_succ htl, ← HY.out, gw, if_neg HYR.out, if_pos HLT.out]
            | false =>
              rw [hDy] at p4
              have HS : Hid (SufM w0 wr N gf gg gd F G D) := hS
              have hcall : ∀ k, Calls Try.prog 31 #[.slice (some ⟨b, off, none⟩) N c, .int .i32 r, .int .i32 y, .slice (some ⟨gp, 0, none⟩) N N, .int .i64 M, .slice (some ⟨gf, 0, none⟩) N N, .slice (some ⟨gg, 0, none⟩) N N, .slice (some ⟨gd, 0, none⟩) N N] (wr.drewN k) (SufPost w0 N gf gg gd E r pos M (fun x => Sx x ∨ x = u) y D) := fun k =>
                HIH.out (pos y) (by rw [← HSX.out.2]; exact HLT.out) y (fun x => Sx x ∨ x = u) F G D (wr.drewN k) rfl hyN (by
                  rintro x (h | h)
                  · have := HSX.out.1 x h; have := HLT.out; omega
                  · subst h; exact HLT.out) (HS.out.drewN k) HOK.out
              clear hS hDy
              go_upto_region 8 with fail
              go_quiet (fail)
              go_wp2_with fail
              refine (hcall _).mono ?_
              rintro e w2 ⟨rfl, F2, G2, D2, hS, hOK2, hD2⟩
              have hDy : D2 y = true := hD2 y (.inr rfl)
              clear hcall HS HOK p2 p3 p4 p1 q1
              obtain ⟨eF, eG⟩ := (hOK2 y hyN hDy).resolve_right HNS.out
              have HOK : Hid (SufOK E r pos M N (fun x => Sx x ∨ x = u) F2 G2 D2) := hOK2
              have p5 : w2.cell? ⟨gf, y, none⟩ = some (.int .i64 (F2 y : Nat)) := hS.f.cell hyN
              have p6 : w2.cell? ⟨gg, y, none⟩ = some (.int .i64 (G2 y : Nat)) := hS.g.cell hyN
              obtain ⟨fy, hfy⟩ : ∃ fy, fy = F2 y := ⟨_, rfl⟩
              obtain ⟨gy, hgy⟩ : ∃ gy, gy = G2 y := ⟨_, rfl⟩
              rw [← hfy] at p5 eF
              rw [← hgy] at p6 eG
              have hfyl : fy ≤ M := by rw [eF]; exact capN_le _ _
              have hgyl : gy ≤ M := by rw [eG]; exact capN_le _ _
              have c0 : ∀ w, Calls Try.prog 32 #[.int .i64 fu, .int .i64 fy, .int .i64 M] w fun e w' => e = .returned (.int .i64 ((capN M (fu + fy) : Nat) : Int)) ∧ w = w' := fun w => capAdd_any M fu fy w hM hful hfyl
              have c1 : ∀ (x y : Nat) (w : World), x ≤ M → y ≤ M → Calls Try.prog 32 #[.int .i64 x, .int .i64 y, .int .i64 M] w fun e w' => e = .returned (.int .i64 ((capN M (x + y) : Nat) : Int)) ∧ w' = w := fun x y w hx hy => (capAdd_any M x y w hM hx hy).mono (fun e w' h => ⟨h.1, h.2.symm⟩)
              have HE1 : Hid (fy = capN M (FF E r pos y)) := eF
              have HE2 : Hid (gy = capN M (GG E r pos y)) := eG
              have HS : Hid (SufM w0 w2 N gf gg gd F2 G2 D2) := hS
              have HDU2 : Hid (∀ x, D0 x = true ∨ x = u → D2 x = true) := fun x hx => hD2 x (.inl (HDU.out x hx))
              clear hS hDy eF eG hfy hgy hOK2 HDU hD2
              go_wp2_with fail
              refine (c0 _).mono ?_
              rintro e w3 ⟨rfl, rfl⟩
              clear c0
              go_upto_region 12 with fail
              go_quiet (first | (go_at_call 32; refine Calls.quiet_of_same (c1 _ _ _ ?_ ?_) <;> first | assumption | exact capN_le _ _))
              go_wp2_with fail
              go_roundg ((E u).length - (t + 1))
              case measure => omega
              case rel =>
                refine ⟨t + 1, F2, G2, D2, by omega, rfl, by go_num, ?_, ?_, HS.out.drewN _, HOK.out, HDU2.out⟩
                · rw [HFU.out, HE1.out, cap_cap, fsum_succ htl, ← HY.out, fw, if_neg HYR.out, if_pos HLT.out]
                · rw [HGU.out, HE1.out, HE2.out, cap_cap M (GG E r pos y), cap_cap, gsum_succ htl, ← HY.out, gw, if_neg HYR.out, if_pos HLT.out]
          · have HLT : Hid (¬ pos y < pos u) := hlt
            have dlt : (pos u : Int) ≤ (pos y : Int) := by omega
            obtain ⟨pu, hpu⟩ : ∃ pu, pu = pos u := ⟨_, rfl⟩
            obtain ⟨py, hpy⟩ : ∃ py, py = pos y := ⟨_, rfl⟩
            rw [← hpu] at p3 dlt
            rw [← hpy] at p2 dlt
            have HS : Hid (SufM w0 wr N gf gg gd F G D) := hS
            clear hS hlt hpu hpy
            go_upto_region 8 with fail
            go_quiet (fail)
            go_wp2_with fail
            go_roundg ((E u).length - (t + 1))
            case measure => omega
            case rel =>
              refine ⟨t + 1, F, G, D, by omega, rfl, by go_num, ?_, ?_, HS.out.drewN _, HOK.out, HDU.out⟩
              · rw [HFU.out, fsum_succ htl, ← HY.out, fw, if_neg HYR.out, if_neg HLT.out, Nat.add_zero]
              · rw [HGU.out, gsum_succ htl, ← HY.out, gw, if_neg HYR.out, if_neg HLT.out, Nat.add_zero]
      · obtain rfl : t = (E u).length := by omega
        have hS1 := hS.setf h1 hne u fu
        have hS2 := hS1.setg h2 hne u gu
        obtain ⟨v1, p1⟩ : ∃ v1, wr.cell? ⟨gf, u, none⟩ = some v1 := ⟨_, hS.f.cell hu⟩
        have p2 : wr.frozen? ⟨gf, u, none⟩ = false := hS.f.frozen u
        obtain ⟨v2, p3⟩ : ∃ v2, (wr.setCell ⟨gf, u, none⟩ (.int .i64 (fu : Nat))).cell? ⟨gg, u, none⟩ = some v2 := ⟨_, hS1.g.cell hu⟩
        have p4 : (wr.setCell ⟨gf, u, none⟩ (.int .i64 (fu : Nat))).frozen? ⟨gg, u, none⟩ = false := hS1.g.frozen u
        have HS : Hid (SufM w0 ((wr.setCell ⟨gf, u, none⟩ (.int .i64 (fu : Nat))).setCell ⟨gg, u, none⟩ (.int .i64 (gu : Nat))) N gf gg gd (updF F u fu) (updF G u gu) D) := hS2
        clear hS hS1 hS2 qr
        go_wp2_with fail
        refine bodyPost_end (results_none rfl _ _ _) rfl ?_
        exact ⟨rfl, _, _, _, HS.out, sufok_end HOK.out (by rw [HFU.out, fsum_all]) (by rw [HGU.out, gsum_all]), HDU.out⟩
end Go.Proofs.Qxb6000043a
