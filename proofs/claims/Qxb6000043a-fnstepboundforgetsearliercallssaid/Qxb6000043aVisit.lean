import Derived.Test.Qxb6000043aReverse
import Derived.Test.Qxb6000043aVis
import Derived.Test.Qxb6000043aPaths
import Derived.Deep.DeepCutAuto
import Derived.Deep.CutBlock
namespace Go.Proofs.Qxb6000043a
open Go.RowKit

/-- A row in the order in which the search takes it. -/
def rowB (E : Nat → List Nat) (bk : Bool) (v : Nat) : List Nat := if bk then (E v).reverse else E v
theorem rowB_len (E : Nat → List Nat) (bk : Bool) (v : Nat) : (rowB E bk v).length = (E v).length := by cases bk <;> simp [rowB]
theorem rowB_mem {E : Nat → List Nat} {bk : Bool} {v q : Nat} : q ∈ rowB E bk v ↔ q ∈ E v := by cases bk <;> simp [rowB]
theorem rowB_fwd {E : Nat → List Nat} {v t : Nat} : atN (E v) t = ((rowB E false v).getD t 0 : Nat) := by simp [atN, rowB]
theorem rowB_bwd {E : Nat → List Nat} {v t : Nat} (h : t < (E v).length) : atN (E v) ((E v).length - 1 - t) = ((rowB E true v).getD t 0 : Nat) := by
  have h2 : (E v).length - 1 - t < (E v).length := by omega
  simp [atN, rowB, h, h2, List.getElem_reverse]

theorem VisL.len {R : Nat → List Nat} {n : Nat} {ws : List Nat} {s s' : VSt} (h : VisL R n ws s s') : s.ord.length ≤ s'.ord.length := by
  obtain ⟨new, f⟩ := h.facts
  rw [f.ord, List.length_append]; omega

structure VMem (w0 w : World) (N gs : Nat) (s : VSt) (ordV : Value) : Prop where
  below : Below w0.heap.size w0 w
  seen : w.rowIs gs 4 N (fun x => .bool (s.seen x))
  ord : w.ownsRow w0.heap.size 21 1 ordV s.ord.length (cv s.ord)

def VisitPost (w0 : World) (N gs : Nat) (s : VSt) (e : Ending) (w' : World) : Prop := ∃ a c, e = .returned (.slice a s.ord.length c) ∧ VMem w0 w' N gs s (.slice a s.ord.length c)

theorem VMem.mark {w0 w : World} {N gs : Nat} {s : VSt} {ordV : Value} (h : VMem w0 w N gs s ordV) (hg : w0.heap.size ≤ gs) (v : Nat) : VMem w0 (w.setCell ⟨gs, v, none⟩ (.bool true)) N gs (s.mark v) ordV := by
  refine ⟨h.below.setCell hg _, (h.seen.set v _).congr (fun j _ => by by_cases e : j = v <;> simp [VSt.mark, e]), ownsRow_setCell_other h.ord (fun e => ?_) _⟩
  rcases h.ord.2 with ⟨e1, _⟩ | ⟨g, cap, cur, e1, _, hg', _⟩
  · rw [e1] at e; cases e
  · rw [e1] at e
    cases e
    obtain ⟨c, h1, _⟩ := h.seen
    rw [h1] at hg'
    simp at hg'

theorem VMem.form {w0 w : World} {N gs : Nat} {s : VSt} {ordV : Value} (h : VMem w0 w N gs s ordV) : ∃ a c, ordV = .slice a s.ord.length c := by
  rcases h.ord.2 with ⟨e1, e2⟩ | ⟨g, cap, cur, e1, _⟩
  · exact ⟨none, 0, by rw [e1, e2]⟩
  · exact ⟨_, cap, e1⟩

theorem VMem.appended {w0 w w1 : World} {N gs : Nat} {s : VSt} {ordV : Value} (h : VMem w0 w N gs s ordV) {v g cap : Nat} {o : Obj} (hown : w1.ownsRow w0.heap.size 21 1 (.slice (some ⟨g, 0, none⟩) (s.ord.length + 1) cap) (s.ord.length + 1) (cv s.ord ++ [.int .i32 (v : Int)])) (hg : (w.alloc o).grownBy w1 ordV.ownBlock) :
    VMem w0 w1 N gs (s.leave v) (.slice (some ⟨g, 0, none⟩) (s.leave v).ord.length cap) := by
  have hl : (s.leave v).ord.length = s.ord.length + 1 := by simp [VSt.leave]
  have hne : some gs ≠ ordV.ownBlock := by
    intro e
    rcases h.ord.2 with ⟨e1, _⟩ | ⟨g', cap', cur, e1, _, hg', _⟩
    · rw [e1] at e; cases e
    · rw [e1] at e
      cases e
      obtain ⟨c, h1, _⟩ := h.seen
      rw [h1] at hg'
      simp at hg'
  have hlo := h.ord.lt
  refine ⟨(h.below.trans ((Below.refl _ _).alloc h.below.size o)).trans ⟨hg.os, hg.tape, hg.output, hg.size, fun k hk => hg.block k (by have := h.below.size; simp; omega) (fun e => ?_)⟩, (h.seen.alloc o).of_block (hg.block gs (by have := h.seen.lt; simp; omega) hne), ?_⟩
  · have := (hlo k e.symm).1; omega
  · rw [hl]
    show w1.ownsRow _ 21 1 _ _ (cv (s.ord ++ [v]))
    rw [cv_app]
    exact hown

set_option maxRecDepth 100000 in
set_option maxHeartbeats 4000000 in
theorem visit_any (a : Option Addr) (N c gs : Nat) (E : Nat → List Nat) (bk : Bool) (w0 : World) (hE : GridN w0 a N E) (hN : N ≤ 4096) (rE : ∀ v, v < N → ∀ q ∈ E v, q < N) (lE : ∀ v, v < N → (E v).length ≤ 1048576) (hgs : w0.heap.size ≤ gs) :
    ∀ (n v : Nat) (s s1 : VSt) (w : World) (ordV : Value), VisL (rowB E bk) n (rowB E bk v) (s.mark v) s1 → v < N → s1.ord.length ≤ 100000 → VMem w0 w N gs s ordV →
      Calls Try.prog 40 #[.slice a N c, .bool bk, .int .i32 v, .slice (some ⟨gs, 0, none⟩) N N, ordV] w (VisitPost w0 N gs (s1.leave v)) := by
  intro n
  induction n using Nat.strongRecOn with
  | ind n ih =>
    intro v s s1 w ordV hvis hv hlen hM
    obtain ⟨ao, co, rfl⟩ := hM.form
    obtain ⟨i0, hi0, hz0, hz1, hz2⟩ := info_parts Try.info21
    have HIH : Hid (∀ m, m < n → ∀ (v : Nat) (s s1 : VSt) (w : World) (ordV : Value), VisL (rowB E bk) m (rowB E bk v) (s.mark v) s1 → v < N → s1.ord.length ≤ 100000 → VMem w0 w N gs s ordV →
      Calls Try.prog 40 #[.slice a N c, .bool bk, .int .i32 v, .slice (some ⟨gs, 0, none⟩) N N, ordV] w (VisitPost w0 N gs (s1.leave v))) := ih
    obtain ⟨A, C, hR, hx⟩ := hE
    obtain ⟨b, off, rfl, hc⟩ := hR (by omega)
    have q0 : w0.cell? ⟨b, off + v, none⟩ = some (.slice (A v) (E v).length (C v)) := hc v hv
    have qr : Row w0 (A v) (E v).length (fun i => .int .i32 (atN (E v) i)) := hx v hv
    generalize A v = av at q0 qr
    generalize C v = cv' at q0
    have hvz : (v : Int) < (N : Int) := by omega
    have hlv := lE v hv
    have hM1 := hM.mark hgs v
    obtain ⟨vs, p1⟩ : ∃ vs, w.cell? ⟨gs, v, none⟩ = some vs := ⟨_, hM.seen.cell hv⟩
    have p2 : w.frozen? ⟨gs, v, none⟩ = false := hM.seen.frozen v
    have HV : Hid (VisL (rowB E bk) n (rowB E bk v) (s.mark v) s1) := hvis
    have HRE : Hid (∀ q ∈ rowB E bk v, q < N) := fun q hq => rE v hv q (rowB_mem.1 hq)
    clear ih hc hR hx hM hvis
    go_enter Try.func40, Try.ntmps40
    go_upto_region 2 with fail
    generalize w.setCell ⟨gs, v, none⟩ (.bool true) = w1 at hM1 ⊢
    have q1 : w1.cell? ⟨b, off + v, none⟩ = some (.slice av (E v).length cv') := Below.at hM1.below (lt_of_cell q0) q0
    have HM1 : Hid (VMem w0 w1 N gs (s.mark v) (.slice ao s.ord.length co)) := hM1
    clear hM1 p1 p2
    go_wp2_with fail
    clear q1 q0
    go_loopg [4, 12] (E v).length (fun g s4 s12 wr => ∃ (t m : Nat) (st : VSt), t ≤ (E v).length ∧ g = (E v).length - t ∧ s12 = .int .i64 t ∧ m ≤ n ∧ VisL (rowB E bk) m ((rowB E bk v).drop t) st s1 ∧ VMem w0 wr N gs st s4)
    case atStart => exact ⟨0, n, s.mark v, Nat.zero_le _, rfl, rfl, Nat.le_refl _, by simpa using HV.out, HM1.out⟩
    case round =>
      clear HM1 HV
      obtain ⟨t, m, st, ht, rfl, rfl, hmn, hV, hM⟩ := hrel
      obtain ⟨ao2, co2, rfl⟩ := hM.form
      by_cases htl : t < (E v).length
      · obtain ⟨b1, off1, rfl, hc1⟩ := qr (Nat.lt_of_le_of_lt (Nat.zero_le _) htl)
        obtain ⟨y, hy⟩ : ∃ y, y = (rowB E bk v).getD t 0 := ⟨_, rfl⟩
        have htr : t < (rowB E bk v).length := by rw [rowB_len]; exact htl
        have hye : y = (rowB E bk v)[t] := by rw [hy]; simp [htr]
        have hyN : y < N := by rw [hye]; exact HRE.out _ (List.getElem_mem htr)
        have hdrop : (rowB E bk v).drop t = y :: (rowB E bk v).drop (t + 1) := by rw [hye]; exact List.drop_eq_getElem_cons htr
        rw [hdrop] at hV
        obtain ⟨i, hi, hib⟩ : ∃ i, i = (if bk then (E v).length - 1 - t else t) ∧ i < (E v).length := ⟨_, rfl, by cases bk <;> simp <;> omega⟩
        have p1 : wr.cell? ⟨b1, off1 + i, none⟩ = some (.int .i32 (y : Int)) := by
          rw [hy, Below.at hM.below (lt_of_cell (hc1 i hib)) (hc1 i hib), hi]
          cases bk
          · rw [← rowB_fwd]; rfl
          · rw [← rowB_bwd htl]; rfl
        have p2 : wr.cell? ⟨gs, y, none⟩ = some (.bool (st.seen y)) := hM.seen.cell hyN
        have htz : (t : Int) < (((E v).length : Nat) : Int) := by omega
        have hyz : (y : Int) < (N : Int) := by omega
        have HRE2 := HRE
        clear hc1 hy hye hdrop qr
        cases hsn : st.seen y with
        | true =>
          rw [hsn] at p2
          obtain ⟨m', rfl, hV'⟩ := hV.seen_inv hsn
          have HV : Hid (VisL (rowB E bk) m' ((rowB E bk v).drop (t + 1)) st s1) := hV'
          have HM : Hid (VMem w0 wr N gs st (.slice ao2 st.ord.length co2)) := hM
          clear hV hV' hM hsn
          cases bk
          · simp only [Bool.false_eq_true, if_false] at hi
            subst hi
            go_wp2_with fail
            go_roundg ((E v).length - (i + 1))
            case measure => omega
            case rel => exact ⟨i + 1, m', st, by omega, rfl, by go_num, by omega, HV.out, HM.out⟩
          · simp only [if_true] at hi
            have hiz : (((E v).length : Nat) : Int) - 1 - (t : Int) = (i : Int) := by omega
            clear hi
            go_wp2_with fail
            go_roundg ((E v).length - (t + 1))
            case measure => omega
            case rel => exact ⟨t + 1, m', st, by omega, rfl, by go_num, by omega, HV.out, HM.out⟩
        | false =>
          rw [hsn] at p2
          obtain ⟨n1, n2, s2, rfl, hV1, hV2⟩ := hV.new_inv hsn
          have hl2 : s2.ord.length ≤ 100000 := by have := hV2.len; simp only [VSt.leave, List.length_append, List.length_singleton] at this; omega
          have hcall := HIH.out n1 (by omega) y st s2 wr (.slice ao2 st.ord.length co2) hV1 hyN hl2 hM
          have HV : Hid (VisL (rowB E bk) n2 ((rowB E bk v).drop (t + 1)) (s2.leave y) s1) := hV2
          clear hV hV1 hV2 hM hsn
          cases bk
          · simp only [Bool.false_eq_true, if_false] at hi
            subst hi
            go_wp2_with fail
            refine hcall.mono ?_
            rintro e w2 ⟨a3, c3, rfl, hM⟩
            clear hcall
            have HM : Hid (VMem w0 w2 N gs (s2.leave y) (.slice a3 (s2.leave y).ord.length c3)) := hM
            clear hM
            go_wp2_with fail
            go_roundg ((E v).length - (i + 1))
            case measure => omega
            case rel => exact ⟨i + 1, n2, s2.leave y, by omega, rfl, by go_num, by omega, HV.out, HM.out⟩
          · simp only [if_true] at hi
            have hiz : (((E v).length : Nat) : Int) - 1 - (t : Int) = (i : Int) := by omega
            clear hi
            go_wp2_with fail
            refine hcall.mono ?_
            rintro e w2 ⟨a3, c3, rfl, hM⟩
            clear hcall
            have HM : Hid (VMem w0 w2 N gs (s2.leave y) (.slice a3 (s2.leave y).ord.length c3)) := hM
            clear hM
            go_wp2_with fail
            go_roundg ((E v).length - (t + 1))
            case measure => omega
            case rel => exact ⟨t + 1, n2, s2.leave y, by omega, rfl, by go_num, by omega, HV.out, HM.out⟩
      · obtain rfl : t = (E v).length := by omega
        have hdn : (rowB E bk v).drop (E v).length = [] := by rw [← rowB_len E bk v]; exact List.drop_length
        rw [hdn] at hV
        obtain ⟨rfl, rfl⟩ := hV.nil_inv
        have HM : Hid (VMem w0 wr N gs st (.slice ao2 st.ord.length co2)) := hM
        have hown := hM.ord.alloc (.cells #[.int .i32 (v : Int)] 21)
        have hws := hM.below.size
        obtain ⟨nn, hnn⟩ : ∃ nn, nn = st.ord.length := ⟨_, rfl⟩
        have HNN : Hid (nn = st.ord.length) := hnn
        rw [← hnn] at hown hlen ⊢
        clear hV hM hdn qr HRE hnn
        go_wp2_with (at_builtin; refine wpList_append_lies _ rfl (.tmp 50) (.tmp 52) 35 rfl w0.heap.size 21 i0 (.int .i32 0) 1 4 Try.underlying35 hi0 hz0 hz1 hz2 rfl (by decide) (.slice ao2 nn co2) nn _ rfl hown ⟨wr.heap.size, 0, none⟩ 1 1 [.int .i32 (v : Int)] rfl rfl (World.news_of_block (heap_alloc_new wr _)) (by simp [Value.oneCell']) (by omega) (by unfold maxLen; omega) (by omega) (by simp; omega) (wr.heap.size + 1) (by simp) ?_; intro g cap w1 hown1 hgrow hat hlt1)
        go_ret
        obtain rfl := HNN.out
        have := HM.out.appended (v := v) hown1 hgrow
        exact ⟨some ⟨g, 0, none⟩, cap, by simp [VSt.leave], this⟩
end Go.Proofs.Qxb6000043a
