import Derived.Test.Qxb6000043aCliqL
import Derived.Test.Qxb6000043aGraph
namespace Go.Proofs.Qxb6000043a
open Go.RowKit

/-- One more for each of the first u of l that is in e. -/
def upd1 (l e : List Nat) (u : Nat) (U : Nat → Int) : Nat → Int := fun v => if v ∈ l.take u ∧ v ∈ e then U v + 1 else U v
theorem upd1_zero (l e : List Nat) (U : Nat → Int) (v : Nat) : U v = upd1 l e 0 U v := by simp [upd1]
theorem upd1_new {l e : List Nat} {u : Nat} (hu : u < l.length) (hn : l.Nodup) (U : Nat → Int) : upd1 l e u U (l.getD u 0) = U (l.getD u 0) := by
  have e1 : l.getD u 0 = l[u] := by simp [hu]
  have h : l[u] ∉ l.take u := by
    intro hm
    obtain ⟨i, hi, e2⟩ := List.mem_iff_getElem.1 hm
    rw [List.length_take] at hi
    rw [List.getElem_take] at e2
    have := (List.getElem_inj hn).1 e2
    omega
  rw [e1]
  simp [upd1, h]
theorem take_y {l : List Nat} {u : Nat} (hu : u < l.length) : l.take (u + 1) = l.take u ++ [l.getD u 0] := by
  rw [List.take_succ_eq_append_getElem hu]
  simp [hu]
theorem upd1_hit {l e : List Nat} {u : Nat} (hu : u < l.length) (h : l.getD u 0 ∈ e) (U : Nat → Int) (v : Nat) : (if v = l.getD u 0 then U (l.getD u 0) + 1 else upd1 l e u U v) = upd1 l e (u + 1) U v := by
  unfold upd1
  rw [take_y hu]
  generalize l.getD u 0 = y at h ⊢
  simp only [List.mem_append, List.mem_singleton]
  by_cases h1 : v = y
  · subst h1; simp [h]
  · simp [h1]
theorem upd1_miss {l e : List Nat} {u : Nat} (hu : u < l.length) (h : l.getD u 0 ∉ e) (U : Nat → Int) (v : Nat) : upd1 l e u U v = upd1 l e (u + 1) U v := by
  unfold upd1
  rw [take_y hu]
  generalize l.getD u 0 = y at h ⊢
  simp only [List.mem_append, List.mem_singleton]
  by_cases h1 : v = y
  · subst h1; simp [h]
  · simp [h1]
theorem upd1_all (E Wt : Nat → List Nat) (m : Nat) (U : Nat → Int) (v : Nat) : upd1 (Wt m) (E m) (Wt m).length U v = if mt E Wt m v = true then U v + 1 else U v := by
  by_cases h1 : v ∈ Wt m <;> by_cases h2 : v ∈ E m <;> simp [upd1, mt, List.contains_eq_mem, h1, h2]

structure AMem (w0 w : World) (N go gm : Nat) (O U : Nat → Int) : Prop where
  below : Below w0.heap.size w0 w
  ro : w.rowIs go 3 N (fun v => .int .i64 (O v))
  ru : w.rowIs gm 3 N (fun v => .int .i64 (U v))
theorem AMem.seto {w0 w : World} {N go gm : Nat} {O U : Nat → Int} (h : AMem w0 w N go gm O U) (h1 : w0.heap.size ≤ go) (hne : go ≠ gm) (x : Nat) (v : Int) : AMem w0 (w.setCell ⟨go, x, none⟩ (.int .i64 v)) N go gm (fun j => if j = x then v else O j) U :=
  ⟨h.below.setCell h1 _, (h.ro.set x _).congr (fun j _ => by by_cases e : j = x <;> simp [e]), h.ru.setOther (fun e => hne e.symm) _⟩
theorem AMem.setu {w0 w : World} {N go gm : Nat} {O U : Nat → Int} (h : AMem w0 w N go gm O U) (h2 : w0.heap.size ≤ gm) (hne : go ≠ gm) (x : Nat) (v : Int) : AMem w0 (w.setCell ⟨gm, x, none⟩ (.int .i64 v)) N go gm O (fun j => if j = x then v else U j) :=
  ⟨h.below.setCell h2 _, h.ro.setOther hne _, (h.ru.set x _).congr (fun j _ => by by_cases e : j = x <;> simp [e])⟩
theorem AMem.congr {w0 w : World} {N go gm : Nat} {O U O' U' : Nat → Int} (h : AMem w0 w N go gm O U) (ho : ∀ v, O v = O' v) (hu : ∀ v, U v = U' v) : AMem w0 w N go gm O' U' := by
  obtain rfl : O = O' := funext ho
  obtain rfl : U = U' := funext hu
  exact h

def AddPost (w0 : World) (N go gm : Nat) (O U : Nat → Int) (e : Ending) (w' : World) : Prop := e = .returned (.tuple #[]) ∧ AMem w0 w' N go gm O U

set_option maxRecDepth 100000 in
set_option maxHeartbeats 4000000 in
theorem addMember_any (a a' : Option Addr) (N c c' : Nat) (E Wt : Nat → List Nat) (m s go gm : Nat) (O U : Nat → Int) (w0 w : World)
    (hE : GridN w0 a N E) (hW : GridN w0 a' N Wt) (hA : AMem w0 w N go gm O U) (h1 : w0.heap.size ≤ go) (h2 : w0.heap.size ≤ gm) (hne : go ≠ gm) (hm : m < N) (hN : N ≤ 4096)
    (rE : ∀ q ∈ E m, q < N) (rW : ∀ q ∈ Wt m, q < N) (lE : (E m).length ≤ 1048576) (lW : (Wt m).length ≤ 1048576) (nd : (Wt m).Nodup) (hO : ∀ v, v < N → O v < s) (hU : ∀ v, v < N → 0 ≤ U v ∧ U v ≤ 100000) :
    Calls Try.prog 38 #[.slice a N c, .slice a' N c', .int .i32 m, .int .i64 s, .slice (some ⟨go, 0, none⟩) N N, .slice (some ⟨gm, 0, none⟩) N N] w
      (AddPost w0 N go gm (mkd (E m) (E m).length s O) (fun v => if mt E Wt m v = true then U v + 1 else U v)) := by
  obtain ⟨A, C, hR, hx⟩ := hE
  obtain ⟨A', C', hR', hx'⟩ := hW
  obtain ⟨b, off, rfl, hc⟩ := hR (by omega)
  obtain ⟨b', off', rfl, hc'⟩ := hR' (by omega)
  have q0 := hc m hm
  have q0' := hc' m hm
  have qr := hx m hm
  have qr' := hx' m hm
  have hmz : (m : Int) < (N : Int) := by omega
  have HA : Hid (AMem w0 w N go gm O U) := hA
  have HO : Hid (∀ v, v < N → O v < s) := hO
  have HU : Hid (∀ v, v < N → 0 ≤ U v ∧ U v ≤ 100000) := hU
  clear hc hc' hR hR' hx hx' hA hO hU
  go_enter Try.func38, Try.ntmps38
  go_wp2_with fail
  go_loopg [12] (E m).length (fun g s12 wr => ∃ u : Nat, u ≤ (E m).length ∧ g = (E m).length - u ∧ s12 = .int .i64 u ∧ AMem w0 wr N go gm (mkd (E m) u s O) U)
  case atStart => exact ⟨0, Nat.zero_le _, rfl, rfl, HA.out.congr (mkd_zero _ _ _) (fun _ => rfl)⟩
  case round =>
    clear HA
    obtain ⟨u, hu, rfl, rfl, hA⟩ := hrel
    have p0 : wr.cell? ⟨b, off + m, none⟩ = some (.slice (A m) (E m).length (C m)) := Below.at hA.below (lt_of_cell q0) q0
    by_cases hul : u < (E m).length
    · obtain ⟨b1, off1, e1, hc1⟩ := qr (Nat.lt_of_le_of_lt (Nat.zero_le _) hul)
      obtain ⟨y, hy⟩ : ∃ y, y = (E m).getD u 0 := ⟨_, rfl⟩
      have hyN : y < N := by rw [hy]; have := rE ((E m)[u]) (List.getElem_mem hul); simpa [hul] using this
      have p1 : wr.cell? ⟨b1, off1 + u, none⟩ = some (.int .i32 (y : Int)) := by rw [hy]; exact Below.at hA.below (lt_of_cell (hc1 u hul)) (hc1 u hul)
      rw [e1] at p0
      have hulz : (u : Int) < (((E m).length : Nat) : Int) := by omega
      have hyz : (y : Int) < (N : Int) := by omega
      obtain ⟨v, p2⟩ : ∃ v, wr.cell? ⟨go, y, none⟩ = some v := ⟨_, hA.ro.cell hyN⟩
      have p3 : wr.frozen? ⟨go, y, none⟩ = false := hA.ro.frozen y
      have HY : Hid (y = (E m).getD u 0) := hy
      have HA2 : Hid (AMem w0 (wr.setCell ⟨go, y, none⟩ (.int .i64 s)) N go gm _ U) := hA.seto h1 hne y s
      clear hA hc1 qr qr' q0 q0' hy rE rW nd
      go_wp2_with fail
      go_roundg ((E m).length - (u + 1))
      case measure => omega
      case rel => exact ⟨u + 1, by omega, rfl, by go_num, HA2.out.congr (fun v => by rw [← mkd_succ hul, HY.out]) (fun _ => rfl)⟩
    · obtain rfl : u = (E m).length := by omega
      have HA1 : Hid (AMem w0 wr N go gm (mkd (E m) (E m).length s O) U) := hA
      clear hA q0 qr rE
      go_wp2_with fail
      go_loopg [13] (Wt m).length (fun g s13 wr => ∃ u : Nat, u ≤ (Wt m).length ∧ g = (Wt m).length - u ∧ s13 = .int .i64 u ∧ AMem w0 wr N go gm (mkd (E m) (E m).length s O) (upd1 (Wt m) (E m) u U))
      case atStart => exact ⟨0, Nat.zero_le _, rfl, rfl, HA1.out.congr (fun _ => rfl) (upd1_zero _ _ _)⟩
      case round =>
        clear HA1 p0
        obtain ⟨u, hu, rfl, rfl, hA⟩ := hrel
        have p0 : wr.cell? ⟨b', off' + m, none⟩ = some (.slice (A' m) (Wt m).length (C' m)) := Below.at hA.below (lt_of_cell q0') q0'
        by_cases hul : u < (Wt m).length
        · obtain ⟨b1, off1, e1, hc1⟩ := qr' (Nat.lt_of_le_of_lt (Nat.zero_le _) hul)
          obtain ⟨y, hy⟩ : ∃ y, y = (Wt m).getD u 0 := ⟨_, rfl⟩
          have hyN : y < N := by rw [hy]; have := rW ((Wt m)[u]) (List.getElem_mem hul); simpa [hul] using this
          have p1 : wr.cell? ⟨b1, off1 + u, none⟩ = some (.int .i32 (y : Int)) := by rw [hy]; exact Below.at hA.below (lt_of_cell (hc1 u hul)) (hc1 u hul)
          rw [e1] at p0
          have hulz : (u : Int) < (((Wt m).length : Nat) : Int) := by omega
          have hyz : (y : Int) < (N : Int) := by omega
          have p2 : wr.cell? ⟨go, y, none⟩ = some (.int .i64 (mkd (E m) (E m).length s O y)) := hA.ro.cell hyN
          have p3 : wr.cell? ⟨gm, y, none⟩ = some (.int .i64 (U y)) := by rw [hA.ru.cell hyN, hy, upd1_new hul nd]
          have p4 : wr.frozen? ⟨gm, y, none⟩ = false := hA.ru.frozen y
          have hUy := HU.out y hyN
          have hOy := HO.out y hyN
          have HM : Hid (mkd (E m) (E m).length s O y = if y ∈ E m then (s : Int) else O y) := mkd_all _ _ _ _
          obtain ⟨M, hM⟩ : ∃ M, M = mkd (E m) (E m).length s O y := ⟨_, rfl⟩
          rw [← hM] at p2 HM
          have HY : Hid (y = (Wt m).getD u 0) := hy
          have HA2 : Hid (AMem w0 (wr.setCell ⟨gm, y, none⟩ (.int .i64 (U y + 1))) N go gm (mkd (E m) (E m).length s O) _) := hA.setu h2 hne y (U y + 1)
          have HA3 : Hid (AMem w0 wr N go gm (mkd (E m) (E m).length s O) (upd1 (Wt m) (E m) u U)) := hA
          clear hA hc1 qr' q0' hy rW nd hM
          by_cases hin : y ∈ E m
          · have hd : (M == (s : Int)) = true := by rw [HM.out, if_pos hin]; simp
            go_wp2_with fail
            go_roundg ((Wt m).length - (u + 1))
            case measure => omega
            case rel => exact ⟨u + 1, by omega, rfl, by go_num, HA2.out.congr (fun _ => rfl) (fun v => by rw [← upd1_hit hul (by rw [← HY.out]; exact hin), HY.out])⟩
          · have hd : (M == (s : Int)) = false := by rw [HM.out, if_neg hin]; simp; omega
            go_wp2_with fail
            go_roundg ((Wt m).length - (u + 1))
            case measure => omega
            case rel => exact ⟨u + 1, by omega, rfl, by go_num, HA3.out.congr (fun _ => rfl) (fun v => upd1_miss hul (by rw [← HY.out]; exact hin) U v)⟩
        · obtain rfl : u = (Wt m).length := by omega
          have HA3 : Hid (AMem w0 wr N go gm (mkd (E m) (E m).length s O) (upd1 (Wt m) (E m) (Wt m).length U)) := hA
          clear hA q0' qr' rW nd
          go_wp2_with fail
          refine bodyPost_end (results_none rfl _ _ _) rfl ?_
          exact ⟨rfl, HA3.out.congr (fun _ => rfl) (upd1_all E Wt m U)⟩
end Go.Proofs.Qxb6000043a
