import Derived.Test.Qxb6000043aSize
namespace Go.Proofs.Qxb6000043a
open Go.RowKit

/-- How many of cs the scan takes, ms being taken already. -/
def gc (E Wt : Nat → List Nat) : List Nat → List Nat → Nat
  | [], _ => 0
  | c :: cs, ms => if ms.all (fun m => mt E Wt m c) = true then 1 + gc E Wt cs (c :: ms) else gc E Wt cs ms

theorem gc_filter (E Wt : Nat → List Nat) : ∀ (cs ms qs : List Nat), (∀ q ∈ qs, q ∈ ms) → gc E Wt cs ms = gc E Wt (cs.filter fun c => qs.all fun m => mt E Wt m c) ms
  | [], _, _, _ => rfl
  | c :: cs, ms, qs, h => by
    by_cases hq : (qs.all fun m => mt E Wt m c) = true
    · rw [List.filter_cons, if_pos hq, gc, gc]
      by_cases hm : (ms.all fun m => mt E Wt m c) = true
      · rw [if_pos hm, if_pos hm, gc_filter E Wt cs (c :: ms) qs (fun q hq => List.mem_cons_of_mem _ (h q hq))]
      · rw [if_neg hm, if_neg hm, gc_filter E Wt cs ms qs h]
    · have hm : ¬ (ms.all fun m => mt E Wt m c) = true := by
        intro hm
        refine hq ?_
        rw [List.all_eq_true] at hm ⊢
        exact fun q hq => hm q (h q hq)
      rw [List.filter_cons, if_neg hq, gc, if_neg hm, gc_filter E Wt cs ms qs h]

/-- The filters of cliqueSteps and the one scan take as many. -/
theorem gr_gc (E Wt : Nat → List Nat) : ∀ (f : Nat) (cs : List Nat) (x : Nat) (ms : List Nat), (∀ c ∈ cs, mt E Wt c c = false) → (∀ c ∈ cs, ∀ m ∈ ms, mt E Wt m c = true) → (cs.filter (mt E Wt x)).length < f → gr E Wt f cs x = gc E Wt cs (x :: ms)
  | 0, _, _, _, _, _, h => by omega
  | f + 1, cs, x, ms, hs, h, hl => by
    have hF : gc E Wt cs (x :: ms) = gc E Wt (cs.filter (mt E Wt x)) (x :: ms) := by
      have := gc_filter E Wt cs (x :: ms) [x] (by simp)
      simpa using this
    rw [hF]
    cases hc : cs.filter (mt E Wt x) with
    | nil => rw [gr_nil hc]; rfl
    | cons c rest =>
      have hmem : ∀ y ∈ (c :: rest), y ∈ cs ∧ mt E Wt x y = true := fun y hy => by rw [← hc] at hy; exact List.mem_filter.1 hy
      have hcc := hs c (hmem c (by simp)).1
      have hall : ((x :: ms).all fun m => mt E Wt m c) = true := by
        rw [List.all_eq_true]
        intro m hm
        rcases List.mem_cons.1 hm with rfl | hm
        · exact (hmem c (by simp)).2
        · exact h c (hmem c (by simp)).1 m hm
      have hlt := filt_lt (E := E) (Wt := Wt) (rest := rest) hcc
      rw [hc] at hl
      rw [gr_cons hc, gc, if_pos hall, gr_gc E Wt f (c :: rest) c (x :: ms) (fun y hy => hs y (hmem y hy).1) (fun y hy m hm => by
        rcases List.mem_cons.1 hm with rfl | hm
        · exact (hmem y hy).2
        · exact h y (hmem y hy).1 m hm) (by omega)]
      rw [gc, if_neg (by simp [hcc])]

theorem clq_gc {E Wt : Nat → List Nat} {r : Nat} (hs : ∀ c ∈ E r, mt E Wt c c = false) : clq E Wt r = 1 + gc E Wt (E r) [r] := by
  unfold clq
  rw [gr_gc E Wt _ (E r) r [] hs (fun _ _ m hm => by cases hm) (by have := List.length_filter_le (mt E Wt r) (E r); omega)]

/-- How many of ms are mutual with v. -/
def cnt (E Wt : Nat → List Nat) (ms : List Nat) (v : Nat) : Int := ((ms.countP fun m => mt E Wt m v : Nat) : Int)
theorem cnt_cons (E Wt : Nat → List Nat) (m : Nat) (ms : List Nat) (v : Nat) : (if mt E Wt m v = true then cnt E Wt ms v + 1 else cnt E Wt ms v) = cnt E Wt (m :: ms) v := by
  unfold cnt
  by_cases h : mt E Wt m v = true <;> simp [h]
theorem cnt_le (E Wt : Nat → List Nat) (ms : List Nat) (v : Nat) : 0 ≤ cnt E Wt ms v ∧ cnt E Wt ms v ≤ ms.length := by
  unfold cnt
  have := List.countP_le_length (p := fun m => mt E Wt m v) (l := ms)
  omega
theorem cnt_all (E Wt : Nat → List Nat) (ms : List Nat) (v : Nat) : cnt E Wt ms v = ms.length ↔ (ms.all fun m => mt E Wt m v) = true := by
  unfold cnt
  rw [List.all_eq_true, ← List.countP_eq_length (p := fun m => mt E Wt m v) (l := ms)]
  omega

theorem gc_le (E Wt : Nat → List Nat) : ∀ (cs ms : List Nat), gc E Wt cs ms ≤ cs.length
  | [], _ => Nat.le_refl _
  | c :: cs, ms => by
    have h1 := gc_le E Wt cs (c :: ms)
    have h2 := gc_le E Wt cs ms
    rw [gc]
    simp only [List.length_cons]
    split <;> omega

set_option maxRecDepth 100000 in
set_option maxHeartbeats 4000000 in
theorem size_any (a a' : Option Addr) (N c c' : Nat) (E : Nat → List Nat) (r : Nat) (w : World) (hE : GridN w a N E) (hW : GridN w a' N (rvT E N)) (hg : IsGraph N E) (hr : r < N) :
    Calls Try.prog 18 #[.slice a N c, .slice a' N c', .int .i32 r] w fun e w' => e = .returned (.int .i64 ((clq E (rvT E N) r : Nat) : Int)) ∧ Below w.heap.size w w' := by
  have hN := hg.hN
  have hcl : clq E (rvT E N) r = 1 + gc E (rvT E N) (E r) [r] := clq_gc (fun q hq => by
    have hqN := (hg.hE r hr q hq).1
    have : q ∉ E q := fun h => (hg.hE q hqN q h).2 rfl
    simp [mt, List.contains_eq_mem, this])
  rw [hcl]
  obtain ⟨Wt, hWt⟩ : ∃ Wt, Wt = rvT E N := ⟨_, rfl⟩
  have lW : ∀ v, (Wt v).length ≤ N := fun v => by rw [hWt]; exact rv_len hg.nd v N (Nat.le_refl _)
  have nW : ∀ v, (Wt v).Nodup := fun v => by rw [hWt]; exact rv_nodup hg.nd v N (Nat.le_refl _)
  have rW : ∀ v, ∀ q ∈ Wt v, q < N := fun v q hq => by rw [hWt] at hq; exact (rv_mem.1 hq).1
  rw [← hWt] at hW ⊢
  clear hWt hcl
  have lE : ∀ v, v < N → (E v).length ≤ N := fun v hv => hg.len hv
  have hadd : ∀ (m s : Nat) (O U : Nat → Int) (w1 : World) (go gm : Nat), AMem w w1 N go gm O U → w.heap.size ≤ go → w.heap.size ≤ gm → go ≠ gm → m < N → (∀ v, v < N → O v < s) → (∀ v, v < N → 0 ≤ U v ∧ U v ≤ 100000) → _ :=
    fun m s O U w1 go gm hA h1 h2 hne hm hO hU => addMember_any a a' N c c' E Wt m s go gm O U w w1 hE hW hA h1 h2 hne hm hN (fun q hq => (hg.hE m hm q hq).1) (rW m) (by have := lE m hm; omega) (by have := lW m; omega) (nW m) hO hU
  have HADD := hadd
  obtain ⟨A, C, hR, hx⟩ := hE
  obtain ⟨b, off, rfl, hc⟩ := hR (by omega)
  have q0 : w.cell? ⟨b, off + r, none⟩ = some (.slice (A r) (E r).length (C r)) := hc r hr
  have qr : Row w (A r) (E r).length (fun i => .int .i32 (atN (E r) i)) := hx r hr
  generalize A r = ar at q0 qr
  generalize C r = cr at q0
  have hrz : (r : Int) < (N : Int) := by omega
  have hlr := lE r hr
  have HRN : Hid (∀ q ∈ E r, q < N) := fun q hq => (hg.hE r hr q hq).1
  have hmk := make39 N (by omega)
  clear hc hR hx hW hg lW nW rW lE hadd
  have h0 : AMem w ((w.alloc (.cells (madeCells #[.int .i64 0] N) 3)).alloc (.cells (madeCells #[.int .i64 0] N) 3)) N w.heap.size (w.heap.size + 1) (fun _ => 0) (fun _ => 0) := by
    have b1 : Below w.heap.size w (w.alloc (.cells (madeCells #[.int .i64 0] N) 3)) := (Below.refl _ _).alloc (Nat.le_refl _) _
    refine ⟨b1.alloc (by simp) _, (World.rowIs_made w (.int .i64 0) N 3).alloc _, ?_⟩
    have := World.rowIs_made (w.alloc (.cells (madeCells #[.int .i64 0] N) 3)) (.int .i64 0) N 3
    simpa using this
  have hfirst := HADD r 1 (fun _ => 0) (fun _ => 0) _ _ _ h0 (Nat.le_refl _) (by omega) (by omega) hr (fun v _ => by decide) (fun v _ => by simp)
  have HAD : Hid (∀ (m s : Nat) (O U : Nat → Int) (w1 : World) (go gm : Nat), AMem w w1 N go gm O U → w.heap.size ≤ go → w.heap.size ≤ gm → go ≠ gm → m < N → (∀ v, v < N → O v < s) → (∀ v, v < N → 0 ≤ U v ∧ U v ≤ 100000) →
      Calls Try.prog 38 #[.slice (some ⟨b, off, none⟩) N c, .slice a' N c', .int .i32 m, .int .i64 s, .slice (some ⟨go, 0, none⟩) N N, .slice (some ⟨gm, 0, none⟩) N N] w1 (AddPost w N go gm (mkd (E m) (E m).length s O) (fun v => if mt E Wt m v = true then U v + 1 else U v))) := HADD
  clear HADD h0
  go_enter Try.func18, Try.ntmps18
  go_wp2_with fail
  refine hfirst.mono ?_
  rintro e w1 ⟨rfl, hA⟩
  clear hfirst hmk
  have q1 : w1.cell? ⟨b, off + r, none⟩ = some (.slice ar (E r).length cr) := Below.at hA.below (lt_of_cell q0) q0
  have hA1 : ∃ O, AMem w w1 N w.heap.size (w.heap.size + 1) O (cnt E Wt [r]) ∧ ∀ v, v < N → O v < 2 := by
    refine ⟨_, hA.congr (fun _ => rfl) (fun v => ?_), fun v _ => ?_⟩
    · rw [← cnt_cons]; simp [cnt]
    · rw [mkd_all]; split <;> omega
  have HA1 : Hid (∃ O, AMem w w1 N w.heap.size (w.heap.size + 1) O (cnt E Wt [r]) ∧ ∀ v, v < N → O v < 2) := hA1
  clear hA hA1
  go_wp2_with fail
  go_loopg [10, 12] (E r).length (fun g s10 s12 wr => ∃ (u : Nat) (ms : List Nat) (O : Nat → Int), u ≤ (E r).length ∧ g = (E r).length - u ∧ s12 = .int .i64 u ∧ s10 = .int .i64 ms.length ∧ AMem w wr N w.heap.size (w.heap.size + 1) O (cnt E Wt ms) ∧ (∀ v, v < N → O v < ((ms.length + 1 : Nat) : Int)) ∧ ms.length + gc E Wt ((E r).drop u) ms = 1 + gc E Wt (E r) [r] ∧ ms.length ≤ u + 1)
  case atStart =>
    obtain ⟨O, hA, hO⟩ := HA1.out
    exact ⟨0, [r], O, Nat.zero_le _, rfl, rfl, rfl, hA, hO, by simp, by simp⟩
  case round =>
    clear HA1 q1
    obtain ⟨u, ms, O, hu, rfl, rfl, rfl, hA, hO, hk, hml⟩ := hrel
    by_cases hul : u < (E r).length
    · obtain ⟨b1, off1, rfl, hc1⟩ := qr (Nat.lt_of_le_of_lt (Nat.zero_le _) hul)
      obtain ⟨y, hy⟩ : ∃ y, y = (E r)[u] := ⟨_, rfl⟩
      have hyN : y < N := by rw [hy]; exact HRN.out _ (List.getElem_mem hul)
      have p1 : wr.cell? ⟨b1, off1 + u, none⟩ = some (.int .i32 (y : Int)) := by
        have h1 := hc1 u hul
        simp only [atN_get hul] at h1
        rw [hy]
        exact Below.at hA.below (lt_of_cell h1) h1
      have hulz : (u : Int) < (((E r).length : Nat) : Int) := by omega
      have hyz : (y : Int) < (N : Int) := by omega
      have p2 : wr.cell? ⟨w.heap.size + 1, y, none⟩ = some (.int .i64 (cnt E Wt ms y)) := hA.ru.cell hyN
      have hdr : (E r).drop u = y :: (E r).drop (u + 1) := by rw [hy]; exact List.drop_eq_getElem_cons hul
      rw [hdr, gc] at hk
      have hml2 : ms.length ≤ 5000 := by omega
      obtain ⟨cy, hcy⟩ : ∃ cy, cy = cnt E Wt ms y := ⟨_, rfl⟩
      rw [← hcy] at p2
      by_cases hall : (ms.all fun m => mt E Wt m y) = true
      · rw [if_pos hall] at hk
        have hd : (cy == ((ms.length : Nat) : Int)) = true := by rw [hcy, (cnt_all E Wt ms y).2 hall]; simp
        have hcall := HAD.out y (ms.length + 1) O (cnt E Wt ms) wr w.heap.size (w.heap.size + 1) hA (Nat.le_refl _) (by omega) (by omega) hyN hO (fun v _ => by have := cnt_le E Wt ms v; omega)
        have HK : Hid (ms.length + (1 + gc E Wt ((E r).drop (u + 1)) (y :: ms)) = 1 + gc E Wt (E r) [r]) := hk
        have HO : Hid (∀ v, v < N → O v < ((ms.length + 1 : Nat) : Int)) := hO
        clear hA hc1 qr q0 hy hdr hk hcy hO hall
        go_wp2_with fail
        refine hcall.mono ?_
        rintro e w1 ⟨rfl, hA⟩
        clear hcall
        have HA2 : Hid (AMem w w1 N w.heap.size (w.heap.size + 1) _ (cnt E Wt (y :: ms))) := hA.congr (fun _ => rfl) (fun v => cnt_cons E Wt y ms v)
        clear hA
        go_wp2_with fail
        go_roundg ((E r).length - (u + 1))
        case measure => omega
        case rel =>
          refine ⟨u + 1, y :: ms, _, by omega, rfl, by go_num, by simp, HA2.out, fun v hv => ?_, by have := HK.out; simp only [List.length_cons]; omega, by simp; omega⟩
          rw [mkd_all]
          have := HO.out v hv
          simp only [List.length_cons]
          split <;> omega
      · rw [if_neg hall] at hk
        have hd : (cy == ((ms.length : Nat) : Int)) = false := by
          rw [hcy]
          simp only [beq_eq_false_iff_ne, ne_eq]
          exact fun e => hall ((cnt_all E Wt ms y).1 e)
        have HK : Hid (ms.length + gc E Wt ((E r).drop (u + 1)) ms = 1 + gc E Wt (E r) [r]) := hk
        have HO : Hid (∀ v, v < N → O v < ((ms.length + 1 : Nat) : Int)) := hO
        have HA2 : Hid (AMem w wr N w.heap.size (w.heap.size + 1) O (cnt E Wt ms)) := hA
        clear hA hc1 qr q0 hy hdr hk hcy hO hall
        go_wp2_with fail
        go_roundg ((E r).length - (u + 1))
        case measure => omega
        case rel => exact ⟨u + 1, ms, O, by omega, rfl, by go_num, rfl, HA2.out, HO.out, HK.out, by omega⟩
    · obtain rfl : u = (E r).length := by omega
      rw [List.drop_length, gc] at hk
      have hbel := hA.below
      have HK : Hid (ms.length = 1 + gc E Wt (E r) [r]) := hk
      clear hA qr q0 hk
      go_wp2_with fail
      go_ret
      refine ⟨?_, hbel⟩
      rw [← HK.out]
      rfl
end Go.Proofs.Qxb6000043a
