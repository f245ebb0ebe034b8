import Derived.Test.Qxb6000043aMem
import Derived.Deep.AppendLies
import Derived.Deep.Onto
import Derived.OneCell
namespace Go.Proofs.Qxb6000043a
open Go.RowKit

/-- Entry i of l, as a number. Behind a name that the walk does not open. -/
def atN (l : List Nat) (i : Nat) : Int := ((l.getD i 0 : Nat) : Int)
theorem atN_get {l : List Nat} {i : Nat} (h : i < l.length) : atN l i = (l[i] : Int) := by simp [atN, h]
/-- The graph whose rows are E. -/
def GridN (w : World) (a : Option Addr) (N : Nat) (E : Nat → List Nat) : Prop := Grid w a N (fun v => (E v).length) (fun v i => atN (E v) i)

/-- The cells of a list. -/
def cv (l : List Nat) : List Value := l.map (fun n : Nat => .int .i32 (n : Int))
theorem cv_len (l : List Nat) : (cv l).length = l.length := by simp [cv]
theorem cv_app (l : List Nat) (x : Nat) : cv (l ++ [x]) = cv l ++ [.int .i32 (x : Int)] := by simp [cv]
theorem cv_at {l : List Nat} {i : Nat} (h : i < l.length) : (cv l)[i]? = some (.int .i32 (atN l i)) := by simp [cv, atN, h]

theorem info_parts {P : Program} {e : TypeId} {z : Value} {size bytes : Nat} (h : (P.info? e).map (fun i => (i.zero, i.size, i.bytes)) = some (some z, size, bytes)) :
    ∃ i, P.info? e = some i ∧ i.zero = some z ∧ i.size = size ∧ i.bytes = bytes := by
  cases hi : P.info? e with
  | none => simp [hi] at h
  | some i => simp [hi] at h; exact ⟨i, rfl, h.1, h.2.1, h.2.2⟩

/-- Who waits for x, of the first t vertices' edges. -/
def rvT (E : Nat → List Nat) (t : Nat) (x : Nat) : List Nat := (List.range t).flatMap fun v => (E v).filterMap fun y => if y = x then some v else none
def rvU (E : Nat → List Nat) (t u : Nat) (x : Nat) : List Nat := rvT E t x ++ ((E t).take u).filterMap fun y => if y = x then some t else none
theorem rv_zero (E : Nat → List Nat) (x : Nat) : rvT E 0 x = [] := rfl
theorem rvU_zero (E : Nat → List Nat) (t x : Nat) : rvU E t 0 x = rvT E t x := by simp [rvU]
theorem rvU_all (E : Nat → List Nat) (t x : Nat) : rvU E t (E t).length x = rvT E (t + 1) x := by simp [rvU, rvT, List.range_succ]
theorem rvU_succ (E : Nat → List Nat) (t u x : Nat) (h : u < (E t).length) : rvU E t (u + 1) x = if (E t).getD u 0 = x then rvU E t u x ++ [t] else rvU E t u x := by
  rw [rvU, List.take_succ_eq_append_getElem h, List.filterMap_append]
  have e : (E t).getD u 0 = (E t)[u] := by simp [h]
  rw [e]
  by_cases hx : (E t)[u] = x <;> simp [hx, rvU]
theorem filterMap_len (t x : Nat) (l : List Nat) : (l.filterMap fun y => if y = x then some t else none).length ≤ l.length := List.length_filterMap_le _ _
theorem rvT_len (E : Nat → List Nat) (t x : Nat) (h : ∀ v, v < t → (E v).length ≤ 1048576) : (rvT E t x).length ≤ t * 1048576 := by
  induction t with
  | zero => simp [rvT]
  | succ t ih =>
    rw [← rvU_all, rvU, List.length_append]
    have h1 := ih (fun v hv => h v (by omega))
    have h2 := h t (by omega)
    have h3 := filterMap_len t x ((E t).take (E t).length)
    rw [List.length_take] at h3
    omega
theorem rvU_len (E : Nat → List Nat) (t u x : Nat) (h : ∀ v, v < t → (E v).length ≤ 1048576) : (rvU E t u x).length ≤ t * 1048576 + u := by
  have h1 := rvT_len E t x h
  have h3 := filterMap_len t x ((E t).take u)
  rw [List.length_take] at h3
  rw [rvU, List.length_append]
  omega

structure Rev (w wr : World) (N : Nat) (Wt : Nat → List Nat) : Prop where
  below : Below w.heap.size w wr
  row : ∃ V : Nat → Value, wr.rowIs w.heap.size 35 N V ∧ (∀ x, x < N → wr.ownsRow (w.heap.size + 1) 21 1 (V x) (Wt x).length (cv (Wt x))) ∧ ∀ x y, x < N → y < N → x ≠ y → (V x).ownBlock = none ∨ (V x).ownBlock ≠ (V y).ownBlock

theorem Rev.congr {w wr : World} {N : Nat} {Wt Wt' : Nat → List Nat} (h : Rev w wr N Wt) (e : ∀ x, x < N → Wt x = Wt' x) : Rev w wr N Wt' := by
  obtain ⟨V, h1, h2, h3⟩ := h.row
  exact ⟨h.below, V, h1, fun x hx => by rw [← e x hx]; exact h2 x hx, h3⟩

theorem rev_step {w wr w1 : World} {N : Nat} {Wt : Nat → List Nat} {V : Nat → Value} (hb : Below w.heap.size w wr) (h1 : wr.rowIs w.heap.size 35 N V)
    (h2 : ∀ x, x < N → wr.ownsRow (w.heap.size + 1) 21 1 (V x) (Wt x).length (cv (Wt x))) (h3 : ∀ x y, x < N → y < N → x ≠ y → (V x).ownBlock = none ∨ (V x).ownBlock ≠ (V y).ownBlock)
    {x t g cap : Nat} (hx : x < N) {o : Obj}
    (hown : w1.ownsRow (w.heap.size + 1) 21 1 (.slice (some ⟨g, 0, none⟩) ((Wt x).length + 1) cap) ((Wt x).length + 1) (cv (Wt x) ++ [.int .i32 (t : Int)]))
    (hg : (wr.alloc o).grownBy w1 (V x).ownBlock) (hat : (V x).ownBlock = some g ∨ g = wr.heap.size + 1) :
    Rev w (w1.setCell ⟨w.heap.size, x, none⟩ (.slice (some ⟨g, 0, none⟩) ((Wt x).length + 1) cap)) N (fun y => if y = x then Wt y ++ [t] else Wt y) := by
  have hsz := h1.lt
  have hso : (wr.alloc o).heap.size = wr.heap.size + 1 := by simp
  have hlx := (h2 x hx).lt
  have hne0 : some w.heap.size ≠ (V x).ownBlock := fun e => by have := (hlx _ e.symm).1; omega
  have hr : w1.rowIs w.heap.size 35 N V := (h1.alloc o).of_block (hg.block _ (by omega) hne0)
  have hbel : Below w.heap.size w w1 := by
    refine ((hb.trans ((Below.refl _ _).alloc hb.size o)).trans ⟨hg.os, hg.tape, hg.output, hg.size, fun k hk => hg.block k (by omega) (fun e => ?_)⟩)
    have := (hlx _ e.symm).1; omega
  have hgs : w.heap.size < g := by
    rcases hat with e | e
    · have := (hlx _ e).1; omega
    · omega
  refine ⟨hbel.setCell (by simp) _, fun y => if y = x then .slice (some ⟨g, 0, none⟩) ((Wt x).length + 1) cap else V y, ?_, ?_, ?_⟩
  · exact hr.set x _
  · intro y hy
    by_cases e : y = x
    · subst e
      simp only [if_true, List.length_append, List.length_singleton, cv_app]
      exact ownsRow_setCell_below hown (by simp) _
    · simp only [if_neg e]
      refine ownsRow_setCell_below (World.ownsRow.kept ((h2 y hy).alloc o) hg ?_) (by simp) _
      exact h3 y x hy hx e
  · have key : ∀ y, y < N → y ≠ x → (V y).ownBlock ≠ some g := by
      intro y hy hyx
      rcases hat with e | e
      · rcases h3 y x hy hx hyx with h | h
        · rw [h]; simp
        · rw [← e]; exact h
      · intro e2
        have := ((h2 y hy).lt _ e2).2
        omega
    intro y z hy hz hyz
    by_cases e1 : y = x
    · subst e1
      have e2 : z ≠ y := fun h => hyz h.symm
      right
      simp only [if_true, if_neg e2, Value.ownBlock]
      exact (key z hz e2).symm
    · by_cases e2 : z = x
      · subst e2
        right
        simp only [if_true, if_neg e1, Value.ownBlock]
        exact key y hy e1
      · simp only [if_neg e1, if_neg e2]
        exact h3 y z hy hz hyz

set_option maxHeartbeats 4000000 in
theorem reverse_any (a : Option Addr) (N c : Nat) (E : Nat → List Nat) (w : World)
    (h : GridN w a N E) (b0 : N ≤ 4096) (bl : ∀ i, i < N → (E i).length ≤ 1048576) (bz : ∀ v, v < N → ∀ i, i < (E v).length → (E v).getD i 0 < N) :
    Calls Try.prog 14 #[.slice a N c] w fun e w' => e = .returned (.slice (some ⟨w.heap.size, 0, none⟩) N N) ∧ Rev w w' N (rvT E N) := by
  obtain ⟨A, C, hR, hx⟩ := h
  obtain ⟨i0, hi0, hz0, hz1, hz2⟩ := info_parts Try.info21
  have hmk := make22 N (by omega)
  go_enter Try.func14, Try.ntmps14
  go_wp2_with fail
  clear hmk
  go_loopg [5] N (fun g s5 wr => ∃ t : Nat, t ≤ N ∧ g = N - t ∧ s5 = .int .i64 t ∧ Rev w wr N (rvT E t))
  case atStart => exact ⟨0, Nat.zero_le _, rfl, rfl, (Below.refl _ _).alloc (Nat.le_refl _) _, fun _ => .slice none 0 0, World.rowIs_made w (.slice none 0 0) N 35, fun x _ => World.ownsRow_nil _ _ _ _, fun _ _ _ _ _ => .inl rfl⟩
  case round =>
    obtain ⟨t, ht, rfl, rfl, hV⟩ := hrel
    by_cases hlt : t < N
    · obtain ⟨b, off, rfl, hc⟩ := hR (by omega)
      have q0 := hc t hlt
      have qr := hx t hlt
      have hbt := bl t hlt
      have hbz := bz t hlt
      have hlen : ∀ u x, (rvU E t u x).length ≤ t * 1048576 + u := fun u x => rvU_len E t u x (fun v hv => bl v (by omega))
      have hltz : (t : Int) < (N : Int) := by omega
      have hV0 : Rev w wr N (rvU E t 0) := hV.congr (fun x _ => (rvU_zero E t x).symm)
      clear hc hR bl bz hx hV
      go_wp2_with fail
      go_loopg [6] (E t).length (fun g s6 wi => ∃ u : Nat, u ≤ (E t).length ∧ g = (E t).length - u ∧ s6 = .int .i64 u ∧ Rev w wi N (rvU E t u))
      case atStart => exact ⟨0, Nat.zero_le _, rfl, rfl, hV0⟩
      case round =>
        clear hV0
        obtain ⟨u, hu, rfl, rfl, hV⟩ := hrel
        have q1 : wr.cell? ⟨b, off + t, none⟩ = some (.slice (A t) (E t).length (C t)) := Below.at hV.below (lt_of_cell q0) q0
        by_cases hul : u < (E t).length
        · obtain ⟨b', off', e', hc'⟩ := qr (by omega)
          obtain ⟨x, hx⟩ : ∃ x, x = (E t).getD u 0 := ⟨_, rfl⟩
          have hbu := hbz u hul
          have q2 : wr.cell? ⟨b', off' + u, none⟩ = some (.int .i32 (x : Int)) := by rw [hx]; exact Below.at hV.below (lt_of_cell (hc' u hul)) (hc' u hul)
          have hulz : (u : Int) < (((E t).length : Nat) : Int) := by omega
          rw [← hx] at hbu
          rw [e'] at q1
          have HX : Hid (x = (E t).getD u 0) := hx
          have hl := hlen u x
          obtain ⟨V, h1, h2, h3⟩ := hV.row
          have q3 : wr.cell? ⟨w.heap.size, x, none⟩ = some (V x) := h1.cell hbu
          have q4 : wr.frozen? ⟨w.heap.size, x, none⟩ = false := h1.frozen x
          have hbelow := hV.below
          have hwlt := h1.lt
          have hox := h2 x hbu
          have HR : Hid (∀ (w1 : World) (g cap : Nat) (o : Obj), w1.ownsRow (w.heap.size + 1) 21 1 (.slice (some ⟨g, 0, none⟩) ((rvU E t u x).length + 1) cap) ((rvU E t u x).length + 1) (cv (rvU E t u x) ++ [.int .i32 (t : Int)]) →
              (wr.alloc o).grownBy w1 (V x).ownBlock → ((V x).ownBlock = some g ∨ g = wr.heap.size + 1) →
              Rev w (w1.setCell ⟨w.heap.size, x, none⟩ (.slice (some ⟨g, 0, none⟩) ((rvU E t u x).length + 1) cap)) N (fun y => if y = x then rvU E t u y ++ [t] else rvU E t u y)) := fun w1 g cap o h4 h5 h6 => rev_step hbelow h1 h2 h3 hbu h4 h5 h6
          obtain ⟨n, hn⟩ : ∃ n, n = (rvU E t u x).length := ⟨_, rfl⟩
          have HN : Hid (n = (rvU E t u x).length) := hn
          rw [← hn] at hox hl
          clear qr hc' hbz q0 hV hlen h1 h2 h3 hbelow hx
          have hown := hox.alloc (.cells #[.int .i32 (t : Int)] 21)
          clear hox
          clear hn
          obtain ⟨Vx, hVx⟩ : ∃ Vx, Vx = V x := ⟨_, rfl⟩
          have HVX : Hid (Vx = V x) := hVx
          rw [← hVx] at q3 hown
          clear hVx
          have hne : some w.heap.size ≠ Vx.ownBlock := fun e => by have := (hown.lt _ e.symm).1; omega
          have q3a : (wr.alloc (.cells #[.int .i32 (t : Int)] 21)).cell? ⟨w.heap.size, x, none⟩ = some Vx := Below.at ((Below.refl _ _).alloc (Nat.le_refl _) _) hwlt q3
          have q4a : (wr.alloc (.cells #[.int .i32 (t : Int)] 21)).frozen? ⟨w.heap.size, x, none⟩ = false := (World.frozen?_of_block (((Below.refl _ _).alloc (Nat.le_refl _) _).block _ hwlt)).trans q4
          go_wp2_with (at_builtin; refine wpList_append_lies _ rfl (.tmp 38) (.tmp 41) 35 rfl (w.heap.size + 1) 21 i0 (.int .i32 0) 1 4 Try.underlying35 hi0 hz0 hz1 hz2 rfl (by decide) Vx n _ rfl hown ⟨wr.heap.size, 0, none⟩ 1 1 [.int .i32 (t : Int)] rfl rfl (World.news_of_block (heap_alloc_new wr _)) (by simp [Value.oneCell']) (by omega) (by unfold maxLen; omega) (by omega) (by simp; omega) (wr.heap.size + 1) (by simp) ?_; intro g cap w1 hown1 hgrow hat hlt1; have q5 : w1.cell? ⟨w.heap.size, x, none⟩ = some Vx := (hgrow.cell_far _ (by simp; omega) hne).trans q3a; have q6 : w1.frozen? ⟨w.heap.size, x, none⟩ = false := (hgrow.frozen_far _ (by simp; omega) hne).trans q4a)
          go_roundg ((E t).length - (u + 1))
          case measure => omega
          case rel =>
            refine ⟨u + 1, by omega, rfl, by go_num, ?_⟩
            obtain rfl := HN.out
            obtain rfl := HVX.out
            refine (HR.out w1 g cap _ hown1 hgrow hat).congr (fun y _ => ?_)
            rw [rvU_succ E t u y hul, ← HX.out]
            by_cases e : y = x
            · subst e; simp
            · rw [if_neg e, if_neg (fun h => e h.symm)]
        · obtain rfl : u = (E t).length := by omega
          have hV2 : Rev w wr N (rvT E (t + 1)) := hV.congr (fun x _ => rvU_all E t x)
          clear qr hbz q0 hV hlen
          go_wp2_with fail
          go_roundg (N - (t + 1))
          case measure => omega
          case rel => exact ⟨t + 1, by omega, rfl, by go_num, hV2⟩
    · obtain rfl : t = N := by omega
      clear hR bl bz hx
      go_wp2_with fail
      go_ret
      exact ⟨rfl, hV⟩
end Go.Proofs.Qxb6000043a
