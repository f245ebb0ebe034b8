import Derived.Test.Qxb6000012aMem
import Derived.Test.Qxb6000012aShapeP
import Derived.Deep.LoopGhost
import Derived.Deep.QuietTactic
import Derived.BigQuiet
import Derived.WalkSmall
namespace Go.Proofs.Qxb6000012a
open Go.RowKit

theorem make_stack (n : Nat) (h : n ≤ 4096) (w : World) :
    (Instr.makeSlice 32 (.int .i64 0) (.int .i64 (n : Int))).run Try.prog w = .ok (.slice (some ⟨w.heap.size, 0, none⟩) 0 n) (w.alloc (.cells (madeCells #[.int .i64 0] n) 3)) := by
  obtain ⟨i, hi, hz0, hz1, hz2⟩ := info_parts Try.info3
  have hr := run_make (P := Try.prog) w 32 3 i (.int .i64 0) Try.underlying32 hi hz0 .i64 .i64 0 n (by omega) (by omega) (by rw [hz2]; omega) (by omega)
  simp only [Int.toNat_natCast, hz1, Nat.mul_one] at hr
  exact hr

abbrev intC (j : Nat) : Value := .int .i64 (j : Int)

structure ShapeMem (w wr : World) (B n : Nat) (st : List Nat) (P : Nat → Int) (E : Nat → Nat) : Prop where
  below : Below B w wr
  pr : wr.rowIs B 3 n (fun j => .int .i64 (P j))
  er : wr.rowIs (B + 1) 3 n (fun j => intC (E j))
  own : wr.ownsRow (B + 2) 3 1 (.slice (some ⟨B + 2, 0, none⟩) st.length n) st.length (st.map intC)

theorem shape_start (w : World) (n : Nat) (hn : n ≤ 4096) :
    ShapeMem w (((w.alloc (.cells (madeCells #[.int .i64 0] n) 3)).alloc (.cells (madeCells #[.int .i64 0] n) 3)).alloc (.cells (madeCells #[.int .i64 0] n) 3)) w.heap.size n [] (fun _ => 0) (fun _ => 0) := by
  have r1 := World.rowIs_made w (.int .i64 0) n 3
  have r2 := World.rowIs_made (w.alloc (.cells (madeCells #[.int .i64 0] n) 3)) (.int .i64 0) n 3
  rw [Deep.nblk_alloc] at r2
  refine ⟨(((Below.refl _ _).alloc (Nat.le_refl _) _).alloc (by simp) _).alloc (by simp; omega) _, (r1.alloc _).alloc _, r2.alloc _, ?_⟩
  have h := World.ownsRow_made (base := w.heap.size + 2) (e := 3) (size := 1) ((w.alloc (.cells (madeCells #[.int .i64 0] n) 3)).alloc (.cells (madeCells #[.int .i64 0] n) 3)) (madeCells #[.int .i64 0] n) n (by simp) (by unfold maxLen; omega) (by rw [size_madeCells]; omega)
  rw [Deep.nblk_alloc, Deep.nblk_alloc] at h
  exact h

theorem own_block {w wr : World} {B n : Nat} {st : List Nat} {P : Nat → Int} {E : Nat → Nat} (h : ShapeMem w wr B n st P E) : B + 2 < wr.heap.size := (h.own.lt (B + 2) rfl).2

/-- The top is popped, and node x ends at i. -/
theorem shape_pop {w wr : World} {B n : Nat} {ys : List Nat} {x : Nat} {P : Nat → Int} {E : Nat → Nat} (h : ShapeMem w wr B n (ys ++ [x]) P E) (i : Nat) :
    ShapeMem w (wr.setCell ⟨B + 1, x, none⟩ (intC i)) B n ys P (fun j => if j = x then i else E j) := by
  refine ⟨h.below.setCell (by simp) _, h.pr.setOther (by simp) _, (h.er.set x _).congr (fun j _ => by by_cases e : j = x <;> simp [e]), ?_⟩
  have h1 := h.own
  simp only [List.map_append, List.length_append, List.length_cons, List.length_nil, Nat.zero_add] at h1
  exact ownsRow_setCell_below (ownsRow_pop (by simp) h1) (by simp) _

theorem shape_drew {w wr : World} {B n : Nat} {st : List Nat} {P : Nat → Int} {E : Nat → Nat} (h : ShapeMem w wr B n st P E) (k : Nat) : ShapeMem w (wr.drewN k) B n st P E :=
  ⟨⟨h.below.os, h.below.tape, h.below.output, h.below.size, h.below.block⟩, h.pr, h.er, h.own⟩

/-- The parent of i is set. -/
theorem shape_par {w wr : World} {B n : Nat} {st : List Nat} {P : Nat → Int} {E : Nat → Nat} (h : ShapeMem w wr B n st P E) (i : Nat) (p : Int) :
    ShapeMem w (wr.setCell ⟨B, i, none⟩ (.int .i64 p)) B n st (fun j => if j = i then p else P j) E :=
  ⟨h.below.setCell (by simp) _, (h.pr.set i _).congr (fun j _ => by by_cases e : j = i <;> simp [e]), h.er.setOther (by simp) _, ownsRow_setCell_below h.own (by simp) _⟩

theorem shape_alloc {w wr : World} {B n : Nat} {st : List Nat} {P : Nat → Int} {E : Nat → Nat} (h : ShapeMem w wr B n st P E) (o : Obj) : ShapeMem w (wr.alloc o) B n st P E :=
  ⟨h.below.alloc (by have := own_block h; omega) _, h.pr.alloc _, h.er.alloc _, h.own.alloc _⟩

theorem shape_push {w wr w' : World} {B n : Nat} {st : List Nat} {P : Nat → Int} {E : Nat → Nat} {i : Nat} (h : ShapeMem w wr B n st P E)
    (hown : w'.ownsRow (B + 2) 3 1 (.slice (some ⟨B + 2, 0, none⟩) (st.length + 1) n) (st.length + 1) (st.map intC ++ [intC i])) (hg : wr.grownBy w' (some (B + 2))) : ShapeMem w w' B n (st ++ [i]) P E :=
  ⟨h.below.grown hg (by have := own_block h; omega) (fun k hk => by simp at hk; omega), grown_row hg (by omega) h.pr, grown_row hg (by omega) h.er, by simpa using hown⟩

theorem cell_new1 (w : World) (v : Value) (t : TypeId) (b : Nat) (hb : b = w.heap.size) : ∀ j u, [v][j]? = some u → (w.alloc (.cells #[v] t)).cell? ((⟨b, 0, none⟩ : Addr).add j) = some u := by
  intro j u hj
  subst hb
  match j, hj with
  | 0, hj => simp at hj; subst hj; simp [Addr.add]
theorem one_int (k : IntKind) (x : Int) : ∀ u ∈ [Value.int k x], u.oneCell' = true := by
  intro u hu; simp at hu; subst hu; rfl

set_option maxHeartbeats 2000000 in
theorem shape_any (bL n : Nat) (lv : Nat → Int) (w : World) (hn : n ≤ 4096)
    (hL : ∀ i, i < n → w.cell? ⟨bL, i, none⟩ = some (.int .i64 (lv i))) (lL : bL < w.heap.size) :
    Calls Try.prog 16 #[.slice (some ⟨bL, 0, none⟩) n n] w fun e w' =>
      ∃ (P : Nat → Int) (E : Nat → Nat), e = .returned (.tuple #[.slice (some ⟨w.heap.size, 0, none⟩) n n, .slice (some ⟨w.heap.size + 1, 0, none⟩) n n]) ∧ Below w.heap.size w w' ∧
        w'.rowIs w.heap.size 3 n (fun i => .int .i64 (P i)) ∧ w'.rowIs (w.heap.size + 1) 3 n (fun i => intC (E i)) ∧ (∀ i, i < n → IsPar lv i (P i)) ∧ ∀ i, i < n → IsEnd lv n i (E i) := by
  have hmk := make_ints n hn
  have hmk2 := make_stack n hn
  go_enter Try.func16, Try.ntmps16
  go_wp2_with fail
  clear hmk hmk2
  have hS0 := shape_start w n hn
  go_loopg [7, 8] n (fun g s7 s8 wr => ∃ (i : Nat) (st : List Nat) (P : Nat → Int) (E : Nat → Nat), i ≤ n ∧ g = n - i ∧ s8 = .int .i64 i ∧ s7 = .slice (some ⟨w.heap.size + 2, 0, none⟩) st.length n ∧ st.length ≤ i ∧ ShapeMem w wr w.heap.size n st P E ∧ Stk lv n i st P E)
  case atStart => exact ⟨0, [], _, _, Nat.zero_le _, rfl, rfl, rfl, Nat.le_refl _, hS0, stk_start lv n _ _⟩
  case round =>
    obtain ⟨i, st, P, E, hi, rfl, rfl, rfl, hlen, hM, hK⟩ := hrel
    clear hS0
    by_cases hlt : i < n
    · go_wp2_with fail
      go_loopg [7] st.length (fun g s7 wx => ∃ (st' : List Nat) (E' : Nat → Nat), g = st'.length ∧ s7 = .slice (some ⟨w.heap.size + 2, 0, none⟩) st'.length n ∧ st'.length ≤ i ∧ ShapeMem w wx w.heap.size n st' P E' ∧ Stk lv n i st' P E')
      case atStart => exact ⟨st, E, rfl, rfl, hlen, hM, hK⟩
      case round =>
        clear hM hK hlen
        obtain ⟨st', E', rfl, rfl, hlen, hM, hK⟩ := hrel
        rcases List.eq_nil_or_concat st' with rfl | ⟨ys, x, rfl⟩
        · simp only [List.length_nil] at *
          obtain ⟨v0, q0⟩ : ∃ v, wr.cell? ⟨w.heap.size, i, none⟩ = some v := ⟨_, hM.pr.cell hlt⟩
          have q1 : wr.frozen? ⟨w.heap.size, i, none⟩ = false := hM.pr.frozen _
          obtain ⟨i0, hi0, hz0, hz1, hz2⟩ := info_parts Try.info3
          go_wp2_with fail
          go_quiet (fail)
          have hM2 := shape_par (shape_drew hM nq) i (-1)
          go_wp2_with (at_builtin; (refine wpList_append_fits _ rfl (.tmp 70) (.tmp 72) 32 rfl (w.heap.size + 2) 3 i0 1 Try.underlying32 hi0 hz1 (w.heap.size + 2) 0 n [] rfl ((shape_alloc hM2 _).own) ⟨wr.heap.size, 0, none⟩ 1 1 [intC i] (by simp [Act.eval]) rfl (cell_new1 _ _ _ _ (by simp)) (one_int _ _) (by omega) ?_); intro w1 hown1 hgrow1)
          have hM3 := shape_push (shape_alloc hM2 _) hown1 hgrow1
          have hK3 := stk_push_nil hK hlt
          clear hM2 hM hown1 hgrow1
          go_roundg (n - (i + 1))
          case measure => omega
          case rel => exact ⟨i + 1, [i], _, _, by omega, rfl, by go_num, rfl, by simp, hM3, hK3⟩
        · simp only [List.concat_eq_append, List.length_append, List.length_cons, List.length_nil, Nat.zero_add] at *
          have hxi : x < i := hK.lt x (by simp)
          have q2 : wr.cell? ⟨w.heap.size + 2, ys.length, none⟩ = some (.int .i64 x) := by
            have h1 := hM.own
            simp only [List.map_append, List.length_append, List.length_cons, List.length_nil, Nat.zero_add] at h1
            rw [h1.cellAt ys.length (by omega)]; simp
          have q3 := Below.at hM.below lL (hL x (by omega))
          have q4 := Below.at hM.below lL (hL i hlt)
          have hltz : (i : Int) < (n : Int) := by omega
          have hxz : (x : Int) < (n : Int) := by omega
          have hlz : (ys.length : Int) < (n : Int) := by omega
          by_cases hc : lv i ≤ lv x
          · obtain ⟨v0, q5⟩ : ∃ v, wr.cell? ⟨w.heap.size + 1, x, none⟩ = some v := ⟨_, hM.er.cell (by omega)⟩
            have q6 : wr.frozen? ⟨w.heap.size + 1, x, none⟩ = false := hM.er.frozen _
            go_wp2_with fail
            go_quiet (fail)
            go_wp2_with fail
            have hM2 := shape_pop (shape_drew hM nq) i
            have hK2 := stk_pop hK (by omega) (fun _ => hc)
            go_roundg ys.length
            case measure => omega
            case rel => exact ⟨ys, _, rfl, rfl, by omega, hM2, hK2⟩
          · obtain ⟨v0, q5⟩ : ∃ v, wr.cell? ⟨w.heap.size, i, none⟩ = some v := ⟨_, hM.pr.cell hlt⟩
            have q6 : wr.frozen? ⟨w.heap.size, i, none⟩ = false := hM.pr.frozen _
            obtain ⟨i0, hi0, hz0, hz1, hz2⟩ := info_parts Try.info3
            go_wp2_with fail
            go_quiet (fail)
            have hM2 := shape_par (shape_drew hM nq) i x
            go_wp2_with (at_builtin; refine wpList_append_fits _ rfl (.tmp 70) (.tmp 72) 32 rfl (w.heap.size + 2) 3 i0 1 Try.underlying32 hi0 hz1 (w.heap.size + 2) (ys.length + 1) n ((ys ++ [x]).map intC) rfl (by simpa using (shape_alloc hM2 _).own) ⟨wr.heap.size, 0, none⟩ 1 1 [intC i] (by simp [Act.eval]) rfl (cell_new1 _ _ _ _ (by simp)) (one_int _ _) (by omega) ?_; intro w1 hown1 hgrow1)
            have hM3 := shape_push (shape_alloc hM2 _) (by simpa using hown1) hgrow1
            have hK3 := stk_push hK hlt (by omega)
            clear hM2 hM hown1 hgrow1
            go_roundg (n - (i + 1))
            case measure => omega
            case rel => exact ⟨i + 1, _, _, _, by omega, rfl, by go_num, by simp, by simp; omega, hM3, hK3⟩
    · obtain rfl : i = n := by omega
      go_wp2_with fail
      go_loopg [7] st.length (fun g s7 wx => ∃ (st' : List Nat) (E' : Nat → Nat), g = st'.length ∧ s7 = .slice (some ⟨w.heap.size + 2, 0, none⟩) st'.length i ∧ st'.length ≤ i ∧ ShapeMem w wx w.heap.size i st' P E' ∧ Stk lv i i st' P E')
      case atStart => exact ⟨st, E, rfl, rfl, hlen, hM, hK⟩
      case round =>
        clear hM hK hlen
        obtain ⟨st', E', rfl, rfl, hlen, hM, hK⟩ := hrel
        rcases List.eq_nil_or_concat st' with rfl | ⟨ys, x, rfl⟩
        · simp only [List.length_nil] at *
          go_wp2_with fail
          go_ret2
          exact ⟨P, E', rfl, hM.below, hM.pr, hM.er, (stk_done hK).1, (stk_done hK).2⟩
        · simp only [List.concat_eq_append, List.length_append, List.length_cons, List.length_nil, Nat.zero_add] at *
          have hxi : x < i := hK.lt x (by simp)
          have q2 : wr.cell? ⟨w.heap.size + 2, ys.length, none⟩ = some (.int .i64 x) := by
            have h1 := hM.own
            simp only [List.map_append, List.length_append, List.length_cons, List.length_nil, Nat.zero_add] at h1
            rw [h1.cellAt ys.length (by omega)]; simp
          obtain ⟨v0, q5⟩ : ∃ v, wr.cell? ⟨w.heap.size + 1, x, none⟩ = some v := ⟨_, hM.er.cell (by omega)⟩
          have q6 : wr.frozen? ⟨w.heap.size + 1, x, none⟩ = false := hM.er.frozen _
          go_wp2_with fail
          have hM2 := shape_pop hM i
          have hK2 := stk_pop hK (by omega) (fun h => absurd h (Nat.lt_irrefl _))
          go_roundg ys.length
          case measure => omega
          case rel => exact ⟨ys, _, rfl, rfl, by omega, hM2, hK2⟩
end Go.Proofs.Qxb6000012a
