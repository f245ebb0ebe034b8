import Derived.Test.Qxb6000043aNewP
namespace Go.Proofs.Qxb6000043a
open Go.RowKit

section
variable {P : Program} {ops : Array Oper} {Q : Exit → Act → World → Prop} {md : Region.Mode}
theorem wp_call1 {o : Oper} {K : Act → World → Prop} {a : Act} {w : World} {f : FuncId} {x : Operand} {t : TypeId} {v : Value} (ho : o.op = .call { callee := .value (.func f), args := #[x], argTypes := #[t] }) (hv : a.eval x = v)
    (hf : (callFunc f #[v]).run P w = .ok (.enter f #[v]) w) (h : Calls P f #[v] w fun e w' => ∃ u, e = .returned u ∧ K (a.put o.dst u) w') : o.wp P a w K Q := by
  have he : a.eval (.func f) = .func (.func f) #[] #[] := rfl
  unfold Oper.wp execOp
  simp only [ho, resolve, invoke, he, hv, List.map_toArray, List.map_cons, List.map_nil, Sem.run_bind, Sem.run_pure, Result.andThen_ok, Deferred.ofValue, Array.append_empty, Array.empty_append, hf]
  refine Calls.mono h ?_
  rintro e w' ⟨u, rfl, hK⟩
  exact hK
theorem ready_after {l : Array Bool} {i : Nat} {o : Oper} (hi : i ∈ Region.ready md ops l) (ho : ops[i]? = some o) (k : Nat) (hk : o.after.any (fun e => e.on == k && Region.binds md e) = true) : l.getD k false = true := by
  obtain ⟨_, o', ho', h⟩ := mem_ready.1 hi
  rw [ho] at ho'
  cases ho'
  rw [Array.any_eq_true'] at hk
  obtain ⟨e, he, hb⟩ := hk
  simp only [Bool.and_eq_true, beq_iff_eq] at hb
  rw [← hb.1]
  exact h e he hb.2
theorem closed_after {l : Array Bool} {i : Nat} {o : Oper} (hc : Closed md ops l) (hi : l.getD i false = true) (ho : ops[i]? = some o) (k : Nat) (hk : o.after.any (fun e => e.on == k && Region.binds md e) = true) : l.getD k false = true := by
  rw [Array.any_eq_true'] at hk
  obtain ⟨e, he, hb⟩ := hk
  simp only [Bool.and_eq_true, beq_iff_eq] at hb
  rw [← hb.1]
  exact hc i o hi ho e he hb.2
theorem all_listed' {l : Array Bool} (hs : l.size = ops.size) (hf : (ops.toList.zipIdx.all fun x => x.1.after.all fun e => decide (e.on < x.2)) = true) (hr : Region.ready md ops l = []) : ∀ j, j < ops.size → l.getD j false = true := by
  refine all_listed hs (fun j o ho e he => ?_) hr
  rw [List.all_eq_true] at hf
  have h1 := hf (o, j) (by rw [List.mem_zipIdx_iff_getElem?]; simpa using ho)
  rw [Array.all_eq_true_iff_forall_mem] at h1
  simpa using h1 e he
end

theorem enter37 (v : Value) (w : World) : (callFunc 37 #[v]).run Try.prog w = .ok (.enter 37 #[v]) w := by go_simp

theorem hp_move {w : World} {N : Nat} {E Wt : Nat → List Nat} {G : Nat → Nat} {w' : World} {j : Nat} (h1 : j ≠ 1) (h3 : j ≠ 3) (h6 : j ≠ 6) (h8 : is3 j = false) : hpJ w N E Wt G w' j :=
  ⟨fun e => absurd e h1, fun e => absurd e h3, fun e => absurd e h6, fun e => by rw [h8] at e; cases e⟩

/-- What ZZNewStepBound leaves. -/
def NewPost (N : Nat) (E Wt : Nat → List Nat) (lim : Int) (w : World) (e : Ending) (w' : World) : Prop :=
  ∃ B ge gw gl gp gn gb gx Be Bw, e = .returned (.pointer (some ⟨B, 0, none⟩)) ∧ Below w.heap.size w w' ∧ VG w' (fun k => w.heap.size ≤ k) ge N E Be ∧ VG w' (fun k => w.heap.size ≤ k) gw N Wt Bw ∧
    w.heap.size ≤ B ∧ w'.rowIs B 60 14 (sbCells N ge gw gl gp gn gb gx lim 0 nilV nilV nilV 0) ∧ w.heap.size ≤ gl ∧ w'.rowIs gl 21 N (fun _ => .int .i32 0) ∧
    (w.heap.size ≤ gp ∧ w'.rowIs gp 3 N (fun _ => .int .i64 0)) ∧ (w.heap.size ≤ gn ∧ w'.rowIs gn 3 N (fun _ => .int .i64 0)) ∧ (w.heap.size ≤ gb ∧ w'.rowIs gb 3 N (fun _ => .int .i64 0)) ∧ (w.heap.size ≤ gx ∧ w'.rowIs gx 3 N (fun _ => .int .i64 0)) ∧
    gp ≠ gn ∧ gp ≠ gb ∧ gp ≠ gx ∧ gn ≠ gb ∧ gn ≠ gx ∧ gb ≠ gx

theorem VG.mono {w : World} {D D' : Nat → Prop} {bo N : Nat} {E : Nat → List Nat} {B : Nat → Nat} (h : VG w D bo N E B) (hd : ∀ k, D k → D' k) : VG w D' bo N E B :=
  ⟨hd _ h.db, h.top, fun v hv => ⟨hd _ (h.rows v hv).1, (h.rows v hv).2⟩⟩
theorem at_listed {l : Array Bool} {j : Nat} (h : l.getD j false = true) (hj : j < l.size) : l[j] = true := by
  rw [Array.getD_eq_getD_getElem?] at h
  simpa [hj] using h
theorem at_some {l : Array Bool} {j : Nat} {b : Bool} (h : l[j]? = some b) (hj : j < l.size) : l[j] = b := by
  rw [Array.getElem?_eq_getElem hj] at h
  exact Option.some.inj h

set_option maxRecDepth 100000 in
set_option maxHeartbeats 4000000 in
theorem new_any (a a' : Option Addr) (N c c' : Nat) (E Wt : Nat → List Nat) (lim : Int) (w : World)
    (h : GridN w a N E) (h' : GridN w a' N Wt) (b0 : N ≤ 4096) (bl : ∀ i, i < N → (E i).length ≤ 1048576) (bl' : ∀ i, i < N → (Wt i).length ≤ 1048576) :
    Calls Try.prog 16 #[.slice a N c, .slice a' N c', .int .i64 lim] w (NewPost N E Wt lim w) := by
  go_enter Try.func16, Try.ntmps16
  go_wp2_with fail
  rename_i K hK
  refine wp_region_any (by kernel_rfl) ?_
  refine wpAny_inv2 (NInv w a a' N c c' lim E Wt) ?_ _ _ _ _ ?_ ?_ (by decide)
  · intro l s w' hI hC
    by_cases hall : ∀ j, j < 15 → l.getD j false = true
    · right
      have hl : l = #[true, true, true, true, true, true, true, true, true, true, true, true, true, true, true, false, false, false] := by
        refine Array.ext (by rw [hI.sz]; rfl) (fun i h1 h2 => ?_)
        have hi18 : i < 18 := h2
        obtain rfl | rfl | rfl | rfl | rfl | rfl | rfl | rfl | rfl | rfl | rfl | rfl | rfl | rfl | rfl | rfl | rfl | rfl : i = 0 ∨ i = 1 ∨ i = 2 ∨ i = 3 ∨ i = 4 ∨ i = 5 ∨ i = 6 ∨ i = 7 ∨ i = 8 ∨ i = 9 ∨ i = 10 ∨ i = 11 ∨ i = 12 ∨ i = 13 ∨ i = 14 ∨ i = 15 ∨ i = 16 ∨ i = 17 := by omega
        · exact at_listed (hall 0 (by omega)) h1
        · exact at_listed (hall 1 (by omega)) h1
        · exact at_listed (hall 2 (by omega)) h1
        · exact at_listed (hall 3 (by omega)) h1
        · exact at_listed (hall 4 (by omega)) h1
        · exact at_listed (hall 5 (by omega)) h1
        · exact at_listed (hall 6 (by omega)) h1
        · exact at_listed (hall 7 (by omega)) h1
        · exact at_listed (hall 8 (by omega)) h1
        · exact at_listed (hall 9 (by omega)) h1
        · exact at_listed (hall 10 (by omega)) h1
        · exact at_listed (hall 11 (by omega)) h1
        · exact at_listed (hall 12 (by omega)) h1
        · exact at_listed (hall 13 (by omega)) h1
        · exact at_listed (hall 14 (by omega)) h1
        · exact at_some hI.l15 h1
        · exact at_some hI.l16 h1
        · exact at_some hI.l17 h1
      intro fuel hf
      obtain ⟨G, hG, hd⟩ := hI.vals
      have tz := hI.tz
      have bel := hI.bel
      have df := hI.df
      have v1 := hG 1 (by omega) (hall 1 (by omega))
      have v3 := hG 3 (by omega) (hall 3 (by omega))
      have v4 := hG 4 (by omega) (hall 4 (by omega))
      have v6 := hG 6 (by omega) (hall 6 (by omega))
      have v8 := hG 8 (by omega) (hall 8 (by omega))
      have v10 := hG 10 (by omega) (hall 10 (by omega))
      have v12 := hG 12 (by omega) (hall 12 (by omega))
      have v14 := hG 14 (by omega) (hall 14 (by omega))
      have d1 := hd 8 10 (by omega) (by omega) (hall 8 (by omega)) (hall 10 (by omega)) rfl rfl (by omega)
      have d2 := hd 8 12 (by omega) (by omega) (hall 8 (by omega)) (hall 12 (by omega)) rfl rfl (by omega)
      have d3 := hd 8 14 (by omega) (by omega) (hall 8 (by omega)) (hall 14 (by omega)) rfl rfl (by omega)
      have d4 := hd 10 12 (by omega) (by omega) (hall 10 (by omega)) (hall 12 (by omega)) rfl rfl (by omega)
      have d5 := hd 10 14 (by omega) (by omega) (hall 10 (by omega)) (hall 14 (by omega)) rfl rfl (by omega)
      have d6 := hd 12 14 (by omega) (by omega) (hall 12 (by omega)) (hall 14 (by omega)) rfl rfl (by omega)
      clear hall hI hC hG hd
      subst hl
      obtain ⟨f, rfl⟩ : ∃ f, fuel = f + 3 := ⟨fuel - 3, by have : 3 ≤ fuel := hf; omega⟩
      refine wpAny_all (rs := [15]) (by kernel_rfl) (by simp) ?_
      intro i hi
      obtain rfl : i = 15 := by simpa using hi
      refine wpOp_plain rfl rfl (wp_build (v := .agg (arrV N (G 1) (G 3) (G 6) (G 8) (G 10) (G 12) (G 14) lim)) (w' := w') rfl ?_ ?_)
      · simp only [List.map_toArray, List.map_cons, List.map_nil, eval_tmp v1.1, eval_tmp v3.1, eval_tmp v4.1, eval_tmp v6.1, eval_tmp v8.1, eval_tmp v10.1, eval_tmp v12.1, eval_tmp v14.1]
        exact run_build60 w' N (G 1) (G 3) (G 6) (G 8) (G 10) (G 12) (G 14) lim
      change wpAny _ _ _ _ _ _ (s.put (some 25) (.agg (arrV N (G 1) (G 3) (G 6) (G 8) (G 10) (G 12) (G 14) lim))) w'
      refine wpAny_all (rs := [16]) (by kernel_rfl) (by simp) ?_
      intro i hi
      obtain rfl : i = 16 := by simpa using hi
      refine wpOp_plain rfl rfl (wp_box rfl (by rw [eval_tmp (put_same (by rw [tz]; omega))]; exact run_box60 w' N (G 1) (G 3) (G 6) (G 8) (G 10) (G 12) (G 14) lim) ?_)
      change wpAny _ _ _ _ _ _ ((s.put (some 25) (.agg (arrV N (G 1) (G 3) (G 6) (G 8) (G 10) (G 12) (G 14) lim))).put (some 26) (.pointer (some ⟨w'.heap.size, 0, none⟩))) (w'.alloc (.cells (arrV N (G 1) (G 3) (G 6) (G 8) (G 10) (G 12) (G 14) lim) 60))
      refine wpAny_all (rs := [17]) (by kernel_rfl) (by simp) ?_
      intro i hi
      obtain rfl : i = 17 := by simpa using hi
      refine wpOp_plain rfl rfl (wp_assign rfl ?_)
      rw [eval_tmp (put_same (by rw [put_size, tz]; omega))]
      change wpAny _ _ _ _ _ _ (((s.put (some 25) (.agg (arrV N (G 1) (G 3) (G 6) (G 8) (G 10) (G 12) (G 14) lim))).put (some 26) (.pointer (some ⟨w'.heap.size, 0, none⟩))).put (some 6) (.pointer (some ⟨w'.heap.size, 0, none⟩))) (w'.alloc (.cells (arrV N (G 1) (G 3) (G 6) (G 8) (G 10) (G 12) (G 14) lim) 60))
      refine wpAny_done (by kernel_rfl) ?_ _
      refine hK _ _ ?_
      have hB2 : Below w'.heap.size w' (w'.alloc (.cells (arrV N (G 1) (G 3) (G 6) (G 8) (G 10) (G 12) (G 14) lim) 60)) := (Below.refl _ _).alloc (Nat.le_refl _) _
      have hres := results_tmp (fn := Try.f16) (t := 6) rfl (((s.put (some 25) (.agg (arrV N (G 1) (G 3) (G 6) (G 8) (G 10) (G 12) (G 14) lim))).put (some 26) (.pointer (some ⟨w'.heap.size, 0, none⟩))).put (some 6) (.pointer (some ⟨w'.heap.size, 0, none⟩))).tmps Try.prog (w'.alloc (.cells (arrV N (G 1) (G 3) (G 6) (G 8) (G 10) (G 12) (G 14) lim) 60))
      have hgd : ((((s.put (some 25) (.agg (arrV N (G 1) (G 3) (G 6) (G 8) (G 10) (G 12) (G 14) lim))).put (some 26) (.pointer (some ⟨w'.heap.size, 0, none⟩))).put (some 6) (.pointer (some ⟨w'.heap.size, 0, none⟩))).tmps).getD 6 undef = .pointer (some ⟨w'.heap.size, 0, none⟩) := by
        rw [Array.getD_eq_getD_getElem?, put_same (by rw [put_size, put_size, tz]; omega)]
        rfl
      rw [hgd] at hres
      obtain ⟨Be, hVE⟩ := v1.2.1 rfl
      obtain ⟨Bw, hVW⟩ := v3.2.2.1 rfl
      obtain ⟨a6, r6⟩ := v6.2.2.2.1 rfl
      obtain ⟨a8, r8⟩ := v8.2.2.2.2 rfl
      obtain ⟨a10, r10⟩ := v10.2.2.2.2 rfl
      obtain ⟨a12, r12⟩ := v12.2.2.2.2 rfl
      obtain ⟨a14, r14⟩ := v14.2.2.2.2 rfl
      refine wp_ret ?_
      refine bodyPost_ret hres df ?_
      exact ⟨w'.heap.size, G 1, G 3, G 6, G 8, G 10, G 12, G 14, Be, Bw, rfl, bel.trans (hB2.mono bel.size), hVE.below hB2, hVW.below hB2, bel.size, arr_row w' N (G 1) (G 3) (G 6) (G 8) (G 10) (G 12) (G 14) lim, a6, Below.row hB2 r6.lt r6, ⟨a8, Below.row hB2 r8.lt r8⟩, ⟨a10, Below.row hB2 r10.lt r10⟩, ⟨a12, Below.row hB2 r12.lt r12⟩, ⟨a14, Below.row hB2 r14.lt r14⟩, d1, d2, d3, d4, d5, d6⟩
    · left
      refine ⟨fun hr => hall fun j hj => all_listed' (by rw [hI.sz]; rfl) (by kernel_rfl) hr j (by show j < 18; omega), fun i hi => ?_⟩
      have hi18 : i < 18 := by
        obtain ⟨h1, _⟩ := mem_ready.1 hi
        rw [Array.getD_eq_getD_getElem?] at h1
        cases e : l[i]? with
        | none => simp [e] at h1
        | some b => have := (Array.getElem?_eq_some_iff.1 e).1; rw [hI.sz] at this; exact this
      obtain ⟨G, hG, _⟩ := hI.vals
      obtain rfl | rfl | rfl | rfl | rfl | rfl | rfl | rfl | rfl | rfl | rfl | rfl | rfl | rfl | rfl | rfl | rfl | rfl : i = 0 ∨ i = 1 ∨ i = 2 ∨ i = 3 ∨ i = 4 ∨ i = 5 ∨ i = 6 ∨ i = 7 ∨ i = 8 ∨ i = 9 ∨ i = 10 ∨ i = 11 ∨ i = 12 ∨ i = 13 ∨ i = 14 ∨ i = 15 ∨ i = 16 ∨ i = 17 := by omega
      · refine wpOp_plain rfl rfl (wp_move rfl ?_)
        rw [eval_tmp hI.i0]
        exact ninv_step hI 0 0 (by omega) (Below.refl _ _) _ (fun G _ => rfl) (fun G _ => hp_move (by decide) (by decide) (by decide) (by decide)) (fun e => by cases e)
      · have hs := (hG 0 (by omega) (ready_after hi rfl 0 (by kernel_rfl))).1
        have bel := hI.bel
        refine wpOp_plain rfl rfl (wp_call1 rfl (eval_tmp hs) (enter37 _ _) ?_)
        refine (vrows_any a N c E w' (Grid.below h hI.bel) b0 bl).mono ?_
        rintro e w'' ⟨rfl, hB, B, hV⟩
        exact ⟨_, rfl, ninv_step hI 1 w'.heap.size (by omega) hB _ (fun G e => by show _ = Value.slice (some ⟨G 1, 0, none⟩) N N; rw [e]) (fun G e => ⟨fun _ => ⟨B, by rw [e]; exact hV.mono (fun k hk => Nat.le_trans bel.size hk)⟩, fun e => (by cases e), fun e => (by cases e), fun e => (by cases e)⟩) (fun e => by cases e)⟩
      · refine wpOp_plain rfl rfl (wp_move rfl ?_)
        rw [eval_tmp hI.i1]
        exact ninv_step hI 2 0 (by omega) (Below.refl _ _) _ (fun G _ => rfl) (fun G _ => hp_move (by decide) (by decide) (by decide) (by decide)) (fun e => by cases e)
      · have hs := (hG 2 (by omega) (ready_after hi rfl 2 (by kernel_rfl))).1
        have bel := hI.bel
        refine wpOp_plain rfl rfl (wp_call1 rfl (eval_tmp hs) (enter37 _ _) ?_)
        refine (vrows_any a' N c' Wt w' (Grid.below h' hI.bel) b0 bl').mono ?_
        rintro e w'' ⟨rfl, hB, B, hV⟩
        exact ⟨_, rfl, ninv_step hI 3 w'.heap.size (by omega) hB _ (fun G e => by show _ = Value.slice (some ⟨G 3, 0, none⟩) N N; rw [e]) (fun G e => ⟨fun e => (by cases e), fun _ => ⟨B, by rw [e]; exact hV.mono (fun k hk => Nat.le_trans bel.size hk)⟩, fun e => (by cases e), fun e => (by cases e)⟩) (fun e => by cases e)⟩
      · refine wpOp_plain rfl rfl (wp_move rfl ?_)
        rw [eval_tmp hI.i2]
        exact ninv_step hI 4 0 (by omega) (Below.refl _ _) _ (fun G _ => rfl) (fun G _ => hp_move (by decide) (by decide) (by decide) (by decide)) (fun e => by cases e)
      · refine wpOp_plain rfl rfl (wp_move rfl ?_)
        rw [eval_tmp hI.i7]
        exact ninv_step hI 5 0 (by omega) (Below.refl _ _) _ (fun G _ => rfl) (fun G _ => hp_move (by decide) (by decide) (by decide) (by decide)) (fun e => by cases e)
      · have hs := (hG 5 (by omega) (ready_after hi rfl 5 (by kernel_rfl))).1
        have bel := hI.bel
        refine wpOp_plain rfl rfl (wp_makeSlice rfl (by rw [eval_tmp hs]; exact make35 N (by omega) w') ?_)
        exact ninv_step hI 6 w'.heap.size (by omega) ((Below.refl _ _).alloc (Nat.le_refl _) _) _ (fun G e => by show _ = Value.slice (some ⟨G 6, 0, none⟩) N N; rw [e]) (fun G e => ⟨fun e => (by cases e), fun e => (by cases e), fun _ => ⟨by rw [e]; exact bel.size, by rw [e]; exact World.rowIs_made w' (.int .i32 0) N 21⟩, fun e => (by cases e)⟩) (fun e => by cases e)
      · refine wpOp_plain rfl rfl (wp_move rfl ?_)
        rw [eval_tmp hI.i7]
        exact ninv_step hI 7 0 (by omega) (Below.refl _ _) _ (fun G _ => rfl) (fun G _ => hp_move (by decide) (by decide) (by decide) (by decide)) (fun e => by cases e)
      · have hs := (hG 7 (by omega) (ready_after hi rfl 7 (by kernel_rfl))).1
        have bel := hI.bel
        refine wpOp_plain rfl rfl (wp_makeSlice rfl (by rw [eval_tmp hs]; exact make39 N (by omega) w') ?_)
        exact ninv_step hI 8 w'.heap.size (by omega) ((Below.refl _ _).alloc (Nat.le_refl _) _) _ (fun G e => by show _ = Value.slice (some ⟨G 8, 0, none⟩) N N; rw [e]) (fun G e => ⟨fun e => (by cases e), fun e => (by cases e), fun e => (by cases e), fun _ => ⟨by rw [e]; exact bel.size, by rw [e]; exact World.rowIs_made w' (.int .i64 0) N 3⟩⟩) (fun _ => Nat.le_refl _)
      · refine wpOp_plain rfl rfl (wp_move rfl ?_)
        rw [eval_tmp hI.i7]
        exact ninv_step hI 9 0 (by omega) (Below.refl _ _) _ (fun G _ => rfl) (fun G _ => hp_move (by decide) (by decide) (by decide) (by decide)) (fun e => by cases e)
      · have hs := (hG 9 (by omega) (ready_after hi rfl 9 (by kernel_rfl))).1
        have bel := hI.bel
        refine wpOp_plain rfl rfl (wp_makeSlice rfl (by rw [eval_tmp hs]; exact make39 N (by omega) w') ?_)
        exact ninv_step hI 10 w'.heap.size (by omega) ((Below.refl _ _).alloc (Nat.le_refl _) _) _ (fun G e => by show _ = Value.slice (some ⟨G 10, 0, none⟩) N N; rw [e]) (fun G e => ⟨fun e => (by cases e), fun e => (by cases e), fun e => (by cases e), fun _ => ⟨by rw [e]; exact bel.size, by rw [e]; exact World.rowIs_made w' (.int .i64 0) N 3⟩⟩) (fun _ => Nat.le_refl _)
      · refine wpOp_plain rfl rfl (wp_move rfl ?_)
        rw [eval_tmp hI.i7]
        exact ninv_step hI 11 0 (by omega) (Below.refl _ _) _ (fun G _ => rfl) (fun G _ => hp_move (by decide) (by decide) (by decide) (by decide)) (fun e => by cases e)
      · have hs := (hG 11 (by omega) (ready_after hi rfl 11 (by kernel_rfl))).1
        have bel := hI.bel
        refine wpOp_plain rfl rfl (wp_makeSlice rfl (by rw [eval_tmp hs]; exact make39 N (by omega) w') ?_)
        exact ninv_step hI 12 w'.heap.size (by omega) ((Below.refl _ _).alloc (Nat.le_refl _) _) _ (fun G e => by show _ = Value.slice (some ⟨G 12, 0, none⟩) N N; rw [e]) (fun G e => ⟨fun e => (by cases e), fun e => (by cases e), fun e => (by cases e), fun _ => ⟨by rw [e]; exact bel.size, by rw [e]; exact World.rowIs_made w' (.int .i64 0) N 3⟩⟩) (fun _ => Nat.le_refl _)
      · refine wpOp_plain rfl rfl (wp_move rfl ?_)
        rw [eval_tmp hI.i7]
        exact ninv_step hI 13 0 (by omega) (Below.refl _ _) _ (fun G _ => rfl) (fun G _ => hp_move (by decide) (by decide) (by decide) (by decide)) (fun e => by cases e)
      · have hs := (hG 13 (by omega) (ready_after hi rfl 13 (by kernel_rfl))).1
        have bel := hI.bel
        refine wpOp_plain rfl rfl (wp_makeSlice rfl (by rw [eval_tmp hs]; exact make39 N (by omega) w') ?_)
        exact ninv_step hI 14 w'.heap.size (by omega) ((Below.refl _ _).alloc (Nat.le_refl _) _) _ (fun G e => by show _ = Value.slice (some ⟨G 14, 0, none⟩) N N; rw [e]) (fun G e => ⟨fun e => (by cases e), fun e => (by cases e), fun e => (by cases e), fun _ => ⟨by rw [e]; exact bel.size, by rw [e]; exact World.rowIs_made w' (.int .i64 0) N 3⟩⟩) (fun _ => Nat.le_refl _)
      · exfalso
        refine hall fun j hj => ?_
        have r1 := ready_after hi rfl 1 (by kernel_rfl)
        have r3 := ready_after hi rfl 3 (by kernel_rfl)
        have r4 := ready_after hi rfl 4 (by kernel_rfl)
        have r6 := ready_after hi rfl 6 (by kernel_rfl)
        have r8 := ready_after hi rfl 8 (by kernel_rfl)
        have r10 := ready_after hi rfl 10 (by kernel_rfl)
        have r12 := ready_after hi rfl 12 (by kernel_rfl)
        have r14 := ready_after hi rfl 14 (by kernel_rfl)
        have r0 := closed_after hC r1 rfl 0 (by kernel_rfl)
        have r2 := closed_after hC r3 rfl 2 (by kernel_rfl)
        have r5 := closed_after hC r6 rfl 5 (by kernel_rfl)
        have r7 := closed_after hC r8 rfl 7 (by kernel_rfl)
        have r9 := closed_after hC r10 rfl 9 (by kernel_rfl)
        have r11 := closed_after hC r12 rfl 11 (by kernel_rfl)
        have r13 := closed_after hC r14 rfl 13 (by kernel_rfl)
        obtain rfl | rfl | rfl | rfl | rfl | rfl | rfl | rfl | rfl | rfl | rfl | rfl | rfl | rfl | rfl : j = 0 ∨ j = 1 ∨ j = 2 ∨ j = 3 ∨ j = 4 ∨ j = 5 ∨ j = 6 ∨ j = 7 ∨ j = 8 ∨ j = 9 ∨ j = 10 ∨ j = 11 ∨ j = 12 ∨ j = 13 ∨ j = 14 := by omega
        all_goals assumption
      · exfalso
        have r := ready_after hi rfl 15 (by kernel_rfl)
        rw [Array.getD_eq_getD_getElem?, hI.l15] at r
        cases r
      · exfalso
        have r := ready_after hi rfl 16 (by kernel_rfl)
        rw [Array.getD_eq_getD_getElem?, hI.l16] at r
        cases r
  · refine ⟨rfl, rfl, rfl, rfl, rfl, rfl, rfl, rfl, rfl, rfl, below_drewN (Below.refl _ _) 1, fun _ => 0, fun j hj e => ?_, fun i j hi hj e => ?_⟩
    · exfalso
      obtain rfl | rfl | rfl | rfl | rfl | rfl | rfl | rfl | rfl | rfl | rfl | rfl | rfl | rfl | rfl : j = 0 ∨ j = 1 ∨ j = 2 ∨ j = 3 ∨ j = 4 ∨ j = 5 ∨ j = 6 ∨ j = 7 ∨ j = 8 ∨ j = 9 ∨ j = 10 ∨ j = 11 ∨ j = 12 ∨ j = 13 ∨ j = 14 := by omega
      all_goals cases e
    · exfalso
      obtain rfl | rfl | rfl | rfl | rfl | rfl | rfl | rfl | rfl | rfl | rfl | rfl | rfl | rfl | rfl : i = 0 ∨ i = 1 ∨ i = 2 ∨ i = 3 ∨ i = 4 ∨ i = 5 ∨ i = 6 ∨ i = 7 ∨ i = 8 ∨ i = 9 ∨ i = 10 ∨ i = 11 ∨ i = 12 ∨ i = 13 ∨ i = 14 := by omega
      all_goals cases e
  · intro j o hj
    exfalso
    by_cases h18 : j < 18
    · obtain rfl | rfl | rfl | rfl | rfl | rfl | rfl | rfl | rfl | rfl | rfl | rfl | rfl | rfl | rfl | rfl | rfl | rfl : j = 0 ∨ j = 1 ∨ j = 2 ∨ j = 3 ∨ j = 4 ∨ j = 5 ∨ j = 6 ∨ j = 7 ∨ j = 8 ∨ j = 9 ∨ j = 10 ∨ j = 11 ∨ j = 12 ∨ j = 13 ∨ j = 14 ∨ j = 15 ∨ j = 16 ∨ j = 17 := by omega
      all_goals cases hj
    · rw [Array.getD_eq_getD_getElem?, Array.getElem?_eq_none (by show 18 ≤ j; omega)] at hj
      cases hj
end Go.Proofs.Qxb6000043a
