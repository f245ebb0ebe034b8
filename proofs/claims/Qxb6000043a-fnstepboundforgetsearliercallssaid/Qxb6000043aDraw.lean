import Derived.Test.Qxb6000043aVRows
import Derived.RegionTactic
/- A region that draws its order, by an invariant over the operations that have come up. -/
namespace Go.Proofs.Qxb6000043a
open Go.RowKit

section
variable {P : Program} {ops : Array Oper} {Q : Exit → Act → World → Prop} {md : Region.Mode}

theorem count_set {l : List Bool} {i : Nat} (h : l[i]? = some false) : (l.set i true).count false + 1 = l.count false := by
  induction l generalizing i with
  | nil => simp at h
  | cons x xs ih =>
    cases i with
    | zero => simp at h; subst h; simp
    | succ i =>
      simp at h
      have := ih h
      simp only [List.set_cons_succ, List.count_cons]
      omega

theorem wpAny_inv (Inv : Array Bool → Act → World → Prop) (hend : ∀ l a w, Inv l a w → Region.ready md ops l = [] → Q .normal a w)
    (hstep : ∀ l a w, Inv l a w → ∀ i ∈ Region.ready md ops l, wpOp P ops Q i (Inv (l.setIfInBounds i true)) a w) :
    ∀ (fuel : Nat) (l : Array Bool) (a : Act) (w : World), Inv l a w → l.toList.count false ≤ fuel → wpAny P md ops Q fuel l a w := by
  intro fuel
  induction fuel with
  | zero =>
    intro l a w hI hc
    have hr : Region.ready md ops l = [] := by
      cases hr : Region.ready md ops l with
      | nil => rfl
      | cons i rs =>
        have hm : i ∈ Region.ready md ops l := by rw [hr]; simp
        obtain ⟨h1, _⟩ := mem_ready.1 hm
        have h2 : l.toList[i]? = some false := by
          rw [Array.getD_eq_getD_getElem?] at h1
          rw [Array.getElem?_toList]
          cases e : l[i]? with
          | none => simp [e] at h1
          | some b => simp [e] at h1; rw [h1]
        have := count_set h2
        omega
    exact ⟨hr, hend l a w hI hr⟩
  | succ fuel ih =>
    intro l a w hI hc
    refine ⟨hend l a w hI, fun i hi => wpOp_mono (fun a' w' h' => ih _ a' w' h' ?_) (hstep l a w hI i hi)⟩
    obtain ⟨h1, _⟩ := mem_ready.1 hi
    have h2 : l.toList[i]? = some false := by
      rw [Array.getD_eq_getD_getElem?] at h1
      rw [Array.getElem?_toList]
      cases e : l[i]? with
      | none => simp [e] at h1
      | some b => simp [e] at h1; rw [h1]
    have := count_set h2
    simp only [Array.toList_setIfInBounds]
    omega

/-- What has come up, came up behind what it waits for. -/
def Closed (md : Region.Mode) (ops : Array Oper) (l : Array Bool) : Prop :=
  ∀ (j : Nat) (o : Oper), l.getD j false = true → ops[j]? = some o → ∀ e ∈ o.after, Region.binds md e = true → l.getD e.on false = true
theorem Closed.step {l : Array Bool} (h : Closed md ops l) {i : Nat} (hi : i ∈ Region.ready md ops l) : Closed md ops (l.setIfInBounds i true) := by
  obtain ⟨h1, o1, ho1, h2⟩ := mem_ready.1 hi
  intro j o hj ho e he hb
  by_cases hji : j = i
  · subst hji
    rw [ho1] at ho
    cases ho
    exact getD_set_true (h2 e he hb)
  · rw [getD_set_ne _ (fun e => hji e.symm)] at hj
    exact getD_set_true (h j o hj ho e he hb)

/-- The same, the end of the road taken by other means ('.inr'). -/
theorem wpAny_inv2 (Inv : Array Bool → Act → World → Prop)
    (hstep : ∀ l a w, Inv l a w → Closed md ops l → (Region.ready md ops l ≠ [] ∧ ∀ i ∈ Region.ready md ops l, wpOp P ops Q i (Inv (l.setIfInBounds i true)) a w) ∨ ∀ fuel, l.toList.count false ≤ fuel → wpAny P md ops Q fuel l a w) :
    ∀ (fuel : Nat) (l : Array Bool) (a : Act) (w : World), Inv l a w → Closed md ops l → l.toList.count false ≤ fuel → wpAny P md ops Q fuel l a w := by
  have key : ∀ (l : Array Bool) (i : Nat), i ∈ Region.ready md ops l → l.toList[i]? = some false := by
    intro l i hi
    obtain ⟨h1, _⟩ := mem_ready.1 hi
    rw [Array.getD_eq_getD_getElem?] at h1
    rw [Array.getElem?_toList]
    cases e : l[i]? with
    | none => simp [e] at h1
    | some b => simp [e] at h1; rw [h1]
  intro fuel
  induction fuel with
  | zero =>
    intro l a w hI hC hc
    rcases hstep l a w hI hC with ⟨hne, _⟩ | h
    · cases hr : Region.ready md ops l with
      | nil => exact absurd hr hne
      | cons i rs =>
        have := count_set (key l i (by rw [hr]; simp))
        omega
    · exact h _ hc
  | succ fuel ih =>
    intro l a w hI hC hc
    rcases hstep l a w hI hC with ⟨hne, hs⟩ | h
    · refine ⟨fun h => absurd h hne, fun i hi => wpOp_mono (fun a' w' h' => ih _ a' w' h' (hC.step hi) ?_) (hs i hi)⟩
      have := count_set (key l i hi)
      simp only [Array.toList_setIfInBounds]
      omega
    · exact h _ hc

/-- Where nothing may come up any more, all have come up. -/
theorem all_listed {l : Array Bool} (hs : l.size = ops.size) (hf : ∀ (j : Nat) (o : Oper), ops[j]? = some o → ∀ e ∈ o.after, e.on < j) (hr : Region.ready md ops l = []) : ∀ j, j < ops.size → l.getD j false = true := by
  intro j
  induction j using Nat.strongRecOn with
  | ind j ih =>
    intro hj
    cases e : l.getD j false with
    | true => rfl
    | false =>
      exfalso
      have h0 : l.getD j true = false := by
        rw [Array.getD_eq_getD_getElem?] at e ⊢
        have : j < l.size := by omega
        simpa [this] using e
      have hm : j ∈ Region.ready md ops l := mem_ready.2 ⟨h0, ops[j], by simp [hj], fun e he _ => by
        have h1 := hf j ops[j] (by simp [hj]) e he
        exact ih e.on h1 (by omega)⟩
      rw [hr] at hm
      cases hm

theorem wpOp_plain {i : Nat} {o : Oper} {K : Act → World → Prop} {a : Act} {w : World} (ho : ops[i]? = some o) (hg : o.guard = none) (h : o.wp P a w K Q) : wpOp P ops Q i K a w := by
  unfold wpOp
  rw [ho]
  have hw : Region.wanted o (yielded ops a.tmps) = true := by simp [Region.wanted, hg]
  simp only [hw, if_true]
  exact .inl h

theorem wp_move {o : Oper} {K : Act → World → Prop} {a : Act} {w : World} {x : Operand} (ho : o.op = .move x) (h : K (a.put o.dst (a.eval x)) w) : o.wp P a w K Q := by
  unfold Oper.wp execOp
  simp only [ho, Sem.run_pure, Oper.upon]
  exact h
theorem wp_assign {o : Oper} {K : Act → World → Prop} {a : Act} {w : World} {x : Operand} (ho : o.op = .assign x) (h : K (a.put o.dst (a.eval x)) w) : o.wp P a w K Q := by
  unfold Oper.wp execOp
  simp only [ho, Sem.run_pure, Oper.upon]
  exact h
theorem wp_makeSlice {o : Oper} {K : Act → World → Prop} {a : Act} {w w' : World} {t : TypeId} {x y : Operand} {v : Value} (ho : o.op = .makeSlice t x y) (hr : (Instr.makeSlice t (a.eval x) (a.eval y)).run P w = .ok v w') (h : K (a.put o.dst v) w') : o.wp P a w K Q := by
  unfold Oper.wp execOp
  simp only [ho, Sem.run_bind, Sem.run_pure, hr, Result.andThen_ok, Oper.upon]
  exact h
theorem wp_build {o : Oper} {K : Act → World → Prop} {a : Act} {w w' : World} {t : TypeId} {ps : Array (Nat × Operand)} {v : Value} (ho : o.op = .build t ps) (hr : (Instr.build t (ps.map fun (i, x) => (i, a.eval x))).run P w = .ok v w') (h : K (a.put o.dst v) w') : o.wp P a w K Q := by
  unfold Oper.wp execOp
  simp only [ho, Sem.run_bind, Sem.run_pure, hr, Result.andThen_ok, Oper.upon]
  exact h
theorem wp_box {o : Oper} {K : Act → World → Prop} {a : Act} {w w' : World} {t : TypeId} {x : Operand} {v : Value} (ho : o.op = .box t x) (hr : (Instr.box t (a.eval x)).run P w = .ok v w') (h : K (a.put o.dst v) w') : o.wp P a w K Q := by
  unfold Oper.wp execOp
  simp only [ho, Sem.run_bind, Sem.run_pure, hr, Result.andThen_ok, Oper.upon]
  exact h
end

theorem eval_tmp {a : Act} {k : Nat} {v : Value} (h : a.tmps[k]? = some v) : a.eval (.tmp k) = v := by
  show a.tmps.getD k undef = v
  rw [Array.getD_eq_getD_getElem?, h]; rfl
theorem put_same {a : Act} {k : Nat} {v : Value} (h : k < a.tmps.size) : (a.put (some k) v).tmps[k]? = some v := by
  show (a.tmps.setIfInBounds k v)[k]? = some v
  simp [h]
theorem put_other {a : Act} {k j : Nat} {v : Value} (h : j ≠ k) : (a.put (some k) v).tmps[j]? = a.tmps[j]? := by
  show (a.tmps.setIfInBounds k v)[j]? = a.tmps[j]?
  rw [Array.getElem?_setIfInBounds, if_neg (fun e => h e.symm)]
theorem put_size {a : Act} {k : Nat} {v : Value} : (a.put (some k) v).tmps.size = a.tmps.size := by
  show (a.tmps.setIfInBounds k v).size = a.tmps.size
  simp
theorem put_defers {a : Act} {k : Nat} {v : Value} : (a.put (some k) v).defers = a.defers := rfl
end Go.Proofs.Qxb6000043a
