import Derived.Test.Qxb6000043aCycP
import Derived.Test.Qxb6000043aCliqL
import Derived.StillTailTactics
namespace Go.Proofs.Qxb6000043a
open Go.RowKit

/-- A call that only reads, of three arguments, as a step of a region that draws. -/
theorem step_call3 {P : Program} {ops : Array Oper} {o : Oper} {a : Act} {w : World} {K : Act → World → Prop} {Q : Exit → Act → World → Prop} {E : Prop} (hgd : o.guard = none) {f : FuncId} {x y z : Operand} {t1 t2 t3 : TypeId}
    (ho : o.op = .call { callee := .value (.func f), args := #[x, y, z], argTypes := #[t1, t2, t3] }) (vx vy vz v : Value) (hx : a.eval x = vx) (hy : a.eval y = vy) (hz : a.eval z = vz)
    (hf : (callFunc f #[vx, vy, vz]).run P w = .ok (.enter f #[vx, vy, vz]) w) (hc : Calls P f #[vx, vy, vz] w fun e w' => e = .returned v ∧ w = w') (h : K (a.put o.dst v) w) :
    if Region.wanted o (yielded ops a.tmps) = true then Oper.wp P o a w K Q else E := by
  have hw : Region.wanted o (yielded ops a.tmps) = true := by simp [Region.wanted, hgd]
  rw [if_pos hw]
  have he : a.eval (.func f) = .func (.func f) #[] #[] := rfl
  unfold Oper.wp execOp
  simp only [ho, resolve, invoke, he, hx, hy, hz, List.map_toArray, List.map_cons, List.map_nil, Sem.run_bind, Sem.run_pure, Result.andThen_ok, Deferred.ofValue, Array.append_empty, Array.empty_append, hf]
  refine Calls.mono hc ?_
  rintro e w' ⟨rfl, rfl⟩
  exact h
/-- The same, its slot said first. -/
theorem step_call3d {P : Program} {ops : Array Oper} {o : Oper} {a : Act} {w : World} {K : Act → World → Prop} {Q : Exit → Act → World → Prop} {E : Prop} {d : Nat} (_hd : o.dst = some d) (hgd : o.guard = none) {f : FuncId} {x y z : Operand} {t1 t2 t3 : TypeId}
    (ho : o.op = .call { callee := .value (.func f), args := #[x, y, z], argTypes := #[t1, t2, t3] }) (vx vy vz v : Value) (hx : a.eval x = vx) (hy : a.eval y = vy) (hz : a.eval z = vz)
    (hf : (callFunc f #[vx, vy, vz]).run P w = .ok (.enter f #[vx, vy, vz]) w) (hc : Calls P f #[vx, vy, vz] w fun e w' => e = .returned v ∧ w = w') (h : K (a.put o.dst v) w) :
    if Region.wanted o (yielded ops a.tmps) = true then Oper.wp P o a w K Q else E := step_call3 hgd ho vx vy vz v hx hy hz hf hc h
/-- A region whose first n operations only read, the others coming in their order: in the world's own word. -/
theorem region_still_tail {P : Program} {id : Nat} {Q : Exit → Act → World → Prop} {a : Act} {w : World} {l : List Oper} (n : Nat) (hm : P.follows .mixedOrders = true) (hB : Region.lexTailB .any l.toArray n = true)
    (h : wpStill P l.toArray w.drew (fun a' => wpList P l.toArray Q (l.drop n) a' w.drew) (l.take n) a) : (Code.region id l.toArray true).wp P Q a w := wp_region_still_tail n hm hB h
theorem enter43 (x y z : Value) (w : World) : (callFunc 43 #[x, y, z]).run Try.prog w = .ok (.enter 43 #[x, y, z]) w := by go_simp

/-- What the arrays hold. -/
def capF (M : Nat) (P : Nat → Nat) : Nat → Nat := fun x => capN M (P x)
theorem capF_upd {M : Nat} {P : Nat → Nat} {w d : Nat} (x : Nat) : updF (capF M P) w (capN M (capN M (P w) + capN M d)) x = capF M (updF P w (P w + d)) x := by
  by_cases e : x = w
  · subst e; simp [updF, capF, cap_cap]
  · simp [updF, capF, e]

def posZ (ord : List Nat) : Nat → Int := fun x => (posF ord x : Int)

/-- The answer. -/
def cycT (E : Nat → List Nat) (r : Nat) (ord : List Nat) : Nat := GG E r (posF ord) r + 2 * FF E r (posF ord) r
def OffZ (N : Nat) (ord : List Nat) (P L : Nat → Nat) : Prop := ∀ x, x < N → x ∉ ord → P x = 0 ∧ L x = 0
def CycPost (c : YC) (r : Nat) (ord : List Nat) (e : Ending) (w' : World) : Prop :=
  e = .returned (.int .i64 ((capN (c.lim + 1) (cycT c.E r ord) : Nat) : Int)) ∧ ∃ (work : Int) (ordV pathV : Value) (P L : Nat → Nat), YS c w' work ordV ord pathV [] (posZ ord) P L ∧ OffZ c.N ord P L

/-- i entries of the order are still to come. -/
def CycIn (c : YC) (r : Nat) (ord : List Nat) (ordV pathV : Value) (i : Nat) (rest : Nat) (s7 : Value) (wr : World) : Prop :=
  ∃ (S : Nat) (work : Int) (P L : Nat → Nat), s7 = .int .i64 ((capN (c.lim + 1) S : Nat) : Int) ∧ YS c wr work ordV ord pathV [] (posZ ord) (capF (c.lim + 1) P) (capF (c.lim + 1) L) ∧ phi c.E r (posF ord) S (ord.take i) P L + rest = cycT c.E r ord ∧ OffZ c.N ord P L

theorem take_last {l : List Nat} {j : Nat} (h : j < l.length) : l.take (j + 1) = l.take j ++ [l[j]] := List.take_succ_eq_append_getElem h
theorem phi_open {E : Nat → List Nat} {r : Nat} {pos : Nat → Nat} {S : Nat} {ord : List Nat} {P L : Nat → Nat} {j : Nat} (h : j < ord.length) : phi E r pos S (ord.take (j + 1)) P L = phi E r pos S (ord.take j) P L + ((E ord[j]).map (dl E r pos (P ord[j]) (L ord[j]) ord[j])).sum := by
  rw [dl_all, phi, phi, take_last h, List.map_append, List.sum_append]
  simp [Nat.add_assoc]
theorem pos_mem_take {ord : List Nat} (nd : ord.Nodup) {w j : Nat} (hj : j < ord.length) (hw : w ∈ ord) (h : posF ord w < posF ord ord[j]) : w ∈ ord.take j := by
  obtain ⟨i, hi, rfl⟩ := List.mem_iff_getElem.1 hw
  rw [posF_at nd hi, posF_at nd hj] at h
  rw [List.mem_take_iff_getElem]
  exact ⟨i, by omega, rfl⟩

/-- One edge more, into the root. -/
theorem cin_root {E : Nat → List Nat} {r : Nat} {pos : Nat → Nat} {S T : Nat} {rem : List Nat} {P L : Nat → Nat} {p l v u : Nat} (hu : u < (E v).length) (hr : (E v).getD u 0 = r) (h : phi E r pos S rem P L + (((E v).drop u).map (dl E r pos p l v)).sum = T) :
    phi E r pos (S + (l + p + p)) rem P L + (((E v).drop (u + 1)).map (dl E r pos p l v)).sum = T := by
  have e : (E v).getD u 0 = (E v)[u] := by simp [hu]
  rw [List.drop_eq_getElem_cons hu, List.map_cons, List.sum_cons, ← e, hr, dl_root] at h
  unfold phi at h ⊢
  omega
theorem cin_none {E : Nat → List Nat} {r : Nat} {pos : Nat → Nat} {S T : Nat} {rem : List Nat} {P L : Nat → Nat} {p l v u : Nat} (hu : u < (E v).length) (hr : (E v).getD u 0 ≠ r) (hp : ¬ pos ((E v).getD u 0) < pos v) (h : phi E r pos S rem P L + (((E v).drop u).map (dl E r pos p l v)).sum = T) :
    phi E r pos S rem P L + (((E v).drop (u + 1)).map (dl E r pos p l v)).sum = T := by
  have e : (E v).getD u 0 = (E v)[u] := by simp [hu]
  rw [List.drop_eq_getElem_cons hu, List.map_cons, List.sum_cons, ← e, dl_none hr hp] at h
  omega
theorem cin_edge {E : Nat → List Nat} {r : Nat} {pos : Nat → Nat} {S T : Nat} {rem : List Nat} {P L : Nat → Nat} {p l v u : Nat} (hu : u < (E v).length) (hn : rem.Nodup) (hm : (E v).getD u 0 ∈ rem) (hr : (E v).getD u 0 ≠ r) (hp : pos ((E v).getD u 0) < pos v) (h : phi E r pos S rem P L + (((E v).drop u).map (dl E r pos p l v)).sum = T) :
    phi E r pos S rem (updF P ((E v).getD u 0) (P ((E v).getD u 0) + p)) (updF L ((E v).getD u 0) (L ((E v).getD u 0) + (l + p))) + (((E v).drop (u + 1)).map (dl E r pos p l v)).sum = T := by
  have e : (E v).getD u 0 = (E v)[u] := by simp [hu]
  rw [phi_edge hn hm hr hp]
  rw [List.drop_eq_getElem_cons hu, List.map_cons, List.sum_cons, ← e] at h
  omega
theorem cap3 (M S l p : Nat) : capN M (capN M S + capN M (capN M (capN M l + capN M p) + capN M p)) = capN M (S + (l + p + p)) := by rw [cap_cap M l p, cap_cap M (l + p) p, cap_cap]
end Go.Proofs.Qxb6000043a
