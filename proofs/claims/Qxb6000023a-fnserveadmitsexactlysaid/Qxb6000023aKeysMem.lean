import Derived.Test.Qxb6000023aAfter
import Derived.Test.Qxb6000023aInRange
namespace Go.Proofs.Qxb6000023a
open Go.RowKit

/-- A block that holds v somewhere is none whose cells are all other. -/
theorem ne_block {w : World} {b b' o : Nat} {t : TypeId} {n : Nat} {f : Nat → Value} {v : Value} (hr : w.rowIs b' t n f) (hc : w.cell? ⟨b, o, none⟩ = some v) (hf : ∀ i, i < n → f i ≠ v) : b ≠ b' := by
  rintro rfl
  obtain ⟨c, hh, hsz, hcc⟩ := hr
  simp only [World.cell?, hh] at hc
  by_cases ho : o < n
  · have := hcc o ho
    simp [this] at hc
    exact hf o ho hc
  · rw [Array.getElem?_eq_none (by omega)] at hc
    simp at hc

/-- A row of no bytes and no slices. -/
def Plain (n : Nat) (f : Nat → Value) : Prop := ∀ i, i < n → (∀ x, f i ≠ .int .u8 x) ∧ ∀ a l c, f i ≠ .slice a l c

theorem Bts.set_row {w : World} {b' : Nat} {t : TypeId} {n : Nat} {f : Nat → Value} {a : Option Addr} {l : List Nat} (hr : w.rowIs b' t n f) (hf : Plain n f) (h : Bts w a l) (j : Nat) (v : Value) : Bts (w.setCell ⟨b', j, none⟩ v) a l := by
  intro hl
  obtain ⟨b, off, e, hc⟩ := h hl
  refine ⟨b, off, e, fun i hi => ?_⟩
  have hne := ne_block hr (hc i hi) (fun x hx => (hf x hx).1 _)
  rw [World.cell?_setCell_other _ _ _ _ (fun e => hne (congrArg Addr.block e).symm)]
  exact hc i hi

theorem Bd.set_row {w : World} {b' : Nat} {t : TypeId} {n : Nat} {f : Nat → Value} {p : Option Addr} {e : Bool} {o : Option (List Nat)} (hr : w.rowIs b' t n f) (hf : Plain n f) (h : Bd w p e o) (j : Nat) (v : Value) : Bd (w.setCell ⟨b', j, none⟩ v) p e o := by
  cases o with
  | none => exact h
  | some l =>
    obtain ⟨b, a, c, h1, h2, h3, h4⟩ := h
    have hne := ne_block hr h2 (fun x hx => (hf x hx).2 _ _ _)
    refine ⟨b, a, c, h1, ?_, ?_, h4.set_row hr hf j v⟩
    · rw [World.cell?_setCell_other _ _ _ _ (fun e => hne (congrArg Addr.block e).symm)]; exact h2
    · rw [World.cell?_setCell_other _ _ _ _ (fun e => hne (congrArg Addr.block e).symm)]; exact h3

theorem Col.set_row {w : World} {b' : Nat} {t : TypeId} {n : Nat} {f : Nat → Value} {a : Option Addr} {m : Nat} {o : Option (List Nat)} (hr : w.rowIs b' t n f) (hf : Plain n f) (h : Col w a m o) (j : Nat) (v : Value) : Col (w.setCell ⟨b', j, none⟩ v) a m o := by
  cases o with
  | none => exact h
  | some l => exact ⟨h.1, h.2.1, h.2.2.set_row hr hf j v⟩

theorem grownBy_set {w wr : World} {b : Nat} (h : w.grownBy wr (some b)) (o : Nat) (v : Value) : w.grownBy (wr.setCell ⟨b, o, none⟩ v) (some b) :=
  ⟨h.os, h.tape, h.output, by rw [Deep.nblk_setCell]; exact h.size, fun k hk hne => by
    rw [Deep.blk_setCell_other _ _ _ _ (by intro e; exact hne (by rw [e]))]; exact h.block k hk hne⟩

theorem Bts.grown {w w' : World} {b' : Nat} {t : TypeId} {n : Nat} {f : Nat → Value} {a : Option Addr} {l : List Nat} (hr : w.rowIs b' t n f) (hf : Plain n f) (h : Bts w a l) (hg : w.grownBy w' (some b')) : Bts w' a l := by
  intro hl
  obtain ⟨b, off, e, hc⟩ := h hl
  refine ⟨b, off, e, fun i hi => ?_⟩
  have hne := ne_block hr (hc i hi) (fun x hx => (hf x hx).1 _)
  exact hg.cell (hc i hi) (by simpa using hne)
theorem Bd.grown {w w' : World} {b' : Nat} {t : TypeId} {n : Nat} {f : Nat → Value} {p : Option Addr} {e : Bool} {o : Option (List Nat)} (hr : w.rowIs b' t n f) (hf : Plain n f) (h : Bd w p e o) (hg : w.grownBy w' (some b')) : Bd w' p e o := by
  cases o with
  | none => exact h
  | some l =>
    obtain ⟨b, a, c, h1, h2, h3, h4⟩ := h
    have hne := ne_block hr h2 (fun x hx => (hf x hx).2 _ _ _)
    exact ⟨b, a, c, h1, hg.cell h2 (by simpa using hne), hg.cell h3 (by simpa using hne), h4.grown hr hf hg⟩

/-- A Range as its cells hold it. -/
def rng (p1 p2 : Option Addr) : Nat → Value := fun i => if i = 0 then .pointer p1 else if i = 1 then .pointer p2 else if i = 2 then .bool false else .int .i64 0
theorem rng_plain (p1 p2 : Option Addr) (n : Nat) : Plain n (rng p1 p2) := by
  intro i _
  simp only [rng]
  constructor
  · intro x; split; simp; split; simp; split; simp; simp
  · intro a l c; split; simp; split; simp; split; simp; simp

/-- A span as its cells hold it. -/
def spn (v0 v1 : Value) (le he nr : Bool) : Nat → Value := fun i => if i = 0 then v0 else if i = 1 then v1 else if i = 2 then .bool le else if i = 3 then .bool he else .bool nr

/-- The memory of keys: the span's box, the result's place, r. -/
structure KB (w wc : World) (v0 v1 : Value) (le he nr : Bool) (p1 p2 : Option Addr) : Prop where
  below : Below w.heap.size w wc
  sp : wc.rowIs w.heap.size 50 5 (spn v0 v1 le he nr)
  res : wc.rowIs (w.heap.size + 1) 27 4 (rng none none)
  r : wc.rowIs (w.heap.size + 2) 27 4 (rng p1 p2)

variable {w wc : World} {v0 v1 : Value} {le he nr : Bool} {p1 p2 : Option Addr}

theorem KB.next (h : KB w wc v0 v1 le he nr p1 p2) {w' : World} (hb : Below wc.heap.size wc w') : KB w w' v0 v1 le he nr p1 p2 :=
  ⟨h.below.trans (hb.mono h.below.size), Below.row hb h.sp.lt h.sp, Below.row hb h.res.lt h.res, Below.row hb h.r.lt h.r⟩
theorem KB.alloc (h : KB w wc v0 v1 le he nr p1 p2) (o : Obj) : KB w (wc.alloc o) v0 v1 le he nr p1 p2 := h.next ((Below.refl _ _).alloc (Nat.le_refl _) o)
theorem KB.drewN (h : KB w wc v0 v1 le he nr p1 p2) (k : Nat) : KB w (wc.drewN k) v0 v1 le he nr p1 p2 := h.next (below_drewN (Below.refl _ _) k)
theorem KB.setLower (h : KB w wc v0 v1 le he nr p1 p2) (p : Option Addr) : KB w (wc.setCell ⟨w.heap.size + 2, 0, none⟩ (.pointer p)) v0 v1 le he nr p p2 :=
  ⟨h.below.setCell (by simp) _, h.sp.setOther (by simp) _, h.res.setOther (by simp) _, (h.r.set 0 _).congr (fun j _ => by by_cases e : j = 0 <;> simp [rng, e])⟩
theorem KB.setUpper (h : KB w wc v0 v1 le he nr p1 p2) (p : Option Addr) : KB w (wc.setCell ⟨w.heap.size + 2, 1, none⟩ (.pointer p)) v0 v1 le he nr p1 p :=
  ⟨h.below.setCell (by simp) _, h.sp.setOther (by simp) _, h.res.setOther (by simp) _, (h.r.set 1 _).congr (fun j _ => by
    by_cases e : j = 1
    · simp [rng, e]
    · by_cases e0 : j = 0 <;> simp [rng, e, e0])⟩

theorem kb_start (w : World) (v0 v1 : Value) (le he nr : Bool) :
    KB w (((w.alloc (.cells #[v0, v1, .bool le, .bool he, .bool nr] 50)).alloc (.cells #[.pointer none, .pointer none, .bool false, .int .i64 0] 27)).alloc (.cells #[.pointer none, .pointer none, .bool false, .int .i64 0] 27)) v0 v1 le he nr none none := by
  have five : ∀ i, i < 5 → (#[v0, v1, .bool le, .bool he, .bool nr] : Array Value)[i]? = some (spn v0 v1 le he nr i) := by
    intro i hi
    match i, hi with
    | 0, _ => rfl
    | 1, _ => rfl
    | 2, _ => rfl
    | 3, _ => rfl
    | 4, _ => rfl
  have four : ∀ i, i < 4 → (#[.pointer none, .pointer none, .bool false, .int .i64 0] : Array Value)[i]? = some (rng none none i) := by
    intro i hi
    match i, hi with
    | 0, _ => rfl
    | 1, _ => rfl
    | 2, _ => rfl
    | 3, _ => rfl
  have r1 := World.rowIs_alloc w #[v0, v1, .bool le, .bool he, .bool nr] 50 _ five
  have r2 := World.rowIs_alloc (w.alloc (.cells #[v0, v1, .bool le, .bool he, .bool nr] 50)) #[.pointer none, .pointer none, .bool false, .int .i64 0] 27 _ four
  have r3 := World.rowIs_alloc ((w.alloc (.cells #[v0, v1, .bool le, .bool he, .bool nr] 50)).alloc (.cells #[.pointer none, .pointer none, .bool false, .int .i64 0] 27)) #[.pointer none, .pointer none, .bool false, .int .i64 0] 27 _ four
  rw [Deep.nblk_alloc] at r2 r3
  rw [Deep.nblk_alloc] at r3
  exact ⟨(((Below.refl _ _).alloc (Nat.le_refl _) _).alloc (by simp) _).alloc (by simp; omega) _, (r1.alloc _).alloc _, r2.alloc _, r3⟩

/-- slices.Concat, its result as bytes. -/
theorem concat_bts (b : Nat) (a1 a2 : Option Addr) (l1 l2 : List Nat) (c1 c2 cb0 : Nat) (w : World)
    (q0 : w.cell? ⟨b, 0, none⟩ = some (.slice a1 l1.length c1)) (q1 : w.cell? ⟨b, 1, none⟩ = some (.slice a2 l2.length c2)) (h1 : Bts w a1 l1) (h2 : Bts w a2 l2)
    (n1 : a1 = none → l1 = []) (n2 : a2 = none → l2 = []) (hp : 0 < l1.length + l2.length) (b1 : l1.length ≤ 4194304) (b2 : l2.length ≤ 4194304) :
    Calls Try.prog 29 #[.slice (some ⟨b, 0, none⟩) 2 cb0] w fun e w' => ∃ g cap, e = .returned (.slice (some ⟨g, 0, none⟩) (l1 ++ l2).length cap) ∧ (l1 ++ l2).length ≤ cap ∧ cap ≤ 9223372036854775807 ∧
      Bts w' (some ⟨g, 0, none⟩) (l1 ++ l2) ∧ Below w.heap.size w w' := by
  refine (concat_any b a1 a2 l1 l2 c1 c2 cb0 w q0 q1 h1 h2 n1 n2 hp b1 b2).mono ?_
  rintro e w' ⟨cap, rfl, h3, h4, h5, h6⟩
  exact ⟨_, cap, rfl, h3, h4, Bts.of_own h5 rfl, h6⟩

/-- A new Bound. -/
theorem bd_new {w1 : World} {a : Option Addr} {l : List Nat} {c : Nat} (e : Bool) (h : Bts w1 a l) : Bd (w1.alloc (.cells #[.slice a l.length c, .bool e] 53)) (some ⟨w1.heap.size, 0, none⟩) e (some l) :=
  ⟨w1.heap.size, a, c, rfl, by simp, by simp, h.below ((Below.refl _ _).alloc (Nat.le_refl _) _)⟩

/-- 'slices.Concat(p, x)' with its list of arguments laid in a new block. -/
theorem cat_at (wc : World) (ap a : Option Addr) (lp l : List Nat) (cp c : Nat) (h1 : Bts wc ap lp) (h2 : Bts wc a l) (n1 : ap = none → lp = []) (n2 : a = none → l = []) (hp : 0 < lp.length + l.length) (b1 : lp.length ≤ 4194304) (b2 : l.length ≤ 4194304) :
    Calls Try.prog 29 #[.slice (some ⟨wc.heap.size, 0, none⟩) 2 2] (wc.alloc (.cells #[.slice ap lp.length cp, .slice a l.length c] 22)) fun e w' => ∃ g cap, e = .returned (.slice (some ⟨g, 0, none⟩) (lp ++ l).length cap) ∧ (lp ++ l).length ≤ cap ∧ cap ≤ 9223372036854775807 ∧
      Bts w' (some ⟨g, 0, none⟩) (lp ++ l) ∧ Below wc.heap.size wc w' := by
  have hb : Below wc.heap.size wc (wc.alloc (.cells #[.slice ap lp.length cp, .slice a l.length c] 22)) := (Below.refl _ _).alloc (Nat.le_refl _) _
  refine (concat_bts wc.heap.size ap a lp l cp c 2 _ (by simp) (by simp) (h1.below hb) (h2.below hb) n1 n2 hp b1 b2).mono ?_
  rintro e w' ⟨g, cap, rfl, h3, h4, h5, h6⟩
  exact ⟨g, cap, rfl, h3, h4, h5, hb.trans (h6.mono (by simp))⟩

theorem KB.spCells (h : KB w wc v0 v1 le he nr p1 p2) : wc.cell? ⟨w.heap.size, 0, none⟩ = some v0 ∧ wc.cell? ⟨w.heap.size, 1, none⟩ = some v1 ∧ wc.cell? ⟨w.heap.size, 2, none⟩ = some (.bool le) ∧ wc.cell? ⟨w.heap.size, 3, none⟩ = some (.bool he) :=
  ⟨h.sp.cell (i := 0) (by omega), h.sp.cell (i := 1) (by omega), h.sp.cell (i := 2) (by omega), h.sp.cell (i := 3) (by omega)⟩
theorem KB.resCells (h : KB w wc v0 v1 le he nr p1 p2) : wc.cell? ⟨w.heap.size + 1, 0, none⟩ = some (.pointer none) ∧ wc.cell? ⟨w.heap.size + 1, 1, none⟩ = some (.pointer none) ∧ wc.cell? ⟨w.heap.size + 1, 2, none⟩ = some (.bool false) ∧ wc.cell? ⟨w.heap.size + 1, 3, none⟩ = some (.int .i64 0) ∧ ∀ i, wc.frozen? ⟨w.heap.size + 1, i, none⟩ = false :=
  ⟨h.res.cell (i := 0) (by omega), h.res.cell (i := 1) (by omega), h.res.cell (i := 2) (by omega), h.res.cell (i := 3) (by omega), fun i => h.res.frozen i⟩
theorem KB.rCells (h : KB w wc v0 v1 le he nr p1 p2) : wc.cell? ⟨w.heap.size + 2, 0, none⟩ = some (.pointer p1) ∧ wc.cell? ⟨w.heap.size + 2, 1, none⟩ = some (.pointer p2) ∧ wc.cell? ⟨w.heap.size + 2, 2, none⟩ = some (.bool false) ∧ wc.cell? ⟨w.heap.size + 2, 3, none⟩ = some (.int .i64 0) ∧ ∀ i, wc.frozen? ⟨w.heap.size + 2, i, none⟩ = false :=
  ⟨h.r.cell (i := 0) (by omega), h.r.cell (i := 1) (by omega), h.r.cell (i := 2) (by omega), h.r.cell (i := 3) (by omega), fun i => h.r.frozen i⟩
end Go.Proofs.Qxb6000023a
