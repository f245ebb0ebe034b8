import Derived.Test.Qxb6000043aGood
import Derived.Test.Qxb6000043aCopies
namespace Go.Proofs.Qxb6000043a
open Go.RowKit

/-- It is a stepBound of this graph. -/
def IsOf (b : SBk) (N : Nat) (E : Nat → List Nat) (lim : Nat) : Prop := b.N = N ∧ b.E = E ∧ b.Wt = rvT E N ∧ b.lim = lim
def SB (b : SBk) (N : Nat) (E : Nat → List Nat) (lim : Nat) (w : World) (Dm : Nat → Prop) (m : Nat) (ol : List Nat) (lf : Nat → Int) : Prop := IsOf b N E lim ∧ GoodE b w Dm m ol lf

theorem SB.keep {b : SBk} {N : Nat} {E : Nat → List Nat} {lim : Nat} {w w' : World} {Dm : Nat → Prop} {m : Nat} {ol : List Nat} {lf : Nat → Int} (h : SB b N E lim w Dm m ol lf) {X : Nat → Prop} (hk : Kept X w w') (hx : ∀ k, Dm k → k < w.heap.size → ¬ X k) : SB b N E lim w' Dm m ol lf := ⟨h.1, h.2.keep hk hx⟩
theorem SB.mono {b : SBk} {N : Nat} {E : Nat → List Nat} {lim : Nat} {w : World} {Dm Dm' : Nat → Prop} {m m' : Nat} {ol : List Nat} {lf : Nat → Int} (h : SB b N E lim w Dm m ol lf) (hd : ∀ k, Dm k → k < w.heap.size → Dm' k) (hm : m ≤ m') : SB b N E lim w Dm' m' ol lf := ⟨h.1, h.2.mono hd hm⟩
theorem SB.below {b : SBk} {N : Nat} {E : Nat → List Nat} {lim : Nat} {w w' : World} {Dm : Nat → Prop} {m : Nat} {ol : List Nat} {lf : Nat → Int} (h : SB b N E lim w Dm m ol lf) (hb : Below w.heap.size w w') : SB b N E lim w' Dm m ol lf := ⟨h.1, h.2.below hb⟩

theorem sb_new {N : Nat} {E : Nat → List Nat} {lim : Nat} {w : World} {e : Ending} {w' : World} (h : NewPost N E (rvT E N) lim w e w') : ∃ b : SBk, e = .returned (.pointer (some ⟨b.B, 0, none⟩)) ∧ Below w.heap.size w w' ∧ SB b N E lim w' (fun k => w.heap.size ≤ k) 0 [] (fun _ => 0) := by
  obtain ⟨b, h1, h2, h3, h4, h5, h6, h7⟩ := good_new h
  exact ⟨b, h1, h2, ⟨h3, h4, h5, h6⟩, h7⟩

def CycleEnd (b : SBk) (N : Nat) (E : Nat → List Nat) (lim r m : Nat) (ord : List Nat) (w : World) (Dm : Nat → Prop) (e : Ending) (w' : World) : Prop :=
  e = .returned (.int .i64 ((capN (lim + 1) (cycT E r ord) : Nat) : Int)) ∧ SB b N E lim w' (fun k => Dm k ∨ w.heap.size ≤ k) m ord (posZ ord) ∧ Kept Dm w w'
theorem sb_cycle {b : SBk} {N : Nat} {E : Nat → List Nat} {lim : Nat} {w : World} {Dm : Nat → Prop} {m : Nat} {ol : List Nat} {lf : Nat → Int} (h : SB b N E lim w Dm m ol lf) (hg : IsGraph N E) (hl : lim ≤ 9223372036854775806) {r : Nat} (hr : r < N) (bk : Bool) (ord : List Nat) (hp : Post (rowB E bk) r ord) :
    Calls Try.prog 30 #[.pointer (some ⟨b.B, 0, none⟩), .int .i32 r, .bool bk] w (CycleEnd b N E lim r m ord w Dm) := by
  obtain ⟨hi, h⟩ := h
  have hi' := hi
  obtain ⟨rfl, rfl, e3, rfl⟩ := hi
  refine (good_cycle h hg hl hr bk ord hp).mono ?_
  rintro e w' ⟨h1, h2, h3⟩
  exact ⟨h1, ⟨hi', h2⟩, h3⟩

def CliqueEnd (b : SBk) (N : Nat) (E : Nat → List Nat) (lim r m : Nat) (ol : List Nat) (lf : Nat → Int) (w : World) (Dm : Nat → Prop) (e : Ending) (w' : World) : Prop :=
  e = .returned (.int .i64 ((cliqueF (lim + 1) (clq E (rvT E N) r) : Nat) : Int)) ∧ SB b N E lim w' (fun k => Dm k ∨ w.heap.size ≤ k) (m + 4097) ol lf ∧ Kept Dm w w'
theorem sb_clique {b : SBk} {N : Nat} {E : Nat → List Nat} {lim : Nat} {w : World} {Dm : Nat → Prop} {m : Nat} {ol : List Nat} {lf : Nat → Int} (h : SB b N E lim w Dm m ol lf) (hg : IsGraph N E) (hl : lim ≤ 9223372036854775806) (hm : m ≤ 4611686018427387904) {r : Nat} (hr : r < N) :
    Calls Try.prog 15 #[.pointer (some ⟨b.B, 0, none⟩), .int .i32 r] w (CliqueEnd b N E lim r m ol lf w Dm) := by
  obtain ⟨hi, h⟩ := h
  have hi' := hi
  obtain ⟨rfl, rfl, e3, rfl⟩ := hi
  refine (good_clique h hg e3 hl hm hr).mono ?_
  rintro e w' ⟨h1, h2, h3⟩
  rw [e3] at h1
  exact ⟨h1, ⟨hi', h2⟩, h3⟩

theorem sb_order {b : SBk} {N : Nat} {E : Nat → List Nat} {lim : Nat} {w : World} {Dm : Nat → Prop} {m : Nat} {ol : List Nat} {lf : Nat → Int} (h : SB b N E lim w Dm m ol lf) : Calls Try.prog 22 #[.pointer (some ⟨b.B, 0, none⟩)] w (CopyPost w ol.length (fun i => atN ol i)) := by
  obtain ⟨_, mk, work, oV, pV, cV, cs, bA, wA, P, L, _, g⟩ := h
  obtain ⟨a, c, rfl, hrow⟩ := owns_row g.oo
  exact order_any b.B a ol.length c (fun i => atN ol i) w (g.st.cell (i := 6) (by omega)) hrow g.olen
theorem sb_left {b : SBk} {N : Nat} {E : Nat → List Nat} {lim : Nat} {w : World} {Dm : Nat → Prop} {m : Nat} {ol : List Nat} {lf : Nat → Int} (h : SB b N E lim w Dm m ol lf) (hN : N ≤ 4096) : Calls Try.prog 23 #[.pointer (some ⟨b.B, 0, none⟩)] w (CopyPost w N lf) := by
  obtain ⟨⟨rfl, _⟩, mk, work, oV, pV, cV, cs, bA, wA, P, L, _, g⟩ := h
  exact left_any b.B (some ⟨b.gl, 0, none⟩) b.N b.N lf w (g.st.cell (i := 5) (by omega)) (Row.of_rowIs g.rl) hN
end Go.Proofs.Qxb6000043a
