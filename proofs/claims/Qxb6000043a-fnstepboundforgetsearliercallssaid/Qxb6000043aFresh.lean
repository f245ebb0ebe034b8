import Derived.Test.Qxb6000043aCliq
import Derived.Test.Qxb6000043aCliqL
import Derived.Test.Qxb6000043aGraph
namespace Go.Proofs.Qxb6000043a
open Go.RowKit

set_option maxHeartbeats 1000000 in
theorem zzclique_any (c : CC) (hf : CFix c) (work : Int) (cs : List Nat) (bA wA : Nat → Int) (m0 r : Nat) (w : World) (hw : c.w = w)
    (hb : CBeg c work cs bA wA m0) (hm : m0 ≤ 4611686018427387904) (hr : r < c.N) :
    Calls Try.prog 15 #[.pointer (some ⟨c.B, 0, none⟩), .int .i32 r] w (CliquePost c r m0) := by
  have h := clique_core c hf work cs bA wA m0 r w hw hb hm hr
  clear hf hb
  go_enter Try.func15, Try.ntmps15
  go_wp2_with fail
  refine h.mono ?_
  rintro e w' ⟨rfl, hp⟩
  clear h
  have HP : Hid (∃ work cand cs bA wA mk, CS c w' work cand cs bA wA mk ∧ (∀ v, v < c.N → bA v ≤ (mk : Nat)) ∧ (∀ v, v < c.N → wA v ≤ (mk : Nat)) ∧ mk ≤ m0 + (c.E r).length + 1) := hp
  clear hp
  go_wp2_with fail
  go_ret
  exact ⟨rfl, HP.out⟩

/-- A fresh stepBound's clique steps. -/
theorem clique_fresh {N : Nat} {E : Nat → List Nat} {lim r : Nat} {w : World} {e : Ending} {w' : World} (h : NewPost N E (rvT E N) lim w e w') (hg : IsGraph N E) (hl : lim ≤ 9223372036854775806) (hr : r < N) :
    ∃ B, e = .returned (.pointer (some ⟨B, 0, none⟩)) ∧ Below w.heap.size w w' ∧
      Calls Try.prog 15 #[.pointer (some ⟨B, 0, none⟩), .int .i32 r] w' fun e w'' => e = .returned (.int .i64 ((cliqueF (lim + 1) (clq E (rvT E N) r) : Nat) : Int)) ∧ Below w.heap.size w w'' := by
  obtain ⟨B, ge, gw, gl, gp, gn, gb, gx, Be, Bw, rfl, hbel, hE, hW, hB, hst, hlb, hgl, ⟨_, _⟩, ⟨_, _⟩, ⟨hgb, rb⟩, ⟨hgx, rx⟩, _, _, _, _, _, hbx⟩ := h
  refine ⟨B, rfl, hbel, ?_⟩
  have hN := hg.hN
  have nX : ∀ {b : Nat} {t : TypeId} {n : Nat} {f : Nat → Value}, w'.rowIs b t n f → t ≠ 60 → t ≠ 3 → ¬ (CC.mk B ge gw gl gp gn gb gx Be Bw N E (rvT E N) lim nilV nilV nilV w').X b := by
    rintro b t n f hr h60 h3 (e | e | e | e)
    · exact ne_type hr hst h60 e
    · exact ne_type hr rb h3 e
    · exact ne_type hr rx h3 e
    · cases e
  have hfix : CFix (CC.mk B ge gw gl gp gn gb gx Be Bw N E (rvT E N) lim nilV nilV nilV w') :=
    ⟨hE.mono (fun _ _ => trivial), hW.mono (fun _ _ => trivial), nX hE.top (by decide) (by decide), nX hW.top (by decide) (by decide), fun v hv => nX (hE.rows v hv).2 (by decide) (by decide), fun v hv => nX (hW.rows v hv).2 (by decide) (by decide), hbx, hN, hg.hE,
      fun v _ q hq => (rv_mem.1 hq).1, fun v hv => by have := hg.len hv; simp only; omega, fun v hv => by have := rv_len hg.nd v N (Nat.le_refl _); simp only; omega, hl⟩
  have hbeg : CBeg (CC.mk B ge gw gl gp gn gb gx Be Bw N E (rvT E N) lim nilV nilV nilV w') 0 [] (fun _ => 0) (fun _ => 0) 0 :=
    ⟨hst, .inl ⟨rfl, rfl⟩, rb, rx, fun _ _ => Int.le_refl _, fun _ _ => Int.le_refl _⟩
  refine (zzclique_any _ hfix 0 [] _ _ 0 r w' rfl hbeg (by omega) hr).mono ?_
  rintro e w'' ⟨rfl, work, cand, cs, bA, wA, mk, hC, _⟩
  refine ⟨rfl, hbel.trans ((hC.kept.below hbel.size ?_))⟩
  rintro k hk (e | e | e | e)
  · subst e; exact absurd hk (Nat.not_lt.2 hB)
  · subst e; exact absurd hk (Nat.not_lt.2 hgb)
  · subst e; exact absurd hk (Nat.not_lt.2 hgx)
  · cases e
end Go.Proofs.Qxb6000043a
