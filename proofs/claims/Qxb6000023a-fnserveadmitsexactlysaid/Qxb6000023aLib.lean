import Derived.Test.Qxb6000023aClone
import Derived.Lib.AppendZeros
import Derived.Laws.AppendOwnNone
namespace Go.Proofs.Qxb6000023a
open Go.RowKit

/-- 'append(nil, make([]T, n)...)' as a law of the walk. -/
theorem wpList_append_zeros {P : Program} (w : World) {ops : Array Oper} {rest : List Oper} {o : Oper} {a : Act} {Q : Exit → Act → World → Prop}
    (hg : o.guard = none) (s x : Operand) (t tn : TypeId) (hop : o.op = Op.call { callee := Callee.builtin Builtin.append, args := #[s, x], argTypes := #[t, tn] })
    (k : IntKind) (n : Nat) (hs : a.eval s = .slice none 0 0) (hx : a.eval x = .int k n) (v : Value) (w' : World)
    (hrun : ∀ ty, (Builtin.append_ #[t, tn] ty #[.slice none 0 0, .int k n]).run P w = .ok v w')
    (hK : wpList P ops Q rest (a.put o.dst v) w') : wpList P ops Q (o :: rest) a w := by
  refine wpList_plain hg fun K hK' => ?_
  unfold Oper.wp
  simp [execOp, hop, resolve, invoke, builtin, hs, hx, hrun, Result.andThen]
  exact hK' _ _ hK

theorem Try.underlying3' : Try.prog.underlying 3 = some (.int .i64) := Try.underlying3

set_option maxHeartbeats 2000000 in
/-- slices.Grow(nil, n), n > 0: an empty slice with room for n. -/
theorem grow_any (n : Nat) (w : World) (h0 : 0 < n) (hn : n ≤ 16777216) :
    Calls Try.prog 33 #[.slice none 0 0, .int .i64 n] w fun e w' => ∃ cap, e = .returned (.slice (some ⟨w.heap.size, 0, none⟩) 0 cap) ∧ n ≤ cap ∧ cap ≤ 9223372036854775807 ∧ w'.ownsRow w.heap.size 5 1 (.slice (some ⟨w.heap.size, 0, none⟩) 0 cap) 0 [] ∧ Below w.heap.size w w' ∧ w'.heap.size = w.heap.size + 1 := by
  obtain ⟨i0, hi0, hz0, hz1, hz2⟩ := info_parts Try.info5
  have hcap := grownCap_ge w n 0 5
  have hcap2 := grownCap_le_maxLen w n 0 5 (by unfold maxLen; omega)
  have hrun : ∀ ty, _ := fun ty => Lib.run_append_nil_zeros (P := Try.prog) w 22 3 ty 5 i0 (.int .u8 0) .i64 .i64 Try.underlying22 Try.underlying3 hi0 hz0 n h0 (by omega) (by omega) (by rw [hz2]; omega)
  have hown : (w.drew.alloc (.cells (Builtin.zeroCells (Value.int .u8 0).cells n ++ Builtin.zeroCells (Value.int .u8 0).cells (grownCap w n 0 5 - n)) 5)).ownsRow w.heap.size 5 1 (.slice (some ⟨w.heap.size, 0, none⟩) 0 (grownCap w n 0 5)) 0 [] :=
    World.ownsRow_made (base := w.heap.size) (e := 5) (size := 1) w.drew _ (grownCap w n 0 5) (Nat.le_refl _) hcap2 (by
      rw [Array.size_append, size_zeroCells, size_zeroCells]
      show n * 1 + (grownCap w n 0 5 - n) * 1 = grownCap w n 0 5 * 1
      omega)
  have hbel : Below w.heap.size w (w.drew.alloc (.cells (Builtin.zeroCells (Value.int .u8 0).cells n ++ Builtin.zeroCells (Value.int .u8 0).cells (grownCap w n 0 5 - n)) 5)) := ((Below.refl w.heap.size w).drew).alloc (Nat.le_refl _) _
  have hsz : (w.drew.alloc (.cells (Builtin.zeroCells (Value.int .u8 0).cells n ++ Builtin.zeroCells (Value.int .u8 0).cells (grownCap w n 0 5 - n)) 5)).heap.size = w.heap.size + 1 := by rw [Deep.nblk_alloc]; rfl
  unfold maxLen at hcap2
  generalize (w.drew.alloc (.cells (Builtin.zeroCells (Value.int .u8 0).cells n ++ Builtin.zeroCells (Value.int .u8 0).cells (grownCap w n 0 5 - n)) 5)) = w1 at *
  generalize grownCap w n 0 5 = cap at *
  have HR := hrun
  clear hrun
  go_enter Try.func33, Try.ntmps33
  go_wp2_with (at_builtin; refine wpList_append_zeros _ rfl (.tmp 20) (.tmp 21) 22 3 rfl .i64 n rfl rfl _ _ HR ?_)
  go_ret
  exact ⟨cap, rfl, hcap, hcap2, hown, hbel, hsz⟩

theorem run_append_none_c {P : Program} (w : World) (t ty e : TypeId) (i : TypeInfo) (ht : P.underlying t = some (.slice e)) (hi : P.info? e = some i) (g k cap c : Nat) (hle : k ≤ cap) :
    (Builtin.append_ #[t, t] ty #[.slice (some ⟨g, 0, none⟩) k cap, .slice none 0 c]).run P w = .ok (.slice (some ⟨g, 0, none⟩) k cap) w := by
  simp [Builtin.append_, run_underlying ht, sizeOf, typeInfo, hi, Builtin.lenOf, Builtin.firstCells, hle, storeCells]

/-- The bytes as cells. -/
def cb (l : List Nat) : List Value := l.map (fun (x : Nat) => Value.int .u8 (x : Int))
theorem cb_len (l : List Nat) : (cb l).length = l.length := by simp [cb]
theorem cb_app (l l' : List Nat) : cb (l ++ l') = cb l ++ cb l' := by simp [cb]
theorem cb_one (l : List Nat) : ∀ u ∈ cb l, u.oneCell' = true := by
  intro u hu
  simp only [cb, List.mem_map] at hu
  obtain ⟨x, _, rfl⟩ := hu
  rfl
theorem cb_at (l : List Nat) (i : Nat) (h : i < l.length) : (cb l)[i]? = some (B8 l i) := by
  simp [cb, at8, h]
theorem bts_news {w : World} {a : Option Addr} {l : List Nat} (h : Bts w a l) : ∀ ad, a = some ad → ∀ j u, (cb l)[j]? = some u → w.cell? (ad.add j) = some u := by
  intro ad ha j u hj
  have hjl : j < l.length := by
    by_cases hh : j < l.length
    · exact hh
    · rw [List.getElem?_eq_none (by rw [cb_len]; omega)] at hj; cases hj
  obtain ⟨b, off, e, hc⟩ := h (by omega)
  rw [ha] at e
  cases e
  rw [Go.WideShapes.add_plain, hc j hjl]
  rw [cb_at l j hjl] at hj
  exact hj

/-- One law for 'append(own, xs...)' within the capacity, xs nil (whatever its capacity says) or not. -/
theorem wpList_append_bytes {P : Program} (w : World) {ops : Array Oper} {rest : List Oper} {o : Oper} {a : Act} {Q : Exit → Act → World → Prop}
    (hg : o.guard = none) (s x : Operand) (t : TypeId) (hop : o.op = Op.call { callee := Callee.builtin Builtin.append, args := #[s, x], argTypes := #[t, t] })
    (base : Nat) (e : TypeId) (i : TypeInfo) (h1 : P.underlying t = some (.slice e)) (h2 : P.info? e = some i) (h4 : i.size = 1)
    (g k cap : Nat) (xs : List Value) (hs : a.eval s = .slice (some ⟨g, 0, none⟩) k cap) (hown : w.ownsRow base e 1 (.slice (some ⟨g, 0, none⟩) k cap) k xs) (ao : Option Addr) (l : List Nat) (c : Nat) (hx : a.eval x = .slice ao l.length c)
    (hnone : ao = none → l = []) (hb : Bts w ao l) (b1 : k + l.length ≤ cap)
    (hK : ∀ w', w'.ownsRow base e 1 (.slice (some ⟨g, 0, none⟩) (k + l.length) cap) (k + l.length) (xs ++ cb l) → w.grownBy w' (some g) → wpList P ops Q rest (a.put o.dst (.slice (some ⟨g, 0, none⟩) (k + l.length) cap)) w') :
    wpList P ops Q (o :: rest) a w := by
  cases ao with
  | some ad => exact wpList_append_fits w hg s x t hop base e i 1 h1 h2 h4 g k cap xs hs hown ad l.length c (cb l) hx (by rw [cb_len, Nat.mul_one]) (bts_news hb ad rfl) (cb_one l) b1 hK
  | none =>
    obtain rfl := hnone rfl
    refine wpList_plain hg fun K hK' => ?_
    have hrun := run_append_none_c (P := P) w t o.type e i h1 h2 g k cap c (by simpa using b1)
    unfold Oper.wp
    simp [execOp, hop, resolve, invoke, builtin, hs, hx, hrun, Result.andThen]
    exact hK' _ _ (by simpa [cb] using hK w (by simpa [cb] using hown) (World.grownBy.refl _ _))

set_option maxHeartbeats 4000000 in
/-- slices.Concat of two slices of bytes, not both empty. -/
theorem concat_any (b : Nat) (a1 a2 : Option Addr) (l1 l2 : List Nat) (c1 c2 cb0 : Nat) (w : World)
    (q0 : w.cell? ⟨b, 0, none⟩ = some (.slice a1 l1.length c1)) (q1 : w.cell? ⟨b, 1, none⟩ = some (.slice a2 l2.length c2)) (h1 : Bts w a1 l1) (h2 : Bts w a2 l2)
    (n1 : a1 = none → l1 = []) (n2 : a2 = none → l2 = []) (hp : 0 < l1.length + l2.length) (b1 : l1.length ≤ 4194304) (b2 : l2.length ≤ 4194304) :
    Calls Try.prog 29 #[.slice (some ⟨b, 0, none⟩) 2 cb0] w fun e w' => ∃ cap, e = .returned (.slice (some ⟨w.heap.size, 0, none⟩) (l1 ++ l2).length cap) ∧ (l1 ++ l2).length ≤ cap ∧ cap ≤ 9223372036854775807 ∧
      w'.ownsRow w.heap.size 5 1 (.slice (some ⟨w.heap.size, 0, none⟩) (l1 ++ l2).length cap) (l1 ++ l2).length (cb (l1 ++ l2)) ∧ Below w.heap.size w w' := by
  obtain ⟨i0, hi0, hz0, hz1, hz2⟩ := info_parts Try.info5
  go_enter Try.func29, Try.ntmps29
  go_wp2_with fail
  go_loopg [3, 11] 2 (fun g s3 s11 wr => ∃ t : Nat, t ≤ 2 ∧ g = 2 - t ∧ s11 = .int .i64 t ∧ w = wr ∧ s3 = .int .i64 ((if t = 0 then 0 else if t = 1 then l1.length else l1.length + l2.length : Nat) : Int))
  case atStart => exact ⟨0, by omega, rfl, rfl, rfl, rfl⟩
  case round =>
    obtain ⟨t, ht, rfl, rfl, rfl, rfl⟩ := hrel
    match t, ht with
    | 0, _ =>
      simp only [if_pos trivial]
      go_wp2_with fail
      go_roundg 1
      case measure => omega
      case rel => exact ⟨1, by omega, rfl, by go_num, rfl, by simp⟩
    | 1, _ =>
      simp only [if_neg (by decide : ¬ (1 : Nat) = 0), if_pos trivial]
      go_wp2_with fail
      go_roundg 0
      case measure => omega
      case rel => exact ⟨2, by omega, rfl, by go_num, rfl, by simp⟩
    | 2, _ =>
      simp only [if_neg (by decide : ¬ (2 : Nat) = 0), if_neg (by decide : ¬ (2 : Nat) = 1)]
      go_wp2_with fail
      refine (grow_any (l1.length + l2.length) w hp (by omega)).mono ?_
      rintro e w1 ⟨cap, rfl, hcap, hcap2, hown, hB, hsz⟩
      go_wp2_with fail
      have lb := lt_of_cell q0
      go_loopg [6, 27] 2 (fun g s6 s27 wx => ∃ (t : Nat) (ls : List Nat), t ≤ 2 ∧ g = 2 - t ∧ s27 = .int .i64 t ∧ s6 = .slice (some ⟨w.heap.size, 0, none⟩) ls.length cap ∧ wx.ownsRow w.heap.size 5 1 (.slice (some ⟨w.heap.size, 0, none⟩) ls.length cap) ls.length (cb ls) ∧ Below w.heap.size w wx ∧ (t = 0 → ls = []) ∧ (t = 1 → ls = l1) ∧ (t = 2 → ls = l1 ++ l2))
      case atStart => exact ⟨0, [], by omega, rfl, rfl, rfl, hown, hB, fun _ => rfl, fun h => absurd h (by decide), fun h => absurd h (by decide)⟩
      case round =>
        obtain ⟨t, ls, ht, rfl, rfl, rfl, ho, hb, e0, e1, e2⟩ := hrel
        clear hown hB hsz
        match t, ht with
        | 0, _ =>
          obtain rfl := e0 rfl
          clear e0 e1 e2
          have p0 := Below.at hb lb q0
          have hbs := hb.size
          simp only [List.length_nil] at *
          go_wp2_with (at_builtin; refine wpList_append_bytes _ rfl (.tmp 31) (.tmp 32) 22 rfl _ 5 i0 Try.underlying22 hi0 hz1 _ 0 cap (cb []) rfl ho a1 l1 c1 rfl n1 (h1.below hb) (by omega) ?_; intro w2 ho2 hg2)
          go_roundg 1
          case measure => omega
          case rel =>
            have hlt := (ho.lt _ rfl).2
            refine ⟨1, l1, by omega, rfl, by go_num, rfl, by simpa [cb] using ho2, hb.grown hg2 (by omega) (fun k hk => by simp at hk; omega), fun h => absurd h (by decide), fun _ => rfl, fun h => absurd h (by decide)⟩
        | 1, _ =>
          obtain rfl := e1 rfl
          clear e0 e1 e2
          have p1 := Below.at hb lb q1
          have hbs := hb.size
          go_wp2_with (at_builtin; refine wpList_append_bytes _ rfl (.tmp 31) (.tmp 32) 22 rfl _ 5 i0 Try.underlying22 hi0 hz1 _ ls.length cap (cb ls) rfl ho a2 l2 c2 rfl n2 (h2.below hb) (by omega) ?_; intro w2 ho2 hg2)
          go_roundg 0
          case measure => omega
          case rel =>
            have hlt := (ho.lt _ rfl).2
            refine ⟨2, ls ++ l2, by omega, rfl, by go_num, by simp, by simpa [cb] using ho2, hb.grown hg2 (by omega) (fun k hk => by simp at hk; omega), fun h => absurd h (by decide), fun h => absurd h (by decide), fun _ => rfl⟩
        | 2, _ =>
          obtain rfl := e2 rfl
          clear e0 e1 e2
          go_wp2_with fail
          go_ret
          exact ⟨cap, rfl, by simpa using hcap, hcap2, ho, hb⟩
end Go.Proofs.Qxb6000023a
