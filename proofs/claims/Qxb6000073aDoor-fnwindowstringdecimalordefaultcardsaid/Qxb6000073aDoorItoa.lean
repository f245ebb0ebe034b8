import Derived.Test.Qxb6000073aDoorRows
import Derived.WalkKit
import Derived.Deep.Draws
import Derived.Deep.OwnRows
import Derived.Deep.LoopGhost
import Derived.WalkSpells
import Derived.WalkLawsBesides
import Derived.Lib.ItoaNum
import Derived.Laws.IdiomStrings
import Derived.Deep.DeepCutAuto
namespace Go.Proofs.Qxb6000073aDoor
open Go.RowKit

theorem dec_small {u : Nat} (h : u < 10) : Lib.decDigits u = [UInt8.ofNat (48 + u)] := by rw [Lib.decDigits, dif_pos h]
theorem dec_big {u : Nat} (h : ¬ u < 10) : Lib.decDigits u = Lib.decDigits (u / 10) ++ [UInt8.ofNat (48 + u % 10)] := by rw [Lib.decDigits, dif_neg h]
theorem dec_len : ∀ (k u : Nat), u < 10 ^ (k + 1) → (Lib.decDigits u).length ≤ k + 1
  | 0, u, h => by rw [dec_small (by simpa using h)]; simp
  | k + 1, u, h => by
    by_cases h1 : u < 10
    · rw [dec_small h1]; simp
    · rw [dec_big h1, List.length_append]
      have := dec_len k (u / 10) (by rw [Nat.div_lt_iff_lt_mul (by omega)]; rw [Nat.pow_succ] at h; exact h)
      simp; omega
theorem dec_pos (u : Nat) : 0 < (Lib.decDigits u).length := by
  by_cases h1 : u < 10
  · rw [dec_small h1]; simp
  · rw [dec_big h1, List.length_append]; simp
theorem byte_digit (d : Nat) (h : d < 10) : ((UInt8.ofNat (48 + d)).toNat : Int) = 48 + (d : Int) := by
  have : (UInt8.ofNat (48 + d)).toNat = 48 + d := by simp; omega
  rw [this]; simp

/-- The cells from i on hold the bytes l. -/
def Tail (w : World) (B i : Nat) (l : List UInt8) : Prop := ∃ f : Nat → Value, w.rowIs B 37 20 f ∧ i + l.length = 20 ∧ ∀ j, (hj : j < l.length) → f (i + j) = .int .u8 (l[j].toNat : Int)

theorem tail_new (w : World) : Tail (w.alloc (.cells #[.int .u8 0, .int .u8 0, .int .u8 0, .int .u8 0, .int .u8 0, .int .u8 0, .int .u8 0, .int .u8 0, .int .u8 0, .int .u8 0, .int .u8 0, .int .u8 0, .int .u8 0, .int .u8 0, .int .u8 0, .int .u8 0, .int .u8 0, .int .u8 0, .int .u8 0, .int .u8 0] 37)) w.heap.size 20 [] := by
  refine ⟨fun _ => .int .u8 0, World.rowIs_alloc w _ 37 _ (fun i hi => ?_), rfl, fun j hj => absurd hj (by simp)⟩
  have hi' : i < 20 := hi
  obtain rfl | rfl | rfl | rfl | rfl | rfl | rfl | rfl | rfl | rfl | rfl | rfl | rfl | rfl | rfl | rfl | rfl | rfl | rfl | rfl : i = 0 ∨ i = 1 ∨ i = 2 ∨ i = 3 ∨ i = 4 ∨ i = 5 ∨ i = 6 ∨ i = 7 ∨ i = 8 ∨ i = 9 ∨ i = 10 ∨ i = 11 ∨ i = 12 ∨ i = 13 ∨ i = 14 ∨ i = 15 ∨ i = 16 ∨ i = 17 ∨ i = 18 ∨ i = 19 := by omega
  all_goals rfl
theorem Tail.push {w : World} {B i : Nat} {l : List UInt8} (h : Tail w B (i + 1) l) (b : UInt8) : Tail (w.setCell ⟨B, i, none⟩ (.int .u8 (b.toNat : Int))) B i (b :: l) := by
  obtain ⟨f, h1, h2, h3⟩ := h
  refine ⟨_, h1.set i _, by simp; omega, fun j hj => ?_⟩
  cases j with
  | zero => simp
  | succ j =>
    have hj' : j < l.length := by simpa using hj
    have e : i + (j + 1) ≠ i := by omega
    simp only [if_neg e, List.getElem_cons_succ]
    rw [← h3 j hj', show i + 1 + j = i + (j + 1) by omega]
theorem Tail.str {w : World} {B i : Nat} {l : List UInt8} (h : Tail w B i l) (cap : Nat) : (convert 38 9 (.slice (some ⟨B, i, none⟩) l.length cap)).run Tryd.prog w = .ok (.string ⟨l.toArray⟩) w := by
  obtain ⟨f, h1, h2, h3⟩ := h
  refine run_convert_bytes_back w 38 9 5 ⟨B, i, none⟩ cap l Tryd.underlying38 Tryd.underlying5 Tryd.underlying9 (fun j hj => ?_)
  rw [Go.WideShapes.add_plain, h1.cell (by omega), h3 j hj]

theorem minus_app (D : List UInt8) : ((⟨#[45]⟩ : ByteArray) ++ (⟨D.toArray⟩ : ByteArray)) = ⟨(45 :: D).toArray⟩ := by
  apply ByteArray.ext
  rw [ByteArray.data_append]
  simp
theorem len37 : Tryd.prog.arrayLen 37 = 20 := by simp [Program.arrayLen, Tryd.underlying37]
theorem slice37 (B i : Nat) (hi : i < 20) (W : World) : (Instr.sliceAt 37 (.pointer (some ⟨B, 0, none⟩)) (some (.int .i64 (i : Int))) none none).run Tryd.prog W = .ok (.slice (some ⟨B, i, none⟩) (20 - i) (20 - i)) W := by
  rw [run_sliceAt_array_l W 37 ⟨B, 0, none⟩ (by simp [Program.arrayLen, Program.elem, Tryd.underlying37]) .i64 (i : Int) (by omega) (by rw [len37]; omega)]
  rw [len37]
  go_simp
  omega

def ItoaPost (n : Int) (w : World) (e : Ending) (w' : World) : Prop := e = .returned (.string ⟨(Lib.itoa n).toArray⟩) ∧ Below w.heap.size w w'

set_option maxRecDepth 100000 in
set_option maxHeartbeats 4000000 in
theorem itoa_any (n : Int) (h0 : -9223372036854775808 ≤ n) (h1 : n ≤ 9223372036854775807) (w : World) :
    Calls Tryd.prog 8 #[.int .i64 n] w (ItoaPost n w) := by
  have ht := tail_new w
  have hb : Below w.heap.size w (w.alloc (.cells #[.int .u8 0, .int .u8 0, .int .u8 0, .int .u8 0, .int .u8 0, .int .u8 0, .int .u8 0, .int .u8 0, .int .u8 0, .int .u8 0, .int .u8 0, .int .u8 0, .int .u8 0, .int .u8 0, .int .u8 0, .int .u8 0, .int .u8 0, .int .u8 0, .int .u8 0, .int .u8 0] 37)) := (Below.refl _ _).alloc (Nat.le_refl _) _
  by_cases hn : n < 0
  · obtain ⟨U, hU⟩ : ∃ U : Nat, n = -(U : Int) := ⟨n.natAbs, by omega⟩
    subst hU
    have hlen : (Lib.decDigits U).length ≤ 19 := dec_len 18 U (by omega)
    have hit : Lib.itoa (-(U : Int)) = 45 :: Lib.decDigits U := by unfold Lib.itoa; rw [if_pos hn]; simp
    have HIT : Hid (Lib.itoa (-(U : Int)) = 45 :: Lib.decDigits U) := hit
    clear hit
    go_enter Tryd.func8, Tryd.ntmps8
    go_wp2_with fail
    have hpos : decide (0 < U) = true := by simp; omega
    have hwr : IntKind.u64.wrap (-IntKind.u64.wrap (-(U : Int))) = (U : Int) := by
      have h64 : ∀ z, IntKind.u64.wrap z = z % 18446744073709551616 := by intro z; simp [IntKind.wrap, IntKind.signed, IntKind.bits]
      rw [h64, h64]
      omega
    simp only [hwr, hpos]
    clear hwr hpos
    generalize w.alloc _ = w1 at ht hb ⊢
    have HT : Hid (Tail w1 w.heap.size 20 [] ∧ Below w.heap.size w w1) := ⟨ht, hb⟩
    clear ht hb
    go_loopg [3, 6] U (fun g s3 s6 wr => ∃ (u i : Nat) (l : List UInt8), g = u ∧ s3 = .int .u64 u ∧ s6 = .int .i64 i ∧ u ≤ U ∧ Tail wr w.heap.size i l ∧ Below w.heap.size w wr ∧ Lib.decDigits U = Lib.decDigits u ++ l)
    case atStart => exact ⟨U, 20, [], rfl, rfl, rfl, Nat.le_refl _, HT.out.1, HT.out.2, by simp⟩
    case round =>
      clear HT
      obtain ⟨u, i, l, hg, rfl, rfl, huU, hT, hB, hD⟩ := hrel
      have hil : i + l.length = 20 := hT.choose_spec.2.1
      have hll : (Lib.decDigits u).length + l.length ≤ 19 := by have := congrArg List.length hD; rw [List.length_append] at this; omega
      have hdp := dec_pos u
      obtain ⟨i, rfl⟩ : ∃ i', i = i' + 1 := ⟨i - 1, by omega⟩
      have hlt : u % 10 < 10 := Nat.mod_lt _ (by omega)
      obtain ⟨d, hd⟩ : ∃ d, d = u % 10 := ⟨_, rfl⟩
      have hT2 := hT.push (UInt8.ofNat (48 + d))
      rw [byte_digit d (by omega)] at hT2
      obtain ⟨f, hrow, _, _⟩ := hT
      have p1 : wr.cell? ⟨w.heap.size, i, none⟩ = some (f i) := hrow.cell (by omega)
      have f1 : wr.frozen? ⟨w.heap.size, i, none⟩ = false := hrow.frozen i
      have hiz : (i : Int) < 20 := by omega
      have hB2 := hB.setCell (p := ⟨w.heap.size, i, none⟩) (Nat.le_refl _) (.int .u8 (48 + (d : Int)))
      have hdz : (u : Int) % 10 = (d : Int) := by omega
      obtain ⟨q, hq⟩ : ∃ q, q = u / 10 := ⟨_, rfl⟩
      have hqz : (u : Int) / 10 = (q : Int) := by omega
      have HT2 : Hid (Tail (wr.setCell ⟨w.heap.size, i, none⟩ (.int .u8 (48 + (d : Int)))) w.heap.size i (UInt8.ofNat (48 + d) :: l) ∧ Below w.heap.size w (wr.setCell ⟨w.heap.size, i, none⟩ (.int .u8 (48 + (d : Int))))) := ⟨hT2, hB2⟩
      have HD : Hid (Lib.decDigits U = Lib.decDigits u ++ l) := hD
      have HDQ : Hid (d = u % 10 ∧ q = u / 10) := ⟨hd, hq⟩
      clear hT2 hB hB2 hD hd hq hrow hlt
      by_cases hu : u < 10
      · have hq0 : q = 0 := by have := HDQ.out.2; omega
        have hqb : ((q : Int) == 0) = true := by simp [hq0]
        have HC : Hid (∀ cap, (convert 38 9 (.slice (some ⟨w.heap.size, i, none⟩) (20 - i) cap)).run Tryd.prog (wr.setCell ⟨w.heap.size, i, none⟩ (.int .u8 (48 + (d : Int)))) = .ok (.string ⟨(Lib.decDigits U).toArray⟩) (wr.setCell ⟨w.heap.size, i, none⟩ (.int .u8 (48 + (d : Int))))) := by
          intro cap
          have h := HT2.out.1.str cap
          rw [HD.out, dec_small hu, show 20 - i = (UInt8.ofNat (48 + d) :: l).length by simp; omega, h, show d = u by have := HDQ.out.1; omega]
          rfl
        have HB2 : Hid (Below w.heap.size w (wr.setCell ⟨w.heap.size, i, none⟩ (.int .u8 (48 + (d : Int))))) := HT2.out.2
        clear hq0 HT2 HD
        go_upto_region 11 with fail
        generalize wr.setCell ⟨w.heap.size, i, none⟩ (.int .u8 (48 + (d : Int))) = w5 at HC HB2 ⊢
        clear p1 f1
        have hcv := HC.out
        have hsl := slice37 w.heap.size i (by omega)
        generalize Lib.decDigits U = D at HIT hcv hlen
        have hDl : 1 + D.length ≤ 9223372036854775807 := by omega
        go_wp2_with fail
        go_ret
        rw [ItoaPost, HIT.out, ← minus_app]
        exact ⟨rfl, HB2.out⟩
      · have hqb : ((q : Int) == 0) = false := by have := HDQ.out.2; simp; omega
        go_wp2_with fail
        go_roundg q
        case measure => have := HDQ.out.2; omega
        case rel =>
          refine ⟨q, i, UInt8.ofNat (48 + d) :: l, rfl, rfl, by go_num, by have := HDQ.out.2; omega, HT2.out.1, HT2.out.2, ?_⟩
          rw [HD.out, dec_big hu, HDQ.out.1, HDQ.out.2, List.append_assoc]; rfl
  · obtain ⟨U, rfl⟩ := Int.eq_ofNat_of_zero_le (by omega : 0 ≤ n)
    have hlen : (Lib.decDigits U).length ≤ 19 := dec_len 18 U (by omega)
    have hit : Lib.itoa (U : Int) = Lib.decDigits U := by unfold Lib.itoa; rw [if_neg hn]; simp
    have HIT : Hid (Lib.itoa (U : Int) = Lib.decDigits U) := hit
    clear hit
    go_enter Tryd.func8, Tryd.ntmps8
    go_wp2_with fail
    generalize w.alloc _ = w1 at ht hb ⊢
    have HT : Hid (Tail w1 w.heap.size 20 [] ∧ Below w.heap.size w w1) := ⟨ht, hb⟩
    clear ht hb
    go_loopg [3, 6] U (fun g s3 s6 wr => ∃ (u i : Nat) (l : List UInt8), g = u ∧ s3 = .int .u64 u ∧ s6 = .int .i64 i ∧ u ≤ U ∧ Tail wr w.heap.size i l ∧ Below w.heap.size w wr ∧ Lib.decDigits U = Lib.decDigits u ++ l)
    case atStart => exact ⟨U, 20, [], rfl, rfl, rfl, Nat.le_refl _, HT.out.1, HT.out.2, by simp⟩
    case round =>
      clear HT
      obtain ⟨u, i, l, hg, rfl, rfl, huU, hT, hB, hD⟩ := hrel
      have hil : i + l.length = 20 := hT.choose_spec.2.1
      have hll : (Lib.decDigits u).length + l.length ≤ 19 := by have := congrArg List.length hD; rw [List.length_append] at this; omega
      have hdp := dec_pos u
      obtain ⟨i, rfl⟩ : ∃ i', i = i' + 1 := ⟨i - 1, by omega⟩
      have hlt : u % 10 < 10 := Nat.mod_lt _ (by omega)
      obtain ⟨d, hd⟩ : ∃ d, d = u % 10 := ⟨_, rfl⟩
      have hT2 := hT.push (UInt8.ofNat (48 + d))
      rw [byte_digit d (by omega)] at hT2
      obtain ⟨f, hrow, _, _⟩ := hT
      have p1 : wr.cell? ⟨w.heap.size, i, none⟩ = some (f i) := hrow.cell (by omega)
      have f1 : wr.frozen? ⟨w.heap.size, i, none⟩ = false := hrow.frozen i
      have hiz : (i : Int) < 20 := by omega
      have hB2 := hB.setCell (p := ⟨w.heap.size, i, none⟩) (Nat.le_refl _) (.int .u8 (48 + (d : Int)))
      have hdz : (u : Int) % 10 = (d : Int) := by omega
      obtain ⟨q, hq⟩ : ∃ q, q = u / 10 := ⟨_, rfl⟩
      have hqz : (u : Int) / 10 = (q : Int) := by omega
      have HT2 : Hid (Tail (wr.setCell ⟨w.heap.size, i, none⟩ (.int .u8 (48 + (d : Int)))) w.heap.size i (UInt8.ofNat (48 + d) :: l) ∧ Below w.heap.size w (wr.setCell ⟨w.heap.size, i, none⟩ (.int .u8 (48 + (d : Int))))) := ⟨hT2, hB2⟩
      have HD : Hid (Lib.decDigits U = Lib.decDigits u ++ l) := hD
      have HDQ : Hid (d = u % 10 ∧ q = u / 10) := ⟨hd, hq⟩
      clear hT2 hB hB2 hD hd hq hrow hlt
      by_cases hu : u < 10
      · have hq0 : q = 0 := by have := HDQ.out.2; omega
        have hqb : ((q : Int) == 0) = true := by simp [hq0]
        have HC : Hid (∀ cap, (convert 38 9 (.slice (some ⟨w.heap.size, i, none⟩) (20 - i) cap)).run Tryd.prog (wr.setCell ⟨w.heap.size, i, none⟩ (.int .u8 (48 + (d : Int)))) = .ok (.string ⟨(Lib.decDigits U).toArray⟩) (wr.setCell ⟨w.heap.size, i, none⟩ (.int .u8 (48 + (d : Int))))) := by
          intro cap
          have h := HT2.out.1.str cap
          rw [HD.out, dec_small hu, show 20 - i = (UInt8.ofNat (48 + d) :: l).length by simp; omega, h, show d = u by have := HDQ.out.1; omega]
          rfl
        have HB2 : Hid (Below w.heap.size w (wr.setCell ⟨w.heap.size, i, none⟩ (.int .u8 (48 + (d : Int))))) := HT2.out.2
        clear hq0 HT2 HD
        go_upto_region 11 with fail
        generalize wr.setCell ⟨w.heap.size, i, none⟩ (.int .u8 (48 + (d : Int))) = w5 at HC HB2 ⊢
        clear p1 f1
        have hcv := HC.out
        have hsl := slice37 w.heap.size i (by omega)
        generalize Lib.decDigits U = D at HIT hcv
        go_wp2_with fail
        go_ret
        rw [ItoaPost, HIT.out]
        exact ⟨rfl, HB2.out⟩
      · have hqb : ((q : Int) == 0) = false := by have := HDQ.out.2; simp; omega
        go_wp2_with fail
        go_roundg q
        case measure => have := HDQ.out.2; omega
        case rel =>
          refine ⟨q, i, UInt8.ofNat (48 + d) :: l, rfl, rfl, by go_num, by have := HDQ.out.2; omega, HT2.out.1, HT2.out.2, ?_⟩
          rw [HD.out, dec_big hu, HDQ.out.1, HDQ.out.2, List.append_assoc]; rfl
end Go.Proofs.Qxb6000073aDoor
