import Derived.Test.Qxb6000073aDoorItoa
import Derived.Test.Qxb6000073aDoorFmt
import Derived.Lib.AppendIntMem
import Derived.Lib.ItoaMem
namespace Go.Proofs.Qxb6000073aDoor
open Go.RowKit

theorem cell_alloc {w : World} {b o : Nat} {v : Value} (h : w.cell? ⟨b, o, none⟩ = some v) (ob : Obj) : (w.alloc ob).cell? ⟨b, o, none⟩ = some v :=
  (World.cell?_of_block (Deep.blk_alloc_lt _ _ _ (World.block_lt_of_cell? _ _ h))).trans h
theorem fmt_any (n : Int) (h0 : -9223372036854775808 ≤ n) (h1 : n ≤ 9223372036854775807) (w : World) (htab : Lib.TabIs Tryd.prog w "internal/strconv.uint64pow10" .u64 Lib.pow10Tab) :
    Calls Tryd.prog 15 #[.int .i64 n, .int .i64 10] w (ItoaPost n w) := by
  refine (Tryd.strconv_FormatInt_10 n h0 h1 w htab).mono ?_
  rintro e w' ⟨rfl, k, os, rfl⟩
  exact ⟨rfl, Lib.below_grow _ _ (Nat.le_refl _) _ _⟩

set_option maxHeartbeats 2000000 in
theorem whole_any (b : Nat) (n m : Int) (h0 : -9223372036854775808 ≤ n) (h1 : n ≤ 9223372036854775807) (w : World) (q : w.cell? ⟨b, 0, none⟩ = some (.int .i64 n)) (htab : Lib.TabIs Tryd.prog w "internal/strconv.uint64pow10" .u64 Lib.pow10Tab) :
    Calls Tryd.prog 16 #[.agg #[.pointer (some ⟨b, 0, none⟩), .int .i64 m]] w (ItoaPost n w) := by
  have qa := cell_alloc q (.cells #[.pointer (some ⟨b, 0, none⟩), .int .i64 m] 32)
  have hf := fmt_any n h0 h1 (w.alloc (.cells #[.pointer (some ⟨b, 0, none⟩), .int .i64 m] 32)) (Lib.tabIs_alloc htab _)
  have HB : Hid (Below w.heap.size w (w.alloc (.cells #[.pointer (some ⟨b, 0, none⟩), .int .i64 m] 32))) := (Below.refl _ _).alloc (Nat.le_refl _) _
  clear htab
  go_enter Tryd.func16, Tryd.ntmps16
  go_wp2_with fail
  refine hf.mono ?_
  rintro e w' ⟨rfl, hB⟩
  clear hf
  have HB2 : Hid (Below w.heap.size w w') := HB.out.trans (hB.mono HB.out.size)
  clear hB
  go_wp2_with fail
  go_ret
  exact ⟨rfl, HB2.out⟩

/-- What is written for n. -/
def shown (n : Int) : Int := if n = 0 then 200000 else n
set_option maxHeartbeats 2000000 in
theorem window_any (b : Nat) (n : Int) (h0 : -9223372036854775808 ≤ n) (h1 : n ≤ 9223372036854775807) (w : World) (q : w.cell? ⟨b, 0, none⟩ = some (.int .i64 n)) (htab : Lib.TabIs Tryd.prog w "internal/strconv.uint64pow10" .u64 Lib.pow10Tab) :
    Calls Tryd.prog 13 #[.agg #[.pointer (some ⟨b, 0, none⟩), .int .i64 0]] w (ItoaPost (shown n) w) := by
  have qa := cell_alloc q (.cells #[.pointer (some ⟨b, 0, none⟩), .int .i64 0] 34)
  have hf := fmt_any 200000 (by omega) (by omega) (w.alloc (.cells #[.pointer (some ⟨b, 0, none⟩), .int .i64 0] 34)) (Lib.tabIs_alloc htab _)
  have hw := whole_any b n 0 h0 h1 (w.alloc (.cells #[.pointer (some ⟨b, 0, none⟩), .int .i64 0] 34)) qa (Lib.tabIs_alloc htab _)
  have HB : Hid (Below w.heap.size w (w.alloc (.cells #[.pointer (some ⟨b, 0, none⟩), .int .i64 0] 34))) := (Below.refl _ _).alloc (Nat.le_refl _) _
  clear htab
  by_cases hn : n = 0
  · have hs : shown n = 200000 := by simp [shown, hn]
    rw [hs]
    have hd : (n == 0) = true := by simp [hn]
    clear hs hn hw
    go_enter Tryd.func13, Tryd.ntmps13
    go_wp2_with fail
    refine hf.mono ?_
    rintro e w' ⟨rfl, hB⟩
    clear hf
    have HB2 : Hid (Below w.heap.size w w') := HB.out.trans (hB.mono HB.out.size)
    clear hB
    go_wp2_with fail
    go_ret
    exact ⟨rfl, HB2.out⟩
  · have hs : shown n = n := by simp [shown, hn]
    rw [hs]
    have hd : (n == 0) = false := by simp [hn]
    clear hs hn hf
    go_enter Tryd.func13, Tryd.ntmps13
    go_wp2_with fail
    refine hw.mono ?_
    rintro e w' ⟨rfl, hB⟩
    clear hw
    have HB2 : Hid (Below w.heap.size w w') := HB.out.trans (hB.mono HB.out.size)
    clear hB
    go_wp2_with fail
    go_ret
    exact ⟨rfl, HB2.out⟩

set_option maxHeartbeats 2000000 in
theorem zz_any (b : Nat) (n : Int) (h0 : -9223372036854775808 ≤ n) (h1 : n ≤ 9223372036854775807) (w : World) (q : w.cell? ⟨b, 0, none⟩ = some (.int .i64 n)) (htab : Lib.TabIs Tryd.prog w "internal/strconv.uint64pow10" .u64 Lib.pow10Tab) :
    Calls Tryd.prog 7 #[.pointer (some ⟨b, 0, none⟩)] w (ItoaPost (shown n) w) := by
  have hw := window_any b n h0 h1 w q htab
  clear htab q
  go_enter Tryd.func7, Tryd.ntmps7
  go_wp2_with fail
  refine hw.mono ?_
  rintro e w' ⟨rfl, hB⟩
  clear hw
  have HB2 : Hid (Below w.heap.size w w') := hB
  clear hB
  go_wp2_with fail
  go_ret
  exact ⟨rfl, HB2.out⟩

def LawPost (w : World) (e : Ending) (w' : World) : Prop := e = .returned (.bool true) ∧ Below w.heap.size w w'

set_option maxHeartbeats 4000000 in
theorem law_any (n : Int) (h0 : -9223372036854775808 ≤ n) (h1 : n ≤ 9223372036854775807) (w : World) (htab : Lib.TabIs Tryd.prog w "internal/strconv.uint64pow10" .u64 Lib.pow10Tab) :
    Calls Tryd.prog 3 #[.int .i64 n] w (LawPost w) := by
  have hrow := World.rowIs_alloc w #[.int .i64 n] 2 (fun _ => .int .i64 n) (fun i hi => by
    have : i = 0 := by simpa using hi
    subst this; rfl)
  have q2 : (w.alloc (.cells #[.int .i64 n] 2)).cell? ⟨w.heap.size, 0, none⟩ = some (.int .i64 n) := hrow.cell (by simp)
  have hb1 : Below w.heap.size w (w.alloc (.cells #[.int .i64 n] 2)) := (Below.refl _ _).alloc (Nat.le_refl _) _
  have htab1 := Lib.tabBelow_of_tabIs htab _ hb1
  have hzz := zz_any w.heap.size n h0 h1 _ q2 htab1
  have HB1 : Hid (Below w.heap.size w (w.alloc (.cells #[.int .i64 n] 2))) := hb1
  clear htab htab1 hrow hb1
  go_enter Tryd.func3, Tryd.ntmps3
  go_upto_region 3 with fail
  generalize w.alloc (.cells #[.int .i64 n] 2) = w1 at q2 hzz HB1 ⊢
  go_wp2_with fail
  refine hzz.mono ?_
  rintro e w2 ⟨rfl, hB⟩
  clear hzz
  have q3 : w2.cell? ⟨w.heap.size, 0, none⟩ = some (.int .i64 n) := (hB.cell (p := ⟨w.heap.size, 0, none⟩) (World.block_lt_of_cell? _ _ q2)).trans q2
  have HB2 : Hid (Below w.heap.size w w2) := HB1.out.trans (hB.mono HB1.out.size)
  clear hB q2 HB1
  by_cases hn : n = 0
  · have hs : shown n = 200000 := by simp [shown, hn]
    rw [hs]
    have hi := itoa_any 200000 (by omega) (by omega) w2
    have hd : (n == 0) = true := by simp [hn]
    clear hs hn
    go_wp2_with fail
    refine hi.mono ?_
    rintro e w3 ⟨rfl, hB⟩
    clear hi
    have HB3 : Hid (Below w.heap.size w w3) := HB2.out.trans (hB.mono HB2.out.size)
    clear hB
    generalize (⟨(Lib.itoa 200000).toArray⟩ : ByteArray) = s
    go_wp2_with fail
    go_ret
    exact ⟨by simp, HB3.out⟩
  · have hs : shown n = n := by simp [shown, hn]
    rw [hs]
    have hi := itoa_any n h0 h1 w2
    have hd : (n == 0) = false := by simp [hn]
    clear hs hn
    go_wp2_with fail
    refine hi.mono ?_
    rintro e w3 ⟨rfl, hB⟩
    clear hi
    have HB3 : Hid (Below w.heap.size w w3) := HB2.out.trans (hB.mono HB2.out.size)
    clear hB
    generalize (⟨(Lib.itoa n).toArray⟩ : ByteArray) = s
    go_wp2_with fail
    go_ret
    exact ⟨by simp, HB3.out⟩
end Go.Proofs.Qxb6000073aDoor
