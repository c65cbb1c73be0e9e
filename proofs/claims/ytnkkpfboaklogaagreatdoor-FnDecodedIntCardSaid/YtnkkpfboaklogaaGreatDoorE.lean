/- The walk of the law FnDecodedInt. -/
import Derived.Test.YtnkkpfboaklogaaGreatDoorC
import Derived.Test.YtnkkpfboaklogaaGreatDoorD
namespace Go.Proofs.YtnkkpfboaklogaaGreatDoor
open Go.RowKit

@[go_sem] theorem float_eq (w : World) : (Op.equalIn 9999 25 (.float .f64 0) (.float .f64 0)).run Tryz.prog w = .ok true w := by kernel_rfl

/-- The cells of a Datum that lies in a block. -/
theorem dat_cells {w : World} {g : Nat} {n : Int} (h : w.heap[g]? = some (.cells #[.int .i64 1, .int .i64 n, .float .f64 0, .string ⟨#[]⟩, .bool false, .int .i64 0, .int .i64 0, .int .i64 0, .int .i64 0, .int .i64 0, .int .i64 0, .int .i64 0, .int .i64 0] 29 (0, 0))) :
    w.cell? ⟨g, 0, none⟩ = some (.int .i64 1) ∧ w.cell? ⟨g, 1, none⟩ = some (.int .i64 n) ∧ w.cell? ⟨g, 2, none⟩ = some (.float .f64 0) ∧ w.cell? ⟨g, 3, none⟩ = some (.string ⟨#[]⟩) ∧ w.cell? ⟨g, 4, none⟩ = some (.bool false) ∧
    w.cell? ⟨g, 5, none⟩ = some (.int .i64 0) ∧ w.cell? ⟨g, 6, none⟩ = some (.int .i64 0) ∧ w.cell? ⟨g, 7, none⟩ = some (.int .i64 0) ∧ w.cell? ⟨g, 8, none⟩ = some (.int .i64 0) ∧ w.cell? ⟨g, 9, none⟩ = some (.int .i64 0) ∧
    w.cell? ⟨g, 10, none⟩ = some (.int .i64 0) ∧ w.cell? ⟨g, 11, none⟩ = some (.int .i64 0) ∧ w.cell? ⟨g, 12, none⟩ = some (.int .i64 0) := by
  refine ⟨?_, ?_, ?_, ?_, ?_, ?_, ?_, ?_, ?_, ?_, ?_, ?_, ?_⟩ <;> (rw [cell_of_row _ _ _ _ _ _ h]; rfl)


set_option maxHeartbeats 1600000 in

set_option maxHeartbeats 1600000 in
theorem law_int0 (x : Int) (x0 : 0 ≤ x) (x1 : x ≤ 255) (hx : x % 3 = 0) (n : Int) (h0 : -9223372036854775808 ≤ n) (h1 : n ≤ 9223372036854775807) (w : World) (htab : Lib.TabIs Tryz.prog w "internal/strconv.uint64pow10" .u64 Lib.pow10Tab) :
    Calls Tryz.prog 3 #[.int .u8 x, .int .i64 n] w fun e w' => e = .returned (.bool true) ∧ Below w.heap.size w w' := by
  have HT := Lib.hid (fun o => Lib.tabIs_alloc htab o)
  have HN := Lib.hid (And.intro h0 h1)
  obtain ⟨m, hm, m0, m1⟩ : ∃ m : Int, wrap64 (IntKind.i16.wrap n) = m ∧ -9223372036854775808 ≤ m ∧ m ≤ 9223372036854775807 := ⟨wrap64 (IntKind.i16.wrap n), rfl, by have := HN.out; simp only [IntKind.wrap, wrap32, wrap64] at *; omega, by have := HN.out; simp only [IntKind.wrap, wrap32, wrap64] at *; omega⟩
  have HM := Lib.hid (And.intro m0 m1)
  clear htab h0 h1 m0 m1
  go_enter Tryz.func3, Tryz.ntmps3
  go_wp2_with fail
  rw [hm]
  refine (number m HM.out.1 HM.out.2 _ (HT.out _)).mono ?_
  rintro e w1 ⟨rfl, hb1⟩
  have Hb1 : Hid (Below w.heap.size w w1) := Lib.hid (((Below.refl _ _).alloc (Nat.le_refl _) _).trans (hb1.mono (by simp)))
  clear hb1
  go_wp2_with fail
  refine (decoded_int 21 (by simp) m HM.out.1 HM.out.2 _).mono ?_
  rintro e w2 ⟨rfl, hb2⟩
  have Hb2 : Hid (Below w.heap.size w w2) := Lib.hid (Hb1.out.trans (hb2.mono Hb1.out.size))
  clear hb2
  go_wp2
  go_ret
  exact ⟨rfl, Hb2.out.alloc Hb2.out.size _⟩

set_option maxHeartbeats 1600000 in
theorem law_int1 (x : Int) (x0 : 0 ≤ x) (x1 : x ≤ 255) (hx : x % 3 = 1) (n : Int) (h0 : -9223372036854775808 ≤ n) (h1 : n ≤ 9223372036854775807) (w : World) (htab : Lib.TabIs Tryz.prog w "internal/strconv.uint64pow10" .u64 Lib.pow10Tab) :
    Calls Tryz.prog 3 #[.int .u8 x, .int .i64 n] w fun e w' => e = .returned (.bool true) ∧ Below w.heap.size w w' := by
  have HT := Lib.hid (fun o => Lib.tabIs_alloc htab o)
  have HN := Lib.hid (And.intro h0 h1)
  obtain ⟨m, hm, m0, m1⟩ : ∃ m : Int, wrap64 (wrap32 n) = m ∧ -9223372036854775808 ≤ m ∧ m ≤ 9223372036854775807 := ⟨wrap64 (wrap32 n), rfl, by have := HN.out; simp only [IntKind.wrap, wrap32, wrap64] at *; omega, by have := HN.out; simp only [IntKind.wrap, wrap32, wrap64] at *; omega⟩
  have HM := Lib.hid (And.intro m0 m1)
  clear htab h0 h1 m0 m1
  go_enter Tryz.func3, Tryz.ntmps3
  go_wp2_with fail
  rw [hm]
  refine (number m HM.out.1 HM.out.2 _ (HT.out _)).mono ?_
  rintro e w1 ⟨rfl, hb1⟩
  have Hb1 : Hid (Below w.heap.size w w1) := Lib.hid (((Below.refl _ _).alloc (Nat.le_refl _) _).trans (hb1.mono (by simp)))
  clear hb1
  go_wp2_with fail
  refine (decoded_int 23 (by simp) m HM.out.1 HM.out.2 _).mono ?_
  rintro e w2 ⟨rfl, hb2⟩
  have Hb2 : Hid (Below w.heap.size w w2) := Lib.hid (Hb1.out.trans (hb2.mono Hb1.out.size))
  clear hb2
  go_wp2
  go_ret
  exact ⟨rfl, Hb2.out.alloc Hb2.out.size _⟩

set_option maxHeartbeats 1600000 in
theorem law_int2 (x : Int) (x0 : 0 ≤ x) (x1 : x ≤ 255) (hx : x % 3 = 2) (n : Int) (h0 : -9223372036854775808 ≤ n) (h1 : n ≤ 9223372036854775807) (w : World) (htab : Lib.TabIs Tryz.prog w "internal/strconv.uint64pow10" .u64 Lib.pow10Tab) :
    Calls Tryz.prog 3 #[.int .u8 x, .int .i64 n] w fun e w' => e = .returned (.bool true) ∧ Below w.heap.size w w' := by
  have HT := Lib.hid (fun o => Lib.tabIs_alloc htab o)
  have HN := Lib.hid (And.intro h0 h1)
  obtain ⟨m, hm, m0, m1⟩ : ∃ m : Int, n = m ∧ -9223372036854775808 ≤ m ∧ m ≤ 9223372036854775807 := ⟨n, rfl, HN.out.1, HN.out.2⟩
  have HM := Lib.hid (And.intro m0 m1)
  clear htab h0 h1 m0 m1
  go_enter Tryz.func3, Tryz.ntmps3
  go_wp2_with fail
  rw [hm]
  refine (number m HM.out.1 HM.out.2 _ (HT.out _)).mono ?_
  rintro e w1 ⟨rfl, hb1⟩
  have Hb1 : Hid (Below w.heap.size w w1) := Lib.hid (((Below.refl _ _).alloc (Nat.le_refl _) _).trans (hb1.mono (by simp)))
  clear hb1
  go_wp2_with fail
  refine (decoded_int 20 (by simp) m HM.out.1 HM.out.2 _).mono ?_
  rintro e w2 ⟨rfl, hb2⟩
  have Hb2 : Hid (Below w.heap.size w w2) := Lib.hid (Hb1.out.trans (hb2.mono Hb1.out.size))
  clear hb2
  go_wp2
  go_ret
  exact ⟨rfl, Hb2.out.alloc Hb2.out.size _⟩

theorem law_any (x : Int) (x0 : 0 ≤ x) (x1 : x ≤ 255) (n : Int) (h0 : -9223372036854775808 ≤ n) (h1 : n ≤ 9223372036854775807) (w : World) (htab : Lib.TabIs Tryz.prog w "internal/strconv.uint64pow10" .u64 Lib.pow10Tab) :
    Calls Tryz.prog 3 #[.int .u8 x, .int .i64 n] w fun e w' => e = .returned (.bool true) ∧ Below w.heap.size w w' := by
  have : x % 3 = 0 ∨ x % 3 = 1 ∨ x % 3 = 2 := by omega
  rcases this with h | h | h
  · exact law_int0 x x0 x1 h n h0 h1 w htab
  · exact law_int1 x x0 x1 h n h0 h1 w htab
  · exact law_int2 x x0 x1 h n h0 h1 w htab
end Go.Proofs.YtnkkpfboaklogaaGreatDoor
