/- Walks of the law FnDecodedInt: strconv.FormatInt at base 10 writes the numeral of a number. The walk of FormatInt is the shelf's proof of the same function, turned to this dump. -/
import Derived.Test.YtnkkpfboaklogaaGreatDoorB
import Derived.Test.YtnkkpfboaklogaaGreatDoorShelf
import Derived.Lib.Walk
import Derived.Lib.ItoaMem
import Derived.WalkKit
import Derived.BigCall
import Derived.BigGuard
namespace Go.Proofs.YtnkkpfboaklogaaGreatDoor
open Go.RowKit Go.Sort Go.Lib

theorem below_grow (w : World) (k : Nat) (os : Array Obj) : RowKit.Below w.heap.size w (grow (w.drewN k) os) :=
  ⟨rfl, rfl, rfl, by simp [grow], fun j hj => by
    show ((w.drewN k).heap ++ os)[j]? = w.heap[j]?
    rw [show (w.drewN k).heap = w.heap from rfl, Array.getElem?_append_left hj]⟩

set_option maxHeartbeats 6400000 in
set_option maxRecDepth 100000 in
theorem formatInt (n : Int) (h0 : -9223372036854775808 ≤ n) (h1 : n ≤ 9223372036854775807) (w : World)
    (htab : Lib.TabIs Tryz.prog w "internal/strconv.uint64pow10" .u64 Lib.pow10Tab) :
    Calls Tryz.prog 11 #[.int .i64 n, .int .i64 10] w fun e w' => e = .returned (.string ⟨(Lib.itoa n).toArray⟩) ∧ RowKit.Below w.heap.size w w' := by
  by_cases hs : 0 ≤ n ∧ n < 100
  · -- 0 .. 99: two constants
    obtain ⟨i, rfl⟩ : ∃ i : Nat, n = i := ⟨n.toNat, by omega⟩
    have hi : i < 100 := by omega
    go_enter Tryz.func11, Tryz.ntmps11
    go_wp2_with fail
    refine (Tryz.internal_strconv_small i hi _).mono ?_
    rintro e w' ⟨rfl, rfl⟩
    go_wp2
    go_ret
    refine ⟨?_, Below.refl _ _⟩
    rw [Lib.itoa_nonneg]
    rfl
  · by_cases hneg : n < 0
    · obtain ⟨u, rfl⟩ : ∃ u : Nat, n = -(u : Int) := ⟨n.natAbs, by omega⟩
      have hu1 : 1 ≤ u := by omega
      have hu64 : u < 18446744073709551616 := by omega
      have hnd20 : Lib.nDigits u ≤ 20 := by have := Lib.numDigits_eq u hu1 hu64; split at this <;> omega
      -- 'u := uint64(i); u = -u', for the walk to take
      have hwr : IntKind.u64.wrap (-IntKind.u64.wrap (-(u : Int))) = (u : Int) := by rw [IntKind.wrap_u64, IntKind.wrap_u64]; omega
      have hb3 : Lib.nDigits u ≤ 23 := by omega
      have hal : Tryz.prog.arrayLen 62 = 24 := by simp [Program.arrayLen, Tryz.underlying62]
      -- 'a[1 : 1+nd]', for the walk to take
      have hsl1 : ∀ W, (Instr.sliceAt 62 (.pointer (some ⟨w.heap.size, 0, none⟩)) (some (.int .i64 1)) (some (.int .i64 (1 + (Lib.nDigits u : Int)))) none).run Tryz.prog W = .ok (.slice (some ⟨w.heap.size, 1, none⟩) (Lib.nDigits u) 23) W := fun W => by
        rw [run_sliceAt_array_lh W 62 ⟨w.heap.size, 0, none⟩ (by simp [Program.arrayLen, Program.elem, Tryz.underlying62]) .i64 .i64 1 (1 + (Lib.nDigits u : Int)) (by omega) (by omega) (by rw [hal]; omega)]
        go_simp
        omega
      -- formatBase10's contract at the new block's row of zeros
      have hH0 := Lib.holds_zero w 62 (Lib.nDigits u) (by omega)
      have hfmt := Tryz.internal_strconv_formatBase10 w.heap.size 1 23 u (Array.replicate (Lib.nDigits u) 0) (w.alloc (.cells Lib.zeros24 62)) hH0 (by rw [Array.size_replicate]; exact Lib.lt_pow_nDigits u) hu64 (by rw [Array.size_replicate]; omega)
      rw [Array.size_replicate] at hfmt
      have HH0 := Lib.hid hH0
      clear hH0 hal
      go_enter Tryz.func11, Tryz.ntmps11
      go_wp2_with fail
      refine (Tryz.internal_strconv_numDigits u hu1 hu64 _ (Lib.tabIs_alloc htab _)).mono ?_
      rintro e w' ⟨rfl, rfl⟩
      go_wp2_with fail
      refine hfmt.mono ?_
      rintro e w' ⟨rfl, k, v', dk, rfl, hF⟩
      -- 'a[0] = '-'': its cell, in the world behind formatBase10
      have hc0 : ((putRow (fun (b : UInt8) => Value.int .u8 (b.toNat : Int)) (w.alloc (.cells Lib.zeros24 62)) w.heap.size 1 dk).drewN k).cell? ⟨w.heap.size, 0, none⟩ = some (.int .u8 0) := by
        rw [World.cell?_drewN, cell?_putRow_other _ _ _ _ _ _ (Or.inr (Or.inl (Nat.zero_lt_one))), World.cell?_alloc_new]
        exact Lib.zeros24_at 0 (by omega)
      have hf0 : ((putRow (fun (b : UInt8) => Value.int .u8 (b.toNat : Int)) (w.alloc (.cells Lib.zeros24 62)) w.heap.size 1 dk).drewN k).frozen? ⟨w.heap.size, 0, none⟩ = false := by
        rw [World.frozen?_drewN, frozen?_putRow]
        exact World.frozen?_alloc_new _ _ _ _
      -- 'a[: 1+nd]', for the walk to take
      have hal : Tryz.prog.arrayLen 62 = 24 := by simp [Program.arrayLen, Tryz.underlying62]
      have hsl2 : ∀ W, (Instr.sliceAt 62 (.pointer (some ⟨w.heap.size, 0, none⟩)) none (some (.int .i64 (1 + (Lib.nDigits u : Int)))) none).run Tryz.prog W = .ok (.slice (some ⟨w.heap.size, 0, none⟩) (1 + Lib.nDigits u) 24) W := fun W => by
        rw [run_sliceAt_array_h W 62 ⟨w.heap.size, 0, none⟩ (by simp [Program.arrayLen, Program.elem, Tryz.underlying62]) .i64 (1 + (Lib.nDigits u : Int)) (by omega) (by rw [hal]; omega)]
        go_simp
        omega
      clear hal
      -- 'string(a[: 1+nd])', for the walk to take: '-', then the numeral
      have hcv : (convert 40 9 (.slice (some ⟨w.heap.size, 0, none⟩) (1 + Lib.nDigits u) 24)).run Tryz.prog (((putRow (fun (b : UInt8) => Value.int .u8 (b.toNat : Int)) (w.alloc (.cells Lib.zeros24 62)) w.heap.size 1 dk).drewN k).setCell ⟨w.heap.size, 0, none⟩ (.int .u8 45)) = .ok (.string ⟨(45 :: Lib.decDigits u).toArray⟩) (((putRow (fun (b : UInt8) => Value.int .u8 (b.toNat : Int)) (w.alloc (.cells Lib.zeros24 62)) w.heap.size 1 dk).drewN k).setCell ⟨w.heap.size, 0, none⟩ (.int .u8 45)) := by
        have h := run_convert_bytes_back (P := Tryz.prog) (((putRow (fun (b : UInt8) => Value.int .u8 (b.toNat : Int)) (w.alloc (.cells Lib.zeros24 62)) w.heap.size 1 dk).drewN k).setCell ⟨w.heap.size, 0, none⟩ (.int .u8 45)) 40 9 5 ⟨w.heap.size, 0, none⟩ 24 (45 :: Lib.decDigits u) Tryz.underlying40 Tryz.underlying5 Tryz.underlying9 (fun j hj => by
          rw [Lib.add_plain]
          cases j with
          | zero => exact World.cell?_setCell_same _ _ _ hc0
          | succ i =>
            have hi : i < (Lib.decDigits u).length := by simpa using hj
            rw [World.cell?_setCell_other _ _ _ _ (by simp), List.getElem_cons_succ, Lib.row_is_numeral hF i hi, World.cell?_drewN, show 0 + (i + 1) = 1 + i by omega]
            exact cell?_putRow (fun (b : UInt8) => Value.int .u8 (b.toNat : Int)) _ w.heap.size 1 _ dk HH0.out (by rw [hF.size, Array.size_replicate]) i (by rw [hF.size]; rw [Lib.decDigits_length] at hi; exact hi))
        rw [List.length_cons, Lib.decDigits_length, Nat.add_comm] at h
        exact h
      go_wp2
      go_ret
      obtain ⟨os, eo⟩ := Lib.fin_neg w (.cells Lib.zeros24 62) dk k (.int .u8 45)
      refine ⟨?_, by rw [eo]; exact below_grow w k os⟩
      rw [Lib.itoa_neg u hu1]
      rfl
    · obtain ⟨u, rfl⟩ : ∃ u : Nat, n = u := ⟨n.toNat, by omega⟩
      have hu1 : 1 ≤ u := by omega
      have hu64 : u < 18446744073709551616 := by omega
      have hnd20 : Lib.nDigits u ≤ 20 := by have := Lib.numDigits_eq u hu1 hu64; split at this <;> omega
      have hb3 : Lib.nDigits u ≤ 23 := by omega
      have hal : Tryz.prog.arrayLen 62 = 24 := by simp [Program.arrayLen, Tryz.underlying62]
      -- 'a[1 : 1+nd]', for the walk to take
      have hsl1 : ∀ W, (Instr.sliceAt 62 (.pointer (some ⟨w.heap.size, 0, none⟩)) (some (.int .i64 1)) (some (.int .i64 (1 + (Lib.nDigits u : Int)))) none).run Tryz.prog W = .ok (.slice (some ⟨w.heap.size, 1, none⟩) (Lib.nDigits u) 23) W := fun W => by
        rw [run_sliceAt_array_lh W 62 ⟨w.heap.size, 0, none⟩ (by simp [Program.arrayLen, Program.elem, Tryz.underlying62]) .i64 .i64 1 (1 + (Lib.nDigits u : Int)) (by omega) (by omega) (by rw [hal]; omega)]
        go_simp
        omega
      -- formatBase10's contract at the new block's row of zeros
      have hH0 := Lib.holds_zero w 62 (Lib.nDigits u) (by omega)
      have hfmt := Tryz.internal_strconv_formatBase10 w.heap.size 1 23 u (Array.replicate (Lib.nDigits u) 0) (w.alloc (.cells Lib.zeros24 62)) hH0 (by rw [Array.size_replicate]; exact Lib.lt_pow_nDigits u) hu64 (by rw [Array.size_replicate]; omega)
      rw [Array.size_replicate] at hfmt
      have HH0 := Lib.hid hH0
      clear hH0 hal
      go_enter Tryz.func11, Tryz.ntmps11
      go_wp2_with fail
      refine (Tryz.internal_strconv_numDigits u hu1 hu64 _ (Lib.tabIs_alloc htab _)).mono ?_
      rintro e w' ⟨rfl, rfl⟩
      go_wp2_with fail
      refine hfmt.mono ?_
      rintro e w' ⟨rfl, k, v', dk, rfl, hF⟩
      -- 'string(a[1 : 1+nd])', for the walk to take: the row reads as the numeral
      have hcv : (convert 40 9 (.slice (some ⟨w.heap.size, 1, none⟩) (Lib.nDigits u) 23)).run Tryz.prog ((putRow (fun (b : UInt8) => Value.int .u8 (b.toNat : Int)) (w.alloc (.cells Lib.zeros24 62)) w.heap.size 1 dk).drewN k) = .ok (.string ⟨(Lib.decDigits u).toArray⟩) ((putRow (fun (b : UInt8) => Value.int .u8 (b.toNat : Int)) (w.alloc (.cells Lib.zeros24 62)) w.heap.size 1 dk).drewN k) := by
        have h := run_convert_bytes_back (P := Tryz.prog) ((putRow (fun (b : UInt8) => Value.int .u8 (b.toNat : Int)) (w.alloc (.cells Lib.zeros24 62)) w.heap.size 1 dk).drewN k) 40 9 5 ⟨w.heap.size, 1, none⟩ 23 (Lib.decDigits u) Tryz.underlying40 Tryz.underlying5 Tryz.underlying9 (fun j hj => by
          rw [Lib.row_is_numeral hF j hj, Lib.add_plain, World.cell?_drewN]
          exact cell?_putRow (fun (b : UInt8) => Value.int .u8 (b.toNat : Int)) _ w.heap.size 1 _ dk HH0.out (by rw [hF.size, Array.size_replicate]) j (by rw [hF.size]; rw [Lib.decDigits_length] at hj; exact hj))
        rw [Lib.decDigits_length] at h
        exact h
      go_wp2
      go_ret
      obtain ⟨os, eo⟩ := Lib.fin_pos w (.cells Lib.zeros24 62) dk k
      refine ⟨?_, by rw [eo]; exact below_grow w k os⟩
      rw [Lib.itoa_nonneg]
      rfl

theorem number (n : Int) (h0 : -9223372036854775808 ≤ n) (h1 : n ≤ 9223372036854775807) (w : World)
    (htab : Lib.TabIs Tryz.prog w "internal/strconv.uint64pow10" .u64 Lib.pow10Tab) :
    Calls Tryz.prog 5 #[.int .i64 n] w fun e w' => e = .returned (.string ⟨(Lib.itoa n).toArray⟩) ∧ RowKit.Below w.heap.size w w' := by
  have H := Lib.hid (formatInt n h0 h1 w htab)
  clear htab
  have H8 : Calls Tryz.prog 8 #[.int .i64 n, .int .i64 10] w fun e w' => e = .returned (.string ⟨(Lib.itoa n).toArray⟩) ∧ RowKit.Below w.heap.size w w' := by
    go_enter Tryz.func8, Tryz.ntmps8
    go_wp2_with fail
    refine H.out.mono ?_
    rintro e w1 ⟨rfl, hb⟩
    have Hb := Lib.hid hb
    clear hb
    go_wp2
    go_ret
    exact ⟨rfl, Hb.out⟩
  have H8 := Lib.hid H8
  go_enter Tryz.func5, Tryz.ntmps5
  go_wp2_with fail
  refine H8.out.mono ?_
  rintro e w1 ⟨rfl, hb⟩
  have Hb := Lib.hid hb
  clear hb
  go_wp2
  go_ret
  exact ⟨rfl, Hb.out⟩
end Go.Proofs.YtnkkpfboaklogaaGreatDoor
