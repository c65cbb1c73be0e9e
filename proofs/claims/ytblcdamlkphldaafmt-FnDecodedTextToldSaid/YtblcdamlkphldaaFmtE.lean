/- The walk of the law FnDecodedText. -/
import Derived.Test.YtblcdamlkphldaaFmtD
namespace Go.Proofs.YtblcdamlkphldaaFmt
open Go.RowKit

@[go_sem] theorem float_eq (w : World) : (Op.equalIn 9999 24 (.float .f64 0) (.float .f64 0)).run Tryf.prog w = .ok true w := by kernel_rfl

theorem decoded_bytes' (s : ByteArray) (hl : s.size ≤ 500) (w : World) (ev : Value) (hE : w.cell? ⟨0, 0, none⟩ = some ev) :
    Calls Tryf.prog 4 #[.int .u32 17, .string ⟨(hexText s.data.toList).toArray⟩] w fun e w' => e = .returned (.tuple #[dat 4 s false, .bool true]) ∧ Below w.heap.size w w' := by
  have h := decoded_bytes s.data.toList (by simpa using hl) w ev hE
  have e : (⟨s.data.toList.toArray⟩ : ByteArray) = s := by simp
  rw [e] at h
  exact h

/-- The cells of a Datum that lies in a block. -/
theorem dat_cells {w : World} {g : Nat} {k : Int} {s : ByteArray} {b : Bool} (h : w.heap[g]? = some (.cells #[.int .i64 k, .int .i64 0, .float .f64 0, .string s, .bool b, .int .i64 0, .int .i64 0, .int .i64 0, .int .i64 0, .int .i64 0, .int .i64 0, .int .i64 0, .int .i64 0] 28 (0, 0))) :
    w.cell? ⟨g, 0, none⟩ = some (.int .i64 k) ∧ w.cell? ⟨g, 1, none⟩ = some (.int .i64 0) ∧ w.cell? ⟨g, 2, none⟩ = some (.float .f64 0) ∧ w.cell? ⟨g, 3, none⟩ = some (.string s) ∧ w.cell? ⟨g, 4, none⟩ = some (.bool b) ∧
    w.cell? ⟨g, 5, none⟩ = some (.int .i64 0) ∧ w.cell? ⟨g, 6, none⟩ = some (.int .i64 0) ∧ w.cell? ⟨g, 7, none⟩ = some (.int .i64 0) ∧ w.cell? ⟨g, 8, none⟩ = some (.int .i64 0) ∧ w.cell? ⟨g, 9, none⟩ = some (.int .i64 0) ∧
    w.cell? ⟨g, 10, none⟩ = some (.int .i64 0) ∧ w.cell? ⟨g, 11, none⟩ = some (.int .i64 0) ∧ w.cell? ⟨g, 12, none⟩ = some (.int .i64 0) := by
  refine ⟨?_, ?_, ?_, ?_, ?_, ?_, ?_, ?_, ?_, ?_, ?_, ?_, ?_⟩ <;> (rw [cell_of_row _ _ _ _ _ _ h]; rfl)

abbrev listed : Array Value := #[.int .u32 25, .int .u32 1043, .int .u32 1042]

theorem law_long (s : ByteArray) (b : Bool) (w : World) (h : 500 < s.size) (hmax : s.size ≤ 9223372036854775807) :
    Calls Tryf.prog 3 #[.string s, .bool b] w fun e w' => e = .returned (.bool true) ∧ w' = w := by
  by_cases h1 : 2147483647 < s.size
  · go_enter Tryf.func3, Tryf.ntmps3
    go_wp2
    go_ret
    exact ⟨rfl, rfl⟩
  · go_enter Tryf.func3, Tryf.ntmps3
    go_wp2
    go_ret
    exact ⟨rfl, rfl⟩

set_option maxHeartbeats 1600000 in
theorem law_short (s : ByteArray) (b : Bool) (w : World) (h : s.size ≤ 500) (ev : Value) (hE : w.cell? ⟨0, 0, none⟩ = some ev) :
    Calls Tryf.prog 3 #[.string s, .bool b] w fun e w' => e = .returned (.bool true) ∧ Below w.heap.size w w' := by
  go_enter Tryf.func3, Tryf.ntmps3
  go_wp2
  go_loopw [6] (fun i wr => ∃ k : Nat, k ≤ 3 ∧ i = .int .i64 k ∧ Below w.heap.size w wr ∧ wr.heap[w.heap.size]? = some (.cells listed 22 (0, 0)))
    (fun i _ => 3 - (intOf i).toNat)
  case atStart => exact ⟨0, by omega, rfl, (Below.refl _ _).alloc (Nat.le_refl _) _, heap_alloc_new _ _⟩
  case round =>
    obtain ⟨k, hk, rfl, hb, hblk⟩ := hrel
    by_cases hk3 : k < 3
    · obtain ⟨t, ht, hct⟩ : ∃ t : Int, (t = 25 ∨ t = 1043 ∨ t = 1042) ∧ wr.cell? ⟨w.heap.size, k, none⟩ = some (.int .u32 t) := by
        rw [cell_of_row _ _ _ _ _ _ hblk]
        match k, hk3 with
        | 0, _ => exact ⟨25, .inl rfl, rfl⟩
        | 1, _ => exact ⟨1043, .inr (.inl rfl), rfl⟩
        | 2, _ => exact ⟨1042, .inr (.inr rfl), rfl⟩
      have hlt : w.heap.size < wr.heap.size := Lib.lt_of_cell hct
      have Hb := Lib.hid hb; have Hblk := Lib.hid hblk
      clear hb hblk
      go_wp2_with fail
      refine (decoded_str t ht s _).mono ?_
      rintro e w1 ⟨rfl, hb1⟩
      have Hb1 := Lib.hid hb1
      clear hb1
      have Hn : Hid (Below w.heap.size w w1) := Lib.hid (Hb.out.trans (Hb1.out.mono (by omega)))
      have Hblk1 : Hid (w1.heap[w.heap.size]? = some (.cells listed 22 (0, 0))) := Lib.hid ((Hb1.out.block _ hlt).trans Hblk.out)
      have hlt1 : w.heap.size < w1.heap.size := Nat.lt_of_lt_of_le hlt Hb1.out.size
      go_wp2
      go_roundw
      case rel => exact ⟨k + 1, by omega, by go_num, Hn.out.alloc (by omega) _, (Below.heap_alloc _ _ _ hlt1).trans Hblk1.out⟩
      case measure => simp [intOf]; omega
    · obtain rfl : k = 3 := by omega
      have h0 : 0 < w.heap.size := Lib.lt_of_cell hE
      have hE1 : wr.cell? ⟨0, 0, none⟩ = some ev := (hb.cell (p := ⟨0, 0, none⟩) h0).trans hE
      have Hb := Lib.hid hb
      have hw : w.heap.size ≤ wr.heap.size := hb.size
      have HE1 := Lib.hid hE1
      clear hE hb hblk hE1
      cases b with
      | false =>
        go_wp2_with fail
        refine (hex_any s h _).mono ?_
        rintro e w1 ⟨rfl, hb1⟩
        have Hb1 := Lib.hid hb1
        clear hb1
        have HE2 : Hid (w1.cell? ⟨0, 0, none⟩ = some ev) := Lib.hid ((Hb1.out.cell (p := ⟨0, 0, none⟩) (Nat.lt_of_lt_of_le h0 hw)).trans HE1.out)
        go_wp2_with fail
        refine (decoded_bytes' s h _ ev HE2.out).mono ?_
        rintro e w2 ⟨rfl, hb2⟩
        have Hb2 := Lib.hid hb2
        clear hb2
        go_wp2_with fail
        refine (decoded_bool false _).mono ?_
        rintro e w3 ⟨rfl, hb3⟩
        obtain ⟨c0, c1, c2, c3, c4, c5, c6, c7, c8, c9, c10, c11, c12⟩ := dat_cells (k := 4) (s := s) (b := false) ((hb3.block w2.heap.size (by simp)).trans (heap_alloc_new _ _))
        have hlt3 : w2.heap.size < w3.heap.size := by have := hb3.size; simp at this; omega
        have Hb3 : Hid (Below w2.heap.size w2 w3) := Lib.hid (((Below.refl _ _).alloc (Nat.le_refl _) _).trans (hb3.mono (by simp)))
        clear hb3
        go_wp2
        go_ret
        exact ⟨rfl, (Hb.out.trans ((Hb1.out.mono hw).trans ((Hb2.out.mono (Nat.le_trans hw Hb1.out.size)).trans (Hb3.out.mono (Nat.le_trans hw (Nat.le_trans Hb1.out.size Hb2.out.size)))))).alloc (by have := Hb1.out.size; have := Hb2.out.size; omega) _⟩
      | true =>
        go_wp2_with fail
        refine (hex_any s h _).mono ?_
        rintro e w1 ⟨rfl, hb1⟩
        have Hb1 := Lib.hid hb1
        clear hb1
        have HE2 : Hid (w1.cell? ⟨0, 0, none⟩ = some ev) := Lib.hid ((Hb1.out.cell (p := ⟨0, 0, none⟩) (Nat.lt_of_lt_of_le h0 hw)).trans HE1.out)
        go_wp2_with fail
        refine (decoded_bytes' s h _ ev HE2.out).mono ?_
        rintro e w2 ⟨rfl, hb2⟩
        have Hb2 := Lib.hid hb2
        clear hb2
        go_wp2_with fail
        refine (decoded_bool true _).mono ?_
        rintro e w3 ⟨rfl, hb3⟩
        obtain ⟨c0, c1, c2, c3, c4, c5, c6, c7, c8, c9, c10, c11, c12⟩ := dat_cells (k := 4) (s := s) (b := false) ((hb3.block w2.heap.size (by simp)).trans (heap_alloc_new _ _))
        have hlt3 : w2.heap.size < w3.heap.size := by have := hb3.size; simp at this; omega
        have Hb3 : Hid (Below w2.heap.size w2 w3) := Lib.hid (((Below.refl _ _).alloc (Nat.le_refl _) _).trans (hb3.mono (by simp)))
        clear hb3
        go_wp2
        go_ret
        exact ⟨rfl, (Hb.out.trans ((Hb1.out.mono hw).trans ((Hb2.out.mono (Nat.le_trans hw Hb1.out.size)).trans (Hb3.out.mono (Nat.le_trans hw (Nat.le_trans Hb1.out.size Hb2.out.size)))))).alloc (by have := Hb1.out.size; have := Hb2.out.size; omega) _⟩
end Go.Proofs.YtblcdamlkphldaaFmt
