/- Walks of the law FnBack: told. -/
import Derived.Test.YtbbjjkcjpdmjnaaGreatDoorZw
namespace Go.Proofs.YtbbjjkcjpdmjnaaGreatDoor
open Go.RowKit

set_option maxRecDepth 100000 in
set_option maxHeartbeats 1000000 in
theorem told (s : ByteArray) (w : World) : Calls Tryz.prog 11 #[.iface 9 (.string s), .nilIface] w fun e w' => e = .returned (.tuple #[.string s, .bool true]) ∧ ∃ n, w' = w.drewN n := by
  go_enter Tryz.func11, Tryz.ntmps11
  go_wp2_with fail
  go_quiet (fail)
  go_wp2
  go_ret2
  exact ⟨rfl, _, rfl⟩
end Go.Proofs.YtbbjjkcjpdmjnaaGreatDoor

/- Walks of the law FnBack: the items, and how large they are. -/
namespace Go.Proofs.YtbbjjkcjpdmjnaaGreatDoor
open Go.RowKit

/-- An item. -/
structure It where
  nul : Bool
  text : ByteArray
  num : Int
  real : Nat
  tru : Bool
def It.cells (x : It) : List Value := [.bool x.nul, .string x.text, .int .i64 x.num, .float .f64 x.real, .bool x.tru]
def It.val (x : It) : Value := .agg #[.bool x.nul, .string x.text, .int .i64 x.num, .float .f64 x.real, .bool x.tru]

set_option maxRecDepth 100000 in
set_option maxHeartbeats 1000000 in
theorem fits4 (x : It) (w : World) : Calls Tryz.prog 9 #[x.val] w fun e w' => e = .returned (.bool (decide (x.text.size ≤ 2147483647))) ∧ Below w.heap.size w w' := by
  obtain ⟨nul, text, num, real, tru⟩ := x
  unfold It.val
  by_cases h : text.size ≤ 2147483647
  · have hd : decide (2147483647 < text.size) = false := decide_eq_false (by omega)
    have hd2 : decide (text.size ≤ 2147483647) = true := decide_eq_true h
    have HD2 := Lib.hid hd2
    clear hd2
    go_enter Tryz.func9, Tryz.ntmps9
    go_wp2_with fail
    go_ret
    refine ⟨by rw [HD2.out]; rfl, ?_⟩
    exact (Below.refl _ _).alloc (Nat.le_refl _) _
  · have hd : decide (2147483647 < text.size) = true := decide_eq_true (by omega)
    have hd2 : decide (text.size ≤ 2147483647) = false := decide_eq_false h
    have HD2 := Lib.hid hd2
    clear hd2
    go_enter Tryz.func9, Tryz.ntmps9
    go_wp2_with fail
    go_ret
    refine ⟨by rw [HD2.out]; rfl, ?_⟩
    exact (Below.refl _ _).alloc (Nat.le_refl _) _

/-- Items in a row. -/
def Its (W : World) (ga oa : Nat) (its : List It) : Prop := ∀ (i : Nat) x, its[i]? = some x → ∀ (k : Nat) u, x.cells[k]? = some u → W.cell? ⟨ga, oa + i * 5 + k, none⟩ = some u
theorem Its.five {W : World} {ga oa : Nat} {its : List It} (h : Its W ga oa its) (i : Nat) (x : It) (hx : its[i]? = some x) : W.cell? ⟨ga, oa + i * 5, none⟩ = some (.bool x.nul) ∧ W.cell? ⟨ga, oa + i * 5 + 1, none⟩ = some (.string x.text) ∧ W.cell? ⟨ga, oa + i * 5 + 2, none⟩ = some (.int .i64 x.num) ∧ W.cell? ⟨ga, oa + i * 5 + 3, none⟩ = some (.float .f64 x.real) ∧ W.cell? ⟨ga, oa + i * 5 + 4, none⟩ = some (.bool x.tru) :=
  ⟨h i x hx 0 _ rfl, h i x hx 1 _ rfl, h i x hx 2 _ rfl, h i x hx 3 _ rfl, h i x hx 4 _ rfl⟩

set_option maxRecDepth 100000 in
set_option maxHeartbeats 1000000 in
theorem fits3 (W : World) (A : Option Addr) (ga oa n c : Nat) (its : List It) (hn : its.length = n) (hk : n ≤ 9223372036854775807) (hA : 0 < n → A = some ⟨ga, oa, none⟩) (h : Its W ga oa its) :
    Calls Tryz.prog 4 #[.slice A n c] W fun e w' => (∃ b, e = .returned (.bool b)) ∧ Below W.heap.size W w' := by
  have HI := Lib.hid h
  have HN := Lib.hid hn
  have HA := Lib.hid hA
  clear h hn hA
  by_cases hbig : n ≤ 2147483647
  · have hd : decide (2147483647 < n) = false := decide_eq_false (by omega)
    have hd' : decide ((2147483647 : Int) < (n : Int)) = false := decide_eq_false (by omega)
    go_enter Tryz.func4, Tryz.ntmps4
    go_wp2_with fail
    go_loopw [2, 4, 10] (fun _ _ v10 wr => ∃ i : Nat, i ≤ n ∧ v10 = .int .i64 i ∧ Hid (Below W.heap.size W wr)) (fun _ _ v10 _ => n - (intOf v10).toNat)
    case atStart => exact ⟨0, by omega, rfl, Lib.hid (Below.refl _ _)⟩
    case round =>
      obtain ⟨i, hi, rfl, hb⟩ := hrel
      by_cases hin : i < n
      · have hA1 := HA.out (by omega)
        obtain ⟨x, hx⟩ : ∃ x, its[i]? = some x := ⟨_, List.getElem?_eq_getElem (by rw [HN.out]; exact hin)⟩
        obtain ⟨h0, h1, h2, h3, h4⟩ := HI.out.five i x hx
        have hga : ga < W.heap.size := Lib.lt_of_cell h0
        have c0 := (hb.out.cell (p := ⟨ga, oa + i * 5, none⟩) hga).trans h0
        have c1 := (hb.out.cell (p := ⟨ga, oa + i * 5 + 1, none⟩) hga).trans h1
        have c2 := (hb.out.cell (p := ⟨ga, oa + i * 5 + 2, none⟩) hga).trans h2
        have c3 := (hb.out.cell (p := ⟨ga, oa + i * 5 + 3, none⟩) hga).trans h3
        have c4 := (hb.out.cell (p := ⟨ga, oa + i * 5 + 4, none⟩) hga).trans h4
        have H9 := Lib.hid (fun w => fits4 x w)
        have hbw := hb.out.size
        clear h0 h1 h2 h3 h4 hx
        subst hA1
        go_wp2_with fail
        refine (H9.out _).mono ?_
        rintro e w2 ⟨rfl, hb2⟩
        have HB2 : Hid (Below W.heap.size W w2) := Lib.hid ((hb.out.alloc hb.out.size _).trans (hb2.mono (by simp; omega)))
        clear hb2
        cases hc : decide (x.text.size ≤ 2147483647) with
        | true =>
          go_wp2_with fail
          go_roundw
          case rel => exact ⟨i + 1, by omega, by go_num, HB2⟩
          case measure => simp [intOf]; omega
        | false =>
          go_wp2_with fail
          go_ret
          exact ⟨⟨_, rfl⟩, HB2.out⟩
      · obtain rfl : n = i := by omega
        go_wp2_with fail
        go_ret
        exact ⟨⟨_, rfl⟩, hb.out⟩
  · have hd : decide (2147483647 < n) = true := decide_eq_true (by omega)
    have hd' : decide ((2147483647 : Int) < (n : Int)) = true := decide_eq_true (by omega)
    go_enter Tryz.func4, Tryz.ntmps4
    go_wp2_with fail
    go_ret
    exact ⟨⟨_, rfl⟩, Below.refl _ _⟩
end Go.Proofs.YtbbjjkcjpdmjnaaGreatDoor
