/- Walks of the law FnBack: SameItems at equal rows. -/
import Derived.Test.YtbbjjkcjpdmjnaaGreatDoorYq
import Derived.BigRegion
import Derived.RegionTactic
import Derived.IntWalk
namespace Go.Proofs.YtbbjjkcjpdmjnaaGreatDoor
open Go.RowKit

set_option maxRecDepth 100000 in
set_option maxHeartbeats 4000000 in
theorem same_items (W : World) (A1 A2 : Option Addr) (g1 o1 g2 o2 n cp1 cp2 : Nat) (its : List It) (hn : its.length = n) (hk : n ≤ 200) (hA1 : 0 < n → A1 = some ⟨g1, o1, none⟩) (hA2 : 0 < n → A2 = some ⟨g2, o2, none⟩) (hi1 : Its W g1 o1 its) (hi2 : Its W g2 o2 its)
    (hfin : ∀ x ∈ its, FloatKind.f64.format.order x.real x.real = some .eq) :
    Calls Tryz.prog 8 #[.slice A1 n cp1, .slice A2 n cp2] W fun e w' => e = .returned (.bool true) ∧ Below W.heap.size W w' := by
  have HI1 := Lib.hid hi1
  have HI2 := Lib.hid hi2
  have HN := Lib.hid hn
  have HA1 := Lib.hid hA1
  have HA2 := Lib.hid hA2
  have HFIN := Lib.hid hfin
  clear hi1 hi2 hn hA1 hA2 hfin
  go_enter Tryz.func8, Tryz.ntmps8
  go_wp2_with fail
  go_loopw [5, 6, 7] (fun v5 _ _ wr => ∃ i : Nat, i ≤ n ∧ v5 = .int .i64 i ∧ Hid (Below W.heap.size W wr)) (fun v5 _ _ _ => n - (intOf v5).toNat)
  case atStart => exact ⟨0, by omega, rfl, Lib.hid (Below.refl _ _)⟩
  case round =>
    obtain ⟨i, hi, rfl, hb⟩ := hrel
    by_cases hin : i < n
    · have hA1 := HA1.out (by omega)
      have hA2 := HA2.out (by omega)
      obtain ⟨x, hx⟩ : ∃ x, its[i]? = some x := ⟨_, List.getElem?_eq_getElem (by rw [HN.out]; exact hin)⟩
      obtain ⟨p0, p1, p2, p3, p4⟩ := HI1.out.five i x hx
      obtain ⟨q0, q1, q2, q3, q4⟩ := HI2.out.five i x hx
      have hg1 : g1 < W.heap.size := Lib.lt_of_cell p0
      have hg2 : g2 < W.heap.size := Lib.lt_of_cell q0
      have c0 := (hb.out.cell (p := ⟨g1, o1 + i * 5, none⟩) hg1).trans p0
      have c1 := (hb.out.cell (p := ⟨g1, o1 + i * 5 + 1, none⟩) hg1).trans p1
      have c2 := (hb.out.cell (p := ⟨g1, o1 + i * 5 + 2, none⟩) hg1).trans p2
      have c3 := (hb.out.cell (p := ⟨g1, o1 + i * 5 + 3, none⟩) hg1).trans p3
      have c4 := (hb.out.cell (p := ⟨g1, o1 + i * 5 + 4, none⟩) hg1).trans p4
      have d0 := (hb.out.cell (p := ⟨g2, o2 + i * 5, none⟩) hg2).trans q0
      have d1 := (hb.out.cell (p := ⟨g2, o2 + i * 5 + 1, none⟩) hg2).trans q1
      have d2 := (hb.out.cell (p := ⟨g2, o2 + i * 5 + 2, none⟩) hg2).trans q2
      have d3 := (hb.out.cell (p := ⟨g2, o2 + i * 5 + 3, none⟩) hg2).trans q3
      have d4 := (hb.out.cell (p := ⟨g2, o2 + i * 5 + 4, none⟩) hg2).trans q4
      have hfx := HFIN.out x (List.mem_of_getElem? hx)
      have hg1r : g1 < wr.heap.size := Nat.lt_of_lt_of_le hg1 hb.out.size
      have hg2r : g2 < wr.heap.size := Nat.lt_of_lt_of_le hg2 hb.out.size
      have hn1 : ¬ g1 = wr.heap.size := by omega
      have hn2 : ¬ g2 = wr.heap.size := by omega
      have hlt1 : (i : Int) < (n : Int) := by omega
      have hi0 : (0 : Int) ≤ (i : Int) := by omega
      clear p0 p1 p2 p3 p4 q0 q1 q2 q3 q4 hx
      subst hA1 hA2
      obtain ⟨nul, text, num, real, tru⟩ := x
      dsimp only at c0 c1 c2 c3 c4 d0 d1 d2 d3 d4 hfx
      go_wp2_with fail
      go_region
      · simp only [Exit.then]
        go_step
        go_wp2_with fail
        go_roundw
        case rel => exact ⟨i + 1, by omega, by go_num, Lib.hid (((hb.out.alloc hb.out.size _).alloc (by simp; have := hb.out.size; omega) _).drew)⟩
        case measure => simp [intOf]; omega
      · simp only [Exit.then]
        go_step
        go_wp2_with fail
        go_roundw
        case rel => exact ⟨i + 1, by omega, by go_num, Lib.hid (((hb.out.alloc hb.out.size _).alloc (by simp; have := hb.out.size; omega) _).drew)⟩
        case measure => simp [intOf]; omega
    · obtain rfl : n = i := by omega
      go_wp2_with fail
      go_ret
      exact ⟨rfl, hb.out⟩
end Go.Proofs.YtbbjjkcjpdmjnaaGreatDoor

/- Walks of the law FnBack: the kinds that Scanned hands on; the law itself, out of what it calls. -/
namespace Go.Proofs.YtbbjjkcjpdmjnaaGreatDoor
open Go.RowKit

set_option maxRecDepth 100000 in
set_option maxHeartbeats 2000000 in
theorem scanned_via (κ : Int) (hκ : κ = 5 ∨ κ = 6 ∨ κ = 7) (W : World) (str : ByteArray) (its : List It) (hO : Calls Tryz.prog 21 #[.int .i64 κ, .string str] W (SRes W its)) :
    Calls Tryz.prog 7 #[.int .i64 κ, .string str] W (SRes W its) := by
  have hκ0 : 5 ≤ κ := by omega
  have hκ1 : κ ≤ 7 := by omega
  have HO := Lib.hid hO
  clear hO hκ
  go_enter Tryz.func7, Tryz.ntmps7
  go_wp2_with fail
  refine HO.out.mono ?_
  rintro e w' ⟨A, c, g, rfl, hA, hI, hb⟩
  have HF : Hid (SRes W its (.returned (.tuple #[.slice A its.length c, .bool true])) w') := Lib.hid ⟨A, c, g, rfl, hA, hI, hb⟩
  clear hA hI hb
  generalize its.length = n at *
  go_wp2_with fail
  go_ret2
  exact HF.out

/-- What the law answers. -/
def LDone3 (W : World) (e : Ending) (w' : World) : Prop := e = .returned (.bool true) ∧ Below W.heap.size W w'

set_option maxRecDepth 100000 in
set_option maxHeartbeats 4000000 in
theorem law_core (κ : Int) (h1 : 1 ≤ κ) (h7 : κ ≤ 7) (W : World) (A : Option Addr) (ga oa n c : Nat) (its : List It) (hn : its.length = n) (hk : n ≤ 9223372036854775807) (hA : 0 < n → A = some ⟨ga, oa, none⟩) (hI : Its W ga oa its)
    (P : It → Prop) (hP : ∀ x ∈ its, ∀ w, Calls Tryz.prog 10 #[.int .i64 κ, x.val] w (FPost (P x) w)) (G : ByteArray → Prop)
    (hW : n ≤ 200 → (∀ x ∈ its, P x) → ∀ w, Below W.heap.size W w → Calls Tryz.prog 6 #[.int .i64 κ, .slice A n c] w (fun e w' => ∃ bs : ByteArray, G bs ∧ e = .returned (.tuple #[.string bs, .bool true]) ∧ Below w.heap.size w w'))
    (hS : n ≤ 200 → (∀ x ∈ its, P x) → ∀ bs w, G bs → Below W.heap.size W w → Calls Tryz.prog 7 #[.int .i64 κ, .string bs] w (SRes w its))
    (hfin : ∀ x, P x → FloatKind.f64.format.order x.real x.real = some .eq) :
    Calls Tryz.prog 3 #[.int .i64 κ, .slice A n c] W (LDone3 W) := by
  have keep : ∀ w, Below W.heap.size W w → Its w ga oa its := fun w hb i x hx k u hu => by
    have := hI i x hx k u hu
    exact (hb.cell (Lib.lt_of_cell this)).trans this
  have H4 := Lib.hid (fits3 W A ga oa n c its hn hk hA hI)
  have H5 : Hid (∀ w, Below W.heap.size W w → Calls Tryz.prog 5 #[.int .i64 κ, .slice A n c] w fun e w' => (∃ b, e = .returned (.bool b) ∧ (b = true → n ≤ 200 ∧ ∀ x ∈ its, P x)) ∧ Below w.heap.size w w') := Lib.hid (fun w hb => fits5 w κ A ga oa n c its hn hk hA (keep w hb) P hP)
  have H8 : Hid (∀ w A2 g2 c2, n ≤ 200 → (∀ x ∈ its, P x) → Below W.heap.size W w → (0 < n → A2 = some ⟨g2, 0, none⟩) → Its w g2 0 its → Calls Tryz.prog 8 #[.slice A n c, .slice A2 n c2] w fun e w' => e = .returned (.bool true) ∧ Below w.heap.size w w') :=
    Lib.hid (fun w A2 g2 c2 hn2 hp hb hA2 hI2 => same_items w A A2 ga oa g2 0 n c c2 its hn hn2 hA hA2 (keep w hb) hI2 (fun x hx => hfin x (hp x hx)))
  have HW := Lib.hid hW
  have HS := Lib.hid hS
  have HN := Lib.hid hn
  clear hn hA hI hP hW hS hfin keep
  go_enter Tryz.func3, Tryz.ntmps3
  go_wp2_with fail
  refine H4.out.mono ?_
  rintro e w1 ⟨⟨b, rfl⟩, hb1⟩
  have HB1 := Lib.hid hb1
  clear hb1
  cases b with
  | false =>
    go_wp2_with fail
    go_ret
    exact ⟨rfl, HB1.out⟩
  | true =>
    have HC5 := Lib.hid (H5.out w1 HB1.out)
    go_wp2_with fail
    refine HC5.out.mono ?_
    rintro e w2 ⟨⟨b, rfl, hb⟩, hb2⟩
    have HB2 : Hid (Below W.heap.size W w2) := Lib.hid (HB1.out.trans (hb2.mono HB1.out.size))
    have HBT := Lib.hid hb
    clear hb hb2 HC5
    cases b with
    | false =>
      go_wp2_with fail
      go_ret
      exact ⟨rfl, HB2.out⟩
    | true =>
      obtain ⟨h200, hp⟩ := HBT.out rfl
      have HP := Lib.hid hp
      have HC6 := Lib.hid (HW.out h200 hp w2 HB2.out)
      clear hp
      go_wp2_with fail
      refine HC6.out.mono ?_
      rintro e w3 ⟨bs, hg, rfl, hb3⟩
      have HB3 : Hid (Below W.heap.size W w3) := Lib.hid (HB2.out.trans (hb3.mono HB2.out.size))
      have HC7 := Lib.hid (HS.out h200 HP.out bs w3 hg HB3.out)
      clear hg hb3 HC6
      go_wp2_with fail
      refine HC7.out.mono ?_
      rintro e w4 ⟨A2, c2, g2, rfl, hA2, hI2, hb4⟩
      rw [HN.out] at hA2 ⊢
      have HB4 : Hid (Below W.heap.size W w4) := Lib.hid (HB3.out.trans (hb4.mono HB3.out.size))
      have HC8 := Lib.hid (H8.out w4 A2 g2 c2 h200 HP.out HB4.out hA2 hI2)
      clear hA2 hI2 hb4 HC7
      go_wp2_with fail
      refine HC8.out.mono ?_
      rintro e w5 ⟨rfl, hb5⟩
      have HB5 : Hid (Below W.heap.size W w5) := Lib.hid (HB4.out.trans (hb5.mono HB4.out.size))
      clear hb5
      go_wp2_with fail
      go_ret
      exact ⟨rfl, HB5.out⟩

set_option maxRecDepth 100000 in
set_option maxHeartbeats 4000000 in
theorem law_out (κ : Int) (hκ : κ < 1 ∨ 7 < κ) (W : World) (A : Option Addr) (ga oa n c : Nat) (its : List It) (hn : its.length = n) (hk : n ≤ 9223372036854775807) (hA : 0 < n → A = some ⟨ga, oa, none⟩) (hI : Its W ga oa its) :
    Calls Tryz.prog 3 #[.int .i64 κ, .slice A n c] W (LDone3 W) := by
  have H4 := Lib.hid (fits3 W A ga oa n c its hn hk hA hI)
  clear hn hA hI
  rcases hκ with hκ | hκ
  · have hd : decide (κ < 1) = true := decide_eq_true hκ
    go_enter Tryz.func3, Tryz.ntmps3
    go_wp2_with fail
    refine H4.out.mono ?_
    rintro e w1 ⟨⟨b, rfl⟩, hb1⟩
    have HB1 := Lib.hid hb1
    clear hb1
    cases b with
    | false =>
      go_wp2_with fail
      go_ret
      exact ⟨rfl, HB1.out⟩
    | true =>
      go_wp2_with fail
      go_ret
      exact ⟨rfl, HB1.out⟩
  · have hd : decide (κ < 1) = false := decide_eq_false (by omega)
    have hd2 : decide (7 < κ) = true := decide_eq_true hκ
    go_enter Tryz.func3, Tryz.ntmps3
    go_wp2_with fail
    refine H4.out.mono ?_
    rintro e w1 ⟨⟨b, rfl⟩, hb1⟩
    have HB1 := Lib.hid hb1
    clear hb1
    cases b with
    | false =>
      go_wp2_with fail
      go_ret
      exact ⟨rfl, HB1.out⟩
    | true =>
      go_wp2_with fail
      go_ret
      exact ⟨rfl, HB1.out⟩
end Go.Proofs.YtbbjjkcjpdmjnaaGreatDoor
