/- Walks of the law FnBack: fits. -/
import Derived.Test.YtbbjjkcjpdmjnaaGreatDoorZx
import Derived.Test.YtbbjjkcjpdmjnaaGreatDoorYf
import Derived.Test.YtbbjjkcjpdmjnaaGreatDoorYi
namespace Go.Proofs.YtbbjjkcjpdmjnaaGreatDoor
open Go.RowKit

def It.wf (x : It) : Prop := x.real < 18446744073709551616 ∧ -9223372036854775808 ≤ x.num ∧ x.num ≤ 9223372036854775807

set_option maxRecDepth 100000 in
set_option maxHeartbeats 1000000 in
theorem fits5 (W : World) (κ : Int) (A : Option Addr) (ga oa n c : Nat) (its : List It) (hn : its.length = n) (hk : n ≤ 9223372036854775807) (hA : 0 < n → A = some ⟨ga, oa, none⟩) (h : Its W ga oa its)
    (P : It → Prop) (hP : ∀ x ∈ its, ∀ w, Calls Tryz.prog 10 #[.int .i64 κ, x.val] w (FPost (P x) w)) :
    Calls Tryz.prog 5 #[.int .i64 κ, .slice A n c] W fun e w' => (∃ b, e = .returned (.bool b) ∧ (b = true → n ≤ 200 ∧ ∀ x ∈ its, P x)) ∧ Below W.heap.size W w' := by
  have HI := Lib.hid h
  have HN := Lib.hid hn
  have HA := Lib.hid hA
  have HP := Lib.hid hP
  clear h hn hA hP
  by_cases hbig : n ≤ 200
  · have hd : decide (200 < n) = false := decide_eq_false (by omega)
    have hd' : decide ((200 : Int) < (n : Int)) = false := decide_eq_false (by omega)
    go_enter Tryz.func5, Tryz.ntmps5
    go_wp2_with fail
    go_loopw [5] (fun v5 wr => ∃ i : Nat, i ≤ n ∧ v5 = .int .i64 i ∧ Hid (∀ (j : Nat) x, j < i → its[j]? = some x → P x) ∧ Hid (Below W.heap.size W wr)) (fun v5 _ => n - (intOf v5).toNat)
    case atStart => exact ⟨0, by omega, rfl, Lib.hid (fun j x hj _ => absurd hj (by omega)), Lib.hid (Below.refl _ _)⟩
    case round =>
      obtain ⟨i, hi, rfl, hps, hb⟩ := hrel
      by_cases hin : i < n
      · have hA1 := HA.out (by omega)
        obtain ⟨x, hx⟩ : ∃ x, its[i]? = some x := ⟨_, List.getElem?_eq_getElem (by rw [HN.out]; exact hin)⟩
        obtain ⟨h0, h1, h2, h3, h4⟩ := HI.out.five i x hx
        have hga : ga < W.heap.size := Lib.lt_of_cell h0
        have c0 := (hb.out.cell (p := ⟨ga, oa + i * 5, none⟩) hga).trans h0
        have c1 := (hb.out.cell (p := ⟨ga, oa + i * 5 + 1, none⟩) hga).trans h1
        have c2 := (hb.out.cell (p := ⟨ga, oa + i * 5 + 2, none⟩) hga).trans h2
        have c3 := (hb.out.cell (p := ⟨ga, oa + i * 5 + 3, none⟩) hga).trans h3
        have c4 := (hb.out.cell (p := ⟨ga, oa + i * 5 + 4, none⟩) hga).trans h4
        have H10 := Lib.hid (fun w => HP.out x (List.mem_of_getElem? hx) w)
        have HX := Lib.hid hx
        have hbw := hb.out.size
        clear h0 h1 h2 h3 h4 hx
        subst hA1
        go_wp2_with fail
        refine (H10.out _).mono ?_
        rintro e w2 ⟨⟨b, rfl, hbP⟩, hb2⟩
        have HB2 : Hid (Below W.heap.size W w2) := Lib.hid (hb.out.trans (hb2.mono hbw))
        have HBP := Lib.hid hbP
        clear hb2 hbP
        cases b with
        | true =>
          have HPS : Hid (∀ (j : Nat) x, j < i + 1 → its[j]? = some x → P x) := Lib.hid (fun j y hj hy => by
            by_cases hji : j < i
            · exact hps.out j y hji hy
            · have : j = i := by omega
              subst this
              have hyx := HX.out
              rw [hy] at hyx
              injection hyx with hyx
              rw [hyx]
              exact HBP.out rfl)
          go_wp2_with fail
          go_roundw
          case rel => exact ⟨i + 1, by omega, by go_num, HPS, HB2⟩
          case measure => simp [intOf]; omega
        | false =>
          go_wp2_with fail
          go_ret
          exact ⟨⟨_, rfl, fun h => by cases h⟩, HB2.out⟩
      · obtain rfl : n = i := by omega
        go_wp2_with fail
        go_ret
        exact ⟨⟨_, rfl, fun _ => ⟨hbig, fun x hx => by
          obtain ⟨j, hj, hjx⟩ := List.getElem_of_mem hx
          exact hps.out j x (by rw [← HN.out]; exact hj) (by rw [List.getElem?_eq_getElem hj, hjx])⟩⟩, hb.out⟩
  · have hd : decide (200 < n) = true := decide_eq_true (by omega)
    have hd' : decide ((200 : Int) < (n : Int)) = true := decide_eq_true (by omega)
    go_enter Tryz.func5, Tryz.ntmps5
    go_wp2_with fail
    go_ret
    exact ⟨⟨_, rfl, fun h => by cases h⟩, Below.refl _ _⟩
end Go.Proofs.YtbbjjkcjpdmjnaaGreatDoor
