/- Walks of the law FnBack: spec.Fits, more kinds. -/
import Derived.Test.YtbbjjkcjpdmjnaaGreatDoorYd
namespace Go.Proofs.YtbbjjkcjpdmjnaaGreatDoor
open Go.RowKit

set_option maxRecDepth 100000 in
set_option maxHeartbeats 1000000 in
theorem fits_2 (nul : Bool) (text : ByteArray) (num : Int) (real : Nat) (tru : Bool) (hx : real < 18446744073709551616) (w : World) (F : Prop) (hF : nul = false → text.toList = [] → real = 0 → tru = false → F) : Calls Tryz.prog 10 #[.int .i64 2, .agg #[.bool nul, .string text, .int .i64 num, .float .f64 real, .bool tru]] w (FPost F w) := by
  have HFF := Lib.hid hF
  clear hF
  by_cases ht : text.toList = []
  · cases hq : Op.floatEq .f64 real 0 with
    | false =>
      go_enter Tryz.func10, Tryz.ntmps10
      go_wp2_with fail
      go_ret
      exact FPost.no (below2 _ _ _)
    | true =>
      cases tru with
      | true =>
        go_enter Tryz.func10, Tryz.ntmps10
        go_wp2_with fail
        go_ret
        exact FPost.no (below2 _ _ _)
      | false =>
        cases nul with
        | true =>
          go_enter Tryz.func10, Tryz.ntmps10
          go_wp2_with fail
          go_ret
          exact FPost.no (below2 _ _ _)
        | false =>
          rcases zero_of_eq hx hq with rfl | rfl
          · go_enter Tryz.func10, Tryz.ntmps10
            go_wp2_with fail
            all_goals go_ret
            · exact FPost.yes _ (HFF.out (by first | trivial | assumption | omega) (by first | trivial | assumption | omega) (by first | trivial | assumption | omega) (by first | trivial | assumption | omega)) (below2 _ _ _)
            · exact FPost.no (below2 _ _ _)
          · go_enter Tryz.func10, Tryz.ntmps10
            go_wp2_with fail
            all_goals go_ret
            all_goals exact FPost.no (below2 _ _ _)
  · go_enter Tryz.func10, Tryz.ntmps10
    go_wp2_with fail
    go_ret
    exact FPost.no (below2 _ _ _)

set_option maxRecDepth 100000 in
set_option maxHeartbeats 1000000 in
theorem fits_3 (nul : Bool) (text : ByteArray) (num : Int) (real : Nat) (tru : Bool) (hx : real < 18446744073709551616) (w : World) (F : Prop) (hF : nul = false → text.toList = [] → num = 0 → tru = false → FitR real → F) : Calls Tryz.prog 10 #[.int .i64 3, .agg #[.bool nul, .string text, .int .i64 num, .float .f64 real, .bool tru]] w (FPost F w) := by
  have HFF := Lib.hid hF
  clear hF
  by_cases ht : text.toList = []
  · by_cases hn : num = 0
    · cases hq : Op.floatEq .f64 real real with
      | false =>
        go_enter Tryz.func10, Tryz.ntmps10
        go_wp2_with fail
        go_ret
        exact FPost.no (below2 _ _ _)
      | true =>
        cases tru with
        | true =>
          go_enter Tryz.func10, Tryz.ntmps10
          go_wp2_with fail
          go_ret
          exact FPost.no (below2 _ _ _)
        | false =>
          cases nul with
          | true =>
            go_enter Tryz.func10, Tryz.ntmps10
            go_wp2_with fail
            go_ret
            exact FPost.no (below2 _ _ _)
          | false =>
            rcases Fl.sorts64 real hx with ⟨neg, r, hr, hX⟩ | ⟨neg, hX⟩ | ⟨neg, r, h2, h3, hX⟩
            · by_cases hr0 : r = 0
              · have hX2 : real = 0 ∨ real = 9223372036854775808 := by rw [hX, hr0]; cases neg <;> first | exact Or.inl rfl | exact Or.inr rfl
                clear hX
                rcases hX2 with rfl | rfl
                · have HFR : Hid (FitR 0) := Lib.hid ⟨false, 0, by decide, fun _ => rfl, rfl⟩
                  clear hr hr0
                  go_enter Tryz.func10, Tryz.ntmps10
                  go_wp2_with fail
                  all_goals go_ret
                  · exact FPost.yes _ (HFF.out (by first | trivial | assumption | omega) (by first | trivial | assumption | omega) (by first | trivial | assumption | omega) (by first | trivial | assumption | omega) HFR.out) (below2 _ _ _)
                  · exact FPost.no (below2 _ _ _)
                · clear hr hr0
                  go_enter Tryz.func10, Tryz.ntmps10
                  go_wp2_with fail
                  all_goals go_ret
                  all_goals first | exact FPost.no (below2 _ _ _) | exact FPost.no ((below2 _ _ _).drew)
              · have hsub := sub_fin_run neg r hr
                have hne := fin_ne (neg := neg) hr hr0
                have hne2 := bne_of hne
                have HFR : Hid (FitR (Ieee.double.word neg r)) := Lib.hid ⟨neg, r, hr, fun h => absurd h hr0, rfl⟩
                rw [← hX] at hsub hne hne2 HFR
                clear hX hr hr0
                go_enter Tryz.func10, Tryz.ntmps10
                go_wp2_with fail
                all_goals go_ret
                · exact FPost.yes _ (HFF.out (by first | trivial | assumption | omega) (by first | trivial | assumption | omega) (by first | trivial | assumption | omega) (by first | trivial | assumption | omega) HFR.out) (below2 _ _ _)
                · exact FPost.no (below2 _ _ _)
            · obtain ⟨f, hsub, hnan⟩ := sub_inf_run neg
              rw [← hX] at hsub
              clear hX
              go_enter Tryz.func10, Tryz.ntmps10
              go_wp2_with fail
              all_goals go_ret
              all_goals first | exact FPost.no (below2 _ _ _) | exact FPost.no ((below2 _ _ _).drew)
            · exfalso
              have h1 := eq_order hq
              rw [hX, Fl.order_nan_left neg r h2 h3] at h1
              cases h1
    · go_enter Tryz.func10, Tryz.ntmps10
      go_wp2_with fail
      go_ret
      exact FPost.no (below2 _ _ _)
  · go_enter Tryz.func10, Tryz.ntmps10
    go_wp2_with fail
    go_ret
    exact FPost.no (below2 _ _ _)

end Go.Proofs.YtbbjjkcjpdmjnaaGreatDoor

/- Walks of the law FnBack: spec.Fits, more kinds. -/
namespace Go.Proofs.YtbbjjkcjpdmjnaaGreatDoor
open Go.RowKit

set_option maxRecDepth 100000 in
set_option maxHeartbeats 1000000 in
theorem fits_4 (nul : Bool) (text : ByteArray) (num : Int) (real : Nat) (tru : Bool) (hx : real < 18446744073709551616) (w : World) (F : Prop) (hF : nul = false → text.size ≤ 200 → num = 0 → real = 0 → tru = false → F) : Calls Tryz.prog 10 #[.int .i64 4, .agg #[.bool nul, .string text, .int .i64 num, .float .f64 real, .bool tru]] w (FPost F w) := by
  have HFF := Lib.hid hF
  clear hF
  by_cases hn : num = 0
  · cases hq : Op.floatEq .f64 real 0 with
    | false =>
      go_enter Tryz.func10, Tryz.ntmps10
      go_wp2_with fail
      go_ret
      exact FPost.no (below2 _ _ _)
    | true =>
      cases tru with
      | true =>
        go_enter Tryz.func10, Tryz.ntmps10
        go_wp2_with fail
        go_ret
        exact FPost.no (below2 _ _ _)
      | false =>
        cases nul with
        | true =>
          go_enter Tryz.func10, Tryz.ntmps10
          go_wp2_with fail
          go_ret
          exact FPost.no (below2 _ _ _)
        | false =>
          rcases zero_of_eq hx hq with rfl | rfl
          · go_enter Tryz.func10, Tryz.ntmps10
            go_wp2_with fail
            all_goals go_ret
            · exact FPost.yes _ (HFF.out (by first | trivial | assumption | omega) (by first | trivial | assumption | omega) (by first | trivial | assumption | omega) (by first | trivial | assumption | omega) (by first | trivial | assumption | omega)) (below2 _ _ _)
            · exact FPost.no (below2 _ _ _)
          · go_enter Tryz.func10, Tryz.ntmps10
            go_wp2_with fail
            all_goals go_ret
            all_goals exact FPost.no (below2 _ _ _)
  · go_enter Tryz.func10, Tryz.ntmps10
    go_wp2_with fail
    go_ret
    exact FPost.no (below2 _ _ _)

set_option maxRecDepth 100000 in
set_option maxHeartbeats 1000000 in
theorem fits_5 (nul : Bool) (text : ByteArray) (num : Int) (real : Nat) (tru : Bool) (hx : real < 18446744073709551616) (w : World) (F : Prop) (hF : nul = false → text.size ≤ 200 → num = 0 → real = 0 → tru = false → F) : Calls Tryz.prog 10 #[.int .i64 5, .agg #[.bool nul, .string text, .int .i64 num, .float .f64 real, .bool tru]] w (FPost F w) := by
  have HFF := Lib.hid hF
  clear hF
  by_cases hn : num = 0
  · cases hq : Op.floatEq .f64 real 0 with
    | false =>
      go_enter Tryz.func10, Tryz.ntmps10
      go_wp2_with fail
      go_ret
      exact FPost.no (below2 _ _ _)
    | true =>
      cases tru with
      | true =>
        go_enter Tryz.func10, Tryz.ntmps10
        go_wp2_with fail
        go_ret
        exact FPost.no (below2 _ _ _)
      | false =>
        cases nul with
        | true =>
          go_enter Tryz.func10, Tryz.ntmps10
          go_wp2_with fail
          go_ret
          exact FPost.no (below2 _ _ _)
        | false =>
          rcases zero_of_eq hx hq with rfl | rfl
          · go_enter Tryz.func10, Tryz.ntmps10
            go_wp2_with fail
            all_goals go_ret
            · exact FPost.yes _ (HFF.out (by first | trivial | assumption | omega) (by first | trivial | assumption | omega) (by first | trivial | assumption | omega) (by first | trivial | assumption | omega) (by first | trivial | assumption | omega)) (below2 _ _ _)
            · exact FPost.no (below2 _ _ _)
          · go_enter Tryz.func10, Tryz.ntmps10
            go_wp2_with fail
            all_goals go_ret
            all_goals exact FPost.no (below2 _ _ _)
  · go_enter Tryz.func10, Tryz.ntmps10
    go_wp2_with fail
    go_ret
    exact FPost.no (below2 _ _ _)

end Go.Proofs.YtbbjjkcjpdmjnaaGreatDoor

/- Walks of the law FnBack: spec.Fits, more kinds. -/
namespace Go.Proofs.YtbbjjkcjpdmjnaaGreatDoor
open Go.RowKit

set_option maxRecDepth 100000 in
set_option maxHeartbeats 1000000 in
theorem fits_6 (nul : Bool) (text : ByteArray) (num : Int) (real : Nat) (tru : Bool) (hx : real < 18446744073709551616) (w : World) (F : Prop) (hF : nul = false → text.toList = [] → -2147483648 ≤ num → num ≤ 2147483647 → real = 0 → tru = false → F) : Calls Tryz.prog 10 #[.int .i64 6, .agg #[.bool nul, .string text, .int .i64 num, .float .f64 real, .bool tru]] w (FPost F w) := by
  have HFF := Lib.hid hF
  clear hF
  by_cases ht : text.toList = []
  · by_cases hn : -2147483648 ≤ num ∧ num ≤ 2147483647
    · obtain ⟨hw0, hw1⟩ := hn
      cases hq : Op.floatEq .f64 real 0 with
      | false =>
        go_enter Tryz.func10, Tryz.ntmps10
        go_wp2_with fail
        go_ret
        exact FPost.no (below2 _ _ _)
      | true =>
        cases tru with
        | true =>
          go_enter Tryz.func10, Tryz.ntmps10
          go_wp2_with fail
          go_ret
          exact FPost.no (below2 _ _ _)
        | false =>
          cases nul with
          | true =>
            go_enter Tryz.func10, Tryz.ntmps10
            go_wp2_with fail
            go_ret
            exact FPost.no (below2 _ _ _)
          | false =>
            rcases zero_of_eq hx hq with rfl | rfl
            · go_enter Tryz.func10, Tryz.ntmps10
              go_wp2_with fail
              all_goals go_ret
              · exact FPost.yes _ (HFF.out (by first | trivial | assumption | omega) (by first | trivial | assumption | omega) (by first | trivial | assumption | omega) (by first | trivial | assumption | omega) (by first | trivial | assumption | omega) (by first | trivial | assumption | omega)) (below2 _ _ _)
              · exact FPost.no (below2 _ _ _)
            · go_enter Tryz.func10, Tryz.ntmps10
              go_wp2_with fail
              all_goals go_ret
              all_goals exact FPost.no (below2 _ _ _)
    · obtain ⟨m, hm⟩ : ∃ m, IntKind.i32.wrap num = m := ⟨_, rfl⟩
      have hm2 := hm
      rw [IntKind.wrap_i32] at hm2
      have hm0 : -2147483648 ≤ m := by omega
      have hm1 : m ≤ 2147483647 := by omega
      have hne : ¬ num = m := by omega
      clear hm2 hn
      go_enter Tryz.func10, Tryz.ntmps10
      go_wp2_with fail
      go_ret
      exact FPost.no (below2 _ _ _)
  · go_enter Tryz.func10, Tryz.ntmps10
    go_wp2_with fail
    go_ret
    exact FPost.no (below2 _ _ _)

end Go.Proofs.YtbbjjkcjpdmjnaaGreatDoor
