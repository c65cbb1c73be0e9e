/- Walks of the law FnBack: spec.Fits at narrow floats. -/
import Derived.Test.YtbbjjkcjpdmjnaaGreatDoorYd
import Derived.Test.YtbbjjkcjpdmjnaaGreatDoorYc
namespace Go.Proofs.YtbbjjkcjpdmjnaaGreatDoor
open Go.RowKit

theorem conv_both (X : Nat) (hX : X < 18446744073709551616) (W : World) : ∃ c d k1 k2, (convert 30 49 (.float .f64 X)).run Tryz.prog W = .ok (.float .f32 c) (W.drewN k1) ∧ (convert 49 30 (.float .f32 c)).run Tryz.prog (W.drewN k1) = .ok (.float .f64 d) ((W.drewN k1).drewN k2) ∧
    ((∃ neg r, r < 2139095040 ∧ d = Ieee.double.word neg (Fl.wideR r)) ∨ (∃ neg, d = Ieee.double.word neg 9218868437227405312) ∨ ∃ neg r, 9218868437227405312 < r ∧ r < 9223372036854775808 ∧ d = Ieee.double.word neg r) := by
  obtain ⟨c, w1, h1, hc, hw1⟩ := conv_narrow_any X hX W
  have e1 : ∃ k1, w1 = W.drewN k1 := by
    rcases hw1 with rfl | rfl
    · exact ⟨0, rfl⟩
    · exact ⟨1, rfl⟩
  obtain ⟨k1, rfl⟩ := e1
  obtain ⟨d, w2, h2, hw2, hd⟩ := conv_wide_any c hc (W.drewN k1)
  have e2 : ∃ k2, w2 = (W.drewN k1).drewN k2 := by
    rcases hw2 with rfl | rfl
    · exact ⟨0, rfl⟩
    · exact ⟨1, rfl⟩
  obtain ⟨k2, rfl⟩ := e2
  exact ⟨c, d, k1, k2, h1, h2, hd⟩

theorem wideR_fin (r : Nat) (hr : r < 2139095040) : Fl.wideR r < 9218868437227405312 := Fl.wideR_lt r hr

/-- A narrow float that is written. -/
def FitR32 (X : Nat) : Prop := ∃ neg r, r < 2139095040 ∧ (r = 0 → neg = false) ∧ X = Ieee.double.word neg (Fl.wideR r)

theorem narrow_sorts {X d : Nat} (hX : X < 18446744073709551616) (h : Op.floatEq .f64 X d = true)
    (hd : (∃ neg r, r < 2139095040 ∧ d = Ieee.double.word neg (Fl.wideR r)) ∨ (∃ neg, d = Ieee.double.word neg 9218868437227405312) ∨ ∃ neg r, 9218868437227405312 < r ∧ r < 9223372036854775808 ∧ d = Ieee.double.word neg r) :
    (∃ neg r, r < 2139095040 ∧ X = Ieee.double.word neg (Fl.wideR r)) ∨ ∃ neg, X = Ieee.double.word neg 9218868437227405312 := by
  have h1 := eq_order h
  rcases hd with ⟨n1, r1, hr1, rfl⟩ | ⟨n1, rfl⟩ | ⟨n1, r1, h2, h3, rfl⟩
  · rcases Fl.sorts64 X hX with ⟨neg, r, hr, rfl⟩ | h2 | ⟨neg, r, h2, h3, rfl⟩
    · obtain ⟨h4, _⟩ := Fl.eq64 neg n1 r _ hr (wideR_fin r1 hr1) h1
      subst h4
      exact Or.inl ⟨neg, r1, hr1, rfl⟩
    · exact Or.inr h2
    · rw [Fl.order_nan_left neg r h2 h3] at h1
      cases h1
  · exact Or.inr (Fl.order_inf_eq n1 X h1 hX)
  · rw [Fl.order_nan_right n1 r1 h2 h3] at h1
    cases h1

theorem bel7 (w : World) (o1 o2 : Obj) (k : Nat) (v : Value) : Below w.heap.size w ((((w.alloc o1).alloc o2).drewN k).setCell ⟨w.heap.size + 1, 3, none⟩ v) := (below_drewN (below2 w o1 o2) k).setCell (show w.heap.size ≤ w.heap.size + 1 by omega) _
set_option maxRecDepth 100000 in
set_option maxHeartbeats 1000000 in
theorem fits_7 (nul : Bool) (text : ByteArray) (num : Int) (real : Nat) (tru : Bool) (hx : real < 18446744073709551616) (w : World) (F : Prop) (hF : nul = false → text.toList = [] → num = 0 → tru = false → FitR32 real → F) : Calls Tryz.prog 10 #[.int .i64 7, .agg #[.bool nul, .string text, .int .i64 num, .float .f64 real, .bool tru]] w (FPost F w) := by
  have HFF := Lib.hid hF
  clear hF
  obtain ⟨c, d, k1, k2, hc1, hc2, hd⟩ := conv_both real hx ((w.alloc (.cells #[.bool nul, .string text, .int .i64 num, .float .f64 real, .bool tru] 32)).alloc (.cells #[.bool nul, .string { data := #[] }, .int .i64 0, .float .f64 0, .bool false] 32))
  have HD := Lib.hid hd
  clear hd
  by_cases ht : text.toList = []
  · by_cases hn : num = 0
    · subst hn
      cases hq : Op.floatEq .f64 real d with
      | false =>
        go_enter Tryz.func10, Tryz.ntmps10
        go_wp2_with fail
        ((try simp only [Exit.inBlock, Exit.then]); refine bodyPost_ret (v := Value.bool false) (results_tmp (fn := Tryz.f10) (t := 4) rfl _ _ _) rfl ?_)
        exact FPost.no (bel7 w _ _ _ _)
      | true =>
        cases tru with
        | true =>
          go_enter Tryz.func10, Tryz.ntmps10
          go_wp2_with fail
          ((try simp only [Exit.inBlock, Exit.then]); refine bodyPost_ret (v := Value.bool false) (results_tmp (fn := Tryz.f10) (t := 4) rfl _ _ _) rfl ?_)
          exact FPost.no (bel7 w _ _ _ _)
        | false =>
          cases nul with
          | true =>
            go_enter Tryz.func10, Tryz.ntmps10
            go_wp2_with fail
            ((try simp only [Exit.inBlock, Exit.then]); refine bodyPost_ret (v := Value.bool false) (results_tmp (fn := Tryz.f10) (t := 4) rfl _ _ _) rfl ?_)
            exact FPost.no (bel7 w _ _ _ _)
          | false =>
            rcases narrow_sorts hx hq HD.out with ⟨neg, r, hr, hX⟩ | ⟨neg, hX⟩
            · by_cases hr0 : r = 0
              · have hX2 : real = 0 ∨ real = 9223372036854775808 := by rw [hX, hr0, Fl.wideR_zero]; cases neg <;> first | exact Or.inl rfl | exact Or.inr rfl
                clear hX
                rcases hX2 with rfl | rfl
                · have HFR : Hid (FitR32 0) := Lib.hid ⟨false, 0, by decide, fun _ => rfl, rfl⟩
                  clear hr hr0
                  go_enter Tryz.func10, Tryz.ntmps10
                  go_wp2_with fail
                  · ((try simp only [Exit.inBlock, Exit.then]); refine bodyPost_ret (v := Value.bool true) (results_tmp (fn := Tryz.f10) (t := 4) rfl _ _ _) rfl ?_)
                    exact FPost.yes _ (HFF.out (by first | trivial | assumption | omega) (by first | trivial | assumption | omega) (by first | trivial | assumption | omega) (by first | trivial | assumption | omega) HFR.out) (bel7 w _ _ _ _)
                  · ((try simp only [Exit.inBlock, Exit.then]); refine bodyPost_ret (v := Value.bool false) (results_tmp (fn := Tryz.f10) (t := 4) rfl _ _ _) rfl ?_)
                    exact FPost.no (bel7 w _ _ _ _)
                · clear hr hr0
                  go_enter Tryz.func10, Tryz.ntmps10
                  go_wp2_with fail
                  all_goals ((try simp only [Exit.inBlock, Exit.then]); refine bodyPost_ret (v := Value.bool false) (results_tmp (fn := Tryz.f10) (t := 4) rfl _ _ _) rfl ?_)
                  all_goals first | exact FPost.no (bel7 w _ _ _ _) | exact FPost.no ((bel7 w _ _ _ _).drew)
              · have hwp := Fl.wideR_pos r (by omega) hr
                have hsub := sub_fin_run neg _ (Fl.wideR_lt r hr)
                have hne := fin_ne (neg := neg) (Fl.wideR_lt r hr) (by omega)
                have hne2 := bne_of hne
                have HFR : Hid (FitR32 (Ieee.double.word neg (Fl.wideR r))) := Lib.hid ⟨neg, r, hr, fun h => absurd h hr0, rfl⟩
                rw [← hX] at hsub hne hne2 HFR
                clear hX hr hr0 hwp
                go_enter Tryz.func10, Tryz.ntmps10
                go_wp2_with fail
                · ((try simp only [Exit.inBlock, Exit.then]); refine bodyPost_ret (v := Value.bool true) (results_tmp (fn := Tryz.f10) (t := 4) rfl _ _ _) rfl ?_)
                  exact FPost.yes _ (HFF.out (by first | trivial | assumption | omega) (by first | trivial | assumption | omega) (by first | trivial | assumption | omega) (by first | trivial | assumption | omega) HFR.out) (bel7 w _ _ _ _)
                · ((try simp only [Exit.inBlock, Exit.then]); refine bodyPost_ret (v := Value.bool false) (results_tmp (fn := Tryz.f10) (t := 4) rfl _ _ _) rfl ?_)
                  exact FPost.no (bel7 w _ _ _ _)
            · obtain ⟨f, hsub, hnan⟩ := sub_inf_run neg
              rw [← hX] at hsub
              clear hX
              go_enter Tryz.func10, Tryz.ntmps10
              go_wp2_with fail
              all_goals ((try simp only [Exit.inBlock, Exit.then]); refine bodyPost_ret (v := Value.bool false) (results_tmp (fn := Tryz.f10) (t := 4) rfl _ _ _) rfl ?_)
              all_goals first | exact FPost.no (bel7 w _ _ _ _) | exact FPost.no ((bel7 w _ _ _ _).drew)
    · go_enter Tryz.func10, Tryz.ntmps10
      go_wp2_with fail
      ((try simp only [Exit.inBlock, Exit.then]); refine bodyPost_ret (v := Value.bool false) (results_tmp (fn := Tryz.f10) (t := 4) rfl _ _ _) rfl ?_)
      exact FPost.no (bel7 w _ _ _ _)
  · go_enter Tryz.func10, Tryz.ntmps10
    go_wp2_with fail
    ((try simp only [Exit.inBlock, Exit.then]); refine bodyPost_ret (v := Value.bool false) (results_tmp (fn := Tryz.f10) (t := 4) rfl _ _ _) rfl ?_)
    exact FPost.no (bel7 w _ _ _ _)
end Go.Proofs.YtbbjjkcjpdmjnaaGreatDoor
