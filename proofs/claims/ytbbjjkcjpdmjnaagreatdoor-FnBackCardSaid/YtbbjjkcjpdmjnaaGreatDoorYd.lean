/- Walks of the law FnBack: spec.Fits. -/
import Derived.Test.YtbbjjkcjpdmjnaaGreatDoorA
import Derived.Test.YtbbjjkcjpdmjnaaGreatDoorJ
import Derived.Laws.NewFold
import Derived.Laws.FloatArith
namespace Go.Proofs.YtbbjjkcjpdmjnaaGreatDoor
open Go.RowKit

theorem float_eqIn' (d : Nat) (a b : Nat) (w : World) : (Op.equalIn (d + 1) 30 (.float .f64 a) (.float .f64 b)).run Tryz.prog w = .ok (Op.floatEq .f64 a b) w := by
  simp [Op.equalIn, run_underlying Tryz.underlying30]
@[go_sem] theorem float_eqIn (a b : Nat) (w : World) : (Op.equalIn 9999 30 (.float .f64 a) (.float .f64 b)).run Tryz.prog w = .ok (Op.floatEq .f64 a b) w := float_eqIn' 9998 a b w
@[go_sem] theorem run_store_flt (P : Program) (w : World) (a : Addr) (m : Mode) (k : FloatKind) (b : Nat) : (store a (.float k b) m).run P w = stored P w a (.float k b) m := run_store P w a _ m rfl

@[go_sem] theorem order_pz : FloatKind.f64.format.order 0 0 = some .eq := by kernel_rfl
@[go_sem] theorem order_nz : FloatKind.f64.format.order 9223372036854775808 0 = some .eq := by kernel_rfl
@[go_sem] theorem order_pinf : FloatKind.f64.format.order 9218868437227405312 0 = some .gt := by kernel_rfl
@[go_sem] theorem order_ninf : FloatKind.f64.format.order 18442240474082181120 0 = some .lt := by kernel_rfl
@[go_sem] theorem sub_pz (w : World) : (binOp .sub 30 (.float .f64 0) (.float .f64 0)).run Tryz.prog w = .ok (.float .f64 0) w := run_float_arith w .sub 30 .f64 0 0 0 (by kernel_rfl)
@[go_sem] theorem sub_nz (w : World) : (binOp .sub 30 (.float .f64 9223372036854775808) (.float .f64 9223372036854775808)).run Tryz.prog w = .ok (.float .f64 0) w := run_float_arith w .sub 30 .f64 _ _ 0 (by kernel_rfl)
@[go_sem] theorem quo_pz (w : World) : (binOp .quo 30 (.float .f64 4607182418800017408) (.float .f64 0)).run Tryz.prog w = .ok (.float .f64 9218868437227405312) w := run_float_arith w .quo 30 .f64 _ _ _ (by kernel_rfl)
@[go_sem] theorem quo_nz (w : World) : (binOp .quo 30 (.float .f64 4607182418800017408) (.float .f64 9223372036854775808)).run Tryz.prog w = .ok (.float .f64 18442240474082181120) w := run_float_arith w .quo 30 .f64 _ _ _ (by kernel_rfl)

/-- A float that is written. -/
def FitR (X : Nat) : Prop := ∃ neg r, r < 9218868437227405312 ∧ (r = 0 → neg = false) ∧ X = Ieee.double.word neg r
/-- What a test answers. -/
def FPost (F : Prop) (w : World) (e : Ending) (w' : World) : Prop := (∃ b, e = .returned (.bool b) ∧ (b = true → F)) ∧ Below w.heap.size w w'
theorem FPost.no {F : Prop} {w w' : World} (h : Below w.heap.size w w') : FPost F w (.returned (.bool false)) w' := ⟨⟨_, rfl, fun h => by cases h⟩, h⟩
theorem FPost.yes {F : Prop} {w w' : World} (b : Bool) (hF : F) (h : Below w.heap.size w w') : FPost F w (.returned (.bool b)) w' := ⟨⟨_, rfl, fun _ => hF⟩, h⟩
theorem below2 (w : World) (o1 o2 : Obj) : Below w.heap.size w ((w.alloc o1).alloc o2) := ((Below.refl _ _).alloc (Nat.le_refl _) _).alloc (by simp) _

theorem eq_order {X Y : Nat} (h : Op.floatEq .f64 X Y = true) : Ieee.double.order X Y = some .eq := by
  unfold Op.floatEq at h
  exact eq_of_beq h
theorem zero_of_eq {X : Nat} (hX : X < 18446744073709551616) (h : Op.floatEq .f64 X 0 = true) : X = 0 ∨ X = 9223372036854775808 := by
  have h1 := eq_order h
  rcases Fl.sorts64 X hX with ⟨neg, r, hr, rfl⟩ | ⟨neg, rfl⟩ | ⟨neg, r, h2, h3, rfl⟩
  · have h2 := Fl.eq64 neg false r 0 hr (by decide) h1
    obtain ⟨rfl, _⟩ := h2
    cases neg
    · exact Or.inl rfl
    · exact Or.inr rfl
  · exfalso
    cases neg
    · exact absurd h1 (by decide +kernel)
    · exact absurd h1 (by decide +kernel)
  · rw [Fl.order_nan_left neg r h2 h3] at h1
    cases h1

theorem nan_bits (x y t : Nat) : ∃ neg r, 9218868437227405312 < r ∧ r < 9223372036854775808 ∧ (Question.nanBits .f64 x y).cut t = Ieee.double.word neg r := by
  simp only [Question.cut]
  have hm := Nat.mod_lt (t / 2) (show 0 < 2 ^ 52 - 1 by decide)
  have e52 : (2 : Nat) ^ 52 - 1 = 4503599627370495 := rfl
  have e63 : (2 : Nat) ^ 63 = 9223372036854775808 := rfl
  rw [e52] at *
  rw [e63]
  generalize t / 2 % 4503599627370495 = u at *
  rcases Nat.mod_two_eq_zero_or_one t with h | h
  · refine ⟨false, 9218868437227405312 + 1 + u, by omega, by omega, ?_⟩
    rw [h]
    show _ = 9218868437227405312 + 1 + u
    omega
  · refine ⟨true, 9218868437227405312 + 1 + u, by omega, by omega, ?_⟩
    rw [h]
    show _ = 9223372036854775808 + (9218868437227405312 + 1 + u)
    omega
theorem sub_inf_run (neg : Bool) : ∃ f : World → Nat, (∀ w, (binOp .sub 30 (.float .f64 (Ieee.double.word neg 9218868437227405312)) (.float .f64 (Ieee.double.word neg 9218868437227405312))).run Tryz.prog w = .ok (.float .f64 (f w)) w.drew) ∧ ∀ w, FloatKind.f64.format.order (f w) 0 = none := by
  refine ⟨fun w => (Question.nanBits .f64 (Ieee.double.word neg 9218868437227405312) (Ieee.double.word neg 9218868437227405312)).cut (w.tape w.drawn (.nanBits .f64 (Ieee.double.word neg 9218868437227405312) (Ieee.double.word neg 9218868437227405312))), fun w => ?_, fun w => ?_⟩
  · have h : FloatKind.f64.format.sub (Ieee.double.word neg 9218868437227405312) (Ieee.double.word neg 9218868437227405312) = none := Fl.sub_inf neg
    simp [binOp, Op.floatArith, h, run_choose_drew, Question.forced]
  · obtain ⟨n2, r, h1, h2, h3⟩ := nan_bits (Ieee.double.word neg 9218868437227405312) (Ieee.double.word neg 9218868437227405312) (w.tape w.drawn (.nanBits .f64 (Ieee.double.word neg 9218868437227405312) (Ieee.double.word neg 9218868437227405312)))
    dsimp only
    rw [h3]
    exact Fl.order_nan_left n2 r h1 h2 0
theorem sub_fin_run (neg : Bool) (r : Nat) (hr : r < 9218868437227405312) (w : World) : (binOp .sub 30 (.float .f64 (Ieee.double.word neg r)) (.float .f64 (Ieee.double.word neg r))).run Tryz.prog w = .ok (.float .f64 0) w :=
  run_float_arith w .sub 30 .f64 _ _ 0 (Fl.sub_fin neg r hr)
theorem fin_ne {neg : Bool} {r : Nat} (hr : r < 9218868437227405312) (h0 : ¬ r = 0) : (FloatKind.f64.format.order (Ieee.double.word neg r) 0 == some Ordering.eq) = false := by
  cases h : (FloatKind.f64.format.order (Ieee.double.word neg r) 0 == some Ordering.eq) with
  | false => rfl
  | true =>
    have h1 : Ieee.double.order (Ieee.double.word neg r) (Ieee.double.word false 0) = some .eq := eq_of_beq h
    exact absurd (Fl.eq64 neg false r 0 hr (by decide) h1).1 h0
theorem bne_of {α : Type} [BEq α] {a b : α} (h : (a == b) = false) : (a != b) = true := by simp [bne, h]

set_option maxRecDepth 100000 in
set_option maxHeartbeats 1000000 in
theorem fits_1 (nul : Bool) (text : ByteArray) (num : Int) (real : Nat) (tru : Bool) (hx : real < 18446744073709551616) (w : World) (F : Prop) (hF : nul = false → text.toList = [] → num = 0 → real = 0 → F) : Calls Tryz.prog 10 #[.int .i64 1, .agg #[.bool nul, .string text, .int .i64 num, .float .f64 real, .bool tru]] w (FPost F w) := by
  have HFF := Lib.hid hF
  clear hF
  by_cases ht : text.toList = []
  · by_cases hn : num = 0
    · cases hq : Op.floatEq .f64 real 0 with
      | false =>
        go_enter Tryz.func10, Tryz.ntmps10
        go_wp2_with fail
        go_ret
        exact FPost.no (below2 _ _ _)
      | true =>
        cases nul with
        | true =>
          go_enter Tryz.func10, Tryz.ntmps10
          go_wp2_with fail
          go_ret
          exact FPost.no (below2 _ _ _)
        | false =>
          rcases zero_of_eq hx hq with rfl | rfl
          · go_enter Tryz.func10, Tryz.ntmps10
            go_wp2_with fail
            all_goals go_ret
            · exact FPost.yes _ (HFF.out (by first | trivial | assumption | omega) (by first | trivial | assumption | omega) (by first | trivial | assumption | omega) (by first | trivial | assumption | omega)) (below2 _ _ _)
            · exact FPost.no (below2 _ _ _)
          · go_enter Tryz.func10, Tryz.ntmps10
            go_wp2_with fail
            all_goals go_ret
            all_goals exact FPost.no (below2 _ _ _)
    · go_enter Tryz.func10, Tryz.ntmps10
      go_wp2_with fail
      go_ret
      exact FPost.no (below2 _ _ _)
  · go_enter Tryz.func10, Tryz.ntmps10
    go_wp2_with fail
    go_ret
    exact FPost.no (below2 _ _ _)

end Go.Proofs.YtbbjjkcjpdmjnaaGreatDoor
