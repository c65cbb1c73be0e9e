/- Walks of the law FnBack: strconv.ParseFloat at the texts of floats. -/
import Derived.Test.YtbbjjkcjpdmjnaaGreatDoorZd
import Derived.Test.YtbbjjkcjpdmjnaaGreatDoorJ
namespace Go.Proofs.YtbbjjkcjpdmjnaaGreatDoor
open Go.RowKit

theorem conv_wide (neg : Bool) (r : Nat) (hr : r < 2139095040) (w : World) : (convert 49 30 (.float .f32 (Ieee.single.word neg r))).run Tryz.prog w = .ok (.float .f64 (Ieee.double.word neg (Fl.wideR r))) w :=
  run_convert_float_float w 49 30 .f32 .f64 _ _ (by rw [Tryz.underlying49]; rfl) Tryz.underlying30 (Fl.widen neg r hr)
theorem conv_narrow (neg : Bool) (r : Nat) (hr : r < 2139095040) (w : World) : (convert 30 49 (.float .f64 (Ieee.double.word neg (Fl.wideR r)))).run Tryz.prog w = .ok (.float .f32 (Ieee.single.word neg r)) w :=
  run_convert_float_float w 30 49 .f64 .f32 _ _ (by rw [Tryz.underlying30]; rfl) Tryz.underlying49 (Fl.narrow neg r hr)

/-- ParseFloat, out of what atof64 does. -/
theorem parseFloat_of64 (s : ByteArray) (b : Nat) (w : World)
    (h : Calls Tryz.prog 108 #[.string s] w fun e w' => e = .returned (.tuple #[.float .f64 b, .int .i64 s.size, .nilIface]) ∧ Below w.heap.size w w') :
    Calls Tryz.prog 43 #[.string s, .int .i64 64] w fun e w' => e = .returned (.tuple #[.float .f64 b, .nilIface]) ∧ Below w.heap.size w w' := by
  have H := Lib.hid h
  clear h
  have h79 : Calls Tryz.prog 79 #[.string s, .int .i64 64] w fun e w' => e = .returned (.tuple #[.float .f64 b, .int .i64 s.size, .nilIface]) ∧ Below w.heap.size w w' := by
    go_enter Tryz.func79, Tryz.ntmps79
    go_wp2_with fail
    refine H.out.mono ?_
    rintro e w' ⟨rfl, hb⟩
    have HB := Lib.hid hb
    clear hb
    go_wp2
    go_ret3
    exact ⟨rfl, HB.out⟩
  have H79 := Lib.hid h79
  clear h79
  have h53 : Calls Tryz.prog 53 #[.string s, .int .i64 64] w fun e w' => e = .returned (.tuple #[.float .f64 b, .nilIface]) ∧ Below w.heap.size w w' := by
    go_enter Tryz.func53, Tryz.ntmps53
    go_wp2_with fail
    refine H79.out.mono ?_
    rintro e w' ⟨rfl, hb⟩
    have HB := Lib.hid hb
    clear hb
    go_wp2
    go_ret2
    exact ⟨rfl, HB.out⟩
  have H53 := Lib.hid h53
  clear h53
  go_enter Tryz.func43, Tryz.ntmps43
  go_wp2_with fail
  refine H53.out.mono ?_
  rintro e w' ⟨rfl, hb⟩
  have HB := Lib.hid hb
  clear hb
  go_wp2
  go_ret2
  exact ⟨rfl, HB.out⟩

/-- ParseFloat, out of what atof32 does. -/
theorem parseFloat_of32 (s : ByteArray) (neg : Bool) (r : Nat) (hr : r < 2139095040) (w : World)
    (h : Calls Tryz.prog 107 #[.string s] w fun e w' => e = .returned (.tuple #[.float .f32 (Ieee.single.word neg r), .int .i64 s.size, .nilIface]) ∧ Below w.heap.size w w') :
    Calls Tryz.prog 43 #[.string s, .int .i64 32] w fun e w' => e = .returned (.tuple #[.float .f64 (Ieee.double.word neg (Fl.wideR r)), .nilIface]) ∧ Below w.heap.size w w' := by
  have H := Lib.hid h
  clear h
  have hcv := conv_wide neg r hr
  generalize Ieee.single.word neg r = x at *
  generalize Ieee.double.word neg (Fl.wideR r) = b at *
  have h79 : Calls Tryz.prog 79 #[.string s, .int .i64 32] w fun e w' => e = .returned (.tuple #[.float .f64 b, .int .i64 s.size, .nilIface]) ∧ Below w.heap.size w w' := by
    go_enter Tryz.func79, Tryz.ntmps79
    go_wp2_with fail
    refine H.out.mono ?_
    rintro e w' ⟨rfl, hb⟩
    have HB := Lib.hid hb
    clear hb
    go_wp2
    go_ret3
    exact ⟨rfl, HB.out⟩
  clear hcv
  have H79 := Lib.hid h79
  clear h79
  have h53 : Calls Tryz.prog 53 #[.string s, .int .i64 32] w fun e w' => e = .returned (.tuple #[.float .f64 b, .nilIface]) ∧ Below w.heap.size w w' := by
    go_enter Tryz.func53, Tryz.ntmps53
    go_wp2_with fail
    refine H79.out.mono ?_
    rintro e w' ⟨rfl, hb⟩
    have HB := Lib.hid hb
    clear hb
    go_wp2
    go_ret2
    exact ⟨rfl, HB.out⟩
  have H53 := Lib.hid h53
  clear h53
  go_enter Tryz.func43, Tryz.ntmps43
  go_wp2_with fail
  refine H53.out.mono ?_
  rintro e w' ⟨rfl, hb⟩
  have HB := Lib.hid hb
  clear hb
  go_wp2
  go_ret2
  exact ⟨rfl, HB.out⟩
end Go.Proofs.YtbbjjkcjpdmjnaaGreatDoor
