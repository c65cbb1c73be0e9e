/- Walks of the law FnBack: the arrays' Scan of a text. -/
import Derived.Test.YtbbjjkcjpdmjnaaGreatDoorZo
import Derived.Lib.ConvBytes
namespace Go.Proofs.YtbbjjkcjpdmjnaaGreatDoor
open Go.RowKit

@[go_sem] theorem as9_50 (v : Value) (w : World) : (Instr.typeAssert (.iface 9 v) 20 50 true).run Tryz.prog w = .ok (.tuple #[.slice none 0 0, .bool false]) w := by kernel_rfl
@[go_sem] theorem as9_9 (v : Value) (w : World) : (Instr.typeAssert (.iface 9 v) 20 9 true).run Tryz.prog w = .ok (.tuple #[v, .bool true]) w := by kernel_rfl

theorem elem_bytesWorld (w : World) (s : List UInt8) : Elem (Lib.bytesWorld w 5 ⟨s.toArray⟩) (.slice (some ⟨w.heap.size, 0, none⟩) s.length (grownCap w s.length 0 5)) s := by
  refine ⟨w.heap.size, 0, _, _, _, rfl, grownCap_ge _ _ _ _, Lib.bytesWorld_at_new w 5 ⟨s.toArray⟩, fun j hj => ?_⟩
  have h := Lib.bytesWorld_cell w 5 ⟨s.toArray⟩ j (by simpa [ByteArray.size] using hj)
  rw [cell_of_row _ _ _ _ _ _ (Lib.bytesWorld_at_new w 5 ⟨s.toArray⟩)] at h
  rw [Nat.zero_add, h]
  simp [List.getD, hj]

theorem grown_of {W W1 w' : World} {p : Nat} (hb : Below W.heap.size W W1) (hg : W1.grownBy w' (some p)) : W.grownBy w' (some p) :=
  ⟨hg.os.trans hb.os, hg.tape.trans hb.tape, hg.output.trans hb.output, Nat.le_trans hb.size hg.size, fun k hk hne => (hg.block k (Nat.lt_of_lt_of_le hk hb.size) hne).trans (hb.block k hk)⟩

theorem scan_bool (W : World) (p : Nat) (s : List UInt8) (P : World → World → Prop) (h : ∀ W1 g cap, Below W.heap.size W W1 → Elem W1 (.slice (some ⟨g, 0, none⟩) s.length cap) s → s.length ≤ cap →
      Calls Tryz.prog 28 #[.pointer (some ⟨p, 0, none⟩), .slice (some ⟨g, 0, none⟩) s.length cap] W1 fun e w' => e = .returned .nilIface ∧ P W1 w') :
    Calls Tryz.prog 17 #[.pointer (some ⟨p, 0, none⟩), .iface 9 (.string ⟨s.toArray⟩)] W fun e w' => e = .returned .nilIface ∧ ∃ W1, Below W.heap.size W W1 ∧ P W1 w' := by
  have hsz : (⟨s.toArray⟩ : ByteArray).size = s.length := by simp [ByteArray.size]
  have hcv := Lib.run_convert_string_bytes (P := Tryz.prog) W 9 50 5 ⟨s.toArray⟩ Tryz.underlying9 Tryz.underlying50 Tryz.underlying5
  rw [hsz] at hcv
  have hb := Lib.bytesWorld_below W 5 ⟨s.toArray⟩
  have HC := Lib.hid (h _ _ _ hb (elem_bytesWorld W s) (grownCap_ge _ _ _ _))
  have HB := Lib.hid hb
  generalize (⟨s.toArray⟩ : ByteArray) = bs at *
  generalize Lib.bytesWorld W 5 bs = W1 at *
  generalize grownCap W s.length 0 5 = cap at *
  clear h hsz hb
  go_enter Tryz.func17, Tryz.ntmps17
  go_wp2_with fail
  refine HC.out.mono ?_
  rintro e w2 ⟨rfl, hP⟩
  have HP := Lib.hid hP
  clear hP hcv
  go_wp2_with fail
  go_ret
  exact ⟨rfl, _, HB.out, HP.out⟩

theorem scan_int64 (W : World) (p : Nat) (s : List UInt8) (P : World → World → Prop) (h : ∀ W1 g cap, Below W.heap.size W W1 → Elem W1 (.slice (some ⟨g, 0, none⟩) s.length cap) s → s.length ≤ cap →
      Calls Tryz.prog 30 #[.pointer (some ⟨p, 0, none⟩), .slice (some ⟨g, 0, none⟩) s.length cap] W1 fun e w' => e = .returned .nilIface ∧ P W1 w') :
    Calls Tryz.prog 18 #[.pointer (some ⟨p, 0, none⟩), .iface 9 (.string ⟨s.toArray⟩)] W fun e w' => e = .returned .nilIface ∧ ∃ W1, Below W.heap.size W W1 ∧ P W1 w' := by
  have hsz : (⟨s.toArray⟩ : ByteArray).size = s.length := by simp [ByteArray.size]
  have hcv := Lib.run_convert_string_bytes (P := Tryz.prog) W 9 50 5 ⟨s.toArray⟩ Tryz.underlying9 Tryz.underlying50 Tryz.underlying5
  rw [hsz] at hcv
  have hb := Lib.bytesWorld_below W 5 ⟨s.toArray⟩
  have HC := Lib.hid (h _ _ _ hb (elem_bytesWorld W s) (grownCap_ge _ _ _ _))
  have HB := Lib.hid hb
  generalize (⟨s.toArray⟩ : ByteArray) = bs at *
  generalize Lib.bytesWorld W 5 bs = W1 at *
  generalize grownCap W s.length 0 5 = cap at *
  clear h hsz hb
  go_enter Tryz.func18, Tryz.ntmps18
  go_wp2_with fail
  refine HC.out.mono ?_
  rintro e w2 ⟨rfl, hP⟩
  have HP := Lib.hid hP
  clear hP hcv
  go_wp2_with fail
  go_ret
  exact ⟨rfl, _, HB.out, HP.out⟩

theorem scan_float64 (W : World) (p : Nat) (s : List UInt8) (P : World → World → Prop) (h : ∀ W1 g cap, Below W.heap.size W W1 → Elem W1 (.slice (some ⟨g, 0, none⟩) s.length cap) s → s.length ≤ cap →
      Calls Tryz.prog 31 #[.pointer (some ⟨p, 0, none⟩), .slice (some ⟨g, 0, none⟩) s.length cap] W1 fun e w' => e = .returned .nilIface ∧ P W1 w') :
    Calls Tryz.prog 19 #[.pointer (some ⟨p, 0, none⟩), .iface 9 (.string ⟨s.toArray⟩)] W fun e w' => e = .returned .nilIface ∧ ∃ W1, Below W.heap.size W W1 ∧ P W1 w' := by
  have hsz : (⟨s.toArray⟩ : ByteArray).size = s.length := by simp [ByteArray.size]
  have hcv := Lib.run_convert_string_bytes (P := Tryz.prog) W 9 50 5 ⟨s.toArray⟩ Tryz.underlying9 Tryz.underlying50 Tryz.underlying5
  rw [hsz] at hcv
  have hb := Lib.bytesWorld_below W 5 ⟨s.toArray⟩
  have HC := Lib.hid (h _ _ _ hb (elem_bytesWorld W s) (grownCap_ge _ _ _ _))
  have HB := Lib.hid hb
  generalize (⟨s.toArray⟩ : ByteArray) = bs at *
  generalize Lib.bytesWorld W 5 bs = W1 at *
  generalize grownCap W s.length 0 5 = cap at *
  clear h hsz hb
  go_enter Tryz.func19, Tryz.ntmps19
  go_wp2_with fail
  refine HC.out.mono ?_
  rintro e w2 ⟨rfl, hP⟩
  have HP := Lib.hid hP
  clear hP hcv
  go_wp2_with fail
  go_ret
  exact ⟨rfl, _, HB.out, HP.out⟩

theorem scan_string (W : World) (p : Nat) (s : List UInt8) (P : World → World → Prop) (h : ∀ W1 g cap, Below W.heap.size W W1 → Elem W1 (.slice (some ⟨g, 0, none⟩) s.length cap) s → s.length ≤ cap →
      Calls Tryz.prog 32 #[.pointer (some ⟨p, 0, none⟩), .slice (some ⟨g, 0, none⟩) s.length cap] W1 fun e w' => e = .returned .nilIface ∧ P W1 w') :
    Calls Tryz.prog 20 #[.pointer (some ⟨p, 0, none⟩), .iface 9 (.string ⟨s.toArray⟩)] W fun e w' => e = .returned .nilIface ∧ ∃ W1, Below W.heap.size W W1 ∧ P W1 w' := by
  have hsz : (⟨s.toArray⟩ : ByteArray).size = s.length := by simp [ByteArray.size]
  have hcv := Lib.run_convert_string_bytes (P := Tryz.prog) W 9 50 5 ⟨s.toArray⟩ Tryz.underlying9 Tryz.underlying50 Tryz.underlying5
  rw [hsz] at hcv
  have hb := Lib.bytesWorld_below W 5 ⟨s.toArray⟩
  have HC := Lib.hid (h _ _ _ hb (elem_bytesWorld W s) (grownCap_ge _ _ _ _))
  have HB := Lib.hid hb
  generalize (⟨s.toArray⟩ : ByteArray) = bs at *
  generalize Lib.bytesWorld W 5 bs = W1 at *
  generalize grownCap W s.length 0 5 = cap at *
  clear h hsz hb
  go_enter Tryz.func20, Tryz.ntmps20
  go_wp2_with fail
  refine HC.out.mono ?_
  rintro e w2 ⟨rfl, hP⟩
  have HP := Lib.hid hP
  clear hP hcv
  go_wp2_with fail
  go_ret
  exact ⟨rfl, _, HB.out, HP.out⟩

theorem scan_bytea (W : World) (p : Nat) (s : List UInt8) (P : World → World → Prop) (h : ∀ W1 g cap, Below W.heap.size W W1 → Elem W1 (.slice (some ⟨g, 0, none⟩) s.length cap) s → s.length ≤ cap →
      Calls Tryz.prog 44 #[.pointer (some ⟨p, 0, none⟩), .slice (some ⟨g, 0, none⟩) s.length cap] W1 fun e w' => e = .returned .nilIface ∧ P W1 w') :
    Calls Tryz.prog 33 #[.pointer (some ⟨p, 0, none⟩), .iface 9 (.string ⟨s.toArray⟩)] W fun e w' => e = .returned .nilIface ∧ ∃ W1, Below W.heap.size W W1 ∧ P W1 w' := by
  have hsz : (⟨s.toArray⟩ : ByteArray).size = s.length := by simp [ByteArray.size]
  have hcv := Lib.run_convert_string_bytes (P := Tryz.prog) W 9 50 5 ⟨s.toArray⟩ Tryz.underlying9 Tryz.underlying50 Tryz.underlying5
  rw [hsz] at hcv
  have hb := Lib.bytesWorld_below W 5 ⟨s.toArray⟩
  have HC := Lib.hid (h _ _ _ hb (elem_bytesWorld W s) (grownCap_ge _ _ _ _))
  have HB := Lib.hid hb
  generalize (⟨s.toArray⟩ : ByteArray) = bs at *
  generalize Lib.bytesWorld W 5 bs = W1 at *
  generalize grownCap W s.length 0 5 = cap at *
  clear h hsz hb
  go_enter Tryz.func33, Tryz.ntmps33
  go_wp2_with fail
  refine HC.out.mono ?_
  rintro e w2 ⟨rfl, hP⟩
  have HP := Lib.hid hP
  clear hP hcv
  go_wp2_with fail
  go_ret
  exact ⟨rfl, _, HB.out, HP.out⟩

theorem scan_int32 (W : World) (p : Nat) (s : List UInt8) (P : World → World → Prop) (h : ∀ W1 g cap, Below W.heap.size W W1 → Elem W1 (.slice (some ⟨g, 0, none⟩) s.length cap) s → s.length ≤ cap →
      Calls Tryz.prog 45 #[.pointer (some ⟨p, 0, none⟩), .slice (some ⟨g, 0, none⟩) s.length cap] W1 fun e w' => e = .returned .nilIface ∧ P W1 w') :
    Calls Tryz.prog 34 #[.pointer (some ⟨p, 0, none⟩), .iface 9 (.string ⟨s.toArray⟩)] W fun e w' => e = .returned .nilIface ∧ ∃ W1, Below W.heap.size W W1 ∧ P W1 w' := by
  have hsz : (⟨s.toArray⟩ : ByteArray).size = s.length := by simp [ByteArray.size]
  have hcv := Lib.run_convert_string_bytes (P := Tryz.prog) W 9 50 5 ⟨s.toArray⟩ Tryz.underlying9 Tryz.underlying50 Tryz.underlying5
  rw [hsz] at hcv
  have hb := Lib.bytesWorld_below W 5 ⟨s.toArray⟩
  have HC := Lib.hid (h _ _ _ hb (elem_bytesWorld W s) (grownCap_ge _ _ _ _))
  have HB := Lib.hid hb
  generalize (⟨s.toArray⟩ : ByteArray) = bs at *
  generalize Lib.bytesWorld W 5 bs = W1 at *
  generalize grownCap W s.length 0 5 = cap at *
  clear h hsz hb
  go_enter Tryz.func34, Tryz.ntmps34
  go_wp2_with fail
  refine HC.out.mono ?_
  rintro e w2 ⟨rfl, hP⟩
  have HP := Lib.hid hP
  clear hP hcv
  go_wp2_with fail
  go_ret
  exact ⟨rfl, _, HB.out, HP.out⟩

theorem scan_float32 (W : World) (p : Nat) (s : List UInt8) (P : World → World → Prop) (h : ∀ W1 g cap, Below W.heap.size W W1 → Elem W1 (.slice (some ⟨g, 0, none⟩) s.length cap) s → s.length ≤ cap →
      Calls Tryz.prog 46 #[.pointer (some ⟨p, 0, none⟩), .slice (some ⟨g, 0, none⟩) s.length cap] W1 fun e w' => e = .returned .nilIface ∧ P W1 w') :
    Calls Tryz.prog 35 #[.pointer (some ⟨p, 0, none⟩), .iface 9 (.string ⟨s.toArray⟩)] W fun e w' => e = .returned .nilIface ∧ ∃ W1, Below W.heap.size W W1 ∧ P W1 w' := by
  have hsz : (⟨s.toArray⟩ : ByteArray).size = s.length := by simp [ByteArray.size]
  have hcv := Lib.run_convert_string_bytes (P := Tryz.prog) W 9 50 5 ⟨s.toArray⟩ Tryz.underlying9 Tryz.underlying50 Tryz.underlying5
  rw [hsz] at hcv
  have hb := Lib.bytesWorld_below W 5 ⟨s.toArray⟩
  have HC := Lib.hid (h _ _ _ hb (elem_bytesWorld W s) (grownCap_ge _ _ _ _))
  have HB := Lib.hid hb
  generalize (⟨s.toArray⟩ : ByteArray) = bs at *
  generalize Lib.bytesWorld W 5 bs = W1 at *
  generalize grownCap W s.length 0 5 = cap at *
  clear h hsz hb
  go_enter Tryz.func35, Tryz.ntmps35
  go_wp2_with fail
  refine HC.out.mono ?_
  rintro e w2 ⟨rfl, hP⟩
  have HP := Lib.hid hP
  clear hP hcv
  go_wp2_with fail
  go_ret
  exact ⟨rfl, _, HB.out, HP.out⟩

end Go.Proofs.YtbbjjkcjpdmjnaaGreatDoor
