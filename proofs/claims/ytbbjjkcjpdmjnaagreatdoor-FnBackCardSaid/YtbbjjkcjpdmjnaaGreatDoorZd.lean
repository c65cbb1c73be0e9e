/- Walks of the law FnBack: atof64 and atof32 at the texts of floats. -/
import Derived.Test.YtbbjjkcjpdmjnaaGreatDoorZb
import Derived.Test.YtbbjjkcjpdmjnaaGreatDoorH
import Derived.Test.YtbbjjkcjpdmjnaaGreatDoorK
namespace Go.Proofs.YtbbjjkcjpdmjnaaGreatDoor
open Go.RowKit

/-- A minus sign, or none. -/
def sgn (neg : Bool) (l : List UInt8) : List UInt8 := if neg then 45 :: l else l

theorem head_at {s : ByteArray} {c : UInt8} {r : List UInt8} (hs : s.data.toList = c :: r) : ∃ h : 0 < s.size, s[0]'h = c := by
  have h : 0 < s.size := by
    have := congrArg List.length hs
    simp at this; omega
  refine ⟨h, ?_⟩
  have : s.data.toList[0]'(by simpa using h) = s[0]'h := rfl
  rw [← this]
  simp only [hs, List.getElem_cons_zero]

theorem sz_of {s : ByteArray} {l : List UInt8} (hs : s.data.toList = l) : s.size = l.length := by
  rw [← hs]; simp

theorem special_any (neg : Bool) (s : ByteArray) (l : List UInt8) (hs : s.data.toList = sgn neg l) (hh : ∃ c r, l = c :: r ∧ Fl.Digit c) (hl : l.length ≤ 400) (w : World) :
    Calls Tryz.prog 116 #[.string s] w fun e w' => e = .returned (.tuple #[.float .f64 0, .int .i64 0, .bool false]) ∧ w' = w := by
  obtain ⟨c, r, rfl, hd⟩ := hh
  have hsz := sz_of hs
  cases neg
  · obtain ⟨h, hc⟩ := head_at hs
    exact special_digit s ⟨h, by rw [hc]; exact hd⟩ (by rw [hsz]; simp only [sgn, Bool.false_eq_true, if_false]; omega) w
  · obtain ⟨h, hc⟩ := head_at (c := 45) (r := c :: r) hs
    have he : (s.extract 1 s.size).data.toList = c :: r := by
      rw [ByteArray.data_extract, Array.toList_extract, hs]
      simp [sgn, List.extract, hsz]
    obtain ⟨h2, hc2⟩ := head_at he
    exact special_minus s h hc ⟨h2, by rw [hc2]; exact hd⟩ (by rw [hsz]; simp only [sgn, if_true, List.length_cons] at hl ⊢; omega) w

theorem readFloat_fin (neg : Bool) (s : ByteArray) (l : List UInt8) (fin : Nat × Nat × Nat × Int × Bool) (hs : s.data.toList = sgn neg l) (hh : ∃ c r, l = c :: r ∧ Fl.Digit c) (hl : l.length ≤ 400) (hok : Fl.ok l 0 0 false) (hsc : Fl.scan l 0 0 0 0 false = fin) (w : World) :
    Calls Tryz.prog 117 #[.string s] w (RfPost fin neg s.size w) := by
  obtain ⟨c, r, rfl, hd⟩ := hh
  have hsz := sz_of hs
  cases neg
  · obtain ⟨h, hc⟩ := head_at hs
    exact readFloat_plain s fin (by rw [hsz]; simp only [sgn, Bool.false_eq_true, if_false]; omega) h (by rw [hc]; exact hd) (by rw [hs]; exact hok) (by rw [hs]; exact hsc) w
  · obtain ⟨h, hc⟩ := head_at (c := 45) (r := c :: r) hs
    have h1 : 1 < s.size := by rw [hsz]; simp [sgn]
    have hc1 : s[1]'h1 = c := by
      have : s.data.toList[1]'(by simpa using h1) = s[1]'h1 := rfl
      rw [← this]
      simp only [hs, sgn, if_true, List.getElem_cons_succ, List.getElem_cons_zero]
    exact readFloat_minus s fin (by rw [hsz]; simp only [sgn, if_true, List.length_cons] at hl ⊢; omega) h1 hc (by rw [hc1]; exact hd) (by rw [hs]; exact hok) (by rw [hs]; exact hsc) w

theorem readFloat_reads (neg : Bool) (s : ByteArray) (l : List UInt8) (d D : Nat) (q P : Int) (hs : s.data.toList = sgn neg l) (hR : Fl.Reads l d q D P) (w : World) :
    Calls Tryz.prog 117 #[.string s] w fun e w' => e = .returned (.tuple #[.int .u64 D, .int .i64 P, .bool neg, .bool false, .bool false, .int .i64 s.size, .bool true]) ∧ w' = w := by
  obtain ⟨nd, k, dp, dot, hsc, hP⟩ := hR.scans
  refine (readFloat_fin neg s l _ hs hR.head hR.short hR.isOk hsc w).mono ?_
  rintro e w' ⟨rfl, rfl⟩
  have h1 : ¬ D = 0 := by have := hR.pos; omega
  refine ⟨?_, rfl⟩
  subst hP
  simp only [if_neg h1]

theorem readFloat_zero (s : ByteArray) (hs : s.data.toList = [48]) (w : World) :
    Calls Tryz.prog 117 #[.string s] w fun e w' => e = .returned (.tuple #[.int .u64 0, .int .i64 0, .bool false, .bool false, .bool false, .int .i64 s.size, .bool true]) ∧ w' = w := by
  have hsc : Fl.scan [48] 0 0 0 0 false = (0, 0, 0, -1, false) := by simp [Fl.scan]
  refine (readFloat_fin false s [48] _ hs ⟨48, [], rfl, Fl.digit48⟩ (by decide) (by rw [Fl.ok, if_neg (by decide), if_pos ⟨rfl, rfl⟩]; exact ⟨Fl.digit48, by simp [Fl.ok]⟩) hsc w).mono ?_
  rintro e w' ⟨rfl, rfl⟩
  exact ⟨rfl, rfl⟩

theorem word64 (neg : Bool) (r : Nat) : Ieee.double.word neg r = 9223372036854775808 * neg.toNat + r := by
  cases neg
  · show r = 9223372036854775808 * 0 + r; omega
  · rfl
theorem word32 (neg : Bool) (r : Nat) : Ieee.single.word neg r = 2147483648 * neg.toNat + r := by
  cases neg
  · show r = 2147483648 * 0 + r; omega
  · rfl

/-- The exact road, whatever it answers. -/
theorem exact64_any (D r : Nat) (P : Int) (neg : Bool) (hD1 : 1 ≤ D) (hD : D < 10000000000000000000) (hP0 : -345 ≤ P) (hbig : 0 < P → 1000000000000000000 ≤ D) (hr : r < 9218868437227405312) (hN : Fl.Near 4503599627370496 r (Fl.decA 1074 D P) (Fl.decB P)) (w : World) (hT : TabF w) :
    Calls Tryz.prog 126 #[.int .u64 D, .int .i64 P, .bool neg] w fun e w' => ∃ (b : Nat) (ok : Bool), e = .returned (.tuple #[.float .f64 b, .bool ok]) ∧ w' = w ∧ (ok = true → b = Ieee.double.word neg r) := by
  by_cases h52 : 4503599627370496 ≤ D
  · exact (exact64_no D P neg h52 (by omega) w hT).mono fun e w' ⟨he, hw⟩ => ⟨_, _, he, hw, fun h => by cases h⟩
  · by_cases hfar : P < -22
    · exact (exact64_far D P neg (by omega) hfar (by omega) w hT).mono fun e w' ⟨⟨b, he⟩, hw⟩ => ⟨_, _, he, hw, fun h => by cases h⟩
    · by_cases h0 : P = 0
      · subst h0
        have hN' : Fl.Near 4503599627370496 r (D * 2 ^ 1074) 1 := by
          unfold Fl.decA Fl.decB at hN
          rw [show (0 : Int).toNat = 0 from rfl, show (-(0 : Int)).toNat = 0 from rfl, Nat.pow_zero, Nat.mul_one] at hN
          exact hN
        exact (exact64_zero D r neg hD1 (by omega) hr hN' w hT).mono fun e w' ⟨he, hw⟩ => ⟨_, _, he, hw, fun _ => rfl⟩
      · have hneg : P < 0 := by omega
        obtain ⟨i, hi⟩ : ∃ i : Nat, P = -(i : Int) := ⟨(-P).toNat, by omega⟩
        subst hi
        have hN' : Fl.Near 4503599627370496 r (D * 2 ^ 1074) (10 ^ i) := by
          unfold Fl.decA Fl.decB at hN
          rw [show (-(i : Int)).toNat = 0 by omega, show (- -(i : Int)).toNat = i by omega, Nat.pow_zero, Nat.mul_one] at hN
          exact hN
        exact (exact64_quo D r i neg hD1 (by omega) (by omega) (by omega) hr hN' w hT).mono fun e w' ⟨he, hw⟩ => ⟨_, _, he, hw, fun _ => rfl⟩

set_option maxRecDepth 100000 in
set_option maxHeartbeats 4000000 in
/-- A printed float read back. -/
theorem atof64_reads (neg : Bool) (s : ByteArray) (l : List UInt8) (d D r : Nat) (q P : Int) (hs : s.data.toList = sgn neg l) (hR : Fl.Reads l d q D P) (hq0 : -325 ≤ q) (hq1 : q ≤ 293) (hr1 : 1 ≤ r) (hr : r < 9218868437227405312)
    (hN : Fl.Near 4503599627370496 r (Fl.decA 1074 d q) (Fl.decB q)) (w : World) (hT : Tab w) (hF : TabF w) (hO : w.cell? ⟨0, 0, none⟩ = some (.bool true)) :
    Calls Tryz.prog 108 #[.string s] w fun e w' => e = .returned (.tuple #[.float .f64 (Ieee.double.word neg r), .int .i64 s.size, .nilIface]) ∧ Below w.heap.size w w' := by
  have HS := fun W => Lib.hid (special_any neg s l hs hR.head hR.short W)
  have HRF := fun W => Lib.hid (readFloat_reads neg s l d D q P hs hR W)
  have hN2 := hR.near hN
  have hp := hR.pos
  have hlt := hR.lt
  have hhi : P ≤ 293 := by rcases hR.hi with h | h <;> omega
  have hlo : -325 ≤ P := by rcases hR.lo with h | h <;> omega
  have HX := Lib.hid (exact64_any D r P neg hp hlt (by omega) hR.big hr hN2 w hF)
  have HPF := Lib.hid (parseFloat64 D P neg.toNat r hp (by omega) hR.fine (by cases neg <;> decide) hr1 hr hN2 w hT)
  rw [← word64] at HPF
  generalize Ieee.double.word neg r = bz at *
  have HO := Lib.hid hO
  obtain ⟨Di, hDi⟩ : ∃ Di : Int, (D : Int) = Di := ⟨_, rfl⟩
  rw [hDi] at HX HPF HRF
  have hd0 : 1 ≤ Di := by omega
  have hdz : (Di == 0) = false := by
    have : Di ≠ 0 := by omega
    simpa using this
  clear hN hN2 hR hs hF hT hp hlt hDi hr hr1
  cases neg
  all_goals
    go_enter Tryz.func108, Tryz.ntmps108
    go_wp2_with fail
    refine (HS _).out.mono ?_
    rintro e w1 ⟨rfl, rfl⟩
    go_wp2_with fail
    refine (HRF _).out.mono ?_
    rintro e w2 ⟨rfl, rfl⟩
    go_wp2_with fail
    refine (bool2_u64 _ _).mono ?_
    rintro e w3 ⟨rfl, hw⟩
    have hw' := hw.symm
    subst hw'
    clear hw
    go_wp2_with fail
    refine HX.out.mono ?_
    rintro e w4 ⟨b, okk, rfl, hw, hb⟩
    have hw' := hw.symm
    subst hw'
    clear hw
    cases okk
    · clear hb
      go_wp2_with fail
      refine HPF.out.mono ?_
      rintro e w5 ⟨rfl, hbel⟩
      have HB := Lib.hid hbel
      clear hbel
      go_wp2
      go_ret3
      exact ⟨rfl, HB.out⟩
    · have hbb := hb rfl
      clear hb
      subst hbb
      go_wp2
      go_ret3
      exact ⟨rfl, Below.refl _ _⟩

set_option maxRecDepth 100000 in
set_option maxHeartbeats 4000000 in
/-- The text of zero read back. -/
theorem atof64_zero (s : ByteArray) (hs : s.data.toList = [48]) (w : World) (hO : w.cell? ⟨0, 0, none⟩ = some (.bool true)) :
    Calls Tryz.prog 108 #[.string s] w fun e w' => e = .returned (.tuple #[.float .f64 0, .int .i64 s.size, .nilIface]) ∧ w' = w := by
  have HS := fun W => Lib.hid (special_any false s [48] hs ⟨48, [], rfl, Fl.digit48⟩ (by decide) W)
  have HRF := fun W => Lib.hid (readFloat_zero s hs W)
  clear hs
  go_enter Tryz.func108, Tryz.ntmps108
  go_wp2_with fail
  refine (HS _).out.mono ?_
  rintro e w1 ⟨rfl, rfl⟩
  go_wp2_with fail
  refine (HRF _).out.mono ?_
  rintro e w2 ⟨rfl, rfl⟩
  go_wp2_with fail
  refine (bool2_u64 _ _).mono ?_
  rintro e w3 ⟨rfl, hw⟩
  have hw' := hw.symm
  subst hw'
  clear hw
  go_wp2
  go_ret3
  exact ⟨rfl, rfl⟩

/-- The exact road, whatever it answers. -/
theorem exact32_any (D r : Nat) (P : Int) (neg : Bool) (hD1 : 1 ≤ D) (hD : D < 10000000000000000000) (hP0 : -345 ≤ P) (hbig : 0 < P → 1000000000000000000 ≤ D) (hr : r < 2139095040) (hN : Fl.Near 8388608 r (Fl.decA 149 D P) (Fl.decB P)) (w : World) (hT : TabF32 w) :
    Calls Tryz.prog 121 #[.int .u64 D, .int .i64 P, .bool neg] w fun e w' => ∃ (b : Nat) (ok : Bool), e = .returned (.tuple #[.float .f32 b, .bool ok]) ∧ w' = w ∧ (ok = true → b = Ieee.single.word neg r) := by
  by_cases h52 : 8388608 ≤ D
  · exact (exact32_no D P neg h52 (by omega) w).mono fun e w' ⟨he, hw⟩ => ⟨_, _, he, hw, fun h => by cases h⟩
  · by_cases hfar : P < -10
    · exact (exact32_far D P neg (by omega) hfar (by omega) w).mono fun e w' ⟨⟨b, he⟩, hw⟩ => ⟨_, _, he, hw, fun h => by cases h⟩
    · by_cases h0 : P = 0
      · subst h0
        have hN' : Fl.Near 8388608 r (D * 2 ^ 149) 1 := by
          unfold Fl.decA Fl.decB at hN
          rw [show (0 : Int).toNat = 0 from rfl, show (-(0 : Int)).toNat = 0 from rfl, Nat.pow_zero, Nat.mul_one] at hN
          exact hN
        exact (exact32_zero D r neg hD1 (by omega) hr hN' w).mono fun e w' ⟨he, hw⟩ => ⟨_, _, he, hw, fun _ => rfl⟩
      · have hneg : P < 0 := by omega
        obtain ⟨i, hi⟩ : ∃ i : Nat, P = -(i : Int) := ⟨(-P).toNat, by omega⟩
        subst hi
        have hN' : Fl.Near 8388608 r (D * 2 ^ 149) (10 ^ i) := by
          unfold Fl.decA Fl.decB at hN
          rw [show (-(i : Int)).toNat = 0 by omega, show (- -(i : Int)).toNat = i by omega, Nat.pow_zero, Nat.mul_one] at hN
          exact hN
        exact (exact32_quo D r i neg hD1 (by omega) (by omega) (by omega) hr hN' w hT).mono fun e w' ⟨he, hw⟩ => ⟨_, _, he, hw, fun _ => rfl⟩

set_option maxRecDepth 100000 in
set_option maxHeartbeats 4000000 in
/-- A printed float read back. -/
theorem atof32_reads (neg : Bool) (s : ByteArray) (l : List UInt8) (d D r : Nat) (q P : Int) (hs : s.data.toList = sgn neg l) (hR : Fl.Reads l d q D P) (hq0 : -46 ≤ q) (hq1 : q ≤ 33) (hr1 : 1 ≤ r) (hr : r < 2139095040)
    (hN : Fl.Near 8388608 r (Fl.decA 149 d q) (Fl.decB q)) (w : World) (hT : Tab w) (hF : TabF32 w) (hO : w.cell? ⟨0, 0, none⟩ = some (.bool true)) :
    Calls Tryz.prog 107 #[.string s] w fun e w' => e = .returned (.tuple #[.float .f32 (Ieee.single.word neg r), .int .i64 s.size, .nilIface]) ∧ Below w.heap.size w w' := by
  have HS := fun W => Lib.hid (special_any neg s l hs hR.head hR.short W)
  have HRF := fun W => Lib.hid (readFloat_reads neg s l d D q P hs hR W)
  have hN2 := hR.near hN
  have hp := hR.pos
  have hlt := hR.lt
  have hhi : P ≤ 33 := by rcases hR.hi with h | h <;> omega
  have hlo : -46 ≤ P := by rcases hR.lo with h | h <;> omega
  have HX := Lib.hid (exact32_any D r P neg hp hlt (by omega) hR.big hr hN2 w hF)
  have HPF := Lib.hid (parseFloat32 D P neg.toNat r hp (by omega) hR.fine (by cases neg <;> decide) hr1 hr hN2 w hT)
  rw [← word32] at HPF
  generalize Ieee.single.word neg r = bz at *
  have HO := Lib.hid hO
  obtain ⟨Di, hDi⟩ : ∃ Di : Int, (D : Int) = Di := ⟨_, rfl⟩
  rw [hDi] at HX HPF HRF
  have hd0 : 1 ≤ Di := by omega
  have hdz : (Di == 0) = false := by
    have : Di ≠ 0 := by omega
    simpa using this
  clear hN hN2 hR hs hF hT hp hlt hDi hr hr1
  cases neg
  all_goals
    go_enter Tryz.func107, Tryz.ntmps107
    go_wp2_with fail
    refine (HS _).out.mono ?_
    rintro e w1 ⟨rfl, rfl⟩
    go_wp2_with fail
    refine (HRF _).out.mono ?_
    rintro e w2 ⟨rfl, rfl⟩
    go_wp2_with fail
    refine (bool2_u32 _ _).mono ?_
    rintro e w3 ⟨rfl, hw⟩
    have hw' := hw.symm
    subst hw'
    clear hw
    go_wp2_with fail
    refine HX.out.mono ?_
    rintro e w4 ⟨b, okk, rfl, hw, hb⟩
    have hw' := hw.symm
    subst hw'
    clear hw
    cases okk
    · clear hb
      go_wp2_with fail
      refine HPF.out.mono ?_
      rintro e w5 ⟨rfl, hbel⟩
      have HB := Lib.hid hbel
      clear hbel
      go_wp2
      go_ret3
      exact ⟨rfl, HB.out⟩
    · have hbb := hb rfl
      clear hb
      subst hbb
      go_wp2
      go_ret3
      exact ⟨rfl, Below.refl _ _⟩

set_option maxRecDepth 100000 in
set_option maxHeartbeats 4000000 in
/-- The text of zero read back. -/
theorem atof32_zero (s : ByteArray) (hs : s.data.toList = [48]) (w : World) (hO : w.cell? ⟨0, 0, none⟩ = some (.bool true)) :
    Calls Tryz.prog 107 #[.string s] w fun e w' => e = .returned (.tuple #[.float .f32 0, .int .i64 s.size, .nilIface]) ∧ w' = w := by
  have HS := fun W => Lib.hid (special_any false s [48] hs ⟨48, [], rfl, Fl.digit48⟩ (by decide) W)
  have HRF := fun W => Lib.hid (readFloat_zero s hs W)
  clear hs
  go_enter Tryz.func107, Tryz.ntmps107
  go_wp2_with fail
  refine (HS _).out.mono ?_
  rintro e w1 ⟨rfl, rfl⟩
  go_wp2_with fail
  refine (HRF _).out.mono ?_
  rintro e w2 ⟨rfl, rfl⟩
  go_wp2_with fail
  refine (bool2_u32 _ _).mono ?_
  rintro e w3 ⟨rfl, hw⟩
  have hw' := hw.symm
  subst hw'
  clear hw
  go_wp2
  go_ret3
  exact ⟨rfl, rfl⟩

end Go.Proofs.YtbbjjkcjpdmjnaaGreatDoor
