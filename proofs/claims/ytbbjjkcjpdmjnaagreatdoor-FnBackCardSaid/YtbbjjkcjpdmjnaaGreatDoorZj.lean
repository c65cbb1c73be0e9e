/- Walks of the law FnBack: strconv.AppendFloat at finite floats. -/
import Derived.Test.YtbbjjkcjpdmjnaaGreatDoorZi
namespace Go.Proofs.YtbbjjkcjpdmjnaaGreatDoor
open Go.RowKit
open Go.Lib (decDigits nDigits)

theorem shl_wrap (M z : Nat) (h : M < 2 ^ (64 - z)) (hz : z ≤ 63) : IntKind.u64.wrap ((M : Int) * 2 ^ z) = ((M * 2 ^ z : Nat) : Int) := by
  have h1 : M * 2 ^ z < 18446744073709551616 := by
    have h2 := Nat.mul_lt_mul_of_pos_right h (Nat.two_pow_pos z)
    rw [← Nat.pow_add, show 64 - z + z = 64 by omega] at h2
    exact h2
  have e : (M : Int) * 2 ^ z = ((M * 2 ^ z : Nat) : Int) := by simp
  rw [e, IntKind.wrap_u64]
  omega

theorem short_text64 (neg : Bool) (ex M z : Nat) (hM0 : 1 ≤ M) (hM : M < 9007199254740992) (hMn : 0 < ex → 4503599627370496 ≤ M) (hex : ex ≤ 2045) (hz : z ≤ 63) (hlo : 9223372036854775808 ≤ M * 2 ^ z) (hhi : M < 2 ^ (64 - z)) (a : Int) (ha : a = (ex : Int) - 1074 - z) (W : World) (hT : Tab W) :
    Calls Tryz.prog 72 #[.int .u64 (IntKind.u64.wrap ((M : Int) * 2 ^ z)), .int .i64 a] W fun e w' => ∃ (d : Nat) (q : Int), e = .returned (.tuple #[.int .u64 d, .int .i64 q]) ∧ Below W.heap.size W w' ∧ 1 ≤ d ∧ d < 100000000000000000 ∧ -325 ≤ q ∧ q ≤ 293 ∧
      ∀ u t : Nat, 1 ≤ u → d = u * 10 ^ t → IsText64 neg (ex * 4503599627370496 + M) (sgn neg (Fl.txt u ((nDigits d : Nat) + q))) := by
  rw [shl_wrap M z hhi hz, ha]
  refine (short64 ex M z hM0 hM hMn hex hz hlo hhi W hT).mono ?_
  rintro e w' ⟨d, q, he, hb, hN, h1, h2, h3, h4⟩
  refine ⟨d, q, he, hb, h1, h2, by omega, by omega, fun u t hu hd => Or.inr ⟨by omega, ?_⟩⟩
  obtain ⟨D, P, hR⟩ := Fl.txt_reads d u t q h2 (by omega) (by omega) hd hu
  exact ⟨_, d, q, D, P, rfl, hR, h3, h4, hN⟩

set_option maxRecDepth 100000 in
set_option maxHeartbeats 4000000 in
theorem ftoa64_zero (B n : Nat) (sv : Value) (xs : List Value) (w : World) (hown : w.ownsRow B 5 1 sv n xs) (hB : B ≤ w.heap.size) (hn : n ≤ 100000000) :
    Calls Tryz.prog 49 #[sv, .float .f64 0, .int .u8 102, .int .i64 (-1)] w (AppT (IsText64 false 0) B n xs w) := by
  have HZ := fun nq => Lib.hid (fmt_zero B n sv xs (w.drewN nq) (own_below hown (below_drewN (Below.refl _ _) nq)) hB hn)
  have HR := fun nq v w' (h : St (w.drewN nq) B n xs w' v [48]) => Lib.hid (h.rebase (w := w) (below_drewN (Below.refl _ _) nq) hB)
  have HZ' := Lib.hid HZ
  have HR' := Lib.hid HR
  clear hown hB HZ HR
  go_enter Tryz.func49, Tryz.ntmps49
  go_wp2
  refine wp_region_quiet_lit (by kernel_rfl) (by kernel_rfl) ?_
  go_big_quiet_step (fail)
  go_big_quiet_step (fail)
  go_big_quiet_step (fail)
  go_big_quiet_step (fail)
  go_big_quiet_step (fail)
  go_big_quiet_step (fail)
  go_big_quiet_step (fail)
  go_big_quiet_step (fail)
  go_big_quiet_step (fail)
  refine wpQuiet_nil ?_
  intro _ hw'
  obtain ⟨nq, hw''⟩ := hw'
  subst hw''
  simp only [Exit.then]
  go_step
  go_wp2_with fail
  refine (HZ'.out nq).out.mono ?_
  rintro e w4 ⟨v4, rfl, hst⟩
  have HF : Hid (AppT (IsText64 false 0) B n xs w (.returned v4) w4) := Lib.hid ⟨[48], Or.inl ⟨rfl, rfl, rfl⟩, v4, rfl, (HR'.out nq v4 w4 hst).out⟩
  clear hst
  go_wp2_with fail
  go_ret
  exact HF.out

theorem parts64 (neg : Bool) (r : Nat) (hr : r < 9218868437227405312) : ((Ieee.double.word neg r : Nat) : Int) < 18446744073709551616 ∧ ((((Ieee.double.word neg r : Nat) : Int) / 9223372036854775808 != 0) = neg) ∧
    ((Ieee.double.word neg r : Nat) : Int) / 4503599627370496 = 2048 * (neg.toNat : Int) + (r / 4503599627370496 : Nat) ∧ bits .and .i64 (2048 * (neg.toNat : Int) + (r / 4503599627370496 : Nat)) 2047 = ((r / 4503599627370496 : Nat) : Int) ∧ bits .and .u64 ((Ieee.double.word neg r : Nat) : Int) 4503599627370495 = ((r % 4503599627370496 : Nat) : Int) := by
  have hq : r / 4503599627370496 ≤ 2047 := by omega
  have ht : neg.toNat ≤ 1 := by cases neg <;> decide
  rw [word64]
  refine ⟨by omega, ?_, by omega, ?_, ?_⟩
  · cases neg
    · have : ((9223372036854775808 * Bool.toNat false + r : Nat) : Int) / 9223372036854775808 = 0 := by simp; omega
      rw [this]; rfl
    · have : ((9223372036854775808 * Bool.toNat true + r : Nat) : Int) / 9223372036854775808 = 1 := by simp; omega
      rw [this]; rfl
  · have h := and_low_i64 (2048 * (neg.toNat : Int) + (r / 4503599627370496 : Nat)) 11 (by decide) (by omega) (by have : (2 : Int) ^ 40 = 1099511627776 := rfl; omega)
    have e : (2 : Int) ^ 11 - 1 = 2047 := rfl
    have e2 : (2 : Int) ^ 11 = 2048 := rfl
    rw [e, e2] at h
    rw [h]
    omega
  · have h := and_low_u64 (9223372036854775808 * neg.toNat + r) 52 (by decide) (by omega)
    have e : ((2 ^ 52 - 1 : Nat) : Int) = 4503599627370495 := rfl
    have e2 : (2 : Nat) ^ 52 = 4503599627370496 := rfl
    rw [e, e2] at h
    rw [h]
    omega

theorem or_top64 (F : Nat) (h : F < 4503599627370496) : bits .or .u64 (F : Int) 4503599627370496 = ((F + 4503599627370496 : Nat) : Int) := by
  have := u64_or_nat F 4503599627370496 (by omega) (by decide)
  have e : ((4503599627370496 : Nat) : Int) = 4503599627370496 := rfl
  rw [e] at this
  rw [this, Nat.or_comm]
  have h2 := Nat.two_pow_add_eq_or_of_lt (show F < 2 ^ 52 from h) 1
  rw [Nat.mul_one] at h2
  have e3 : (2 : Nat) ^ 52 = 4503599627370496 := rfl
  rw [e3] at h2
  rw [← h2, Nat.add_comm]

theorem ftoa64_any (neg : Bool) (r : Nat) (hr : r < 9218868437227405312) (hz : r = 0 → neg = false) (B n : Nat) (sv : Value) (xs : List Value) (w : World) (hown : w.ownsRow B 5 1 sv n xs) (hB : B ≤ w.heap.size) (hn : n ≤ 100000000) (hT : Tab w) (hP : Tens w) :
    Calls Tryz.prog 49 #[sv, .float .f64 (Ieee.double.word neg r), .int .u8 102, .int .i64 (-1)] w (AppT (IsText64 neg r) B n xs w) := by
  rcases Nat.eq_zero_or_pos r with h0 | h0
  · have hn0 := hz h0
    subst h0 hn0
    exact ftoa64_zero B n sv xs w hown hB hn
  · obtain ⟨p1, p2, p3, p4, p5⟩ := parts64 neg r hr
    have hF : r % 4503599627370496 < 4503599627370496 := Nat.mod_lt _ (by decide)
    have hdm := Nat.div_add_mod r 4503599627370496
    have ht : neg.toNat ≤ 1 := by cases neg <;> decide
    by_cases hE : r / 4503599627370496 = 0
    · have hrN : r < 4503599627370496 := by omega
      obtain ⟨ln, z, HL, hz1, hz2, hz3, hlo, hhi⟩ := len_facts r h0 (by omega)
      have hrm : r % 4503599627370496 = r := Nat.mod_eq_of_lt hrN
      refine ftoa64_sub _ _ _ _ _ (r : Int) neg rfl (by omega) p1 p2 p3 (by omega) (by omega) p4 (by rw [hE]; rfl) ?_ p5 (by omega) (by omega) (by omega) (by omega) ln z (Lib.hid HL) hz3 hz1 hz2 (IsText64 neg r) (Lib.hid fun W hW => ?_) B n sv xs w hown hB hn hT hP
      · rw [hrm]
      · have := short_text64 neg 0 r z h0 (by omega) (by omega) (by decide) hz2 hlo hhi (-1022 - (z : Int) - 52) (by omega) W hW
        rw [Nat.zero_mul, Nat.zero_add] at this
        exact this
    · obtain ⟨M, hM⟩ : ∃ M, M = r % 4503599627370496 + 4503599627370496 := ⟨_, rfl⟩
      obtain ⟨ln, z, HL, hz1, hz2, hz3, hlo, hhi⟩ := len_facts M (by omega) (by omega)
      refine ftoa64_norm _ _ _ _ _ (M : Int) neg rfl (by omega) p1 p2 p3 (by omega) (by omega) p4 (by omega) (by omega) ?_ p5 (by omega) (by omega) (by omega) (by omega) ln z (Lib.hid HL) hz3 hz1 hz2 (IsText64 neg r) (Lib.hid fun W hW => ?_) B n sv xs w hown hB hn hT hP
      · have h := or_top64 (r % 4503599627370496) hF
        rw [← hM] at h
        exact h
      · have := short_text64 neg (r / 4503599627370496 - 1) M z (by omega) (by omega) (by omega) (by omega) hz2 hlo hhi (((r / 4503599627370496 : Nat) : Int) + -1023 - (z : Int) - 52) (by omega) W hW
        rw [show (r / 4503599627370496 - 1) * 4503599627370496 + M = r by omega] at this
        exact this

theorem short_text32 (neg : Bool) (ex M z : Nat) (hM0 : 1 ≤ M) (hM : M < 16777216) (hMn : 0 < ex → 8388608 ≤ M) (hex : ex ≤ 253) (hz : z ≤ 63) (hlo : 9223372036854775808 ≤ M * 2 ^ z) (hhi : M < 2 ^ (64 - z)) (a : Int) (ha : a = (ex : Int) - 149 - z) (W : World) (hT : Tab W) :
    Calls Tryz.prog 65 #[.int .u64 (IntKind.u64.wrap ((M : Int) * 2 ^ z)), .int .i64 a] W fun e w' => ∃ (d : Nat) (q : Int), e = .returned (.tuple #[.int .u64 d, .int .i64 q]) ∧ Below W.heap.size W w' ∧ 1 ≤ d ∧ d < 100000000000000000 ∧ -325 ≤ q ∧ q ≤ 293 ∧
      ∀ u t : Nat, 1 ≤ u → d = u * 10 ^ t → IsText32 neg (ex * 8388608 + M) (sgn neg (Fl.txt u ((nDigits d : Nat) + q))) := by
  rw [shl_wrap M z hhi hz, ha]
  refine (short32 ex M z hM0 hM hMn hex hz hlo hhi W hT).mono ?_
  rintro e w' ⟨d, q, he, hb, hN, h1, h2, h3, h4⟩
  refine ⟨d, q, he, hb, h1, h2, by omega, by omega, fun u t hu hd => Or.inr ⟨by omega, ?_⟩⟩
  obtain ⟨D, P, hR⟩ := Fl.txt_reads d u t q h2 (by omega) (by omega) hd hu
  exact ⟨_, d, q, D, P, rfl, hR, h3, h4, hN⟩

set_option maxRecDepth 100000 in
set_option maxHeartbeats 4000000 in
theorem ftoa32_zero (B n : Nat) (sv : Value) (xs : List Value) (w : World) (hown : w.ownsRow B 5 1 sv n xs) (hB : B ≤ w.heap.size) (hn : n ≤ 100000000) :
    Calls Tryz.prog 48 #[sv, .float .f32 0, .int .u8 102, .int .i64 (-1)] w (AppT (IsText32 false 0) B n xs w) := by
  have HZ := fun nq => Lib.hid (fmt_zero B n sv xs (w.drewN nq) (own_below hown (below_drewN (Below.refl _ _) nq)) hB hn)
  have HR := fun nq v w' (h : St (w.drewN nq) B n xs w' v [48]) => Lib.hid (h.rebase (w := w) (below_drewN (Below.refl _ _) nq) hB)
  have HZ' := Lib.hid HZ
  have HR' := Lib.hid HR
  clear hown hB HZ HR
  go_enter Tryz.func48, Tryz.ntmps48
  go_wp2
  refine wp_region_quiet_lit (by kernel_rfl) (by kernel_rfl) ?_
  go_big_quiet_step (fail)
  go_big_quiet_step (fail)
  go_big_quiet_step (fail)
  go_big_quiet_step (fail)
  go_big_quiet_step (fail)
  go_big_quiet_step (fail)
  go_big_quiet_step (fail)
  go_big_quiet_step (fail)
  go_big_quiet_step (fail)
  refine wpQuiet_nil ?_
  intro _ hw'
  obtain ⟨nq, hw''⟩ := hw'
  subst hw''
  simp only [Exit.then]
  go_step
  go_wp2_with fail
  refine (HZ'.out nq).out.mono ?_
  rintro e w4 ⟨v4, rfl, hst⟩
  have HF : Hid (AppT (IsText32 false 0) B n xs w (.returned v4) w4) := Lib.hid ⟨[48], Or.inl ⟨rfl, rfl, rfl⟩, v4, rfl, (HR'.out nq v4 w4 hst).out⟩
  clear hst
  go_wp2_with fail
  go_ret
  exact HF.out

theorem parts32 (neg : Bool) (r : Nat) (hr : r < 2139095040) : ((Ieee.single.word neg r : Nat) : Int) < 4294967296 ∧ ((((Ieee.single.word neg r : Nat) : Int) / 2147483648 != 0) = neg) ∧
    ((Ieee.single.word neg r : Nat) : Int) / 8388608 = 256 * (neg.toNat : Int) + (r / 8388608 : Nat) ∧ bits .and .i64 (256 * (neg.toNat : Int) + (r / 8388608 : Nat)) 255 = ((r / 8388608 : Nat) : Int) ∧ bits .and .u64 ((Ieee.single.word neg r : Nat) : Int) 8388607 = ((r % 8388608 : Nat) : Int) := by
  have hq : r / 8388608 ≤ 255 := by omega
  have ht : neg.toNat ≤ 1 := by cases neg <;> decide
  rw [word32]
  refine ⟨by omega, ?_, by omega, ?_, ?_⟩
  · cases neg
    · have : ((2147483648 * Bool.toNat false + r : Nat) : Int) / 2147483648 = 0 := by simp; omega
      rw [this]; rfl
    · have : ((2147483648 * Bool.toNat true + r : Nat) : Int) / 2147483648 = 1 := by simp; omega
      rw [this]; rfl
  · have h := and_low_i64 (256 * (neg.toNat : Int) + (r / 8388608 : Nat)) 8 (by decide) (by omega) (by have : (2 : Int) ^ 40 = 1099511627776 := rfl; omega)
    have e : (2 : Int) ^ 8 - 1 = 255 := rfl
    have e2 : (2 : Int) ^ 8 = 256 := rfl
    rw [e, e2] at h
    rw [h]
    omega
  · have h := and_low_u64 (2147483648 * neg.toNat + r) 23 (by decide) (by omega)
    have e : ((2 ^ 23 - 1 : Nat) : Int) = 8388607 := rfl
    have e2 : (2 : Nat) ^ 23 = 8388608 := rfl
    rw [e, e2] at h
    rw [h]
    omega

theorem or_top32 (F : Nat) (h : F < 8388608) : bits .or .u64 (F : Int) 8388608 = ((F + 8388608 : Nat) : Int) := by
  have := u64_or_nat F 8388608 (by omega) (by decide)
  have e : ((8388608 : Nat) : Int) = 8388608 := rfl
  rw [e] at this
  rw [this, Nat.or_comm]
  have h2 := Nat.two_pow_add_eq_or_of_lt (show F < 2 ^ 23 from h) 1
  rw [Nat.mul_one] at h2
  have e3 : (2 : Nat) ^ 23 = 8388608 := rfl
  rw [e3] at h2
  rw [← h2, Nat.add_comm]

theorem ftoa32_any (neg : Bool) (r : Nat) (hr : r < 2139095040) (hz : r = 0 → neg = false) (B n : Nat) (sv : Value) (xs : List Value) (w : World) (hown : w.ownsRow B 5 1 sv n xs) (hB : B ≤ w.heap.size) (hn : n ≤ 100000000) (hT : Tab w) (hP : Tens w) :
    Calls Tryz.prog 48 #[sv, .float .f32 (Ieee.single.word neg r), .int .u8 102, .int .i64 (-1)] w (AppT (IsText32 neg r) B n xs w) := by
  rcases Nat.eq_zero_or_pos r with h0 | h0
  · have hn0 := hz h0
    subst h0 hn0
    exact ftoa32_zero B n sv xs w hown hB hn
  · obtain ⟨p1, p2, p3, p4, p5⟩ := parts32 neg r hr
    have hF : r % 8388608 < 8388608 := Nat.mod_lt _ (by decide)
    have hdm := Nat.div_add_mod r 8388608
    have ht : neg.toNat ≤ 1 := by cases neg <;> decide
    by_cases hE : r / 8388608 = 0
    · have hrN : r < 8388608 := by omega
      obtain ⟨ln, z, HL, hz1, hz2, hz3, hlo, hhi⟩ := len_facts r h0 (by omega)
      have hrm : r % 8388608 = r := Nat.mod_eq_of_lt hrN
      refine ftoa32_sub _ _ _ _ _ (r : Int) neg rfl (by omega) p1 p2 p3 (by omega) (by omega) p4 (by rw [hE]; rfl) ?_ p5 (by omega) (by omega) (by omega) (by omega) ln z (Lib.hid HL) hz3 hz1 hz2 (IsText32 neg r) (Lib.hid fun W hW => ?_) B n sv xs w hown hB hn hT hP
      · rw [hrm]
      · have := short_text32 neg 0 r z h0 (by omega) (by omega) (by decide) hz2 hlo hhi (-126 - (z : Int) - 23) (by omega) W hW
        rw [Nat.zero_mul, Nat.zero_add] at this
        exact this
    · obtain ⟨M, hM⟩ : ∃ M, M = r % 8388608 + 8388608 := ⟨_, rfl⟩
      obtain ⟨ln, z, HL, hz1, hz2, hz3, hlo, hhi⟩ := len_facts M (by omega) (by omega)
      refine ftoa32_norm _ _ _ _ _ (M : Int) neg rfl (by omega) p1 p2 p3 (by omega) (by omega) p4 (by omega) (by omega) ?_ p5 (by omega) (by omega) (by omega) (by omega) ln z (Lib.hid HL) hz3 hz1 hz2 (IsText32 neg r) (Lib.hid fun W hW => ?_) B n sv xs w hown hB hn hT hP
      · have h := or_top32 (r % 8388608) hF
        rw [← hM] at h
        exact h
      · have := short_text32 neg (r / 8388608 - 1) M z (by omega) (by omega) (by omega) (by omega) hz2 hlo hhi (((r / 8388608 : Nat) : Int) + -127 - (z : Int) - 23) (by omega) W hW
        rw [show (r / 8388608 - 1) * 8388608 + M = r by omega] at this
        exact this

/-- strconv.AppendFloat, out of what ftoa64 does. -/
theorem appendFloat64 (neg : Bool) (r : Nat) (hr : r < 9218868437227405312) (hz : r = 0 → neg = false) (B n : Nat) (sv : Value) (xs : List Value) (w : World) (hown : w.ownsRow B 5 1 sv n xs) (hB : B ≤ w.heap.size) (hn : n ≤ 100000000) (hT : Tab w) (hP : Tens w) :
    Calls Tryz.prog 23 #[sv, .float .f64 (Ieee.double.word neg r), .int .u8 102, .int .i64 (-1), .int .i64 64] w (AppT (IsText64 neg r) B n xs w) := by
  have H := Lib.hid (ftoa64_any neg r hr hz B n sv xs w hown hB hn hT hP)
  generalize Ieee.double.word neg r = b at *
  clear hown hB hT hP hz
  have h37 : Calls Tryz.prog 37 #[sv, .float .f64 b, .int .u8 102, .int .i64 (-1), .int .i64 64] w (AppT (IsText64 neg r) B n xs w) := by
    go_enter Tryz.func37, Tryz.ntmps37
    go_wp2_with fail
    refine H.out.mono ?_
    rintro e w' ⟨l, hl, v', rfl, hst⟩
    have HF : Hid (AppT (IsText64 neg r) B n xs w (.returned v') w') := Lib.hid ⟨l, hl, v', rfl, hst⟩
    clear hl hst
    go_wp2
    go_ret
    exact HF.out
  have H37 := Lib.hid h37
  clear h37 H
  go_enter Tryz.func23, Tryz.ntmps23
  go_wp2_with fail
  refine H37.out.mono ?_
  rintro e w' ⟨l, hl, v', rfl, hst⟩
  have HF : Hid (AppT (IsText64 neg r) B n xs w (.returned v') w') := Lib.hid ⟨l, hl, v', rfl, hst⟩
  clear hl hst
  go_wp2
  go_ret
  exact HF.out

/-- strconv.AppendFloat of a narrow float, handed on widened. -/
theorem appendFloat32 (neg : Bool) (r : Nat) (hr : r < 2139095040) (hz : r = 0 → neg = false) (B n : Nat) (sv : Value) (xs : List Value) (w : World) (hown : w.ownsRow B 5 1 sv n xs) (hB : B ≤ w.heap.size) (hn : n ≤ 100000000) (hT : Tab w) (hP : Tens w) :
    Calls Tryz.prog 23 #[sv, .float .f64 (Ieee.double.word neg (Fl.wideR r)), .int .u8 102, .int .i64 (-1), .int .i64 32] w (AppT (IsText32 neg r) B n xs w) := by
  have H := Lib.hid (ftoa32_any neg r hr hz B n sv xs w hown hB hn hT hP)
  have hcv := conv_narrow neg r hr
  generalize Ieee.double.word neg (Fl.wideR r) = b at *
  generalize Ieee.single.word neg r = x at *
  clear hown hB hT hP hz
  have h37 : Calls Tryz.prog 37 #[sv, .float .f64 b, .int .u8 102, .int .i64 (-1), .int .i64 32] w (AppT (IsText32 neg r) B n xs w) := by
    go_enter Tryz.func37, Tryz.ntmps37
    go_wp2_with fail
    refine H.out.mono ?_
    rintro e w' ⟨l, hl, v', rfl, hst⟩
    have HF : Hid (AppT (IsText32 neg r) B n xs w (.returned v') w') := Lib.hid ⟨l, hl, v', rfl, hst⟩
    clear hl hst
    go_wp2
    go_ret
    exact HF.out
  have H37 := Lib.hid h37
  clear h37 H hcv
  go_enter Tryz.func23, Tryz.ntmps23
  go_wp2_with fail
  refine H37.out.mono ?_
  rintro e w' ⟨l, hl, v', rfl, hst⟩
  have HF : Hid (AppT (IsText32 neg r) B n xs w (.returned v') w') := Lib.hid ⟨l, hl, v', rfl, hst⟩
  clear hl hst
  go_wp2
  go_ret
  exact HF.out

/-- What was printed is read back. -/
theorem readBack64 (neg : Bool) (r : Nat) (l : List UInt8) (hl : IsText64 neg r l) (hr : r < 9218868437227405312) (s : ByteArray) (hs : s.data.toList = l) (w : World) (hT : Tab w) (hF : TabF w) (hO : w.cell? ⟨0, 0, none⟩ = some (.bool true)) :
    Calls Tryz.prog 43 #[.string s, .int .i64 64] w fun e w' => e = .returned (.tuple #[.float .f64 (Ieee.double.word neg r), .nilIface]) ∧ Below w.heap.size w w' := by
  rcases hl with ⟨rfl, rfl, rfl⟩ | ⟨h1, l0, d, q, D, P, rfl, hR, h2, h3, hN⟩
  · exact parseFloat_of64 s 0 w ((atof64_zero s hs w hO).mono fun e w' ⟨he, hw⟩ => ⟨he, by rw [hw]; exact Below.refl _ _⟩)
  · exact parseFloat_of64 s _ w (atof64_reads neg s l0 d D r q P hs hR h2 h3 h1 hr hN w hT hF hO)
theorem readBack32 (neg : Bool) (r : Nat) (l : List UInt8) (hl : IsText32 neg r l) (hr : r < 2139095040) (s : ByteArray) (hs : s.data.toList = l) (w : World) (hT : Tab w) (hF : TabF32 w) (hO : w.cell? ⟨0, 0, none⟩ = some (.bool true)) :
    Calls Tryz.prog 43 #[.string s, .int .i64 32] w fun e w' => e = .returned (.tuple #[.float .f64 (Ieee.double.word neg (Fl.wideR r)), .nilIface]) ∧ Below w.heap.size w w' := by
  rcases hl with ⟨rfl, rfl, rfl⟩ | ⟨h1, l0, d, q, D, P, rfl, hR, h2, h3, hN⟩
  · exact parseFloat_of32 s false 0 (by decide) w ((atof32_zero s hs w hO).mono fun e w' ⟨he, hw⟩ => ⟨he, by rw [hw]; exact Below.refl _ _⟩)
  · exact parseFloat_of32 s neg r hr w (atof32_reads neg s l0 d D r q P hs hR h2 h3 h1 hr hN w hT hF hO)
end Go.Proofs.YtbbjjkcjpdmjnaaGreatDoor
