/- Walks of the law FnBack: packing a float out of its parts. -/
import Derived.Test.YtbbjjkcjpdmjnaaGreatDoorA
import Derived.Laws.BitsAllLaws
import Derived.Laws.Externs
namespace Go.Proofs.YtbbjjkcjpdmjnaaGreatDoor
open Go.RowKit

@[go_sem] theorem frombits64 (n : Int) (w : World) : (callFunc 125 #[.int .u64 n]).run Tryz.prog w = .ok (.value (.float .f64 n.toNat)) w := by
  rw [run_callFunc_extern (e := Extern.MathFloatBits.float64frombits) Tryz.func125 (by kernel_rfl) (by kernel_rfl) (by kernel_rfl) (by kernel_rfl)]; rfl
@[go_sem] theorem frombits32 (n : Int) (w : World) : (callFunc 120 #[.int .u32 n]).run Tryz.prog w = .ok (.value (.float .f32 n.toNat)) w := by
  rw [run_callFunc_extern (e := Extern.MathFloatBits.float32frombits) Tryz.func120 (by kernel_rfl) (by kernel_rfl) (by kernel_rfl) (by kernel_rfl)]; rfl
@[go_sem] theorem bits64 (b : Nat) (w : World) : (callFunc 60 #[.float .f64 b]).run Tryz.prog w = .ok (.value (.int .u64 b)) w := by
  rw [run_callFunc_extern (e := Extern.MathFloatBits.float64bits) Tryz.func60 (by kernel_rfl) (by kernel_rfl) (by kernel_rfl) (by kernel_rfl)]; rfl
@[go_sem] theorem bits32 (b : Nat) (w : World) : (callFunc 59 #[.float .f32 b]).run Tryz.prog w = .ok (.value (.int .u32 b)) w := by
  rw [run_callFunc_extern (e := Extern.MathFloatBits.float32bits) Tryz.func59 (by kernel_rfl) (by kernel_rfl) (by kernel_rfl) (by kernel_rfl)]; rfl

theorem pk_or (w t m : Nat) (h : m < 2 ^ w) : 2 ^ w * t ||| m = 2 ^ w * t + m := (Nat.two_pow_add_eq_or_of_lt h t).symm

theorem pk_bit (w mb t m : Nat) (hw : mb + 1 ≤ w) (h : m < 2 ^ (mb + 1)) : (2 ^ w * t + m) / 2 ^ mb % 2 = m / 2 ^ mb := by
  have e : 2 ^ w * t = 2 ^ mb * (2 * (2 ^ (w - mb - 1) * t)) := by
    have : 2 ^ w = 2 ^ mb * (2 * 2 ^ (w - mb - 1)) := by rw [← Nat.pow_succ', ← Nat.pow_add]; congr 1; omega
    rw [this]; simp only [Nat.mul_assoc]
  have hp : 0 < 2 ^ mb := Nat.two_pow_pos _
  rw [e, Nat.mul_add_div hp]
  have hq : m / 2 ^ mb < 2 := by
    rw [Nat.div_lt_iff_lt_mul hp]; rw [Nat.pow_succ] at h; omega
  generalize m / 2 ^ mb = q at *
  generalize 2 ^ (w - mb - 1) * t = a
  clear e h hp hw
  omega

theorem and_pow (x i : Nat) : x &&& 2 ^ i = if x / 2 ^ i % 2 = 1 then 2 ^ i else 0 := by
  apply Nat.eq_of_testBit_eq
  intro j
  rw [Nat.testBit_and, Nat.testBit_two_pow]
  by_cases hij : i = j
  · subst hij
    rw [Nat.testBit_eq_decide_div_mod_eq]
    by_cases h : x / 2 ^ i % 2 = 1
    · rw [if_pos h]; simp [h]
    · rw [if_neg h]; simp [h]
  · rw [decide_eq_false hij, Bool.and_false]
    split
    · rw [Nat.testBit_two_pow, decide_eq_false hij]
    · simp

theorem pk_and (w mb t m : Nat) (hw : mb + 1 ≤ w) (h : m < 2 ^ (mb + 1)) : (2 ^ w * t + m) &&& 2 ^ mb = if m < 2 ^ mb then 0 else 2 ^ mb := by
  have hp : 0 < 2 ^ mb := Nat.two_pow_pos _
  rw [and_pow, pk_bit w mb t m hw h]
  by_cases hm : m < 2 ^ mb
  · rw [if_pos hm, Nat.div_eq_of_lt hm]; simp
  · rw [if_neg hm]
    have h1 : m / 2 ^ mb = 1 := by
      have : m / 2 ^ mb < 2 := by
        rw [Nat.div_lt_iff_lt_mul hp]; rw [Nat.pow_succ] at h; omega
      have : 1 ≤ m / 2 ^ mb := (Nat.le_div_iff_mul_le hp).2 (by omega)
      omega
    rw [h1]; simp

theorem pk_clr (w mb t m : Nat) (hw : mb + 1 ≤ w) (ht : t ≤ 1) (h0 : 2 ^ mb ≤ m) (h : m < 2 ^ (mb + 1)) : (2 ^ w * t + m) &&& (2 ^ (w + 1) - (2 ^ mb + 1)) = 2 ^ w * t + (m - 2 ^ mb) := by
  obtain ⟨f, rfl⟩ : ∃ f, m = 2 ^ mb + f := ⟨m - 2 ^ mb, by omega⟩
  have hf : f < 2 ^ mb := by rw [Nat.pow_succ] at h; omega
  have hp1 : 2 ^ (mb + 1) ≤ 2 ^ w := Nat.pow_le_pow_right (by decide) hw
  have e1 : 2 ^ mb + f = 2 ^ mb ||| f := by
    have := Nat.two_pow_add_eq_or_of_lt hf 1
    rwa [Nat.mul_one] at this
  have e2 : 2 ^ w * t + (2 ^ mb + f) = 2 ^ w * t ||| (2 ^ mb ||| f) := by rw [← e1]; exact Nat.two_pow_add_eq_or_of_lt (by omega) t
  have e3 : 2 ^ w * t + f = 2 ^ w * t ||| f := Nat.two_pow_add_eq_or_of_lt (by omega) t
  rw [show 2 ^ mb + f - 2 ^ mb = f by omega, e2, e3]
  have hlt : 2 ^ mb < 2 ^ (w + 1) := Nat.pow_lt_pow_right (by decide) (by omega)
  apply Nat.eq_of_testBit_eq
  intro i
  rw [Nat.testBit_and, Nat.testBit_two_pow_sub_succ hlt, Nat.testBit_or, Nat.testBit_or, Nat.testBit_or, Nat.testBit_two_pow]
  by_cases hi : mb = i
  · subst hi
    have b1 : (2 ^ w * t).testBit mb = false := by
      rw [Nat.testBit_two_pow_mul]
      simp; omega
    have b2 : f.testBit mb = false := Nat.testBit_lt_two_pow hf
    rw [b1, b2]; simp
  · have hd : decide (mb = i) = false := decide_eq_false hi
    rw [hd, Bool.false_or, Bool.not_false, Bool.and_true]
    by_cases hi2 : i < w + 1
    · rw [decide_eq_true hi2, Bool.and_true]
    · rw [decide_eq_false hi2, Bool.and_false]
      have hlt2 : (2 ^ w * t ||| f) < 2 ^ i := by
        rw [← e3]
        have : 2 ^ (w + 1) ≤ 2 ^ i := Nat.pow_le_pow_right (by decide) (by omega)
        have h2 : 2 ^ w * t ≤ 2 ^ w * 1 := Nat.mul_le_mul_left _ ht
        rw [Nat.pow_succ] at this
        omega
      have := Nat.testBit_lt_two_pow hlt2
      rw [Nat.testBit_or] at this
      exact this.symm

theorem pk_set (w mb t f K : Nat) (hf : f < 2 ^ mb) (h : K * 2 ^ mb + f < 2 ^ w) : (2 ^ w * t + f) ||| (K * 2 ^ mb) = 2 ^ w * t + (K * 2 ^ mb + f) := by
  have e1 : 2 ^ mb * K + f = 2 ^ mb * K ||| f := Nat.two_pow_add_eq_or_of_lt hf K
  have e2 : 2 ^ w * t + (K * 2 ^ mb + f) = 2 ^ w * t ||| (K * 2 ^ mb + f) := Nat.two_pow_add_eq_or_of_lt h t
  have e3 : 2 ^ w * t + f = 2 ^ w * t ||| f := Nat.two_pow_add_eq_or_of_lt (by omega) t
  rw [e2, e3, Nat.mul_comm K, e1, Nat.or_assoc, Nat.or_comm f]

set_option maxRecDepth 100000 in
theorem pack64 (t m : Nat) (K : Nat) (ht : t ≤ 1) (hm : m < 9007199254740992) (hK : K ≤ 2045) (hs : m < 4503599627370496 → K = 0) (w : World) :
    Calls Tryz.prog 134 #[.int .u64 ((9223372036854775808 * t + m : Nat) : Int), .int .i64 ((K : Int) - 1074)] w fun e w' => e = .returned (.tuple #[.float .f64 (9223372036854775808 * t + (K * 4503599627370496 + m)), .nilIface]) ∧ w' = w := by
  by_cases h : m < 4503599627370496
  · have hK0 := hs h
    subst hK0
    have b1 : bits .and .u64 ((9223372036854775808 * t + m : Nat) : Int) 4503599627370496 = 0 := by
      have := u64_and_nat (9223372036854775808 * t + m) 4503599627370496 (by omega) (by decide)
      have h2 := pk_and 63 52 t m (by decide) hm
      rw [if_pos h] at h2
      rw [show (9223372036854775808 : Nat) = 2 ^ 63 from rfl, show (4503599627370496 : Nat) = 2 ^ 52 from rfl, h2] at this
      simpa using this
    obtain ⟨x, hx⟩ : ∃ x, x = 9223372036854775808 * t + m := ⟨_, rfl⟩
    rw [show 9223372036854775808 * t + (0 * 4503599627370496 + m) = x by omega]
    rw [← hx] at b1 ⊢
    have hxl : x < 18446744073709551616 := by omega
    clear hx hs
    go_enter Tryz.func134, Tryz.ntmps134
    go_wp2
    go_ret2
    exact ⟨rfl, rfl⟩
  · have hm2 : 4503599627370496 ≤ m := by omega
    obtain ⟨f, rfl⟩ : ∃ f, m = 4503599627370496 + f := ⟨m - 4503599627370496, by omega⟩
    have hf : f < 4503599627370496 := by omega
    have b1 : bits .and .u64 ((9223372036854775808 * t + (4503599627370496 + f) : Nat) : Int) 4503599627370496 = 4503599627370496 := by
      have := u64_and_nat (9223372036854775808 * t + (4503599627370496 + f)) 4503599627370496 (by omega) (by decide)
      have h2 := pk_and 63 52 t (4503599627370496 + f) (by decide) hm
      rw [if_neg h] at h2
      rw [show (9223372036854775808 : Nat) = 2 ^ 63 from rfl, show (4503599627370496 : Nat) = 2 ^ 52 from rfl, h2] at this
      simpa using this
    have b2 : bits .andNot .u64 ((9223372036854775808 * t + (4503599627370496 + f) : Nat) : Int) 4503599627370496 = ((9223372036854775808 * t + f : Nat) : Int) := by
      have := u64_andNot_nat (9223372036854775808 * t + (4503599627370496 + f)) 4503599627370496 (by omega) (by decide)
      have h2 := pk_clr 63 52 t (4503599627370496 + f) (by decide) ht hm2 hm
      rw [show 2 ^ (63 + 1) - (2 ^ 52 + 1) = 18446744073709551615 - 4503599627370496 from rfl, show 4503599627370496 + f - 2 ^ 52 = f by omega] at h2
      rw [show (2 : Nat) ^ 63 = 9223372036854775808 from rfl] at h2
      rw [h2] at this
      exact this
    have b3 : bits .or .u64 ((9223372036854775808 * t + f : Nat) : Int) (((K + 1) * 4503599627370496 : Nat) : Int) = ((9223372036854775808 * t + ((K + 1) * 4503599627370496 + f) : Nat) : Int) := by
      have := u64_or_nat (9223372036854775808 * t + f) ((K + 1) * 4503599627370496) (by omega) (by omega)
      have h2 := pk_set 63 52 t f (K + 1) hf (by omega)
      rw [show (2 : Nat) ^ 63 = 9223372036854775808 from rfl, show (2 : Nat) ^ 52 = 4503599627370496 from rfl] at h2
      rw [h2] at this
      exact this
    rw [show 9223372036854775808 * t + (K * 4503599627370496 + (4503599627370496 + f)) = 9223372036854775808 * t + ((K + 1) * 4503599627370496 + f) by omega]
    obtain ⟨x, hx⟩ : ∃ x, x = 9223372036854775808 * t + (4503599627370496 + f) := ⟨_, rfl⟩
    obtain ⟨y, hy⟩ : ∃ y, y = 9223372036854775808 * t + f := ⟨_, rfl⟩
    obtain ⟨z, hz⟩ : ∃ z, z = 9223372036854775808 * t + ((K + 1) * 4503599627370496 + f) := ⟨_, rfl⟩
    obtain ⟨k, hk⟩ : ∃ k : Nat, k = (K + 1) * 4503599627370496 := ⟨_, rfl⟩
    rw [← hx, ← hy] at b2
    rw [← hx] at b1 ⊢
    rw [← hz] at b3 ⊢
    rw [← hy, ← hk] at b3
    have hxl : x < 18446744073709551616 := by omega
    have hyl : y < 18446744073709551616 := by omega
    have hkl : k < 9223372036854775808 := by omega
    obtain ⟨ee, hee⟩ : ∃ ee, ee = (K : Int) - 1074 := ⟨_, rfl⟩
    rw [← hee]
    obtain ⟨K1, hK1⟩ : ∃ K1 : Nat, K1 = K + 1 := ⟨_, rfl⟩
    have i1 : 1075 + ee = (K1 : Int) := by omega
    have i2 : (K1 : Int) * 4503599627370496 = (k : Int) := by omega
    have l2 : K1 < 4503 := by omega
    have l1 : ee < 972 := by omega
    have l0 : -1074 ≤ ee := by omega
    clear hx hs h hm hm2 hf hy hz hk hee hK1
    go_enter Tryz.func134, Tryz.ntmps134
    go_wp2
    go_ret2
    exact ⟨rfl, rfl⟩

set_option maxRecDepth 100000 in
theorem pack32 (t m : Nat) (K : Nat) (ht : t ≤ 1) (hm : m < 16777216) (hK : K ≤ 253) (hs : m < 8388608 → K = 0) (w : World) :
    Calls Tryz.prog 132 #[.int .u32 ((2147483648 * t + m : Nat) : Int), .int .i64 ((K : Int) - 149)] w fun e w' => e = .returned (.tuple #[.float .f32 (2147483648 * t + (K * 8388608 + m)), .nilIface]) ∧ w' = w := by
  by_cases h : m < 8388608
  · have hK0 := hs h
    subst hK0
    have b1 : bits .and .u32 ((2147483648 * t + m : Nat) : Int) 8388608 = 0 := by
      have := u32_and_nat (2147483648 * t + m) 8388608 (by omega) (by decide)
      have h2 := pk_and 31 23 t m (by decide) hm
      rw [if_pos h] at h2
      rw [show (2147483648 : Nat) = 2 ^ 31 from rfl, show (8388608 : Nat) = 2 ^ 23 from rfl, h2] at this
      simpa using this
    obtain ⟨x, hx⟩ : ∃ x, x = 2147483648 * t + m := ⟨_, rfl⟩
    rw [show 2147483648 * t + (0 * 8388608 + m) = x by omega]
    rw [← hx] at b1 ⊢
    have hxl : x < 4294967296 := by omega
    clear hx hs
    go_enter Tryz.func132, Tryz.ntmps132
    go_wp2
    go_ret2
    exact ⟨rfl, rfl⟩
  · have hm2 : 8388608 ≤ m := by omega
    obtain ⟨f, rfl⟩ : ∃ f, m = 8388608 + f := ⟨m - 8388608, by omega⟩
    have hf : f < 8388608 := by omega
    have b1 : bits .and .u32 ((2147483648 * t + (8388608 + f) : Nat) : Int) 8388608 = 8388608 := by
      have := u32_and_nat (2147483648 * t + (8388608 + f)) 8388608 (by omega) (by decide)
      have h2 := pk_and 31 23 t (8388608 + f) (by decide) hm
      rw [if_neg h] at h2
      rw [show (2147483648 : Nat) = 2 ^ 31 from rfl, show (8388608 : Nat) = 2 ^ 23 from rfl, h2] at this
      simpa using this
    have b2 : bits .andNot .u32 ((2147483648 * t + (8388608 + f) : Nat) : Int) 8388608 = ((2147483648 * t + f : Nat) : Int) := by
      have := u32_andNot_nat (2147483648 * t + (8388608 + f)) 8388608 (by omega) (by decide)
      have h2 := pk_clr 31 23 t (8388608 + f) (by decide) ht hm2 hm
      rw [show 2 ^ (31 + 1) - (2 ^ 23 + 1) = 4294967295 - 8388608 from rfl, show 8388608 + f - 2 ^ 23 = f by omega] at h2
      rw [show (2 : Nat) ^ 31 = 2147483648 from rfl] at h2
      rw [h2] at this
      exact this
    have b3 : bits .or .u32 ((2147483648 * t + f : Nat) : Int) (((K + 1) * 8388608 : Nat) : Int) = ((2147483648 * t + ((K + 1) * 8388608 + f) : Nat) : Int) := by
      have := u32_or_nat (2147483648 * t + f) ((K + 1) * 8388608) (by omega) (by omega)
      have h2 := pk_set 31 23 t f (K + 1) hf (by omega)
      rw [show (2 : Nat) ^ 31 = 2147483648 from rfl, show (2 : Nat) ^ 23 = 8388608 from rfl] at h2
      rw [h2] at this
      exact this
    rw [show 2147483648 * t + (K * 8388608 + (8388608 + f)) = 2147483648 * t + ((K + 1) * 8388608 + f) by omega]
    obtain ⟨x, hx⟩ : ∃ x, x = 2147483648 * t + (8388608 + f) := ⟨_, rfl⟩
    obtain ⟨y, hy⟩ : ∃ y, y = 2147483648 * t + f := ⟨_, rfl⟩
    obtain ⟨z, hz⟩ : ∃ z, z = 2147483648 * t + ((K + 1) * 8388608 + f) := ⟨_, rfl⟩
    obtain ⟨k, hk⟩ : ∃ k : Nat, k = (K + 1) * 8388608 := ⟨_, rfl⟩
    rw [← hx, ← hy] at b2
    rw [← hx] at b1 ⊢
    rw [← hz] at b3 ⊢
    rw [← hy, ← hk] at b3
    have hxl : x < 4294967296 := by omega
    have hyl : y < 4294967296 := by omega
    have hkl : k < 2147483648 := by omega
    obtain ⟨ee, hee⟩ : ∃ ee, ee = (K : Int) - 149 := ⟨_, rfl⟩
    rw [← hee]
    obtain ⟨K1, hK1⟩ : ∃ K1 : Nat, K1 = K + 1 := ⟨_, rfl⟩
    have i1 : 150 + ee = (K1 : Int) := by omega
    have i2 : (K1 : Int) * 8388608 = (k : Int) := by omega
    have l2 : K1 < 4503 := by omega
    have l1 : ee < 105 := by omega
    have l0 : -149 ≤ ee := by omega
    clear hx hs h hm hm2 hf hy hz hk hee hK1
    go_enter Tryz.func132, Tryz.ntmps132
    go_wp2
    go_ret2
    exact ⟨rfl, rfl⟩
end Go.Proofs.YtbbjjkcjpdmjnaaGreatDoor
