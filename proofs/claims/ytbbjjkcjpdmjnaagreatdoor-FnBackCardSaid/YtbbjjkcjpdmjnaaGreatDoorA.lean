/- Walks of the law FnBack: the small functions of the library's unrounded scaling. -/
import Derived.Test.YtbbjjkcjpdmjnaaGreatDoorProg
import Derived.Test.YtbbjjkcjpdmjnaaGreatDoorY
import Derived.Test.YtbbjjkcjpdmjnaaGreatDoorShelf
import Derived.WalkKit
import Derived.WalkSpells
import Derived.WalkLawsBesides
import Derived.WalkSmall
import Derived.Laws.Bits64b
import Derived.Outline
import Derived.Lib.Hide
import Derived.Handy
import Derived.Deep.QuietTactic
import Derived.Lib.AtoiErrMem
namespace Go.Proofs.YtbbjjkcjpdmjnaaGreatDoor
open Go.RowKit

theorem log10Pow2 (x : Int) (h0 : -10000 ≤ x) (h1 : x ≤ 10000) (w : World) :
    Calls Tryz.prog 67 #[.int .i64 x] w fun e w' => e = .returned (.int .i64 (Fl.l10 x)) ∧ w' = w := by
  go_enter Tryz.func67, Tryz.ntmps67
  go_wp2
  go_ret
  exact ⟨rfl, rfl⟩

theorem log2Pow10 (x : Int) (h0 : -10000 ≤ x) (h1 : x ≤ 10000) (w : World) :
    Calls Tryz.prog 90 #[.int .i64 x] w fun e w' => e = .returned (.int .i64 (Fl.lp x)) ∧ w' = w := by
  go_enter Tryz.func90, Tryz.ntmps90
  go_wp2
  go_ret
  exact ⟨rfl, rfl⟩

theorem skewed (x : Int) (h0 : -10000 ≤ x) (h1 : x ≤ 10000) (w : World) :
    Calls Tryz.prog 88 #[.int .i64 x] w fun e w' => e = .returned (.int .i64 (Fl.skw x)) ∧ w' = w := by
  go_enter Tryz.func88, Tryz.ntmps88
  go_wp2
  go_ret
  exact ⟨rfl, rfl⟩

theorem nudge_up (u : Nat) (d : Nat) (h0 : d ≤ 1) (h1 : u < 9223372036854775808) (w : World) :
    Calls Tryz.prog 92 #[.int .u64 u, .int .i64 d] w fun e w' => e = .returned (.int .u64 ((u + d : Nat) : Int)) ∧ w' = w := by
  go_enter Tryz.func92, Tryz.ntmps92
  go_wp2
  go_ret
  exact ⟨rfl, rfl⟩

theorem nudge_down (u : Nat) (d : Nat) (h0 : d ≤ 1) (hd : d ≤ u) (h1 : u < 9223372036854775808) (w : World) :
    Calls Tryz.prog 92 #[.int .u64 u, .int .i64 (-(d : Int))] w fun e w' => e = .returned (.int .u64 ((u - d : Nat) : Int)) ∧ w' = w := by
  have e : IntKind.u64.wrap ((u : Int) + IntKind.u64.wrap (-(d : Int))) = ((u - d : Nat) : Int) := by
    rw [IntKind.wrap_u64, IntKind.wrap_u64]; omega
  go_enter Tryz.func92, Tryz.ntmps92
  go_wp2
  go_ret
  exact ⟨rfl, rfl⟩

theorem ceil (u : Nat) (h1 : u < 9223372036854775808) (w : World) :
    Calls Tryz.prog 93 #[.int .u64 u] w fun e w' => e = .returned (.int .u64 (((u + 3) / 4 : Nat) : Int)) ∧ w' = w := by
  go_enter Tryz.func93, Tryz.ntmps93
  go_wp2
  go_ret
  exact ⟨rfl, rfl⟩

theorem floor (u : Nat) (h1 : u < 9223372036854775808) (w : World) :
    Calls Tryz.prog 94 #[.int .u64 u] w fun e w' => e = .returned (.int .u64 ((u / 4 : Nat) : Int)) ∧ w' = w := by
  go_enter Tryz.func94, Tryz.ntmps94
  go_wp2
  go_ret
  exact ⟨rfl, rfl⟩

theorem round (u : Nat) (h1 : u < 9223372036854775808) (w : World) :
    Calls Tryz.prog 95 #[.int .u64 u] w fun e w' => e = .returned (.int .u64 ((Fl.roundN u : Nat) : Int)) ∧ w' = w := by
  have e := and_one_u64 ((u : Int) / 4) (by omega) (by omega)
  have e2 : ((Fl.roundN u : Nat) : Int) = ((u : Int) + 1 + (u : Int) / 4 % 2) / 4 := by unfold Fl.roundN; omega
  rw [e2]
  have e3 : 0 ≤ (u : Int) / 4 % 2 ∧ (u : Int) / 4 % 2 ≤ 1 := by omega
  go_enter Tryz.func95, Tryz.ntmps95
  go_wp2
  go_ret
  exact ⟨rfl, rfl⟩

theorem unmin (u : Nat) (h0 : 1 ≤ u) (h1 : u < 1152921504606846976) (w : World) :
    Calls Tryz.prog 96 #[.int .u64 u] w fun e w' => e = .returned (.int .u64 ((4 * u - 2 : Nat) : Int)) ∧ w' = w := by
  have e : ((4 * u - 2 : Nat) : Int) = (u : Int) * 4 - 2 := by omega
  rw [e]
  go_enter Tryz.func96, Tryz.ntmps96
  go_wp2
  go_ret
  exact ⟨rfl, rfl⟩

theorem bool2_u64 (b : Bool) (w : World) : Calls Tryz.prog 112 #[.bool b] w fun e w' => e = .returned (.int .u64 (if b then 1 else 0)) ∧ w' = w := by
  cases b
  all_goals
    go_enter Tryz.func112, Tryz.ntmps112
    go_wp2
    go_ret
    exact ⟨rfl, rfl⟩
theorem bool2_u32 (b : Bool) (w : World) : Calls Tryz.prog 119 #[.bool b] w fun e w' => e = .returned (.int .u32 (if b then 1 else 0)) ∧ w' = w := by
  cases b
  all_goals
    go_enter Tryz.func119, Tryz.ntmps119
    go_wp2
    go_ret
    exact ⟨rfl, rfl⟩


theorem and63 : ((List.range 64).all fun s => bits .and .i64 (s : Int) 63 == s) = true := by kernel_rfl
theorem and63_at (s : Nat) (h : s ≤ 63) : bits .and .i64 (s : Int) 63 = s := by
  have := List.all_eq_true.1 and63 s (List.mem_range.2 (by omega))
  simpa using this

theorem or1 (a : Nat) (h : a < 18446744073709551616) : bits .or .u64 (a : Int) 1 = ((a ||| 1 : Nat) : Int) := by
  have := bits_or_u64_nat a 1 h (by decide)
  simpa using this
theorem or0 (a : Nat) (h : a < 18446744073709551616) : bits .or .u64 (a : Int) 0 = ((a ||| 0 : Nat) : Int) := by
  have := bits_or_u64_nat a 0 h (by decide)
  simpa using this

set_option maxHeartbeats 1600000 in
theorem uscale (x h l s : Nat) (hx : x < 18446744073709551616) (hh1 : 1 ≤ h) (hh : h < 18446744073709551616) (hl : l < 18446744073709551616) (hs : s ≤ 63) (g : Nat) (w : World)
    (c0 : w.cell? ⟨g, 0, none⟩ = some (.int .u64 h)) (c1 : w.cell? ⟨g, 1, none⟩ = some (.int .u64 l)) (c2 : w.cell? ⟨g, 2, none⟩ = some (.int .i64 s)) :
    Calls Tryz.prog 91 #[.int .u64 x, .pointer (some ⟨g, 0, none⟩)] w fun e w' => e = .returned (.int .u64 ((Fl.uscaleN x h l s : Nat) : Int)) ∧ Below w.heap.size w w' := by
  have hb := and63_at s hs
  have M1 := fun W => Lib.hid (Tryz.bits_Mul64 x h hx hh W)
  have M2 := fun W => Lib.hid (Tryz.bits_Mul64 x l hx hl W)
  have hHlt : x * h / 18446744073709551616 < 18446744073709551616 := by
    rw [Nat.div_lt_iff_lt_mul (by decide)]
    exact Nat.lt_of_le_of_lt (Nat.mul_le_mul (show x ≤ 18446744073709551615 by omega) (show h ≤ 18446744073709551615 by omega)) (by decide)
  have hm : x * l / 18446744073709551616 < 18446744073709551616 := by
    rw [Nat.div_lt_iff_lt_mul (by decide)]
    exact Nat.lt_of_le_of_lt (Nat.mul_le_mul (show x ≤ 18446744073709551615 by omega) (show l ≤ 18446744073709551615 by omega)) (by decide)
  have hmid : x * h % 18446744073709551616 < 18446744073709551616 := Nat.mod_lt _ (by decide)
  have hlow : x * l % 18446744073709551616 < 18446744073709551616 := Nat.mod_lt _ (by decide)
  have hm2 : x * l / 18446744073709551616 ≤ 18446744073709551614 := by
    have h1 : x * l ≤ 18446744073709551615 * 18446744073709551615 := Nat.mul_le_mul (by omega) (by omega)
    have h2 := Nat.div_le_div_right (c := 18446744073709551616) h1
    exact Nat.le_trans h2 (by decide)
  have hH1 : x * h % 18446744073709551616 < x * l / 18446744073709551616 → 1 ≤ x * h / 18446744073709551616 := by
    intro hlt
    have h1 : x * l ≤ x * 18446744073709551616 := Nat.mul_le_mul_left _ (by omega)
    have h2 := Nat.div_le_div_right (c := 18446744073709551616) h1
    rw [Nat.mul_div_cancel _ (by decide)] at h2
    have h3 : x * 1 ≤ x * h := Nat.mul_le_mul_left _ hh1
    omega
  unfold Fl.uscaleN
  dsimp only
  generalize x * h / 18446744073709551616 = H at *
  generalize x * h % 18446744073709551616 = mid at *
  generalize x * l / 18446744073709551616 = mid2 at *
  generalize x * l % 18446744073709551616 = low at *
  have hS : 0 < 2 ^ s := Nat.two_pow_pos s
  have sh : ∀ K : Nat, (K : Int) / 2 ^ s = ((K / 2 ^ s : Nat) : Int) := fun K => by rw [Int.natCast_ediv, Int.natCast_pow]; rfl
  have eH : H = 2 ^ s * (H / 2 ^ s) + H % 2 ^ s := (Nat.div_add_mod _ _).symm
  have hq := sh H
  have ha : H / 2 ^ s ≤ H := Nat.div_le_self _ _
  have hc : ((H / 2 ^ s : Nat) : Int) * 2 ^ s = ((2 ^ s * (H / 2 ^ s) : Nat) : Int) := by rw [Int.natCast_mul, Int.natCast_pow, Int.mul_comm]; rfl
  by_cases hcase : H % 2 ^ s ≠ 0
  · rw [if_pos hcase]
    have hne : ((((2 ^ s * (H / 2 ^ s) : Nat) : Int)) != (H : Int)) = true := by
      have : ((2 ^ s * (H / 2 ^ s) : Nat) : Int) ≠ (H : Int) := by omega
      simpa using this
    have hcl : 2 ^ s * (H / 2 ^ s) ≤ H := by omega
    have ho := or1 (H / 2 ^ s) (by omega)
    clear sh eH hcase hS
    generalize 2 ^ s * (H / 2 ^ s) = c at *
    generalize H / 2 ^ s = a at *
    go_enter Tryz.func91, Tryz.ntmps91
    go_wp2_with fail
    refine (M1 _).out.mono ?_
    rintro e w1 ⟨rfl, rfl⟩
    go_wp2
    go_ret
    exact ⟨rfl, Below.refl _ _⟩
  · rw [if_neg hcase]
    have hceq : 2 ^ s * (H / 2 ^ s) = H := by omega
    rw [hceq] at hc
    have hne : ((H : Int) != (H : Int)) = false := by simp
    by_cases hlt : mid < mid2
    · rw [if_pos hlt, if_pos hlt]
      have hH1 := hH1 hlt
      have hq2 := sh (H - 1)
      have hsub : (H : Int) - 1 = ((H - 1 : Nat) : Int) := by omega
      have ha2 : (H - 1) / 2 ^ s ≤ H - 1 := Nat.div_le_self _ _
      have hw : IntKind.u64.wrap ((mid : Int) - mid2) = ((mid + 18446744073709551616 - mid2 : Nat) : Int) := by rw [IntKind.wrap_u64]; omega
      have hgt : mid + 18446744073709551616 - mid2 > 1 := by omega
      rw [if_pos hgt]
      have ho := or1 ((H - 1) / 2 ^ s) (by omega)
      have hilt : ((mid : Int) < (mid2 : Int)) := by omega
      clear sh eH hcase hS hceq
      generalize mid + 18446744073709551616 - mid2 = df at *
      generalize H / 2 ^ s = a at *
      generalize (H - 1) / 2 ^ s = a2 at *
      generalize H - 1 = H2 at *
      go_enter Tryz.func91, Tryz.ntmps91
      go_wp2_with fail
      refine (M1 _).out.mono ?_
      rintro e w1 ⟨rfl, rfl⟩
      go_wp2_with fail
      refine (M2 _).out.mono ?_
      rintro e w2 ⟨rfl, rfl⟩
      go_wp2_with fail
      refine (bool2_u64 _ _).mono ?_
      rintro e w3 ⟨rfl, rfl⟩
      go_wp2_with fail
      go_quiet (exact Calls.quiet_of_same (bool2_u64 _ _))
      go_wp2
      go_ret
      exact ⟨rfl, below_drewN (Below.refl _ _) _⟩

    · rw [if_neg hlt, if_neg hlt]
      have hw : IntKind.u64.wrap ((mid : Int) - mid2) = ((mid - mid2 : Nat) : Int) := by rw [IntKind.wrap_u64]; omega
      have ho := or1 (H / 2 ^ s) (by omega)
      have ho0 := or0 (H / 2 ^ s) (by omega)
      have hilt : ¬ ((mid : Int) < (mid2 : Int)) := by omega
      clear sh eH hcase hS hceq hH1
      generalize mid - mid2 = df at *
      generalize H / 2 ^ s = a at *
      by_cases hgt : df > 1
      · rw [if_pos hgt]
        go_enter Tryz.func91, Tryz.ntmps91
        go_wp2_with fail
        refine (M1 _).out.mono ?_
        rintro e w1 ⟨rfl, rfl⟩
        go_wp2_with fail
        refine (M2 _).out.mono ?_
        rintro e w2 ⟨rfl, rfl⟩
        go_wp2_with fail
        refine (bool2_u64 _ _).mono ?_
        rintro e w3 ⟨rfl, rfl⟩
        go_wp2_with fail
        go_quiet (exact Calls.quiet_of_same (bool2_u64 _ _))
        go_wp2
        go_ret
        exact ⟨rfl, below_drewN (Below.refl _ _) _⟩


      · rw [if_neg hgt]
        go_enter Tryz.func91, Tryz.ntmps91
        go_wp2_with fail
        refine (M1 _).out.mono ?_
        rintro e w1 ⟨rfl, rfl⟩
        go_wp2_with fail
        refine (M2 _).out.mono ?_
        rintro e w2 ⟨rfl, rfl⟩
        go_wp2_with fail
        refine (bool2_u64 _ _).mono ?_
        rintro e w3 ⟨rfl, rfl⟩
        go_wp2_with fail
        go_quiet (exact Calls.quiet_of_same (bool2_u64 _ _))
        go_wp2
        go_ret
        exact ⟨rfl, below_drewN (Below.refl _ _) _⟩


end Go.Proofs.YtbbjjkcjpdmjnaaGreatDoor
