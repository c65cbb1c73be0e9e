/- Walks of the law FnBack: parseFloat64 and parseFloat32. -/
import Derived.Test.YtbbjjkcjpdmjnaaGreatDoorG
import Derived.Test.YtbbjjkcjpdmjnaaGreatDoorY
import Derived.Test.YtbbjjkcjpdmjnaaGreatDoorB
namespace Go.Proofs.YtbbjjkcjpdmjnaaGreatDoor
open Go.RowKit

theorem unmin64 (w : World) : Calls Tryz.prog 96 #[.int .u64 9007199254740992] w fun e w' => e = .returned (.int .u64 36028797018963966) ∧ w' = w := unmin 9007199254740992 (by decide) (by decide) w
theorem unmin32 (w : World) : Calls Tryz.prog 96 #[.int .u64 16777216] w fun e w' => e = .returned (.int .u64 67108862) ∧ w' = w := unmin 16777216 (by decide) (by decide) w

set_option maxRecDepth 100000 in
set_option maxHeartbeats 4000000 in
/-- parseFloat64 at a decimal near a float. -/
theorem parseFloat64 (D : Nat) (P : Int) (t r : Nat) (hD1 : 1 ≤ D) (hD : D < 18446744073709551616) (hF : Fl.Fine D P) (ht : t ≤ 1) (hr1 : 1 ≤ r) (hr : r < 9218868437227405312) (hN : Fl.Near 4503599627370496 r (Fl.decA 1074 D P) (Fl.decB P)) (W : World) (hT0 : Tab W) :
    Calls Tryz.prog 127 #[.int .u64 D, .int .i64 P, .int .u64 ((9223372036854775808 * t : Nat) : Int)] W fun e w' => e = .returned (.tuple #[.float .f64 (9223372036854775808 * t + r), .nilIface]) ∧ Below W.heap.size W w' := by
  have hP : -348 ≤ P ∧ P ≤ 347 := by rcases hF with h | h | h <;> omega
  have hL := Tryz.bits_Len64 (D : Int)
  obtain ⟨b0, b1, b2⟩ := Lib.bitLenAux_bounds 64 D hD (by omega)
  change 1 ≤ Lib.bitLen D at b0
  change 2 ^ (Lib.bitLen D - 1) ≤ D at b1
  change D < 2 ^ Lib.bitLen D at b2
  rw [Int.toNat_natCast] at hL
  generalize Lib.bitLen D = b at *
  have b64 : b ≤ 64 := by
    rcases Nat.lt_or_ge 64 b with h | h
    · exfalso
      have : 2 ^ 64 ≤ 2 ^ (b - 1) := Nat.pow_le_pow_right (by decide) (by omega)
      have h64 : 2 ^ 64 = 18446744073709551616 := rfl
      omega
    · exact h
  have hlen := Fl.near_len (E0 := 1074) (by decide) hr1 hP.1 hP.2 hN b2
  obtain ⟨lq, hlq⟩ : ∃ lq, lq = Fl.lp P := ⟨_, rfl⟩
  have lb : -1200 ≤ lq ∧ lq ≤ 1200 := by rw [hlq]; unfold Fl.lp; omega
  obtain ⟨e, he⟩ : ∃ e, e = min (1074 : Int) (53 - b - lq) := ⟨_, rfl⟩
  obtain ⟨e2, he2⟩ : ∃ e2 : Nat, (e2 : Int) = 1074 - e := ⟨(1074 - e).toNat, by omega⟩
  obtain ⟨s, hs⟩ : ∃ s : Nat, (s : Int) = 61 - b - e - lq := ⟨(61 - b - e - lq).toNat, by omega⟩
  have HR := Fl.parse_rung (n := 4503599627370496) (mb := 52) (E0 := 1074) (e2 := e2) (s := s) (e := e) rfl (by decide) hN b2 b1 b0 b64 hF (by rw [he, hlq]; rfl) (by omega) (by rw [← hlq]; omega) (by omega)
  dsimp only at HR
  obtain ⟨x, hx⟩ : ∃ x, x = D * 2 ^ (64 - b) := ⟨_, rfl⟩
  rw [← hx] at HR
  have hxl : x < 18446744073709551616 := by
    have h1 := Nat.mul_lt_mul_of_pos_right b2 (Nat.two_pow_pos (64 - b))
    rw [← Nat.pow_add, show b + (64 - b) = 64 by omega, ← hx] at h1
    exact h1
  have i1 : (D : Int) * 2 ^ (64 - b) = (x : Int) := by rw [hx, Int.natCast_mul, Int.natCast_pow]; rfl
  have i2 : ((64 : Int) - (b : Int)).toNat = 64 - b := by omega
  have i3 : min (1074 : Int) (53 - (b : Int) - lq) = e := he.symm
  have hs63 : s ≤ 63 := by omega
  obtain ⟨_, _, _, t4, _⟩ := Fl.tab_ok P hP.1 hP.2
  have hub := u_le x (Fl.hi P) (Fl.lo P) s hxl t4 (by omega)
  have hps : Hid (-(e - (64 - (b : Int)) + lq + 3) = (s : Int)) := Lib.hid (by omega)
  generalize hu : Fl.uscaleN x (Fl.hi P) (Fl.lo P) s = u at *
  have eb : -2500 ≤ e ∧ e ≤ 1074 := by omega
  have hT := Lib.hid hT0
  obtain ⟨ea, hea⟩ : ∃ ea, ea = e - (64 - (b : Int)) := ⟨_, rfl⟩
  have HC : (u < 36028797018963966 ∧ ∃ m K : Nat, m = Fl.roundN u ∧ K = e2 ∧ m < 9007199254740992 ∧ K * 4503599627370496 + m = r ∧ (m < 4503599627370496 → K = 0) ∧ K ≤ 2045) ∨ (36028797018963966 ≤ u ∧ ∃ m K : Nat, m = Fl.roundN (u / 2 ||| u % 2) ∧ K = e2 + 1 ∧ m < 9007199254740992 ∧ K * 4503599627370496 + m = r ∧ (m < 4503599627370496 → K = 0) ∧ K ≤ 2045) := by
    rcases Nat.lt_or_ge u 36028797018963966 with h | h
    · obtain ⟨q1, q2, q3⟩ := HR.1 h
      exact Or.inl ⟨h, _, _, rfl, rfl, q1, q2, q3, by omega⟩
    · obtain ⟨q1, q2, q3⟩ := HR.2 h
      exact Or.inr ⟨h, _, _, rfl, rfl, q1, q2, fun h => by omega, by omega⟩
  have hlq2 : Fl.lp P = lq := hlq.symm
  obtain ⟨sg, hsg⟩ : ∃ sg, sg = 9223372036854775808 * t := ⟨_, rfl⟩
  rw [← hsg]
  have hsl : sg < 18446744073709551616 := by omega
  have hH := Lib.hid (And.intro hs hea)
  have HE := Lib.hid he2
  clear HR hN hF b1 b2 hlen he hx hT0 hr1 hr t4 hD1 hlq
  rcases HC with ⟨hc, m, K, hm, hK, q1, q2, q3, q4⟩ | ⟨hc, m, K, hm, hK, q1, q2, q3, q4⟩
  · obtain ⟨l1, hl1⟩ : ∃ l1, l1 = u % 2 := ⟨_, rfl⟩
    obtain ⟨u2, hu2⟩ : ∃ u2, u2 = u := ⟨_, rfl⟩
    have a1 : bits .and .u64 (u : Int) 1 = (l1 : Int) := by rw [and_one_u64 (u : Int) (by omega) (by omega)]; omega
    have a2 : bits .or .u64 (u : Int) (l1 : Int) = (u2 : Int) := by
      rw [u64_or_nat u l1 (by omega) (by omega), hl1, hu2]
      congr 1
      rcases Nat.mod_two_eq_zero_or_one u with h | h
      · rw [h, Fl.or_zero]
      · rw [h, Fl.or_one]; omega
    have hbn : -e = (K : Int) - 1074 := by omega
    rw [← hu2] at hm
    have hu2b : u2 < 9223372036854775808 := by omega
    obtain ⟨pk, hpk⟩ : ∃ pk, pk = 9223372036854775808 * t + m := ⟨_, rfl⟩
    have a3 : bits .or .u64 (sg : Int) (m : Int) = (pk : Int) := by
      rw [u64_or_nat sg m (by omega) (by omega), hsg, hpk]
      congr 1
      exact pk_or 63 t m (by omega)
    have HPK := fun W => Lib.hid (pack64 t m K ht (by omega) (by omega) q3 W)
    rw [← hpk] at HPK
    have HF : Hid (9223372036854775808 * t + (K * 4503599627370496 + m) = sg + r) := Lib.hid (by rw [q2, hsg])
    have hml : m < 9007199254740992 := by omega
    have HM := Lib.hid hm.symm
    clear hm
    obtain ⟨ee, hee⟩ : ∃ ee, ee = (K : Int) - 1074 := ⟨_, rfl⟩
    rw [← hee] at hbn HPK
    have heb : -2500 ≤ ee ∧ ee ≤ 2500 := by omega
    clear hpk q1 q2 q3 hK hl1 hee hs hea he2 hsg hu2
    go_enter Tryz.func127, Tryz.ntmps127
    go_wp2_with fail
    refine (hL _ (by omega) (by omega)).mono ?_
    rintro en w1 ⟨rfl, hw⟩
    have hw' := hw.symm
    subst hw'
    clear hw
    go_wp2_with fail
    refine (log2Pow10 P (by omega) (by omega) _).mono ?_
    rintro en w2 ⟨rfl, hw⟩
    have hw' := hw.symm
    subst hw'
    clear hw
    go_wp2_with fail
    refine (prescale P (e - (64 - (b : Int))) lq (by omega) (by omega) (by omega) (by omega) (by omega) (by omega) W hT.out).mono ?_
    rintro en w3 ⟨rfl, hw⟩
    rw [hps.out] at hw
    have hw' := hw.symm
    subst hw'
    clear hw
    go_wp2_with fail
    refine (uscale_pre x s P _ _ (by omega) (by omega) hxl hs63 (pre_new W P s)).mono ?_
    rintro en w4 ⟨rfl, hb⟩
    have HB : Hid (Below W.heap.size W w4) := Lib.hid (((Below.refl _ _).alloc (Nat.le_refl _) _).trans (hb.mono (by simp)))
    clear hb
    rw [hu]
    go_wp2_with fail
    refine (unmin64 _).mono ?_
    rintro en w5 ⟨rfl, rfl⟩
    go_wp2_with fail
    refine (Tryz.internal_strconv_bool2_int _ _).mono ?_
    rintro en w6 ⟨rfl, rfl⟩
    go_wp2_with fail
    refine (round u2 hu2b _).mono ?_
    rintro en w7 ⟨rfl, rfl⟩
    rw [HM.out]
    go_wp2_with fail
    refine (HPK _).out.mono ?_
    rintro en w8 ⟨rfl, rfl⟩
    rw [HF.out]
    clear HF
    go_wp2
    go_ret2
    exact ⟨rfl, HB.out⟩
  · obtain ⟨l1, hl1⟩ : ∃ l1, l1 = u % 2 := ⟨_, rfl⟩
    obtain ⟨uh, huh⟩ : ∃ uh, uh = u / 2 := ⟨_, rfl⟩
    obtain ⟨u2, hu2⟩ : ∃ u2, u2 = u / 2 ||| u % 2 := ⟨_, rfl⟩
    have a0 : (u : Int) / 2 = (uh : Int) := by omega
    have a1 : bits .and .u64 (u : Int) 1 = (l1 : Int) := by rw [and_one_u64 (u : Int) (by omega) (by omega)]; omega
    have a2 : bits .or .u64 (uh : Int) (l1 : Int) = (u2 : Int) := by
      rw [u64_or_nat uh l1 (by omega) (by omega), hl1, hu2, huh]
    have hbn : -(e - 1) = (K : Int) - 1074 := by omega
    rw [← hu2] at hm
    have hu2l : u2 ≤ u := by
      rw [hu2]
      rcases Nat.mod_two_eq_zero_or_one u with h | h
      · rw [h, Fl.or_zero]; omega
      · rw [h, Fl.or_one]; omega
    have hu2b : u2 < 9223372036854775808 := by omega
    obtain ⟨pk, hpk⟩ : ∃ pk, pk = 9223372036854775808 * t + m := ⟨_, rfl⟩
    have a3 : bits .or .u64 (sg : Int) (m : Int) = (pk : Int) := by
      rw [u64_or_nat sg m (by omega) (by omega), hsg, hpk]
      congr 1
      exact pk_or 63 t m (by omega)
    have HPK := fun W => Lib.hid (pack64 t m K ht (by omega) (by omega) q3 W)
    rw [← hpk] at HPK
    have HF : Hid (9223372036854775808 * t + (K * 4503599627370496 + m) = sg + r) := Lib.hid (by rw [q2, hsg])
    have hml : m < 9007199254740992 := by omega
    have HM := Lib.hid hm.symm
    clear hm
    obtain ⟨ee, hee⟩ : ∃ ee, ee = (K : Int) - 1074 := ⟨_, rfl⟩
    rw [← hee] at hbn HPK
    have heb : -2500 ≤ ee ∧ ee ≤ 2500 := by omega
    clear hpk q1 q2 q3 hK hl1 hee hs hea he2 hsg hu2 huh
    go_enter Tryz.func127, Tryz.ntmps127
    go_wp2_with fail
    refine (hL _ (by omega) (by omega)).mono ?_
    rintro en w1 ⟨rfl, hw⟩
    have hw' := hw.symm
    subst hw'
    clear hw
    go_wp2_with fail
    refine (log2Pow10 P (by omega) (by omega) _).mono ?_
    rintro en w2 ⟨rfl, hw⟩
    have hw' := hw.symm
    subst hw'
    clear hw
    go_wp2_with fail
    refine (prescale P (e - (64 - (b : Int))) lq (by omega) (by omega) (by omega) (by omega) (by omega) (by omega) W hT.out).mono ?_
    rintro en w3 ⟨rfl, hw⟩
    rw [hps.out] at hw
    have hw' := hw.symm
    subst hw'
    clear hw
    go_wp2_with fail
    refine (uscale_pre x s P _ _ (by omega) (by omega) hxl hs63 (pre_new W P s)).mono ?_
    rintro en w4 ⟨rfl, hb⟩
    have HB : Hid (Below W.heap.size W w4) := Lib.hid (((Below.refl _ _).alloc (Nat.le_refl _) _).trans (hb.mono (by simp)))
    clear hb
    rw [hu]
    go_wp2_with fail
    refine (unmin64 _).mono ?_
    rintro en w5 ⟨rfl, rfl⟩
    go_wp2_with fail
    refine (Tryz.internal_strconv_bool2_int _ _).mono ?_
    rintro en w6 ⟨rfl, rfl⟩
    go_wp2_with fail
    refine (round u2 hu2b _).mono ?_
    rintro en w7 ⟨rfl, rfl⟩
    rw [HM.out]
    go_wp2_with fail
    refine (HPK _).out.mono ?_
    rintro en w8 ⟨rfl, rfl⟩
    rw [HF.out]
    clear HF
    go_wp2
    go_ret2
    exact ⟨rfl, HB.out⟩

set_option maxRecDepth 100000 in
set_option maxHeartbeats 4000000 in
/-- parseFloat32 at a decimal near a float. -/
theorem parseFloat32 (D : Nat) (P : Int) (t r : Nat) (hD1 : 1 ≤ D) (hD : D < 18446744073709551616) (hF : Fl.Fine D P) (ht : t ≤ 1) (hr1 : 1 ≤ r) (hr : r < 2139095040) (hN : Fl.Near 8388608 r (Fl.decA 149 D P) (Fl.decB P)) (W : World) (hT0 : Tab W) :
    Calls Tryz.prog 122 #[.int .u64 D, .int .i64 P, .int .u32 ((2147483648 * t : Nat) : Int)] W fun e w' => e = .returned (.tuple #[.float .f32 (2147483648 * t + r), .nilIface]) ∧ Below W.heap.size W w' := by
  have hP : -348 ≤ P ∧ P ≤ 347 := by rcases hF with h | h | h <;> omega
  have hL := Tryz.bits_Len64 (D : Int)
  obtain ⟨b0, b1, b2⟩ := Lib.bitLenAux_bounds 64 D hD (by omega)
  change 1 ≤ Lib.bitLen D at b0
  change 2 ^ (Lib.bitLen D - 1) ≤ D at b1
  change D < 2 ^ Lib.bitLen D at b2
  rw [Int.toNat_natCast] at hL
  generalize Lib.bitLen D = b at *
  have b64 : b ≤ 64 := by
    rcases Nat.lt_or_ge 64 b with h | h
    · exfalso
      have : 2 ^ 64 ≤ 2 ^ (b - 1) := Nat.pow_le_pow_right (by decide) (by omega)
      have h64 : 2 ^ 64 = 18446744073709551616 := rfl
      omega
    · exact h
  have hlen := Fl.near_len (E0 := 149) (by decide) hr1 hP.1 hP.2 hN b2
  obtain ⟨lq, hlq⟩ : ∃ lq, lq = Fl.lp P := ⟨_, rfl⟩
  have lb : -1200 ≤ lq ∧ lq ≤ 1200 := by rw [hlq]; unfold Fl.lp; omega
  obtain ⟨e, he⟩ : ∃ e, e = min (149 : Int) (24 - b - lq) := ⟨_, rfl⟩
  obtain ⟨e2, he2⟩ : ∃ e2 : Nat, (e2 : Int) = 149 - e := ⟨(149 - e).toNat, by omega⟩
  obtain ⟨s, hs⟩ : ∃ s : Nat, (s : Int) = 61 - b - e - lq := ⟨(61 - b - e - lq).toNat, by omega⟩
  have HR := Fl.parse_rung (n := 8388608) (mb := 23) (E0 := 149) (e2 := e2) (s := s) (e := e) rfl (by decide) hN b2 b1 b0 b64 hF (by rw [he, hlq]; rfl) (by omega) (by rw [← hlq]; omega) (by omega)
  dsimp only at HR
  obtain ⟨x, hx⟩ : ∃ x, x = D * 2 ^ (64 - b) := ⟨_, rfl⟩
  rw [← hx] at HR
  have hxl : x < 18446744073709551616 := by
    have h1 := Nat.mul_lt_mul_of_pos_right b2 (Nat.two_pow_pos (64 - b))
    rw [← Nat.pow_add, show b + (64 - b) = 64 by omega, ← hx] at h1
    exact h1
  have i1 : (D : Int) * 2 ^ (64 - b) = (x : Int) := by rw [hx, Int.natCast_mul, Int.natCast_pow]; rfl
  have i2 : ((64 : Int) - (b : Int)).toNat = 64 - b := by omega
  have i3 : min (149 : Int) (24 - (b : Int) - lq) = e := he.symm
  have hs63 : s ≤ 63 := by omega
  obtain ⟨_, _, _, t4, _⟩ := Fl.tab_ok P hP.1 hP.2
  have hub := u_le x (Fl.hi P) (Fl.lo P) s hxl t4 (by omega)
  have hps : Hid (-(e - (64 - (b : Int)) + lq + 3) = (s : Int)) := Lib.hid (by omega)
  generalize hu : Fl.uscaleN x (Fl.hi P) (Fl.lo P) s = u at *
  have eb : -2500 ≤ e ∧ e ≤ 149 := by omega
  have hT := Lib.hid hT0
  obtain ⟨ea, hea⟩ : ∃ ea, ea = e - (64 - (b : Int)) := ⟨_, rfl⟩
  have HC : (u < 67108862 ∧ ∃ m K : Nat, m = Fl.roundN u ∧ K = e2 ∧ m < 16777216 ∧ K * 8388608 + m = r ∧ (m < 8388608 → K = 0) ∧ K ≤ 253) ∨ (67108862 ≤ u ∧ ∃ m K : Nat, m = Fl.roundN (u / 2 ||| u % 2) ∧ K = e2 + 1 ∧ m < 16777216 ∧ K * 8388608 + m = r ∧ (m < 8388608 → K = 0) ∧ K ≤ 253) := by
    rcases Nat.lt_or_ge u 67108862 with h | h
    · obtain ⟨q1, q2, q3⟩ := HR.1 h
      exact Or.inl ⟨h, _, _, rfl, rfl, q1, q2, q3, by omega⟩
    · obtain ⟨q1, q2, q3⟩ := HR.2 h
      exact Or.inr ⟨h, _, _, rfl, rfl, q1, q2, fun h => by omega, by omega⟩
  have hlq2 : Fl.lp P = lq := hlq.symm
  obtain ⟨sg, hsg⟩ : ∃ sg, sg = 2147483648 * t := ⟨_, rfl⟩
  rw [← hsg]
  have hsl : sg < 4294967296 := by omega
  have hH := Lib.hid (And.intro hs hea)
  have HE := Lib.hid he2
  clear HR hN hF b1 b2 hlen he hx hT0 hr1 hr t4 hD1 hlq
  rcases HC with ⟨hc, m, K, hm, hK, q1, q2, q3, q4⟩ | ⟨hc, m, K, hm, hK, q1, q2, q3, q4⟩
  · obtain ⟨l1, hl1⟩ : ∃ l1, l1 = u % 2 := ⟨_, rfl⟩
    obtain ⟨u2, hu2⟩ : ∃ u2, u2 = u := ⟨_, rfl⟩
    have a1 : bits .and .u64 (u : Int) 1 = (l1 : Int) := by rw [and_one_u64 (u : Int) (by omega) (by omega)]; omega
    have a2 : bits .or .u64 (u : Int) (l1 : Int) = (u2 : Int) := by
      rw [u64_or_nat u l1 (by omega) (by omega), hl1, hu2]
      congr 1
      rcases Nat.mod_two_eq_zero_or_one u with h | h
      · rw [h, Fl.or_zero]
      · rw [h, Fl.or_one]; omega
    have hbn : -e = (K : Int) - 149 := by omega
    rw [← hu2] at hm
    have hu2b : u2 < 9223372036854775808 := by omega
    obtain ⟨pk, hpk⟩ : ∃ pk, pk = 2147483648 * t + m := ⟨_, rfl⟩
    have a3 : bits .or .u32 (sg : Int) (m : Int) = (pk : Int) := by
      rw [u32_or_nat sg m (by omega) (by omega), hsg, hpk]
      congr 1
      exact pk_or 31 t m (by omega)
    have HPK := fun W => Lib.hid (pack32 t m K ht (by omega) (by omega) q3 W)
    rw [← hpk] at HPK
    have HF : Hid (2147483648 * t + (K * 8388608 + m) = sg + r) := Lib.hid (by rw [q2, hsg])
    have hml : m < 16777216 := by omega
    have HM := Lib.hid hm.symm
    clear hm
    obtain ⟨ee, hee⟩ : ∃ ee, ee = (K : Int) - 149 := ⟨_, rfl⟩
    rw [← hee] at hbn HPK
    have heb : -2500 ≤ ee ∧ ee ≤ 2500 := by omega
    clear hpk q1 q2 q3 hK hl1 hee hs hea he2 hsg hu2
    have hcv : IntKind.u32.wrap (m : Int) = (m : Int) := by rw [IntKind.wrap_u32]; omega
    go_enter Tryz.func122, Tryz.ntmps122
    go_wp2_with fail
    refine (hL _ (by omega) (by omega)).mono ?_
    rintro en w1 ⟨rfl, hw⟩
    have hw' := hw.symm
    subst hw'
    clear hw
    go_wp2_with fail
    refine (log2Pow10 P (by omega) (by omega) _).mono ?_
    rintro en w2 ⟨rfl, hw⟩
    have hw' := hw.symm
    subst hw'
    clear hw
    go_wp2_with fail
    refine (prescale P (e - (64 - (b : Int))) lq (by omega) (by omega) (by omega) (by omega) (by omega) (by omega) W hT.out).mono ?_
    rintro en w3 ⟨rfl, hw⟩
    rw [hps.out] at hw
    have hw' := hw.symm
    subst hw'
    clear hw
    go_wp2_with fail
    refine (uscale_pre x s P _ _ (by omega) (by omega) hxl hs63 (pre_new W P s)).mono ?_
    rintro en w4 ⟨rfl, hb⟩
    have HB : Hid (Below W.heap.size W w4) := Lib.hid (((Below.refl _ _).alloc (Nat.le_refl _) _).trans (hb.mono (by simp)))
    clear hb
    rw [hu]
    go_wp2_with fail
    refine (unmin32 _).mono ?_
    rintro en w5 ⟨rfl, rfl⟩
    go_wp2_with fail
    refine (Tryz.internal_strconv_bool2_int _ _).mono ?_
    rintro en w6 ⟨rfl, rfl⟩
    go_wp2_with fail
    refine (round u2 hu2b _).mono ?_
    rintro en w7 ⟨rfl, rfl⟩
    rw [HM.out]
    go_wp2_with fail
    refine (HPK _).out.mono ?_
    rintro en w8 ⟨rfl, rfl⟩
    rw [HF.out]
    clear HF
    go_wp2
    go_ret2
    exact ⟨rfl, HB.out⟩
  · obtain ⟨l1, hl1⟩ : ∃ l1, l1 = u % 2 := ⟨_, rfl⟩
    obtain ⟨uh, huh⟩ : ∃ uh, uh = u / 2 := ⟨_, rfl⟩
    obtain ⟨u2, hu2⟩ : ∃ u2, u2 = u / 2 ||| u % 2 := ⟨_, rfl⟩
    have a0 : (u : Int) / 2 = (uh : Int) := by omega
    have a1 : bits .and .u64 (u : Int) 1 = (l1 : Int) := by rw [and_one_u64 (u : Int) (by omega) (by omega)]; omega
    have a2 : bits .or .u64 (uh : Int) (l1 : Int) = (u2 : Int) := by
      rw [u64_or_nat uh l1 (by omega) (by omega), hl1, hu2, huh]
    have hbn : -(e - 1) = (K : Int) - 149 := by omega
    rw [← hu2] at hm
    have hu2l : u2 ≤ u := by
      rw [hu2]
      rcases Nat.mod_two_eq_zero_or_one u with h | h
      · rw [h, Fl.or_zero]; omega
      · rw [h, Fl.or_one]; omega
    have hu2b : u2 < 9223372036854775808 := by omega
    obtain ⟨pk, hpk⟩ : ∃ pk, pk = 2147483648 * t + m := ⟨_, rfl⟩
    have a3 : bits .or .u32 (sg : Int) (m : Int) = (pk : Int) := by
      rw [u32_or_nat sg m (by omega) (by omega), hsg, hpk]
      congr 1
      exact pk_or 31 t m (by omega)
    have HPK := fun W => Lib.hid (pack32 t m K ht (by omega) (by omega) q3 W)
    rw [← hpk] at HPK
    have HF : Hid (2147483648 * t + (K * 8388608 + m) = sg + r) := Lib.hid (by rw [q2, hsg])
    have hml : m < 16777216 := by omega
    have HM := Lib.hid hm.symm
    clear hm
    obtain ⟨ee, hee⟩ : ∃ ee, ee = (K : Int) - 149 := ⟨_, rfl⟩
    rw [← hee] at hbn HPK
    have heb : -2500 ≤ ee ∧ ee ≤ 2500 := by omega
    clear hpk q1 q2 q3 hK hl1 hee hs hea he2 hsg hu2 huh
    have hcv : IntKind.u32.wrap (m : Int) = (m : Int) := by rw [IntKind.wrap_u32]; omega
    go_enter Tryz.func122, Tryz.ntmps122
    go_wp2_with fail
    refine (hL _ (by omega) (by omega)).mono ?_
    rintro en w1 ⟨rfl, hw⟩
    have hw' := hw.symm
    subst hw'
    clear hw
    go_wp2_with fail
    refine (log2Pow10 P (by omega) (by omega) _).mono ?_
    rintro en w2 ⟨rfl, hw⟩
    have hw' := hw.symm
    subst hw'
    clear hw
    go_wp2_with fail
    refine (prescale P (e - (64 - (b : Int))) lq (by omega) (by omega) (by omega) (by omega) (by omega) (by omega) W hT.out).mono ?_
    rintro en w3 ⟨rfl, hw⟩
    rw [hps.out] at hw
    have hw' := hw.symm
    subst hw'
    clear hw
    go_wp2_with fail
    refine (uscale_pre x s P _ _ (by omega) (by omega) hxl hs63 (pre_new W P s)).mono ?_
    rintro en w4 ⟨rfl, hb⟩
    have HB : Hid (Below W.heap.size W w4) := Lib.hid (((Below.refl _ _).alloc (Nat.le_refl _) _).trans (hb.mono (by simp)))
    clear hb
    rw [hu]
    go_wp2_with fail
    refine (unmin32 _).mono ?_
    rintro en w5 ⟨rfl, rfl⟩
    go_wp2_with fail
    refine (Tryz.internal_strconv_bool2_int _ _).mono ?_
    rintro en w6 ⟨rfl, rfl⟩
    go_wp2_with fail
    refine (round u2 hu2b _).mono ?_
    rintro en w7 ⟨rfl, rfl⟩
    rw [HM.out]
    go_wp2_with fail
    refine (HPK _).out.mono ?_
    rintro en w8 ⟨rfl, rfl⟩
    rw [HF.out]
    clear HF
    go_wp2
    go_ret2
    exact ⟨rfl, HB.out⟩
end Go.Proofs.YtbbjjkcjpdmjnaaGreatDoor
