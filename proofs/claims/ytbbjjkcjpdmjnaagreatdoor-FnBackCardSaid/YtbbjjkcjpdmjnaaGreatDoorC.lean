/- Walks of the law FnBack: shortFloat of the narrow floats. -/
import Derived.Test.YtbbjjkcjpdmjnaaGreatDoorB
namespace Go.Proofs.YtbbjjkcjpdmjnaaGreatDoor
open Go.RowKit

/-- What shortFloat answers. -/
def Short32 (W : World) (ex M : Nat) (p : Int) (e : Ending) (w' : World) : Prop := ∃ (d : Nat) (q : Int), e = .returned (.tuple #[.int .u64 d, .int .i64 q]) ∧ Below W.heap.size W w' ∧
  (Fl.Near 8388608 (ex * 8388608 + M) (Fl.decA 149 d q) (Fl.decB q) ∧ 1 ≤ d ∧ d < 100000000000000000 ∧ (q = -p ∨ q = 1 - p))

set_option maxRecDepth 100000 in
set_option maxHeartbeats 4000000 in
theorem short32_plain (ex M : Nat) (hM : M < 16777216) (hM0 : 8388608 ≤ M) (hex : ex ≤ 253) (hns : ¬ (M = 8388608 ∧ 0 < ex)) (W : World) (hT0 : Tab W) :
    Calls Tryz.prog 65 #[.int .u64 ((M * 1099511627776 : Nat) : Int), .int .i64 ((ex : Int) - 189)] W (Short32 W ex M (-Fl.l10 ((ex : Int) - 149))) := by
  obtain ⟨y, hy⟩ : ∃ y, y = (ex : Int) - 149 := ⟨_, rfl⟩
  obtain ⟨p, hp⟩ : ∃ p, p = -Fl.l10 y := ⟨_, rfl⟩
  rw [← hy, ← hp]
  obtain ⟨⟨a1, a2, a3, a4, _, _⟩, _⟩ := Fl.exp_ok y (by omega) (by omega)
  rw [show Fl.l10 y = -p by omega, show -(-p) = p by omega] at a1 a2 a3 a4
  obtain ⟨s, hs⟩ : ∃ s : Nat, (s : Int) = 40 - y - Fl.lp p - 3 := ⟨(40 - y - Fl.lp p - 3).toNat, by omega⟩
  have HR := Lib.hid (Fl.short_plain (n := 8388608) (E0 := 149) (ex := ex) (M := M) (z := 40) (s := s) (r := ex * 8388608 + M) (by decide) (by decide) (by decide) rfl (by omega) (by omega) (by omega) hns hy (by omega) (by omega) (by decide) (by decide) (by omega) hp (by omega))
  dsimp only at HR
  unfold Short32
  have e1 : M * 2 ^ 40 = M * 1099511627776 := rfl
  rw [e1] at HR
  have e2 : M * 1099511627776 + 2 ^ (40 - 1) = M * 1099511627776 + 549755813888 := rfl
  have e3 : M * 1099511627776 - 2 ^ (40 - 1) = M * 1099511627776 - 549755813888 := rfl
  rw [e2, e3] at HR
  obtain ⟨m, hm⟩ : ∃ m, m = M * 1099511627776 := ⟨_, rfl⟩
  obtain ⟨mn, hmn⟩ : ∃ mn, mn = m - 549755813888 := ⟨_, rfl⟩
  obtain ⟨mx, hmx⟩ : ∃ mx, mx = m + 549755813888 := ⟨_, rfl⟩
  obtain ⟨odd, hodd⟩ : ∃ odd, odd = M % 2 := ⟨_, rfl⟩
  have ho := and_one M (by omega)
  rw [← hodd] at ho
  rw [← hm, ← hmn, ← hmx, ← hodd] at HR
  rw [← hm]
  have i1 : (m : Int) - 549755813888 = (mn : Int) := by omega
  have i2 : (m : Int) + 549755813888 = (mx : Int) := by omega
  have i3 : (m : Int) / 1099511627776 = (M : Int) := by omega
  obtain ⟨ee, hee⟩ : ∃ ee, ee = (ex : Int) - 189 := ⟨_, rfl⟩
  rw [← hee]
  have i4 : ee + 40 = y := by omega
  have e0 : -189 ≤ ee := by omega
  have e9 : ee ≤ 64 := by omega
  have i5 : -Fl.l10 y = p := hp.symm
  obtain ⟨_, _, th, _, _⟩ := Fl.tab_ok p (by omega) (by omega)
  have up1 := u_pos mx (Fl.hi p) (Fl.lo p) s (by omega) th (by omega)
  have ub : ∀ x : Nat, x < 18446744073709551616 → Fl.uscaleN x (Fl.hi p) (Fl.lo p) s ≤ 576460752303423489 := fun x hx => by
    obtain ⟨_, _, _, t4, _⟩ := Fl.tab_ok p (by omega) (by omega)
    exact u_le x _ _ s hx t4 (by omega)
  have ub1 := ub mn (by omega)
  have ub2 := ub mx (by omega)
  have ub3 := ub m (by omega)
  have bm : m < 18446744073709551616 := by omega
  have bmn : mn < 18446744073709551616 := by omega
  have bmx : mx < 18446744073709551616 := by omega
  have bo : odd ≤ 1 := by omega
  have bs : s ≤ 63 := by omega
  have hT := Lib.hid hT0
  unfold Fl.shortD at HR
  have by0 : -149 ≤ y := by omega
  have by1 : y ≤ 104 := by omega
  have HC : (m ≠ 9223372036854775808) ∨ (m = 9223372036854775808 ∧ ee = -189) := by omega
  clear ub hT0 hns hM hM0 hex hm hmn hmx hodd hp hy hee e1 e2 e3 th
  rcases HC with hC | ⟨hC, hC2⟩
  · have hCb : ((m : Int) == 9223372036854775808) = false := by
      have : (m : Int) ≠ 9223372036854775808 := by omega
      simpa using this
    clear hC
    go_enter Tryz.func65, Tryz.ntmps65
    go_wp2_with fail
    refine (log10Pow2 y (by omega) (by omega) _).mono ?_
    rintro e w0 ⟨rfl, hw⟩
    have hw' := hw.symm
    subst hw'
    clear hw
    go_wp2_with fail
    refine (log2Pow10 p (by omega) (by omega) _).mono ?_
    rintro e w1 ⟨rfl, hw⟩
    have hw' := hw.symm
    subst hw'
    clear hw
    go_wp2_with fail
    refine (prescale p ee (Fl.lp p) (by omega) (by omega) (by omega) (by omega) (by omega) (by omega) W hT.out).mono ?_
    rintro e w2 ⟨rfl, hw2⟩
    rw [show -(ee + Fl.lp p + 3) = (s : Int) by omega] at hw2
    have HP2 : Hid (Pre w2 W.heap.size p s) := Lib.hid (by rw [hw2]; exact pre_new W p s)
    have HB2 : Hid (Below W.heap.size W w2) := Lib.hid (by rw [hw2]; exact (Below.refl _ _).alloc (Nat.le_refl _) _)
    clear hw2
    go_wp2_with fail
    refine (uscale_pre mn s p _ _ (by omega) (by omega) (by omega) (by omega) HP2.out).mono ?_
    rintro e w3 ⟨rfl, hb⟩
    have HP3 := Lib.hid (HP2.out.below hb)
    have HB3 := Lib.hid (HB2.out.trans (hb.mono HB2.out.size))
    clear hb
    generalize humn : Fl.uscaleN mn (Fl.hi p) (Fl.lo p) s = umn at *
    go_wp2_with fail
    refine (nudge_up umn odd (by omega) (by omega) _).mono ?_
    rintro e w4 ⟨rfl, rfl⟩
    go_wp2_with fail
    refine (ceil (umn + odd) (by omega) _).mono ?_
    rintro e w5 ⟨rfl, rfl⟩
    have bmin : (umn + odd + 3) / 4 < 4611686018427387904 := by omega
    generalize (umn + odd + 3) / 4 = dmin at *
    go_wp2_with fail
    refine (uscale_pre mx s p _ _ (by omega) (by omega) (by omega) (by omega) HP3.out).mono ?_
    rintro e w6 ⟨rfl, hb⟩
    have HP6 := Lib.hid (HP3.out.below hb)
    have HB6 := Lib.hid (HB3.out.trans (hb.mono HB3.out.size))
    clear hb
    generalize humx : Fl.uscaleN mx (Fl.hi p) (Fl.lo p) s = umx at *
    go_wp2_with fail
    refine (nudge_down umx odd (by omega) (by omega) (by omega) _).mono ?_
    rintro e w7 ⟨rfl, rfl⟩
    go_wp2_with fail
    refine (floor (umx - odd) (by omega) _).mono ?_
    rintro e w8 ⟨rfl, rfl⟩
    have bmax : (umx - odd) / 4 < 4611686018427387904 := by omega
    generalize (umx - odd) / 4 = dmax at *
    clear HP2 HB2 HP3 HB3 humn humx
    by_cases q1 : dmin ≤ dmax / 10 * 10
    · rw [if_pos q1] at HR
      go_wp2
      go_ret2
      exact ⟨dmax / 10, 1 - p, by rw [show -(p - 1) = 1 - p by omega]; rfl, HB6.out, HR.out.1, HR.out.2.1, HR.out.2.2.1, by omega⟩
    · rw [if_neg q1] at HR
      by_cases q2 : dmin < dmax
      · rw [if_pos q2] at HR
        go_wp2_with fail
        refine (uscale_pre m s p _ _ (by omega) (by omega) (by omega) (by omega) HP6.out).mono ?_
        rintro e w9 ⟨rfl, hb⟩
        have HB9 := Lib.hid (HB6.out.trans (hb.mono HB6.out.size))
        clear hb
        generalize hum : Fl.uscaleN m (Fl.hi p) (Fl.lo p) s = um at *
        go_wp2_with fail
        refine (round um (by omega) _).mono ?_
        rintro e wa ⟨rfl, rfl⟩
        go_wp2
        go_ret2
        exact ⟨Fl.roundN um, -p, rfl, HB9.out, HR.out.1, HR.out.2.1, HR.out.2.2.1, by omega⟩
      · rw [if_neg q2] at HR
        go_wp2
        go_ret2
        exact ⟨dmin, -p, rfl, HB6.out, HR.out.1, HR.out.2.1, HR.out.2.2.1, by omega⟩
  · have hC3 : ee ≤ -189 := by omega
    clear hC2 e9
    have hCb : ((m : Int) == 9223372036854775808) = true := by
      have : (m : Int) = 9223372036854775808 := by omega
      simpa using this
    clear hC
    go_enter Tryz.func65, Tryz.ntmps65
    go_wp2_with fail
    refine (log10Pow2 y (by omega) (by omega) _).mono ?_
    rintro e w0 ⟨rfl, hw⟩
    have hw' := hw.symm
    subst hw'
    clear hw
    go_wp2_with fail
    refine (log2Pow10 p (by omega) (by omega) _).mono ?_
    rintro e w1 ⟨rfl, hw⟩
    have hw' := hw.symm
    subst hw'
    clear hw
    go_wp2_with fail
    refine (prescale p ee (Fl.lp p) (by omega) (by omega) (by omega) (by omega) (by omega) (by omega) W hT.out).mono ?_
    rintro e w2 ⟨rfl, hw2⟩
    rw [show -(ee + Fl.lp p + 3) = (s : Int) by omega] at hw2
    have HP2 : Hid (Pre w2 W.heap.size p s) := Lib.hid (by rw [hw2]; exact pre_new W p s)
    have HB2 : Hid (Below W.heap.size W w2) := Lib.hid (by rw [hw2]; exact (Below.refl _ _).alloc (Nat.le_refl _) _)
    clear hw2
    go_wp2_with fail
    refine (uscale_pre mn s p _ _ (by omega) (by omega) (by omega) (by omega) HP2.out).mono ?_
    rintro e w3 ⟨rfl, hb⟩
    have HP3 := Lib.hid (HP2.out.below hb)
    have HB3 := Lib.hid (HB2.out.trans (hb.mono HB2.out.size))
    clear hb
    generalize humn : Fl.uscaleN mn (Fl.hi p) (Fl.lo p) s = umn at *
    go_wp2_with fail
    refine (nudge_up umn odd (by omega) (by omega) _).mono ?_
    rintro e w4 ⟨rfl, rfl⟩
    go_wp2_with fail
    refine (ceil (umn + odd) (by omega) _).mono ?_
    rintro e w5 ⟨rfl, rfl⟩
    have bmin : (umn + odd + 3) / 4 < 4611686018427387904 := by omega
    generalize (umn + odd + 3) / 4 = dmin at *
    go_wp2_with fail
    refine (uscale_pre mx s p _ _ (by omega) (by omega) (by omega) (by omega) HP3.out).mono ?_
    rintro e w6 ⟨rfl, hb⟩
    have HP6 := Lib.hid (HP3.out.below hb)
    have HB6 := Lib.hid (HB3.out.trans (hb.mono HB3.out.size))
    clear hb
    generalize humx : Fl.uscaleN mx (Fl.hi p) (Fl.lo p) s = umx at *
    go_wp2_with fail
    refine (nudge_down umx odd (by omega) (by omega) (by omega) _).mono ?_
    rintro e w7 ⟨rfl, rfl⟩
    go_wp2_with fail
    refine (floor (umx - odd) (by omega) _).mono ?_
    rintro e w8 ⟨rfl, rfl⟩
    have bmax : (umx - odd) / 4 < 4611686018427387904 := by omega
    generalize (umx - odd) / 4 = dmax at *
    clear HP2 HB2 HP3 HB3 humn humx
    by_cases q1 : dmin ≤ dmax / 10 * 10
    · rw [if_pos q1] at HR
      go_wp2
      go_ret2
      exact ⟨dmax / 10, 1 - p, by rw [show -(p - 1) = 1 - p by omega]; rfl, HB6.out, HR.out.1, HR.out.2.1, HR.out.2.2.1, by omega⟩
    · rw [if_neg q1] at HR
      by_cases q2 : dmin < dmax
      · rw [if_pos q2] at HR
        go_wp2_with fail
        refine (uscale_pre m s p _ _ (by omega) (by omega) (by omega) (by omega) HP6.out).mono ?_
        rintro e w9 ⟨rfl, hb⟩
        have HB9 := Lib.hid (HB6.out.trans (hb.mono HB6.out.size))
        clear hb
        generalize hum : Fl.uscaleN m (Fl.hi p) (Fl.lo p) s = um at *
        go_wp2_with fail
        refine (round um (by omega) _).mono ?_
        rintro e wa ⟨rfl, rfl⟩
        go_wp2
        go_ret2
        exact ⟨Fl.roundN um, -p, rfl, HB9.out, HR.out.1, HR.out.2.1, HR.out.2.2.1, by omega⟩
      · rw [if_neg q2] at HR
        go_wp2
        go_ret2
        exact ⟨dmin, -p, rfl, HB6.out, HR.out.1, HR.out.2.1, HR.out.2.2.1, by omega⟩

set_option maxRecDepth 100000 in
set_option maxHeartbeats 4000000 in
theorem short32_skew (ex M : Nat) (hMe : M = 8388608) (hex0 : 0 < ex) (hex : ex ≤ 253) (W : World) (hT0 : Tab W) :
    Calls Tryz.prog 65 #[.int .u64 ((M * 1099511627776 : Nat) : Int), .int .i64 ((ex : Int) - 189)] W (Short32 W ex M (-Fl.skw ((ex : Int) - 149))) := by
  obtain ⟨y, hy⟩ : ∃ y, y = (ex : Int) - 149 := ⟨_, rfl⟩
  obtain ⟨p, hp⟩ : ∃ p, p = -Fl.skw y := ⟨_, rfl⟩
  rw [← hy, ← hp]
  obtain ⟨_, ⟨a1, a2, a3, a4, _, _⟩⟩ := Fl.exp_ok y (by omega) (by omega)
  rw [show Fl.skw y = -p by omega, show -(-p) = p by omega] at a1 a2 a3 a4
  obtain ⟨s, hs⟩ : ∃ s : Nat, (s : Int) = 40 - y - Fl.lp p - 3 := ⟨(40 - y - Fl.lp p - 3).toNat, by omega⟩
  have HR := Lib.hid (Fl.short_skew (n := 8388608) (E0 := 149) (ex := ex) (M := M) (z := 40) (s := s) (r := ex * 8388608 + M) (by decide) (by decide) (by decide) rfl ⟨hMe, hex0⟩ hy (by omega) (by omega) (by decide) (by decide) (by omega) hp (by omega))
  dsimp only at HR
  unfold Short32
  have e1 : M * 2 ^ 40 = M * 1099511627776 := rfl
  rw [e1] at HR
  have e2 : M * 1099511627776 + 2 ^ (40 - 1) = M * 1099511627776 + 549755813888 := rfl
  have e3 : M * 1099511627776 - 2 ^ (40 - 2) = M * 1099511627776 - 274877906944 := rfl
  rw [e2, e3] at HR
  obtain ⟨m, hm⟩ : ∃ m, m = M * 1099511627776 := ⟨_, rfl⟩
  obtain ⟨mn, hmn⟩ : ∃ mn, mn = m - 274877906944 := ⟨_, rfl⟩
  obtain ⟨mx, hmx⟩ : ∃ mx, mx = m + 549755813888 := ⟨_, rfl⟩
  obtain ⟨odd, hodd⟩ : ∃ odd, odd = M % 2 := ⟨_, rfl⟩
  have ho := and_one M (by omega)
  rw [← hodd] at ho
  rw [← hm, ← hmn, ← hmx, ← hodd] at HR
  rw [← hm]
  have i1 : (m : Int) - 274877906944 = (mn : Int) := by omega
  have i2 : (m : Int) + 549755813888 = (mx : Int) := by omega
  have i3 : (m : Int) / 1099511627776 = (M : Int) := by omega
  obtain ⟨ee, hee⟩ : ∃ ee, ee = (ex : Int) - 189 := ⟨_, rfl⟩
  rw [← hee]
  have i4 : ee + 40 = y := by omega
  have e0 : -189 < ee := by omega
  have e9 : ee ≤ 64 := by omega
  have i5 : -Fl.skw y = p := hp.symm
  obtain ⟨_, _, th, _, _⟩ := Fl.tab_ok p (by omega) (by omega)
  have up1 := u_pos mx (Fl.hi p) (Fl.lo p) s (by omega) th (by omega)
  have ub : ∀ x : Nat, x < 18446744073709551616 → Fl.uscaleN x (Fl.hi p) (Fl.lo p) s ≤ 576460752303423489 := fun x hx => by
    obtain ⟨_, _, _, t4, _⟩ := Fl.tab_ok p (by omega) (by omega)
    exact u_le x _ _ s hx t4 (by omega)
  have ub1 := ub mn (by omega)
  have ub2 := ub mx (by omega)
  have ub3 := ub m (by omega)
  have bm : m < 18446744073709551616 := by omega
  have bmn : mn < 18446744073709551616 := by omega
  have bmx : mx < 18446744073709551616 := by omega
  have bo : odd ≤ 1 := by omega
  have bs : s ≤ 63 := by omega
  have hT := Lib.hid hT0
  unfold Fl.shortD at HR
  have by0 : -149 ≤ y := by omega
  have by1 : y ≤ 104 := by omega
  have hCb : ((m : Int) == 9223372036854775808) = true := by
    have : (m : Int) = 9223372036854775808 := by omega
    simpa using this
  clear ub hT0 hMe hex0 hex hm hmn hmx hodd hp hy hee e1 e2 e3 th
  all_goals
    go_enter Tryz.func65, Tryz.ntmps65
    go_wp2_with fail
    refine (skewed y (by omega) (by omega) _).mono ?_
    rintro e w0 ⟨rfl, hw⟩
    have hw' := hw.symm
    subst hw'
    clear hw
    go_wp2_with fail
    refine (log2Pow10 p (by omega) (by omega) _).mono ?_
    rintro e w1 ⟨rfl, hw⟩
    have hw' := hw.symm
    subst hw'
    clear hw
    go_wp2_with fail
    refine (prescale p ee (Fl.lp p) (by omega) (by omega) (by omega) (by omega) (by omega) (by omega) W hT.out).mono ?_
    rintro e w2 ⟨rfl, hw2⟩
    rw [show -(ee + Fl.lp p + 3) = (s : Int) by omega] at hw2
    have HP2 : Hid (Pre w2 W.heap.size p s) := Lib.hid (by rw [hw2]; exact pre_new W p s)
    have HB2 : Hid (Below W.heap.size W w2) := Lib.hid (by rw [hw2]; exact (Below.refl _ _).alloc (Nat.le_refl _) _)
    clear hw2
    go_wp2_with fail
    refine (uscale_pre mn s p _ _ (by omega) (by omega) (by omega) (by omega) HP2.out).mono ?_
    rintro e w3 ⟨rfl, hb⟩
    have HP3 := Lib.hid (HP2.out.below hb)
    have HB3 := Lib.hid (HB2.out.trans (hb.mono HB2.out.size))
    clear hb
    generalize humn : Fl.uscaleN mn (Fl.hi p) (Fl.lo p) s = umn at *
    go_wp2_with fail
    refine (nudge_up umn odd (by omega) (by omega) _).mono ?_
    rintro e w4 ⟨rfl, rfl⟩
    go_wp2_with fail
    refine (ceil (umn + odd) (by omega) _).mono ?_
    rintro e w5 ⟨rfl, rfl⟩
    have bmin : (umn + odd + 3) / 4 < 4611686018427387904 := by omega
    generalize (umn + odd + 3) / 4 = dmin at *
    go_wp2_with fail
    refine (uscale_pre mx s p _ _ (by omega) (by omega) (by omega) (by omega) HP3.out).mono ?_
    rintro e w6 ⟨rfl, hb⟩
    have HP6 := Lib.hid (HP3.out.below hb)
    have HB6 := Lib.hid (HB3.out.trans (hb.mono HB3.out.size))
    clear hb
    generalize humx : Fl.uscaleN mx (Fl.hi p) (Fl.lo p) s = umx at *
    go_wp2_with fail
    refine (nudge_down umx odd (by omega) (by omega) (by omega) _).mono ?_
    rintro e w7 ⟨rfl, rfl⟩
    go_wp2_with fail
    refine (floor (umx - odd) (by omega) _).mono ?_
    rintro e w8 ⟨rfl, rfl⟩
    have bmax : (umx - odd) / 4 < 4611686018427387904 := by omega
    generalize (umx - odd) / 4 = dmax at *
    clear HP2 HB2 HP3 HB3 humn humx
    by_cases q1 : dmin ≤ dmax / 10 * 10
    · rw [if_pos q1] at HR
      go_wp2
      go_ret2
      exact ⟨dmax / 10, 1 - p, by rw [show -(p - 1) = 1 - p by omega]; rfl, HB6.out, HR.out.1, HR.out.2.1, HR.out.2.2.1, by omega⟩
    · rw [if_neg q1] at HR
      by_cases q2 : dmin < dmax
      · rw [if_pos q2] at HR
        go_wp2_with fail
        refine (uscale_pre m s p _ _ (by omega) (by omega) (by omega) (by omega) HP6.out).mono ?_
        rintro e w9 ⟨rfl, hb⟩
        have HB9 := Lib.hid (HB6.out.trans (hb.mono HB6.out.size))
        clear hb
        generalize hum : Fl.uscaleN m (Fl.hi p) (Fl.lo p) s = um at *
        go_wp2_with fail
        refine (round um (by omega) _).mono ?_
        rintro e wa ⟨rfl, rfl⟩
        go_wp2
        go_ret2
        exact ⟨Fl.roundN um, -p, rfl, HB9.out, HR.out.1, HR.out.2.1, HR.out.2.2.1, by omega⟩
      · rw [if_neg q2] at HR
        go_wp2
        go_ret2
        exact ⟨dmin, -p, rfl, HB6.out, HR.out.1, HR.out.2.1, HR.out.2.2.1, by omega⟩
end Go.Proofs.YtbbjjkcjpdmjnaaGreatDoor

/- Walks of the law FnBack: shortFloat of subnormal floats. -/
namespace Go.Proofs.YtbbjjkcjpdmjnaaGreatDoor
open Go.RowKit

set_option maxRecDepth 100000 in
set_option maxHeartbeats 4000000 in
theorem short64_sub (M z : Nat) (hM0 : 1 ≤ M) (hM : M < 4503599627370496) (hz0 : 11 < z) (hz : z ≤ 63) (hlo : 9223372036854775808 ≤ M * 2 ^ z) (hhi : M < 2 ^ (64 - z)) (W : World) (hT0 : Tab W) :
    Calls Tryz.prog 72 #[.int .u64 ((M * 2 ^ z : Nat) : Int), .int .i64 (-1074 - (z : Int))] W (Short64 W 0 M (-Fl.l10 (-1074))) := by
  obtain ⟨y, hy⟩ : ∃ y : Int, y = -1074 := ⟨_, rfl⟩
  obtain ⟨p, hp⟩ : ∃ p, p = -Fl.l10 y := ⟨_, rfl⟩
  rw [show Fl.l10 (-1074) = Fl.l10 y by rw [hy], ← hp]
  obtain ⟨⟨a1, a2, a3, a4, _, _⟩, _⟩ := Fl.exp_ok y (by omega) (by omega)
  rw [show Fl.l10 y = -p by omega, show -(-p) = p by omega] at a1 a2 a3 a4
  obtain ⟨s, hs⟩ : ∃ s : Nat, (s : Int) = z - y - Fl.lp p - 3 := ⟨(z - y - Fl.lp p - 3).toNat, by omega⟩
  have HR := Lib.hid (Fl.short_plain (n := 4503599627370496) (E0 := 1074) (ex := 0) (M := M) (z := z) (s := s) (r := 0 * 4503599627370496 + M) (by decide) (by decide) (by decide) rfl (by omega) (by omega) (by omega) (by omega) (by omega) (by omega) (by omega) (by omega) hz hhi hp (by omega))
  dsimp only at HR
  unfold Short64
  have hz2 : 2 ^ z = 2 * 2 ^ (z - 1) := by rw [← Nat.pow_succ']; congr 1; omega
  have hzp : 0 < 2 ^ (z - 1) := Nat.two_pow_pos _
  have hMz : (M + 1) * 2 ^ z ≤ 2 ^ (64 - z) * 2 ^ z := Nat.mul_le_mul_right _ hhi
  have hpow : 2 ^ (64 - z) * 2 ^ z = 18446744073709551616 := by rw [← Nat.pow_add, show 64 - z + z = 64 by omega]
  rw [hpow, Nat.add_mul, Nat.one_mul] at hMz
  have hdiv : M * 2 ^ z / 2 ^ z = M := Nat.mul_div_cancel _ (Nat.two_pow_pos z)
  have i3 : ((M * 2 ^ z : Nat) : Int) / 2 ^ z = (M : Int) := by
    have : ((M * 2 ^ z / 2 ^ z : Nat) : Int) = ((M * 2 ^ z : Nat) : Int) / ((2 ^ z : Nat) : Int) := Int.natCast_ediv _ _
    rw [hdiv, Int.natCast_pow] at this
    exact this.symm
  obtain ⟨hf, hhf⟩ : ∃ hf, hf = 2 ^ (z - 1) := ⟨_, rfl⟩
  have i0 : (2 : Int) ^ (z - 1) = (hf : Int) := by rw [hhf, Int.natCast_pow]; rfl
  rw [← hhf] at HR hz2 hzp
  obtain ⟨m, hm⟩ : ∃ m, m = M * 2 ^ z := ⟨_, rfl⟩
  rw [← hm] at HR i3 hMz hlo ⊢
  obtain ⟨mn, hmn⟩ : ∃ mn, mn = m - hf := ⟨_, rfl⟩
  obtain ⟨mx, hmx⟩ : ∃ mx, mx = m + hf := ⟨_, rfl⟩
  obtain ⟨odd, hodd⟩ : ∃ odd, odd = M % 2 := ⟨_, rfl⟩
  have ho := and_one M (by omega)
  rw [← hodd] at ho
  rw [← hmn, ← hmx, ← hodd] at HR
  have bh : hf < 9223372036854775808 := by omega
  have i1 : (m : Int) - (hf : Int) = (mn : Int) := by omega
  have i2 : (m : Int) + (hf : Int) = (mx : Int) := by omega
  obtain ⟨ee, hee⟩ : ∃ ee, ee = -1074 - (z : Int) := ⟨_, rfl⟩
  rw [← hee]
  have i4 : ee + (z : Int) = y := by omega
  have i6 : -1085 - ee = (z : Int) - 11 := by omega
  have i9 : (11 : Int) + ((z : Int) - 11) = (z : Int) := by omega
  have i7 : ((z : Int) - 1).toNat = z - 1 := by omega
  have e0 : ee < -1085 := by omega
  have e9 : -1137 ≤ ee := by omega
  have i5 : -Fl.l10 y = p := hp.symm
  obtain ⟨_, _, th, _, _⟩ := Fl.tab_ok p (by omega) (by omega)
  have up1 := u_pos mx (Fl.hi p) (Fl.lo p) s (by omega) th (by omega)
  have ub : ∀ x : Nat, x < 18446744073709551616 → Fl.uscaleN x (Fl.hi p) (Fl.lo p) s ≤ 576460752303423489 := fun x hx => by
    obtain ⟨_, _, _, t4, _⟩ := Fl.tab_ok p (by omega) (by omega)
    exact u_le x _ _ s hx t4 (by omega)
  have ub1 := ub mn (by omega)
  have ub2 := ub mx (by omega)
  have ub3 := ub m (by omega)
  have bm : m < 18446744073709551616 := by omega
  have bmn : mn < 18446744073709551616 := by omega
  have bmx : mx < 18446744073709551616 := by omega
  have bo : odd ≤ 1 := by omega
  have bs : s ≤ 63 := by omega
  have hT := Lib.hid hT0
  unfold Fl.shortD at HR
  have hs1 : Hid (-(ee + Fl.lp p + 3) = (s : Int)) := Lib.hid (by omega)
  have bM : M < 9007199254740992 := by omega
  have by0 : -1074 ≤ y := by omega
  have by1 : y ≤ 971 := by omega
  clear ub hT0 hM hM0 hhi hm hmn hmx hodd hp hy hee th hlo hMz hpow hdiv hz2 hhf
  by_cases hC : m = 9223372036854775808
  · have hCb : ((m : Int) == 9223372036854775808) = true := by
      have : (m : Int) = 9223372036854775808 := by omega
      simpa using this
    clear hC
    go_enter Tryz.func72, Tryz.ntmps72
    go_wp2_with fail
    refine (log10Pow2 y (by omega) (by omega) _).mono ?_
    rintro e w0 ⟨rfl, hw⟩
    have hw' := hw.symm
    subst hw'
    clear hw
    go_wp2_with fail
    refine (log2Pow10 p (by omega) (by omega) _).mono ?_
    rintro e w1 ⟨rfl, hw⟩
    have hw' := hw.symm
    subst hw'
    clear hw
    go_wp2_with fail
    refine (prescale p ee (Fl.lp p) (by omega) (by omega) (by omega) (by omega) (by omega) (by omega) W hT.out).mono ?_
    rintro e w2 ⟨rfl, hw2⟩
    rw [hs1.out] at hw2
    have HP2 : Hid (Pre w2 W.heap.size p s) := Lib.hid (by rw [hw2]; exact pre_new W p s)
    have HB2 : Hid (Below W.heap.size W w2) := Lib.hid (by rw [hw2]; exact (Below.refl _ _).alloc (Nat.le_refl _) _)
    clear hw2
    go_wp2_with fail
    refine (uscale_pre mn s p _ _ (by omega) (by omega) (by omega) (by omega) HP2.out).mono ?_
    rintro e w3 ⟨rfl, hb⟩
    have HP3 := Lib.hid (HP2.out.below hb)
    have HB3 := Lib.hid (HB2.out.trans (hb.mono HB2.out.size))
    clear hb
    generalize humn : Fl.uscaleN mn (Fl.hi p) (Fl.lo p) s = umn at *
    go_wp2_with fail
    refine (nudge_up umn odd (by omega) (by omega) _).mono ?_
    rintro e w4 ⟨rfl, rfl⟩
    go_wp2_with fail
    refine (ceil (umn + odd) (by omega) _).mono ?_
    rintro e w5 ⟨rfl, rfl⟩
    have bmin : (umn + odd + 3) / 4 < 4611686018427387904 := by omega
    generalize (umn + odd + 3) / 4 = dmin at *
    go_wp2_with fail
    refine (uscale_pre mx s p _ _ (by omega) (by omega) (by omega) (by omega) HP3.out).mono ?_
    rintro e w6 ⟨rfl, hb⟩
    have HP6 := Lib.hid (HP3.out.below hb)
    have HB6 := Lib.hid (HB3.out.trans (hb.mono HB3.out.size))
    clear hb
    generalize humx : Fl.uscaleN mx (Fl.hi p) (Fl.lo p) s = umx at *
    go_wp2_with fail
    refine (nudge_down umx odd (by omega) (by omega) (by omega) _).mono ?_
    rintro e w7 ⟨rfl, rfl⟩
    go_wp2_with fail
    refine (floor (umx - odd) (by omega) _).mono ?_
    rintro e w8 ⟨rfl, rfl⟩
    have bmax : (umx - odd) / 4 < 4611686018427387904 := by omega
    generalize (umx - odd) / 4 = dmax at *
    clear HP2 HB2 HP3 HB3 humn humx
    by_cases q1 : dmin ≤ dmax / 10 * 10
    · rw [if_pos q1] at HR
      go_wp2
      go_ret2
      exact ⟨dmax / 10, 1 - p, by rw [show -(p - 1) = 1 - p by omega]; rfl, HB6.out, HR.out.1, HR.out.2.1, HR.out.2.2.1, by omega⟩
    · rw [if_neg q1] at HR
      by_cases q2 : dmin < dmax
      · rw [if_pos q2] at HR
        go_wp2_with fail
        refine (uscale_pre m s p _ _ (by omega) (by omega) (by omega) (by omega) HP6.out).mono ?_
        rintro e w9 ⟨rfl, hb⟩
        have HB9 := Lib.hid (HB6.out.trans (hb.mono HB6.out.size))
        clear hb
        generalize hum : Fl.uscaleN m (Fl.hi p) (Fl.lo p) s = um at *
        go_wp2_with fail
        refine (round um (by omega) _).mono ?_
        rintro e wa ⟨rfl, rfl⟩
        go_wp2
        go_ret2
        exact ⟨Fl.roundN um, -p, rfl, HB9.out, HR.out.1, HR.out.2.1, HR.out.2.2.1, by omega⟩
      · rw [if_neg q2] at HR
        go_wp2
        go_ret2
        exact ⟨dmin, -p, rfl, HB6.out, HR.out.1, HR.out.2.1, HR.out.2.2.1, by omega⟩
  · have hCb : ((m : Int) == 9223372036854775808) = false := by
      have : (m : Int) ≠ 9223372036854775808 := by omega
      simpa using this
    clear hC
    go_enter Tryz.func72, Tryz.ntmps72
    go_wp2_with fail
    refine (log10Pow2 y (by omega) (by omega) _).mono ?_
    rintro e w0 ⟨rfl, hw⟩
    have hw' := hw.symm
    subst hw'
    clear hw
    go_wp2_with fail
    refine (log2Pow10 p (by omega) (by omega) _).mono ?_
    rintro e w1 ⟨rfl, hw⟩
    have hw' := hw.symm
    subst hw'
    clear hw
    go_wp2_with fail
    refine (prescale p ee (Fl.lp p) (by omega) (by omega) (by omega) (by omega) (by omega) (by omega) W hT.out).mono ?_
    rintro e w2 ⟨rfl, hw2⟩
    rw [hs1.out] at hw2
    have HP2 : Hid (Pre w2 W.heap.size p s) := Lib.hid (by rw [hw2]; exact pre_new W p s)
    have HB2 : Hid (Below W.heap.size W w2) := Lib.hid (by rw [hw2]; exact (Below.refl _ _).alloc (Nat.le_refl _) _)
    clear hw2
    go_wp2_with fail
    refine (uscale_pre mn s p _ _ (by omega) (by omega) (by omega) (by omega) HP2.out).mono ?_
    rintro e w3 ⟨rfl, hb⟩
    have HP3 := Lib.hid (HP2.out.below hb)
    have HB3 := Lib.hid (HB2.out.trans (hb.mono HB2.out.size))
    clear hb
    generalize humn : Fl.uscaleN mn (Fl.hi p) (Fl.lo p) s = umn at *
    go_wp2_with fail
    refine (nudge_up umn odd (by omega) (by omega) _).mono ?_
    rintro e w4 ⟨rfl, rfl⟩
    go_wp2_with fail
    refine (ceil (umn + odd) (by omega) _).mono ?_
    rintro e w5 ⟨rfl, rfl⟩
    have bmin : (umn + odd + 3) / 4 < 4611686018427387904 := by omega
    generalize (umn + odd + 3) / 4 = dmin at *
    go_wp2_with fail
    refine (uscale_pre mx s p _ _ (by omega) (by omega) (by omega) (by omega) HP3.out).mono ?_
    rintro e w6 ⟨rfl, hb⟩
    have HP6 := Lib.hid (HP3.out.below hb)
    have HB6 := Lib.hid (HB3.out.trans (hb.mono HB3.out.size))
    clear hb
    generalize humx : Fl.uscaleN mx (Fl.hi p) (Fl.lo p) s = umx at *
    go_wp2_with fail
    refine (nudge_down umx odd (by omega) (by omega) (by omega) _).mono ?_
    rintro e w7 ⟨rfl, rfl⟩
    go_wp2_with fail
    refine (floor (umx - odd) (by omega) _).mono ?_
    rintro e w8 ⟨rfl, rfl⟩
    have bmax : (umx - odd) / 4 < 4611686018427387904 := by omega
    generalize (umx - odd) / 4 = dmax at *
    clear HP2 HB2 HP3 HB3 humn humx
    by_cases q1 : dmin ≤ dmax / 10 * 10
    · rw [if_pos q1] at HR
      go_wp2
      go_ret2
      exact ⟨dmax / 10, 1 - p, by rw [show -(p - 1) = 1 - p by omega]; rfl, HB6.out, HR.out.1, HR.out.2.1, HR.out.2.2.1, by omega⟩
    · rw [if_neg q1] at HR
      by_cases q2 : dmin < dmax
      · rw [if_pos q2] at HR
        go_wp2_with fail
        refine (uscale_pre m s p _ _ (by omega) (by omega) (by omega) (by omega) HP6.out).mono ?_
        rintro e w9 ⟨rfl, hb⟩
        have HB9 := Lib.hid (HB6.out.trans (hb.mono HB6.out.size))
        clear hb
        generalize hum : Fl.uscaleN m (Fl.hi p) (Fl.lo p) s = um at *
        go_wp2_with fail
        refine (round um (by omega) _).mono ?_
        rintro e wa ⟨rfl, rfl⟩
        go_wp2
        go_ret2
        exact ⟨Fl.roundN um, -p, rfl, HB9.out, HR.out.1, HR.out.2.1, HR.out.2.2.1, by omega⟩
      · rw [if_neg q2] at HR
        go_wp2
        go_ret2
        exact ⟨dmin, -p, rfl, HB6.out, HR.out.1, HR.out.2.1, HR.out.2.2.1, by omega⟩
end Go.Proofs.YtbbjjkcjpdmjnaaGreatDoor

/- Walks of the law FnBack: shortFloat of subnormal floats. -/
namespace Go.Proofs.YtbbjjkcjpdmjnaaGreatDoor
open Go.RowKit

set_option maxRecDepth 100000 in
set_option maxHeartbeats 4000000 in
theorem short32_sub (M z : Nat) (hM0 : 1 ≤ M) (hM : M < 8388608) (hz0 : 40 < z) (hz : z ≤ 63) (hlo : 9223372036854775808 ≤ M * 2 ^ z) (hhi : M < 2 ^ (64 - z)) (W : World) (hT0 : Tab W) :
    Calls Tryz.prog 65 #[.int .u64 ((M * 2 ^ z : Nat) : Int), .int .i64 (-149 - (z : Int))] W (Short32 W 0 M (-Fl.l10 (-149))) := by
  obtain ⟨y, hy⟩ : ∃ y : Int, y = -149 := ⟨_, rfl⟩
  obtain ⟨p, hp⟩ : ∃ p, p = -Fl.l10 y := ⟨_, rfl⟩
  rw [show Fl.l10 (-149) = Fl.l10 y by rw [hy], ← hp]
  obtain ⟨⟨a1, a2, a3, a4, _, _⟩, _⟩ := Fl.exp_ok y (by omega) (by omega)
  rw [show Fl.l10 y = -p by omega, show -(-p) = p by omega] at a1 a2 a3 a4
  obtain ⟨s, hs⟩ : ∃ s : Nat, (s : Int) = z - y - Fl.lp p - 3 := ⟨(z - y - Fl.lp p - 3).toNat, by omega⟩
  have HR := Lib.hid (Fl.short_plain (n := 8388608) (E0 := 149) (ex := 0) (M := M) (z := z) (s := s) (r := 0 * 8388608 + M) (by decide) (by decide) (by decide) rfl (by omega) (by omega) (by omega) (by omega) (by omega) (by omega) (by omega) (by omega) hz hhi hp (by omega))
  dsimp only at HR
  unfold Short32
  have hz2 : 2 ^ z = 2 * 2 ^ (z - 1) := by rw [← Nat.pow_succ']; congr 1; omega
  have hzp : 0 < 2 ^ (z - 1) := Nat.two_pow_pos _
  have hMz : (M + 1) * 2 ^ z ≤ 2 ^ (64 - z) * 2 ^ z := Nat.mul_le_mul_right _ hhi
  have hpow : 2 ^ (64 - z) * 2 ^ z = 18446744073709551616 := by rw [← Nat.pow_add, show 64 - z + z = 64 by omega]
  rw [hpow, Nat.add_mul, Nat.one_mul] at hMz
  have hdiv : M * 2 ^ z / 2 ^ z = M := Nat.mul_div_cancel _ (Nat.two_pow_pos z)
  have i3 : ((M * 2 ^ z : Nat) : Int) / 2 ^ z = (M : Int) := by
    have : ((M * 2 ^ z / 2 ^ z : Nat) : Int) = ((M * 2 ^ z : Nat) : Int) / ((2 ^ z : Nat) : Int) := Int.natCast_ediv _ _
    rw [hdiv, Int.natCast_pow] at this
    exact this.symm
  obtain ⟨hf, hhf⟩ : ∃ hf, hf = 2 ^ (z - 1) := ⟨_, rfl⟩
  have i0 : (2 : Int) ^ (z - 1) = (hf : Int) := by rw [hhf, Int.natCast_pow]; rfl
  rw [← hhf] at HR hz2 hzp
  obtain ⟨m, hm⟩ : ∃ m, m = M * 2 ^ z := ⟨_, rfl⟩
  rw [← hm] at HR i3 hMz hlo ⊢
  obtain ⟨mn, hmn⟩ : ∃ mn, mn = m - hf := ⟨_, rfl⟩
  obtain ⟨mx, hmx⟩ : ∃ mx, mx = m + hf := ⟨_, rfl⟩
  obtain ⟨odd, hodd⟩ : ∃ odd, odd = M % 2 := ⟨_, rfl⟩
  have ho := and_one M (by omega)
  rw [← hodd] at ho
  rw [← hmn, ← hmx, ← hodd] at HR
  have bh : hf < 9223372036854775808 := by omega
  have i1 : (m : Int) - (hf : Int) = (mn : Int) := by omega
  have i2 : (m : Int) + (hf : Int) = (mx : Int) := by omega
  obtain ⟨ee, hee⟩ : ∃ ee, ee = -149 - (z : Int) := ⟨_, rfl⟩
  rw [← hee]
  have i4 : ee + (z : Int) = y := by omega
  have i6 : -189 - ee = (z : Int) - 40 := by omega
  have i9 : (40 : Int) + ((z : Int) - 40) = (z : Int) := by omega
  have i7 : ((z : Int) - 1).toNat = z - 1 := by omega
  have e0 : ee < -189 := by omega
  have e9 : -212 ≤ ee := by omega
  have i5 : -Fl.l10 y = p := hp.symm
  obtain ⟨_, _, th, _, _⟩ := Fl.tab_ok p (by omega) (by omega)
  have up1 := u_pos mx (Fl.hi p) (Fl.lo p) s (by omega) th (by omega)
  have ub : ∀ x : Nat, x < 18446744073709551616 → Fl.uscaleN x (Fl.hi p) (Fl.lo p) s ≤ 576460752303423489 := fun x hx => by
    obtain ⟨_, _, _, t4, _⟩ := Fl.tab_ok p (by omega) (by omega)
    exact u_le x _ _ s hx t4 (by omega)
  have ub1 := ub mn (by omega)
  have ub2 := ub mx (by omega)
  have ub3 := ub m (by omega)
  have bm : m < 18446744073709551616 := by omega
  have bmn : mn < 18446744073709551616 := by omega
  have bmx : mx < 18446744073709551616 := by omega
  have bo : odd ≤ 1 := by omega
  have bs : s ≤ 63 := by omega
  have hT := Lib.hid hT0
  unfold Fl.shortD at HR
  have hs1 : Hid (-(ee + Fl.lp p + 3) = (s : Int)) := Lib.hid (by omega)
  have bM : M < 9007199254740992 := by omega
  have by0 : -149 ≤ y := by omega
  have by1 : y ≤ 104 := by omega
  clear ub hT0 hM hM0 hhi hm hmn hmx hodd hp hy hee th hlo hMz hpow hdiv hz2 hhf
  by_cases hC : m = 9223372036854775808
  · have hCb : ((m : Int) == 9223372036854775808) = true := by
      have : (m : Int) = 9223372036854775808 := by omega
      simpa using this
    clear hC
    go_enter Tryz.func65, Tryz.ntmps65
    go_wp2_with fail
    refine (log10Pow2 y (by omega) (by omega) _).mono ?_
    rintro e w0 ⟨rfl, hw⟩
    have hw' := hw.symm
    subst hw'
    clear hw
    go_wp2_with fail
    refine (log2Pow10 p (by omega) (by omega) _).mono ?_
    rintro e w1 ⟨rfl, hw⟩
    have hw' := hw.symm
    subst hw'
    clear hw
    go_wp2_with fail
    refine (prescale p ee (Fl.lp p) (by omega) (by omega) (by omega) (by omega) (by omega) (by omega) W hT.out).mono ?_
    rintro e w2 ⟨rfl, hw2⟩
    rw [hs1.out] at hw2
    have HP2 : Hid (Pre w2 W.heap.size p s) := Lib.hid (by rw [hw2]; exact pre_new W p s)
    have HB2 : Hid (Below W.heap.size W w2) := Lib.hid (by rw [hw2]; exact (Below.refl _ _).alloc (Nat.le_refl _) _)
    clear hw2
    go_wp2_with fail
    refine (uscale_pre mn s p _ _ (by omega) (by omega) (by omega) (by omega) HP2.out).mono ?_
    rintro e w3 ⟨rfl, hb⟩
    have HP3 := Lib.hid (HP2.out.below hb)
    have HB3 := Lib.hid (HB2.out.trans (hb.mono HB2.out.size))
    clear hb
    generalize humn : Fl.uscaleN mn (Fl.hi p) (Fl.lo p) s = umn at *
    go_wp2_with fail
    refine (nudge_up umn odd (by omega) (by omega) _).mono ?_
    rintro e w4 ⟨rfl, rfl⟩
    go_wp2_with fail
    refine (ceil (umn + odd) (by omega) _).mono ?_
    rintro e w5 ⟨rfl, rfl⟩
    have bmin : (umn + odd + 3) / 4 < 4611686018427387904 := by omega
    generalize (umn + odd + 3) / 4 = dmin at *
    go_wp2_with fail
    refine (uscale_pre mx s p _ _ (by omega) (by omega) (by omega) (by omega) HP3.out).mono ?_
    rintro e w6 ⟨rfl, hb⟩
    have HP6 := Lib.hid (HP3.out.below hb)
    have HB6 := Lib.hid (HB3.out.trans (hb.mono HB3.out.size))
    clear hb
    generalize humx : Fl.uscaleN mx (Fl.hi p) (Fl.lo p) s = umx at *
    go_wp2_with fail
    refine (nudge_down umx odd (by omega) (by omega) (by omega) _).mono ?_
    rintro e w7 ⟨rfl, rfl⟩
    go_wp2_with fail
    refine (floor (umx - odd) (by omega) _).mono ?_
    rintro e w8 ⟨rfl, rfl⟩
    have bmax : (umx - odd) / 4 < 4611686018427387904 := by omega
    generalize (umx - odd) / 4 = dmax at *
    clear HP2 HB2 HP3 HB3 humn humx
    by_cases q1 : dmin ≤ dmax / 10 * 10
    · rw [if_pos q1] at HR
      go_wp2
      go_ret2
      exact ⟨dmax / 10, 1 - p, by rw [show -(p - 1) = 1 - p by omega]; rfl, HB6.out, HR.out.1, HR.out.2.1, HR.out.2.2.1, by omega⟩
    · rw [if_neg q1] at HR
      by_cases q2 : dmin < dmax
      · rw [if_pos q2] at HR
        go_wp2_with fail
        refine (uscale_pre m s p _ _ (by omega) (by omega) (by omega) (by omega) HP6.out).mono ?_
        rintro e w9 ⟨rfl, hb⟩
        have HB9 := Lib.hid (HB6.out.trans (hb.mono HB6.out.size))
        clear hb
        generalize hum : Fl.uscaleN m (Fl.hi p) (Fl.lo p) s = um at *
        go_wp2_with fail
        refine (round um (by omega) _).mono ?_
        rintro e wa ⟨rfl, rfl⟩
        go_wp2
        go_ret2
        exact ⟨Fl.roundN um, -p, rfl, HB9.out, HR.out.1, HR.out.2.1, HR.out.2.2.1, by omega⟩
      · rw [if_neg q2] at HR
        go_wp2
        go_ret2
        exact ⟨dmin, -p, rfl, HB6.out, HR.out.1, HR.out.2.1, HR.out.2.2.1, by omega⟩
  · have hCb : ((m : Int) == 9223372036854775808) = false := by
      have : (m : Int) ≠ 9223372036854775808 := by omega
      simpa using this
    clear hC
    go_enter Tryz.func65, Tryz.ntmps65
    go_wp2_with fail
    refine (log10Pow2 y (by omega) (by omega) _).mono ?_
    rintro e w0 ⟨rfl, hw⟩
    have hw' := hw.symm
    subst hw'
    clear hw
    go_wp2_with fail
    refine (log2Pow10 p (by omega) (by omega) _).mono ?_
    rintro e w1 ⟨rfl, hw⟩
    have hw' := hw.symm
    subst hw'
    clear hw
    go_wp2_with fail
    refine (prescale p ee (Fl.lp p) (by omega) (by omega) (by omega) (by omega) (by omega) (by omega) W hT.out).mono ?_
    rintro e w2 ⟨rfl, hw2⟩
    rw [hs1.out] at hw2
    have HP2 : Hid (Pre w2 W.heap.size p s) := Lib.hid (by rw [hw2]; exact pre_new W p s)
    have HB2 : Hid (Below W.heap.size W w2) := Lib.hid (by rw [hw2]; exact (Below.refl _ _).alloc (Nat.le_refl _) _)
    clear hw2
    go_wp2_with fail
    refine (uscale_pre mn s p _ _ (by omega) (by omega) (by omega) (by omega) HP2.out).mono ?_
    rintro e w3 ⟨rfl, hb⟩
    have HP3 := Lib.hid (HP2.out.below hb)
    have HB3 := Lib.hid (HB2.out.trans (hb.mono HB2.out.size))
    clear hb
    generalize humn : Fl.uscaleN mn (Fl.hi p) (Fl.lo p) s = umn at *
    go_wp2_with fail
    refine (nudge_up umn odd (by omega) (by omega) _).mono ?_
    rintro e w4 ⟨rfl, rfl⟩
    go_wp2_with fail
    refine (ceil (umn + odd) (by omega) _).mono ?_
    rintro e w5 ⟨rfl, rfl⟩
    have bmin : (umn + odd + 3) / 4 < 4611686018427387904 := by omega
    generalize (umn + odd + 3) / 4 = dmin at *
    go_wp2_with fail
    refine (uscale_pre mx s p _ _ (by omega) (by omega) (by omega) (by omega) HP3.out).mono ?_
    rintro e w6 ⟨rfl, hb⟩
    have HP6 := Lib.hid (HP3.out.below hb)
    have HB6 := Lib.hid (HB3.out.trans (hb.mono HB3.out.size))
    clear hb
    generalize humx : Fl.uscaleN mx (Fl.hi p) (Fl.lo p) s = umx at *
    go_wp2_with fail
    refine (nudge_down umx odd (by omega) (by omega) (by omega) _).mono ?_
    rintro e w7 ⟨rfl, rfl⟩
    go_wp2_with fail
    refine (floor (umx - odd) (by omega) _).mono ?_
    rintro e w8 ⟨rfl, rfl⟩
    have bmax : (umx - odd) / 4 < 4611686018427387904 := by omega
    generalize (umx - odd) / 4 = dmax at *
    clear HP2 HB2 HP3 HB3 humn humx
    by_cases q1 : dmin ≤ dmax / 10 * 10
    · rw [if_pos q1] at HR
      go_wp2
      go_ret2
      exact ⟨dmax / 10, 1 - p, by rw [show -(p - 1) = 1 - p by omega]; rfl, HB6.out, HR.out.1, HR.out.2.1, HR.out.2.2.1, by omega⟩
    · rw [if_neg q1] at HR
      by_cases q2 : dmin < dmax
      · rw [if_pos q2] at HR
        go_wp2_with fail
        refine (uscale_pre m s p _ _ (by omega) (by omega) (by omega) (by omega) HP6.out).mono ?_
        rintro e w9 ⟨rfl, hb⟩
        have HB9 := Lib.hid (HB6.out.trans (hb.mono HB6.out.size))
        clear hb
        generalize hum : Fl.uscaleN m (Fl.hi p) (Fl.lo p) s = um at *
        go_wp2_with fail
        refine (round um (by omega) _).mono ?_
        rintro e wa ⟨rfl, rfl⟩
        go_wp2
        go_ret2
        exact ⟨Fl.roundN um, -p, rfl, HB9.out, HR.out.1, HR.out.2.1, HR.out.2.2.1, by omega⟩
      · rw [if_neg q2] at HR
        go_wp2
        go_ret2
        exact ⟨dmin, -p, rfl, HB6.out, HR.out.1, HR.out.2.1, HR.out.2.2.1, by omega⟩
end Go.Proofs.YtbbjjkcjpdmjnaaGreatDoor

/- Walks of the law FnBack: shortFloat at every finite float that is not zero. -/
namespace Go.Proofs.YtbbjjkcjpdmjnaaGreatDoor
open Go.RowKit

/-- shortFloat at a float of rung ex * 4503599627370496 + M. -/
theorem short64 (ex M z : Nat) (hM0 : 1 ≤ M) (hM : M < 9007199254740992) (hMn : 0 < ex → 4503599627370496 ≤ M) (hex : ex ≤ 2045) (hz : z ≤ 63) (hlo : 9223372036854775808 ≤ M * 2 ^ z) (hhi : M < 2 ^ (64 - z)) (W : World) (hT : Tab W) :
    Calls Tryz.prog 72 #[.int .u64 ((M * 2 ^ z : Nat) : Int), .int .i64 ((ex : Int) - 1074 - z)] W fun e w' => ∃ (d : Nat) (q : Int), e = .returned (.tuple #[.int .u64 d, .int .i64 q]) ∧ Below W.heap.size W w' ∧
      Fl.Near 4503599627370496 (ex * 4503599627370496 + M) (Fl.decA 1074 d q) (Fl.decB q) ∧ 1 ≤ d ∧ d < 100000000000000000 ∧ -325 ≤ q ∧ q ≤ 293 := by
  have hz1 : 11 ≤ z := by
    rcases Nat.lt_or_ge z 11 with h | h
    · exfalso
      have h1 : 2 ^ z ≤ 2 ^ 10 := Nat.pow_le_pow_right (by decide) (by omega)
      have h2 := Nat.mul_le_mul (show M ≤ 9007199254740991 by omega) h1
      have h3 : 9007199254740991 * 2 ^ 10 < 9223372036854775808 := by decide
      omega
    · exact h
  by_cases hz2 : z = 11
  · subst hz2
    have hMn2 : 4503599627370496 ≤ M := by
      have : M * 2 ^ 11 = M * 2048 := rfl
      omega
    rw [show (ex : Int) - 1074 - ((11 : Nat) : Int) = (ex : Int) - 1085 by omega, show M * 2 ^ 11 = M * 2048 from rfl]
    by_cases hs : M = 4503599627370496 ∧ 0 < ex
    · refine (short64_skew ex M hs.1 hs.2 hex W hT).mono ?_
      rintro e w' ⟨d, q, he, hb, hN, h1, h2, hq⟩
      obtain ⟨y, hy⟩ : ∃ y, y = (ex : Int) - 1074 := ⟨_, rfl⟩
      rw [← hy] at hq
      unfold Fl.skw at hq
      exact ⟨d, q, he, hb, hN, h1, h2, by omega, by omega⟩
    · refine (short64_plain ex M hM hMn2 hex hs W hT).mono ?_
      rintro e w' ⟨d, q, he, hb, hN, h1, h2, hq⟩
      obtain ⟨y, hy⟩ : ∃ y, y = (ex : Int) - 1074 := ⟨_, rfl⟩
      rw [← hy] at hq
      unfold Fl.l10 at hq
      exact ⟨d, q, he, hb, hN, h1, h2, by omega, by omega⟩
  · have hMl : M < 4503599627370496 := by
      have h1 : 2 ^ (64 - z) ≤ 2 ^ 52 := Nat.pow_le_pow_right (by decide) (by omega)
      have h2 : 2 ^ 52 = 4503599627370496 := rfl
      omega
    have hex0 : ex = 0 := by
      rcases Nat.eq_zero_or_pos ex with h | h
      · exact h
      · have := hMn h; omega
    subst hex0
    rw [show ((0 : Nat) : Int) - 1074 - (z : Int) = -1074 - (z : Int) by omega]
    refine (short64_sub M z hM0 hMl (by omega) hz hlo hhi W hT).mono ?_
    rintro e w' ⟨d, q, he, hb, hN, h1, h2, hq⟩
    obtain ⟨y, hy⟩ : ∃ y : Int, y = -1074 := ⟨_, rfl⟩
    rw [← hy] at hq
    unfold Fl.l10 at hq
    exact ⟨d, q, he, hb, hN, h1, h2, by omega, by omega⟩

/-- shortFloat at a float of rung ex * 8388608 + M. -/
theorem short32 (ex M z : Nat) (hM0 : 1 ≤ M) (hM : M < 16777216) (hMn : 0 < ex → 8388608 ≤ M) (hex : ex ≤ 253) (hz : z ≤ 63) (hlo : 9223372036854775808 ≤ M * 2 ^ z) (hhi : M < 2 ^ (64 - z)) (W : World) (hT : Tab W) :
    Calls Tryz.prog 65 #[.int .u64 ((M * 2 ^ z : Nat) : Int), .int .i64 ((ex : Int) - 149 - z)] W fun e w' => ∃ (d : Nat) (q : Int), e = .returned (.tuple #[.int .u64 d, .int .i64 q]) ∧ Below W.heap.size W w' ∧
      Fl.Near 8388608 (ex * 8388608 + M) (Fl.decA 149 d q) (Fl.decB q) ∧ 1 ≤ d ∧ d < 100000000000000000 ∧ -46 ≤ q ∧ q ≤ 33 := by
  have hz1 : 40 ≤ z := by
    rcases Nat.lt_or_ge z 40 with h | h
    · exfalso
      have h1 : 2 ^ z ≤ 2 ^ 39 := Nat.pow_le_pow_right (by decide) (by omega)
      have h2 := Nat.mul_le_mul (show M ≤ 16777215 by omega) h1
      have h3 : 16777215 * 2 ^ 39 < 9223372036854775808 := by decide
      omega
    · exact h
  by_cases hz2 : z = 40
  · subst hz2
    have hMn2 : 8388608 ≤ M := by
      have : M * 2 ^ 40 = M * 1099511627776 := rfl
      omega
    rw [show (ex : Int) - 149 - ((40 : Nat) : Int) = (ex : Int) - 189 by omega, show M * 2 ^ 40 = M * 1099511627776 from rfl]
    by_cases hs : M = 8388608 ∧ 0 < ex
    · refine (short32_skew ex M hs.1 hs.2 hex W hT).mono ?_
      rintro e w' ⟨d, q, he, hb, hN, h1, h2, hq⟩
      obtain ⟨y, hy⟩ : ∃ y, y = (ex : Int) - 149 := ⟨_, rfl⟩
      rw [← hy] at hq
      unfold Fl.skw at hq
      exact ⟨d, q, he, hb, hN, h1, h2, by omega, by omega⟩
    · refine (short32_plain ex M hM hMn2 hex hs W hT).mono ?_
      rintro e w' ⟨d, q, he, hb, hN, h1, h2, hq⟩
      obtain ⟨y, hy⟩ : ∃ y, y = (ex : Int) - 149 := ⟨_, rfl⟩
      rw [← hy] at hq
      unfold Fl.l10 at hq
      exact ⟨d, q, he, hb, hN, h1, h2, by omega, by omega⟩
  · have hMl : M < 8388608 := by
      have h1 : 2 ^ (64 - z) ≤ 2 ^ 23 := Nat.pow_le_pow_right (by decide) (by omega)
      have h2 : 2 ^ 23 = 8388608 := rfl
      omega
    have hex0 : ex = 0 := by
      rcases Nat.eq_zero_or_pos ex with h | h
      · exact h
      · have := hMn h; omega
    subst hex0
    rw [show ((0 : Nat) : Int) - 149 - (z : Int) = -149 - (z : Int) by omega]
    refine (short32_sub M z hM0 hMl (by omega) hz hlo hhi W hT).mono ?_
    rintro e w' ⟨d, q, he, hb, hN, h1, h2, hq⟩
    obtain ⟨y, hy⟩ : ∃ y : Int, y = -149 := ⟨_, rfl⟩
    rw [← hy] at hq
    unfold Fl.l10 at hq
    exact ⟨d, q, he, hb, hN, h1, h2, by omega, by omega⟩
end Go.Proofs.YtbbjjkcjpdmjnaaGreatDoor
