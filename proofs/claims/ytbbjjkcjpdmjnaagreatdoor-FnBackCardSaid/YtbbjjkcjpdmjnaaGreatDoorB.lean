/- Walks of the law FnBack: prescale and shortFloat. -/
import Derived.Test.YtbbjjkcjpdmjnaaGreatDoorA
import Derived.Lib.RabinKarpLaws
namespace Go.Proofs.YtbbjjkcjpdmjnaaGreatDoor
open Go.RowKit

/-- The table of the powers of ten lies where the program looks. -/
def Tab (w : World) : Prop := ∀ p : Int, -348 ≤ p → p ≤ 347 → w.cell? ⟨5, (p + 348).toNat * 2, none⟩ = some (.int .u64 (Fl.hi p : Nat)) ∧ w.cell? ⟨5, (p + 348).toNat * 2 + 1, none⟩ = some (.int .u64 (Fl.lo p : Nat))

theorem prescale (p e l : Int) (h0 : -348 ≤ p) (h1 : p ≤ 347) (e0 : -10000 ≤ e) (e1 : e ≤ 10000) (l0 : -10000 ≤ l) (l1 : l ≤ 10000) (W : World) (hT : Tab W) :
    Calls Tryz.prog 89 #[.pointer (some ⟨W.heap.size, 0, none⟩), .int .i64 e, .int .i64 p, .int .i64 l] (W.alloc (.cells #[.int .u64 0, .int .u64 0, .int .i64 0] 135)) fun en w' =>
      en = .returned (.tuple #[]) ∧ w' = W.alloc (.cells #[.int .u64 (Fl.hi p : Nat), .int .u64 (Fl.lo p : Nat), .int .i64 (-(e + l + 3))] 135) := by
  obtain ⟨t0, t1⟩ := hT p h0 h1
  have h5 := Lib.lt_of_cell t0
  have i0 : 0 ≤ p + 348 := by omega
  have i1 : p + 348 < 696 := by omega
  go_enter Tryz.func89, Tryz.ntmps89
  go_wp2
  exact bodyPost_end (results_none rfl _ _ _) rfl ⟨rfl, rfl⟩

theorem u_le (x h l s : Nat) (hx : x < 18446744073709551616) (hh : h < 18446744073709551616) (hs : 5 ≤ s) : Fl.uscaleN x h l s ≤ 576460752303423489 := by
  have hH : x * h / 18446744073709551616 < 18446744073709551616 := by
    rw [Nat.div_lt_iff_lt_mul (by decide)]
    exact Nat.lt_of_le_of_lt (Nat.mul_le_mul (show x ≤ 18446744073709551615 by omega) (show h ≤ 18446744073709551615 by omega)) (by decide)
  have hd : ∀ K : Nat, K < 18446744073709551616 → K / 2 ^ s ≤ 576460752303423488 := fun K hK => by
    have h1 : K / 2 ^ s ≤ K / 2 ^ 5 := Nat.div_le_div_left (Nat.pow_le_pow_right (by decide) hs) (by decide)
    have h2 : K / 2 ^ 5 = K / 32 := rfl
    omega
  have ho : ∀ q : Nat, q ||| 1 ≤ q + 1 := fun q => by rw [Fl.or_one]; omega
  unfold Fl.uscaleN
  dsimp only
  generalize x * h / 18446744073709551616 = H at *
  split
  · have := hd H hH; have := ho (H / 2 ^ s); omega
  · split
    · have := hd (H - 1) (by omega)
      split
      · have := ho ((H - 1) / 2 ^ s); omega
      · rw [Fl.or_zero]; omega
    · have := hd H hH
      split
      · have := ho (H / 2 ^ s); omega
      · rw [Fl.or_zero]; omega

theorem u_pos (x h l s : Nat) (hx : 9223372036854775808 ≤ x) (hh : 9223372036854775808 ≤ h) (hs : s ≤ 60) : 1 ≤ Fl.uscaleN x h l s := by
  have hH : 4611686018427387904 ≤ x * h / 18446744073709551616 := by
    rw [Nat.le_div_iff_mul_le (by decide)]
    exact Nat.le_trans (by decide) (Nat.mul_le_mul hx hh)
  have hd : ∀ K : Nat, 1152921504606846976 ≤ K → 1 ≤ K / 2 ^ s := fun K hK => by
    have h1 : K / 2 ^ 60 ≤ K / 2 ^ s := Nat.div_le_div_left (Nat.pow_le_pow_right (by decide) hs) (Nat.two_pow_pos _)
    have h2 : K / 2 ^ 60 = K / 1152921504606846976 := rfl
    omega
  have ho : ∀ q b : Nat, 1 ≤ q → 1 ≤ q ||| b := fun q b h => by
    have : q ≤ q ||| b := Nat.left_le_or
    omega
  unfold Fl.uscaleN
  dsimp only
  generalize x * h / 18446744073709551616 = H at *
  split
  · exact ho _ _ (hd H (by omega))
  · split
    · exact ho _ _ (hd (H - 1) (by omega))
    · exact ho _ _ (hd H (by omega))

/-- The reckoned triple lies in a world. -/
def Pre (w : World) (g : Nat) (p : Int) (s : Nat) : Prop := w.cell? ⟨g, 0, none⟩ = some (.int .u64 (Fl.hi p : Nat)) ∧ w.cell? ⟨g, 1, none⟩ = some (.int .u64 (Fl.lo p : Nat)) ∧ w.cell? ⟨g, 2, none⟩ = some (.int .i64 s)

theorem pre_new (W : World) (p : Int) (s : Nat) : Pre (W.alloc (.cells #[.int .u64 (Fl.hi p : Nat), .int .u64 (Fl.lo p : Nat), .int .i64 (s : Int)] 135)) W.heap.size p s := by
  refine ⟨?_, ?_, ?_⟩ <;> (rw [World.cell?_alloc_new]; rfl)

theorem Pre.below {w w' : World} {g : Nat} {p : Int} {s : Nat} (h : Pre w g p s) (hb : Below w.heap.size w w') : Pre w' g p s := by
  have hg := Lib.lt_of_cell h.1
  exact ⟨(hb.cell (p := ⟨g, 0, none⟩) hg).trans h.1, (hb.cell (p := ⟨g, 1, none⟩) hg).trans h.2.1, (hb.cell (p := ⟨g, 2, none⟩) hg).trans h.2.2⟩

theorem uscale_pre (x s : Nat) (p : Int) (g : Nat) (w : World) (hp0 : -348 ≤ p) (hp1 : p ≤ 347) (hx : x < 18446744073709551616) (hs : s ≤ 63) (h : Pre w g p s) :
    Calls Tryz.prog 91 #[.int .u64 x, .pointer (some ⟨g, 0, none⟩)] w fun e w' => e = .returned (.int .u64 ((Fl.uscaleN x (Fl.hi p) (Fl.lo p) s : Nat) : Int)) ∧ Below w.heap.size w w' := by
  obtain ⟨_, _, t3, t4, t5⟩ := Fl.tab_ok p hp0 hp1
  exact uscale x _ _ s hx (by omega) t4 t5 hs g w h.1 h.2.1 h.2.2

/-- What shortFloat answers. -/
def Short64 (W : World) (ex M : Nat) (p : Int) (e : Ending) (w' : World) : Prop := ∃ (d : Nat) (q : Int), e = .returned (.tuple #[.int .u64 d, .int .i64 q]) ∧ Below W.heap.size W w' ∧
  (Fl.Near 4503599627370496 (ex * 4503599627370496 + M) (Fl.decA 1074 d q) (Fl.decB q) ∧ 1 ≤ d ∧ d < 100000000000000000 ∧ (q = -p ∨ q = 1 - p))

set_option maxRecDepth 100000 in
set_option maxHeartbeats 4000000 in
theorem short64_plain (ex M : Nat) (hM : M < 9007199254740992) (hM0 : 4503599627370496 ≤ M) (hex : ex ≤ 2045) (hns : ¬ (M = 4503599627370496 ∧ 0 < ex)) (W : World) (hT0 : Tab W) :
    Calls Tryz.prog 72 #[.int .u64 ((M * 2048 : Nat) : Int), .int .i64 ((ex : Int) - 1085)] W (Short64 W ex M (-Fl.l10 ((ex : Int) - 1074))) := by
  obtain ⟨y, hy⟩ : ∃ y, y = (ex : Int) - 1074 := ⟨_, rfl⟩
  obtain ⟨p, hp⟩ : ∃ p, p = -Fl.l10 y := ⟨_, rfl⟩
  rw [← hy, ← hp]
  obtain ⟨⟨a1, a2, a3, a4, _, _⟩, _⟩ := Fl.exp_ok y (by omega) (by omega)
  rw [show Fl.l10 y = -p by omega, show -(-p) = p by omega] at a1 a2 a3 a4
  obtain ⟨s, hs⟩ : ∃ s : Nat, (s : Int) = 11 - y - Fl.lp p - 3 := ⟨(11 - y - Fl.lp p - 3).toNat, by omega⟩
  have HR := Lib.hid (Fl.short_plain (n := 4503599627370496) (E0 := 1074) (ex := ex) (M := M) (z := 11) (s := s) (r := ex * 4503599627370496 + M) (by decide) (by decide) (by decide) rfl (by omega) (by omega) (by omega) hns hy (by omega) (by omega) (by decide) (by decide) (by omega) hp (by omega))
  dsimp only at HR
  unfold Short64
  have e1 : M * 2 ^ 11 = M * 2048 := rfl
  rw [e1] at HR
  have e2 : M * 2048 + 2 ^ (11 - 1) = M * 2048 + 1024 := rfl
  have e3 : M * 2048 - 2 ^ (11 - 1) = M * 2048 - 1024 := rfl
  rw [e2, e3] at HR
  obtain ⟨m, hm⟩ : ∃ m, m = M * 2048 := ⟨_, rfl⟩
  obtain ⟨mn, hmn⟩ : ∃ mn, mn = m - 1024 := ⟨_, rfl⟩
  obtain ⟨mx, hmx⟩ : ∃ mx, mx = m + 1024 := ⟨_, rfl⟩
  obtain ⟨odd, hodd⟩ : ∃ odd, odd = M % 2 := ⟨_, rfl⟩
  have ho := and_one M (by omega)
  rw [← hodd] at ho
  rw [← hm, ← hmn, ← hmx, ← hodd] at HR
  rw [← hm]
  have i1 : (m : Int) - 1024 = (mn : Int) := by omega
  have i2 : (m : Int) + 1024 = (mx : Int) := by omega
  have i3 : (m : Int) / 2048 = (M : Int) := by omega
  obtain ⟨ee, hee⟩ : ∃ ee, ee = (ex : Int) - 1085 := ⟨_, rfl⟩
  rw [← hee]
  have i4 : ee + 11 = y := by omega
  have e0 : -1085 ≤ ee := by omega
  have e9 : ee ≤ 960 := by omega
  have i5 : -Fl.l10 y = p := hp.symm
  obtain ⟨_, _, th, _, _⟩ := Fl.tab_ok p (by omega) (by omega)
  have up1 := u_pos mx (Fl.hi p) (Fl.lo p) s (by omega) th (by omega)
  have ub : ∀ x : Nat, x < 18446744073709551616 → Fl.uscaleN x (Fl.hi p) (Fl.lo p) s ≤ 576460752303423489 := fun x hx => by
    obtain ⟨_, _, _, t4, _⟩ := Fl.tab_ok p (by omega) (by omega)
    exact u_le x _ _ s hx t4 (by omega)
  have ub1 := ub mn (by omega)
  have ub2 := ub mx (by omega)
  have ub3 := ub m (by omega)
  have bm : m < 18446744073709551616 := by omega
  have bmn : mn < 18446744073709551616 := by omega
  have bmx : mx < 18446744073709551616 := by omega
  have bo : odd ≤ 1 := by omega
  have bs : s ≤ 63 := by omega
  have hT := Lib.hid hT0
  unfold Fl.shortD at HR
  have by0 : -1074 ≤ y := by omega
  have by1 : y ≤ 971 := by omega
  have HC : (m ≠ 9223372036854775808) ∨ (m = 9223372036854775808 ∧ ee = -1085) := by omega
  clear ub hT0 hns hM hM0 hex hm hmn hmx hodd hp hy hee e1 e2 e3 th
  rcases HC with hC | ⟨hC, hC2⟩
  · have hCb : ((m : Int) == 9223372036854775808) = false := by
      have : (m : Int) ≠ 9223372036854775808 := by omega
      simpa using this
    clear hC
    go_enter Tryz.func72, Tryz.ntmps72
    go_wp2_with fail
    refine (log10Pow2 y (by omega) (by omega) _).mono ?_
    rintro e w0 ⟨rfl, hw⟩
    have hw' := hw.symm
    subst hw'
    clear hw
    go_wp2_with fail
    refine (log2Pow10 p (by omega) (by omega) _).mono ?_
    rintro e w1 ⟨rfl, hw⟩
    have hw' := hw.symm
    subst hw'
    clear hw
    go_wp2_with fail
    refine (prescale p ee (Fl.lp p) (by omega) (by omega) (by omega) (by omega) (by omega) (by omega) W hT.out).mono ?_
    rintro e w2 ⟨rfl, hw2⟩
    rw [show -(ee + Fl.lp p + 3) = (s : Int) by omega] at hw2
    have HP2 : Hid (Pre w2 W.heap.size p s) := Lib.hid (by rw [hw2]; exact pre_new W p s)
    have HB2 : Hid (Below W.heap.size W w2) := Lib.hid (by rw [hw2]; exact (Below.refl _ _).alloc (Nat.le_refl _) _)
    clear hw2
    go_wp2_with fail
    refine (uscale_pre mn s p _ _ (by omega) (by omega) (by omega) (by omega) HP2.out).mono ?_
    rintro e w3 ⟨rfl, hb⟩
    have HP3 := Lib.hid (HP2.out.below hb)
    have HB3 := Lib.hid (HB2.out.trans (hb.mono HB2.out.size))
    clear hb
    generalize humn : Fl.uscaleN mn (Fl.hi p) (Fl.lo p) s = umn at *
    go_wp2_with fail
    refine (nudge_up umn odd (by omega) (by omega) _).mono ?_
    rintro e w4 ⟨rfl, rfl⟩
    go_wp2_with fail
    refine (ceil (umn + odd) (by omega) _).mono ?_
    rintro e w5 ⟨rfl, rfl⟩
    have bmin : (umn + odd + 3) / 4 < 4611686018427387904 := by omega
    generalize (umn + odd + 3) / 4 = dmin at *
    go_wp2_with fail
    refine (uscale_pre mx s p _ _ (by omega) (by omega) (by omega) (by omega) HP3.out).mono ?_
    rintro e w6 ⟨rfl, hb⟩
    have HP6 := Lib.hid (HP3.out.below hb)
    have HB6 := Lib.hid (HB3.out.trans (hb.mono HB3.out.size))
    clear hb
    generalize humx : Fl.uscaleN mx (Fl.hi p) (Fl.lo p) s = umx at *
    go_wp2_with fail
    refine (nudge_down umx odd (by omega) (by omega) (by omega) _).mono ?_
    rintro e w7 ⟨rfl, rfl⟩
    go_wp2_with fail
    refine (floor (umx - odd) (by omega) _).mono ?_
    rintro e w8 ⟨rfl, rfl⟩
    have bmax : (umx - odd) / 4 < 4611686018427387904 := by omega
    generalize (umx - odd) / 4 = dmax at *
    clear HP2 HB2 HP3 HB3 humn humx
    by_cases q1 : dmin ≤ dmax / 10 * 10
    · rw [if_pos q1] at HR
      go_wp2
      go_ret2
      exact ⟨dmax / 10, 1 - p, by rw [show -(p - 1) = 1 - p by omega]; rfl, HB6.out, HR.out.1, HR.out.2.1, HR.out.2.2.1, by omega⟩
    · rw [if_neg q1] at HR
      by_cases q2 : dmin < dmax
      · rw [if_pos q2] at HR
        go_wp2_with fail
        refine (uscale_pre m s p _ _ (by omega) (by omega) (by omega) (by omega) HP6.out).mono ?_
        rintro e w9 ⟨rfl, hb⟩
        have HB9 := Lib.hid (HB6.out.trans (hb.mono HB6.out.size))
        clear hb
        generalize hum : Fl.uscaleN m (Fl.hi p) (Fl.lo p) s = um at *
        go_wp2_with fail
        refine (round um (by omega) _).mono ?_
        rintro e wa ⟨rfl, rfl⟩
        go_wp2
        go_ret2
        exact ⟨Fl.roundN um, -p, rfl, HB9.out, HR.out.1, HR.out.2.1, HR.out.2.2.1, by omega⟩
      · rw [if_neg q2] at HR
        go_wp2
        go_ret2
        exact ⟨dmin, -p, rfl, HB6.out, HR.out.1, HR.out.2.1, HR.out.2.2.1, by omega⟩
  · have hC3 : ee ≤ -1085 := by omega
    clear hC2 e9
    have hCb : ((m : Int) == 9223372036854775808) = true := by
      have : (m : Int) = 9223372036854775808 := by omega
      simpa using this
    clear hC
    go_enter Tryz.func72, Tryz.ntmps72
    go_wp2_with fail
    refine (log10Pow2 y (by omega) (by omega) _).mono ?_
    rintro e w0 ⟨rfl, hw⟩
    have hw' := hw.symm
    subst hw'
    clear hw
    go_wp2_with fail
    refine (log2Pow10 p (by omega) (by omega) _).mono ?_
    rintro e w1 ⟨rfl, hw⟩
    have hw' := hw.symm
    subst hw'
    clear hw
    go_wp2_with fail
    refine (prescale p ee (Fl.lp p) (by omega) (by omega) (by omega) (by omega) (by omega) (by omega) W hT.out).mono ?_
    rintro e w2 ⟨rfl, hw2⟩
    rw [show -(ee + Fl.lp p + 3) = (s : Int) by omega] at hw2
    have HP2 : Hid (Pre w2 W.heap.size p s) := Lib.hid (by rw [hw2]; exact pre_new W p s)
    have HB2 : Hid (Below W.heap.size W w2) := Lib.hid (by rw [hw2]; exact (Below.refl _ _).alloc (Nat.le_refl _) _)
    clear hw2
    go_wp2_with fail
    refine (uscale_pre mn s p _ _ (by omega) (by omega) (by omega) (by omega) HP2.out).mono ?_
    rintro e w3 ⟨rfl, hb⟩
    have HP3 := Lib.hid (HP2.out.below hb)
    have HB3 := Lib.hid (HB2.out.trans (hb.mono HB2.out.size))
    clear hb
    generalize humn : Fl.uscaleN mn (Fl.hi p) (Fl.lo p) s = umn at *
    go_wp2_with fail
    refine (nudge_up umn odd (by omega) (by omega) _).mono ?_
    rintro e w4 ⟨rfl, rfl⟩
    go_wp2_with fail
    refine (ceil (umn + odd) (by omega) _).mono ?_
    rintro e w5 ⟨rfl, rfl⟩
    have bmin : (umn + odd + 3) / 4 < 4611686018427387904 := by omega
    generalize (umn + odd + 3) / 4 = dmin at *
    go_wp2_with fail
    refine (uscale_pre mx s p _ _ (by omega) (by omega) (by omega) (by omega) HP3.out).mono ?_
    rintro e w6 ⟨rfl, hb⟩
    have HP6 := Lib.hid (HP3.out.below hb)
    have HB6 := Lib.hid (HB3.out.trans (hb.mono HB3.out.size))
    clear hb
    generalize humx : Fl.uscaleN mx (Fl.hi p) (Fl.lo p) s = umx at *
    go_wp2_with fail
    refine (nudge_down umx odd (by omega) (by omega) (by omega) _).mono ?_
    rintro e w7 ⟨rfl, rfl⟩
    go_wp2_with fail
    refine (floor (umx - odd) (by omega) _).mono ?_
    rintro e w8 ⟨rfl, rfl⟩
    have bmax : (umx - odd) / 4 < 4611686018427387904 := by omega
    generalize (umx - odd) / 4 = dmax at *
    clear HP2 HB2 HP3 HB3 humn humx
    by_cases q1 : dmin ≤ dmax / 10 * 10
    · rw [if_pos q1] at HR
      go_wp2
      go_ret2
      exact ⟨dmax / 10, 1 - p, by rw [show -(p - 1) = 1 - p by omega]; rfl, HB6.out, HR.out.1, HR.out.2.1, HR.out.2.2.1, by omega⟩
    · rw [if_neg q1] at HR
      by_cases q2 : dmin < dmax
      · rw [if_pos q2] at HR
        go_wp2_with fail
        refine (uscale_pre m s p _ _ (by omega) (by omega) (by omega) (by omega) HP6.out).mono ?_
        rintro e w9 ⟨rfl, hb⟩
        have HB9 := Lib.hid (HB6.out.trans (hb.mono HB6.out.size))
        clear hb
        generalize hum : Fl.uscaleN m (Fl.hi p) (Fl.lo p) s = um at *
        go_wp2_with fail
        refine (round um (by omega) _).mono ?_
        rintro e wa ⟨rfl, rfl⟩
        go_wp2
        go_ret2
        exact ⟨Fl.roundN um, -p, rfl, HB9.out, HR.out.1, HR.out.2.1, HR.out.2.2.1, by omega⟩
      · rw [if_neg q2] at HR
        go_wp2
        go_ret2
        exact ⟨dmin, -p, rfl, HB6.out, HR.out.1, HR.out.2.1, HR.out.2.2.1, by omega⟩

set_option maxRecDepth 100000 in
set_option maxHeartbeats 4000000 in
theorem short64_skew (ex M : Nat) (hMe : M = 4503599627370496) (hex0 : 0 < ex) (hex : ex ≤ 2045) (W : World) (hT0 : Tab W) :
    Calls Tryz.prog 72 #[.int .u64 ((M * 2048 : Nat) : Int), .int .i64 ((ex : Int) - 1085)] W (Short64 W ex M (-Fl.skw ((ex : Int) - 1074))) := by
  obtain ⟨y, hy⟩ : ∃ y, y = (ex : Int) - 1074 := ⟨_, rfl⟩
  obtain ⟨p, hp⟩ : ∃ p, p = -Fl.skw y := ⟨_, rfl⟩
  rw [← hy, ← hp]
  obtain ⟨_, ⟨a1, a2, a3, a4, _, _⟩⟩ := Fl.exp_ok y (by omega) (by omega)
  rw [show Fl.skw y = -p by omega, show -(-p) = p by omega] at a1 a2 a3 a4
  obtain ⟨s, hs⟩ : ∃ s : Nat, (s : Int) = 11 - y - Fl.lp p - 3 := ⟨(11 - y - Fl.lp p - 3).toNat, by omega⟩
  have HR := Lib.hid (Fl.short_skew (n := 4503599627370496) (E0 := 1074) (ex := ex) (M := M) (z := 11) (s := s) (r := ex * 4503599627370496 + M) (by decide) (by decide) (by decide) rfl ⟨hMe, hex0⟩ hy (by omega) (by omega) (by decide) (by decide) (by omega) hp (by omega))
  dsimp only at HR
  unfold Short64
  have e1 : M * 2 ^ 11 = M * 2048 := rfl
  rw [e1] at HR
  have e2 : M * 2048 + 2 ^ (11 - 1) = M * 2048 + 1024 := rfl
  have e3 : M * 2048 - 2 ^ (11 - 2) = M * 2048 - 512 := rfl
  rw [e2, e3] at HR
  obtain ⟨m, hm⟩ : ∃ m, m = M * 2048 := ⟨_, rfl⟩
  obtain ⟨mn, hmn⟩ : ∃ mn, mn = m - 512 := ⟨_, rfl⟩
  obtain ⟨mx, hmx⟩ : ∃ mx, mx = m + 1024 := ⟨_, rfl⟩
  obtain ⟨odd, hodd⟩ : ∃ odd, odd = M % 2 := ⟨_, rfl⟩
  have ho := and_one M (by omega)
  rw [← hodd] at ho
  rw [← hm, ← hmn, ← hmx, ← hodd] at HR
  rw [← hm]
  have i1 : (m : Int) - 512 = (mn : Int) := by omega
  have i2 : (m : Int) + 1024 = (mx : Int) := by omega
  have i3 : (m : Int) / 2048 = (M : Int) := by omega
  obtain ⟨ee, hee⟩ : ∃ ee, ee = (ex : Int) - 1085 := ⟨_, rfl⟩
  rw [← hee]
  have i4 : ee + 11 = y := by omega
  have e0 : -1085 < ee := by omega
  have e9 : ee ≤ 960 := by omega
  have i5 : -Fl.skw y = p := hp.symm
  obtain ⟨_, _, th, _, _⟩ := Fl.tab_ok p (by omega) (by omega)
  have up1 := u_pos mx (Fl.hi p) (Fl.lo p) s (by omega) th (by omega)
  have ub : ∀ x : Nat, x < 18446744073709551616 → Fl.uscaleN x (Fl.hi p) (Fl.lo p) s ≤ 576460752303423489 := fun x hx => by
    obtain ⟨_, _, _, t4, _⟩ := Fl.tab_ok p (by omega) (by omega)
    exact u_le x _ _ s hx t4 (by omega)
  have ub1 := ub mn (by omega)
  have ub2 := ub mx (by omega)
  have ub3 := ub m (by omega)
  have bm : m < 18446744073709551616 := by omega
  have bmn : mn < 18446744073709551616 := by omega
  have bmx : mx < 18446744073709551616 := by omega
  have bo : odd ≤ 1 := by omega
  have bs : s ≤ 63 := by omega
  have hT := Lib.hid hT0
  unfold Fl.shortD at HR
  have by0 : -1074 ≤ y := by omega
  have by1 : y ≤ 971 := by omega
  have hCb : ((m : Int) == 9223372036854775808) = true := by
    have : (m : Int) = 9223372036854775808 := by omega
    simpa using this
  clear ub hT0 hMe hex0 hex hm hmn hmx hodd hp hy hee e1 e2 e3 th
  all_goals
    go_enter Tryz.func72, Tryz.ntmps72
    go_wp2_with fail
    refine (skewed y (by omega) (by omega) _).mono ?_
    rintro e w0 ⟨rfl, hw⟩
    have hw' := hw.symm
    subst hw'
    clear hw
    go_wp2_with fail
    refine (log2Pow10 p (by omega) (by omega) _).mono ?_
    rintro e w1 ⟨rfl, hw⟩
    have hw' := hw.symm
    subst hw'
    clear hw
    go_wp2_with fail
    refine (prescale p ee (Fl.lp p) (by omega) (by omega) (by omega) (by omega) (by omega) (by omega) W hT.out).mono ?_
    rintro e w2 ⟨rfl, hw2⟩
    rw [show -(ee + Fl.lp p + 3) = (s : Int) by omega] at hw2
    have HP2 : Hid (Pre w2 W.heap.size p s) := Lib.hid (by rw [hw2]; exact pre_new W p s)
    have HB2 : Hid (Below W.heap.size W w2) := Lib.hid (by rw [hw2]; exact (Below.refl _ _).alloc (Nat.le_refl _) _)
    clear hw2
    go_wp2_with fail
    refine (uscale_pre mn s p _ _ (by omega) (by omega) (by omega) (by omega) HP2.out).mono ?_
    rintro e w3 ⟨rfl, hb⟩
    have HP3 := Lib.hid (HP2.out.below hb)
    have HB3 := Lib.hid (HB2.out.trans (hb.mono HB2.out.size))
    clear hb
    generalize humn : Fl.uscaleN mn (Fl.hi p) (Fl.lo p) s = umn at *
    go_wp2_with fail
    refine (nudge_up umn odd (by omega) (by omega) _).mono ?_
    rintro e w4 ⟨rfl, rfl⟩
    go_wp2_with fail
    refine (ceil (umn + odd) (by omega) _).mono ?_
    rintro e w5 ⟨rfl, rfl⟩
    have bmin : (umn + odd + 3) / 4 < 4611686018427387904 := by omega
    generalize (umn + odd + 3) / 4 = dmin at *
    go_wp2_with fail
    refine (uscale_pre mx s p _ _ (by omega) (by omega) (by omega) (by omega) HP3.out).mono ?_
    rintro e w6 ⟨rfl, hb⟩
    have HP6 := Lib.hid (HP3.out.below hb)
    have HB6 := Lib.hid (HB3.out.trans (hb.mono HB3.out.size))
    clear hb
    generalize humx : Fl.uscaleN mx (Fl.hi p) (Fl.lo p) s = umx at *
    go_wp2_with fail
    refine (nudge_down umx odd (by omega) (by omega) (by omega) _).mono ?_
    rintro e w7 ⟨rfl, rfl⟩
    go_wp2_with fail
    refine (floor (umx - odd) (by omega) _).mono ?_
    rintro e w8 ⟨rfl, rfl⟩
    have bmax : (umx - odd) / 4 < 4611686018427387904 := by omega
    generalize (umx - odd) / 4 = dmax at *
    clear HP2 HB2 HP3 HB3 humn humx
    by_cases q1 : dmin ≤ dmax / 10 * 10
    · rw [if_pos q1] at HR
      go_wp2
      go_ret2
      exact ⟨dmax / 10, 1 - p, by rw [show -(p - 1) = 1 - p by omega]; rfl, HB6.out, HR.out.1, HR.out.2.1, HR.out.2.2.1, by omega⟩
    · rw [if_neg q1] at HR
      by_cases q2 : dmin < dmax
      · rw [if_pos q2] at HR
        go_wp2_with fail
        refine (uscale_pre m s p _ _ (by omega) (by omega) (by omega) (by omega) HP6.out).mono ?_
        rintro e w9 ⟨rfl, hb⟩
        have HB9 := Lib.hid (HB6.out.trans (hb.mono HB6.out.size))
        clear hb
        generalize hum : Fl.uscaleN m (Fl.hi p) (Fl.lo p) s = um at *
        go_wp2_with fail
        refine (round um (by omega) _).mono ?_
        rintro e wa ⟨rfl, rfl⟩
        go_wp2
        go_ret2
        exact ⟨Fl.roundN um, -p, rfl, HB9.out, HR.out.1, HR.out.2.1, HR.out.2.2.1, by omega⟩
      · rw [if_neg q2] at HR
        go_wp2
        go_ret2
        exact ⟨dmin, -p, rfl, HB6.out, HR.out.1, HR.out.2.1, HR.out.2.2.1, by omega⟩
end Go.Proofs.YtbbjjkcjpdmjnaaGreatDoor
