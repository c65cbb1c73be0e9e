/- Walks of the law FnBack: ftoa64 and ftoa32 at finite floats, shortest text by 'f'. -/
import Derived.Test.YtbbjjkcjpdmjnaaGreatDoorZh
import Derived.Test.YtbbjjkcjpdmjnaaGreatDoorZf
import Derived.Test.YtbbjjkcjpdmjnaaGreatDoorC
import Derived.Deep.QuietTactic
import Derived.BigQuiet
import Derived.Deep.RegionHeld3
namespace Go.Proofs.YtbbjjkcjpdmjnaaGreatDoor
open Go.RowKit
open Go.Lib (decDigits nDigits)

/-- The text appended, whatever its shape. -/
theorem fmt_any (neg : Bool) (B n u g : Nat) (dp pr : Int) (sv : Value) (xs : List Value) (w : World) (hown : w.ownsRow B 5 1 sv n xs) (hB : B ≤ w.heap.size) (hn : n ≤ 100000000) (hD : Digs w g (decDigits u)) (h17 : nDigits u ≤ 17) (hdp0 : -400 ≤ dp) (hdp1 : dp ≤ 400) (hpr : pr = max ((nDigits u : Int) - dp) 0) :
    Calls Tryz.prog 63 #[sv, .bool neg, .slice (some ⟨g, 0, none⟩) 32 32, .int .i64 dp, .int .i64 (nDigits u), .int .i64 pr, .int .u8 102, .bool true] w (App B n xs (sgn neg (Fl.txt u dp)) w) := by
  by_cases h0 : 0 < dp
  · by_cases h1 : (nDigits u : Int) ≤ dp
    · have e : pr = 0 := by omega
      subst e
      cases neg
      · exact fmt_A_plus B n u g dp sv xs w hown hB hn hD h17 h0 h1 hdp1
      · exact fmt_A_minus B n u g dp sv xs w hown hB hn hD h17 h0 h1 hdp1
    · have e : pr = (nDigits u : Int) - dp := by omega
      subst e
      cases neg
      · exact fmt_B_plus B n u g dp sv xs w hown hB hn hD h17 h0 (by omega)
      · exact fmt_B_minus B n u g dp sv xs w hown hB hn hD h17 h0 (by omega)
  · have e : pr = (nDigits u : Int) - dp := by omega
    subst e
    cases neg
    · exact fmt_C_plus B n u g dp sv xs w hown hB hn hD h17 (by omega) hdp0
    · exact fmt_C_minus B n u g dp sv xs w hown hB hn hD h17 (by omega) hdp0

set_option maxRecDepth 100000 in
/-- The text of zero. -/
theorem fmt_zero (B n : Nat) (sv : Value) (xs : List Value) (w : World) (hown : w.ownsRow B 5 1 sv n xs) (hB : B ≤ w.heap.size) (hn : n ≤ 100000000) :
    Calls Tryz.prog 63 #[sv, .bool false, .slice none 0 0, .int .i64 0, .int .i64 0, .int .i64 (-1), .int .u8 102, .bool true] w (App B n xs [48] w) := by
  have HS0 := Lib.hid (St.start hown hB)
  have HT : Hid (∀ v' w', St w B n xs w' v' [48] → App B n xs [48] w (.returned v') w') := Lib.hid (fun v' w' h => ⟨v', rfl, h⟩)
  clear hown hB
  go_enter Tryz.func63, Tryz.ntmps63
  go_wp2_with (at_builtin; refine wpList_app1 rfl _ _ rfl HS0.out 48 rfl rfl rfl (by simp; omega) ?_)
  intro v1 w1 hst
  have HF := Lib.hid (HT.out _ _ hst)
  clear hst HS0 HT
  go_wp2
  go_ret
  exact HF.out

/-- The table of the powers of ten, as numDigits reads it. -/
abbrev Tens (w : World) : Prop := Lib.TabIs Tryz.prog w "internal/strconv.uint64pow10" .u64 Lib.pow10Tab

theorem and_low_i64 (x : Int) (i : Nat) (hi : i ≤ 40) (h0 : 0 ≤ x) (h1 : x < 2 ^ 40) : bits .and .i64 x (2 ^ i - 1) = x % 2 ^ i :=
  bits_mask .i64 40 (by decide) (fun n h0 h1 => by rw [IntKind.wrap_i64]; have : (2 : Int) ^ 40 = 1099511627776 := rfl; omega) i hi x h0 h1
theorem and_low_u64 (x i : Nat) (hi : i ≤ 63) (h1 : x < 18446744073709551616) : bits .and .u64 (x : Int) ((2 ^ i - 1 : Nat) : Int) = ((x % 2 ^ i : Nat) : Int) := by
  have h2 : 2 ^ i ≤ 2 ^ 63 := Nat.pow_le_pow_right (by decide) hi
  have h3 : (2 : Nat) ^ 63 = 9223372036854775808 := rfl
  rw [u64_and_nat x (2 ^ i - 1) h1 (by omega), Nat.and_two_pow_sub_one_eq_mod]

theorem len_facts (M : Nat) (h0 : 1 ≤ M) (h1 : M < 9007199254740992) : ∃ ln z : Nat, (∀ W, Calls Tryz.prog 64 #[.int .u64 (M : Int)] W fun e w' => e = .returned (.int .i64 ln) ∧ w' = W) ∧ 64 - (ln : Int) = z ∧ z ≤ 63 ∧ ln ≤ 64 ∧ 9223372036854775808 ≤ M * 2 ^ z ∧ M < 2 ^ (64 - z) := by
  obtain ⟨b0, b1, b2⟩ := Lib.bitLenAux_bounds 64 M (by omega) (by omega)
  change 1 ≤ Lib.bitLen M at b0
  change 2 ^ (Lib.bitLen M - 1) ≤ M at b1
  change M < 2 ^ Lib.bitLen M at b2
  have b64 : Lib.bitLen M ≤ 64 := by
    rcases Nat.lt_or_ge 64 (Lib.bitLen M) with h | h
    · exfalso
      have : 2 ^ 64 ≤ 2 ^ (Lib.bitLen M - 1) := Nat.pow_le_pow_right (by decide) (by omega)
      have h64 : 2 ^ 64 = 18446744073709551616 := rfl
      omega
    · exact h
  refine ⟨Lib.bitLen M, 64 - Lib.bitLen M, fun W => ?_, by omega, by omega, b64, ?_, ?_⟩
  · have := Tryz.bits_Len64 (M : Int) W (by omega) (by omega)
    rw [Int.toNat_natCast] at this
    exact this
  · have h := Nat.mul_le_mul_right (2 ^ (64 - Lib.bitLen M)) b1
    rw [← Nat.pow_add, show Lib.bitLen M - 1 + (64 - Lib.bitLen M) = 63 by omega] at h
    exact h
  · rw [show 64 - (64 - Lib.bitLen M) = Lib.bitLen M by omega]; exact b2

theorem tens_below {w w' : World} (h : Tens w) (hb : Below w.heap.size w w') : Tens w' := by
  unfold Tens Lib.TabIs World.var? at *
  cases hg : Tryz.prog.globalNamed "internal/strconv.uint64pow10" with
  | none => simp [hg] at h
  | some g =>
    simp only [hg, Option.bind_some] at h ⊢
    have hlt : g < w.heap.size := by
      rcases Nat.lt_or_ge g w.heap.size with h' | h'
      · exact h'
      · rw [Array.getElem?_eq_none h'] at h; simp at h
    rw [hb.block g hlt]
    exact h

theorem tab_below {w w' : World} (h : Tab w) (hb : Below w.heap.size w w') : Tab w' := fun p h0 h1 => by
  obtain ⟨a, b⟩ := h p h0 h1
  exact ⟨(hb.cell (p := ⟨5, _, none⟩) (Lib.lt_of_cell a)).trans a, (hb.cell (p := ⟨5, _, none⟩) (Lib.lt_of_cell b)).trans b⟩

abbrev zeros32 : Array Value := #[Value.int .u8 0, Value.int .u8 0, Value.int .u8 0, Value.int .u8 0, Value.int .u8 0, Value.int .u8 0, Value.int .u8 0, Value.int .u8 0, Value.int .u8 0, Value.int .u8 0, Value.int .u8 0, Value.int .u8 0, Value.int .u8 0, Value.int .u8 0, Value.int .u8 0, Value.int .u8 0, Value.int .u8 0, Value.int .u8 0, Value.int .u8 0, Value.int .u8 0, Value.int .u8 0, Value.int .u8 0, Value.int .u8 0, Value.int .u8 0, Value.int .u8 0, Value.int .u8 0, Value.int .u8 0, Value.int .u8 0, Value.int .u8 0, Value.int .u8 0, Value.int .u8 0, Value.int .u8 0]
theorem zeros32_holds (w : World) (g nd : Nat) (h : w.heap[g]? = some (.cells zeros32 104 (0, 0))) (hn : nd ≤ 32) : Sort.Holds encB w g 0 (Array.replicate nd (0 : UInt8)) := fun j hj => by
  have hj' : j < nd := by simpa using hj
  have e : zeros32 = Array.replicate 32 (.int .u8 0) := rfl
  refine ⟨?_, by simp [World.frozen?, h]⟩
  rw [cell_of_row _ _ _ _ _ _ h, e, Array.getElem?_replicate, if_pos (by omega), getElem!_pos _ j hj]
  simp

theorem own_below {w w' : World} {B n : Nat} {sv : Value} {xs : List Value} (h : w.ownsRow B 5 1 sv n xs) (hb : Below w.heap.size w w') : w'.ownsRow B 5 1 sv n xs :=
  h.kept (row := none) ⟨hb.os, hb.tape, hb.output, hb.size, fun i hi _ => hb.block i hi⟩ (by cases sv.ownBlock <;> simp)

theorem St.rebase {w w3 : World} {B n : Nat} {xs : List Value} {wr : World} {v : Value} {l : List UInt8} (h : St w3 B n xs wr v l) (hb : Below w.heap.size w w3) (hB : B ≤ w.heap.size) : St w B n xs wr v l :=
  ⟨h.own, (hb.mono hB).trans h.below, ((Lib.OthersKept.refl 5 none w).below hb).trans h.kept, h.base⟩

/-- A float's text. -/
def IsText64 (neg : Bool) (r : Nat) (l : List UInt8) : Prop :=
  (r = 0 ∧ neg = false ∧ l = [48]) ∨ (1 ≤ r ∧ ∃ l0 d q D P, l = sgn neg l0 ∧ Fl.Reads l0 d q D P ∧ -325 ≤ q ∧ q ≤ 293 ∧ Fl.Near 4503599627370496 r (Fl.decA 1074 d q) (Fl.decB q))
def IsText32 (neg : Bool) (r : Nat) (l : List UInt8) : Prop :=
  (r = 0 ∧ neg = false ∧ l = [48]) ∨ (1 ≤ r ∧ ∃ l0 d q D P, l = sgn neg l0 ∧ Fl.Reads l0 d q D P ∧ -46 ≤ q ∧ q ≤ 33 ∧ Fl.Near 8388608 r (Fl.decA 149 d q) (Fl.decB q))

/-- A text of some kind appended. -/
def AppT (T : List UInt8 → Prop) (B n : Nat) (xs : List Value) (w : World) (e : Ending) (w' : World) : Prop := ∃ l, T l ∧ App B n xs l w e w'

set_option maxRecDepth 100000 in
set_option maxHeartbeats 4000000 in
theorem ftoa64_norm (b : Nat) (bi ea E F M : Int) (neg : Bool) (hbi : (b : Int) = bi) (h0 : 0 ≤ bi) (h1 : bi < 18446744073709551616) (e1 : (bi / 9223372036854775808 != 0) = neg) (e2 : bi / 4503599627370496 = ea) (ea0 : 0 ≤ ea) (ea1 : ea ≤ 4095)
    (e3 : bits .and .i64 ea 2047 = E) (E0 : 1 ≤ E) (E1 : E ≤ 2046) (e5 : bits .or .u64 F 4503599627370496 = M) (e4 : bits .and .u64 bi 4503599627370495 = F) (F0 : 0 ≤ F) (F1 : F < 4503599627370496)
    (M0 : 1 ≤ M) (M1 : M < 9007199254740992) (ln z : Nat) (HL : Hid (∀ W, Calls Tryz.prog 64 #[.int .u64 M] W fun e w' => e = .returned (.int .i64 ln) ∧ w' = W)) (hln : ln ≤ 64) (hz : 64 - (ln : Int) = z) (hz1 : z ≤ 63)
    (T : List UInt8 → Prop)
    (H72 : Hid (∀ W, Tab W → Calls Tryz.prog 72 #[.int .u64 (IntKind.u64.wrap (M * 2 ^ z)), .int .i64 (E + -1023 - (z : Int) - 52)] W fun e w' => ∃ (d : Nat) (q : Int), e = .returned (.tuple #[.int .u64 d, .int .i64 q]) ∧ Below W.heap.size W w' ∧ 1 ≤ d ∧ d < 100000000000000000 ∧ -325 ≤ q ∧ q ≤ 293 ∧ ∀ u t : Nat, 1 ≤ u → d = u * 10 ^ t → T (sgn neg (Fl.txt u ((nDigits d : Nat) + q)))))
    (B n : Nat) (sv : Value) (xs : List Value) (w : World) (hown : w.ownsRow B 5 1 sv n xs) (hB : B ≤ w.heap.size) (hn : n ≤ 100000000) (hT : Tab w) (hP : Tens w) :
    Calls Tryz.prog 49 #[sv, .float .f64 b, .int .u8 102, .int .i64 (-1)] w (AppT T B n xs w) := by
  have HOWN := Lib.hid hown
  have HT := Lib.hid hT
  have HP := Lib.hid hP
  have HB := Lib.hid hB
  clear hown hT hP hB
  go_enter Tryz.func49, Tryz.ntmps49
  go_wp2
  refine wp_region_quiet_lit (by kernel_rfl) (by kernel_rfl) ?_
  go_big_quiet_step (fail)
  go_big_quiet_step (fail)
  go_big_quiet_step (fail)
  go_big_quiet_step (fail)
  go_big_quiet_step (fail)
  go_big_quiet_step (fail)
  go_big_quiet_step (fail)
  go_big_quiet_step (fail)
  go_big_quiet_step (fail)
  refine wpQuiet_nil ?_
  intro _ hw'
  obtain ⟨nq, hw''⟩ := hw'
  subst hw''
  simp only [Exit.then]
  go_step
  clear h1 e1
  go_wp2_with fail
  refine (HL.out _).mono ?_
  rintro e w1 ⟨rfl, hw⟩
  have hw' := hw.symm
  subst hw'
  clear hw
  go_wp2_with fail
  have hb0 : Below w.heap.size w ((w.drewN nq).alloc (.cells zeros32 104)) := (below_drewN (Below.refl _ _) nq).alloc (Nat.le_refl _) _
  refine (H72.out _ (tab_below HT.out hb0)).mono ?_
  rintro e w2 ⟨d, q, rfl, hb, hd1, hd, hq0, hq1, htx⟩
  have hsz : w.heap.size < w2.heap.size := by have := hb.size; simp at this; omega
  have hz2 : w2.heap[w.heap.size]? = some (.cells zeros32 104 (0, 0)) := (hb.block w.heap.size (by simp)).trans (heap_alloc_new (w.drewN nq) _)
  have hbw : Below w.heap.size w w2 := hb0.trans (hb.mono (by simp))
  have HBW := Lib.hid hbw
  have HZ2 := Lib.hid hz2
  have HTX := Lib.hid htx
  have HP2 := Lib.hid (tens_below HP.out hbw)
  clear hb hz2 hbw htx hb0 HL H72 HP HT
  obtain ⟨u, t, hut, hu10, hu1⟩ := Fl.strip_zeros d hd1
  obtain ⟨nd, hnd⟩ : ∃ nd, nd = nDigits d := ⟨_, rfl⟩
  have hnd17 : nd ≤ 17 := by rw [hnd]; exact Fl.ndig_le d 17 (by decide) hd
  have hnu17 : nDigits u ≤ 17 := by
    refine Fl.ndig_le u 17 (by decide) ?_
    have hp : 1 ≤ 10 ^ t := Nat.one_le_pow _ _ (by decide)
    have := Nat.mul_le_mul_left u hp
    have e : (10 : Nat) ^ 17 = 100000000000000000 := rfl
    omega
  have HSD := fun W (h : W.heap[w.heap.size]? = some (.cells zeros32 104 (0, 0))) => Lib.hid (setDigits w.heap.size d u t nd q W hu1 hu10 hut hd hnd (by omega) (by omega) (zeros32_holds W w.heap.size nd h (by omega)) ⟨_, h⟩)
  have HND := fun W (h : Tens W) => Lib.hid (Tryz.internal_strconv_numDigits d hd1 (by omega) W h)
  rw [← hnd] at HND
  have HX := Lib.hid (HTX.out u t hu1 hut)
  rw [← hnd] at HX
  have HSD' := Lib.hid HSD
  have HND' := Lib.hid HND
  clear HSD HND hut hnd HTX hu10
  obtain ⟨nu, hnu⟩ : ∃ nu, nu = nDigits u := ⟨_, rfl⟩
  rw [← hnu] at hnu17 HSD'
  have HNU := Lib.hid hnu
  obtain ⟨di, hdi⟩ : ∃ di : Int, (d : Int) = di := ⟨_, rfl⟩
  rw [hdi] at HSD' HND' ⊢
  have HDI := Lib.hid hdi
  have hd0i : 1 ≤ di := by omega
  clear hnu hdi hd hd1
  go_wp2_with fail
  obtain ⟨dpv, hdpv⟩ : ∃ dpv : Int, (nd : Int) + q = dpv := ⟨_, rfl⟩
  obtain ⟨prv, hprv⟩ : ∃ prv : Int, max ((nu : Int) - dpv) 0 = prv := ⟨_, rfl⟩
  have H56 : Hid (Calls Tryz.prog 56 #[.int .u64 di] w2.drew fun e w' => e = .returned (.int .i64 nd) ∧ w' = w2.drew) := Lib.hid ((HND'.out w2.drew HP2.out).out)
  have H66 : Hid (Calls Tryz.prog 66 #[.slice (some ⟨w.heap.size, 0, none⟩) 32 32, .int .u64 di, .int .i64 q, .int .i64 nd] w2.drew fun e w' => e = .returned (.tuple #[.int .i64 dpv, .int .i64 nu]) ∧ Digs w' w.heap.size (decDigits u) ∧ w2.drew.grownBy w' (some w.heap.size)) := Lib.hid (by have h := (HSD'.out w2.drew HZ2.out).out; rw [hdpv] at h; exact h)
  rw [hdpv] at HX
  have hdp0 : -400 ≤ dpv := by omega
  have hdp1 : dpv ≤ 400 := by omega
  have hnu30 : nu ≤ 17 := hnu17
  clear HND' HSD' hdpv
  go_region_held3 (fun _ => True) (exact trivial) (first | (go_at_call 56; refine H56.out.mono ?_; rintro e w3 ⟨rfl, rfl⟩) | (go_at_call 66; refine H66.out.mono ?_; rintro e w3 ⟨rfl, hdg, hgr⟩))
  have hbw3 : Below w.heap.size w w3 := (HBW.out.drew).grown hgr (by simp; omega) (fun k hk => by injection hk with hk; omega)
  have H63 := Lib.hid (fmt_any neg B n u w.heap.size dpv prv sv xs w3 (own_below HOWN.out hbw3) (Nat.le_trans HB.out hbw3.size) hn hdg (by rw [← HNU.out]; exact hnu17) hdp0 hdp1 (by rw [← HNU.out, hprv]))
  rw [← HNU.out] at H63
  have HBW3 := Lib.hid hbw3
  clear hdg hgr hbw3 H56 H66
  simp only [Exit.then]
  go_step
  go_wp2_with fail
  refine H63.out.mono ?_
  rintro e w4 ⟨v4, rfl, hst⟩
  have HF : Hid (AppT T B n xs w (.returned v4) w4) := Lib.hid ⟨_, HX.out, v4, rfl, hst.rebase HBW3.out HB.out⟩
  clear hst
  go_wp2_with fail
  go_ret
  exact HF.out


set_option maxRecDepth 100000 in
set_option maxHeartbeats 4000000 in
theorem ftoa64_sub (b : Nat) (bi ea E F M : Int) (neg : Bool) (hbi : (b : Int) = bi) (h0 : 0 ≤ bi) (h1 : bi < 18446744073709551616) (e1 : (bi / 9223372036854775808 != 0) = neg) (e2 : bi / 4503599627370496 = ea) (ea0 : 0 ≤ ea) (ea1 : ea ≤ 4095)
    (e3 : bits .and .i64 ea 2047 = E) (hE : E = 0) (hMF : F = M) (e4 : bits .and .u64 bi 4503599627370495 = F) (F0 : 0 ≤ F) (F1 : F < 4503599627370496)
    (M0 : 1 ≤ M) (M1 : M < 9007199254740992) (ln z : Nat) (HL : Hid (∀ W, Calls Tryz.prog 64 #[.int .u64 M] W fun e w' => e = .returned (.int .i64 ln) ∧ w' = W)) (hln : ln ≤ 64) (hz : 64 - (ln : Int) = z) (hz1 : z ≤ 63)
    (T : List UInt8 → Prop)
    (H72 : Hid (∀ W, Tab W → Calls Tryz.prog 72 #[.int .u64 (IntKind.u64.wrap (M * 2 ^ z)), .int .i64 (-1022 - (z : Int) - 52)] W fun e w' => ∃ (d : Nat) (q : Int), e = .returned (.tuple #[.int .u64 d, .int .i64 q]) ∧ Below W.heap.size W w' ∧ 1 ≤ d ∧ d < 100000000000000000 ∧ -325 ≤ q ∧ q ≤ 293 ∧ ∀ u t : Nat, 1 ≤ u → d = u * 10 ^ t → T (sgn neg (Fl.txt u ((nDigits d : Nat) + q)))))
    (B n : Nat) (sv : Value) (xs : List Value) (w : World) (hown : w.ownsRow B 5 1 sv n xs) (hB : B ≤ w.heap.size) (hn : n ≤ 100000000) (hT : Tab w) (hP : Tens w) :
    Calls Tryz.prog 49 #[sv, .float .f64 b, .int .u8 102, .int .i64 (-1)] w (AppT T B n xs w) := by
  have HOWN := Lib.hid hown
  have HT := Lib.hid hT
  have HP := Lib.hid hP
  have HB := Lib.hid hB
  clear hown hT hP hB
  go_enter Tryz.func49, Tryz.ntmps49
  go_wp2
  refine wp_region_quiet_lit (by kernel_rfl) (by kernel_rfl) ?_
  go_big_quiet_step (fail)
  go_big_quiet_step (fail)
  go_big_quiet_step (fail)
  go_big_quiet_step (fail)
  go_big_quiet_step (fail)
  go_big_quiet_step (fail)
  go_big_quiet_step (fail)
  go_big_quiet_step (fail)
  go_big_quiet_step (fail)
  refine wpQuiet_nil ?_
  intro _ hw'
  obtain ⟨nq, hw''⟩ := hw'
  subst hw''
  simp only [Exit.then]
  go_step
  clear h1 e1
  go_wp2_with fail
  refine (HL.out _).mono ?_
  rintro e w1 ⟨rfl, hw⟩
  have hw' := hw.symm
  subst hw'
  clear hw
  go_wp2_with fail
  have hb0 : Below w.heap.size w ((w.drewN nq).alloc (.cells zeros32 104)) := (below_drewN (Below.refl _ _) nq).alloc (Nat.le_refl _) _
  refine (H72.out _ (tab_below HT.out hb0)).mono ?_
  rintro e w2 ⟨d, q, rfl, hb, hd1, hd, hq0, hq1, htx⟩
  have hsz : w.heap.size < w2.heap.size := by have := hb.size; simp at this; omega
  have hz2 : w2.heap[w.heap.size]? = some (.cells zeros32 104 (0, 0)) := (hb.block w.heap.size (by simp)).trans (heap_alloc_new (w.drewN nq) _)
  have hbw : Below w.heap.size w w2 := hb0.trans (hb.mono (by simp))
  have HBW := Lib.hid hbw
  have HZ2 := Lib.hid hz2
  have HTX := Lib.hid htx
  have HP2 := Lib.hid (tens_below HP.out hbw)
  clear hb hz2 hbw htx hb0 HL H72 HP HT
  obtain ⟨u, t, hut, hu10, hu1⟩ := Fl.strip_zeros d hd1
  obtain ⟨nd, hnd⟩ : ∃ nd, nd = nDigits d := ⟨_, rfl⟩
  have hnd17 : nd ≤ 17 := by rw [hnd]; exact Fl.ndig_le d 17 (by decide) hd
  have hnu17 : nDigits u ≤ 17 := by
    refine Fl.ndig_le u 17 (by decide) ?_
    have hp : 1 ≤ 10 ^ t := Nat.one_le_pow _ _ (by decide)
    have := Nat.mul_le_mul_left u hp
    have e : (10 : Nat) ^ 17 = 100000000000000000 := rfl
    omega
  have HSD := fun W (h : W.heap[w.heap.size]? = some (.cells zeros32 104 (0, 0))) => Lib.hid (setDigits w.heap.size d u t nd q W hu1 hu10 hut hd hnd (by omega) (by omega) (zeros32_holds W w.heap.size nd h (by omega)) ⟨_, h⟩)
  have HND := fun W (h : Tens W) => Lib.hid (Tryz.internal_strconv_numDigits d hd1 (by omega) W h)
  rw [← hnd] at HND
  have HX := Lib.hid (HTX.out u t hu1 hut)
  rw [← hnd] at HX
  have HSD' := Lib.hid HSD
  have HND' := Lib.hid HND
  clear HSD HND hut hnd HTX hu10
  obtain ⟨nu, hnu⟩ : ∃ nu, nu = nDigits u := ⟨_, rfl⟩
  rw [← hnu] at hnu17 HSD'
  have HNU := Lib.hid hnu
  obtain ⟨di, hdi⟩ : ∃ di : Int, (d : Int) = di := ⟨_, rfl⟩
  rw [hdi] at HSD' HND' ⊢
  have HDI := Lib.hid hdi
  have hd0i : 1 ≤ di := by omega
  clear hnu hdi hd hd1
  go_wp2_with fail
  obtain ⟨dpv, hdpv⟩ : ∃ dpv : Int, (nd : Int) + q = dpv := ⟨_, rfl⟩
  obtain ⟨prv, hprv⟩ : ∃ prv : Int, max ((nu : Int) - dpv) 0 = prv := ⟨_, rfl⟩
  have H56 : Hid (Calls Tryz.prog 56 #[.int .u64 di] w2.drew fun e w' => e = .returned (.int .i64 nd) ∧ w' = w2.drew) := Lib.hid ((HND'.out w2.drew HP2.out).out)
  have H66 : Hid (Calls Tryz.prog 66 #[.slice (some ⟨w.heap.size, 0, none⟩) 32 32, .int .u64 di, .int .i64 q, .int .i64 nd] w2.drew fun e w' => e = .returned (.tuple #[.int .i64 dpv, .int .i64 nu]) ∧ Digs w' w.heap.size (decDigits u) ∧ w2.drew.grownBy w' (some w.heap.size)) := Lib.hid (by have h := (HSD'.out w2.drew HZ2.out).out; rw [hdpv] at h; exact h)
  rw [hdpv] at HX
  have hdp0 : -400 ≤ dpv := by omega
  have hdp1 : dpv ≤ 400 := by omega
  have hnu30 : nu ≤ 17 := hnu17
  clear HND' HSD' hdpv
  go_region_held3 (fun _ => True) (exact trivial) (first | (go_at_call 56; refine H56.out.mono ?_; rintro e w3 ⟨rfl, rfl⟩) | (go_at_call 66; refine H66.out.mono ?_; rintro e w3 ⟨rfl, hdg, hgr⟩))
  have hbw3 : Below w.heap.size w w3 := (HBW.out.drew).grown hgr (by simp; omega) (fun k hk => by injection hk with hk; omega)
  have H63 := Lib.hid (fmt_any neg B n u w.heap.size dpv prv sv xs w3 (own_below HOWN.out hbw3) (Nat.le_trans HB.out hbw3.size) hn hdg (by rw [← HNU.out]; exact hnu17) hdp0 hdp1 (by rw [← HNU.out, hprv]))
  rw [← HNU.out] at H63
  have HBW3 := Lib.hid hbw3
  clear hdg hgr hbw3 H56 H66
  simp only [Exit.then]
  go_step
  go_wp2_with fail
  refine H63.out.mono ?_
  rintro e w4 ⟨v4, rfl, hst⟩
  have HF : Hid (AppT T B n xs w (.returned v4) w4) := Lib.hid ⟨_, HX.out, v4, rfl, hst.rebase HBW3.out HB.out⟩
  clear hst
  go_wp2_with fail
  go_ret
  exact HF.out


set_option maxRecDepth 100000 in
set_option maxHeartbeats 4000000 in
theorem ftoa32_norm (b : Nat) (bi ea E F M : Int) (neg : Bool) (hbi : (b : Int) = bi) (h0 : 0 ≤ bi) (h1 : bi < 4294967296) (e1 : (bi / 2147483648 != 0) = neg) (e2 : bi / 8388608 = ea) (ea0 : 0 ≤ ea) (ea1 : ea ≤ 511)
    (e3 : bits .and .i64 ea 255 = E) (E0 : 1 ≤ E) (E1 : E ≤ 254) (e5 : bits .or .u64 F 8388608 = M) (e4 : bits .and .u64 bi 8388607 = F) (F0 : 0 ≤ F) (F1 : F < 8388608)
    (M0 : 1 ≤ M) (M1 : M < 16777216) (ln z : Nat) (HL : Hid (∀ W, Calls Tryz.prog 64 #[.int .u64 M] W fun e w' => e = .returned (.int .i64 ln) ∧ w' = W)) (hln : ln ≤ 64) (hz : 64 - (ln : Int) = z) (hz1 : z ≤ 63)
    (T : List UInt8 → Prop)
    (H72 : Hid (∀ W, Tab W → Calls Tryz.prog 65 #[.int .u64 (IntKind.u64.wrap (M * 2 ^ z)), .int .i64 (E + -127 - (z : Int) - 23)] W fun e w' => ∃ (d : Nat) (q : Int), e = .returned (.tuple #[.int .u64 d, .int .i64 q]) ∧ Below W.heap.size W w' ∧ 1 ≤ d ∧ d < 100000000000000000 ∧ -325 ≤ q ∧ q ≤ 293 ∧ ∀ u t : Nat, 1 ≤ u → d = u * 10 ^ t → T (sgn neg (Fl.txt u ((nDigits d : Nat) + q)))))
    (B n : Nat) (sv : Value) (xs : List Value) (w : World) (hown : w.ownsRow B 5 1 sv n xs) (hB : B ≤ w.heap.size) (hn : n ≤ 100000000) (hT : Tab w) (hP : Tens w) :
    Calls Tryz.prog 48 #[sv, .float .f32 b, .int .u8 102, .int .i64 (-1)] w (AppT T B n xs w) := by
  have HOWN := Lib.hid hown
  have HT := Lib.hid hT
  have HP := Lib.hid hP
  have HB := Lib.hid hB
  clear hown hT hP hB
  go_enter Tryz.func48, Tryz.ntmps48
  go_wp2
  refine wp_region_quiet_lit (by kernel_rfl) (by kernel_rfl) ?_
  go_big_quiet_step (fail)
  go_big_quiet_step (fail)
  go_big_quiet_step (fail)
  go_big_quiet_step (fail)
  go_big_quiet_step (fail)
  go_big_quiet_step (fail)
  go_big_quiet_step (fail)
  go_big_quiet_step (fail)
  go_big_quiet_step (fail)
  refine wpQuiet_nil ?_
  intro _ hw'
  obtain ⟨nq, hw''⟩ := hw'
  subst hw''
  simp only [Exit.then]
  go_step
  clear h1 e1
  go_wp2_with fail
  refine (HL.out _).mono ?_
  rintro e w1 ⟨rfl, hw⟩
  have hw' := hw.symm
  subst hw'
  clear hw
  go_wp2_with fail
  have hb0 : Below w.heap.size w ((w.drewN nq).alloc (.cells zeros32 104)) := (below_drewN (Below.refl _ _) nq).alloc (Nat.le_refl _) _
  refine (H72.out _ (tab_below HT.out hb0)).mono ?_
  rintro e w2 ⟨d, q, rfl, hb, hd1, hd, hq0, hq1, htx⟩
  have hsz : w.heap.size < w2.heap.size := by have := hb.size; simp at this; omega
  have hz2 : w2.heap[w.heap.size]? = some (.cells zeros32 104 (0, 0)) := (hb.block w.heap.size (by simp)).trans (heap_alloc_new (w.drewN nq) _)
  have hbw : Below w.heap.size w w2 := hb0.trans (hb.mono (by simp))
  have HBW := Lib.hid hbw
  have HZ2 := Lib.hid hz2
  have HTX := Lib.hid htx
  have HP2 := Lib.hid (tens_below HP.out hbw)
  clear hb hz2 hbw htx hb0 HL H72 HP HT
  obtain ⟨u, t, hut, hu10, hu1⟩ := Fl.strip_zeros d hd1
  obtain ⟨nd, hnd⟩ : ∃ nd, nd = nDigits d := ⟨_, rfl⟩
  have hnd17 : nd ≤ 17 := by rw [hnd]; exact Fl.ndig_le d 17 (by decide) hd
  have hnu17 : nDigits u ≤ 17 := by
    refine Fl.ndig_le u 17 (by decide) ?_
    have hp : 1 ≤ 10 ^ t := Nat.one_le_pow _ _ (by decide)
    have := Nat.mul_le_mul_left u hp
    have e : (10 : Nat) ^ 17 = 100000000000000000 := rfl
    omega
  have HSD := fun W (h : W.heap[w.heap.size]? = some (.cells zeros32 104 (0, 0))) => Lib.hid (setDigits w.heap.size d u t nd q W hu1 hu10 hut hd hnd (by omega) (by omega) (zeros32_holds W w.heap.size nd h (by omega)) ⟨_, h⟩)
  have HND := fun W (h : Tens W) => Lib.hid (Tryz.internal_strconv_numDigits d hd1 (by omega) W h)
  rw [← hnd] at HND
  have HX := Lib.hid (HTX.out u t hu1 hut)
  rw [← hnd] at HX
  have HSD' := Lib.hid HSD
  have HND' := Lib.hid HND
  clear HSD HND hut hnd HTX hu10
  obtain ⟨nu, hnu⟩ : ∃ nu, nu = nDigits u := ⟨_, rfl⟩
  rw [← hnu] at hnu17 HSD'
  have HNU := Lib.hid hnu
  obtain ⟨di, hdi⟩ : ∃ di : Int, (d : Int) = di := ⟨_, rfl⟩
  rw [hdi] at HSD' HND' ⊢
  have HDI := Lib.hid hdi
  have hd0i : 1 ≤ di := by omega
  clear hnu hdi hd hd1
  go_wp2_with fail
  obtain ⟨dpv, hdpv⟩ : ∃ dpv : Int, (nd : Int) + q = dpv := ⟨_, rfl⟩
  obtain ⟨prv, hprv⟩ : ∃ prv : Int, max ((nu : Int) - dpv) 0 = prv := ⟨_, rfl⟩
  have H56 : Hid (Calls Tryz.prog 56 #[.int .u64 di] w2.drew fun e w' => e = .returned (.int .i64 nd) ∧ w' = w2.drew) := Lib.hid ((HND'.out w2.drew HP2.out).out)
  have H66 : Hid (Calls Tryz.prog 66 #[.slice (some ⟨w.heap.size, 0, none⟩) 32 32, .int .u64 di, .int .i64 q, .int .i64 nd] w2.drew fun e w' => e = .returned (.tuple #[.int .i64 dpv, .int .i64 nu]) ∧ Digs w' w.heap.size (decDigits u) ∧ w2.drew.grownBy w' (some w.heap.size)) := Lib.hid (by have h := (HSD'.out w2.drew HZ2.out).out; rw [hdpv] at h; exact h)
  rw [hdpv] at HX
  have hdp0 : -400 ≤ dpv := by omega
  have hdp1 : dpv ≤ 400 := by omega
  have hnu30 : nu ≤ 17 := hnu17
  clear HND' HSD' hdpv
  go_region_held3 (fun _ => True) (exact trivial) (first | (go_at_call 56; refine H56.out.mono ?_; rintro e w3 ⟨rfl, rfl⟩) | (go_at_call 66; refine H66.out.mono ?_; rintro e w3 ⟨rfl, hdg, hgr⟩))
  have hbw3 : Below w.heap.size w w3 := (HBW.out.drew).grown hgr (by simp; omega) (fun k hk => by injection hk with hk; omega)
  have H63 := Lib.hid (fmt_any neg B n u w.heap.size dpv prv sv xs w3 (own_below HOWN.out hbw3) (Nat.le_trans HB.out hbw3.size) hn hdg (by rw [← HNU.out]; exact hnu17) hdp0 hdp1 (by rw [← HNU.out, hprv]))
  rw [← HNU.out] at H63
  have HBW3 := Lib.hid hbw3
  clear hdg hgr hbw3 H56 H66
  simp only [Exit.then]
  go_step
  go_wp2_with fail
  refine H63.out.mono ?_
  rintro e w4 ⟨v4, rfl, hst⟩
  have HF : Hid (AppT T B n xs w (.returned v4) w4) := Lib.hid ⟨_, HX.out, v4, rfl, hst.rebase HBW3.out HB.out⟩
  clear hst
  go_wp2_with fail
  go_ret
  exact HF.out


set_option maxRecDepth 100000 in
set_option maxHeartbeats 4000000 in
theorem ftoa32_sub (b : Nat) (bi ea E F M : Int) (neg : Bool) (hbi : (b : Int) = bi) (h0 : 0 ≤ bi) (h1 : bi < 4294967296) (e1 : (bi / 2147483648 != 0) = neg) (e2 : bi / 8388608 = ea) (ea0 : 0 ≤ ea) (ea1 : ea ≤ 511)
    (e3 : bits .and .i64 ea 255 = E) (hE : E = 0) (hMF : F = M) (e4 : bits .and .u64 bi 8388607 = F) (F0 : 0 ≤ F) (F1 : F < 8388608)
    (M0 : 1 ≤ M) (M1 : M < 16777216) (ln z : Nat) (HL : Hid (∀ W, Calls Tryz.prog 64 #[.int .u64 M] W fun e w' => e = .returned (.int .i64 ln) ∧ w' = W)) (hln : ln ≤ 64) (hz : 64 - (ln : Int) = z) (hz1 : z ≤ 63)
    (T : List UInt8 → Prop)
    (H72 : Hid (∀ W, Tab W → Calls Tryz.prog 65 #[.int .u64 (IntKind.u64.wrap (M * 2 ^ z)), .int .i64 (-126 - (z : Int) - 23)] W fun e w' => ∃ (d : Nat) (q : Int), e = .returned (.tuple #[.int .u64 d, .int .i64 q]) ∧ Below W.heap.size W w' ∧ 1 ≤ d ∧ d < 100000000000000000 ∧ -325 ≤ q ∧ q ≤ 293 ∧ ∀ u t : Nat, 1 ≤ u → d = u * 10 ^ t → T (sgn neg (Fl.txt u ((nDigits d : Nat) + q)))))
    (B n : Nat) (sv : Value) (xs : List Value) (w : World) (hown : w.ownsRow B 5 1 sv n xs) (hB : B ≤ w.heap.size) (hn : n ≤ 100000000) (hT : Tab w) (hP : Tens w) :
    Calls Tryz.prog 48 #[sv, .float .f32 b, .int .u8 102, .int .i64 (-1)] w (AppT T B n xs w) := by
  have HOWN := Lib.hid hown
  have HT := Lib.hid hT
  have HP := Lib.hid hP
  have HB := Lib.hid hB
  clear hown hT hP hB
  go_enter Tryz.func48, Tryz.ntmps48
  go_wp2
  refine wp_region_quiet_lit (by kernel_rfl) (by kernel_rfl) ?_
  go_big_quiet_step (fail)
  go_big_quiet_step (fail)
  go_big_quiet_step (fail)
  go_big_quiet_step (fail)
  go_big_quiet_step (fail)
  go_big_quiet_step (fail)
  go_big_quiet_step (fail)
  go_big_quiet_step (fail)
  go_big_quiet_step (fail)
  refine wpQuiet_nil ?_
  intro _ hw'
  obtain ⟨nq, hw''⟩ := hw'
  subst hw''
  simp only [Exit.then]
  go_step
  clear h1 e1
  go_wp2_with fail
  refine (HL.out _).mono ?_
  rintro e w1 ⟨rfl, hw⟩
  have hw' := hw.symm
  subst hw'
  clear hw
  go_wp2_with fail
  have hb0 : Below w.heap.size w ((w.drewN nq).alloc (.cells zeros32 104)) := (below_drewN (Below.refl _ _) nq).alloc (Nat.le_refl _) _
  refine (H72.out _ (tab_below HT.out hb0)).mono ?_
  rintro e w2 ⟨d, q, rfl, hb, hd1, hd, hq0, hq1, htx⟩
  have hsz : w.heap.size < w2.heap.size := by have := hb.size; simp at this; omega
  have hz2 : w2.heap[w.heap.size]? = some (.cells zeros32 104 (0, 0)) := (hb.block w.heap.size (by simp)).trans (heap_alloc_new (w.drewN nq) _)
  have hbw : Below w.heap.size w w2 := hb0.trans (hb.mono (by simp))
  have HBW := Lib.hid hbw
  have HZ2 := Lib.hid hz2
  have HTX := Lib.hid htx
  have HP2 := Lib.hid (tens_below HP.out hbw)
  clear hb hz2 hbw htx hb0 HL H72 HP HT
  obtain ⟨u, t, hut, hu10, hu1⟩ := Fl.strip_zeros d hd1
  obtain ⟨nd, hnd⟩ : ∃ nd, nd = nDigits d := ⟨_, rfl⟩
  have hnd17 : nd ≤ 17 := by rw [hnd]; exact Fl.ndig_le d 17 (by decide) hd
  have hnu17 : nDigits u ≤ 17 := by
    refine Fl.ndig_le u 17 (by decide) ?_
    have hp : 1 ≤ 10 ^ t := Nat.one_le_pow _ _ (by decide)
    have := Nat.mul_le_mul_left u hp
    have e : (10 : Nat) ^ 17 = 100000000000000000 := rfl
    omega
  have HSD := fun W (h : W.heap[w.heap.size]? = some (.cells zeros32 104 (0, 0))) => Lib.hid (setDigits w.heap.size d u t nd q W hu1 hu10 hut hd hnd (by omega) (by omega) (zeros32_holds W w.heap.size nd h (by omega)) ⟨_, h⟩)
  have HND := fun W (h : Tens W) => Lib.hid (Tryz.internal_strconv_numDigits d hd1 (by omega) W h)
  rw [← hnd] at HND
  have HX := Lib.hid (HTX.out u t hu1 hut)
  rw [← hnd] at HX
  have HSD' := Lib.hid HSD
  have HND' := Lib.hid HND
  clear HSD HND hut hnd HTX hu10
  obtain ⟨nu, hnu⟩ : ∃ nu, nu = nDigits u := ⟨_, rfl⟩
  rw [← hnu] at hnu17 HSD'
  have HNU := Lib.hid hnu
  obtain ⟨di, hdi⟩ : ∃ di : Int, (d : Int) = di := ⟨_, rfl⟩
  rw [hdi] at HSD' HND' ⊢
  have HDI := Lib.hid hdi
  have hd0i : 1 ≤ di := by omega
  clear hnu hdi hd hd1
  go_wp2_with fail
  obtain ⟨dpv, hdpv⟩ : ∃ dpv : Int, (nd : Int) + q = dpv := ⟨_, rfl⟩
  obtain ⟨prv, hprv⟩ : ∃ prv : Int, max ((nu : Int) - dpv) 0 = prv := ⟨_, rfl⟩
  have H56 : Hid (Calls Tryz.prog 56 #[.int .u64 di] w2.drew fun e w' => e = .returned (.int .i64 nd) ∧ w' = w2.drew) := Lib.hid ((HND'.out w2.drew HP2.out).out)
  have H66 : Hid (Calls Tryz.prog 66 #[.slice (some ⟨w.heap.size, 0, none⟩) 32 32, .int .u64 di, .int .i64 q, .int .i64 nd] w2.drew fun e w' => e = .returned (.tuple #[.int .i64 dpv, .int .i64 nu]) ∧ Digs w' w.heap.size (decDigits u) ∧ w2.drew.grownBy w' (some w.heap.size)) := Lib.hid (by have h := (HSD'.out w2.drew HZ2.out).out; rw [hdpv] at h; exact h)
  rw [hdpv] at HX
  have hdp0 : -400 ≤ dpv := by omega
  have hdp1 : dpv ≤ 400 := by omega
  have hnu30 : nu ≤ 17 := hnu17
  clear HND' HSD' hdpv
  go_region_held3 (fun _ => True) (exact trivial) (first | (go_at_call 56; refine H56.out.mono ?_; rintro e w3 ⟨rfl, rfl⟩) | (go_at_call 66; refine H66.out.mono ?_; rintro e w3 ⟨rfl, hdg, hgr⟩))
  have hbw3 : Below w.heap.size w w3 := (HBW.out.drew).grown hgr (by simp; omega) (fun k hk => by injection hk with hk; omega)
  have H63 := Lib.hid (fmt_any neg B n u w.heap.size dpv prv sv xs w3 (own_below HOWN.out hbw3) (Nat.le_trans HB.out hbw3.size) hn hdg (by rw [← HNU.out]; exact hnu17) hdp0 hdp1 (by rw [← HNU.out, hprv]))
  rw [← HNU.out] at H63
  have HBW3 := Lib.hid hbw3
  clear hdg hgr hbw3 H56 H66
  simp only [Exit.then]
  go_step
  go_wp2_with fail
  refine H63.out.mono ?_
  rintro e w4 ⟨v4, rfl, hst⟩
  have HF : Hid (AppT T B n xs w (.returned v4) w4) := Lib.hid ⟨_, HX.out, v4, rfl, hst.rebase HBW3.out HB.out⟩
  clear hst
  go_wp2_with fail
  go_ret
  exact HF.out


end Go.Proofs.YtbbjjkcjpdmjnaaGreatDoor
