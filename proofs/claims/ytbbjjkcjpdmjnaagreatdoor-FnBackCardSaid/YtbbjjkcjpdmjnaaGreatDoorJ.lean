/- Plain arithmetic for the law FnBack: a whole number as a float, its sign, and the float that it is near to. -/
import Derived.Test.YtbbjjkcjpdmjnaaGreatDoorY
import Derived.Laws.FloatArith
namespace Go.Proofs.YtbbjjkcjpdmjnaaGreatDoor
namespace Fl
open Ieee

theorem int_word {f : Format} {fb E0 : Nat} (hf : Fmt f fb E0) (hE : fb ≤ E0) (hinf : (E0 + 2) * 2 ^ fb ≤ f.infRung) (hsw : f.infRung < f.signWeight) (D : Nat) (hD1 : 1 ≤ D) (hD : D < 2 ^ (fb + 1)) :
    ∃ M j ex : Nat, D * 2 ^ j = M ∧ 2 ^ fb ≤ M ∧ M < 2 * 2 ^ fb ∧ ex + j = E0 ∧ ex * 2 ^ fb + M < f.infRung ∧ (∀ neg, f.nearest neg D 0 = f.word neg (ex * 2 ^ fb + M)) ∧
      (∀ neg, f.read (f.word neg (ex * 2 ^ fb + M)) = .number neg M (-(j : Int))) := by
  have hl : D.log2 ≤ fb := by
    rcases Nat.lt_or_ge fb D.log2 with h | h
    · have h1 : 2 ^ (fb + 1) ≤ 2 ^ D.log2 := Nat.pow_le_pow_right (by decide) h
      have := log2_le (show D ≠ 0 by omega)
      omega
    · exact h
  have e1 : 2 ^ fb = 2 ^ D.log2 * 2 ^ (fb - D.log2) := by rw [← Nat.pow_add]; congr 1; omega
  have e2 : 2 * 2 ^ fb = 2 ^ (D.log2 + 1) * 2 ^ (fb - D.log2) := by rw [← Nat.pow_succ', ← Nat.pow_add]; congr 1; omega
  have h1 : 2 ^ fb ≤ D * 2 ^ (fb - D.log2) := by rw [e1]; exact Nat.mul_le_mul_right _ (log2_le (by omega))
  have h2 : D * 2 ^ (fb - D.log2) < 2 * 2 ^ fb := by rw [e2]; exact Nat.mul_lt_mul_of_pos_right (lt_log2 D) (Nat.two_pow_pos _)
  have h3 : (E0 - (fb - D.log2)) * 2 ^ fb ≤ E0 * 2 ^ fb := Nat.mul_le_mul_right _ (Nat.sub_le _ _)
  rw [Nat.add_mul] at hinf
  have h4 : (E0 - (fb - D.log2)) * 2 ^ fb + D * 2 ^ (fb - D.log2) < f.infRung := by omega
  refine ⟨_, fb - D.log2, E0 - (fb - D.log2), rfl, h1, h2, by omega, h4, fun neg => ?_, fun neg => ?_⟩
  · exact nearest_up neg hf rfl h1 h2 h4 (by omega)
  · have := read_word neg hf h2 (fun _ => h1) h4 hsw
    rw [this]
    congr 1
    omega

theorem near_int {fb E0 D M j ex r : Nat} (hfb : 10 ≤ fb) (hj : D * 2 ^ j = M) (h1 : 2 ^ fb ≤ M) (h2 : M < 2 * 2 ^ fb) (he : ex + j = E0) (hN : Near (2 ^ fb) r (D * 2 ^ E0) 1) : ex * 2 ^ fb + M = r := by
  have hn : 2 ^ fb = 2 * 2 ^ (fb - 1) := by rw [← Nat.pow_succ']; congr 1; omega
  have hp : 0 < 2 ^ (fb - 1) := Nat.two_pow_pos _
  have hA : D * 2 ^ E0 = M * (2 ^ ex * 1) := by
    rw [← he, ← hj, Nat.pow_add, Nat.mul_one]; simp only [Nat.mul_assoc, Nat.mul_comm, Nat.mul_left_comm]
  have hX : 0 < 2 ^ ex * 1 := Nat.mul_pos (Nat.two_pow_pos _) (by decide)
  refine rung_of (by omega) (by omega) (by decide) hN ?_ ?_ ?_
  · rw [hA]
    generalize 2 ^ ex * 1 = X at *
    unfold Rne
    rw [Nat.add_mul, Nat.one_mul, Nat.mul_assoc]
    omega
  · right
    rw [hA]
    have := Nat.mul_le_mul_right (2 ^ ex * 1) h1
    generalize 2 ^ ex * 1 = X at *
    rw [Nat.mul_assoc]
    omega
  · rw [hA]
    have := Nat.mul_lt_mul_of_pos_right h2 hX
    exact this

theorem neg_word64 (r : Nat) (h : r < 9223372036854775808) : Op.negFloat .f64 (double.word false r) = double.word true r := by
  have e : Op.negFloat .f64 (double.word false r) = r ^^^ 2 ^ 63 := rfl
  have e2 : double.word true r = 2 ^ 63 + r := rfl
  rw [e, e2]
  have := Nat.two_pow_add_eq_or_of_lt (show r < 2 ^ 63 from h) 1
  rw [Nat.mul_one] at this
  rw [this]
  apply Nat.eq_of_testBit_eq
  intro i
  rw [Nat.testBit_xor, Nat.testBit_or, Nat.testBit_two_pow]
  by_cases hi : 63 = i
  · subst hi
    rw [Nat.testBit_lt_two_pow (show r < 2 ^ 63 from h)]; simp
  · rw [decide_eq_false hi]; simp
theorem neg_word32 (r : Nat) (h : r < 2147483648) : Op.negFloat .f32 (single.word false r) = single.word true r := by
  have e : Op.negFloat .f32 (single.word false r) = r ^^^ 2 ^ 31 := rfl
  have e2 : single.word true r = 2 ^ 31 + r := rfl
  rw [e, e2]
  have := Nat.two_pow_add_eq_or_of_lt (show r < 2 ^ 31 from h) 1
  rw [Nat.mul_one] at this
  rw [this]
  apply Nat.eq_of_testBit_eq
  intro i
  rw [Nat.testBit_xor, Nat.testBit_or, Nat.testBit_two_pow]
  by_cases hi : 31 = i
  · subst hi
    rw [Nat.testBit_lt_two_pow (show r < 2 ^ 31 from h)]; simp
  · rw [decide_eq_false hi]; simp
end Fl
end Go.Proofs.YtbbjjkcjpdmjnaaGreatDoor

/- Plain arithmetic for the law FnBack: a narrow float widened and narrowed again is what it was. -/
namespace Go.Proofs.YtbbjjkcjpdmjnaaGreatDoor
namespace Fl
open Ieee

/-- The rung of a wide float at the narrow float of rung r. -/
def wideR (r : Nat) : Nat :=
  if r = 0 then 0 else
  let ex := r / 8388608 - 1
  let M := r - ex * 8388608
  (ex + 925 - (52 - M.log2)) * 4503599627370496 + M * 2 ^ (52 - M.log2)

theorem wideR_zero : wideR 0 = 0 := rfl

theorem rung_split (r : Nat) (hr1 : 1 ≤ r) : ∃ ex M : Nat, r = ex * 8388608 + M ∧ 1 ≤ M ∧ M < 16777216 ∧ (0 < ex → 8388608 ≤ M) ∧ r / 8388608 - 1 = ex ∧ r - ex * 8388608 = M := by
  refine ⟨r / 8388608 - 1, r - (r / 8388608 - 1) * 8388608, ?_, ?_, ?_, ?_, rfl, rfl⟩
  all_goals
    have := Nat.div_add_mod r 8388608
    have := Nat.mod_lt r (show 0 < 8388608 by decide)
    generalize r / 8388608 = a at *
    generalize r % 8388608 = b at *
    omega

theorem wideR_facts (r : Nat) (hr1 : 1 ≤ r) (hr : r < 2139095040) : ∃ ex M j ex2 : Nat, r = ex * 2 ^ 23 + M ∧ 1 ≤ M ∧ M < 2 * 2 ^ 23 ∧ (0 < ex → 2 ^ 23 ≤ M) ∧ 2 ^ 52 ≤ M * 2 ^ j ∧ M * 2 ^ j < 2 * 2 ^ 52 ∧ ex2 + j = ex + 925 ∧ wideR r = ex2 * 2 ^ 52 + M * 2 ^ j ∧ ex2 * 2 ^ 52 + M * 2 ^ j < double.infRung ∧ 1 ≤ ex2 := by
  obtain ⟨ex, M, he, h1, h2, h3, e1, e2⟩ := rung_split r hr1
  have hl : M.log2 ≤ 23 := by
    rcases Nat.lt_or_ge 23 M.log2 with h | h
    · have h4 : 2 ^ 24 ≤ 2 ^ M.log2 := Nat.pow_le_pow_right (by decide) h
      have := log2_le (show M ≠ 0 by omega)
      have : (2 : Nat) ^ 24 = 16777216 := rfl
      omega
    · exact h
  have p1 : 2 ^ 52 = 2 ^ M.log2 * 2 ^ (52 - M.log2) := by rw [← Nat.pow_add]; congr 1; omega
  have p2 : 2 * 2 ^ 52 = 2 ^ (M.log2 + 1) * 2 ^ (52 - M.log2) := by rw [← Nat.pow_succ', ← Nat.pow_add]; congr 1; omega
  have q1 : 2 ^ 52 ≤ M * 2 ^ (52 - M.log2) := by rw [p1]; exact Nat.mul_le_mul_right _ (log2_le (by omega))
  have q2 : M * 2 ^ (52 - M.log2) < 2 * 2 ^ 52 := by rw [p2]; exact Nat.mul_lt_mul_of_pos_right (lt_log2 M) (Nat.two_pow_pos _)
  have hex : ex ≤ 253 := by omega
  have hw : wideR r = (ex + 925 - (52 - M.log2)) * 2 ^ 52 + M * 2 ^ (52 - M.log2) := by
    unfold wideR
    rw [if_neg (by omega)]
    dsimp only
    rw [e1, e2]
  have hinf : double.infRung = 9218868437227405312 := rfl
  have h52 : (2 : Nat) ^ 52 = 4503599627370496 := rfl
  refine ⟨ex, M, 52 - M.log2, ex + 925 - (52 - M.log2), he, h1, by omega, fun h => by have := h3 h; omega, q1, q2, by omega, hw, ?_, by omega⟩
  rw [hinf]
  have : (ex + 925 - (52 - M.log2)) ≤ 1178 := by omega
  have := Nat.mul_le_mul_right 4503599627370496 this
  rw [h52] at q2 ⊢
  omega

theorem wideR_lt (r : Nat) (hr : r < 2139095040) : wideR r < 9218868437227405312 := by
  rcases Nat.eq_zero_or_pos r with h | h
  · subst h; decide
  · obtain ⟨ex, M, j, ex2, _, _, _, _, _, _, _, e, hi, _⟩ := wideR_facts r h hr
    rw [e]; exact hi

theorem wideR_pos (r : Nat) (hr1 : 1 ≤ r) (hr : r < 2139095040) : 4503599627370496 ≤ wideR r := by
  obtain ⟨ex, M, j, ex2, _, _, _, _, q1, _, _, e, hi, h1⟩ := wideR_facts r hr1 hr
  rw [e]
  exact Nat.le_trans q1 (Nat.le_add_left _ _)

/-- A narrow float read. -/
theorem read32 (neg : Bool) (r : Nat) (hr : r < 2139095040) : ∃ M ex : Nat, single.read (single.word neg r) = .number neg M ((ex : Int) - 149) ∧ r = ex * 2 ^ 23 + M ∧ M < 2 * 2 ^ 23 ∧ (0 < ex → 2 ^ 23 ≤ M) ∧ (M = 0 → r = 0) := by
  rcases Nat.eq_zero_or_pos r with h | h
  · subst h
    refine ⟨0, 0, ?_, rfl, by decide, by omega, fun _ => rfl⟩
    cases neg <;> rfl
  · obtain ⟨ex, M, j, ex2, he, h1, h2, h3, _⟩ := wideR_facts r h hr
    refine ⟨M, ex, ?_, he, h2, h3, by omega⟩
    rw [he]
    exact read_word (E0 := 149) neg fmt32 h2 h3 (by rw [← he]; exact hr) (by decide)

theorem widen0 : ∀ neg : Bool, floatToFloatBits .f32 (single.word neg 0) .f64 = some (double.word neg (wideR 0))
  | true => by kernel_rfl
  | false => by kernel_rfl
theorem narrow0 : ∀ neg : Bool, floatToFloatBits .f64 (double.word neg (wideR 0)) .f32 = some (single.word neg 0)
  | true => by kernel_rfl
  | false => by kernel_rfl

/-- Widened: the same number. -/
theorem widen (neg : Bool) (r : Nat) (hr : r < 2139095040) : floatToFloatBits .f32 (single.word neg r) .f64 = some (double.word neg (wideR r)) := by
  have hd : FloatKind.f32.decode (single.word neg r) = single.read (single.word neg r) := rfl
  rcases Nat.eq_zero_or_pos r with h | h
  · subst h
    exact widen0 neg
  · unfold floatToFloatBits
    rw [if_neg (by decide), hd]
    obtain ⟨ex, M, j, ex2, he, h1, h2, h3, q1, q2, hs, hw, hi, _⟩ := wideR_facts r h hr
    have hrd : single.read (single.word neg r) = .number neg M ((ex : Int) - 149) := by
      have := read_word (f := single) (E0 := 149) neg fmt32 h2 h3 (by rw [← he]; exact hr) (by decide)
      rw [← he] at this
      exact this
    rw [hrd]
    have hnu : FloatKind.f64.encode (.number neg M ((ex : Int) - 149)) = double.word neg (wideR r) := by
      show double.nearest neg M ((ex : Int) - 149) = _
      rw [hw]
      exact nearest_up (fb := 52) (E0 := 1074) neg fmt64 rfl q1 q2 hi (by omega)
    have hrd2 : FloatKind.f64.decode (double.word neg (wideR r)) = .number neg (M * 2 ^ j) ((ex2 : Int) - 1074) := by
      show double.read _ = _
      rw [hw]
      exact read_word (fb := 52) (E0 := 1074) neg fmt64 q2 (fun _ => q1) hi (by decide)
    dsimp only
    rw [hnu, hrd2, if_neg (by simp [Datum.isInfinity])]

/-- Narrowed again: the float that it was. -/
theorem narrow (neg : Bool) (r : Nat) (hr : r < 2139095040) : floatToFloatBits .f64 (double.word neg (wideR r)) .f32 = some (single.word neg r) := by
  have hd : FloatKind.f64.decode (double.word neg (wideR r)) = double.read (double.word neg (wideR r)) := rfl
  rcases Nat.eq_zero_or_pos r with h | h
  · subst h
    exact narrow0 neg
  · unfold floatToFloatBits
    rw [if_neg (by decide), hd]
    obtain ⟨ex, M, j, ex2, he, h1, h2, h3, q1, q2, hs, hw, hi, _⟩ := wideR_facts r h hr
    have hrd2 : double.read (double.word neg (wideR r)) = .number neg (M * 2 ^ j) ((ex2 : Int) - 1074) := by
      rw [hw]
      exact read_word (fb := 52) (E0 := 1074) neg fmt64 q2 (fun _ => q1) hi (by decide)
    rw [hrd2]
    have hnu : FloatKind.f32.encode (.number neg (M * 2 ^ j) ((ex2 : Int) - 1074)) = single.word neg r := by
      show single.nearest neg (M * 2 ^ j) ((ex2 : Int) - 1074) = _
      rw [he]
      exact nearest_exact (fb := 23) (E0 := 149) neg fmt32 h1 h2 h3 (by rw [← he]; exact hr) (by omega)
    have hrd : FloatKind.f32.decode (single.word neg r) = .number neg M ((ex : Int) - 149) := by
      show single.read _ = _
      rw [he]
      exact read_word (E0 := 149) neg fmt32 h2 h3 (by rw [← he]; exact hr) (by decide)
    dsimp only
    rw [hnu, hrd, if_neg (by simp [Datum.isInfinity])]
end Fl
end Go.Proofs.YtbbjjkcjpdmjnaaGreatDoor

/- Plain facts for the law FnBack: when two floats are equal, and which floats pass the tests of a float. -/
namespace Go.Proofs.YtbbjjkcjpdmjnaaGreatDoor
namespace Fl
open Ieee

theorem rung_split64 (r : Nat) : ∃ ex M : Nat, r = ex * 4503599627370496 + M ∧ M < 9007199254740992 ∧ (0 < ex → 4503599627370496 ≤ M) := by
  refine ⟨r / 4503599627370496 - 1, r - (r / 4503599627370496 - 1) * 4503599627370496, ?_, ?_, ?_⟩
  all_goals
    have := Nat.div_add_mod r 4503599627370496
    have := Nat.mod_lt r (show 0 < 4503599627370496 by decide)
    generalize r / 4503599627370496 = a at *
    generalize r % 4503599627370496 = b at *
    omega

theorem read64 (neg : Bool) (r : Nat) (hr : r < 9218868437227405312) : ∃ M ex : Nat, double.read (double.word neg r) = .number neg M ((ex : Int) - 1074) ∧ r = ex * 4503599627370496 + M ∧ M < 9007199254740992 ∧ (0 < ex → 4503599627370496 ≤ M) := by
  obtain ⟨ex, M, h1, h2, h3⟩ := rung_split64 r
  refine ⟨M, ex, ?_, h1, h2, h3⟩
  have h52 : (2 : Nat) ^ 52 = 4503599627370496 := rfl
  have := read_word (f := double) (fb := 52) (E0 := 1074) (M := M) (ex := ex) neg fmt64 (by omega) (by rw [h52]; exact h3) (by rw [h52, ← h1]; exact hr) (by decide)
  rw [h52, ← h1] at this
  exact this

theorem same_value {M1 M2 e1 e2 : Nat} (h1 : M1 < 9007199254740992) (h2 : M2 < 9007199254740992) (k1 : 0 < e1 → 4503599627370496 ≤ M1) (k2 : 0 < e2 → 4503599627370496 ≤ M2) (h : M1 * 2 ^ e1 = M2 * 2 ^ e2) : M1 = M2 ∧ e1 = e2 := by
  rcases Nat.lt_trichotomy e1 e2 with hlt | heq | hlt
  · exfalso
    obtain ⟨d, rfl⟩ : ∃ d, e2 = e1 + (d + 1) := ⟨e2 - e1 - 1, by omega⟩
    rw [Nat.pow_add, ← Nat.mul_assoc, Nat.mul_right_comm] at h
    have := Nat.eq_of_mul_eq_mul_right (Nat.two_pow_pos e1) h
    have hp := Nat.two_pow_pos d
    rw [Nat.pow_succ, ← Nat.mul_assoc] at this
    have k := k2 (by omega)
    have : M2 ≤ M2 * 2 ^ d := Nat.le_mul_of_pos_right _ hp
    omega
  · subst heq
    exact ⟨Nat.eq_of_mul_eq_mul_right (Nat.two_pow_pos e1) h, rfl⟩
  · exfalso
    obtain ⟨d, rfl⟩ : ∃ d, e1 = e2 + (d + 1) := ⟨e1 - e2 - 1, by omega⟩
    rw [Nat.pow_add, ← Nat.mul_assoc, Nat.mul_right_comm] at h
    have := Nat.eq_of_mul_eq_mul_right (Nat.two_pow_pos e2) h
    have hp := Nat.two_pow_pos d
    rw [Nat.pow_succ, ← Nat.mul_assoc] at this
    have k := k1 (by omega)
    have : M1 ≤ M1 * 2 ^ d := Nat.le_mul_of_pos_right _ hp
    omega

/-- Two finite floats that are equal. -/
theorem eq64 (n1 n2 : Bool) (r1 r2 : Nat) (h1 : r1 < 9218868437227405312) (h2 : r2 < 9218868437227405312) (h : double.order (double.word n1 r1) (double.word n2 r2) = some .eq) : r1 = r2 ∧ (n1 = n2 ∨ r1 = 0) := by
  obtain ⟨M1, e1, a1, b1, c1, d1⟩ := read64 n1 r1 h1
  obtain ⟨M2, e2, a2, b2, c2, d2⟩ := read64 n2 r2 h2
  unfold Format.order at h
  rw [a1, a2] at h
  simp only [Datum.order, Option.some.injEq, Std.compare_eq_iff_eq] at h
  have hv : ∃ u v : Nat, (((e1 : Int) - 1074) - min ((e1 : Int) - 1074) ((e2 : Int) - 1074)).toNat = u ∧ (((e2 : Int) - 1074) - min ((e1 : Int) - 1074) ((e2 : Int) - 1074)).toNat = v ∧ ∃ k, e1 = u + k ∧ e2 = v + k := ⟨_, _, rfl, rfl, min e1 e2, by omega, by omega⟩
  obtain ⟨u, v, hu, hv, k, hk1, hk2⟩ := hv
  rw [hu, hv] at h
  unfold signed at h
  rw [Nat.shiftLeft_eq, Nat.shiftLeft_eq] at h
  have hnat : M1 * 2 ^ u = M2 * 2 ^ v ∧ (n1 = n2 ∨ M1 * 2 ^ u = 0) := by
    generalize M1 * 2 ^ u = a at *
    generalize M2 * 2 ^ v = b at *
    cases n1 <;> cases n2 <;> simp at h ⊢ <;> omega
  have hval : M1 * 2 ^ e1 = M2 * 2 ^ e2 := by
    rw [hk1, hk2, Nat.pow_add, Nat.pow_add, ← Nat.mul_assoc, ← Nat.mul_assoc, hnat.1]
  obtain ⟨rfl, rfl⟩ := same_value c1 c2 d1 d2 hval
  refine ⟨by rw [b1, b2], ?_⟩
  rcases hnat.2 with h3 | h3
  · exact Or.inl h3
  · right
    have hM : M1 = 0 := by
      rcases Nat.mul_eq_zero.1 h3 with h4 | h4
      · exact h4
      · exact absurd h4 (Nat.ne_of_gt (Nat.two_pow_pos u))
    subst hM
    rcases Nat.eq_zero_or_pos e1 with h4 | h4
    · subst h4; omega
    · have := d1 h4; omega
end Fl
end Go.Proofs.YtbbjjkcjpdmjnaaGreatDoor

/- Facts for the law FnBack: the sorts of floats; X - X and 1 / X. -/
namespace Go.Proofs.YtbbjjkcjpdmjnaaGreatDoor
namespace Fl
open Ieee

theorem read_parts (neg : Bool) (r : Nat) (hr : r < 9223372036854775808) : double.word neg r / double.signWeight % 2 = neg.toNat ∧ double.word neg r % double.signWeight = r := by
  have hs : double.signWeight = 9223372036854775808 := rfl
  unfold Format.word
  rw [hs]
  cases neg
  · simp only [Bool.false_eq_true, if_false, Bool.toNat_false]
    omega
  · simp only [if_true, Bool.toNat_true]
    omega

theorem read64_inf (neg : Bool) : double.read (double.word neg 9218868437227405312) = .infinity neg := by
  obtain ⟨h1, h2⟩ := read_parts neg 9218868437227405312 (by decide)
  unfold Format.read
  dsimp only
  rw [h1, h2]
  cases neg <;> rfl

theorem read64_nan (neg : Bool) (r : Nat) (h : 9218868437227405312 < r) (hr : r < 9223372036854775808) : double.read (double.word neg r) = .nan neg (r - 9218868437227405312) := by
  obtain ⟨h1, h2⟩ := read_parts neg r hr
  have hb : double.binade = 4503599627370496 := rfl
  have hi : double.infRung = 9218868437227405312 := rfl
  unfold Format.read
  dsimp only
  rw [h1, h2, hb, hi, if_neg (by omega), if_neg (by omega), if_neg (by omega)]
  cases neg <;> rfl

/-- The three sorts. -/
theorem sorts64 (X : Nat) (hX : X < 18446744073709551616) : (∃ neg r, r < 9218868437227405312 ∧ X = double.word neg r) ∨ (∃ neg, X = double.word neg 9218868437227405312) ∨ ∃ neg r, 9218868437227405312 < r ∧ r < 9223372036854775808 ∧ X = double.word neg r := by
  have hw : ∃ neg r, X = double.word neg r ∧ r < 9223372036854775808 := by
    have hs : double.signWeight = 9223372036854775808 := rfl
    by_cases h : X < 9223372036854775808
    · exact ⟨false, X, rfl, h⟩
    · refine ⟨true, X - 9223372036854775808, ?_, by omega⟩
      unfold Format.word
      rw [hs, if_pos rfl]
      omega
  obtain ⟨neg, r, rfl, hr⟩ := hw
  rcases Nat.lt_trichotomy r 9218868437227405312 with h | h | h
  · exact Or.inl ⟨neg, r, h, rfl⟩
  · subst h; exact Or.inr (Or.inl ⟨neg, rfl⟩)
  · exact Or.inr (Or.inr ⟨neg, r, h, hr, rfl⟩)

theorem sub_fin (neg : Bool) (r : Nat) (hr : r < 9218868437227405312) : double.sub (double.word neg r) (double.word neg r) = some 0 := by
  obtain ⟨M, ex, h, _⟩ := read64 neg r hr
  unfold Format.sub
  rw [h]
  have hm : ∀ a : Int, (a - min a a).toNat = 0 := fun a => by omega
  have ht : signed neg M 0 + signed (!neg) M 0 = 0 := by
    unfold signed
    cases neg <;> simp <;> omega
  simp only [Datum.opposite, Datum.sum, hm, ht, if_true, Option.map_some]
  have hn : (neg && !neg) = false := by cases neg <;> rfl
  rw [hn]
  rfl
theorem sub_inf (neg : Bool) : double.sub (double.word neg 9218868437227405312) (double.word neg 9218868437227405312) = none := by
  unfold Format.sub
  rw [read64_inf]
  cases neg <;> rfl
theorem sub_nan (neg : Bool) (r : Nat) (h : 9218868437227405312 < r) (hr : r < 9223372036854775808) : double.sub (double.word neg r) (double.word neg r) = none := by
  unfold Format.sub
  rw [read64_nan neg r h hr]
  rfl
theorem order_nan_left (neg : Bool) (r : Nat) (h : 9218868437227405312 < r) (hr : r < 9223372036854775808) (Y : Nat) : double.order (double.word neg r) Y = none := by
  unfold Format.order
  rw [read64_nan neg r h hr]
  rfl
theorem order_nan_right (neg : Bool) (r : Nat) (h : 9218868437227405312 < r) (hr : r < 9223372036854775808) (Y : Nat) : double.order Y (double.word neg r) = none := by
  unfold Format.order
  rw [read64_nan neg r h hr]
  cases double.read Y <;> rfl
theorem order_inf_eq (n1 : Bool) (Y : Nat) (h : double.order Y (double.word n1 9218868437227405312) = some .eq) (hY : Y < 18446744073709551616) : ∃ neg, Y = double.word neg 9218868437227405312 := by
  rcases sorts64 Y hY with ⟨neg, r, hr, rfl⟩ | h2 | ⟨neg, r, h2, h3, rfl⟩
  · exfalso
    obtain ⟨M, ex, he, _⟩ := read64 neg r hr
    unfold Format.order at h
    rw [he, read64_inf] at h
    cases n1 <;> simp [Datum.order] at h
  · exact h2
  · rw [order_nan_left neg r h2 h3] at h; cases h
end Fl
end Go.Proofs.YtbbjjkcjpdmjnaaGreatDoor
