/- Plain arithmetic for the law FnBack: the model's rounding finds the same rung: of whole numbers, of quotients, of floats of the other width. -/
import Derived.Test.YtbbjjkcjpdmjnaaGreatDoorR
import Ieee.Arith
namespace Go.Proofs.YtbbjjkcjpdmjnaaGreatDoor
namespace Fl
open Ieee

theorem log2_le {m : Nat} (h : m ≠ 0) : 2 ^ m.log2 ≤ m := (Nat.le_log2 h).1 (Nat.le_refl _)
theorem lt_log2 (m : Nat) : m < 2 ^ (m.log2 + 1) := Nat.lt_log2_self

/-- The model's cut is the rounding to the nearest. -/
theorem cut_rne (neg : Bool) (N drop : Nat) : Rne (Toward.even.cut neg N drop) N (2 ^ drop) := by
  unfold Toward.cut
  simp only [Nat.shiftLeft_eq, Nat.one_mul]
  by_cases h : drop ≤ N.log2 + 2
  · rw [Nat.min_eq_left h]
    have hG := Nat.two_pow_pos drop
    generalize 2 ^ drop = G at *
    have e := Nat.div_add_mod N G
    have hr := Nat.mod_lt N hG
    generalize hq : N / G = q at *
    generalize hR : N % G = r at *
    have e1 : ∀ j, (2 * j + 1) * G = 2 * (G * j) + G := fun j => by rw [Nat.add_mul, Nat.one_mul, Nat.mul_assoc, Nat.mul_comm j]
    have e2 : ∀ j, 2 * j * G = 2 * (G * j) := fun j => by rw [Nat.mul_assoc, Nat.mul_comm j]
    unfold Rne
    rw [e1, e2]
    rcases Nat.lt_trichotomy (2 * r) G with h1 | h1 | h1
    · have c1 : decide (G < 2 * r) = false := decide_eq_false (by omega)
      have c2 : (G == 2 * r) = false := by simpa using (show G ≠ 2 * r by omega)
      rw [c1, c2]
      simp only [Bool.false_and, Bool.or_self, Bool.toNat_false, Nat.add_zero]
      omega
    · have c1 : decide (G < 2 * r) = false := decide_eq_false (by omega)
      have c2 : (G == 2 * r) = true := by simpa using (show G = 2 * r by omega)
      rw [c1, c2]
      simp only [Bool.true_and, Bool.false_or]
      rcases Nat.mod_two_eq_zero_or_one q with h0 | h0
      · rw [h0]
        have : ((0 : Nat) == 1) = false := rfl
        rw [this]
        simp only [Bool.toNat_false, Nat.add_zero]
        omega
      · rw [h0]
        have : ((1 : Nat) == 1) = true := rfl
        rw [this]
        simp only [Bool.toNat_true]
        rw [Nat.mul_add, Nat.mul_one]
        omega
    · have c1 : decide (G < 2 * r) = true := decide_eq_true (by omega)
      rw [c1]
      simp only [Bool.true_or, Bool.toNat_true]
      rw [Nat.mul_add, Nat.mul_one]
      omega
  · rw [Nat.min_eq_right (by omega)]
    have hN := lt_log2 N
    have hG : 2 ^ (N.log2 + 2) = 2 * 2 ^ (N.log2 + 1) := by rw [Nat.pow_succ]; omega
    have hlt : N < 2 ^ (N.log2 + 2) := by omega
    rw [Nat.div_eq_of_lt hlt, Nat.mod_eq_of_lt hlt]
    have c1 : decide (2 ^ (N.log2 + 2) < 2 * N) = false := decide_eq_false (by omega)
    have c2 : (2 ^ (N.log2 + 2) == 2 * N) = false := by simpa using (show 2 ^ (N.log2 + 2) ≠ 2 * N by omega)
    rw [c1, c2]
    simp only [Bool.false_and, Bool.or_self, Bool.toNat_false, Nat.add_zero]
    have : 2 ^ (N.log2 + 2) ≤ 2 ^ drop := Nat.pow_le_pow_right (by decide) (by omega)
    unfold Rne
    omega

/-- What the format gives: the last place is -E0. -/
structure Fmt (f : Format) (fb E0 : Nat) : Prop where
  bits : f.fractionBits = fb
  least : f.leastPlace = -(E0 : Int)
  big : 10 ≤ fb

theorem fmt64 : Fmt double 52 1074 := ⟨rfl, by decide, by decide⟩
theorem fmt32 : Fmt single 23 149 := ⟨rfl, by decide, by decide⟩

/-- The nearest word to a number whose sticky digits are told by u. -/
theorem nearest_rung {f : Format} {fb E0 mag r A B A2 B2 : Nat} {place : Int} (neg : Bool) (hf : Fmt f fb E0) (hr : r < f.infRung) (hm : mag ≠ 0)
    (hU : Unr mag A2 B2) (hB2 : 0 < B2) (hB : 0 < B) (hN : Near (2 ^ fb) r A B) (hbig : fb + 2 ≤ mag.log2)
    (hAB : ∀ e2 drop : Nat, (e2 : Int) - drop = place + E0 → A2 * (2 ^ e2 * B) = A * (2 ^ drop * B2)) : f.nearest neg mag place = f.word neg r := by
  unfold Format.nearest
  rw [if_neg hm]
  dsimp only
  rw [hf.bits, hf.least]
  obtain ⟨last, hlast⟩ : ∃ last : Int, last = max (place + (mag.log2 : Int) - (fb : Int)) (-(E0 : Int)) := ⟨_, rfl⟩
  rw [← hlast]
  have hz : (place - last).toNat = 0 := by omega
  rw [hz, Nat.shiftLeft_zero]
  obtain ⟨e2, he2⟩ : ∃ e2 : Nat, e2 = (last - -(E0 : Int)).toNat := ⟨_, rfl⟩
  obtain ⟨drop, hdrop⟩ : ∃ drop : Nat, drop = (last - place).toNat := ⟨_, rfl⟩
  rw [← he2, ← hdrop]
  have hfrac := hAB e2 drop (by omega)
  have hd2 : 2 ≤ drop := by omega
  have hcut := cut_rne neg mag drop
  generalize Toward.even.cut neg mag drop = m at *
  obtain ⟨g, hg⟩ : ∃ g, drop = g + 2 := ⟨drop - 2, by omega⟩
  have hGp : 0 < 2 ^ g := Nat.two_pow_pos g
  have eG : 2 ^ drop = 4 * 2 ^ g := by rw [hg, Nat.pow_add]; omega
  -- the same rounding of the exact number
  have hR : Rne m A2 (2 ^ drop * B2) := by
    obtain ⟨c1, c2⟩ := hcut
    rw [eG] at c1 c2 ⊢
    have k1 := hU ((2 * m + 1) * 2 ^ g)
    have f1 : 2 * ((2 * m + 1) * 2 ^ g) * B2 = (2 * m + 1) * (2 * (2 ^ g * B2)) := by simp only [Nat.mul_assoc, Nat.mul_left_comm]
    have f2 : (2 * m + 1) * (4 * 2 ^ g) = 2 * (2 * ((2 * m + 1) * 2 ^ g)) := by
      rw [show (4 : Nat) = 2 * 2 from rfl]; simp only [Nat.mul_assoc, Nat.mul_left_comm]
    have f3 : (2 * m + 1) * (4 * 2 ^ g * B2) = 2 * ((2 * m + 1) * (2 * (2 ^ g * B2))) := by
      rw [show (4 : Nat) = 2 * 2 from rfl]; simp only [Nat.mul_assoc, Nat.mul_left_comm]
    rw [f1] at k1
    rw [f2] at c1
    refine ⟨?_, ?_⟩
    · rw [f3]
      rcases c1 with c1 | ⟨c1, c0⟩
      · left; have := k1.1.1 (by omega); omega
      · right
        refine ⟨?_, c0⟩
        have n1 : ¬ (A2 < (2 * m + 1) * (2 * (2 ^ g * B2))) := fun h => by have := k1.1.2 h; omega
        have n2 : ¬ ((2 * m + 1) * (2 * (2 ^ g * B2)) < A2) := fun h => by have := k1.2.2 h; omega
        omega
    · rcases Nat.eq_zero_or_pos m with h0 | h0
      · rw [h0]
        simp only [Nat.mul_zero, Nat.zero_mul]
        have : 0 < 4 * 2 ^ g * B2 := Nat.mul_pos (by omega) hB2
        left; omega
      · obtain ⟨j, rfl⟩ : ∃ j, m = j + 1 := ⟨m - 1, by omega⟩
        have k2 := hU ((2 * j + 1) * 2 ^ g)
        have f4 : 2 * ((2 * j + 1) * 2 ^ g) * B2 = (2 * j + 1) * (2 * (2 ^ g * B2)) := by simp only [Nat.mul_assoc, Nat.mul_left_comm]
        rw [f4] at k2
        have f5 : 2 * (j + 1) * (4 * 2 ^ g) = 2 * (2 * ((2 * j + 1) * 2 ^ g)) + 4 * 2 ^ g := by
          rw [show 2 * (j + 1) = 2 * j + 1 + 1 by omega, Nat.add_mul (2 * j + 1), Nat.one_mul]
          congr 1
          rw [show (4 : Nat) = 2 * 2 from rfl]; simp only [Nat.mul_assoc, Nat.mul_left_comm]
        have f6 : 2 * (j + 1) * (4 * 2 ^ g * B2) = 2 * ((2 * j + 1) * (2 * (2 ^ g * B2))) + 4 * 2 ^ g * B2 := by
          rw [show 2 * (j + 1) = 2 * j + 1 + 1 by omega, Nat.add_mul (2 * j + 1), Nat.one_mul]
          congr 1
          rw [show (4 : Nat) = 2 * 2 from rfl]; simp only [Nat.mul_assoc, Nat.mul_left_comm]
        rw [f5] at c2
        rw [f6]
        rcases c2 with c2 | ⟨c2, c0⟩
        · left; have := k2.2.1 (by omega); omega
        · right
          refine ⟨?_, c0⟩
          have n1 : ¬ (A2 < (2 * j + 1) * (2 * (2 ^ g * B2))) := fun h => by have := k2.1.2 h; omega
          have n2 : ¬ ((2 * j + 1) * (2 * (2 ^ g * B2)) < A2) := fun h => by have := k2.2.2 h; omega
          omega
  have hY : 0 < 2 ^ e2 * B := Nat.mul_pos (Nat.two_pow_pos _) hB
  have hY2 : 0 < 2 ^ drop * B2 := Nat.mul_pos (Nat.two_pow_pos _) hB2
  have hR2 : Rne m A (2 ^ e2 * B) := rne_frac hY2 hY hfrac hR
  have hfbp : 2 ^ fb = 2 * 2 ^ (fb - 1) := by rw [← Nat.pow_succ']; congr 1; have := hf.big; omega
  -- how great
  have hhi : A < 2 * 2 ^ fb * (2 ^ e2 * B) := by
    have h1 : mag < 2 * (2 ^ fb * 2 ^ drop) := by
      have h2 := lt_log2 mag
      have h3 : 2 ^ (mag.log2 + 1) ≤ 2 ^ (1 + fb + drop) := Nat.pow_le_pow_right (by decide) (by omega)
      rw [Nat.pow_add 2 (1 + fb), Nat.pow_add 2 1, Nat.pow_one, Nat.mul_assoc] at h3
      omega
    have h2 := (hU (2 ^ fb * 2 ^ drop)).1.1 h1
    have h3 := lt_frac (a := 1) (b := 2 * 2 ^ fb) hY2 hY hfrac
    rw [Nat.one_mul, Nat.one_mul] at h3
    refine h3.1 ?_
    have : 2 * (2 ^ fb * 2 ^ drop) * B2 = 2 * 2 ^ fb * (2 ^ drop * B2) := by simp only [Nat.mul_assoc]
    omega
  have hlo : e2 = 0 ∨ 4 * 2 ^ fb * (2 ^ e2 * B) ≤ 4 * A + 2 ^ e2 * B := by
    by_cases h : e2 = 0
    · left; exact h
    · right
      have h1 : 2 * (2 ^ (fb - 1) * 2 ^ drop) ≤ mag := by
        have h2 := log2_le hm
        have h3 : 2 ^ (fb + drop) ≤ 2 ^ mag.log2 := Nat.pow_le_pow_right (by decide) (by omega)
        rw [Nat.pow_add, hfbp, Nat.mul_assoc] at h3
        omega
      have h2 := (hU (2 ^ (fb - 1) * 2 ^ drop)).1
      have h4 : ¬ (A2 < 2 * (2 ^ (fb - 1) * 2 ^ drop) * B2) := fun h => by have := h2.2 h; omega
      have h3 := lt_frac (a := 1) (b := 2 ^ fb) hY2 hY hfrac
      rw [Nat.one_mul, Nat.one_mul] at h3
      have h5 : 2 * (2 ^ (fb - 1) * 2 ^ drop) * B2 = 2 ^ fb * (2 ^ drop * B2) := by rw [hfbp]; simp only [Nat.mul_assoc]
      have h6 : ¬ (A < 2 ^ fb * (2 ^ e2 * B)) := fun h => by have := h3.2 h; omega
      have h7 : 4 * 2 ^ fb * (2 ^ e2 * B) = 4 * (2 ^ fb * (2 ^ e2 * B)) := Nat.mul_assoc _ _ _
      omega
  have hn2 : 2 ≤ 2 ^ fb := by have := Nat.two_pow_pos (fb - 1); omega
  have := rung_of hn2 (by omega) hB hN hR2 hlo hhi
  have eb : f.binade = 2 ^ fb := by unfold Format.binade; rw [hf.bits]
  rw [eb, this, Nat.min_eq_left (Nat.le_of_lt hr)]

/-- Every number tells of itself. -/
theorem unr_self (m : Nat) : Unr m m 1 := fun k => by rw [Nat.mul_one]; exact ⟨Iff.rfl, Iff.rfl⟩

/-- A number that the format has: its own rung. -/
theorem nearest_exact {f : Format} {fb E0 M ex k : Nat} {place : Int} (neg : Bool) (hf : Fmt f fb E0) (hM0 : 1 ≤ M) (hM : M < 2 * 2 ^ fb) (hMn : 0 < ex → 2 ^ fb ≤ M)
    (hr : ex * 2 ^ fb + M < f.infRung) (hp : place + k = (ex : Int) - E0) : f.nearest neg (M * 2 ^ k) place = f.word neg (ex * 2 ^ fb + M) := by
  have hm : M * 2 ^ k ≠ 0 := by have := Nat.mul_pos hM0 (Nat.two_pow_pos k); omega
  -- a common multiple that is great enough
  unfold Format.nearest
  rw [if_neg hm]
  dsimp only
  rw [hf.bits, hf.least]
  have hlog : (M * 2 ^ k).log2 = M.log2 + k := by
    refine (Nat.log2_eq_iff hm).2 ⟨?_, ?_⟩
    · rw [Nat.pow_add]; exact Nat.mul_le_mul_right _ (log2_le (by omega))
    · rw [show M.log2 + k + 1 = M.log2 + 1 + k by omega, Nat.pow_add]
      exact Nat.mul_lt_mul_of_pos_right (lt_log2 M) (Nat.two_pow_pos k)
  have hML : M.log2 ≤ fb := by
    rcases Nat.lt_or_ge fb M.log2 with h | h
    · have h1 : 2 ^ (fb + 1) ≤ 2 ^ M.log2 := Nat.pow_le_pow_right (by decide) h
      have h2 := log2_le (show M ≠ 0 by omega)
      rw [Nat.pow_succ] at h1
      omega
    · exact h
  have hMe : 0 < ex → M.log2 = fb := fun h => by
    have h1 := hMn h
    have := (Nat.le_log2 (show M ≠ 0 by omega)).2 h1
    omega
  have hlast : max (place + ((M * 2 ^ k).log2 : Int) - (fb : Int)) (-(E0 : Int)) = (ex : Int) - E0 := by
    rw [hlog]
    rcases Nat.eq_zero_or_pos ex with h | h
    · omega
    · have := hMe h
      omega
  rw [hlast]
  have hcut : Toward.even.cut neg ((M * 2 ^ k) <<< (place - ((ex : Int) - E0)).toNat) (((ex : Int) - E0) - place).toNat = M := by
    rw [show (place - ((ex : Int) - E0)).toNat = 0 by omega, Nat.shiftLeft_zero, show (((ex : Int) - E0) - place).toNat = k by omega]
    have h := cut_rne neg (M * 2 ^ k) k
    generalize Toward.even.cut neg (M * 2 ^ k) k = m at *
    have hG := Nat.two_pow_pos k
    generalize 2 ^ k = G at *
    obtain ⟨c1, c2⟩ := h
    rw [Nat.add_mul, Nat.one_mul, Nat.mul_assoc] at c1
    rw [Nat.mul_assoc] at c2
    rcases Nat.lt_trichotomy m M with h | h | h
    · exfalso
      have := Nat.mul_le_mul_right G (show m + 1 ≤ M from h)
      rw [Nat.add_mul, Nat.one_mul] at this
      omega
    · exact h
    · exfalso
      have := Nat.mul_le_mul_right G (show M + 1 ≤ m from h)
      rw [Nat.add_mul, Nat.one_mul] at this
      omega
  rw [hcut, show (((ex : Int) - E0) - -(E0 : Int)).toNat = ex by omega]
  have eb : f.binade = 2 ^ fb := by unfold Format.binade; rw [hf.bits]
  rw [eb, Nat.min_eq_left (Nat.le_of_lt hr)]

/-- What a word stands for. -/
theorem read_word {f : Format} {fb E0 M ex : Nat} (neg : Bool) (hf : Fmt f fb E0) (hM : M < 2 * 2 ^ fb) (hMn : 0 < ex → 2 ^ fb ≤ M) (hr : ex * 2 ^ fb + M < f.infRung) (hs : f.infRung < f.signWeight) :
    f.read (f.word neg (ex * 2 ^ fb + M)) = .number neg M ((ex : Int) - E0) := by
  have eb : f.binade = 2 ^ fb := by unfold Format.binade; rw [hf.bits]
  have hp : 0 < 2 ^ fb := Nat.two_pow_pos fb
  have hr2 : ex * 2 ^ fb + M < f.signWeight := by omega
  have h1 : f.word neg (ex * 2 ^ fb + M) / f.signWeight % 2 = neg.toNat ∧ f.word neg (ex * 2 ^ fb + M) % f.signWeight = ex * 2 ^ fb + M := by
    unfold Format.word
    cases neg
    · simp only [Bool.false_eq_true, if_false, Bool.toNat_false]
      rw [Nat.div_eq_of_lt hr2, Nat.mod_eq_of_lt hr2]
      exact ⟨rfl, rfl⟩
    · simp only [if_true, Bool.toNat_true]
      rw [Nat.add_div_left _ (by omega), Nat.div_eq_of_lt hr2, Nat.add_mod_left, Nat.mod_eq_of_lt hr2]
      exact ⟨rfl, rfl⟩
  unfold Format.read
  dsimp only
  rw [h1.1, h1.2, eb, hf.least]
  have en : (neg.toNat == 1) = neg := by cases neg <;> rfl
  rw [en]
  by_cases hlt : ex * 2 ^ fb + M < 2 ^ fb
  · have : ex = 0 := by
      rcases Nat.eq_zero_or_pos ex with h | h
      · exact h
      · have := hMn h; omega
    subst this
    rw [if_pos hlt]
    simp
  · rw [if_neg hlt, if_pos hr]
    generalize 2 ^ fb = n at *
    have hMge : n ≤ M := by
      rcases Nat.eq_zero_or_pos ex with h | h
      · subst h; omega
      · exact hMn h
    have e : ex * n + M = n * (ex + 1) + (M - n) := by rw [Nat.mul_add, Nat.mul_one, Nat.mul_comm]; omega
    rw [e, Nat.mul_add_mod, Nat.mul_add_div hp, Nat.mod_eq_of_lt (by omega), Nat.div_eq_of_lt (by omega)]
    congr 1
    · omega
    · omega
end Fl
end Go.Proofs.YtbbjjkcjpdmjnaaGreatDoor

/- Plain arithmetic for the law FnBack: a decimal near a float that is not zero is not too small. -/
namespace Go.Proofs.YtbbjjkcjpdmjnaaGreatDoor
namespace Fl

theorem near_half {n r A B : Nat} (hn : 1 ≤ n) (hr : 1 ≤ r) (h : Near n r A B) : B ≤ 2 * A := by
  unfold Near at h
  dsimp only at h
  have hdm : n * (r / n) + r % n = r := Nat.div_add_mod r n
  have hM : 1 ≤ r - (r / n - 1) * n := by
    rcases Nat.eq_zero_or_pos (r / n) with h0 | h0
    · rw [h0]; simp; omega
    · obtain ⟨j, hj⟩ : ∃ j, r / n = j + 1 := ⟨r / n - 1, by omega⟩
      rw [hj] at hdm ⊢
      rw [Nat.mul_add, Nat.mul_one, Nat.mul_comm] at hdm
      rw [Nat.add_sub_cancel]
      omega
  generalize r / n - 1 = e at *
  generalize r - e * n = M at *
  have hX : 1 * B ≤ 2 ^ e * B := Nat.mul_le_mul_right _ (Nat.two_pow_pos e)
  generalize 2 ^ e * B = X at *
  obtain ⟨_, h2⟩ := h
  have m4 : 4 * 1 * X ≤ 4 * M * X := Nat.mul_le_mul_right _ (Nat.mul_le_mul_left _ hM)
  have m2 : 2 * 1 * X ≤ 2 * M * X := Nat.mul_le_mul_right _ (Nat.mul_le_mul_left _ hM)
  split at h2 <;> omega

theorem near_len {n r E0 D b : Nat} {P : Int} (hn : 1 ≤ n) (hr : 1 ≤ r) (h0 : -348 ≤ P) (h1 : P ≤ 347) (hN : Near n r (decA E0 D P) (decB P)) (hD : D < 2 ^ b) : -(E0 : Int) - 1 ≤ b + lp P := by
  have hh := near_half hn hr hN
  rcases Int.lt_or_le ((b : Int) + lp P) (-(E0 : Int) - 1) with h | h
  · exfalso
    obtain ⟨j, hj⟩ : ∃ j : Nat, (j : Int) = -(lp P + 1) := ⟨(-(lp P + 1)).toNat, by omega⟩
    have hl := lp_hi P h0 h1 (i := 0) (j := j) (by omega)
    rw [Nat.pow_zero, Nat.mul_one] at hl
    unfold decA decB at hh
    have hp : 0 < 10 ^ P.toNat := Nat.pow_pos (by decide)
    have h3 : 2 ^ (b + E0 + 1) ≤ 2 ^ j := Nat.pow_le_pow_right (by decide) (by omega)
    have h4 : D * 2 ^ (E0 + 1) < 2 ^ b * 2 ^ (E0 + 1) := Nat.mul_lt_mul_of_pos_right hD (Nat.two_pow_pos _)
    rw [← Nat.pow_add, ← Nat.add_assoc] at h4
    have h5 : D * 2 ^ (E0 + 1) * 10 ^ P.toNat < 2 ^ j * 10 ^ P.toNat := Nat.mul_lt_mul_of_pos_right (Nat.lt_of_lt_of_le h4 h3) hp
    have e5 : D * 2 ^ (E0 + 1) * 10 ^ P.toNat = 2 * (D * 10 ^ P.toNat * 2 ^ E0) := by rw [Nat.pow_succ]; simp only [Nat.mul_assoc, Nat.mul_comm, Nat.mul_left_comm]
    have e6 : 1024 * 10 ^ P.toNat * 2 ^ j = 1024 * (2 ^ j * 10 ^ P.toNat) := by simp only [Nat.mul_assoc, Nat.mul_comm]
    rw [e6] at hl
    omega
  · exact h
end Fl
end Go.Proofs.YtbbjjkcjpdmjnaaGreatDoor

/- Plain arithmetic for the law FnBack: whole numbers as floats, and their quotients by a power of ten. -/
namespace Go.Proofs.YtbbjjkcjpdmjnaaGreatDoor
namespace Fl
open Ieee

/-- A number with fewer digits than the format has. -/
theorem nearest_up {f : Format} {fb E0 M ex mag j : Nat} {place : Int} (neg : Bool) (hf : Fmt f fb E0) (hj : mag * 2 ^ j = M) (hM0 : 2 ^ fb ≤ M) (hM : M < 2 * 2 ^ fb)
    (hr : ex * 2 ^ fb + M < f.infRung) (hp : place - j = (ex : Int) - E0) : f.nearest neg mag place = f.word neg (ex * 2 ^ fb + M) := by
  have hfp : 0 < 2 ^ fb := Nat.two_pow_pos fb
  have hm : mag ≠ 0 := by
    intro h
    rw [h, Nat.zero_mul] at hj
    omega
  unfold Format.nearest
  rw [if_neg hm]
  dsimp only
  rw [hf.bits, hf.least]
  have hlM : M.log2 = fb := (Nat.log2_eq_iff (by omega)).2 ⟨hM0, by rw [Nat.pow_succ]; omega⟩
  have hlog : mag.log2 + j = fb := by
    rw [← hlM, ← hj]
    refine ((Nat.log2_eq_iff (by rw [hj]; omega)).2 ⟨?_, ?_⟩).symm
    · rw [Nat.pow_add]; exact Nat.mul_le_mul_right _ (log2_le hm)
    · rw [show mag.log2 + j + 1 = mag.log2 + 1 + j by omega, Nat.pow_add]
      exact Nat.mul_lt_mul_of_pos_right (lt_log2 mag) (Nat.two_pow_pos j)
  have hlast : max (place + (mag.log2 : Int) - (fb : Int)) (-(E0 : Int)) = (ex : Int) - E0 := by omega
  rw [hlast, show (place - ((ex : Int) - E0)).toNat = j by omega, show (((ex : Int) - E0) - place).toNat = 0 by omega, Nat.shiftLeft_eq, hj]
  have hcut : Toward.even.cut neg M 0 = M := by
    have h := cut_rne neg M 0
    generalize Toward.even.cut neg M 0 = m at *
    unfold Rne at h
    simp only [Nat.pow_zero, Nat.mul_one] at h
    omega
  rw [hcut, show (((ex : Int) - E0) - -(E0 : Int)).toNat = ex by omega]
  have eb : f.binade = 2 ^ fb := by unfold Format.binade; rw [hf.bits]
  rw [eb, Nat.min_eq_left (Nat.le_of_lt hr)]

/-- The quotient with its sticky digit. -/
theorem unr_quot (d T : Nat) (hT : 0 < T) : Unr (2 * (d / T) + (d % T != 0).toNat) (2 * d) T := by
  intro k
  have e := Nat.div_add_mod d T
  have hr := Nat.mod_lt d hT
  generalize d / T = q at *
  generalize d % T = r at *
  have hk : 2 * k * T = 2 * (T * k) := by rw [Nat.mul_assoc, Nat.mul_comm k]
  rw [hk]
  have mono : ∀ a b, a ≤ b → T * a ≤ T * b := fun a b h => Nat.mul_le_mul_left _ h
  rcases Nat.eq_zero_or_pos r with h0 | h0
  · subst h0
    simp only [bne_self_eq_false, Bool.toNat_false, Nat.add_zero]
    rcases Nat.lt_trichotomy q k with h | h | h
    · have := mono (q + 1) k h; rw [Nat.mul_add, Nat.mul_one] at this; omega
    · subst h; omega
    · have := mono (k + 1) q h; rw [Nat.mul_add, Nat.mul_one] at this; omega
  · have hb : (r != 0) = true := by simpa using (show r ≠ 0 by omega)
    rw [hb]
    simp only [Bool.toNat_true]
    rcases Nat.lt_trichotomy q k with h | h | h
    · have := mono (q + 1) k h; rw [Nat.mul_add, Nat.mul_one] at this; omega
    · subst h; omega
    · have := mono (k + 1) q h; rw [Nat.mul_add, Nat.mul_one] at this; omega

/-- A whole number divided by another float that is a power of ten. -/
theorem div_rung {f : Format} {fb E0 M D j r T i : Nat} {qy : Int} (neg : Bool) (hf : Fmt f fb E0) (hr : r < f.infRung) (hj : D * 2 ^ j = M) (hM0 : 2 ^ fb ≤ M) (hT : 0 < T)
    (h10 : T * 2 ^ qy.toNat = 10 ^ i * 2 ^ (-qy).toNat) (hN : Near (2 ^ fb) r (D * 2 ^ E0) (10 ^ i)) (x y : Nat) (hx : f.read x = .number neg M (-(j : Int))) (hy : f.read y = .number false T qy)
    (hMl : M < 2 * 2 ^ fb) : f.div x y = some (f.word neg r) := by
  unfold Format.div
  rw [hx, hy, hf.bits]
  unfold Datum.quotient
  have hT0 : T ≠ 0 := by omega
  dsimp only
  rw [if_neg hT0]
  simp only [Option.map_some, Bool.xor_false, Nat.shiftLeft_eq]
  unfold Format.write
  dsimp only
  have hlM : M.log2 = fb := (Nat.log2_eq_iff (by have := Nat.two_pow_pos fb; omega)).2 ⟨hM0, by rw [Nat.pow_succ]; omega⟩
  rw [hlM]
  obtain ⟨more, hmore⟩ : ∃ more, more = fb + 2 + T.log2 - fb := ⟨_, rfl⟩
  rw [← hmore]
  have hQ : 2 ^ (fb + 1) ≤ M * 2 ^ more / T := by
    rw [Nat.le_div_iff_mul_le hT]
    have h1 : 2 ^ (fb + 1) * T ≤ 2 ^ (fb + 1) * 2 ^ (T.log2 + 1) := Nat.mul_le_mul_left _ (Nat.le_of_lt (lt_log2 T))
    have h2 : 2 ^ fb * 2 ^ more ≤ M * 2 ^ more := Nat.mul_le_mul_right _ hM0
    rw [← Nat.pow_add] at h1 h2
    rw [show fb + 1 + (T.log2 + 1) = fb + more by omega] at h1
    exact Nat.le_trans h1 h2
  have hmag : 2 ^ (fb + 2) ≤ 2 * (M * 2 ^ more / T) + (M * 2 ^ more % T != 0).toNat := by
    rw [Nat.pow_succ 2 (fb + 1)]; omega
  have hp2 : 0 < 2 ^ (fb + 2) := Nat.two_pow_pos _
  rw [nearest_rung (f := f) (fb := fb) (E0 := E0) (A := D * 2 ^ E0) (B := 10 ^ i) neg hf hr (by omega) (unr_quot (M * 2 ^ more) T hT) hT (Nat.pow_pos (by decide)) hN
    ((Nat.le_log2 (by omega)).2 hmag) ?_]
  intro e2 drop hed
  have key : 2 ^ (1 + more + e2 + j) * 10 ^ i * 2 ^ (-qy).toNat = T * 2 ^ (E0 + drop + (-qy).toNat) * 1 := by
    rw [Nat.mul_assoc, ← h10, Nat.mul_left_comm, ← Nat.pow_add, Nat.mul_one]
    congr 2
    omega
  have hpos : 0 < 2 ^ (-qy).toNat := Nat.two_pow_pos _
  refine Nat.eq_of_mul_eq_mul_right hpos ?_
  rw [← hj]
  calc 2 * (D * 2 ^ j * 2 ^ more) * (2 ^ e2 * 10 ^ i) * 2 ^ (-qy).toNat = D * (2 ^ (1 + more + e2 + j) * 10 ^ i * 2 ^ (-qy).toNat) := by
        rw [Nat.pow_add, Nat.pow_add, Nat.pow_add, Nat.pow_one]; simp only [Nat.mul_assoc, Nat.mul_comm, Nat.mul_left_comm]
    _ = D * (T * 2 ^ (E0 + drop + (-qy).toNat) * 1) := by rw [key]
    _ = D * (T * 2 ^ (E0 + drop + (-qy).toNat)) := by rw [Nat.mul_one]
    _ = D * 2 ^ E0 * (2 ^ drop * T) * 2 ^ (-qy).toNat := by
        rw [Nat.pow_add, Nat.pow_add]; simp only [Nat.mul_assoc, Nat.mul_comm, Nat.mul_left_comm]
end Fl
end Go.Proofs.YtbbjjkcjpdmjnaaGreatDoor
