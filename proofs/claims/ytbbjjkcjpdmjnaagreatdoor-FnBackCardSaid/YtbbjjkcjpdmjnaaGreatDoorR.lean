/- Plain arithmetic for the law FnBack: the scaled product of the library is the exact one but for its last, sticky bit. -/
import Derived.Test.YtbbjjkcjpdmjnaaGreatDoorQ
namespace Go.Proofs.YtbbjjkcjpdmjnaaGreatDoor
namespace Fl

/-- What the program's uscale reckons. -/
def uscaleN (x h l s : Nat) : Nat :=
  let H := x * h / 18446744073709551616
  let mid := x * h % 18446744073709551616
  if H % 2 ^ s ≠ 0 then H / 2 ^ s ||| 1
  else
    let mid2 := x * l / 18446744073709551616
    (if mid < mid2 then H - 1 else H) / 2 ^ s ||| (if (if mid < mid2 then mid + 18446744073709551616 - mid2 else mid - mid2) > 1 then 1 else 0)

/-- u tells how A stands to each even multiple of B. -/
def Unr (u A B : Nat) : Prop := ∀ k, (u < 2 * k ↔ A < 2 * k * B) ∧ (2 * k < u ↔ 2 * k * B < A)

theorem or_one (q : Nat) : q ||| 1 = 2 * (q / 2) + 1 := by
  apply Nat.eq_of_testBit_eq
  intro i
  rw [Nat.testBit_or]
  cases i with
  | zero => simp [Nat.testBit_zero, Nat.add_mod]
  | succ i =>
    rw [Nat.testBit_add_one, Nat.testBit_add_one, Nat.testBit_add_one]
    have e1 : 1 / 2 = 0 := rfl
    have e2 : (2 * (q / 2) + 1) / 2 = q / 2 := by omega
    rw [e1, e2, Nat.zero_testBit, Bool.or_false]

theorem or_zero (q : Nat) : q ||| 0 = q := Nat.or_zero q

/-- The reckoned product, in one number. -/
theorem uscaleN_eq (x h l s : Nat) (hx : x < 18446744073709551616) (hl : l < 18446744073709551616) (hh : 1 ≤ h) :
    uscaleN x h l s = ((x * h - x * l / 18446744073709551616) / (2 ^ s * 18446744073709551616) ||| (if (x * h - x * l / 18446744073709551616) % (2 ^ s * 18446744073709551616) > 1 then 1 else 0))
      ∧ x * l / 18446744073709551616 ≤ x * h := by
  have hm : x * l / 18446744073709551616 ≤ 18446744073709551614 := by
    have h1 : x * l ≤ 18446744073709551615 * 18446744073709551615 := Nat.mul_le_mul (by omega) (by omega)
    have h2 := Nat.div_le_div_right (c := 18446744073709551616) h1
    exact Nat.le_trans h2 (by decide)
  have hle : x * l / 18446744073709551616 ≤ x * h := by
    have h1 : x * l ≤ x * 18446744073709551616 := Nat.mul_le_mul_left _ (by omega)
    have h2 := Nat.div_le_div_right (c := 18446744073709551616) h1
    rw [Nat.mul_div_cancel _ (by decide)] at h2
    have h3 : x * 1 ≤ x * h := Nat.mul_le_mul_left _ hh
    omega
  refine ⟨?_, hle⟩
  unfold uscaleN
  generalize x * l / 18446744073709551616 = mid2 at *
  generalize x * h = T at *
  have hS : 0 < 2 ^ s := Nat.two_pow_pos s
  generalize 2 ^ s = S at *
  have eT : T = 18446744073709551616 * (T / 18446744073709551616) + T % 18446744073709551616 := (Nat.div_add_mod _ _).symm
  have hmid : T % 18446744073709551616 < 18446744073709551616 := Nat.mod_lt _ (by decide)
  generalize T / 18446744073709551616 = H at *
  generalize T % 18446744073709551616 = mid at *
  have eH : H = S * (H / S) + H % S := (Nat.div_add_mod _ _).symm
  have hb : H % S < S := Nat.mod_lt _ hS
  generalize hA : H / S = a at *
  generalize hB : H % S = b at *
  have hc : S * 18446744073709551616 > 0 := Nat.mul_pos hS (by decide)
  have key : ∀ q r, r < S * 18446744073709551616 → T - mid2 = S * 18446744073709551616 * q + r → (T - mid2) / (S * 18446744073709551616) = q ∧ (T - mid2) % (S * 18446744073709551616) = r := by
    intro q r hr e
    rw [e, Nat.mul_add_div hc, Nat.div_eq_of_lt hr, Nat.mul_add_mod, Nat.mod_eq_of_lt hr]
    exact ⟨rfl, rfl⟩
  have eS : S * 18446744073709551616 * a = 18446744073709551616 * (S * a) := by rw [Nat.mul_comm S, Nat.mul_assoc]
  dsimp only
  by_cases hb0 : b = 0
  · subst hb0
    rw [if_neg (by rw [hB]; simp)]
    by_cases hlt : mid < mid2
    · rw [if_pos hlt, if_pos hlt]
      have ha : 1 ≤ a := by
        rcases Nat.eq_zero_or_pos a with h0 | h0
        · subst h0; rw [Nat.mul_zero] at eH; omega
        · exact h0
      obtain ⟨a', rfl⟩ : ∃ a', a = a' + 1 := ⟨a - 1, by omega⟩
      have e1 : S * 18446744073709551616 * a' + S * 18446744073709551616 = 18446744073709551616 * (S * (a' + 1)) := by rw [← eS]; rw [Nat.mul_add, Nat.mul_one]
      obtain ⟨k1, k2⟩ := key a' (S * 18446744073709551616 - (mid2 - mid)) (by omega) (by
        have : S * 18446744073709551616 ≥ 1 * 18446744073709551616 := Nat.mul_le_mul_right _ hS
        omega)
      have e2 : (H - 1) / S = a' := by
        have : H - 1 = S * a' + (S - 1) := by
          have : S * (a' + 1) = S * a' + S := by rw [Nat.mul_add, Nat.mul_one]
          omega
        rw [this, Nat.mul_add_div hS, Nat.div_eq_of_lt (by omega), Nat.add_zero]
      rw [k1, k2, e2]
      have : S * 18446744073709551616 ≥ 1 * 18446744073709551616 := Nat.mul_le_mul_right _ hS
      rw [if_pos (by omega), if_pos (by omega)]
    · rw [if_neg hlt, if_neg hlt]
      obtain ⟨k1, k2⟩ := key a (mid - mid2) (by
        have : S * 18446744073709551616 ≥ 1 * 18446744073709551616 := Nat.mul_le_mul_right _ hS
        omega) (by omega)
      rw [k1, k2, hA]
  · rw [if_pos (by rw [hB]; exact hb0)]
    have hb1 : b + 1 ≤ S := hb
    have h1 : (b + 1) * 18446744073709551616 ≤ S * 18446744073709551616 := Nat.mul_le_mul_right _ hb1
    obtain ⟨k1, k2⟩ := key a (b * 18446744073709551616 + mid - mid2) (by omega) (by omega)
    rw [k1, k2, hA, if_pos (by omega)]

/-- From the bounds and the gap to the exact comparison. -/
theorem unr_of (R A d m : Nat) (hd : 0 < d) (hm : 0 < m) (h1 : A ≤ R * d) (h2 : R * d < A + 2 * d)
    (hg : ∀ z, z * (d * m) = A ∨ z * (d * m) + 2 * d ≤ A ∨ A + 2 * d ≤ z * (d * m)) :
    Unr (R / m ||| (if R % m > 1 then 1 else 0)) A (d * m) := by
  have eR : R = m * (R / m) + R % m := (Nat.div_add_mod _ _).symm
  have hr : R % m < m := Nat.mod_lt _ hm
  generalize R / m = Q at *
  generalize R % m = r at *
  have eRd : R * d = Q * (d * m) + r * d := by
    rw [eR, Nat.add_mul, Nat.mul_right_comm, Nat.mul_comm (m * d), Nat.mul_comm m d]
  have mono : ∀ i j, i ≤ j → i * (d * m) ≤ j * (d * m) := fun i j h => Nat.mul_le_mul_right _ h
  have hdm : 0 < d * m := Nat.mul_pos hd hm
  intro k
  by_cases hr2 : r > 1
  · rw [if_pos hr2, or_one]
    have hlo : Q * (d * m) < A := by
      have : 2 * d ≤ r * d := Nat.mul_le_mul_right _ hr2
      omega
    have hhi : A < (Q + 1) * (d * m) := by
      have : (r + 1) * d ≤ m * d := Nat.mul_le_mul_right _ hr
      rw [Nat.add_mul] at this ⊢
      rw [Nat.mul_comm m d] at this
      omega
    by_cases hk : 2 * k ≤ Q
    · have := mono (2 * k) Q hk
      exact ⟨⟨fun h => by omega, fun h => by omega⟩, ⟨fun _ => by omega, fun _ => by omega⟩⟩
    · have := mono (Q + 1) (2 * k) (by omega)
      exact ⟨⟨fun _ => by omega, fun _ => by omega⟩, ⟨fun h => by omega, fun h => by omega⟩⟩
  · rw [if_neg hr2, or_zero]
    have hA : A = Q * (d * m) := by
      have hr1 : r * d ≤ 1 * d := Nat.mul_le_mul_right _ (by omega)
      rcases hg Q with h | h | h <;> omega
    subst hA
    rcases Nat.lt_trichotomy (2 * k) Q with hk | hk | hk
    · have := mono (2 * k + 1) Q hk
      rw [Nat.add_mul] at this
      exact ⟨⟨fun h => by omega, fun h => by omega⟩, ⟨fun _ => by omega, fun _ => by omega⟩⟩
    · rw [hk]
      exact ⟨⟨fun h => by omega, fun h => by omega⟩, ⟨fun h => by omega, fun h => by omega⟩⟩
    · have := mono (Q + 1) (2 * k) hk
      rw [Nat.add_mul] at this
      exact ⟨⟨fun _ => by omega, fun _ => by omega⟩, ⟨fun h => by omega, fun h => by omega⟩⟩

/-- The products that are looked at. -/
def Good (p : Int) (x s : Nat) : Prop :=
  (0 ≤ p ∧ p ≤ 27) ∨ (-345 ≤ p ∧ p ≤ -1 ∧ 5 ≤ s ∧ 128 ∣ x) ∨ (1 ≤ p ∧ p ≤ 325 ∧ 5 ≤ s ∧ 512 ∣ x) ∨ (1 ≤ p ∧ p ≤ 295 ∧ 8 ≤ s ∧ 100 ∣ x)

theorem away_at {g N d M0 X s0 : Nat} (h : Away (g * N) (d * (2 ^ s0 * 18446744073709551616)) (2 * d) X) (y s : Nat) (hy : y ≤ X) (hs : s0 ≤ s) (_ : M0 = M0) :
    ∀ z, z * (d * (2 ^ s * 18446744073709551616)) = g * y * N ∨ z * (d * (2 ^ s * 18446744073709551616)) + 2 * d ≤ g * y * N ∨ g * y * N + 2 * d ≤ z * (d * (2 ^ s * 18446744073709551616)) := by
  intro z
  have e : z * (d * (2 ^ s * 18446744073709551616)) = z * 2 ^ (s - s0) * (d * (2 ^ s0 * 18446744073709551616)) := by
    have : 2 ^ s = 2 ^ (s - s0) * 2 ^ s0 := by rw [← Nat.pow_add]; congr 1; omega
    rw [this]
    simp only [Nat.mul_assoc, Nat.mul_left_comm]
  have e2 : g * y * N = y * (g * N) := by rw [Nat.mul_comm g y, Nat.mul_assoc]
  rw [e, e2]
  exact h y (z * 2 ^ (s - s0)) hy

/-- The small powers are exact and even. -/
theorem small_ok : ((List.range 28).all fun i => hi i * den i == num i && hi i % 2 == 0 && lo i == 0) = true := by kernel_rfl

theorem uscale_unr (p : Int) (x s : Nat) (hx : x < 18446744073709551616) (hg : Good p x s) : Unr (uscaleN x (hi p) (lo p) s) (x * num p) (den p * (2 ^ s * 18446744073709551616)) := by
  have hp : -348 ≤ p ∧ p ≤ 347 := by rcases hg with h | h | h | h <;> omega
  obtain ⟨t1, t2, t3, t4, t5⟩ := tab_ok p hp.1 hp.2
  obtain ⟨e, hle⟩ := uscaleN_eq x (hi p) (lo p) s hx t5 (by omega)
  rw [e]
  have hd := den_pos p
  have hm : 0 < 2 ^ s * 18446744073709551616 := Nat.mul_pos (Nat.two_pow_pos s) (by decide)
  -- the bounds
  have eR : (x * hi p - x * lo p / 18446744073709551616) * 18446744073709551616 = x * (hi p * 18446744073709551616 - lo p) + x * lo p % 18446744073709551616 := by
    have hq := Nat.div_add_mod (x * lo p) 18446744073709551616
    rw [Nat.mul_sub, ← Nat.mul_assoc, Nat.sub_mul]
    have : x * lo p / 18446744073709551616 * 18446744073709551616 ≤ x * hi p * 18446744073709551616 := Nat.mul_le_mul_right _ hle
    have h3 : x * lo p ≤ x * hi p * 18446744073709551616 := by
      rw [Nat.mul_assoc]; exact Nat.mul_le_mul_left _ (by omega)
    omega
  have hmod : x * lo p % 18446744073709551616 < 18446744073709551616 := Nat.mod_lt _ (by decide)
  have hlo2 : lo p < hi p * 18446744073709551616 := by omega
  generalize hRd : x * hi p - x * lo p / 18446744073709551616 = R at *
  generalize hLd : x * lo p % 18446744073709551616 = L at *
  generalize hPd : hi p * 18446744073709551616 - lo p = P at *
  have hP : 1 ≤ P := by omega
  generalize hdd : den p = d at *
  generalize hnn : num p = n at *
  have b1 : x * n ≤ R * d := by
    have h1 : x * (n * 18446744073709551616) ≤ x * (P * d) := Nat.mul_le_mul_left _ t1
    have h2 : x * P * d ≤ R * 18446744073709551616 * d := Nat.mul_le_mul_right _ (by omega)
    have h3 : x * n * 18446744073709551616 ≤ R * d * 18446744073709551616 := by
      rw [Nat.mul_assoc, Nat.mul_right_comm R d]
      rw [Nat.mul_assoc] at h2
      exact Nat.le_trans h1 h2
    exact Nat.le_of_mul_le_mul_right h3 (by decide)
  have b2 : R * d < x * n + 2 * d := by
    have h1 : x * ((P - 1) * d) ≤ x * (n * 18446744073709551616) := Nat.mul_le_mul_left _ (by omega)
    have h2 : R * 18446744073709551616 * d < (x * (P - 1) + 2 * 18446744073709551616) * d := by
      refine Nat.mul_lt_mul_of_pos_right ?_ hd
      have : x * P = x * (P - 1) + x := by
        obtain ⟨P', rfl⟩ : ∃ P', P = P' + 1 := ⟨P - 1, by omega⟩
        rw [Nat.mul_add, Nat.mul_one]; rfl
      omega
    have h3 : R * d * 18446744073709551616 < (x * n + 2 * d) * 18446744073709551616 := by
      rw [Nat.mul_right_comm R d, Nat.add_mul, Nat.mul_assoc x n]
      rw [Nat.add_mul, Nat.mul_assoc x (P - 1) d] at h2
      have : 2 * 18446744073709551616 * d = 2 * d * 18446744073709551616 := Nat.mul_right_comm _ _ _
      omega
    exact Nat.lt_of_mul_lt_mul_right h3
  rcases hg with h | h | h | h
  · -- the small powers
    obtain ⟨i, rfl⟩ : ∃ i : Nat, p = i := ⟨p.toNat, by omega⟩
    have hs := List.all_eq_true.1 small_ok i (List.mem_range.2 (by omega))
    simp only [Bool.and_eq_true, beq_iff_eq] at hs
    obtain ⟨⟨s1, s2⟩, s3⟩ := hs
    rw [hdd, hnn] at s1
    have hR : R = x * hi (i : Int) := by rw [← hRd, s3]; simp
    have hA : x * n = R * d := by rw [hR, ← s1, Nat.mul_assoc]
    have hpar : R % (2 ^ s * 18446744073709551616) ≠ 1 := by
      intro h1
      have e2 : 2 ^ s * 18446744073709551616 = 2 * (2 ^ s * 9223372036854775808) := by rw [show (18446744073709551616 : Nat) = 9223372036854775808 * 2 from rfl, ← Nat.mul_assoc, Nat.mul_comm]
      have : R % 2 = 1 := by
        have h2 := Nat.mod_mul_right_mod R 2 (2 ^ s * 9223372036854775808)
        rw [← e2, h1] at h2
        exact h2.symm
      rw [hR, Nat.mul_mod, s2, Nat.mul_zero] at this
      cases this
    have hpar0 := hpar
    rw [hA]
    have eR2 : R = (2 ^ s * 18446744073709551616) * (R / (2 ^ s * 18446744073709551616)) + R % (2 ^ s * 18446744073709551616) := (Nat.div_add_mod _ _).symm
    have hr : R % (2 ^ s * 18446744073709551616) < 2 ^ s * 18446744073709551616 := Nat.mod_lt _ hm
    clear t1 t2 b1 b2 eR hRd
    clear hR hA hpar
    have hpar := hpar0
    clear hpar0 s2 s3 hx t3 t4 t5
    generalize 2 ^ s * 18446744073709551616 = m at hm hpar eR2 hr ⊢
    generalize R / m = Q at *
    generalize R % m = r at *
    intro k
    have el : R * d < 2 * k * (d * m) ↔ R < 2 * k * m := by
      rw [show 2 * k * (d * m) = 2 * k * m * d by simp only [Nat.mul_assoc, Nat.mul_comm, Nat.mul_left_comm]]
      exact ⟨fun h => Nat.lt_of_mul_lt_mul_right h, fun h => Nat.mul_lt_mul_of_pos_right h hd⟩
    have eg : 2 * k * (d * m) < R * d ↔ 2 * k * m < R := by
      rw [show 2 * k * (d * m) = 2 * k * m * d by simp only [Nat.mul_assoc, Nat.mul_comm, Nat.mul_left_comm]]
      exact ⟨fun h => Nat.lt_of_mul_lt_mul_right h, fun h => Nat.mul_lt_mul_of_pos_right h hd⟩
    rw [el, eg]
    have mono : ∀ i j, i ≤ j → i * m ≤ j * m := fun i j h => Nat.mul_le_mul_right _ h
    rw [Nat.mul_comm m Q] at eR2
    by_cases hr2 : r > 1
    · rw [if_pos hr2, or_one]
      by_cases hk : 2 * k ≤ Q
      · have := mono (2 * k) Q hk
        exact ⟨⟨fun h => by omega, fun h => by omega⟩, ⟨fun _ => by omega, fun _ => by omega⟩⟩
      · have := mono (Q + 1) (2 * k) (by omega)
        rw [Nat.add_mul] at this
        exact ⟨⟨fun _ => by omega, fun _ => by omega⟩, ⟨fun h => by omega, fun h => by omega⟩⟩
    · rw [if_neg hr2, or_zero]
      have r0 : r = 0 := by omega
      rcases Nat.lt_trichotomy (2 * k) Q with hk | hk | hk
      · have := mono (2 * k + 1) Q hk
        rw [Nat.add_mul] at this
        exact ⟨⟨fun h => by omega, fun h => by omega⟩, ⟨fun _ => by omega, fun _ => by omega⟩⟩
      · rw [hk]
        exact ⟨⟨fun h => by omega, fun h => by omega⟩, ⟨fun h => by omega, fun h => by omega⟩⟩
      · have := mono (Q + 1) (2 * k) hk
        rw [Nat.add_mul] at this
        exact ⟨⟨fun _ => by omega, fun _ => by omega⟩, ⟨fun h => by omega, fun h => by omega⟩⟩
  · obtain ⟨y, rfl⟩ := h.2.2.2
    refine unr_of R _ d _ hd hm b1 b2 ?_
    have := gap_neg p h.1 h.2.1
    rw [hdd, hnn] at this
    exact away_at (M0 := 0) (s0 := 5) this y s (by omega) h.2.2.1 rfl
  · obtain ⟨y, rfl⟩ := h.2.2.2
    refine unr_of R _ d _ hd hm b1 b2 ?_
    have := gap_pos p h.1 h.2.1
    rw [hdd, hnn] at this
    exact away_at (M0 := 0) (s0 := 5) this y s (by omega) h.2.2.1 rfl
  · obtain ⟨y, rfl⟩ := h.2.2.2
    refine unr_of R _ d _ hd hm b1 b2 ?_
    have := gap_hun p h.1 h.2.1
    rw [hdd, hnn] at this
    exact away_at (M0 := 0) (s0 := 8) this y s (by omega) h.2.2.1 rfl
end Fl
end Go.Proofs.YtbbjjkcjpdmjnaaGreatDoor

/- Plain arithmetic for the law FnBack: rounding to the nearest, and which numbers are nearest to a float. -/
namespace Go.Proofs.YtbbjjkcjpdmjnaaGreatDoor
namespace Fl

/-- m is A / B rounded to the nearest whole number, to the even one of two. -/
def Rne (m A B : Nat) : Prop := (2 * A < (2 * m + 1) * B ∨ (2 * A = (2 * m + 1) * B ∧ m % 2 = 0)) ∧ (2 * m * B < 2 * A + B ∨ (2 * m * B = 2 * A + B ∧ m % 2 = 0))

/-- A fraction may be written in other words. -/
theorem lt_frac {a b A B A2 B2 : Nat} (hB : 0 < B) (hB2 : 0 < B2) (e : A * B2 = A2 * B) : (a * A < b * B ↔ a * A2 < b * B2) := by
  have e1 : a * A * B2 = a * A2 * B := by rw [Nat.mul_assoc, e, Nat.mul_assoc]
  have e2 : b * B * B2 = b * B2 * B := Nat.mul_right_comm _ _ _
  constructor
  · intro h
    have := Nat.mul_lt_mul_of_pos_right h hB2
    rw [e1, e2] at this
    exact Nat.lt_of_mul_lt_mul_right this
  · intro h
    have := Nat.mul_lt_mul_of_pos_right h hB
    rw [← e1, ← e2] at this
    exact Nat.lt_of_mul_lt_mul_right this
theorem gt_frac {a b A B A2 B2 : Nat} (hB : 0 < B) (hB2 : 0 < B2) (e : A * B2 = A2 * B) : (b * B < a * A ↔ b * B2 < a * A2) := by
  have e1 : a * A * B2 = a * A2 * B := by rw [Nat.mul_assoc, e, Nat.mul_assoc]
  have e2 : b * B * B2 = b * B2 * B := Nat.mul_right_comm _ _ _
  constructor
  · intro h
    have := Nat.mul_lt_mul_of_pos_right h hB2
    rw [e1, e2] at this
    exact Nat.lt_of_mul_lt_mul_right this
  · intro h
    have := Nat.mul_lt_mul_of_pos_right h hB
    rw [← e1, ← e2] at this
    exact Nat.lt_of_mul_lt_mul_right this
theorem eq_frac {a b A B A2 B2 : Nat} (hB : 0 < B) (hB2 : 0 < B2) (e : A * B2 = A2 * B) : (a * A = b * B ↔ a * A2 = b * B2) := by
  have h1 := lt_frac (a := a) (b := b) hB hB2 e
  have h2 := gt_frac (a := a) (b := b) hB hB2 e
  omega

theorem rne_frac {m A B A2 B2 : Nat} (hB : 0 < B) (hB2 : 0 < B2) (e : A * B2 = A2 * B) (h : Rne m A B) : Rne m A2 B2 := by
  have h1 := lt_frac (a := 2) (b := 2 * m + 1) hB hB2 e
  have h2 := eq_frac (a := 2) (b := 2 * m + 1) hB hB2 e
  have sub : ∀ X : Nat, 2 * m * X = (2 * m) * X := fun _ => rfl
  refine ⟨by rcases h.1 with h | h <;> omega, ?_⟩
  rcases Nat.eq_zero_or_pos m with h0 | h0
  · subst h0
    simp only [Nat.mul_zero, Nat.zero_mul]
    left; omega
  · obtain ⟨j, rfl⟩ : ∃ j, m = j + 1 := ⟨m - 1, by omega⟩
    have e1 : ∀ X : Nat, 2 * (j + 1) * X = (2 * j + 1) * X + X := fun X => by rw [show 2 * (j + 1) = 2 * j + 1 + 1 by omega, Nat.add_mul (2 * j + 1), Nat.one_mul]
    have h3 := gt_frac (a := 2) (b := 2 * j + 1) hB hB2 e
    have h4 := eq_frac (a := 2) (b := 2 * j + 1) hB hB2 e
    have h5 := h.2
    rw [e1] at h5 ⊢
    rcases h5 with h5 | h5
    · left; have := h3.1 (by omega); omega
    · right; have := h4.1 (by omega); omega

/-- What the program's round reckons. -/
def roundN (u : Nat) : Nat := (u + 1 + u / 4 % 2) / 4

theorem rne_of_unr {u A B : Nat} (h : Unr u A B) : Rne (roundN u) A (4 * B) := by
  unfold roundN
  obtain ⟨m, hm⟩ : ∃ m, m = (u + 1 + u / 4 % 2) / 4 := ⟨_, rfl⟩
  rw [← hm]
  have ud : (u < 4 * m + 2 ∨ (u = 4 * m + 2 ∧ m % 2 = 0)) ∧ (4 * m < u + 2 ∨ (4 * m = u + 2 ∧ m % 2 = 0)) := by
    have eu : u = 4 * (u / 4) + u % 4 := (Nat.div_add_mod u 4).symm
    have hr : u % 4 < 4 := Nat.mod_lt _ (by decide)
    generalize u / 4 = q at *
    generalize u % 4 = r at *
    subst eu
    have hr4 : r = 0 ∨ r = 1 ∨ r = 2 ∨ r = 3 := by omega
    rcases Nat.mod_two_eq_zero_or_one q with h0 | h0 <;> rw [h0] at hm <;> rcases hr4 with rfl | rfl | rfl | rfl <;> omega
  obtain ⟨up, dn⟩ := ud
  have e1 : ∀ c : Nat, (2 * m + 1) * (4 * B) = 2 * (2 * (2 * m + 1) * B) := fun _ => by
    simp only [Nat.mul_assoc, Nat.mul_left_comm]; 
    rw [show (4 : Nat) = 2 * 2 from rfl]; simp only [Nat.mul_assoc, Nat.mul_left_comm]
  obtain ⟨k1, k2⟩ := h (2 * m + 1)
  refine ⟨?_, ?_⟩
  · rw [e1 0]
    rcases up with up | ⟨up, hev⟩
    · left; have := k1.1 (by omega); omega
    · right
      refine ⟨?_, hev⟩
      have n1 : ¬ (A < 2 * (2 * m + 1) * B) := fun h => by have := k1.2 h; omega
      have n2 : ¬ (2 * (2 * m + 1) * B < A) := fun h => by have := k2.2 h; omega
      omega
  · rcases Nat.eq_zero_or_pos m with h0 | h0
    · rw [h0]
      simp only [Nat.mul_zero, Nat.zero_mul]
      rcases Nat.eq_zero_or_pos B with hB | hB
      · subst hB
        have := h 0
        simp only [Nat.mul_zero, Nat.zero_mul] at this
        have k3 := (h (u + 1)).1.1 (by omega)
        rw [Nat.mul_zero] at k3; omega
      · left; omega
    · obtain ⟨j, rfl⟩ : ∃ j, m = j + 1 := ⟨m - 1, by omega⟩
      have e2 : 2 * (j + 1) * (4 * B) = 2 * (2 * (2 * j + 1) * B) + 4 * B := by
        rw [show 2 * (j + 1) = 2 * j + 1 + 1 by omega, Nat.add_mul (2 * j + 1), Nat.one_mul]
        congr 1
        rw [show (4 : Nat) = 2 * 2 from rfl]; simp only [Nat.mul_assoc, Nat.mul_left_comm]
      obtain ⟨k3, k4⟩ := h (2 * j + 1)
      rw [e2]
      rcases dn with dn | ⟨dn, hev⟩
      · left; have := k4.1 (by omega); omega
      · right
        refine ⟨?_, hev⟩
        have n1 : ¬ (A < 2 * (2 * j + 1) * B) := fun h => by have := k3.2 h; omega
        have n2 : ¬ (2 * (2 * j + 1) * B < A) := fun h => by have := k4.2 h; omega
        omega

/-- One binary digit less. -/
theorem unr_half {u A B : Nat} (h : Unr u A B) : Unr (u / 2 ||| u % 2) A (2 * B) := by
  intro k
  obtain ⟨k1, k2⟩ := h (2 * k)
  have e : 2 * k * (2 * B) = 2 * (2 * k) * B := by simp only [Nat.mul_assoc, Nat.mul_left_comm]
  rw [e]
  rcases Nat.mod_two_eq_zero_or_one u with h0 | h0
  · rw [h0, or_zero]
    exact ⟨⟨fun h => k1.1 (by omega), fun h => by have := k1.2 h; omega⟩, ⟨fun h => k2.1 (by omega), fun h => by have := k2.2 h; omega⟩⟩
  · rw [h0, or_one]
    exact ⟨⟨fun h => k1.1 (by omega), fun h => by have := k1.2 h; omega⟩, ⟨fun h => k2.1 (by omega), fun h => by have := k2.2 h; omega⟩⟩

/-- A / B, in units of the format's last place, lies where the nearest float is that of rung r (n: the rungs of a binade). -/
def Near (n r A B : Nat) : Prop :=
  let e := r / n - 1
  let M := r - e * n
  (2 * A < (2 * M + 1) * (2 ^ e * B) ∨ (2 * A = (2 * M + 1) * (2 ^ e * B) ∧ r % 2 = 0)) ∧
  (if M = n ∧ 0 < e then (4 * M * (2 ^ e * B) < 4 * A + 2 ^ e * B ∨ (4 * M * (2 ^ e * B) = 4 * A + 2 ^ e * B ∧ r % 2 = 0))
    else (2 * M * (2 ^ e * B) < 2 * A + 2 ^ e * B ∨ (2 * M * (2 ^ e * B) = 2 * A + 2 ^ e * B ∧ r % 2 = 0)))

/-- The rung of a number out of its place and its rounded digits. -/
theorem rung_of {n r A B m e2 : Nat} (hn : 2 ≤ n) (hev : n % 2 = 0) (hB : 0 < B) (hN : Near n r A B) (hR : Rne m A (2 ^ e2 * B))
    (hlo : e2 = 0 ∨ 4 * n * (2 ^ e2 * B) ≤ 4 * A + 2 ^ e2 * B) (hhi : A < 2 * n * (2 ^ e2 * B)) : e2 * n + m = r := by
  unfold Near at hN
  dsimp only at hN
  obtain ⟨e, he⟩ : ∃ e, e = r / n - 1 := ⟨_, rfl⟩
  obtain ⟨M, hM⟩ : ∃ M, M = r - e * n := ⟨_, rfl⟩
  rw [← he] at hN
  rw [← hM] at hN
  have hdm : n * (r / n) + r % n = r := Nat.div_add_mod r n
  have hmod : r % n < n := Nat.mod_lt _ (by omega)
  have hr : r = e * n + M ∧ M < 2 * n ∧ (0 < e → n ≤ M) := by
    rcases Nat.eq_zero_or_pos (r / n) with h0 | h0
    · have : e = 0 := by omega
      rw [h0] at hdm
      subst this
      simp only [Nat.zero_mul] at hM ⊢
      omega
    · have e1 : n * (r / n) = e * n + n := by
        rw [show r / n = e + 1 by omega, Nat.mul_add, Nat.mul_one, Nat.mul_comm]
      omega
  obtain ⟨hr, hM2, hMn⟩ := hr
  have hpar : r % 2 = M % 2 := by
    rw [hr, Nat.add_mod, Nat.mul_mod, hev, Nat.mul_zero, Nat.zero_mod, Nat.zero_add, Nat.mod_mod]
  clear he hM hdm hmod
  rw [hpar] at hN
  obtain ⟨hU, hL⟩ := hN
  have hX : 0 < 2 ^ e * B := Nat.mul_pos (Nat.two_pow_pos e) hB
  rcases Nat.lt_trichotomy e2 e with h | h | h
  · -- a place too low: the number is just below a power of two
    have hp : ∃ c, 1 ≤ c ∧ 2 ^ e * B = 2 * c * (2 ^ e2 * B) ∧ (c = 1 → e = e2 + 1) := by
      refine ⟨2 ^ (e - e2 - 1), Nat.two_pow_pos _, ?_, fun hc => ?_⟩
      · have : 2 ^ e = 2 * 2 ^ (e - e2 - 1) * 2 ^ e2 := by
          rw [← Nat.pow_succ', ← Nat.pow_add]; congr 1; omega
        rw [this, Nat.mul_assoc]
      · rcases Nat.eq_zero_or_pos (e - e2 - 1) with h0 | h0
        · omega
        · have : 2 ^ 1 ≤ 2 ^ (e - e2 - 1) := Nat.pow_le_pow_right (by decide) h0
          omega
    obtain ⟨c, c1, hc, hce⟩ := hp
    rw [hc] at hU hL
    have hY : 0 < 2 ^ e2 * B := Nat.mul_pos (Nat.two_pow_pos e2) hB
    clear hX hc hlo
    generalize 2 ^ e2 * B = Y at *
    have hMge := hMn (by omega)
    -- M is the least
    have cY : 1 * Y ≤ c * Y := Nat.mul_le_mul_right _ c1
    have a1 : ∀ k : Nat, k * (2 * c * Y) = 2 * (k * (c * Y)) := fun k => by simp only [Nat.mul_assoc, Nat.mul_left_comm]
    have a0 : 2 * c * Y = 2 * (c * Y) := Nat.mul_assoc _ _ _
    have nY : n * (1 * Y) ≤ n * (c * Y) := Nat.mul_le_mul_left _ cY
    rw [Nat.one_mul] at nY cY
    have a2 : 2 * n * Y = 2 * (n * Y) := Nat.mul_assoc _ _ _
    rw [a2] at hhi
    have hMeq : M = n := by
      rcases Nat.eq_or_lt_of_le hMge with h | h
      · exact h.symm
      · exfalso
        rw [if_neg (by omega)] at hL
        have b1 := Nat.mul_le_mul_right (c * Y) (show n + 1 ≤ M from h)
        rw [Nat.add_mul, Nat.one_mul] at b1
        rw [a1, a0] at hL
        have a3 : 2 * M * (c * Y) = 2 * (M * (c * Y)) := Nat.mul_assoc _ _ _
        rw [a3] at hL
        omega
    subst hMeq
    rw [if_pos ⟨rfl, by omega⟩, a1, a0] at hL
    have a3 : 4 * M * (c * Y) = 4 * (M * (c * Y)) := Nat.mul_assoc _ _ _
    rw [a3] at hL
    have hc1 : c = 1 := by
      rcases Nat.eq_or_lt_of_le c1 with h | h
      · exact h.symm
      · exfalso
        have b1 := Nat.mul_le_mul_right Y (show 2 ≤ c from h)
        have b2 := Nat.mul_le_mul_left M b1
        have b3 : M * (2 * Y) = 2 * (M * Y) := Nat.mul_left_comm _ _ _
        have b4 : 2 * (c * Y) ≤ M * (c * Y) := Nat.mul_le_mul_right _ hn
        omega
    subst hc1
    rw [Nat.one_mul] at hL
    have he : e = e2 + 1 := hce rfl
    -- so m is 2 n
    obtain ⟨R1, R2⟩ := hR
    have hm : m = 2 * M := by
      have m1 : (2 * m + 1) * Y = 2 * (m * Y) + Y := by rw [Nat.add_mul, Nat.one_mul, Nat.mul_assoc]
      have m2 : 2 * m * Y = 2 * (m * Y) := Nat.mul_assoc _ _ _
      rw [m1] at R1
      rw [m2] at R2
      rcases Nat.lt_trichotomy m (2 * M) with h | h | h
      · exfalso
        have b1 := Nat.mul_le_mul_right Y (show m + 1 ≤ 2 * M from h)
        rw [Nat.add_mul, Nat.one_mul, a2] at b1
        rcases R1 with R1 | ⟨R1, hm0⟩
        · omega
        · have b2 : m * Y + Y = 2 * (M * Y) := by omega
          have b3 : (m + 1) * Y = 2 * M * Y := by rw [Nat.add_mul, Nat.one_mul, a2]; exact b2
          have := Nat.eq_of_mul_eq_mul_right hY b3
          omega
      · exact h
      · exfalso
        have b1 := Nat.mul_le_mul_right Y (show 2 * M + 1 ≤ m from h)
        rw [Nat.add_mul, Nat.one_mul, a2] at b1
        omega
    rw [hm, hr, he, Nat.add_mul, Nat.one_mul]
    omega
  · subst h
    have hL2 : 2 * M * (2 ^ e2 * B) < 2 * A + 2 ^ e2 * B ∨ (2 * M * (2 ^ e2 * B) = 2 * A + 2 ^ e2 * B ∧ M % 2 = 0) := by
      split at hL
      · have a1 : 4 * M * (2 ^ e2 * B) = 2 * (2 * M * (2 ^ e2 * B)) := by rw [show (4 : Nat) = 2 * 2 from rfl]; simp only [Nat.mul_assoc]
        rw [a1] at hL
        left; omega
      · exact hL
    clear hL hlo hhi
    obtain ⟨R1, R2⟩ := hR
    generalize 2 ^ e2 * B = Y at *
    have m1 : ∀ j, (2 * j + 1) * Y = 2 * (j * Y) + Y := fun j => by rw [Nat.add_mul, Nat.one_mul, Nat.mul_assoc]
    have m2 : ∀ j, 2 * j * Y = 2 * (j * Y) := fun j => Nat.mul_assoc _ _ _
    rw [m1] at R1 hU
    rw [m2] at R2 hL2
    have hm : m = M := by
      rcases Nat.lt_trichotomy m M with h | h | h
      · exfalso
        have b1 := Nat.mul_le_mul_right Y (show m + 1 ≤ M from h)
        rw [Nat.add_mul, Nat.one_mul] at b1
        have b2 : m * Y + Y = M * Y := by omega
        have b3 : (m + 1) * Y = M * Y := by rw [Nat.add_mul, Nat.one_mul]; exact b2
        have := Nat.eq_of_mul_eq_mul_right hX b3
        omega
      · exact h
      · exfalso
        have b1 := Nat.mul_le_mul_right Y (show M + 1 ≤ m from h)
        rw [Nat.add_mul, Nat.one_mul] at b1
        have b2 : M * Y + Y = m * Y := by omega
        have b3 : (M + 1) * Y = m * Y := by rw [Nat.add_mul, Nat.one_mul]; exact b2
        have := Nat.eq_of_mul_eq_mul_right hX b3
        omega
    rw [hm, hr]
  · -- a place too high
    exfalso
    rcases hlo with h0 | hlo
    · omega
    have hp : ∃ c, 1 ≤ c ∧ 2 ^ e2 * B = 2 * c * (2 ^ e * B) := by
      refine ⟨2 ^ (e2 - e - 1), Nat.two_pow_pos _, ?_⟩
      have : 2 ^ e2 = 2 * 2 ^ (e2 - e - 1) * 2 ^ e := by
        rw [← Nat.pow_succ', ← Nat.pow_add]; congr 1; omega
      rw [this, Nat.mul_assoc]
    obtain ⟨c, c1, hc⟩ := hp
    rw [hc] at hlo
    clear hL hR hhi hc
    generalize 2 ^ e * B = Y at *
    have b1 := Nat.mul_le_mul_right Y (show M + 1 ≤ 2 * n from hM2)
    rw [Nat.add_mul, Nat.one_mul] at b1
    have m1 : (2 * M + 1) * Y = 2 * (M * Y) + Y := by rw [Nat.add_mul, Nat.one_mul, Nat.mul_assoc]
    rw [m1] at hU
    have cY : 1 * Y ≤ c * Y := Nat.mul_le_mul_right _ c1
    have nY : n * (1 * Y) ≤ n * (c * Y) := Nat.mul_le_mul_left _ cY
    rw [Nat.one_mul] at cY nY
    have a1 : 4 * n * (2 * c * Y) = 8 * (n * (c * Y)) := by
      rw [show (8 : Nat) = 4 * 2 from rfl]; simp only [Nat.mul_assoc, Nat.mul_left_comm]
    have a0 : 2 * c * Y = 2 * (c * Y) := Nat.mul_assoc _ _ _
    have a2 : 2 * n * Y = 2 * (n * Y) := Nat.mul_assoc _ _ _
    rw [a1, a0] at hlo
    rw [a2] at b1
    -- 8 n c Y <= 4 A + 2 c Y, 2 A <= 2 M Y + Y <= 4 n Y - Y
    have hcc : c = 1 := by
      rcases Nat.eq_or_lt_of_le c1 with h | h
      · exact h.symm
      · exfalso
        have d1 := Nat.mul_le_mul_right Y (show 2 ≤ c from h)
        have d2 := Nat.mul_le_mul_left n d1
        have d3 : n * (2 * Y) = 2 * (n * Y) := Nat.mul_left_comm _ _ _
        have d4 : 2 * (c * Y) ≤ n * (c * Y) := Nat.mul_le_mul_right _ hn
        omega
    subst hcc
    rw [Nat.one_mul] at hlo
    rcases hU with hU | ⟨hU, h0⟩
    · omega
    · have b2 : (M + 1) * Y = 2 * n * Y := by rw [Nat.add_mul, Nat.one_mul, a2]; omega
      have := Nat.eq_of_mul_eq_mul_right hX b2
      omega
end Fl
end Go.Proofs.YtbbjjkcjpdmjnaaGreatDoor

/- Plain arithmetic for the law FnBack: the digits that the library's shortFloat finds lie where the float is the nearest one. -/
namespace Go.Proofs.YtbbjjkcjpdmjnaaGreatDoor
namespace Fl

/-- The decimal exponents that the program reckons. -/
def l10 (y : Int) : Int := y * 78913 / 262144
def skw (y : Int) : Int := (y * 631305 - 261663) / 2097152

def expOk (i : Nat) : Bool :=
  let y : Int := (i : Int) - 1074
  let p := -l10 y
  let q := -skw y
  decide (-292 ≤ p) && decide (p ≤ 325) && decide (-3 ≤ -y - lp p) && decide (-y - lp p ≤ 0) &&
  Nat.ble (10 ^ (-p).toNat * 2 ^ (-y).toNat) (10 ^ p.toNat * 2 ^ y.toNat) && Nat.ble (10 ^ p.toNat * 2 ^ y.toNat) (10 * (10 ^ (-p).toNat * 2 ^ (-y).toNat)) &&
  decide (-292 ≤ q) && decide (q ≤ 325) && decide (-3 ≤ -y - lp q) && decide (-y - lp q ≤ 0) &&
  Nat.ble (4 * (10 ^ (-q).toNat * 2 ^ (-y).toNat)) (3 * (10 ^ q.toNat * 2 ^ y.toNat)) && Nat.ble (10 ^ q.toNat * 2 ^ y.toNat) (14 * (10 ^ (-q).toNat * 2 ^ (-y).toNat))
theorem exp_all : ((List.range 2046).all expOk) = true := by kernel_rfl

theorem exp_ok (y : Int) (h0 : -1074 ≤ y) (h1 : y ≤ 971) :
    (-292 ≤ -l10 y ∧ -l10 y ≤ 325 ∧ -3 ≤ -y - lp (-l10 y) ∧ -y - lp (-l10 y) ≤ 0 ∧
      10 ^ (l10 y).toNat * 2 ^ (-y).toNat ≤ 10 ^ (-l10 y).toNat * 2 ^ y.toNat ∧ 10 ^ (-l10 y).toNat * 2 ^ y.toNat ≤ 10 * (10 ^ (l10 y).toNat * 2 ^ (-y).toNat)) ∧
    (-292 ≤ -skw y ∧ -skw y ≤ 325 ∧ -3 ≤ -y - lp (-skw y) ∧ -y - lp (-skw y) ≤ 0 ∧
      4 * (10 ^ (skw y).toNat * 2 ^ (-y).toNat) ≤ 3 * (10 ^ (-skw y).toNat * 2 ^ y.toNat) ∧ 10 ^ (-skw y).toNat * 2 ^ y.toNat ≤ 14 * (10 ^ (skw y).toNat * 2 ^ (-y).toNat)) := by
  have h := List.all_eq_true.1 exp_all (y + 1074).toNat (List.mem_range.2 (by omega))
  unfold expOk at h
  have e : (((y + 1074).toNat : Nat) : Int) - 1074 = y := by omega
  rw [e] at h
  simp only [Bool.and_eq_true, decide_eq_true_eq, Nat.ble_eq, Int.neg_neg] at h
  obtain ⟨⟨⟨⟨⟨⟨⟨⟨⟨⟨⟨a1, a2⟩, a3⟩, a4⟩, a5⟩, a6⟩, b1⟩, b2⟩, b3⟩, b4⟩, b5⟩, b6⟩ := h
  exact ⟨⟨a1, a2, a3, a4, a5, a6⟩, ⟨b1, b2, b3, b4, b5, b6⟩⟩

/-- Powers of two on both sides of a comparison. -/
theorem lt_two {a b i j i2 j2 : Nat} (h : i + j2 = i2 + j) : a * 2 ^ i < b * 2 ^ j ↔ a * 2 ^ i2 < b * 2 ^ j2 := by
  have e1 : a * 2 ^ i * 2 ^ j2 = a * 2 ^ (i + j2) := by rw [Nat.mul_assoc, ← Nat.pow_add]
  have e2 : a * 2 ^ i2 * 2 ^ j = a * 2 ^ (i + j2) := by rw [Nat.mul_assoc, ← Nat.pow_add, h]
  have e3 : b * 2 ^ j * 2 ^ j2 = b * 2 ^ j2 * 2 ^ j := Nat.mul_right_comm _ _ _
  have p1 := Nat.two_pow_pos j
  have p2 := Nat.two_pow_pos j2
  constructor
  · intro h
    have := Nat.mul_lt_mul_of_pos_right h p2
    rw [e1, e3, ← e2] at this
    exact Nat.lt_of_mul_lt_mul_right this
  · intro h
    have := Nat.mul_lt_mul_of_pos_right h p1
    rw [e2, ← e1, ← e3] at this
    exact Nat.lt_of_mul_lt_mul_right this
theorem gt_two {a b i j i2 j2 : Nat} (h : i + j2 = i2 + j) : b * 2 ^ j < a * 2 ^ i ↔ b * 2 ^ j2 < a * 2 ^ i2 := lt_two (by omega)

/-- What a scaled product tells, in words of 2 ^ ex * 10 ^ p and 2 ^ E0. -/
theorem unr_to {u c t z ex E0 a b s : Nat} {p : Int} (h : Unr u (c * 2 ^ t * num p) (den p * (2 ^ s * 18446744073709551616)))
    (hs : (s : Int) = z - ((ex : Int) - E0) - lp p - 3) (hab : (t : Int) - z + ((ex : Int) - E0) + 1 = (a : Int) - b) (k : Nat) :
    (u < 2 * k ↔ c * (2 ^ a * 10 ^ p.toNat) < k * (2 ^ b * 10 ^ (-p).toNat)) ∧ (2 * k < u ↔ k * (2 ^ b * 10 ^ (-p).toNat) < c * (2 ^ a * 10 ^ p.toNat)) := by
  obtain ⟨k1, k2⟩ := h k
  have e1 : c * 2 ^ t * num p = c * 10 ^ p.toNat * 2 ^ (t + (63 - lp p).toNat) := by
    unfold num
    rw [Nat.pow_add]
    simp only [Nat.mul_assoc, Nat.mul_left_comm, Nat.mul_comm]
  have e2 : 2 * k * (den p * (2 ^ s * 18446744073709551616)) = k * 10 ^ (-p).toNat * 2 ^ (65 + s + (lp p - 63).toNat) := by
    unfold den
    rw [show (18446744073709551616 : Nat) = 2 ^ 64 from rfl, show 65 + s + (lp p - 63).toNat = 1 + 64 + s + (lp p - 63).toNat by omega, Nat.pow_add, Nat.pow_add, Nat.pow_add, Nat.pow_one]
    simp only [Nat.mul_assoc, Nat.mul_left_comm, Nat.mul_comm]
  have e3 : c * (2 ^ a * 10 ^ p.toNat) = c * 10 ^ p.toNat * 2 ^ a := by simp only [Nat.mul_assoc, Nat.mul_comm, Nat.mul_left_comm]
  have e4 : k * (2 ^ b * 10 ^ (-p).toNat) = k * 10 ^ (-p).toNat * 2 ^ b := by simp only [Nat.mul_assoc, Nat.mul_comm, Nat.mul_left_comm]
  rw [e1, e2] at k1 k2
  rw [e3, e4]
  have hh : t + (63 - lp p).toNat + b = a + (65 + s + (lp p - 63).toNat) := by omega
  rw [k1, k2]
  exact ⟨lt_two hh, gt_two hh⟩

/-- The decimal d * 10 ^ q, in units of the format's last place 2 ^ -E0: its two parts. -/
def decA (E0 : Nat) (d : Nat) (q : Int) : Nat := d * 10 ^ q.toNat * 2 ^ E0
def decB (q : Int) : Nat := 10 ^ (-q).toNat

theorem near_frac {n r A B A2 B2 : Nat} (hB : 0 < B) (hB2 : 0 < B2) (e : A * B2 = A2 * B) (h : Near n r A B) : Near n r A2 B2 := by
  unfold Near at h ⊢
  dsimp only at h ⊢
  generalize r / n - 1 = ex at *
  generalize r - ex * n = M at *
  have hC : 0 < 2 ^ ex * B := Nat.mul_pos (Nat.two_pow_pos _) hB
  have hC2 : 0 < 2 ^ ex * B2 := Nat.mul_pos (Nat.two_pow_pos _) hB2
  have e' : A * (2 ^ ex * B2) = A2 * (2 ^ ex * B) := by rw [Nat.mul_left_comm, e, Nat.mul_left_comm]
  generalize 2 ^ ex * B = C at *
  generalize 2 ^ ex * B2 = C2 at *
  obtain ⟨h1, h2⟩ := h
  refine ⟨?_, ?_⟩
  · rcases h1 with h1 | ⟨h1, h0⟩
    · left; exact (lt_frac hC hC2 e').1 h1
    · right; exact ⟨(eq_frac hC hC2 e').1 h1, h0⟩
  · have sub : ∀ c a : Nat, ∀ X Y : Nat, (c + 1) * X < a * Y + X ↔ c * X < a * Y := fun c a X Y => by rw [Nat.add_mul, Nat.one_mul]; omega
    have sube : ∀ c a : Nat, ∀ X Y : Nat, (c + 1) * X = a * Y + X ↔ a * Y = c * X := fun c a X Y => by rw [Nat.add_mul, Nat.one_mul]; omega
    split at h2
    · rename_i hc
      rw [if_pos hc]
      rcases Nat.eq_zero_or_pos M with h0 | h0
      · subst h0
        simp only [Nat.mul_zero, Nat.zero_mul] at h2 ⊢
        left; omega
      · obtain ⟨j, hj⟩ : ∃ j, 4 * M = j + 1 := ⟨4 * M - 1, by omega⟩
        rw [hj, sub, sube] at h2 ⊢
        rcases h2 with h2 | ⟨h2, h3⟩
        · left; exact (gt_frac hC hC2 e').1 h2
        · right; exact ⟨(eq_frac hC hC2 e').1 h2, h3⟩
    · rename_i hc
      rw [if_neg hc]
      rcases Nat.eq_zero_or_pos M with h0 | h0
      · subst h0
        simp only [Nat.mul_zero, Nat.zero_mul] at h2 ⊢
        left; omega
      · obtain ⟨j, hj⟩ : ∃ j, 2 * M = j + 1 := ⟨2 * M - 1, by omega⟩
        rw [hj, sub, sube] at h2 ⊢
        rcases h2 with h2 | ⟨h2, h3⟩
        · left; exact (gt_frac hC hC2 e').1 h2
        · right; exact ⟨(eq_frac hC hC2 e').1 h2, h3⟩

/-- One power of ten moved from the exponent to the digits. -/
theorem dec_ten (E0 d : Nat) (q : Int) : decA E0 (10 * d) q * decB (q + 1) = decA E0 d (q + 1) * decB q := by
  unfold decA decB
  have key : 10 * 10 ^ q.toNat * 10 ^ (-(q + 1)).toNat = 10 ^ (q + 1).toNat * 10 ^ (-q).toNat := by
    rw [← Nat.pow_succ', ← Nat.pow_add, ← Nat.pow_add]; congr 1; omega
  calc 10 * d * 10 ^ q.toNat * 2 ^ E0 * 10 ^ (-(q + 1)).toNat = d * 2 ^ E0 * (10 * 10 ^ q.toNat * 10 ^ (-(q + 1)).toNat) := by simp only [Nat.mul_assoc, Nat.mul_left_comm, Nat.mul_comm]
    _ = d * 2 ^ E0 * (10 ^ (q + 1).toNat * 10 ^ (-q).toNat) := by rw [key]
    _ = d * 10 ^ (q + 1).toNat * 2 ^ E0 * 10 ^ (-q).toNat := by simp only [Nat.mul_assoc, Nat.mul_left_comm, Nat.mul_comm]

theorem dec_near {n r E0 d : Nat} {q : Int} (h : Near n r (decA E0 (10 * d) q) (decB q)) : Near n r (decA E0 d (q + 1)) (decB (q + 1)) :=
  near_frac (Nat.pow_pos (by decide)) (Nat.pow_pos (by decide)) (dec_ten E0 d q) h
end Fl
end Go.Proofs.YtbbjjkcjpdmjnaaGreatDoor

/- Plain arithmetic for the law FnBack: shortFloat as a whole: its digits lie where the float is the nearest one, and there are at most seventeen. -/
namespace Go.Proofs.YtbbjjkcjpdmjnaaGreatDoor
namespace Fl

/-- The comparisons that a scaled product tells. -/
def Tells (u c U W : Nat) : Prop := ∀ k, (u < 2 * k ↔ c * U < k * W) ∧ (2 * k < u ↔ k * W < c * U)

/-- Between the two bounds (the plain case). -/
theorem between {M U W umx umn um odd : Nat} (hW : 0 < W) (hWU : W ≤ U) (hM : 1 ≤ M) (ho : odd = M % 2)
    (hx : Tells umx (2 * M + 1) U W) (hn : Tells umn (2 * M - 1) U W) (hm : Tells um (2 * M) U W) :
    (umn + odd + 3) / 4 ≤ (umx - odd) / 4 ∧
    (∀ d, (umn + odd + 3) / 4 ≤ d → d ≤ (umx - odd) / 4 → (2 * (d * W) < (2 * M + 1) * U ∨ (2 * (d * W) = (2 * M + 1) * U ∧ M % 2 = 0)) ∧ (2 * M * U < 2 * (d * W) + U ∨ (2 * M * U = 2 * (d * W) + U ∧ M % 2 = 0)) ∧ 1 ≤ d) ∧
    ((umn + odd + 3) / 4 < (umx - odd) / 4 → (umn + odd + 3) / 4 ≤ roundN um ∧ roundN um ≤ (umx - odd) / 4) := by
  obtain ⟨j, rfl⟩ : ∃ j, M = j + 1 := ⟨M - 1, by omega⟩
  have c1 : 2 * (j + 1) - 1 = 2 * j + 1 := by omega
  rw [c1] at hn
  have ex : (2 * (j + 1) + 1) * U = 2 * (j * U) + 3 * U := by rw [show 2 * (j + 1) + 1 = 2 * j + 3 by omega, Nat.add_mul, Nat.mul_assoc]
  have en : (2 * j + 1) * U = 2 * (j * U) + U := by rw [Nat.add_mul, Nat.one_mul, Nat.mul_assoc]
  have em : 2 * (j + 1) * U = 2 * (j * U) + 2 * U := by rw [show 2 * (j + 1) = 2 * j + 2 by omega, Nat.add_mul, Nat.mul_assoc]
  have e2 : ∀ d, 2 * d * W = 2 * (d * W) := fun d => Nat.mul_assoc _ _ _
  have e21 : ∀ d, (2 * d + 1) * W = 2 * (d * W) + W := fun d => by rw [Nat.add_mul, Nat.one_mul, e2]
  have mono : ∀ a b, a ≤ b → a * W ≤ b * W := fun a b h => Nat.mul_le_mul_right _ h
  have succ : ∀ a, (a + 1) * W = a * W + W := fun a => by rw [Nat.add_mul, Nat.one_mul]
  have hUpos : 0 < U := by omega
  have o2 : odd = 0 ∨ odd = 1 := by omega
  -- the lower bound
  have lo : ∀ d, (umn + odd + 3) / 4 ≤ d ↔ (odd = 0 → 2 * (j * U) + U ≤ 2 * (d * W)) ∧ (odd = 1 → 2 * (j * U) + U < 2 * (d * W)) := by
    intro d
    obtain ⟨k1, k2⟩ := hn (2 * d)
    rw [en, e2] at k1 k2
    rcases o2 with h | h
    · constructor
      · intro hd
        refine ⟨fun _ => ?_, fun h => by omega⟩
        have : ¬ (2 * (2 * d) < umn) := by omega
        rw [k2] at this; omega
      · intro hd
        have : ¬ (2 * (2 * d) < umn) := by rw [k2]; have := hd.1 h; omega
        omega
    · constructor
      · intro hd
        refine ⟨fun h => by omega, fun _ => ?_⟩
        exact k1.1 (by omega)
      · intro hd
        have := k1.2 (hd.2 h)
        omega
  have up : ∀ d, 1 ≤ d → (d ≤ (umx - odd) / 4 ↔ (odd = 0 → 2 * (d * W) ≤ 2 * (j * U) + 3 * U) ∧ (odd = 1 → 2 * (d * W) < 2 * (j * U) + 3 * U)) := by
    intro d d1
    obtain ⟨k1, k2⟩ := hx (2 * d)
    rw [ex, e2] at k1 k2
    rcases o2 with h | h
    · constructor
      · intro hd
        refine ⟨fun _ => ?_, fun h => by omega⟩
        have : ¬ (umx < 2 * (2 * d)) := by omega
        rw [k1] at this; omega
      · intro hd
        have : ¬ (umx < 2 * (2 * d)) := by rw [k1]; have := hd.1 h; omega
        omega
    · constructor
      · intro hd
        refine ⟨fun h => by omega, fun _ => ?_⟩
        exact k2.1 (by omega)
      · intro hd
        have := k2.2 (hd.2 h)
        omega
  generalize (umn + odd + 3) / 4 = dmin at *
  generalize (umx - odd) / 4 = dmax at *
  have min1 : 1 ≤ dmin := by
    rcases Nat.eq_zero_or_pos dmin with h | h
    · have := (lo 0).1 (by omega)
      rw [Nat.zero_mul] at this
      omega
    · exact h
  have lmin := (lo dmin).1 (Nat.le_refl _)
  have lmin1 : ¬ ((odd = 0 → 2 * (j * U) + U ≤ 2 * ((dmin - 1) * W)) ∧ (odd = 1 → 2 * (j * U) + U < 2 * ((dmin - 1) * W))) := fun h => by
    have := (lo (dmin - 1)).2 h; omega
  have umax1 := mt (up (dmax + 1) (by omega)).2 (by omega)
  have hle : dmin ≤ dmax := by
    rcases Nat.lt_or_ge dmax dmin with h | h
    · exfalso
      have a1 := mono (dmax) (dmin - 1) (by omega)
      rw [succ] at umax1
      rcases o2 with h0 | h0
      · rw [h0] at lmin1 umax1
        have b1 : ¬ (2 * (j * U) + U ≤ 2 * ((dmin - 1) * W)) := fun h => lmin1 ⟨fun _ => h, fun h => by omega⟩
        have b2 : ¬ (2 * (dmax * W + W) ≤ 2 * (j * U) + 3 * U) := fun h => umax1 ⟨fun _ => h, fun h => by omega⟩
        omega
      · rw [h0] at lmin1 umax1
        have b1 : ¬ (2 * (j * U) + U < 2 * ((dmin - 1) * W)) := fun h => lmin1 ⟨fun h => by omega, fun _ => h⟩
        have b2 : ¬ (2 * (dmax * W + W) < 2 * (j * U) + 3 * U) := fun h => umax1 ⟨fun h => by omega, fun _ => h⟩
        -- U = W and a parity
        have hUW : U = W := by omega
        have b3 : 2 * (dmax * W) = 2 * (j * U) + U := by omega
        rw [← hUW] at b3
        have b4 : (2 * dmax) * U = (2 * j + 1) * U := by rw [en, Nat.mul_assoc]; omega
        have := Nat.eq_of_mul_eq_mul_right hUpos b4
        omega
    · exact h
  refine ⟨hle, ?_, ?_⟩
  · intro d h1 h2
    have d1 : 1 ≤ d := by omega
    have hl := (lo d).1 h1
    have hu := (up d d1).1 h2
    rw [ex, em]
    rcases o2 with h | h
    · have a1 := hl.1 h
      have a2 := hu.1 h
      refine ⟨?_, ?_, d1⟩ <;> omega
    · have a1 := hl.2 h
      have a2 := hu.2 h
      refine ⟨?_, ?_, d1⟩ <;> omega
  · intro hlt
    -- the rounded middle
    have hR : Rne (roundN um) (2 * (2 * (j + 1) * U)) (4 * W) := by
      refine rne_of_unr (fun k => ?_)
      obtain ⟨k1, k2⟩ := hm k
      rw [k1, k2, e2]
      constructor <;> omega
    generalize roundN um = d at *
    obtain ⟨R1, R2⟩ := hR
    rw [em] at R1 R2
    have f1 : (2 * d + 1) * (4 * W) = 8 * (d * W) + 4 * W := by rw [Nat.mul_left_comm, e21]; omega
    have f2 : 2 * d * (4 * W) = 8 * (d * W) := by rw [Nat.mul_left_comm, e2]; omega
    rw [f1] at R1
    rw [f2] at R2
    have umaxd := (up dmax (by omega)).1 (Nat.le_refl _)
    have a1 := mono (dmin + 1) dmax hlt
    rw [succ] at a1
    have a0 : dmin * W = (dmin - 1) * W + W := by rw [← succ, show dmin - 1 + 1 = dmin by omega]
    have s1 : 2 * (j * U) + 3 * U ≥ 2 * (dmax * W) := by rcases o2 with h | h; exact umaxd.1 h; exact Nat.le_of_lt (umaxd.2 h)
    have s2 : 2 * (j * U) + U ≤ 2 * (dmin * W) := by rcases o2 with h | h; exact lmin.1 h; exact Nat.le_of_lt (lmin.2 h)
    have s3 : 2 * ((dmin - 1) * W) ≤ 2 * (j * U) + U := by
      rcases o2 with h | h
      · have : ¬ (2 * (j * U) + U ≤ 2 * ((dmin - 1) * W)) := fun hh => lmin1 ⟨fun _ => hh, fun h => by omega⟩
        omega
      · have : ¬ (2 * (j * U) + U < 2 * ((dmin - 1) * W)) := fun hh => lmin1 ⟨fun h => by omega, fun _ => hh⟩
        omega
    have s4 : 2 * (j * U) + 3 * U ≤ 2 * (dmax * W + W) := by
      rw [succ] at umax1
      rcases o2 with h | h
      · have : ¬ (2 * (dmax * W + W) ≤ 2 * (j * U) + 3 * U) := fun hh => umax1 ⟨fun _ => hh, fun h => by omega⟩
        omega
      · have : ¬ (2 * (dmax * W + W) < 2 * (j * U) + 3 * U) := fun hh => umax1 ⟨fun h => by omega, fun _ => hh⟩
        omega
    constructor
    · rcases Nat.lt_or_ge d dmin with h | h
      · exfalso
        have := mono (d + 1) dmin h
        rw [succ] at this
        omega
      · exact h
    · rcases Nat.lt_or_ge dmax d with h | h
      · exfalso
        have := mono (dmax + 1) d h
        rw [succ] at this
        omega
      · exact h

/-- Between the two bounds (the least float of a binade: its neighbour below is nearer). -/
theorem between_skew {M U W umx umn um : Nat} (hW : 0 < W) (hWU : 4 * W ≤ 3 * U) (hM : 1 ≤ M) (he : M % 2 = 0)
    (hx : Tells umx (2 * M + 1) U W) (hn : Tells umn (4 * M - 1) U (2 * W)) (hm : Tells um (2 * M) U W) :
    (umn + 0 + 3) / 4 ≤ (umx - 0) / 4 ∧
    (∀ d, (umn + 0 + 3) / 4 ≤ d → d ≤ (umx - 0) / 4 → (2 * (d * W) < (2 * M + 1) * U ∨ (2 * (d * W) = (2 * M + 1) * U ∧ M % 2 = 0)) ∧ (4 * M * U < 4 * (d * W) + U ∨ (4 * M * U = 4 * (d * W) + U ∧ M % 2 = 0)) ∧ 1 ≤ d) ∧
    ((umn + 0 + 3) / 4 < (umx - 0) / 4 → (umn + 0 + 3) / 4 ≤ roundN um ∧ roundN um ≤ (umx - 0) / 4) := by
  obtain ⟨j, rfl⟩ : ∃ j, M = j + 1 := ⟨M - 1, by omega⟩
  have c1 : 4 * (j + 1) - 1 = 4 * j + 3 := by omega
  rw [c1] at hn
  have ex : (2 * (j + 1) + 1) * U = 2 * (j * U) + 3 * U := by rw [show 2 * (j + 1) + 1 = 2 * j + 3 by omega, Nat.add_mul, Nat.mul_assoc]
  have en : (4 * j + 3) * U = 4 * (j * U) + 3 * U := by rw [Nat.add_mul, Nat.mul_assoc]
  have em : 2 * (j + 1) * U = 2 * (j * U) + 2 * U := by rw [show 2 * (j + 1) = 2 * j + 2 by omega, Nat.add_mul, Nat.mul_assoc]
  have em4 : 4 * (j + 1) * U = 4 * (j * U) + 4 * U := by rw [show 4 * (j + 1) = 4 * j + 4 by omega, Nat.add_mul, Nat.mul_assoc]
  have e2 : ∀ d, 2 * d * W = 2 * (d * W) := fun d => Nat.mul_assoc _ _ _
  have e4 : ∀ d, 2 * d * (2 * W) = 4 * (d * W) := fun d => by rw [Nat.mul_left_comm, e2]; omega
  have e21 : ∀ d, (2 * d + 1) * W = 2 * (d * W) + W := fun d => by rw [Nat.add_mul, Nat.one_mul, e2]
  have mono : ∀ a b, a ≤ b → a * W ≤ b * W := fun a b h => Nat.mul_le_mul_right _ h
  have succ : ∀ a, (a + 1) * W = a * W + W := fun a => by rw [Nat.add_mul, Nat.one_mul]
  have hUpos : 0 < U := by omega
  have lo : ∀ d, (umn + 0 + 3) / 4 ≤ d ↔ 4 * (j * U) + 3 * U ≤ 4 * (d * W) := by
    intro d
    obtain ⟨k1, k2⟩ := hn (2 * d)
    rw [en, e4] at k1 k2
    constructor
    · intro hd
      have : ¬ (2 * (2 * d) < umn) := by omega
      rw [k2] at this; omega
    · intro hd
      have : ¬ (2 * (2 * d) < umn) := by rw [k2]; omega
      omega
  have up : ∀ d, (d ≤ (umx - 0) / 4 ↔ 2 * (d * W) ≤ 2 * (j * U) + 3 * U) := by
    intro d
    obtain ⟨k1, k2⟩ := hx (2 * d)
    rw [ex, e2] at k1 k2
    constructor
    · intro hd
      have : ¬ (umx < 2 * (2 * d)) := by omega
      rw [k1] at this; omega
    · intro hd
      have : ¬ (umx < 2 * (2 * d)) := by rw [k1]; omega
      omega
  generalize (umn + 0 + 3) / 4 = dmin at *
  generalize (umx - 0) / 4 = dmax at *
  have min1 : 1 ≤ dmin := by
    rcases Nat.eq_zero_or_pos dmin with h | h
    · have := (lo 0).1 (by omega)
      rw [Nat.zero_mul] at this
      omega
    · exact h
  have lmin := (lo dmin).1 (Nat.le_refl _)
  have lmin1 := mt (lo (dmin - 1)).2 (by omega)
  have umax1 := mt (up (dmax + 1)).2 (by omega)
  rw [succ] at umax1
  have hle : dmin ≤ dmax := by
    rcases Nat.lt_or_ge dmax dmin with h | h
    · exfalso
      have a1 := mono (dmax) (dmin - 1) (by omega)
      omega
    · exact h
  refine ⟨hle, ?_, ?_⟩
  · intro d h1 h2
    have hl := (lo d).1 h1
    have hu := (up d).1 h2
    rw [ex, em4]
    refine ⟨?_, ?_, by omega⟩ <;> omega
  · intro hlt
    have hR : Rne (roundN um) (2 * (2 * (j + 1) * U)) (4 * W) := by
      refine rne_of_unr (fun k => ?_)
      obtain ⟨k1, k2⟩ := hm k
      rw [k1, k2, e2]
      constructor <;> omega
    generalize roundN um = d at *
    obtain ⟨R1, R2⟩ := hR
    rw [em] at R1 R2
    have f1 : (2 * d + 1) * (4 * W) = 8 * (d * W) + 4 * W := by rw [Nat.mul_left_comm, e21]; omega
    have f2 : 2 * d * (4 * W) = 8 * (d * W) := by rw [Nat.mul_left_comm, e2]; omega
    rw [f1] at R1
    rw [f2] at R2
    have umaxd := (up dmax).1 (Nat.le_refl _)
    have a1 := mono (dmin + 1) dmax hlt
    rw [succ] at a1
    have a0 : dmin * W = (dmin - 1) * W + W := by rw [← succ, show dmin - 1 + 1 = dmin by omega]
    constructor
    · rcases Nat.lt_or_ge d dmin with h | h
      · exfalso
        have := mono (d + 1) dmin h
        rw [succ] at this
        omega
      · exact h
    · rcases Nat.lt_or_ge dmax d with h | h
      · exfalso
        have := mono (dmax + 1) d h
        rw [succ] at this
        omega
      · exact h
end Fl
end Go.Proofs.YtbbjjkcjpdmjnaaGreatDoor

/- Plain arithmetic for the law FnBack: what shortFloat answers is a decimal of at most seventeen digits to which the float is the nearest one. -/
namespace Go.Proofs.YtbbjjkcjpdmjnaaGreatDoor
namespace Fl

/-- The digits and the exponent that shortFloat answers. -/
def shortD (umn umx um odd : Nat) (p : Int) : Nat × Int :=
  if (umn + odd + 3) / 4 ≤ (umx - odd) / 4 / 10 * 10 then ((umx - odd) / 4 / 10, 1 - p)
  else if (umn + odd + 3) / 4 < (umx - odd) / 4 then (roundN um, -p) else ((umn + odd + 3) / 4, -p)

theorem rung_parts {n r ex M : Nat} (hn : 2 ≤ n) (hr : r = ex * n + M) (hM : M < 2 * n) (hMn : 0 < ex → n ≤ M) : r / n - 1 = ex ∧ r - ex * n = M := by
  have hpos : 0 < n := by omega
  refine ⟨?_, by omega⟩
  rw [hr, Nat.mul_comm, Nat.mul_add_div hpos]
  rcases Nat.eq_zero_or_pos ex with h | h
  · subst h
    have : M / n < 2 := (Nat.div_lt_iff_lt_mul hpos).2 hM
    omega
  · have h1 : M / n < 2 := (Nat.div_lt_iff_lt_mul hpos).2 hM
    have h2 : 1 ≤ M / n := (Nat.le_div_iff_mul_le hpos).2 (by have := hMn h; omega)
    omega

theorem good_of {p : Int} {x s : Nat} (h0 : -292 ≤ p) (h1 : p ≤ 325) (hs : 5 ≤ s) (hx : 512 ∣ x) : Good p x s := by
  rcases Int.lt_or_le p 0 with h | h
  · right; left
    exact ⟨by omega, by omega, hs, Nat.dvd_trans (by decide) hx⟩
  · by_cases h27 : p ≤ 27
    · left; exact ⟨h, h27⟩
    · right; right; left
      exact ⟨by omega, h1, hs, hx⟩

theorem pow_dvd_of {c t : Nat} (h : 9 ≤ t) : 512 ∣ c * 2 ^ t := by
  refine Nat.dvd_trans ?_ (Nat.dvd_mul_left _ _)
  have : 2 ^ t = 2 ^ 9 * 2 ^ (t - 9) := by rw [← Nat.pow_add]; congr 1; omega
  rw [this]
  exact Nat.dvd_mul_right _ _

/-- The two sides of 2 ^ y * 10 ^ p. -/
theorem sides {ex E0 : Nat} {y p : Int} (hy : y = (ex : Int) - E0) : ∃ c, 0 < c ∧ 2 ^ ex * 10 ^ p.toNat = c * (10 ^ p.toNat * 2 ^ y.toNat) ∧ 2 ^ E0 * 10 ^ (-p).toNat = c * (10 ^ (-p).toNat * 2 ^ (-y).toNat) := by
  refine ⟨2 ^ (min ex E0), Nat.two_pow_pos _, ?_, ?_⟩
  · have : 2 ^ ex = 2 ^ (min ex E0) * 2 ^ y.toNat := by rw [← Nat.pow_add]; congr 1; omega
    rw [this]; simp only [Nat.mul_assoc, Nat.mul_comm, Nat.mul_left_comm]
  · have : 2 ^ E0 = 2 ^ (min ex E0) * 2 ^ (-y).toNat := by rw [← Nat.pow_add]; congr 1; omega
    rw [this]; simp only [Nat.mul_assoc, Nat.mul_comm, Nat.mul_left_comm]

theorem near_plain {n r ex M E0 d : Nat} {p : Int} (hn : 2 ≤ n) (hev : n % 2 = 0) (hr : r = ex * n + M) (hM : M < 2 * n) (hMn : 0 < ex → n ≤ M) (hns : ¬ (M = n ∧ 0 < ex))
    (h : (2 * (d * (2 ^ E0 * 10 ^ (-p).toNat)) < (2 * M + 1) * (2 ^ ex * 10 ^ p.toNat) ∨ (2 * (d * (2 ^ E0 * 10 ^ (-p).toNat)) = (2 * M + 1) * (2 ^ ex * 10 ^ p.toNat) ∧ M % 2 = 0)) ∧
      (2 * M * (2 ^ ex * 10 ^ p.toNat) < 2 * (d * (2 ^ E0 * 10 ^ (-p).toNat)) + 2 ^ ex * 10 ^ p.toNat ∨ (2 * M * (2 ^ ex * 10 ^ p.toNat) = 2 * (d * (2 ^ E0 * 10 ^ (-p).toNat)) + 2 ^ ex * 10 ^ p.toNat ∧ M % 2 = 0))) :
    Near n r (decA E0 d (-p)) (decB (-p)) := by
  obtain ⟨e1, e2⟩ := rung_parts hn hr hM hMn
  have hpar : r % 2 = M % 2 := by rw [hr, Nat.add_mod, Nat.mul_mod, hev, Nat.mul_zero, Nat.zero_mod, Nat.zero_add, Nat.mod_mod]
  have eA : decA E0 d (-p) = d * (2 ^ E0 * 10 ^ (-p).toNat) := by unfold decA; simp only [Nat.mul_assoc, Nat.mul_comm, Nat.mul_left_comm]
  have eB : decB (-p) = 10 ^ p.toNat := by unfold decB; rw [Int.neg_neg]
  unfold Near
  dsimp only
  rw [e1, e2, eA, eB, hpar, if_neg hns]
  exact h

theorem near_skew {n r ex M E0 d : Nat} {p : Int} (hn : 2 ≤ n) (hev : n % 2 = 0) (hr : r = ex * n + M) (hM : M < 2 * n) (hMn : 0 < ex → n ≤ M) (hs : M = n ∧ 0 < ex)
    (h : (2 * (d * (2 ^ E0 * 10 ^ (-p).toNat)) < (2 * M + 1) * (2 ^ ex * 10 ^ p.toNat) ∨ (2 * (d * (2 ^ E0 * 10 ^ (-p).toNat)) = (2 * M + 1) * (2 ^ ex * 10 ^ p.toNat) ∧ M % 2 = 0)) ∧
      (4 * M * (2 ^ ex * 10 ^ p.toNat) < 4 * (d * (2 ^ E0 * 10 ^ (-p).toNat)) + 2 ^ ex * 10 ^ p.toNat ∨ (4 * M * (2 ^ ex * 10 ^ p.toNat) = 4 * (d * (2 ^ E0 * 10 ^ (-p).toNat)) + 2 ^ ex * 10 ^ p.toNat ∧ M % 2 = 0))) :
    Near n r (decA E0 d (-p)) (decB (-p)) := by
  obtain ⟨e1, e2⟩ := rung_parts hn hr hM hMn
  have hpar : r % 2 = M % 2 := by rw [hr, Nat.add_mod, Nat.mul_mod, hev, Nat.mul_zero, Nat.zero_mod, Nat.zero_add, Nat.mod_mod]
  have eA : decA E0 d (-p) = d * (2 ^ E0 * 10 ^ (-p).toNat) := by unfold decA; simp only [Nat.mul_assoc, Nat.mul_comm, Nat.mul_left_comm]
  have eB : decB (-p) = 10 ^ p.toNat := by unfold decB; rw [Int.neg_neg]
  unfold Near
  dsimp only
  rw [e1, e2, eA, eB, hpar, if_pos hs]
  exact h

/-- Of digits between the bounds, those that are answered are between them. -/
theorem shortD_of {n r E0 umn umx um odd : Nat} {p : Int} (hle : (umn + odd + 3) / 4 ≤ (umx - odd) / 4)
    (hb : ∀ d, (umn + odd + 3) / 4 ≤ d → d ≤ (umx - odd) / 4 → Near n r (decA E0 d (-p)) (decB (-p)) ∧ 1 ≤ d ∧ d < 100000000000000000)
    (hm : (umn + odd + 3) / 4 < (umx - odd) / 4 → (umn + odd + 3) / 4 ≤ roundN um ∧ roundN um ≤ (umx - odd) / 4) :
    Near n r (decA E0 (shortD umn umx um odd p).1 (shortD umn umx um odd p).2) (decB (shortD umn umx um odd p).2) ∧ 1 ≤ (shortD umn umx um odd p).1 ∧ (shortD umn umx um odd p).1 < 100000000000000000 ∧
      ((shortD umn umx um odd p).2 = -p ∨ (shortD umn umx um odd p).2 = 1 - p) := by
  unfold shortD
  generalize (umn + odd + 3) / 4 = dmin at *
  generalize (umx - odd) / 4 = dmax at *
  by_cases h1 : dmin ≤ dmax / 10 * 10
  · simp only [if_pos h1]
    obtain ⟨a1, a2, a3⟩ := hb (dmax / 10 * 10) h1 (by omega)
    rw [Nat.mul_comm (dmax / 10) 10] at a1
    have := dec_near a1
    rw [show -p + 1 = 1 - p by omega] at this
    exact ⟨this, by omega, by omega, Or.inr trivial⟩
  · simp only [if_neg h1]
    by_cases h2 : dmin < dmax
    · simp only [if_pos h2]
      obtain ⟨m1, m2⟩ := hm h2
      obtain ⟨a1, a2, a3⟩ := hb _ m1 m2
      exact ⟨a1, a2, a3, Or.inl trivial⟩
    · simp only [if_neg h2]
      obtain ⟨a1, a2, a3⟩ := hb dmin (Nat.le_refl _) hle
      exact ⟨a1, a2, a3, Or.inl trivial⟩

theorem short_plain {n E0 ex M z s r : Nat} {y p : Int} (hn : 2 ≤ n) (hn2 : n ≤ 4503599627370496) (hev : n % 2 = 0) (hr : r = ex * n + M) (hM0 : 1 ≤ M) (hM : M < 2 * n) (hMn : 0 < ex → n ≤ M) (hns : ¬ (M = n ∧ 0 < ex))
    (hy : y = (ex : Int) - E0) (hy0 : -1074 ≤ y) (hy1 : y ≤ 971) (hz0 : 11 ≤ z) (hz : z ≤ 63) (hMz : M < 2 ^ (64 - z)) (hp : p = -l10 y) (hs : (s : Int) = z - y - lp p - 3) :
    let sd := shortD (uscaleN (M * 2 ^ z - 2 ^ (z - 1)) (hi p) (lo p) s) (uscaleN (M * 2 ^ z + 2 ^ (z - 1)) (hi p) (lo p) s) (uscaleN (M * 2 ^ z) (hi p) (lo p) s) (M % 2) p
    Near n r (decA E0 sd.1 sd.2) (decB sd.2) ∧ 1 ≤ sd.1 ∧ sd.1 < 100000000000000000 ∧ (sd.2 = -p ∨ sd.2 = 1 - p) := by
  intro sd
  obtain ⟨⟨a1, a2, a3, a4, a5, a6⟩, _⟩ := exp_ok y hy0 hy1
  rw [show (l10 y) = -p by omega, show -(-p) = p by omega] at *
  obtain ⟨c, hc, eU, eW⟩ := sides (p := p) hy
  have hWU : 2 ^ E0 * 10 ^ (-p).toNat ≤ 2 ^ ex * 10 ^ p.toNat := by rw [eU, eW]; exact Nat.mul_le_mul_left _ a5
  have hUW : 2 ^ ex * 10 ^ p.toNat ≤ 10 * (2 ^ E0 * 10 ^ (-p).toNat) := by rw [eU, eW, Nat.mul_left_comm 10 c]; exact Nat.mul_le_mul_left _ a6
  have hW : 0 < 2 ^ E0 * 10 ^ (-p).toNat := Nat.mul_pos (Nat.two_pow_pos _) (Nat.pow_pos (by decide))
  have s5 : 5 ≤ s := by omega
  have hz2 : 2 ^ z = 2 * 2 ^ (z - 1) := by rw [← Nat.pow_succ']; congr 1; omega
  have emx : M * 2 ^ z + 2 ^ (z - 1) = (2 * M + 1) * 2 ^ (z - 1) := by rw [hz2, Nat.add_mul, Nat.one_mul]; simp only [Nat.mul_assoc, Nat.mul_left_comm]
  have emn : M * 2 ^ z - 2 ^ (z - 1) = (2 * M - 1) * 2 ^ (z - 1) := by rw [hz2, Nat.sub_mul, Nat.one_mul]; simp only [Nat.mul_assoc, Nat.mul_left_comm]
  have hpow : 2 ^ (64 - z) * 2 ^ z = 18446744073709551616 := by
    rw [← Nat.pow_add, show 64 - z + z = 64 by omega]
  have hM1 : (M + 1) * 2 ^ z ≤ 2 ^ (64 - z) * 2 ^ z := Nat.mul_le_mul_right _ hMz
  rw [hpow, Nat.add_mul, Nat.one_mul] at hM1
  have hzp : 0 < 2 ^ (z - 1) := Nat.two_pow_pos _
  have tx : Tells (uscaleN (M * 2 ^ z + 2 ^ (z - 1)) (hi p) (lo p) s) (2 * M + 1) (2 ^ ex * 10 ^ p.toNat) (2 ^ E0 * 10 ^ (-p).toNat) := by
    have h := uscale_unr p (M * 2 ^ z + 2 ^ (z - 1)) s (by omega) (good_of a1 a2 s5 (by rw [emx]; exact pow_dvd_of (by omega)))
    rw [emx] at h
    rw [emx]
    exact fun k => unr_to h (z := z) (ex := ex) (E0 := E0) (by omega) (by omega) k
  have tn : Tells (uscaleN (M * 2 ^ z - 2 ^ (z - 1)) (hi p) (lo p) s) (2 * M - 1) (2 ^ ex * 10 ^ p.toNat) (2 ^ E0 * 10 ^ (-p).toNat) := by
    have h := uscale_unr p (M * 2 ^ z - 2 ^ (z - 1)) s (by omega) (good_of a1 a2 s5 (by rw [emn]; exact pow_dvd_of (by omega)))
    rw [emn] at h
    rw [emn]
    exact fun k => unr_to h (z := z) (ex := ex) (E0 := E0) (by omega) (by omega) k
  have tm : Tells (uscaleN (M * 2 ^ z) (hi p) (lo p) s) (2 * M) (2 ^ ex * 10 ^ p.toNat) (2 ^ E0 * 10 ^ (-p).toNat) := by
    have h := uscale_unr p (M * 2 ^ z) s (by omega) (good_of a1 a2 s5 (pow_dvd_of (by omega)))
    intro k
    have := unr_to h (z := z) (ex := ex) (E0 := E0) (a := ex + 1) (b := E0) (by omega) (by omega) k
    have e : M * (2 ^ (ex + 1) * 10 ^ p.toNat) = 2 * M * (2 ^ ex * 10 ^ p.toNat) := by rw [Nat.pow_succ]; simp only [Nat.mul_assoc, Nat.mul_left_comm]
    rw [e] at this
    exact this
  obtain ⟨b1, b2, b3⟩ := between hW hWU hM0 rfl tx tn tm
  refine shortD_of b1 (fun d h1 h2 => ?_) b3
  obtain ⟨c1, c2, c3⟩ := b2 d h1 h2
  refine ⟨near_plain hn hev hr hM hMn hns ⟨c1, c2⟩, c3, ?_⟩
  -- the bound
  have hle : 2 * (d * (2 ^ E0 * 10 ^ (-p).toNat)) ≤ (2 * M + 1) * (2 ^ ex * 10 ^ p.toNat) := by omega
  have h3 : (2 * M + 1) * (2 ^ ex * 10 ^ p.toNat) ≤ (2 * M + 1) * (10 * (2 ^ E0 * 10 ^ (-p).toNat)) := Nat.mul_le_mul_left _ hUW
  have h4 : 2 * d * (2 ^ E0 * 10 ^ (-p).toNat) ≤ (2 * M + 1) * 10 * (2 ^ E0 * 10 ^ (-p).toNat) := by
    rw [Nat.mul_assoc, Nat.mul_assoc]; exact Nat.le_trans hle h3
  have h5 := Nat.le_of_mul_le_mul_right h4 hW
  omega

theorem short_skew {n E0 ex M z s r : Nat} {y p : Int} (hn : 2 ≤ n) (hn2 : n ≤ 4503599627370496) (hev : n % 2 = 0) (hr : r = ex * n + M) (hsk : M = n ∧ 0 < ex)
    (hy : y = (ex : Int) - E0) (hy0 : -1074 ≤ y) (hy1 : y ≤ 971) (hz0 : 11 ≤ z) (hz : z ≤ 63) (hMz : M < 2 ^ (64 - z)) (hp : p = -skw y) (hs : (s : Int) = z - y - lp p - 3) :
    let sd := shortD (uscaleN (M * 2 ^ z - 2 ^ (z - 2)) (hi p) (lo p) s) (uscaleN (M * 2 ^ z + 2 ^ (z - 1)) (hi p) (lo p) s) (uscaleN (M * 2 ^ z) (hi p) (lo p) s) (M % 2) p
    Near n r (decA E0 sd.1 sd.2) (decB sd.2) ∧ 1 ≤ sd.1 ∧ sd.1 < 100000000000000000 ∧ (sd.2 = -p ∨ sd.2 = 1 - p) := by
  rw [show M % 2 = 0 by omega]
  intro sd
  have hM : M < 2 * n := by omega
  have hM0 : 1 ≤ M := by omega
  have hMn : 0 < ex → n ≤ M := by omega
  obtain ⟨_, ⟨a1, a2, a3, a4, a5, a6⟩⟩ := exp_ok y hy0 hy1
  rw [show (skw y) = -p by omega, show -(-p) = p by omega] at *
  obtain ⟨c, hc, eU, eW⟩ := sides (p := p) hy
  have hWU : 4 * (2 ^ E0 * 10 ^ (-p).toNat) ≤ 3 * (2 ^ ex * 10 ^ p.toNat) := by rw [eU, eW, Nat.mul_left_comm, Nat.mul_left_comm 3]; exact Nat.mul_le_mul_left _ a5
  have hUW : 2 ^ ex * 10 ^ p.toNat ≤ 14 * (2 ^ E0 * 10 ^ (-p).toNat) := by rw [eU, eW, Nat.mul_left_comm 14 c]; exact Nat.mul_le_mul_left _ a6
  have hW : 0 < 2 ^ E0 * 10 ^ (-p).toNat := Nat.mul_pos (Nat.two_pow_pos _) (Nat.pow_pos (by decide))
  have s5 : 5 ≤ s := by omega
  have hz2 : 2 ^ z = 2 * 2 ^ (z - 1) := by rw [← Nat.pow_succ']; congr 1; omega
  have hz4 : 2 ^ z = 4 * 2 ^ (z - 2) := by rw [show (4 : Nat) = 2 ^ 2 from rfl, ← Nat.pow_add]; congr 1; omega
  have emx : M * 2 ^ z + 2 ^ (z - 1) = (2 * M + 1) * 2 ^ (z - 1) := by rw [hz2, Nat.add_mul, Nat.one_mul]; simp only [Nat.mul_assoc, Nat.mul_left_comm]
  have emn : M * 2 ^ z - 2 ^ (z - 2) = (4 * M - 1) * 2 ^ (z - 2) := by rw [hz4, Nat.sub_mul, Nat.one_mul]; simp only [Nat.mul_assoc, Nat.mul_left_comm]
  have hpow : 2 ^ (64 - z) * 2 ^ z = 18446744073709551616 := by
    rw [← Nat.pow_add, show 64 - z + z = 64 by omega]
  have hM1 : (M + 1) * 2 ^ z ≤ 2 ^ (64 - z) * 2 ^ z := Nat.mul_le_mul_right _ hMz
  rw [hpow, Nat.add_mul, Nat.one_mul] at hM1
  have hzp : 0 < 2 ^ (z - 1) := Nat.two_pow_pos _
  have tx : Tells (uscaleN (M * 2 ^ z + 2 ^ (z - 1)) (hi p) (lo p) s) (2 * M + 1) (2 ^ ex * 10 ^ p.toNat) (2 ^ E0 * 10 ^ (-p).toNat) := by
    have h := uscale_unr p (M * 2 ^ z + 2 ^ (z - 1)) s (by omega) (good_of a1 a2 s5 (by rw [emx]; exact pow_dvd_of (by omega)))
    rw [emx] at h
    rw [emx]
    exact fun k => unr_to h (z := z) (ex := ex) (E0 := E0) (by omega) (by omega) k
  have tn : Tells (uscaleN (M * 2 ^ z - 2 ^ (z - 2)) (hi p) (lo p) s) (4 * M - 1) (2 ^ ex * 10 ^ p.toNat) (2 * (2 ^ E0 * 10 ^ (-p).toNat)) := by
    have h := uscale_unr p (M * 2 ^ z - 2 ^ (z - 2)) s (by omega) (good_of a1 a2 s5 (by rw [emn]; exact pow_dvd_of (by omega)))
    rw [emn] at h
    rw [emn]
    intro k
    have := unr_to h (z := z) (ex := ex) (E0 := E0) (a := ex) (b := E0 + 1) (by omega) (by omega) k
    have e : 2 ^ (E0 + 1) * 10 ^ (-p).toNat = 2 * (2 ^ E0 * 10 ^ (-p).toNat) := by rw [Nat.pow_succ]; simp only [Nat.mul_assoc, Nat.mul_left_comm]
    rw [e] at this
    exact this
  have tm : Tells (uscaleN (M * 2 ^ z) (hi p) (lo p) s) (2 * M) (2 ^ ex * 10 ^ p.toNat) (2 ^ E0 * 10 ^ (-p).toNat) := by
    have h := uscale_unr p (M * 2 ^ z) s (by omega) (good_of a1 a2 s5 (pow_dvd_of (by omega)))
    intro k
    have := unr_to h (z := z) (ex := ex) (E0 := E0) (a := ex + 1) (b := E0) (by omega) (by omega) k
    have e : M * (2 ^ (ex + 1) * 10 ^ p.toNat) = 2 * M * (2 ^ ex * 10 ^ p.toNat) := by rw [Nat.pow_succ]; simp only [Nat.mul_assoc, Nat.mul_left_comm]
    rw [e] at this
    exact this
  obtain ⟨b1, b2, b3⟩ := between_skew hW hWU hM0 (by omega) tx tn tm
  refine shortD_of b1 (fun d h1 h2 => ?_) b3
  obtain ⟨c1, c2, c3⟩ := b2 d h1 h2
  refine ⟨near_skew hn hev hr hM hMn hsk ⟨c1, c2⟩, c3, ?_⟩
  have hle : 2 * (d * (2 ^ E0 * 10 ^ (-p).toNat)) ≤ (2 * M + 1) * (2 ^ ex * 10 ^ p.toNat) := by omega
  have h3 : (2 * M + 1) * (2 ^ ex * 10 ^ p.toNat) ≤ (2 * M + 1) * (14 * (2 ^ E0 * 10 ^ (-p).toNat)) := Nat.mul_le_mul_left _ hUW
  have h4 : 2 * d * (2 ^ E0 * 10 ^ (-p).toNat) ≤ (2 * M + 1) * 14 * (2 ^ E0 * 10 ^ (-p).toNat) := by
    rw [Nat.mul_assoc, Nat.mul_assoc]; exact Nat.le_trans hle h3
  have h5 := Nat.le_of_mul_le_mul_right h4 hW
  omega
end Fl
end Go.Proofs.YtbbjjkcjpdmjnaaGreatDoor

/- Plain arithmetic for the law FnBack: the library's parseFloat finds the rung of the float that is nearest to a decimal. -/
namespace Go.Proofs.YtbbjjkcjpdmjnaaGreatDoor
namespace Fl

def lpOk (i : Nat) : Bool :=
  let p : Int := (i : Int) - 348
  Nat.ble (den p * 9223372036854775808) (num p) && Nat.ble (num p * 1024) (1023 * (den p * 18446744073709551616))
theorem lp_all : ((List.range 696).all lpOk) = true := by kernel_rfl
theorem lp_ok (p : Int) (h0 : -348 ≤ p) (h1 : p ≤ 347) : den p * 9223372036854775808 ≤ num p ∧ num p * 1024 ≤ 1023 * (den p * 18446744073709551616) := by
  have h := List.all_eq_true.1 lp_all (p + 348).toNat (List.mem_range.2 (by omega))
  unfold lpOk at h
  have e : (((p + 348).toNat : Nat) : Int) - 348 = p := by omega
  rw [e] at h
  simpa only [Bool.and_eq_true, Nat.ble_eq] using h

theorem le_two {a b i j i2 j2 : Nat} (h : i + j2 = i2 + j) : a * 2 ^ i ≤ b * 2 ^ j ↔ a * 2 ^ i2 ≤ b * 2 ^ j2 := by
  have := lt_two (a := b) (b := a) (i := j) (j := i) (i2 := j2) (j2 := i2) (by omega)
  constructor
  · intro h1; rcases Nat.lt_or_ge (b * 2 ^ j2) (a * 2 ^ i2) with h2 | h2
    · have := this.2 h2; omega
    · exact h2
  · intro h1; rcases Nat.lt_or_ge (b * 2 ^ j) (a * 2 ^ i) with h2 | h2
    · have := this.1 h2; omega
    · exact h2

/-- 2 ^ lp ≤ 10 ^ p, on any two exponents that differ by lp. -/
theorem lp_lo (p : Int) (h0 : -348 ≤ p) (h1 : p ≤ 347) {i j : Nat} (h : (i : Int) - j = lp p) : 10 ^ (-p).toNat * 2 ^ i ≤ 10 ^ p.toNat * 2 ^ j := by
  have := (lp_ok p h0 h1).1
  unfold num den at this
  rw [show (9223372036854775808 : Nat) = 2 ^ 63 from rfl, Nat.mul_assoc, ← Nat.pow_add] at this
  exact (le_two (by omega)).1 this

theorem lp_hi (p : Int) (h0 : -348 ≤ p) (h1 : p ≤ 347) {i j : Nat} (h : (i : Int) - j = lp p + 1) : 1024 * 10 ^ p.toNat * 2 ^ j ≤ 1023 * 10 ^ (-p).toNat * 2 ^ i := by
  have := (lp_ok p h0 h1).2
  unfold num den at this
  have e1 : 10 ^ p.toNat * 2 ^ (63 - lp p).toNat * 1024 = 1024 * 10 ^ p.toNat * 2 ^ (63 - lp p).toNat := by simp only [Nat.mul_assoc, Nat.mul_comm, Nat.mul_left_comm]
  have e2 : 1023 * (10 ^ (-p).toNat * 2 ^ (lp p - 63).toNat * 18446744073709551616) = 1023 * 10 ^ (-p).toNat * 2 ^ ((lp p - 63).toNat + 64) := by
    rw [show (18446744073709551616 : Nat) = 2 ^ 64 from rfl, Nat.pow_add]; simp only [Nat.mul_assoc]
  rw [e1, e2] at this
  exact (le_two (by omega)).1 this

/-- The decimals that are read. -/
def Fine (D : Nat) (P : Int) : Prop := (0 ≤ P ∧ P ≤ 27) ∨ (-345 ≤ P ∧ P ≤ -1 ∧ D < 144115188075855872) ∨ (1 ≤ P ∧ P ≤ 295 ∧ 100 ∣ D)

theorem fine_good {D b s : Nat} {P : Int} (h : Fine D P) (hb : 2 ^ (b - 1) ≤ D) (hb1 : 1 ≤ b) (hs : 8 ≤ s) : Good P (D * 2 ^ (64 - b)) s := by
  rcases h with h | h | h
  · left; exact h
  · right; left
    refine ⟨h.1, h.2.1, by omega, ?_⟩
    have : b - 1 < 57 := by
      rcases Nat.lt_or_ge (b - 1) 57 with h1 | h1
      · exact h1
      · have : 2 ^ 57 ≤ 2 ^ (b - 1) := Nat.pow_le_pow_right (by decide) h1
        omega
    refine Nat.dvd_trans ?_ (Nat.dvd_mul_left _ _)
    have e : 2 ^ (64 - b) = 2 ^ 7 * 2 ^ (57 - b) := by rw [← Nat.pow_add]; congr 1; omega
    rw [e]
    exact Nat.dvd_mul_right _ _
  · right; right; right
    exact ⟨h.1, h.2.1, hs, Nat.dvd_trans h.2.2 (Nat.dvd_mul_right _ _)⟩

/-- The scaled decimal. e: the program's exponent; e2: the same, from the format's last place. -/
theorem parse_unr {n mb E0 D b e2 s : Nat} {P e : Int} (hD : D < 2 ^ b) (hD0 : 2 ^ (b - 1) ≤ D) (hb0 : 1 ≤ b) (hb : b ≤ 64) (hF : Fine D P)
    (he2 : (e2 : Int) = E0 - e) (hs : (s : Int) = 61 - b - e - lp P) (hs8 : 8 ≤ s) :
    Unr (uscaleN (D * 2 ^ (64 - b)) (hi P) (lo P) s) (4 * decA E0 D P) (2 ^ e2 * decB P) := by
  have hx : D * 2 ^ (64 - b) < 18446744073709551616 := by
    have h1 := Nat.mul_lt_mul_of_pos_right hD (Nat.two_pow_pos (64 - b))
    rw [← Nat.pow_add, show b + (64 - b) = 64 by omega] at h1
    exact h1
  have h := uscale_unr P (D * 2 ^ (64 - b)) s hx (fine_good hF hD0 hb0 hs8)
  intro k
  have h2 := unr_to h (z := 64 - b) (ex := e.toNat) (E0 := (-e).toNat) (a := E0 + 1) (b := e2) (by omega) (by omega) k
  have e1 : D * (2 ^ (E0 + 1) * 10 ^ P.toNat) = 2 * decA E0 D P := by
    unfold decA; rw [Nat.pow_succ]; simp only [Nat.mul_assoc, Nat.mul_comm, Nat.mul_left_comm]
  rw [e1, show 2 ^ e2 * 10 ^ (-P).toNat = 2 ^ e2 * decB P from rfl] at h2
  rw [h2.1, h2.2, Nat.mul_assoc 2 k]
  constructor <;> omega

/-- How great the scaled decimal is. -/
theorem parse_lo {n mb E0 D b e2 : Nat} {P e : Int} (hn : n = 2 ^ mb) (h0 : -348 ≤ P) (h1 : P ≤ 347) (hD0 : 2 ^ (b - 1) ≤ D) (hb0 : 1 ≤ b)
    (he2 : (e2 : Int) = E0 - e) (he : e = mb + 1 - b - lp P) : n * (2 ^ e2 * decB P) ≤ decA E0 D P := by
  have h := lp_lo P h0 h1 (i := mb + e2) (j := b - 1 + E0) (by omega)
  have h3 : 2 ^ (b - 1) * (10 ^ P.toNat * 2 ^ E0) ≤ D * (10 ^ P.toNat * 2 ^ E0) := Nat.mul_le_mul_right _ hD0
  unfold decA decB
  rw [hn]
  rw [Nat.pow_add, Nat.pow_add] at h
  calc 2 ^ mb * (2 ^ e2 * 10 ^ (-P).toNat) = 10 ^ (-P).toNat * (2 ^ mb * 2 ^ e2) := by simp only [Nat.mul_assoc, Nat.mul_comm, Nat.mul_left_comm]
    _ ≤ 10 ^ P.toNat * (2 ^ (b - 1) * 2 ^ E0) := h
    _ = 2 ^ (b - 1) * (10 ^ P.toNat * 2 ^ E0) := by simp only [Nat.mul_assoc, Nat.mul_comm, Nat.mul_left_comm]
    _ ≤ D * (10 ^ P.toNat * 2 ^ E0) := h3
    _ = D * 10 ^ P.toNat * 2 ^ E0 := (Nat.mul_assoc _ _ _).symm

theorem parse_hi {n mb E0 D b e2 : Nat} {P e : Int} (hn : n = 2 ^ mb) (h0 : -348 ≤ P) (h1 : P ≤ 347) (hD : D < 2 ^ b)
    (he2 : (e2 : Int) = E0 - e) (he : e ≤ mb + 1 - b - lp P) : 1024 * decA E0 D P ≤ 1023 * (4 * n * (2 ^ e2 * decB P)) := by
  obtain ⟨g, hg⟩ : ∃ g : Nat, (g : Int) = mb + 1 - b - lp P - e := ⟨(mb + 1 - b - lp P - e).toNat, by omega⟩
  have h := lp_hi P h0 h1 (i := mb + 2 + e2) (j := b + g + E0) (by omega)
  have h3 : D * (10 ^ P.toNat * 2 ^ E0) ≤ 2 ^ b * (10 ^ P.toNat * 2 ^ E0) := Nat.mul_le_mul_right _ (Nat.le_of_lt hD)
  have h4 : 2 ^ b * (10 ^ P.toNat * 2 ^ E0) * 1 ≤ 2 ^ b * (10 ^ P.toNat * 2 ^ E0) * 2 ^ g := Nat.mul_le_mul_left _ (Nat.two_pow_pos g)
  unfold decA decB
  rw [hn]
  rw [Nat.pow_add, Nat.pow_add, Nat.pow_add, Nat.pow_add] at h
  calc 1024 * (D * 10 ^ P.toNat * 2 ^ E0) = 1024 * (D * (10 ^ P.toNat * 2 ^ E0)) := by simp only [Nat.mul_assoc]
    _ ≤ 1024 * (2 ^ b * (10 ^ P.toNat * 2 ^ E0) * 2 ^ g) := Nat.mul_le_mul_left _ (by omega)
    _ = 1024 * 10 ^ P.toNat * (2 ^ b * 2 ^ g * 2 ^ E0) := by simp only [Nat.mul_assoc, Nat.mul_comm, Nat.mul_left_comm]
    _ ≤ 1023 * 10 ^ (-P).toNat * (2 ^ mb * 2 ^ 2 * 2 ^ e2) := h
    _ = 1023 * (4 * 2 ^ mb * (2 ^ e2 * 10 ^ (-P).toNat)) := by
      rw [show (2 : Nat) ^ 2 = 4 from rfl]; simp only [Nat.mul_assoc, Nat.mul_comm, Nat.mul_left_comm]

/-- What is read: the rung. -/
theorem parse_rung {n mb E0 D b e2 s r : Nat} {P e : Int} (hn : n = 2 ^ mb) (hmb : 10 ≤ mb) (hN : Near n r (decA E0 D P) (decB P)) (hD : D < 2 ^ b) (hD0 : 2 ^ (b - 1) ≤ D) (hb0 : 1 ≤ b) (hb : b ≤ 64) (hF : Fine D P)
    (he : e = min (E0 : Int) (mb + 1 - b - lp P)) (he2 : (e2 : Int) = E0 - e) (hs : (s : Int) = 61 - b - e - lp P) (hs8 : 8 ≤ s) :
    let u := uscaleN (D * 2 ^ (64 - b)) (hi P) (lo P) s
    (u < 8 * n - 2 → roundN u < 2 * n ∧ e2 * n + roundN u = r ∧ (roundN u < n → e2 = 0)) ∧
    (8 * n - 2 ≤ u → roundN (u / 2 ||| u % 2) < 2 * n ∧ (e2 + 1) * n + roundN (u / 2 ||| u % 2) = r ∧ n ≤ roundN (u / 2 ||| u % 2)) := by
  have hP : -348 ≤ P ∧ P ≤ 347 := by rcases hF with h | h | h <;> omega
  have hn1024 : 1024 ≤ n := by
    rw [hn]
    exact Nat.pow_le_pow_right (n := 2) (by decide) hmb
  have hev : n % 2 = 0 := by
    rw [hn, show mb = mb - 1 + 1 by omega, Nat.pow_succ]; omega
  intro u
  have hU := parse_unr (n := n) (mb := mb) hD hD0 hb0 hb hF he2 hs hs8
  have hhi := parse_hi hn hP.1 hP.2 hD he2 (by omega)
  have hlo : e2 = 0 ∨ n * (2 ^ e2 * decB P) ≤ decA E0 D P := by
    by_cases h : e2 = 0
    · left; exact h
    · right; exact parse_lo hn hP.1 hP.2 hD0 hb0 he2 (by omega)
  have hB : 0 < decB P := Nat.pow_pos (by decide)
  have hY : 0 < 2 ^ e2 * decB P := Nat.mul_pos (Nat.two_pow_pos _) hB
  change Unr u _ _ at hU
  generalize decA E0 D P = A at *
  generalize decB P = B at *
  have hk := (hU (4 * n - 1)).1
  have e8 : 2 * (4 * n - 1) = 8 * n - 2 := by omega
  rw [e8] at hk
  have p8 : (8 * n - 2) * (2 ^ e2 * B) + 2 * (2 ^ e2 * B) = 8 * (n * (2 ^ e2 * B)) := by
    rw [← Nat.add_mul, show 8 * n - 2 + 2 = 8 * n by omega, Nat.mul_assoc]
  have a2 : 2 * n * (2 ^ e2 * B) = 2 * (n * (2 ^ e2 * B)) := Nat.mul_assoc _ _ _
  have a4 : 4 * n * (2 ^ e2 * B) = 4 * (n * (2 ^ e2 * B)) := Nat.mul_assoc _ _ _
  have h24 : 1024 * (2 ^ e2 * B) ≤ n * (2 ^ e2 * B) := Nat.mul_le_mul_right _ hn1024
  rw [a4] at hhi
  constructor
  · intro hu
    have hA := hk.1 hu
    have hR0 := rne_of_unr hU
    have hR : Rne (roundN u) A (2 ^ e2 * B) := rne_frac (Nat.mul_pos (by decide) hY) hY (by simp only [Nat.mul_assoc, Nat.mul_comm, Nat.mul_left_comm]) hR0
    have hlt : roundN u < 2 * n := by
      rcases Nat.lt_or_ge (roundN u) (2 * n) with h | h
      · exact h
      · exfalso
        have := Nat.mul_le_mul_right (2 ^ e2 * B) h
        have e : 2 * roundN u * (2 ^ e2 * B) = 2 * (roundN u * (2 ^ e2 * B)) := Nat.mul_assoc _ _ _
        have := hR.2
        rw [e] at this
        omega
    refine ⟨hlt, rung_of (by omega) hev hB hN hR ?_ (by omega), ?_⟩
    · rcases hlo with h | h
      · left; exact h
      · right; omega
    · intro hl
      rcases hlo with h | h
      · exact h
      · exfalso
        have := Nat.mul_le_mul_right (2 ^ e2 * B) (show roundN u + 1 ≤ n from hl)
        rw [Nat.add_mul, Nat.one_mul] at this
        have e : (2 * roundN u + 1) * (2 ^ e2 * B) = 2 * (roundN u * (2 ^ e2 * B)) + 2 ^ e2 * B := by rw [Nat.add_mul, Nat.one_mul, Nat.mul_assoc]
        have := hR.1
        rw [e] at this
        omega
  · intro hu
    have hA : (8 * n - 2) * (2 ^ e2 * B) ≤ 4 * A := by
      rcases Nat.lt_or_ge (4 * A) ((8 * n - 2) * (2 ^ e2 * B)) with h | h
      · have := hk.2 h; omega
      · exact h
    have hU2 := unr_half hU
    have eY : 2 * (2 ^ e2 * B) = 2 ^ (e2 + 1) * B := by rw [Nat.pow_succ]; simp only [Nat.mul_assoc, Nat.mul_comm, Nat.mul_left_comm]
    rw [eY] at hU2
    have hR0 := rne_of_unr hU2
    have hY2 : 0 < 2 ^ (e2 + 1) * B := Nat.mul_pos (Nat.two_pow_pos _) hB
    have hR : Rne (roundN (u / 2 ||| u % 2)) A (2 ^ (e2 + 1) * B) := rne_frac (Nat.mul_pos (by decide) hY2) hY2 (by simp only [Nat.mul_assoc, Nat.mul_comm, Nat.mul_left_comm]) hR0
    rw [← eY] at hR
    generalize roundN (u / 2 ||| u % 2) = m at *
    have e : 2 * m * (2 * (2 ^ e2 * B)) = 4 * (m * (2 ^ e2 * B)) := by
      rw [show (4 : Nat) = 2 * 2 from rfl]; simp only [Nat.mul_assoc, Nat.mul_left_comm]
    have e' : (2 * m + 1) * (2 * (2 ^ e2 * B)) = 4 * (m * (2 ^ e2 * B)) + 2 * (2 ^ e2 * B) := by rw [Nat.add_mul, Nat.one_mul, e]
    have hlt : m < 2 * n := by
      rcases Nat.lt_or_ge m (2 * n) with h | h
      · exact h
      · exfalso
        have := Nat.mul_le_mul_right (2 ^ e2 * B) h
        have := hR.2
        rw [e] at this
        omega
    have hge : n ≤ m := by
      rcases Nat.lt_or_ge m n with h | h
      · exfalso
        have := Nat.mul_le_mul_right (2 ^ e2 * B) (show m + 1 ≤ n from h)
        rw [Nat.add_mul, Nat.one_mul] at this
        have := hR.1
        rw [e'] at this
        omega
      · exact h
    rw [eY] at hR
    refine ⟨hlt, rung_of (by omega) hev hB hN hR ?_ ?_, hge⟩
    · right
      rw [← eY]
      have : 4 * n * (2 * (2 ^ e2 * B)) = 8 * (n * (2 ^ e2 * B)) := by
        rw [show (8 : Nat) = 4 * 2 from rfl]; simp only [Nat.mul_assoc, Nat.mul_left_comm]
      omega
    · rw [← eY]
      have : 2 * n * (2 * (2 ^ e2 * B)) = 4 * (n * (2 ^ e2 * B)) := by
        rw [show (4 : Nat) = 2 * 2 from rfl]; simp only [Nat.mul_assoc, Nat.mul_left_comm]
      omega
end Fl
end Go.Proofs.YtbbjjkcjpdmjnaaGreatDoor
