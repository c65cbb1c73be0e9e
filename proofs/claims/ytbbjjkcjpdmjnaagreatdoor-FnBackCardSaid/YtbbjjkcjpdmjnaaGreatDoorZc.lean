/- Plain words for the law FnBack: the printed text of a decimal, and the decimal that is scanned of it. -/
import Derived.Test.YtbbjjkcjpdmjnaaGreatDoorZ
import Derived.Test.YtbbjjkcjpdmjnaaGreatDoorY
import Derived.Lib.ItoaNum
namespace Go.Proofs.YtbbjjkcjpdmjnaaGreatDoor
namespace Fl

/-- The text of the digits u with the point at dp. -/
def txt (u : Nat) (dp : Int) : List UInt8 :=
  if 0 < dp then
    if (Lib.decDigits u).length ≤ dp.toNat then Lib.decDigits u ++ List.replicate (dp.toNat - (Lib.decDigits u).length) 48
    else (Lib.decDigits u).take dp.toNat ++ 46 :: (Lib.decDigits u).drop dp.toNat
  else 48 :: 46 :: (List.replicate (-dp).toNat 48 ++ Lib.decDigits u)

theorem ndig_le (u k : Nat) (hk : 1 ≤ k) (h : u < 10 ^ k) : Lib.nDigits u ≤ k := by
  induction k generalizing u with
  | zero => omega
  | succ k ih =>
    by_cases h10 : u < 10
    · rw [Lib.nDigits_small h10]; omega
    · rw [Lib.nDigits_big h10]
      have h2 : u / 10 < 10 ^ k := by rw [Nat.pow_succ] at h; omega
      rcases Nat.eq_zero_or_pos k with h0 | h0
      · subst h0; simp at h; omega
      · have := ih (u / 10) h0 h2; omega

theorem ndig_ge (u : Nat) (h : 1 ≤ u) : 10 ^ (Lib.nDigits u - 1) ≤ u := by
  induction u using Nat.strongRecOn with
  | _ u ih =>
    by_cases h10 : u < 10
    · rw [Lib.nDigits_small h10]; simpa using h
    · rw [Lib.nDigits_big h10]
      have h1 := ih (u / 10) (by omega) (by omega)
      have h2 := Lib.nDigits_pos (u / 10)
      rw [show Lib.nDigits (u / 10) + 1 - 1 = Lib.nDigits (u / 10) - 1 + 1 by omega, Nat.pow_succ]
      omega

theorem dec_eq {E0 u a t : Nat} {P q : Int} (h : (a : Int) + P = t + q) : decA E0 (u * 10 ^ a) P * decB q = decA E0 (u * 10 ^ t) q * decB P := by
  unfold decA decB
  have key : 10 ^ a * 10 ^ P.toNat * 10 ^ (-q).toNat = 10 ^ t * 10 ^ q.toNat * 10 ^ (-P).toNat := by
    simp only [← Nat.pow_add]; congr 1; omega
  calc u * 10 ^ a * 10 ^ P.toNat * 2 ^ E0 * 10 ^ (-q).toNat = u * 2 ^ E0 * (10 ^ a * 10 ^ P.toNat * 10 ^ (-q).toNat) := by simp only [Nat.mul_assoc, Nat.mul_left_comm, Nat.mul_comm]
    _ = u * 2 ^ E0 * (10 ^ t * 10 ^ q.toNat * 10 ^ (-P).toNat) := by rw [key]
    _ = u * 10 ^ t * 10 ^ q.toNat * 2 ^ E0 * 10 ^ (-P).toNat := by simp only [Nat.mul_assoc, Nat.mul_left_comm, Nat.mul_comm]

theorem digit48 : Digit 48 := ⟨by decide, by decide⟩

/-- What is read of a text: its decimal. -/
structure Reads (l : List UInt8) (d : Nat) (q : Int) (D : Nat) (P : Int) : Prop where
  scans : ∃ nd k dp dot, scan l 0 0 0 0 false = (D, nd, k, dp, dot) ∧ P = (if dot then dp else (nd : Int)) - k
  pos : 1 ≤ D
  lt : D < 10000000000000000000
  fine : Fine D P
  big : 0 < P → 1000000000000000000 ≤ D
  hi : P ≤ q ∨ P ≤ 0
  lo : q ≤ P ∨ 0 ≤ P
  same : ∀ E0, decA E0 D P * decB q = decA E0 d q * decB P
  isOk : ok l 0 0 false
  head : ∃ c r, l = c :: r ∧ Digit c
  short : l.length ≤ 400

theorem txt_reads (d u t : Nat) (q : Int) (hd : d < 100000000000000000) (h0 : -325 ≤ q) (h1 : q ≤ 293) (he : d = u * 10 ^ t) (hu : 1 ≤ u) :
    ∃ D P, Reads (txt u ((Lib.nDigits d : Nat) + q)) d q D P := by
  obtain ⟨hv, hdg, hh⟩ := dec_val u
  have hlen : (Lib.decDigits u).length = Lib.nDigits u := Lib.decDigits_length u
  have hz := dec_zeros u hu t
  have hnd : Lib.nDigits d = Lib.nDigits u + t := by
    rw [← Lib.decDigits_length, he, hz, List.length_append, hlen, List.length_replicate]
  have h17 : Lib.nDigits d ≤ 17 := ndig_le d 17 (by decide) hd
  have hn1 := Lib.nDigits_pos u
  have hul : u < 10 ^ 17 := by
    have hp : 1 ≤ 10 ^ t := Nat.one_le_pow _ _ (by decide)
    have := Nat.mul_le_mul_left u hp
    have e : (10 : Nat) ^ 17 = 100000000000000000 := rfl
    omega
  obtain ⟨c0, r0, hc0, hc48⟩ := hh hu
  have hd0 : Digit c0 := hdg c0 (by rw [hc0]; exact List.mem_cons_self ..)
  obtain ⟨nu, hnu⟩ : ∃ nu, nu = Lib.nDigits u := ⟨_, rfl⟩
  rw [← hnu] at hlen hnd hn1
  obtain ⟨dp, hdp⟩ : ∃ dp : Int, dp = (Lib.nDigits d : Nat) + q := ⟨_, rfl⟩
  rw [← hdp]
  have hdp2 : dp = (nu : Int) + t + q := by omega
  unfold txt
  rw [hlen]
  by_cases hp : 0 < dp
  · rw [if_pos hp]
    by_cases hz1 : nu ≤ dp.toNat
    · rw [if_pos hz1]
      by_cases h19 : dp.toNat ≤ 19
      · -- digits and zeros, at most nineteen
        refine ⟨u * 10 ^ (dp.toNat - nu), 0, ?_⟩
        have hs := shapeA_short u (dp.toNat - nu) hu (by omega)
        have hD : u * 10 ^ (dp.toNat - nu) < 10 ^ 19 := by
          have h2 := Lib.lt_pow_nDigits (u * 10 ^ (dp.toNat - nu))
          have h3 : Lib.nDigits (u * 10 ^ (dp.toNat - nu)) = nu + (dp.toNat - nu) := by
            rw [← Lib.decDigits_length, dec_zeros u hu, List.length_append, hlen, List.length_replicate]
          rw [h3] at h2
          exact Nat.lt_of_lt_of_le h2 (Nat.pow_le_pow_right (by decide) (by omega))
        exact {
          scans := ⟨_, _, _, _, hs, by simp⟩
          pos := Nat.mul_pos hu (Nat.pow_pos (by decide))
          lt := hD
          fine := Or.inl ⟨by decide, by decide⟩
          big := fun h => absurd h (by decide)
          hi := Or.inr (by decide)
          lo := Or.inr (by decide)
          same := fun E0 => by rw [he]; exact dec_eq (by omega)
          isOk := ok_numeral u hu (by omega) _ _ (by
            have := ok_digits (List.replicate (dp.toNat - nu) 48) [] (Lib.decDigits u).length (Lib.decDigits u).length false (fun c hc => by rw [List.eq_of_mem_replicate hc]; exact digit48) (by omega) (by rw [List.length_replicate]; omega) (by simp [ok])
            rwa [List.append_nil] at this)
          head := ⟨c0, r0 ++ _, by rw [hc0]; rfl, hd0⟩
          short := by rw [List.length_append, hlen, List.length_replicate]; omega }
      · -- digits and zeros, more than nineteen
        refine ⟨u * 10 ^ (19 - nu), dp - 19, ?_⟩
        have hs := shapeA_long u (19 - nu) (dp.toNat - 19) hu (by omega)
        rw [show 19 - nu + (dp.toNat - 19) = dp.toNat - nu by omega] at hs
        have h3 : Lib.nDigits (u * 10 ^ (19 - nu)) = 19 := by
          rw [← Lib.decDigits_length, dec_zeros u hu, List.length_append, hlen, List.length_replicate]; omega
        have hpos : 1 ≤ u * 10 ^ (19 - nu) := Nat.mul_pos hu (Nat.pow_pos (by decide))
        have h2 := Lib.lt_pow_nDigits (u * 10 ^ (19 - nu))
        have h4 := ndig_ge (u * 10 ^ (19 - nu)) hpos
        rw [h3] at h2 h4
        have h100 : 100 ∣ u * 10 ^ (19 - nu) := by
          refine Nat.dvd_trans ?_ (Nat.dvd_mul_left _ _)
          rw [show 19 - nu = 17 - nu + 2 by omega, Nat.pow_add]
          exact Nat.dvd_mul_left _ _
        exact {
          scans := ⟨_, _, _, _, hs, by simp; omega⟩
          pos := hpos
          lt := h2
          fine := Or.inr (Or.inr ⟨by omega, by omega, h100⟩)
          big := fun _ => h4
          hi := Or.inl (by omega)
          lo := Or.inr (by omega)
          same := fun E0 => by rw [he]; exact dec_eq (by omega)
          isOk := by
            have hz2 := dec_zeros u hu (19 - nu)
            have hl19 : (Lib.decDigits (u * 10 ^ (19 - nu))).length = 19 := by rw [Lib.decDigits_length, h3]
            have := ok_numeral (u * 10 ^ (19 - nu)) hpos (by omega) (List.replicate (dp.toNat - 19) 48) false (by rw [hl19]; exact ok_late _ _ _ _ (by decide) (by decide))
            rw [hz2, List.append_assoc, List.replicate_append_replicate, show 19 - nu + (dp.toNat - 19) = dp.toNat - nu by omega] at this
            exact this
          head := ⟨c0, r0 ++ _, by rw [hc0]; rfl, hd0⟩
          short := by rw [List.length_append, hlen, List.length_replicate]; omega }
    · -- a point amid the digits
      rw [if_neg hz1]
      refine ⟨u, dp - nu, ?_⟩
      have hab : Lib.decDigits u = (Lib.decDigits u).take dp.toNat ++ (Lib.decDigits u).drop dp.toNat := (List.take_append_drop _ _).symm
      have hla : ((Lib.decDigits u).take dp.toNat).length = dp.toNat := by rw [List.length_take, hlen]; omega
      have hlb : ((Lib.decDigits u).drop dp.toNat).length = nu - dp.toNat := by rw [List.length_drop, hlen]
      have hane : (Lib.decDigits u).take dp.toNat ≠ [] := fun h => by rw [h] at hla; simp at hla; omega
      have hs := shapeB u _ _ hab hane hu (by omega)
      rw [hla, hlen] at hs
      have ha' : ∀ c ∈ (Lib.decDigits u).take dp.toNat, Digit c := fun c hc => hdg c (List.mem_of_mem_take hc)
      have hb' : ∀ c ∈ (Lib.decDigits u).drop dp.toNat, Digit c := fun c hc => hdg c (List.mem_of_mem_drop hc)
      have htk : (Lib.decDigits u).take dp.toNat = c0 :: r0.take (dp.toNat - 1) := by
        rw [hc0, show dp.toNat = dp.toNat - 1 + 1 by omega, List.take_succ_cons, Nat.add_sub_cancel]
      generalize (Lib.decDigits u).take dp.toNat = a at *
      generalize (Lib.decDigits u).drop dp.toNat = b at *
      subst htk
      have hla2 : (r0.take (dp.toNat - 1)).length = dp.toNat - 1 := by rw [List.length_cons] at hla; omega
      generalize r0.take (dp.toNat - 1) = a' at *
      exact {
        scans := ⟨_, _, _, _, hs, by simp; omega⟩
        pos := hu
        lt := Nat.lt_of_lt_of_le hul (by decide)
        fine := Or.inr (Or.inl ⟨by omega, by omega, Nat.lt_of_lt_of_le hul (by decide)⟩)
        big := fun h => by omega
        hi := Or.inr (by omega)
        lo := Or.inl (by omega)
        same := fun E0 => by
          rw [he]
          have := dec_eq (E0 := E0) (u := u) (a := 0) (t := t) (P := dp - nu) (q := q) (by omega)
          simpa using this
        isOk := by
          rw [List.cons_append, ok, if_neg (digit_ne hd0), if_neg (fun h => hc48 h.1), if_pos (by decide)]
          refine ⟨hd0, ok_digits a' _ 1 1 false (fun x hx => ha' x (List.mem_cons_of_mem _ hx)) (by decide) (by omega) ?_⟩
          rw [ok, if_pos rfl]
          refine ⟨rfl, ?_⟩
          have := ok_digits b [] (1 + a'.length) (1 + a'.length) true hb' (by omega) (by omega) (by simp [ok])
          rwa [List.append_nil] at this
        head := ⟨c0, _, rfl, hd0⟩
        short := by simp only [List.length_append, List.length_cons]; omega }
  · -- zeros behind the point
    rw [if_neg hp]
    refine ⟨u, dp - nu, ?_⟩
    have hs := shapeC u (-dp).toNat hu (by omega)
    rw [hlen] at hs
    exact {
      scans := ⟨_, _, _, _, hs, by simp; omega⟩
      pos := hu
      lt := Nat.lt_of_lt_of_le hul (by decide)
      fine := Or.inr (Or.inl ⟨by omega, by omega, Nat.lt_of_lt_of_le hul (by decide)⟩)
      big := fun h => by omega
      hi := Or.inr (by omega)
      lo := Or.inl (by omega)
      same := fun E0 => by
        rw [he]
        have := dec_eq (E0 := E0) (u := u) (a := 0) (t := t) (P := dp - nu) (q := q) (by omega)
        simpa using this
      isOk := by
        rw [ok, if_neg (by decide), if_pos ⟨rfl, rfl⟩]
        refine ⟨digit48, ?_⟩
        rw [ok, if_pos rfl]
        refine ⟨rfl, ok_early _ _ _ ?_⟩
        have := ok_numeral u hu (by omega) [] true (by simp [ok])
        rwa [List.append_nil] at this
      head := ⟨48, _, rfl, digit48⟩
      short := by simp only [List.length_append, List.length_cons, List.length_replicate]; omega }

/-- A decimal near a float stays near it, read back. -/
theorem Reads.near {l : List UInt8} {d D n r E0 : Nat} {q P : Int} (h : Reads l d q D P) (hN : Near n r (decA E0 d q) (decB q)) : Near n r (decA E0 D P) (decB P) :=
  near_frac (Nat.pow_pos (by decide)) (Nat.pow_pos (by decide)) (h.same E0).symm hN
end Fl
end Go.Proofs.YtbbjjkcjpdmjnaaGreatDoor
