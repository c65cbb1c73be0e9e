/- Plain facts for the law FnBack: printed texts may stand bare in a literal; integers are read back. -/
import Derived.Test.YtbbjjkcjpdmjnaaGreatDoorZw
import Derived.Lib.ParseIntBTie
import Derived.Lib.ItoaLen
namespace Go.Proofs.YtbbjjkcjpdmjnaaGreatDoor
open Go.RowKit

theorem dot_or_digit : ∀ (l : List UInt8) (nd k : Nat) (dot : Bool), Fl.ok l nd k dot → ∀ c ∈ l, c = 46 ∨ Fl.Digit c
  | [], _, _, _, _, c, hc => by cases hc
  | x :: r, nd, k, dot, h, c, hc => by
    rw [Fl.ok] at h
    by_cases hx : x = 46
    · rw [if_pos hx] at h
      rcases List.mem_cons.1 hc with rfl | hc
      · exact Or.inl hx
      · exact dot_or_digit r _ _ _ h.2 c hc
    · rw [if_neg hx] at h
      obtain ⟨h1, h2⟩ := h
      rcases List.mem_cons.1 hc with rfl | hc
      · exact Or.inr h1
      · split at h2
        · exact dot_or_digit r _ _ _ h2 c hc
        · split at h2
          · exact dot_or_digit r _ _ _ h2 c hc
          · exact dot_or_digit r _ _ _ h2.2 c hc

theorem digit_plain {c : UInt8} (h : Fl.Digit c) : Plain c := by
  obtain ⟨h1, h2⟩ := h
  refine ⟨?_, ?_, ?_, ?_, ?_⟩ <;> rintro rfl <;> first | exact absurd h1 (by decide) | exact absurd h2 (by decide)
theorem plain_46 : Plain 46 := by refine ⟨?_, ?_, ?_, ?_, ?_⟩ <;> decide
theorem plain_45 : Plain 45 := by refine ⟨?_, ?_, ?_, ?_, ?_⟩ <;> decide
theorem plain_48 : Plain 48 := by refine ⟨?_, ?_, ?_, ?_, ?_⟩ <;> decide

theorem reads_plain {neg : Bool} {l : List UInt8} {d D : Nat} {q P : Int} (h : Fl.Reads l d q D P) : (Tok.bare (sgn neg l)).Ok ∧ (sgn neg l).length ≤ 401 := by
  have hp : ∀ c ∈ l, Plain c := fun c hc => by
    rcases dot_or_digit l 0 0 false h.isOk c hc with rfl | h1
    · exact plain_46
    · exact digit_plain h1
  have hs := h.short
  obtain ⟨c0, r0, h0, _⟩ := h.head
  cases neg
  · refine ⟨⟨?_, hp⟩, by simp [sgn]; omega⟩
    simp [sgn, h0]
  · refine ⟨⟨by simp [sgn], fun c hc => ?_⟩, by simp [sgn]; omega⟩
    rcases List.mem_cons.1 hc with rfl | hc
    · exact plain_45
    · exact hp c hc
theorem zero_plain : (Tok.bare [48]).Ok := ⟨by simp, fun c hc => by rcases List.mem_singleton.1 hc with rfl; exact plain_48⟩
theorem text64_plain {neg : Bool} {r : Nat} {l : List UInt8} (h : IsText64 neg r l) : (Tok.bare l).Ok ∧ l.length ≤ 401 := by
  rcases h with ⟨_, _, rfl⟩ | ⟨_, l0, d, q, D, P, rfl, hR, _⟩
  · exact ⟨zero_plain, by decide⟩
  · exact reads_plain hR
theorem text32_plain {neg : Bool} {r : Nat} {l : List UInt8} (h : IsText32 neg r l) : (Tok.bare l).Ok ∧ l.length ≤ 401 := by
  rcases h with ⟨_, _, rfl⟩ | ⟨_, l0, d, q, D, P, rfl, hR, _⟩
  · exact ⟨zero_plain, by decide⟩
  · exact reads_plain hR

theorem dec_plain (u : Nat) : (∀ c ∈ Lib.decDigits u, Plain c) ∧ Lib.decDigits u ≠ [] := by
  refine ⟨fun c hc => digit_plain ((Fl.dec_val u).2.1 c hc), fun h => ?_⟩
  have := Lib.decDigits_length u
  have h2 := Lib.nDigits_pos u
  rw [h] at this
  simp at this
  omega
theorem itoa_plain (x : Int) : (Tok.bare (Lib.itoa x)).Ok := by
  unfold Lib.itoa
  split
  · refine ⟨by simp, fun c hc => ?_⟩
    rcases List.mem_cons.1 hc with rfl | hc
    · exact plain_45
    · exact (dec_plain _).1 c hc
  · exact ⟨(dec_plain _).2, fun c hc => (dec_plain _).1 c hc⟩

theorem parse_dec (M : Nat) (hM : M < 18446744073709551616) (u : Nat) (hu : u ≤ M) (r : List UInt8) : Lib.parseUintM M 0 (Lib.decDigits u ++ r) = Lib.parseUintM M u r := by
  induction u using Nat.strongRecOn generalizing r with
  | _ u ih =>
    rw [Lib.decDigits]
    by_cases h : u < 10
    · rw [dif_pos h]
      have e : (UInt8.ofNat (48 + u)).toNat = 48 + u := by rw [UInt8.toNat_ofNat']; omega
      rw [List.singleton_append, Lib.parseUintM, e, if_pos (by omega), if_neg (by omega), if_neg (by omega)]
      congr 1
      omega
    · rw [dif_neg h, List.append_assoc, ih (u / 10) (by omega) (by omega)]
      have e : (UInt8.ofNat (48 + u % 10)).toNat = 48 + u % 10 := by rw [UInt8.toNat_ofNat']; omega
      rw [List.singleton_append, Lib.parseUintM, e, if_pos (by omega), if_neg (by omega), if_neg (by omega)]
      congr 1
      omega
theorem parse_decB (B u : Nat) (hB : 2 ^ B ≤ 18446744073709551616) (hu : u < 2 ^ B) : Lib.parseUintB B (Lib.decDigits u) = .ok u := by
  unfold Lib.parseUintB
  rw [if_neg (dec_plain u).2]
  have h := parse_dec (2 ^ B - 1) (by omega) u (by omega) []
  rw [List.append_nil] at h
  rw [h, Lib.parseUintM]
theorem parse_itoa (B : Nat) (x : Int) (hB1 : 1 ≤ B) (hB : 2 ^ B ≤ 18446744073709551616) (h0 : -((2 ^ (B - 1) : Nat) : Int) ≤ x) (h1 : x < ((2 ^ (B - 1) : Nat) : Int)) : Lib.parseIntB B (Lib.itoa x) = .ok x := by
  have e2 : 2 ^ B = 2 * 2 ^ (B - 1) := by
    rw [← Nat.pow_succ', Nat.succ_eq_add_one, Nat.sub_add_cancel hB1]
  generalize he : 2 ^ (B - 1) = C at *
  by_cases hx : x < 0
  · obtain ⟨u, rfl⟩ : ∃ u : Nat, x = -(u : Int) := ⟨x.natAbs, by omega⟩
    rw [Lib.itoa_neg u (by omega), Lib.parseIntB_minus, parse_decB B u hB (by omega), he]
    simp only [Lib.signedC]
    rw [if_neg (by omega)]
  · obtain ⟨u, rfl⟩ : ∃ u : Nat, x = (u : Int) := ⟨x.toNat, by omega⟩
    rw [Lib.itoa_nonneg u]
    obtain ⟨h2, h3⟩ := dec_plain u
    have hp := parse_decB B u hB (by omega)
    have hd := (Fl.dec_val u).2.1
    generalize Lib.decDigits u = l at *
    match l, h3 with
    | c :: r, _ =>
      have hc := hd c (List.mem_cons_self ..)
      unfold Fl.Digit at hc
      rw [Lib.parseIntB_plain B c r (by omega) (by omega), hp, he]
      simp only [Lib.signlessC]
      rw [if_neg (by omega)]
theorem parse_itoa64 (x : Int) (h0 : -9223372036854775808 ≤ x) (h1 : x ≤ 9223372036854775807) : Lib.parseIntB 64 (Lib.itoa x) = .ok x := by
  have e : ((2 ^ (64 - 1) : Nat) : Int) = 9223372036854775808 := rfl
  exact parse_itoa 64 x (by decide) (by decide) (by omega) (by omega)
theorem parse_itoa32 (x : Int) (h0 : -2147483648 ≤ x) (h1 : x ≤ 2147483647) : Lib.parseIntB 32 (Lib.itoa x) = .ok x := by
  have e : ((2 ^ (32 - 1) : Nat) : Int) = 2147483648 := rfl
  exact parse_itoa 32 x (by decide) (by decide) (by omega) (by omega)

theorem hd_no : ∀ n : Fin 16, hd n ≠ 34 ∧ hd n ≠ 92 := by decide
theorem esc_hexs (x : List UInt8) : esc (hexs x) = hexs x := by
  induction x with
  | nil => rfl
  | cons c r ih =>
    have h1 := hd_no ⟨c.toNat / 16, by have := c.toNat_lt; omega⟩
    have h2 := hd_no ⟨c.toNat % 16, by omega⟩
    dsimp only at h1 h2
    rw [hexs, esc, if_neg (by simp [h1.1, h1.2]), esc, if_neg (by simp [h2.1, h2.2]), ih]
theorem bt_enc (x : List UInt8) : bt x = Tok.enc (.quoted (hexText x)) := by
  unfold bt hexText
  simp only [Tok.enc]
  rw [esc_append, esc_hexs]
  rfl
theorem tf_plain (b : Bool) : (Tok.bare [tf b]).Ok := by
  cases b
  · exact ⟨by simp, fun c hc => by rcases List.mem_singleton.1 hc with rfl; refine ⟨?_, ?_, ?_, ?_, ?_⟩ <;> decide⟩
  · exact ⟨by simp, fun c hc => by rcases List.mem_singleton.1 hc with rfl; refine ⟨?_, ?_, ?_, ?_, ?_⟩ <;> decide⟩
theorem tf_eq (b : Bool) : tf b = if b then 116 else 102 := by cases b <;> rfl
end Go.Proofs.YtbbjjkcjpdmjnaaGreatDoor
