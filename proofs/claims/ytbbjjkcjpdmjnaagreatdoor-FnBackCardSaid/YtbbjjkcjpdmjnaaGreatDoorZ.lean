/- Plain words for the law FnBack: how the digits of a float's text are read. -/
import Derived.Test.YtbbjjkcjpdmjnaaGreatDoorR
import Derived.Lib.ItoaNum
namespace Go.Proofs.YtbbjjkcjpdmjnaaGreatDoor
namespace Fl

/-- What readFloat's loop reckons: the mantissa, the digits, the digits in the mantissa, the point, whether a point was seen. -/
def scan : List UInt8 → Nat → Nat → Nat → Int → Bool → Nat × Nat × Nat × Int × Bool
  | [], m, nd, k, dp, dot => (m, nd, k, dp, dot)
  | c :: r, m, nd, k, dp, dot =>
    if c = 46 then scan r m nd k nd true
    else if c = 48 ∧ nd = 0 then scan r m nd k (dp - 1) dot
    else if k < 19 then scan r (m * 10 + (c.toNat - 48)) (nd + 1) (k + 1) dp dot
    else scan r m (nd + 1) k dp dot

def Digit (c : UInt8) : Prop := 48 ≤ c.toNat ∧ c.toNat ≤ 57
def val (ds : List UInt8) (m : Nat) : Nat := ds.foldl (fun a c => a * 10 + (c.toNat - 48)) m

theorem digit_ne {c : UInt8} (h : Digit c) : c ≠ 46 := by
  rintro rfl
  exact absurd h.1 (by decide)

theorem scan_digits : ∀ (ds r : List UInt8) (m nd k : Nat) (dp : Int) (dot : Bool), (∀ c ∈ ds, Digit c) → 0 < nd → k + ds.length ≤ 19 →
    scan (ds ++ r) m nd k dp dot = scan r (val ds m) (nd + ds.length) (k + ds.length) dp dot
  | [], r, m, nd, k, dp, dot, _, _, _ => rfl
  | c :: ds, r, m, nd, k, dp, dot, h, hnd, hk => by
    have hc := h c (List.mem_cons_self ..)
    simp only [List.length_cons] at hk ⊢
    rw [List.cons_append, scan, if_neg (digit_ne hc), if_neg (by omega), if_pos (by omega)]
    rw [scan_digits ds r _ (nd + 1) (k + 1) dp dot (fun c hc => h c (List.mem_cons_of_mem _ hc)) (by omega) (by omega)]
    unfold val
    rw [List.foldl_cons]
    congr 1 <;> omega

/-- Digits of which the first is no zero. -/
theorem scan_first (c : UInt8) (ds r : List UInt8) (dp : Int) (dot : Bool) (hc : Digit c) (h0 : c ≠ 48) (h : ∀ c ∈ ds, Digit c) (hk : ds.length ≤ 18) :
    scan (c :: ds ++ r) 0 0 0 dp dot = scan r (val (c :: ds) 0) (ds.length + 1) (ds.length + 1) dp dot := by
  rw [List.cons_append, scan, if_neg (digit_ne hc), if_neg (fun h => h0 h.1), if_pos (by decide)]
  rw [scan_digits ds r _ 1 1 dp dot h (by decide) (by omega)]
  unfold val
  rw [List.foldl_cons]
  congr 1 <;> omega

theorem scan_late : ∀ (z : Nat) (r : List UInt8) (m nd k : Nat) (dp : Int) (dot : Bool), 0 < nd → 19 ≤ k →
    scan (List.replicate z 48 ++ r) m nd k dp dot = scan r m (nd + z) k dp dot
  | 0, r, m, nd, k, dp, dot, _, _ => rfl
  | z + 1, r, m, nd, k, dp, dot, hnd, hk => by
    rw [List.replicate_succ, List.cons_append, scan, if_neg (by decide), if_neg (by omega), if_neg (by omega)]
    rw [scan_late z r m (nd + 1) k dp dot (by omega) hk]
    congr 1
    omega

theorem scan_early : ∀ (z : Nat) (r : List UInt8) (dp : Int) (dot : Bool),
    scan (List.replicate z 48 ++ r) 0 0 0 dp dot = scan r 0 0 0 (dp - z) dot
  | 0, r, dp, dot => by simp
  | z + 1, r, dp, dot => by
    rw [List.replicate_succ, List.cons_append, scan, if_neg (by decide), if_pos ⟨rfl, rfl⟩]
    rw [scan_early z r (dp - 1) dot]
    congr 1
    omega
end Fl
end Go.Proofs.YtbbjjkcjpdmjnaaGreatDoor

/- Plain words for the law FnBack: a numeral's digits and its value. -/
namespace Go.Proofs.YtbbjjkcjpdmjnaaGreatDoor
namespace Fl

theorem val_append (a b : List UInt8) (m : Nat) : val (a ++ b) m = val b (val a m) := by
  unfold val; rw [List.foldl_append]

theorem dec_val (u : Nat) : val (Lib.decDigits u) 0 = u ∧ (∀ c ∈ Lib.decDigits u, Digit c) ∧ (1 ≤ u → ∃ c r, Lib.decDigits u = c :: r ∧ c ≠ 48) := by
  induction u using Nat.strongRecOn with
  | _ u ih =>
    rw [Lib.decDigits]
    by_cases hu : u < 10
    · rw [dif_pos hu]
      have e : (UInt8.ofNat (48 + u)).toNat = 48 + u := by rw [UInt8.toNat_ofNat']; omega
      refine ⟨?_, ?_, fun h1 => ⟨_, _, rfl, ?_⟩⟩
      · show 0 * 10 + ((UInt8.ofNat (48 + u)).toNat - 48) = u
        rw [e]; omega
      · intro c hc
        rw [List.mem_singleton] at hc
        subst hc
        unfold Digit
        rw [e]; omega
      · intro h
        have := congrArg UInt8.toNat h
        rw [e] at this
        have h48 : (48 : UInt8).toNat = 48 := rfl
        omega
    · rw [dif_neg hu]
      have e : (UInt8.ofNat (48 + u % 10)).toNat = 48 + u % 10 := by rw [UInt8.toNat_ofNat']; omega
      obtain ⟨h1, h2, h3⟩ := ih (u / 10) (by omega)
      refine ⟨?_, ?_, fun _ => ?_⟩
      · rw [val_append, h1]
        show u / 10 * 10 + ((UInt8.ofNat (48 + u % 10)).toNat - 48) = u
        rw [e]; omega
      · intro c hc
        rw [List.mem_append] at hc
        rcases hc with hc | hc
        · exact h2 c hc
        · rw [List.mem_singleton] at hc
          subst hc
          unfold Digit
          rw [e]; omega
      · obtain ⟨c, r, hc, hn⟩ := h3 (by omega)
        exact ⟨c, r ++ [UInt8.ofNat (48 + u % 10)], by rw [hc]; rfl, hn⟩

theorem dec_ten_times (u : Nat) (h : 1 ≤ u) : Lib.decDigits (u * 10) = Lib.decDigits u ++ [48] := by
  rw [Lib.decDigits, dif_neg (by omega), show u * 10 / 10 = u by omega, show u * 10 % 10 = 0 by omega]
  rfl

/-- Zeros behind a numeral. -/
theorem dec_zeros (u : Nat) (h : 1 ≤ u) : ∀ t : Nat, Lib.decDigits (u * 10 ^ t) = Lib.decDigits u ++ List.replicate t 48
  | 0 => by simp
  | t + 1 => by
    have hp : 1 ≤ u * 10 ^ t := Nat.mul_pos h (Nat.pow_pos (by decide))
    rw [Nat.pow_succ, ← Nat.mul_assoc, dec_ten_times _ hp, dec_zeros u h t, List.append_assoc, List.replicate_succ']

/-- A number without its last zeros. -/
theorem strip_zeros (d : Nat) (h : 1 ≤ d) : ∃ d0 t : Nat, d = d0 * 10 ^ t ∧ d0 % 10 ≠ 0 ∧ 1 ≤ d0 := by
  induction d using Nat.strongRecOn with
  | _ d ih =>
    by_cases h10 : d % 10 = 0
    · obtain ⟨d0, t, e, hn, h1⟩ := ih (d / 10) (by omega) (by omega)
      refine ⟨d0, t + 1, ?_, hn, h1⟩
      rw [Nat.pow_succ, ← Nat.mul_assoc, ← e]
      omega
    · exact ⟨d, 0, by simp, h10, h⟩
end Fl
end Go.Proofs.YtbbjjkcjpdmjnaaGreatDoor

/- Plain words for the law FnBack: what is read of the three shapes of a float's text. -/
namespace Go.Proofs.YtbbjjkcjpdmjnaaGreatDoor
namespace Fl

/-- A whole numeral of at most nineteen digits, and what is behind it. -/
theorem scan_numeral (u : Nat) (h : 1 ≤ u) (hl : (Lib.decDigits u).length ≤ 19) (r : List UInt8) (dp : Int) (dot : Bool) :
    scan (Lib.decDigits u ++ r) 0 0 0 dp dot = scan r u (Lib.decDigits u).length (Lib.decDigits u).length dp dot := by
  obtain ⟨hv, hd, hh⟩ := dec_val u
  obtain ⟨c, ds, hc, hn⟩ := hh h
  rw [hc] at hv hd hl ⊢
  rw [scan_first c ds r dp dot (hd c (List.mem_cons_self ..)) hn (fun x hx => hd x (List.mem_cons_of_mem _ hx)) (by simpa using hl), hv]
  rfl

theorem shapeA_short (u z : Nat) (h : 1 ≤ u) (hl : (Lib.decDigits u).length + z ≤ 19) :
    scan (Lib.decDigits u ++ List.replicate z 48) 0 0 0 0 false = (u * 10 ^ z, (Lib.decDigits u).length + z, (Lib.decDigits u).length + z, 0, false) := by
  have hz := dec_zeros u h z
  have hlen : (Lib.decDigits (u * 10 ^ z)).length = (Lib.decDigits u).length + z := by rw [hz]; simp
  have := scan_numeral (u * 10 ^ z) (Nat.mul_pos h (Nat.pow_pos (by decide))) (by omega) [] 0 false
  rw [List.append_nil, hlen, hz] at this
  exact this

theorem shapeA_long (u z1 z2 : Nat) (h : 1 ≤ u) (hl : (Lib.decDigits u).length + z1 = 19) :
    scan (Lib.decDigits u ++ List.replicate (z1 + z2) 48) 0 0 0 0 false = (u * 10 ^ z1, 19 + z2, 19, 0, false) := by
  have hz := dec_zeros u h z1
  have hlen : (Lib.decDigits (u * 10 ^ z1)).length = 19 := by rw [hz]; simp; exact hl
  have := scan_numeral (u * 10 ^ z1) (Nat.mul_pos h (Nat.pow_pos (by decide))) (by omega) (List.replicate z2 48) 0 false
  rw [hlen, hz] at this
  rw [← List.replicate_append_replicate, ← List.append_assoc, this]
  have h2 := scan_late z2 [] (u * 10 ^ z1) 19 19 0 false (by decide) (by decide)
  rw [List.append_nil] at h2
  rw [h2]
  rfl

theorem shapeC (u z : Nat) (h : 1 ≤ u) (hl : (Lib.decDigits u).length ≤ 19) :
    scan (48 :: 46 :: (List.replicate z 48 ++ Lib.decDigits u)) 0 0 0 0 false = (u, (Lib.decDigits u).length, (Lib.decDigits u).length, -(z : Int), true) := by
  rw [scan, if_neg (by decide), if_pos ⟨rfl, rfl⟩, scan, if_pos rfl, scan_early]
  have := scan_numeral u h hl [] (((0 : Nat) : Int) - z) true
  rw [List.append_nil] at this
  rw [this]
  simp [scan]

theorem shapeB (u : Nat) (a b : List UInt8) (hab : Lib.decDigits u = a ++ b) (ha : a ≠ []) (h : 1 ≤ u) (hl : (Lib.decDigits u).length ≤ 19) :
    scan (a ++ 46 :: b) 0 0 0 0 false = (u, (Lib.decDigits u).length, (Lib.decDigits u).length, (a.length : Int), true) := by
  obtain ⟨hv, hd, hh⟩ := dec_val u
  obtain ⟨c, ds, hc, hn⟩ := hh h
  rw [hab] at hv hd hl hc ⊢
  rw [List.length_append] at hl ⊢
  obtain ⟨x, a', rfl⟩ : ∃ x a', a = x :: a' := by
    cases a with
    | nil => exact absurd rfl ha
    | cons x y => exact ⟨x, y, rfl⟩
  simp only [List.cons_append, List.cons.injEq] at hc
  simp only [List.length_cons] at hl ⊢
  rw [scan_first x a' _ 0 false (hd x (by simp)) (by rw [hc.1]; exact hn) (fun y hy => hd y (by simp [hy])) (by omega), scan, if_pos rfl]
  have := scan_digits b [] (val (x :: a') 0) (a'.length + 1) (a'.length + 1) ((a'.length + 1 : Nat) : Int) true (fun y hy => hd y (by simp [hy])) (by omega) (by omega)
  rw [List.append_nil] at this
  rw [this, ← val_append, hv]
  rfl
end Fl
end Go.Proofs.YtbbjjkcjpdmjnaaGreatDoor

/- Plain words for the law FnBack: texts that readFloat reads without leaving a digit out. -/
namespace Go.Proofs.YtbbjjkcjpdmjnaaGreatDoor
namespace Fl

/-- Digits and at most one point; behind the nineteenth digit of the mantissa only zeros. -/
def ok : List UInt8 → Nat → Nat → Bool → Prop
  | [], _, _, _ => True
  | c :: r, nd, k, dot =>
    if c = 46 then dot = false ∧ ok r nd k true
    else Digit c ∧ (if c = 48 ∧ nd = 0 then ok r nd k dot else if k < 19 then ok r (nd + 1) (k + 1) dot else c = 48 ∧ ok r (nd + 1) k dot)

theorem ok_digits : ∀ (ds r : List UInt8) (nd k : Nat) (dot : Bool), (∀ c ∈ ds, Digit c) → 0 < nd → k + ds.length ≤ 19 → ok r (nd + ds.length) (k + ds.length) dot → ok (ds ++ r) nd k dot
  | [], r, nd, k, dot, _, _, _, h => h
  | c :: ds, r, nd, k, dot, hd, hnd, hk, h => by
    have hc := hd c (List.mem_cons_self ..)
    simp only [List.length_cons] at hk h
    rw [List.cons_append, ok, if_neg (digit_ne hc), if_neg (by omega), if_pos (by omega)]
    refine ⟨hc, ok_digits ds r (nd + 1) (k + 1) dot (fun x hx => hd x (List.mem_cons_of_mem _ hx)) (by omega) (by omega) ?_⟩
    rw [show nd + 1 + ds.length = nd + (ds.length + 1) by omega, show k + 1 + ds.length = k + (ds.length + 1) by omega]
    exact h

theorem ok_numeral (u : Nat) (h : 1 ≤ u) (hl : (Lib.decDigits u).length ≤ 19) (r : List UInt8) (dot : Bool) (hr : ok r (Lib.decDigits u).length (Lib.decDigits u).length dot) : ok (Lib.decDigits u ++ r) 0 0 dot := by
  obtain ⟨hv, hd, hh⟩ := dec_val u
  obtain ⟨c, ds, hc, hn⟩ := hh h
  rw [hc] at hd hl hr ⊢
  simp only [List.length_cons] at hl hr
  have h1 := hd c (List.mem_cons_self ..)
  rw [List.cons_append, ok, if_neg (digit_ne h1), if_neg (fun h => hn h.1), if_pos (by decide)]
  refine ⟨h1, ok_digits ds r 1 1 dot (fun x hx => hd x (List.mem_cons_of_mem _ hx)) (by decide) (by omega) ?_⟩
  rw [show 0 + 1 + ds.length = ds.length + 1 by omega]
  exact hr

theorem ok_late : ∀ (z nd k : Nat) (dot : Bool), 0 < nd → 19 ≤ k → ok (List.replicate z 48) nd k dot
  | 0, _, _, _, _, _ => trivial
  | z + 1, nd, k, dot, hnd, hk => by
    rw [List.replicate_succ, ok, if_neg (by decide), if_neg (by omega), if_neg (by omega)]
    exact ⟨⟨by decide, by decide⟩, rfl, ok_late z (nd + 1) k dot (by omega) hk⟩

theorem ok_early : ∀ (z : Nat) (r : List UInt8) (dot : Bool), ok r 0 0 dot → ok (List.replicate z 48 ++ r) 0 0 dot
  | 0, r, dot, h => h
  | z + 1, r, dot, h => by
    rw [List.replicate_succ, List.cons_append, ok, if_neg (by decide), if_pos ⟨rfl, rfl⟩]
    exact ⟨⟨by decide, by decide⟩, ok_early z r dot h⟩
end Fl
end Go.Proofs.YtbbjjkcjpdmjnaaGreatDoor
