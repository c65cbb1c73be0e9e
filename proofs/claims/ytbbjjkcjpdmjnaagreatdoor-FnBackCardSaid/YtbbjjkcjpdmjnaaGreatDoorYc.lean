/- Runs of conversions between floats, whatever the float (law FnBack). -/
import Derived.Test.YtbbjjkcjpdmjnaaGreatDoorJ
import Derived.Test.YtbbjjkcjpdmjnaaGreatDoorZf
import Derived.Laws.NewFold
namespace Go.Proofs.YtbbjjkcjpdmjnaaGreatDoor
open Go.RowKit

theorem f64_wf (X : Nat) (hX : X < 18446744073709551616) : (Lit.float .f64 X).wf = true := wf_of_lt .f64 X hX
theorem lt_of_wf32 {r : Nat} (h : (Lit.float .f32 r).wf = true) : r < 4294967296 := by simpa [Lit.wf] using h
theorem lt_of_wf64 {r : Nat} (h : (Lit.float .f64 r).wf = true) : r < 18446744073709551616 := by simpa [Lit.wf] using h

theorem run_choose_any (q : Question) (hq : q.forced = false) (w : World) : ∃ t, (choose q).run Tryz.prog w = .ok (q.cut t) w.drew := by
  refine ⟨w.tape w.drawn q, ?_⟩
  rw [run_choose_drew, hq]
  rfl

theorem conv_narrow_any (X : Nat) (hX : X < 18446744073709551616) (w : World) : ∃ c w', (convert 30 49 (.float .f64 X)).run Tryz.prog w = .ok (.float .f32 c) w' ∧ c < 4294967296 ∧ (w' = w ∨ w' = w.drew) := by
  cases h : floatToFloatBits .f64 X .f32 with
  | some r => exact ⟨r, w, run_convert_float_float w 30 49 .f64 .f32 _ _ (by rw [Tryz.underlying30]; rfl) Tryz.underlying49 h, lt_of_wf32 (floatToFloatBits_wf (f64_wf X hX) h), Or.inl rfl⟩
  | none =>
    unfold floatToFloatBits at h
    rw [if_neg (by decide)] at h
    split at h
    · rename_i ng fr he
      obtain ⟨t, ht⟩ := run_choose_any (.nanConv .f32 X) rfl w
      refine ⟨(Question.nanConv .f32 X).cut t, w.drew, ?_, ?_, Or.inr rfl⟩
      · simp [convert, run_underlying Tryz.underlying30, run_underlying Tryz.underlying49, Conv.floatToFloat, he, ht, -run_choose_drew, -run_choose]
      · simp only [Question.cut]
        omega
    · cases h
    · rename_i s m e he
      split at h
      · rename_i hi
        obtain ⟨t, ht⟩ := run_choose_any (.floatToFloat X) rfl w
        refine ⟨(Question.floatToFloat X).cut t, w.drew, ?_, ?_, Or.inr rfl⟩
        · simp [convert, run_underlying Tryz.underlying30, run_underlying Tryz.underlying49, Conv.floatToFloat, he, hi, ht, -run_choose_drew, -run_choose]
        · simp only [Question.cut]
          omega
      · cases h

theorem single_sorts (c : Nat) (hc : c < 4294967296) : ∃ neg r, c = Ieee.single.word neg r ∧ r < 2147483648 := by
  have hs : Ieee.single.signWeight = 2147483648 := rfl
  by_cases h : c < 2147483648
  · exact ⟨false, c, rfl, h⟩
  · refine ⟨true, c - 2147483648, ?_, by omega⟩
    unfold Ieee.Format.word
    rw [hs, if_pos rfl]
    omega
theorem single_parts (neg : Bool) (r : Nat) (hr : r < 2147483648) : Ieee.single.word neg r / Ieee.single.signWeight % 2 = neg.toNat ∧ Ieee.single.word neg r % Ieee.single.signWeight = r := by
  have hs : Ieee.single.signWeight = 2147483648 := rfl
  unfold Ieee.Format.word
  rw [hs]
  cases neg
  · simp only [Bool.false_eq_true, if_false, Bool.toNat_false]
    omega
  · simp only [if_true, Bool.toNat_true]
    omega
theorem single_inf (neg : Bool) : Ieee.single.read (Ieee.single.word neg 2139095040) = .infinity neg := by
  obtain ⟨h1, h2⟩ := single_parts neg 2139095040 (by decide)
  unfold Ieee.Format.read
  dsimp only
  rw [h1, h2]
  cases neg <;> rfl
theorem single_nan (neg : Bool) (r : Nat) (h : 2139095040 < r) (hr : r < 2147483648) : Ieee.single.read (Ieee.single.word neg r) = .nan neg (r - 2139095040) := by
  obtain ⟨h1, h2⟩ := single_parts neg r hr
  have hb : Ieee.single.binade = 8388608 := rfl
  have hi : Ieee.single.infRung = 2139095040 := rfl
  unfold Ieee.Format.read
  dsimp only
  rw [h1, h2, hb, hi, if_neg (by omega), if_neg (by omega), if_neg (by omega)]
  cases neg <;> rfl

theorem nan_cut (q : Nat) (t : Nat) : ∃ neg r, 9218868437227405312 < r ∧ r < 9223372036854775808 ∧ (Question.nanConv .f64 q).cut t = Ieee.double.word neg r := by
  simp only [Question.cut]
  have hm := Nat.mod_lt (t / 2) (show 0 < 2 ^ 52 - 1 by decide)
  have e52 : (2 : Nat) ^ 52 - 1 = 4503599627370495 := rfl
  have e63 : (2 : Nat) ^ 63 = 9223372036854775808 := rfl
  rw [e52] at *
  rw [e63]
  generalize t / 2 % 4503599627370495 = u at *
  rcases Nat.mod_two_eq_zero_or_one t with h | h
  · refine ⟨false, 9218868437227405312 + 1 + u, by omega, by omega, ?_⟩
    rw [h]
    show _ = 9218868437227405312 + 1 + u
    omega
  · refine ⟨true, 9218868437227405312 + 1 + u, by omega, by omega, ?_⟩
    rw [h]
    show _ = 9223372036854775808 + (9218868437227405312 + 1 + u)
    omega

theorem conv_wide_any (c : Nat) (hc : c < 4294967296) (w : World) : ∃ d w', (convert 49 30 (.float .f32 c)).run Tryz.prog w = .ok (.float .f64 d) w' ∧ (w' = w ∨ w' = w.drew) ∧
    ((∃ neg r, r < 2139095040 ∧ d = Ieee.double.word neg (Fl.wideR r)) ∨ (∃ neg, d = Ieee.double.word neg 9218868437227405312) ∨ ∃ neg r, 9218868437227405312 < r ∧ r < 9223372036854775808 ∧ d = Ieee.double.word neg r) := by
  obtain ⟨neg, r, rfl, hr⟩ := single_sorts c hc
  rcases Nat.lt_trichotomy r 2139095040 with h | h | h
  · exact ⟨_, w, conv_wide neg r h w, Or.inl rfl, Or.inl ⟨neg, r, h, rfl⟩⟩
  · subst h
    refine ⟨_, w, run_convert_float_float w 49 30 .f32 .f64 _ (Ieee.double.word neg 9218868437227405312) (by rw [Tryz.underlying49]; rfl) Tryz.underlying30 ?_, Or.inl rfl, Or.inr (Or.inl ⟨neg, rfl⟩)⟩
    unfold floatToFloatBits
    rw [if_neg (by decide)]
    have he : FloatKind.f32.decode (Ieee.single.word neg 2139095040) = .infinity neg := single_inf neg
    rw [he]
    cases neg <;> rfl
  · obtain ⟨t, ht⟩ := run_choose_any (.nanConv .f64 (Ieee.single.word neg r)) rfl w
    have he : FloatKind.f32.decode (Ieee.single.word neg r) = .nan neg (r - 2139095040) := single_nan neg r h hr
    obtain ⟨n2, r2, h1, h2, h3⟩ := nan_cut (Ieee.single.word neg r) t
    refine ⟨_, w.drew, ?_, Or.inr rfl, Or.inr (Or.inr ⟨n2, r2, h1, h2, h3⟩)⟩
    simp [convert, run_underlying Tryz.underlying30, run_underlying Tryz.underlying49, Conv.floatToFloat, he, ht, -run_choose_drew, -run_choose]
end Go.Proofs.YtbbjjkcjpdmjnaaGreatDoor
