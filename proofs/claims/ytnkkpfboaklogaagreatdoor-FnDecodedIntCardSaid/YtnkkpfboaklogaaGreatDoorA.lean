/- Walks of the law FnDecodedInt: strconv.ParseInt at decimal numerals. -/
import Derived.Test.YtnkkpfboaklogaaGreatDoorProg
import Derived.WalkKit
import Derived.WalkSpells
import Derived.WalkLawsBesides
import Derived.Outline
import Derived.Lib.Hide
import Derived.Lib.ConvBytes
import Derived.Lib.Strings
import Derived.Lib.AtoiAllMem
import Derived.Lib.ItoaNum
import Derived.Lib.ItoaMem
import Derived.Laws.Strings3
import Derived.Handy
namespace Go.Proofs.YtnkkpfboaklogaaGreatDoor
open Go.RowKit

/- The numeral of a number is read as the number. -/
theorem parse_dec (u : Nat) : ∀ r : List UInt8, u < 18446744073709551616 → Lib.parseUint10 0 (Lib.decDigits u ++ r) = Lib.parseUint10 u r := by
  induction u using Nat.strongRecOn with
  | _ u ih =>
    intro r hu
    rw [Lib.decDigits]
    by_cases h : u < 10
    · rw [dif_pos h]
      have e : (UInt8.ofNat (48 + u)).toNat = 48 + u := by rw [UInt8.toNat_ofNat']; omega
      rw [List.singleton_append, Lib.parseUint10, if_pos (by omega), if_neg (by omega), if_neg (by omega), e]
      congr 1
      omega
    · rw [dif_neg h]
      have e : (UInt8.ofNat (48 + u % 10)).toNat = 48 + u % 10 := by rw [UInt8.toNat_ofNat']; omega
      rw [List.append_assoc, ih (u / 10) (by omega) _ (by omega), List.singleton_append, Lib.parseUint10, if_pos (by omega), if_neg (by omega), if_neg (by omega), e]
      congr 1
      omega

theorem dec_ne (u : Nat) : (Lib.decDigits u).length ≠ 0 := by
  rw [Lib.decDigits]
  split <;> simp

theorem dec_head (u : Nat) : ∀ c r, Lib.decDigits u = c :: r → 48 ≤ c.toNat ∧ c.toNat ≤ 57 := by
  induction u using Nat.strongRecOn with
  | _ u ih =>
    intro c r h
    rw [Lib.decDigits] at h
    by_cases hu : u < 10
    · rw [dif_pos hu] at h
      simp only [List.cons.injEq] at h
      rw [← h.1, UInt8.toNat_ofNat']
      omega
    · rw [dif_neg hu] at h
      cases hd : Lib.decDigits (u / 10) with
      | nil => exact absurd (by rw [hd]; rfl) (dec_ne (u / 10))
      | cons c' r' =>
        rw [hd] at h
        simp only [List.cons_append, List.cons.injEq] at h
        rw [← h.1]
        exact ih (u / 10) (by omega) c' r' hd

set_option maxHeartbeats 4000000 in
set_option maxRecDepth 100000 in
theorem parseUint_ok (t : ByteArray) (v : Nat) (hp : Lib.parseUint10 0 t.data.toList = .ok v) (hne : t.size ≠ 0) (hmax : t.size ≤ 1000) (w : World) :
    Calls Tryz.prog 28 #[.string t, .int .i64 10, .int .i64 64] w fun e w' => e = .returned (.tuple #[.int .u64 v, .nilIface]) ∧ w' = Lib.bytesWorld w 5 t := by
  have hemp : t.toList.isEmpty = false := by
    rw [← decide_eq_emptyBytes]
    exact decide_eq_false (fun h => hne (by rw [h]; rfl))
  have hcv := Lib.run_convert_string_bytes (P := Tryz.prog) w 9 40 5 t (u := .string) Tryz.underlying9 Tryz.underlying40 Tryz.underlying5
  have hB : ∀ j, j < t.size → (Lib.bytesWorld w 5 t).cell? ⟨w.heap.size, j, none⟩ = some (.int .u8 (t.data.toList.getD j 0).toNat) := fun j hj => Lib.bytesWorld_cell w 5 t j hj
  obtain ⟨W1, hW1⟩ : ∃ W1, W1 = Lib.bytesWorld w 5 t := ⟨_, rfl⟩
  rw [← hW1] at hcv hB ⊢
  clear hW1
  obtain ⟨bs, hL⟩ : ∃ bs, bs = t.data.toList := ⟨_, rfl⟩
  have hLn : bs.length = t.size := by rw [hL]; simp
  rw [← hL] at hB hp
  clear hL
  have HP := Lib.hid hp
  clear hp
  have hmv : IntKind.u64.wrap (IntKind.u64.wrap 18446744073709551616 - 1) = 18446744073709551615 := by
    rw [IntKind.wrap_u64, IntKind.wrap_u64]
    decide
  go_enter Tryz.func28, Tryz.ntmps28
  go_wp2
  go_loop [12, 13, 101] (fun vu vn vi => ∃ (k acc : Nat) (a : Int), vu = .bool false ∧ vn = .int .u64 a ∧ vi = .int .i64 k ∧ k ≤ t.size ∧ Hid (a = (acc : Int) ∧ acc < 18446744073709551616 ∧ Lib.parseUint10 acc (bs.drop k) = .ok v))
    (fun _ _ vi => t.size - (intOf vi).toNat)
  case atStart => exact ⟨0, 0, 0, rfl, rfl, rfl, by omega, rfl, by omega, HP.out⟩
  case round =>
    obtain ⟨k, acc, a, rfl, rfl, rfl, hk, hh⟩ := hrel
    obtain ⟨ha, hacc, hdec⟩ := hh.out
    clear hh
    have a0 : 0 ≤ a := by omega
    have a1 : a < 18446744073709551616 := by omega
    by_cases hkn : k < t.size
    · have hc := hB k hkn
      have hdrop : bs.drop k = bs[k]'(by omega) :: bs.drop (k + 1) := List.drop_eq_getElem_cons (by omega)
      have hget : bs.getD k 0 = bs[k]'(by omega) := by simp [List.getD, List.getElem?_eq_getElem (show k < bs.length by omega)]
      rw [hdrop, Lib.parseUint10] at hdec
      rw [hget] at hc
      generalize bs[k]'(by omega) = c at hc hdec
      have hc256 : c.toNat < 256 := c.toNat_lt
      clear hB hdrop hget
      by_cases hdig : 48 ≤ c.toNat ∧ c.toNat ≤ 57
      case neg => rw [if_neg hdig] at hdec; cases hdec
      rw [if_pos hdig] at hdec
      obtain ⟨hd0, hd1⟩ := hdig
      by_cases hcut : 1844674407370955162 ≤ acc
      · rw [if_pos hcut] at hdec; cases hdec
      rw [if_neg hcut] at hdec
      by_cases hov : 18446744073709551616 ≤ acc * 10 + (c.toNat - 48)
      · rw [if_pos hov] at hdec; cases hdec
      rw [if_neg hov] at hdec
      have HN : Hid (a * 10 + ((c.toNat : Int) - 48) = ((acc * 10 + (c.toNat - 48) : Nat) : Int) ∧ acc * 10 + (c.toNat - 48) < 18446744073709551616 ∧ Lib.parseUint10 (acc * 10 + (c.toNat - 48)) (bs.drop (k + 1)) = .ok v) := Lib.hid ⟨by omega, by omega, hdec⟩
      have icut : a < 1844674407370955162 := by omega
      have iov : a * 10 + ((c.toNat : Int) - 48) < 18446744073709551616 := by omega
      clear hcut hacc hov hdec ha
      go_wp2
      refine ⟨⟨k + 1, acc * 10 + (c.toNat - 48), a * 10 + ((c.toNat : Int) - 48), rfl, (by first | rfl | (congr 1; omega)), (by first | rfl | (congr 1; omega)), by omega, HN⟩, by simp [intOf]; omega⟩
    · have hkk : k = t.size := by omega
      subst hkk
      rw [List.drop_eq_nil_of_le (by omega), Lib.parseUint10] at hdec
      injection hdec with hdec
      subst hdec
      subst ha
      clear hacc a0 a1
      go_wp2
      go_ret2
      exact ⟨rfl, rfl⟩
end Go.Proofs.YtnkkpfboaklogaaGreatDoor
