/- Walks of the law FnDecodedInt: strconv.ParseInt of the numeral of a number is the number. -/
import Derived.Test.YtnkkpfboaklogaaGreatDoorA
import Derived.Lib.ItoaLen
import Derived.Lib.IfaceNeq
import Derived.BigQuiet
namespace Go.Proofs.YtnkkpfboaklogaaGreatDoor
open Go.RowKit

theorem below_bytes (w : World) (s : ByteArray) : Below w.heap.size w (Lib.bytesWorld w 5 s) :=
  ⟨rfl, rfl, rfl, by rw [Lib.bytesWorld_size]; omega, fun k hk => Lib.bytesWorld_at_old w 5 s k hk⟩

set_option maxHeartbeats 4000000 in
theorem parseInt_neg (u : Nat) (h1 : 1 ≤ u) (h2 : u ≤ 9223372036854775808) (s : ByteArray) (hs : s.data.toList = 45 :: Lib.decDigits u) (hsz : s.size ≤ 1000) (w : World) :
    Calls Tryz.prog 23 #[.string s, .int .i64 10, .int .i64 64] w fun e w' => e = .returned (.tuple #[.int .i64 (-(u : Int)), .nilIface]) ∧ Below w.heap.size w w' := by
  have hd := dec_ne u
  have hlen : s.size = (Lib.decDigits u).length + 1 := by
    have : s.data.toList.length = s.size := by simp
    rw [← this, hs]; rfl
  have hpos : 0 < s.size := by omega
  have hemp : s.toList.isEmpty = false := by
    rw [← decide_eq_emptyBytes]
    exact decide_eq_false (fun h => by rw [h] at hpos; exact absurd hpos (by decide))
  have hs0 : s[0]'hpos = 45 := by
    have : s.data.toList[0]'(by rw [hs]; simp) = 45 := by simp [hs]
    exact this
  have hsl : ∀ W, (Instr.slice 9 (.string s) (some (.int .i64 1)) none none).run Tryz.prog W = .ok (.string (s.extract 1 s.size)) W := fun W => by
    rw [run_slice_string_from_if W 9 s .i64 _ Tryz.underlying9, if_pos ⟨by omega, by omega⟩]
    rfl
  have htl : (s.extract 1 s.size).data.toList = Lib.decDigits u := by
    rw [Lib.extract_data, hs, List.drop_succ_cons, List.drop_zero, List.take_of_length_le (by omega)]
  generalize s.extract 1 s.size = t at hsl htl
  have hts : t.size = (Lib.decDigits u).length := by
    have : t.data.toList.length = t.size := by simp
    rw [← this, htl]
  have hp : Lib.parseUint10 0 t.data.toList = .ok u := by
    rw [htl]
    have := parse_dec u [] (by omega)
    rw [List.append_nil] at this
    rw [this]; rfl
  have HU := Lib.hid (parseUint_ok t u hp (by omega) (by omega) w)
  have hmin : wrap64 (-wrap64 (u : Int)) = -(u : Int) := by unfold wrap64; omega
  clear hs hp htl hd hts
  go_enter Tryz.func23, Tryz.ntmps23
  go_wp2_with fail
  refine HU.out.mono ?_
  rintro e w1 ⟨rfl, hw1⟩
  have Hw1 : Hid (Below w.heap.size w w1) := Lib.hid (by rw [hw1]; exact below_bytes w t)
  clear hw1
  go_wp2
  rw [hmin]
  go_ret2
  exact ⟨rfl, Hw1.out⟩

set_option maxHeartbeats 4000000 in
theorem parseInt_pos (u : Nat) (h2 : u < 9223372036854775808) (s : ByteArray) (hs : s.data.toList = Lib.decDigits u) (hsz : s.size ≤ 1000) (w : World) :
    Calls Tryz.prog 23 #[.string s, .int .i64 10, .int .i64 64] w fun e w' => e = .returned (.tuple #[.int .i64 u, .nilIface]) ∧ Below w.heap.size w w' := by
  have hd := dec_ne u
  have hlen : s.size = (Lib.decDigits u).length := by
    have : s.data.toList.length = s.size := by simp
    rw [← this, hs]
  have hpos : 0 < s.size := by omega
  have hemp : s.toList.isEmpty = false := by
    rw [← decide_eq_emptyBytes]
    exact decide_eq_false (fun h => by rw [h] at hpos; exact absurd hpos (by decide))
  obtain ⟨c, hc, c0, c1⟩ : ∃ c : UInt8, s[0]'hpos = c ∧ 48 ≤ c.toNat ∧ c.toNat ≤ 57 := by
    have h0 : 0 < s.data.toList.length := by simpa using hpos
    obtain ⟨a, r, har⟩ : ∃ a r, s.data.toList = a :: r := by
      cases hh : s.data.toList with
      | nil => rw [hh] at h0; cases h0
      | cons a b => exact ⟨a, b, rfl⟩
    refine ⟨a, ?_, dec_head u a r (by rw [← hs]; exact har)⟩
    show s.data.toList[0]'h0 = a
    simp [har]
  have i0 : ((s[0]'hpos).toNat : Int) = (c.toNat : Int) := by rw [hc]
  have n43 : ((c.toNat : Int) == 43) = false := by
    have : (c.toNat : Int) ≠ 43 := by omega
    simpa using this
  have n45 : ((c.toNat : Int) == 45) = false := by
    have : (c.toNat : Int) ≠ 45 := by omega
    simpa using this
  have hp : Lib.parseUint10 0 s.data.toList = .ok u := by
    rw [hs]
    have := parse_dec u [] (by omega)
    rw [List.append_nil] at this
    rw [this]; rfl
  have HU := Lib.hid (parseUint_ok s u hp (by omega) (by omega) w)
  clear hs hp hd hlen hc
  obtain ⟨x, hx⟩ : ∃ x : Int, x = (u : Int) := ⟨_, rfl⟩
  rw [← hx] at HU ⊢
  have x0 : 0 ≤ x := by omega
  have x1 : x < 9223372036854775808 := by omega
  clear hx h2
  have hwr : wrap64 x = x := by unfold wrap64; omega
  go_enter Tryz.func23, Tryz.ntmps23
  go_wp2_with fail
  refine HU.out.mono ?_
  rintro e w1 ⟨rfl, hw1⟩
  have Hw1 : Hid (Below w.heap.size w w1) := Lib.hid (by rw [hw1]; exact below_bytes w s)
  clear hw1
  go_wp2
  go_ret2
  exact ⟨rfl, Hw1.out⟩

theorem publicParseInt (n : Int) (h0 : -9223372036854775808 ≤ n) (h1 : n ≤ 9223372036854775807) (w : World) :
    Calls Tryz.prog 16 #[.string ⟨(Lib.itoa n).toArray⟩, .int .i64 10, .int .i64 64] w fun e w' => e = .returned (.tuple #[.int .i64 n, .nilIface]) ∧ Below w.heap.size w w' := by
  have hsz : (⟨(Lib.itoa n).toArray⟩ : ByteArray).size ≤ 1000 := by
    have := Lib.itoa_length_le n h0 h1
    simp only [ByteArray.size, List.size_toArray]
    omega
  have h : Calls Tryz.prog 23 #[.string ⟨(Lib.itoa n).toArray⟩, .int .i64 10, .int .i64 64] w fun e w' => e = .returned (.tuple #[.int .i64 n, .nilIface]) ∧ Below w.heap.size w w' := by
    by_cases hn : n < 0
    · obtain ⟨u, rfl⟩ : ∃ u : Nat, n = -(u : Int) := ⟨n.natAbs, by omega⟩
      exact parseInt_neg u (by omega) (by omega) _ (by rw [Lib.itoa_neg u (by omega)]) hsz w
    · obtain ⟨u, rfl⟩ : ∃ u : Nat, n = u := ⟨n.toNat, by omega⟩
      exact parseInt_pos u (by omega) _ (by rw [Lib.itoa_nonneg]) hsz w
  have H := Lib.hid h
  clear h hsz
  generalize (⟨(Lib.itoa n).toArray⟩ : ByteArray) = s at H ⊢
  go_enter Tryz.func16, Tryz.ntmps16
  go_wp2_with fail
  refine H.out.mono ?_
  rintro e w1 ⟨rfl, hb⟩
  have Hb := Lib.hid hb
  clear hb
  go_wp2
  go_ret2
  exact ⟨rfl, Hb.out⟩
end Go.Proofs.YtnkkpfboaklogaaGreatDoor
