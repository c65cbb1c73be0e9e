/- Walks of the law FnBack: a text that begins with a digit, or a minus sign and a digit, is no special float. -/
import Derived.Test.YtbbjjkcjpdmjnaaGreatDoorA
import Derived.Lib.Strings
import Derived.OwnWalk
namespace Go.Proofs.YtbbjjkcjpdmjnaaGreatDoor
open Go.RowKit

/-- A text begins with a digit. -/
def Dig (s : ByteArray) : Prop := ∃ h : 0 < s.size, 48 ≤ (s[0]'h).toNat ∧ (s[0]'h).toNat ≤ 57

theorem prefix0 (s : ByteArray) (hs : Dig s) (hsz : s.size ≤ 100000) (w : World) :
    Calls Tryz.prog 129 #[.string s, .string ⟨#[105, 110, 102, 105, 110, 105, 116, 121]⟩] w fun e w' => e = .returned (.int .i64 0) ∧ w' = w := by
  obtain ⟨h, c0, c1⟩ := hs
  obtain ⟨c, hc⟩ : ∃ c : Int, ((s[0]'h).toNat : Int) = c := ⟨_, rfl⟩
  have d0 : 48 ≤ c := by omega
  have d1 : c ≤ 57 := by omega
  have n1 : (c != 105) = true := by
    have : c ≠ 105 := by omega
    simpa using this
  have h105 : (((⟨#[105, 110, 102, 105, 110, 105, 116, 121]⟩ : ByteArray)[0]'(by decide)).toNat : Int) = 105 := rfl
  clear c0 c1
  go_enter Tryz.func129, Tryz.ntmps129
  go_wp2
  go_loop [6] (fun vi => vi = .int .i64 0)
    (fun _ => 0)
  case atStart => rfl
  case round =>
    subst hrel
    go_wp2
    go_ret
    exact ⟨rfl, rfl⟩

theorem special_digit (s : ByteArray) (hs : Dig s) (hsz : s.size ≤ 100000) (w : World) :
    Calls Tryz.prog 116 #[.string s] w fun e w' => e = .returned (.tuple #[.float .f64 0, .int .i64 0, .bool false]) ∧ w' = w := by
  obtain ⟨h, c0, c1⟩ := hs
  have hemp : s.toList.isEmpty = false := by
    rw [← decide_eq_emptyBytes]
    exact decide_eq_false (fun hh => by rw [hh] at h; exact absurd h (by decide))
  obtain ⟨c, hc⟩ : ∃ c : Int, ((s[0]'h).toNat : Int) = c := ⟨_, rfl⟩
  have nn : ∀ k : Int, (k < 48 ∨ 57 < k) → (c == k) = false := fun k hk => by
    have : c ≠ k := by omega
    simpa using this
  have n1 := nn 43 (by omega)
  have n2 := nn 45 (by omega)
  have n3 := nn 105 (by omega)
  have n4 := nn 73 (by omega)
  have n5 := nn 110 (by omega)
  have n6 := nn 78 (by omega)
  clear c0 c1 nn
  go_enter Tryz.func116, Tryz.ntmps116
  go_wp2
  go_ret3
  exact ⟨rfl, rfl⟩

theorem special_minus (s : ByteArray) (h0 : 0 < s.size) (h45 : s[0]'h0 = 45) (hs : Dig (s.extract 1 s.size)) (hsz : s.size ≤ 100000) (w : World) :
    Calls Tryz.prog 116 #[.string s] w fun e w' => e = .returned (.tuple #[.float .f64 0, .int .i64 0, .bool false]) ∧ w' = w := by
  have hemp : s.toList.isEmpty = false := by
    rw [← decide_eq_emptyBytes]
    exact decide_eq_false (fun hh => by rw [hh] at h0; exact absurd h0 (by decide))
  have hsl : ∀ W, (Instr.slice 9 (.string s) (some (.int .i64 1)) none none).run Tryz.prog W = .ok (.string (s.extract 1 s.size)) W := fun W => by
    rw [run_slice_string_from_if W 9 s .i64 _ Tryz.underlying9, if_pos ⟨by omega, by omega⟩]
    rfl
  have hc : ((s[0]'h0).toNat : Int) = 45 := by rw [h45]; rfl
  have hsz2 : (s.extract 1 s.size).size ≤ 100000 := by simp; omega
  have HP := fun W => Lib.hid (prefix0 (s.extract 1 s.size) hs hsz2 W)
  clear hs hsz2 h45
  generalize s.extract 1 s.size = t at hsl HP
  go_enter Tryz.func116, Tryz.ntmps116
  go_wp2_with fail
  refine (HP _).out.mono ?_
  rintro e w1 ⟨rfl, rfl⟩
  go_wp2
  go_ret3
  exact ⟨rfl, rfl⟩
end Go.Proofs.YtbbjjkcjpdmjnaaGreatDoor
