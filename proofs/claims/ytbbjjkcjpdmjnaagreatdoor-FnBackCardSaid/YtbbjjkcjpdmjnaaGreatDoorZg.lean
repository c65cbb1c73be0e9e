/- Walks of the law FnBack: the digits of a number laid, its last zeros left out. -/
import Derived.Test.YtbbjjkcjpdmjnaaGreatDoorZc
import Derived.Test.YtbbjjkcjpdmjnaaGreatDoorA
import Derived.Lib.ItoaMem
import Derived.OwnWalk
namespace Go.Proofs.YtbbjjkcjpdmjnaaGreatDoor
open Go.RowKit Go.Sort Go.Lib

abbrev encB : UInt8 → Value := fun b => Value.int .u8 (b.toNat : Int)

/-- Bytes that lie at the head of a block of the array type 104. -/
def Digs (w : World) (g : Nat) (l : List UInt8) : Prop := (∃ cs, w.heap[g]? = some (.cells cs 104 (0, 0))) ∧ ∀ j (hj : j < l.length), w.cell? ⟨g, j, none⟩ = some (.int .u8 (l[j].toNat : Int))

theorem putRow_block (w : World) (g off k : Nat) (d : Array UInt8) (h : k ≠ g) : (putRow encB w g off d).heap[k]? = w.heap[k]? := by
  simp only [putRow, mapBlock, Array.getElem?_modify]
  rw [if_neg (Ne.symm h)]
theorem putRow_own (w : World) (g off : Nat) (d : Array UInt8) (cs : Array Value) (T : TypeId) (h : w.heap[g]? = some (.cells cs T (0, 0))) : ∃ cs', (putRow encB w g off d).heap[g]? = some (.cells cs' T (0, 0)) := by
  simp only [putRow, mapBlock, Array.getElem?_modify, if_pos, h, Option.map_some]
  exact ⟨_, rfl⟩

theorem last_digit (u : Nat) (h0 : u % 10 ≠ 0) : ∃ c : UInt8, (decDigits u)[nDigits u - 1]? = some c ∧ c ≠ 48 ∧ 48 ≤ c.toNat ∧ c.toNat ≤ 57 := by
  have hl := decDigits_length u
  have hp := nDigits_pos u
  rw [decDigits]
  by_cases hu : u < 10
  · rw [dif_pos hu, nDigits_small hu]
    have e : (UInt8.ofNat (48 + u)).toNat = 48 + u := by rw [UInt8.toNat_ofNat']; omega
    refine ⟨_, rfl, fun h => ?_, by omega, by omega⟩
    have := congrArg UInt8.toNat h
    rw [e] at this
    have h48 : (48 : UInt8).toNat = 48 := rfl
    omega
  · have hl2 : (decDigits (u / 10)).length = nDigits u - 1 := by rw [decDigits_length, nDigits_big hu]; omega
    have e : (UInt8.ofNat (48 + u % 10)).toNat = 48 + u % 10 := by rw [UInt8.toNat_ofNat']; omega
    rw [dif_neg hu, List.getElem?_append_right (by omega), hl2, Nat.sub_self]
    refine ⟨_, rfl, fun h => ?_, by omega, by omega⟩
    have := congrArg UInt8.toNat h
    rw [e] at this
    have h48 : (48 : UInt8).toNat = 48 := rfl
    omega

set_option maxHeartbeats 1600000 in
theorem setDigits (g d u t nd : Nat) (q : Int) (w : World) (hu : 1 ≤ u) (hu10 : u % 10 ≠ 0) (he : d = u * 10 ^ t) (hd : d < 100000000000000000) (hnd : nd = nDigits d) (hq0 : -400 ≤ q) (hq1 : q ≤ 400)
    (hH : Holds encB w g 0 (Array.replicate nd (0 : UInt8))) (hg : ∃ cs, w.heap[g]? = some (.cells cs 104 (0, 0))) :
    Calls Tryz.prog 66 #[.slice (some ⟨g, 0, none⟩) 32 32, .int .u64 d, .int .i64 q, .int .i64 nd] w fun e w' =>
      e = .returned (.tuple #[.int .i64 ((nd : Int) + q), .int .i64 (nDigits u)]) ∧ Digs w' g (decDigits u) ∧ w.grownBy w' (some g) := by
  have hz := Fl.dec_zeros u hu t
  have hnu : nd = nDigits u + t := by
    rw [hnd, ← decDigits_length, he, hz, List.length_append, decDigits_length, List.length_replicate]
  have h17 : nd ≤ 17 := by rw [hnd]; exact Fl.ndig_le d 17 (by decide) hd
  have hn1 := nDigits_pos u
  have hfmt := Tryz.internal_strconv_formatBase10 g 0 32 d (Array.replicate nd 0) w hH (by rw [Array.size_replicate, hnd]; exact lt_pow_nDigits d) (by omega) (by rw [Array.size_replicate]; omega)
  rw [Array.size_replicate] at hfmt
  obtain ⟨c, hc, hc48, hc0, hc1⟩ := last_digit u hu10
  have HFMT := Lib.hid hfmt
  have HH := Lib.hid hH
  have HG := Lib.hid hg
  have HND := Lib.hid hnd
  have HD : Hid (decDigits d = decDigits u ++ List.replicate t 48) := Lib.hid (by rw [he]; exact hz)
  have HC := Lib.hid hc
  obtain ⟨di, hdi⟩ : ∃ di : Int, (d : Int) = di := ⟨_, rfl⟩
  rw [hdi] at HFMT ⊢
  clear hfmt hH hg hz he hnd hc hdi hd
  obtain ⟨nu, hnu2⟩ : ∃ nu, nu = nDigits u := ⟨_, rfl⟩
  rw [← hnu2] at hnu hn1 HC ⊢
  have HNU := Lib.hid hnu2
  have HNT := Lib.hid hnu
  have hnle : nu ≤ nd := by omega
  clear hnu2 hnu
  have hcap : nd ≠ 32 := by omega
  go_enter Tryz.func66, Tryz.ntmps66
  go_wp2_with fail
  refine HFMT.out.mono ?_
  rintro e w1 ⟨rfl, n, v', dk, hw1, hF⟩
  have hcell : ∀ j (hj : j < (decDigits d).length), w1.cell? ⟨g, j, none⟩ = some (.int .u8 ((decDigits d)[j].toNat : Int)) := fun j hj => by
    have hj2 : j < dk.size := by rw [hF.size, HND.out, ← decDigits_length]; exact hj
    have hF2 : FmtInv (nDigits d) d 0 v' dk := by rw [← HND.out]; exact hF
    rw [row_is_numeral hF2 j hj, hw1, World.cell?_drewN]
    have := cell?_putRow encB w g 0 _ dk HH.out (by rw [hF.size, Array.size_replicate]) j hj2
    rw [Nat.zero_add] at this
    exact this
  have hgr : w.grownBy w1 (some g) := by
    subst hw1
    exact ⟨rfl, rfl, rfl, by simp [World.drewN], fun k hk hne => putRow_block w g 0 k dk (fun e => hne (by rw [e]))⟩
  have hown : ∃ cs, w1.heap[g]? = some (.cells cs 104 (0, 0)) := by
    subst hw1
    obtain ⟨cs, h⟩ := HG.out
    exact putRow_own w g 0 dk cs 104 h
  rw [HD.out] at hcell
  have HCELL := Lib.hid hcell
  have HGR := Lib.hid hgr
  have HOWN := Lib.hid hown
  clear hcell hgr hown hw1 hF HFMT HH HG
  go_wp2
  go_loop [3] (fun v3 => ∃ j : Nat, v3 = .int .i64 ((j : Int) + 1) ∧ nu ≤ j + 1 ∧ j + 1 ≤ nd) (fun v3 => (RowKit.intOf v3).toNat)
  case atStart => exact ⟨nd - 1, by go_num, by omega, by omega⟩
  case round =>
    obtain ⟨j, rfl, hj0, hj1⟩ := hrel
    by_cases hjn : nu < j + 1
    · have hcl : w1.cell? ⟨g, j, none⟩ = some (.int .u8 48) := by
        rw [HCELL.out j (by have := HNT.out; rw [List.length_append, decDigits_length, ← HNU.out, List.length_replicate]; omega), List.getElem_append_right (by rw [decDigits_length, ← HNU.out]; omega), List.getElem_replicate]
        rfl
      obtain ⟨i, rfl⟩ : ∃ i, j = i + 1 := ⟨j - 1, by omega⟩
      go_wp2
      go_round
      case rel => exact ⟨i, by go_num, by omega, by omega⟩
      case measure => simp [RowKit.intOf]; omega
    · have hjj : j = nu - 1 := by omega
      obtain ⟨cv, hcv⟩ : ∃ cv : Int, (c.toNat : Int) = cv := ⟨_, rfl⟩
      have hcl : w1.cell? ⟨g, j, none⟩ = some (.int .u8 cv) := by
        have hjl : j < (decDigits u).length := by rw [decDigits_length, ← HNU.out]; omega
        rw [HCELL.out j (by rw [List.length_append]; omega), List.getElem_append_left hjl, ← hcv]
        have h2 := HC.out
        rw [← hjj, List.getElem?_eq_getElem hjl] at h2
        rw [Option.some.inj h2]
      have hn48 : (cv == 48) = false := by
        have : cv ≠ 48 := fun h => hc48 (UInt8.toNat_inj.1 (by show c.toNat = 48; omega))
        simpa using this
      have hfin : (Value.int IntKind.i64 ((j : Int) + 1)) = .int .i64 nu := by go_num
      have HF2 := Lib.hid hfin
      clear hcv hfin hjj
      go_wp2
      go_ret2
      refine ⟨by rw [← HF2.out]; rfl, ⟨HOWN.out, fun i hi => ?_⟩, HGR.out⟩
      have := HCELL.out i (by rw [List.length_append]; omega)
      rw [List.getElem_append_left hi] at this
      exact this
end Go.Proofs.YtbbjjkcjpdmjnaaGreatDoor
