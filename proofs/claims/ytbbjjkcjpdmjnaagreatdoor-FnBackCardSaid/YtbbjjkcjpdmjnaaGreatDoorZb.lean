/- Walks of the law FnBack: readFloat at the texts of floats. -/
import Derived.Test.YtbbjjkcjpdmjnaaGreatDoorZc
import Derived.Test.YtbbjjkcjpdmjnaaGreatDoorN
import Derived.WalkMore
namespace Go.Proofs.YtbbjjkcjpdmjnaaGreatDoor
open Go.RowKit

theorem ok_chars : ∀ (l : List UInt8) (nd k : Nat) (dot : Bool), Fl.ok l nd k dot → ∀ c ∈ l, c = 46 ∨ Fl.Digit c
  | [], _, _, _, _, _, h => by cases h
  | c :: r, nd, k, dot, h, x, hx => by
    rw [Fl.ok] at h
    rw [List.mem_cons] at hx
    by_cases h46 : c = 46
    · rw [if_pos h46] at h
      rcases hx with rfl | hx
      · exact Or.inl h46
      · exact ok_chars r nd k true h.2 x hx
    · rw [if_neg h46] at h
      rcases hx with rfl | hx
      · exact Or.inr h.1
      · have h2 := h.2
        split at h2
        · exact ok_chars r nd k dot h2 x hx
        · split at h2
          · exact ok_chars r (nd + 1) (k + 1) dot h2 x hx
          · exact ok_chars r (nd + 1) k dot h2.2 x hx

theorem lower_ne : ((List.range 58).all fun c => !(bits .or .u8 (c : Int) 32 == 120) && !(bits .or .u8 (c : Int) 32 == 101)) = true := by kernel_rfl
theorem lower_at (c : Nat) (h : c < 58) : (bits .or .u8 (c : Int) 32 == 120) = false ∧ (bits .or .u8 (c : Int) 32 == 101) = false := by
  have := List.all_eq_true.1 lower_ne c (List.mem_range.2 h)
  simpa using this

/-- One byte scanned. -/
def Step (c : UInt8) (r : List UInt8) (m nd k : Nat) (dp : Int) (dot : Bool) (fin : Nat × Nat × Nat × Int × Bool) : Prop :=
  (c = 46 ∧ dot = false ∧ Fl.ok r nd k true ∧ Fl.scan r m nd k nd true = fin) ∨
  (c = 48 ∧ nd = 0 ∧ Fl.ok r nd k dot ∧ Fl.scan r m nd k (dp - 1) dot = fin) ∨
  (Fl.Digit c ∧ ¬ (c = 48 ∧ nd = 0) ∧ k < 19 ∧ m < 1000000000000000000 ∧ m * 10 + (c.toNat - 48) < 10 ^ (k + 1) ∧ Fl.ok r (nd + 1) (k + 1) dot ∧ Fl.scan r (m * 10 + (c.toNat - 48)) (nd + 1) (k + 1) dp dot = fin) ∨
  (c = 48 ∧ 0 < nd ∧ k = 19 ∧ Fl.ok r (nd + 1) k dot ∧ Fl.scan r m (nd + 1) k dp dot = fin)
theorem step_of {c : UInt8} {r : List UInt8} {m nd k : Nat} {dp : Int} {dot : Bool} {fin : Nat × Nat × Nat × Int × Bool} (hk : k ≤ 19) (hm : m < 10 ^ k) (hok : Fl.ok (c :: r) nd k dot) (hsc : Fl.scan (c :: r) m nd k dp dot = fin) : Step c r m nd k dp dot fin := by
  rw [Fl.ok] at hok
  rw [Fl.scan] at hsc
  by_cases h46 : c = 46
  · rw [if_pos h46] at hok hsc
    exact Or.inl ⟨h46, hok.1, hok.2, hsc⟩
  · rw [if_neg h46] at hok hsc
    have hd := hok.1
    by_cases h0 : c = 48 ∧ nd = 0
    · rw [if_pos h0] at hok hsc
      exact Or.inr (Or.inl ⟨h0.1, h0.2, hok.2, hsc⟩)
    · rw [if_neg h0] at hok hsc
      by_cases h19 : k < 19
      · rw [if_pos h19] at hok hsc
        have h1 : 10 ^ k ≤ 10 ^ 18 := Nat.pow_le_pow_right (by decide) (by omega)
        have e : (10 : Nat) ^ 18 = 1000000000000000000 := rfl
        have := hd.2
        refine Or.inr (Or.inr (Or.inl ⟨hd, h0, h19, by omega, by rw [Nat.pow_succ]; omega, hok.2, hsc⟩))
      · rw [if_neg h19] at hok hsc
        refine Or.inr (Or.inr (Or.inr ⟨hok.2.1, ?_, by omega, hok.2.2, hsc⟩))
        rcases Nat.eq_zero_or_pos nd with h | h
        · exact absurd ⟨hok.2.1, h⟩ h0
        · exact h

theorem drop_at (s : ByteArray) (i : Nat) (h : i < s.size) : s.data.toList.drop i = s[i] :: s.data.toList.drop (i + 1) := by
  rw [List.drop_eq_getElem_cons (by simpa using h)]
  rfl

theorem results_tmp7 {fn : Func} {t u v x y z q : Tmp} (h : fn.results = #[.tmp t, .tmp u, .tmp v, .tmp x, .tmp y, .tmp z, .tmp q]) (tmps : Array Value) (P : Program) (w : World) :
    (results fn tmps).run P w = .ok (.tuple #[tmps.getD t undef, tmps.getD u undef, tmps.getD v undef, tmps.getD x undef, tmps.getD y undef, tmps.getD z undef, tmps.getD q undef]) w := by simp [results, h]

/-- What readFloat answers at the end of its loop. -/
def RfPost (fin : Nat × Nat × Nat × Int × Bool) (neg : Bool) (n : Nat) (w : World) (e : Ending) (w' : World) : Prop :=
  e = .returned (.tuple #[.int .u64 (fin.1 : Nat), .int .i64 (if fin.1 = 0 then 0 else (if fin.2.2.2.2 then fin.2.2.2.1 else fin.2.1) - fin.2.2.1), .bool neg, .bool false, .bool false, .int .i64 n, .bool true]) ∧ w' = w

def RfRel (s : ByteArray) (fin : Nat × Nat × Nat × Int × Bool) (off i : Nat) (mi : Int) (nd k : Nat) (dp : Int) (dot saw : Bool) : Prop :=
  (i = off ∨ saw = true) ∧ ∃ m : Nat, (m : Int) = mi ∧ m < 10 ^ k ∧ Fl.ok (s.data.toList.drop i) nd k dot ∧ Fl.scan (s.data.toList.drop i) m nd k dp dot = fin

theorem rf_zero {fin : Nat × Nat × Nat × Int × Bool} {neg dot : Bool} {n m nd k : Nat} {dp : Int} {w : World} (h : fin = (m, nd, k, dp, dot)) (hm : (m : Int) = 0) :
    RfPost fin neg n w (.returned (.tuple #[.int .u64 0, .int .i64 0, .bool neg, .bool false, .bool false, .int .i64 n, .bool true])) w := by
  have : m = 0 := by omega
  subst this h
  exact ⟨rfl, rfl⟩
theorem rf_whole {fin : Nat × Nat × Nat × Int × Bool} {neg : Bool} {n m nd k : Nat} {dp mi : Int} {w : World} (h : fin = (m, nd, k, dp, false)) (hm : (m : Int) = mi) (h0 : ¬ mi = 0) :
    RfPost fin neg n w (.returned (.tuple #[.int .u64 mi, .int .i64 ((nd : Int) - k), .bool neg, .bool false, .bool false, .int .i64 n, .bool true])) w := by
  have h1 : ¬ m = 0 := by omega
  subst h hm
  refine ⟨?_, rfl⟩
  simp [h1]
theorem rf_dot {fin : Nat × Nat × Nat × Int × Bool} {neg : Bool} {n m nd k : Nat} {dp mi : Int} {w : World} (h : fin = (m, nd, k, dp, true)) (hm : (m : Int) = mi) (h0 : ¬ mi = 0) :
    RfPost fin neg n w (.returned (.tuple #[.int .u64 mi, .int .i64 (dp - k), .bool neg, .bool false, .bool false, .int .i64 n, .bool true])) w := by
  have h1 : ¬ m = 0 := by omega
  subst h hm
  refine ⟨?_, rfl⟩
  simp [h1]

set_option maxRecDepth 100000 in
set_option maxHeartbeats 8000000 in
theorem readFloat_plain (s : ByteArray) (fin : Nat × Nat × Nat × Int × Bool) (hl : s.size ≤ 1000) (h0 : 0 < s.size) (hd : Fl.Digit (s[0]'h0)) (hok : Fl.ok (s.data.toList.drop 0) 0 0 false) (hsc : Fl.scan (s.data.toList.drop 0) 0 0 0 0 false = fin) (w : World) :
    Calls Tryz.prog 117 #[.string s] w (RfPost fin false s.size w) := by
  have hch := ok_chars _ _ _ _ hok
  have hbyte : ∀ i (h : i < s.size), 0 ≤ i → (s[i]'h).toNat < 58 ∧ 46 ≤ (s[i]'h).toNat := fun i h ho => by
    have hm : s[i]'h ∈ s.data.toList.drop 0 := by
      have : s.data.toList[i]'(by simpa using h) = s[i]'h := rfl
      rw [← this]
      exact List.mem_drop_iff_getElem.2 ⟨i - 0, by simp; omega, by simp [show 0 + (i - 0) = i by omega]⟩
    rcases hch _ hm with h46 | hdg
    · rw [h46]; decide
    · exact ⟨by have := hdg.2; omega, by have := hdg.1; omega⟩
  obtain ⟨c0, hc0⟩ : ∃ c0 : Int, ((s[0]'h0).toNat : Int) = c0 := ⟨_, rfl⟩
  have d0 := hd.1
  have d1 := hd.2
  have n1 : (c0 == 43) = false := by
    have : c0 ≠ 43 := by omega
    simpa using this
  have n2 : (c0 == 45) = false := by
    have : c0 ≠ 45 := by omega
    simpa using this
  have hemp : s.toList.isEmpty = false := by
    rw [← decide_eq_emptyBytes]
    exact decide_eq_false (fun hh => by rw [hh] at h0; exact absurd h0 (by decide))
  have hemp2 : ¬ s = ByteArray.empty := fun hh => by rw [hh] at h0; exact absurd h0 (by decide)
  obtain ⟨z0, hz0⟩ : ∃ z0 : Bool, (c0 == 48) = z0 := ⟨_, rfl⟩
  have HCH := Lib.hid hbyte
  have HOK := Lib.hid hok
  have HSC := Lib.hid hsc
  have HD : Hid (Fl.Digit (s[0]'h0)) := Lib.hid hd
  clear hch hbyte hok hsc hd d0 d1
  by_cases h2 : 0 + 2 < s.size
  · have hb1 := HCH.out (0 + 1) (by omega) (by omega)
    obtain ⟨c1, hc1⟩ : ∃ c1 : Int, ((s[0 + 1]'(by omega)).toNat : Int) = c1 := ⟨_, rfl⟩
    have hlw := (lower_at (s[0 + 1]'(by omega)).toNat hb1.1).1
    rw [hc1] at hlw
    clear hb1
    cases z0
    · go_enter Tryz.func117, Tryz.ntmps117
      go_wp2
      go_step3
      go_wp2_with fail
      go_step3
      go_wp2_with fail
      go_loop [2, 5, 7, 9, 13, 14, 15, 16, 17] (fun v2 v5 v7 v9 v13 v14 v15 v16 v17 => ∃ (i : Nat) (mi : Int) (nd k : Nat) (dp : Int) (dot saw : Bool), v2 = .int .u64 mi ∧ v5 = .bool false ∧ v7 = .int .i64 i ∧ v9 = .bool false ∧ v13 = .bool dot ∧ v14 = .bool saw ∧ v15 = .int .i64 nd ∧ v16 = .int .i64 k ∧ v17 = .int .i64 dp ∧
          0 ≤ i ∧ i ≤ s.size ∧ nd ≤ i ∧ k ≤ 19 ∧ -(i : Int) ≤ dp ∧ dp ≤ i ∧ 0 ≤ mi ∧ Hid (RfRel s fin 0 i mi nd k dp dot saw))
        (fun _ _ v7 _ _ _ _ _ _ => s.size - (intOf v7).toNat)
      case atStart => exact ⟨0, 0, 0, 0, 0, false, false, rfl, rfl, rfl, rfl, rfl, rfl, rfl, rfl, rfl, by omega, by omega, by omega, by omega, by omega, by omega, by omega, Lib.hid ⟨Or.inl rfl, 0, rfl, by decide, HOK.out, HSC.out⟩⟩
      case round =>
        obtain ⟨i, mi, nd, k, dp, dot, saw, rfl, rfl, rfl, rfl, rfl, rfl, rfl, rfl, rfl, ho, hi, hnd, hk, hdp0, hdp1, hmi, hh⟩ := hrel
        by_cases hlt : i < s.size
        · have hb := HCH.out i hlt ho
          obtain ⟨hsaw, m, hme, hm, hok, hsc⟩ := hh.out
          rw [drop_at s i hlt] at hok hsc
          have hst := step_of hk hm hok hsc
          have hfirst : i = 0 → Fl.Digit s[i] := fun e => by subst e; exact HD.out
          clear hok hsc hh
          obtain ⟨cb, hcb⟩ : ∃ cb : UInt8, s[i] = cb := ⟨_, rfl⟩
          rw [hcb] at hst hb hfirst
          obtain ⟨c, hcc⟩ : ∃ c : Int, (cb.toNat : Int) = c := ⟨_, rfl⟩
          have hc : (s[i].toNat : Int) = c := by rw [hcb]; exact hcc
          have HCC := Lib.hid hcc
          have HCB := Lib.hid hcb
          clear hcb
          have n95 : (c == 95) = false := by
            have : c ≠ 95 := by omega
            simpa using this
          have hc1 : c < 58 := by omega
          rcases hst with ⟨h46, hdot, hok, hsc⟩ | ⟨h48, hnd0, hok, hsc⟩ | ⟨hdg, hnz, hk19, hm18, hmn, hok, hsc⟩ | ⟨h48, hnd0, hk19, hok, hsc⟩
          · subst hdot
            have hs1 : saw = true := by
              rcases hsaw with h | h
              · have := (hfirst h).1; rw [h46] at this; exact absurd this (by decide)
              · exact h
            have e46 : c = 46 := by rw [← hcc, h46]; rfl
            have HR : Hid (RfRel s fin 0 (i + 1) mi nd k nd true true) := Lib.hid ⟨Or.inr rfl, m, hme, hm, hok, hsc⟩
            subst hs1 e46
            clear hok hsc hm hsaw hcc h46 hme hb hfirst
            go_wp2
            go_round
            case rel => exact ⟨i + 1, mi, nd, k, _, true, true, rfl, rfl, by go_num, rfl, rfl, rfl, rfl, rfl, rfl, by omega, by omega, by omega, by omega, by omega, by omega, by omega, HR.out⟩
            case measure => simp [intOf]; omega
          · have e48 : c = 48 := by rw [← hcc, h48]; rfl
            have HR : Hid (RfRel s fin 0 (i + 1) mi nd k (dp - 1) dot true) := Lib.hid ⟨Or.inr rfl, m, hme, hm, hok, hsc⟩
            have hz : ((nd : Int) == 0) = true := by simpa using hnd0
            subst e48
            clear hok hsc hm hsaw hcc h48 hme hb hfirst hnd0
            go_wp2
            go_round
            case rel => exact ⟨i + 1, mi, nd, k, _, dot, true, rfl, rfl, by go_num, rfl, rfl, rfl, rfl, rfl, rfl, by omega, by omega, by omega, by omega, by omega, by omega, by omega, HR.out⟩
            case measure => simp [intOf]; omega
          · have HR : Hid (RfRel s fin 0 (i + 1) (mi * 10 + (c - 48)) (nd + 1) (k + 1) dp dot true) := Lib.hid ⟨Or.inr rfl, m * 10 + (cb.toNat - 48), by have := hdg.1; omega, hmn, hok, hsc⟩
            have d0 : 48 ≤ c := by have := hdg.1; omega
            have d1 : c ≤ 57 := by omega
            have hm18' : mi < 1000000000000000000 := by omega
            have n46 : (c == 46) = false := by
              have : c ≠ 46 := by omega
              simpa using this
            by_cases e48 : c = 48
            · have hz : ((nd : Int) == 0) = false := by
                have : ¬ nd = 0 := fun h => hnz ⟨UInt8.toNat_inj.1 (by show cb.toNat = 48; omega), h⟩
                simpa using this
              subst e48
              have HR2 : Hid (RfRel s fin 0 (i + 1) (mi * 10) (nd + 1) (k + 1) dp dot true) := Lib.hid (by have h := HR.out; rw [show (mi * 10 + (48 - 48) : Int) = mi * 10 by omega] at h; exact h)
              clear hok hsc hm hsaw hcc hme hb hfirst hdg hnz hmn hm18
              go_wp2
              go_round
              case rel => exact ⟨i + 1, _, nd + 1, k + 1, dp, dot, true, rfl, rfl, by go_num, rfl, rfl, rfl, by go_num, by go_num, rfl, by omega, by omega, by omega, by omega, by omega, by omega, by omega, HR2.out⟩
              case measure => simp [intOf]; omega
            · have n48 : (c == 48) = false := by simpa using e48
              clear hok hsc hm hsaw hcc hme hb hfirst hdg hnz hmn hm18 e48
              go_wp2
              go_round
              case rel => exact ⟨i + 1, _, nd + 1, k + 1, dp, dot, true, rfl, rfl, by go_num, rfl, rfl, rfl, by go_num, by go_num, rfl, by omega, by omega, by omega, by omega, by omega, by omega, by omega, HR.out⟩
              case measure => simp [intOf]; omega
          · have e48 : c = 48 := by rw [← hcc, h48]; rfl
            have HR : Hid (RfRel s fin 0 (i + 1) mi (nd + 1) k dp dot true) := Lib.hid ⟨Or.inr rfl, m, hme, hm, hok, hsc⟩
            have hz : ((nd : Int) == 0) = false := by
              have : ¬ nd = 0 := by omega
              simpa using this
            have hk2 : 19 ≤ k := by omega
            subst e48
            clear hok hsc hm hsaw hcc h48 hme hb hfirst hnd0 hk19
            go_wp2
            go_round
            case rel => exact ⟨i + 1, mi, nd + 1, k, dp, dot, true, rfl, rfl, by go_num, rfl, rfl, rfl, by go_num, rfl, rfl, by omega, by omega, by omega, by omega, by omega, by omega, by omega, HR.out⟩
            case measure => simp [intOf]; omega
        · have hie : i = s.size := by omega
          subst hie
          obtain ⟨hsaw, m, hme, hm, hok, hsc⟩ := hh.out
          have hs1 : saw = true := by
            rcases hsaw with h | h
            · omega
            · exact h
          subst hs1
          rw [List.drop_eq_nil_of_le (by simp), Fl.scan] at hsc
          have HF : Hid (fin = (m, nd, k, dp, dot)) := Lib.hid hsc.symm
          have HM := Lib.hid hme
          clear hok hsc hm hsaw hh hme
          by_cases hm0 : mi = 0
          · subst hm0
            cases dot
            all_goals
              go_wp2
              refine bodyPost_ret (results_tmp7 rfl _ _ _) rfl ?_
              exact rf_zero HF.out HM.out
          · have hmz : (mi != 0) = true := by simpa using hm0
            have HM0 := Lib.hid hm0
            clear hm0
            cases dot
            · go_wp2
              refine bodyPost_ret (results_tmp7 rfl _ _ _) rfl ?_
              exact rf_whole HF.out HM.out HM0.out
            · go_wp2
              refine bodyPost_ret (results_tmp7 rfl _ _ _) rfl ?_
              exact rf_dot HF.out HM.out HM0.out
    · go_enter Tryz.func117, Tryz.ntmps117
      go_wp2
      go_step3
      go_wp2_with fail
      refine (Tryz.internal_strconv_lower _ _).mono ?_
      rintro e w' ⟨rfl, rfl⟩
      go_wp2_with fail
      go_step3
      go_wp2_with fail
      go_loop [2, 5, 7, 9, 13, 14, 15, 16, 17] (fun v2 v5 v7 v9 v13 v14 v15 v16 v17 => ∃ (i : Nat) (mi : Int) (nd k : Nat) (dp : Int) (dot saw : Bool), v2 = .int .u64 mi ∧ v5 = .bool false ∧ v7 = .int .i64 i ∧ v9 = .bool false ∧ v13 = .bool dot ∧ v14 = .bool saw ∧ v15 = .int .i64 nd ∧ v16 = .int .i64 k ∧ v17 = .int .i64 dp ∧
          0 ≤ i ∧ i ≤ s.size ∧ nd ≤ i ∧ k ≤ 19 ∧ -(i : Int) ≤ dp ∧ dp ≤ i ∧ 0 ≤ mi ∧ Hid (RfRel s fin 0 i mi nd k dp dot saw))
        (fun _ _ v7 _ _ _ _ _ _ => s.size - (intOf v7).toNat)
      case atStart => exact ⟨0, 0, 0, 0, 0, false, false, rfl, rfl, rfl, rfl, rfl, rfl, rfl, rfl, rfl, by omega, by omega, by omega, by omega, by omega, by omega, by omega, Lib.hid ⟨Or.inl rfl, 0, rfl, by decide, HOK.out, HSC.out⟩⟩
      case round =>
        obtain ⟨i, mi, nd, k, dp, dot, saw, rfl, rfl, rfl, rfl, rfl, rfl, rfl, rfl, rfl, ho, hi, hnd, hk, hdp0, hdp1, hmi, hh⟩ := hrel
        by_cases hlt : i < s.size
        · have hb := HCH.out i hlt ho
          obtain ⟨hsaw, m, hme, hm, hok, hsc⟩ := hh.out
          rw [drop_at s i hlt] at hok hsc
          have hst := step_of hk hm hok hsc
          have hfirst : i = 0 → Fl.Digit s[i] := fun e => by subst e; exact HD.out
          clear hok hsc hh
          obtain ⟨cb, hcb⟩ : ∃ cb : UInt8, s[i] = cb := ⟨_, rfl⟩
          rw [hcb] at hst hb hfirst
          obtain ⟨c, hcc⟩ : ∃ c : Int, (cb.toNat : Int) = c := ⟨_, rfl⟩
          have hc : (s[i].toNat : Int) = c := by rw [hcb]; exact hcc
          have HCC := Lib.hid hcc
          have HCB := Lib.hid hcb
          clear hcb
          have n95 : (c == 95) = false := by
            have : c ≠ 95 := by omega
            simpa using this
          have hc1 : c < 58 := by omega
          rcases hst with ⟨h46, hdot, hok, hsc⟩ | ⟨h48, hnd0, hok, hsc⟩ | ⟨hdg, hnz, hk19, hm18, hmn, hok, hsc⟩ | ⟨h48, hnd0, hk19, hok, hsc⟩
          · subst hdot
            have hs1 : saw = true := by
              rcases hsaw with h | h
              · have := (hfirst h).1; rw [h46] at this; exact absurd this (by decide)
              · exact h
            have e46 : c = 46 := by rw [← hcc, h46]; rfl
            have HR : Hid (RfRel s fin 0 (i + 1) mi nd k nd true true) := Lib.hid ⟨Or.inr rfl, m, hme, hm, hok, hsc⟩
            subst hs1 e46
            clear hok hsc hm hsaw hcc h46 hme hb hfirst
            go_wp2
            go_round
            case rel => exact ⟨i + 1, mi, nd, k, _, true, true, rfl, rfl, by go_num, rfl, rfl, rfl, rfl, rfl, rfl, by omega, by omega, by omega, by omega, by omega, by omega, by omega, HR.out⟩
            case measure => simp [intOf]; omega
          · have e48 : c = 48 := by rw [← hcc, h48]; rfl
            have HR : Hid (RfRel s fin 0 (i + 1) mi nd k (dp - 1) dot true) := Lib.hid ⟨Or.inr rfl, m, hme, hm, hok, hsc⟩
            have hz : ((nd : Int) == 0) = true := by simpa using hnd0
            subst e48
            clear hok hsc hm hsaw hcc h48 hme hb hfirst hnd0
            go_wp2
            go_round
            case rel => exact ⟨i + 1, mi, nd, k, _, dot, true, rfl, rfl, by go_num, rfl, rfl, rfl, rfl, rfl, rfl, by omega, by omega, by omega, by omega, by omega, by omega, by omega, HR.out⟩
            case measure => simp [intOf]; omega
          · have HR : Hid (RfRel s fin 0 (i + 1) (mi * 10 + (c - 48)) (nd + 1) (k + 1) dp dot true) := Lib.hid ⟨Or.inr rfl, m * 10 + (cb.toNat - 48), by have := hdg.1; omega, hmn, hok, hsc⟩
            have d0 : 48 ≤ c := by have := hdg.1; omega
            have d1 : c ≤ 57 := by omega
            have hm18' : mi < 1000000000000000000 := by omega
            have n46 : (c == 46) = false := by
              have : c ≠ 46 := by omega
              simpa using this
            by_cases e48 : c = 48
            · have hz : ((nd : Int) == 0) = false := by
                have : ¬ nd = 0 := fun h => hnz ⟨UInt8.toNat_inj.1 (by show cb.toNat = 48; omega), h⟩
                simpa using this
              subst e48
              have HR2 : Hid (RfRel s fin 0 (i + 1) (mi * 10) (nd + 1) (k + 1) dp dot true) := Lib.hid (by have h := HR.out; rw [show (mi * 10 + (48 - 48) : Int) = mi * 10 by omega] at h; exact h)
              clear hok hsc hm hsaw hcc hme hb hfirst hdg hnz hmn hm18
              go_wp2
              go_round
              case rel => exact ⟨i + 1, _, nd + 1, k + 1, dp, dot, true, rfl, rfl, by go_num, rfl, rfl, rfl, by go_num, by go_num, rfl, by omega, by omega, by omega, by omega, by omega, by omega, by omega, HR2.out⟩
              case measure => simp [intOf]; omega
            · have n48 : (c == 48) = false := by simpa using e48
              clear hok hsc hm hsaw hcc hme hb hfirst hdg hnz hmn hm18 e48
              go_wp2
              go_round
              case rel => exact ⟨i + 1, _, nd + 1, k + 1, dp, dot, true, rfl, rfl, by go_num, rfl, rfl, rfl, by go_num, by go_num, rfl, by omega, by omega, by omega, by omega, by omega, by omega, by omega, HR.out⟩
              case measure => simp [intOf]; omega
          · have e48 : c = 48 := by rw [← hcc, h48]; rfl
            have HR : Hid (RfRel s fin 0 (i + 1) mi (nd + 1) k dp dot true) := Lib.hid ⟨Or.inr rfl, m, hme, hm, hok, hsc⟩
            have hz : ((nd : Int) == 0) = false := by
              have : ¬ nd = 0 := by omega
              simpa using this
            have hk2 : 19 ≤ k := by omega
            subst e48
            clear hok hsc hm hsaw hcc h48 hme hb hfirst hnd0 hk19
            go_wp2
            go_round
            case rel => exact ⟨i + 1, mi, nd + 1, k, dp, dot, true, rfl, rfl, by go_num, rfl, rfl, rfl, by go_num, rfl, rfl, by omega, by omega, by omega, by omega, by omega, by omega, by omega, HR.out⟩
            case measure => simp [intOf]; omega
        · have hie : i = s.size := by omega
          subst hie
          obtain ⟨hsaw, m, hme, hm, hok, hsc⟩ := hh.out
          have hs1 : saw = true := by
            rcases hsaw with h | h
            · omega
            · exact h
          subst hs1
          rw [List.drop_eq_nil_of_le (by simp), Fl.scan] at hsc
          have HF : Hid (fin = (m, nd, k, dp, dot)) := Lib.hid hsc.symm
          have HM := Lib.hid hme
          clear hok hsc hm hsaw hh hme
          by_cases hm0 : mi = 0
          · subst hm0
            cases dot
            all_goals
              go_wp2
              refine bodyPost_ret (results_tmp7 rfl _ _ _) rfl ?_
              exact rf_zero HF.out HM.out
          · have hmz : (mi != 0) = true := by simpa using hm0
            have HM0 := Lib.hid hm0
            clear hm0
            cases dot
            · go_wp2
              refine bodyPost_ret (results_tmp7 rfl _ _ _) rfl ?_
              exact rf_whole HF.out HM.out HM0.out
            · go_wp2
              refine bodyPost_ret (results_tmp7 rfl _ _ _) rfl ?_
              exact rf_dot HF.out HM.out HM0.out
  · go_enter Tryz.func117, Tryz.ntmps117
    go_wp2
    go_step3
    go_wp2_with fail
    go_step3
    go_wp2_with fail
    go_loop [2, 5, 7, 9, 13, 14, 15, 16, 17] (fun v2 v5 v7 v9 v13 v14 v15 v16 v17 => ∃ (i : Nat) (mi : Int) (nd k : Nat) (dp : Int) (dot saw : Bool), v2 = .int .u64 mi ∧ v5 = .bool false ∧ v7 = .int .i64 i ∧ v9 = .bool false ∧ v13 = .bool dot ∧ v14 = .bool saw ∧ v15 = .int .i64 nd ∧ v16 = .int .i64 k ∧ v17 = .int .i64 dp ∧
        0 ≤ i ∧ i ≤ s.size ∧ nd ≤ i ∧ k ≤ 19 ∧ -(i : Int) ≤ dp ∧ dp ≤ i ∧ 0 ≤ mi ∧ Hid (RfRel s fin 0 i mi nd k dp dot saw))
      (fun _ _ v7 _ _ _ _ _ _ => s.size - (intOf v7).toNat)
    case atStart => exact ⟨0, 0, 0, 0, 0, false, false, rfl, rfl, rfl, rfl, rfl, rfl, rfl, rfl, rfl, by omega, by omega, by omega, by omega, by omega, by omega, by omega, Lib.hid ⟨Or.inl rfl, 0, rfl, by decide, HOK.out, HSC.out⟩⟩
    case round =>
      obtain ⟨i, mi, nd, k, dp, dot, saw, rfl, rfl, rfl, rfl, rfl, rfl, rfl, rfl, rfl, ho, hi, hnd, hk, hdp0, hdp1, hmi, hh⟩ := hrel
      by_cases hlt : i < s.size
      · have hb := HCH.out i hlt ho
        obtain ⟨hsaw, m, hme, hm, hok, hsc⟩ := hh.out
        rw [drop_at s i hlt] at hok hsc
        have hst := step_of hk hm hok hsc
        have hfirst : i = 0 → Fl.Digit s[i] := fun e => by subst e; exact HD.out
        clear hok hsc hh
        obtain ⟨cb, hcb⟩ : ∃ cb : UInt8, s[i] = cb := ⟨_, rfl⟩
        rw [hcb] at hst hb hfirst
        obtain ⟨c, hcc⟩ : ∃ c : Int, (cb.toNat : Int) = c := ⟨_, rfl⟩
        have hc : (s[i].toNat : Int) = c := by rw [hcb]; exact hcc
        have HCC := Lib.hid hcc
        have HCB := Lib.hid hcb
        clear hcb
        have n95 : (c == 95) = false := by
          have : c ≠ 95 := by omega
          simpa using this
        have hc1 : c < 58 := by omega
        rcases hst with ⟨h46, hdot, hok, hsc⟩ | ⟨h48, hnd0, hok, hsc⟩ | ⟨hdg, hnz, hk19, hm18, hmn, hok, hsc⟩ | ⟨h48, hnd0, hk19, hok, hsc⟩
        · subst hdot
          have hs1 : saw = true := by
            rcases hsaw with h | h
            · have := (hfirst h).1; rw [h46] at this; exact absurd this (by decide)
            · exact h
          have e46 : c = 46 := by rw [← hcc, h46]; rfl
          have HR : Hid (RfRel s fin 0 (i + 1) mi nd k nd true true) := Lib.hid ⟨Or.inr rfl, m, hme, hm, hok, hsc⟩
          subst hs1 e46
          clear hok hsc hm hsaw hcc h46 hme hb hfirst
          go_wp2
          go_round
          case rel => exact ⟨i + 1, mi, nd, k, _, true, true, rfl, rfl, by go_num, rfl, rfl, rfl, rfl, rfl, rfl, by omega, by omega, by omega, by omega, by omega, by omega, by omega, HR.out⟩
          case measure => simp [intOf]; omega
        · have e48 : c = 48 := by rw [← hcc, h48]; rfl
          have HR : Hid (RfRel s fin 0 (i + 1) mi nd k (dp - 1) dot true) := Lib.hid ⟨Or.inr rfl, m, hme, hm, hok, hsc⟩
          have hz : ((nd : Int) == 0) = true := by simpa using hnd0
          subst e48
          clear hok hsc hm hsaw hcc h48 hme hb hfirst hnd0
          go_wp2
          go_round
          case rel => exact ⟨i + 1, mi, nd, k, _, dot, true, rfl, rfl, by go_num, rfl, rfl, rfl, rfl, rfl, rfl, by omega, by omega, by omega, by omega, by omega, by omega, by omega, HR.out⟩
          case measure => simp [intOf]; omega
        · have HR : Hid (RfRel s fin 0 (i + 1) (mi * 10 + (c - 48)) (nd + 1) (k + 1) dp dot true) := Lib.hid ⟨Or.inr rfl, m * 10 + (cb.toNat - 48), by have := hdg.1; omega, hmn, hok, hsc⟩
          have d0 : 48 ≤ c := by have := hdg.1; omega
          have d1 : c ≤ 57 := by omega
          have hm18' : mi < 1000000000000000000 := by omega
          have n46 : (c == 46) = false := by
            have : c ≠ 46 := by omega
            simpa using this
          by_cases e48 : c = 48
          · have hz : ((nd : Int) == 0) = false := by
              have : ¬ nd = 0 := fun h => hnz ⟨UInt8.toNat_inj.1 (by show cb.toNat = 48; omega), h⟩
              simpa using this
            subst e48
            have HR2 : Hid (RfRel s fin 0 (i + 1) (mi * 10) (nd + 1) (k + 1) dp dot true) := Lib.hid (by have h := HR.out; rw [show (mi * 10 + (48 - 48) : Int) = mi * 10 by omega] at h; exact h)
            clear hok hsc hm hsaw hcc hme hb hfirst hdg hnz hmn hm18
            go_wp2
            go_round
            case rel => exact ⟨i + 1, _, nd + 1, k + 1, dp, dot, true, rfl, rfl, by go_num, rfl, rfl, rfl, by go_num, by go_num, rfl, by omega, by omega, by omega, by omega, by omega, by omega, by omega, HR2.out⟩
            case measure => simp [intOf]; omega
          · have n48 : (c == 48) = false := by simpa using e48
            clear hok hsc hm hsaw hcc hme hb hfirst hdg hnz hmn hm18 e48
            go_wp2
            go_round
            case rel => exact ⟨i + 1, _, nd + 1, k + 1, dp, dot, true, rfl, rfl, by go_num, rfl, rfl, rfl, by go_num, by go_num, rfl, by omega, by omega, by omega, by omega, by omega, by omega, by omega, HR.out⟩
            case measure => simp [intOf]; omega
        · have e48 : c = 48 := by rw [← hcc, h48]; rfl
          have HR : Hid (RfRel s fin 0 (i + 1) mi (nd + 1) k dp dot true) := Lib.hid ⟨Or.inr rfl, m, hme, hm, hok, hsc⟩
          have hz : ((nd : Int) == 0) = false := by
            have : ¬ nd = 0 := by omega
            simpa using this
          have hk2 : 19 ≤ k := by omega
          subst e48
          clear hok hsc hm hsaw hcc h48 hme hb hfirst hnd0 hk19
          go_wp2
          go_round
          case rel => exact ⟨i + 1, mi, nd + 1, k, dp, dot, true, rfl, rfl, by go_num, rfl, rfl, rfl, by go_num, rfl, rfl, by omega, by omega, by omega, by omega, by omega, by omega, by omega, HR.out⟩
          case measure => simp [intOf]; omega
      · have hie : i = s.size := by omega
        subst hie
        obtain ⟨hsaw, m, hme, hm, hok, hsc⟩ := hh.out
        have hs1 : saw = true := by
          rcases hsaw with h | h
          · omega
          · exact h
        subst hs1
        rw [List.drop_eq_nil_of_le (by simp), Fl.scan] at hsc
        have HF : Hid (fin = (m, nd, k, dp, dot)) := Lib.hid hsc.symm
        have HM := Lib.hid hme
        clear hok hsc hm hsaw hh hme
        by_cases hm0 : mi = 0
        · subst hm0
          cases dot
          all_goals
            go_wp2
            refine bodyPost_ret (results_tmp7 rfl _ _ _) rfl ?_
            exact rf_zero HF.out HM.out
        · have hmz : (mi != 0) = true := by simpa using hm0
          have HM0 := Lib.hid hm0
          clear hm0
          cases dot
          · go_wp2
            refine bodyPost_ret (results_tmp7 rfl _ _ _) rfl ?_
            exact rf_whole HF.out HM.out HM0.out
          · go_wp2
            refine bodyPost_ret (results_tmp7 rfl _ _ _) rfl ?_
            exact rf_dot HF.out HM.out HM0.out

set_option maxRecDepth 100000 in
set_option maxHeartbeats 8000000 in
theorem readFloat_minus (s : ByteArray) (fin : Nat × Nat × Nat × Int × Bool) (hl : s.size ≤ 1000) (h0 : 1 < s.size) (h45 : s[0]'(by omega) = 45) (hd : Fl.Digit (s[1]'h0)) (hok : Fl.ok (s.data.toList.drop 1) 0 0 false) (hsc : Fl.scan (s.data.toList.drop 1) 0 0 0 0 false = fin) (w : World) :
    Calls Tryz.prog 117 #[.string s] w (RfPost fin true s.size w) := by
  have hch := ok_chars _ _ _ _ hok
  have hbyte : ∀ i (h : i < s.size), 1 ≤ i → (s[i]'h).toNat < 58 ∧ 46 ≤ (s[i]'h).toNat := fun i h ho => by
    have hm : s[i]'h ∈ s.data.toList.drop 1 := by
      have : s.data.toList[i]'(by simpa using h) = s[i]'h := rfl
      rw [← this]
      exact List.mem_drop_iff_getElem.2 ⟨i - 1, by simp; omega, by simp [show 1 + (i - 1) = i by omega]⟩
    rcases hch _ hm with h46 | hdg
    · rw [h46]; decide
    · exact ⟨by have := hdg.2; omega, by have := hdg.1; omega⟩
  obtain ⟨c0, hc0⟩ : ∃ c0 : Int, ((s[1]'h0).toNat : Int) = c0 := ⟨_, rfl⟩
  have d0 := hd.1
  have d1 := hd.2
  have n1 : (c0 == 43) = false := by
    have : c0 ≠ 43 := by omega
    simpa using this
  have n2 : (c0 == 45) = false := by
    have : c0 ≠ 45 := by omega
    simpa using this
  have hc45 : ((s[0]'(by omega)).toNat : Int) = 45 := by rw [h45]; rfl
  clear h45
  have hemp : s.toList.isEmpty = false := by
    rw [← decide_eq_emptyBytes]
    exact decide_eq_false (fun hh => by rw [hh] at h0; exact absurd h0 (by decide))
  have hemp2 : ¬ s = ByteArray.empty := fun hh => by rw [hh] at h0; exact absurd h0 (by decide)
  obtain ⟨z0, hz0⟩ : ∃ z0 : Bool, (c0 == 48) = z0 := ⟨_, rfl⟩
  have HCH := Lib.hid hbyte
  have HOK := Lib.hid hok
  have HSC := Lib.hid hsc
  have HD : Hid (Fl.Digit (s[1]'h0)) := Lib.hid hd
  clear hch hbyte hok hsc hd d0 d1
  by_cases h2 : 1 + 2 < s.size
  · have hb1 := HCH.out (1 + 1) (by omega) (by omega)
    obtain ⟨c1, hc1⟩ : ∃ c1 : Int, ((s[1 + 1]'(by omega)).toNat : Int) = c1 := ⟨_, rfl⟩
    have hlw := (lower_at (s[1 + 1]'(by omega)).toNat hb1.1).1
    rw [hc1] at hlw
    clear hb1
    cases z0
    · go_enter Tryz.func117, Tryz.ntmps117
      go_wp2
      go_step3
      go_wp2_with fail
      go_step3
      go_wp2_with fail
      go_loop [2, 5, 7, 9, 13, 14, 15, 16, 17] (fun v2 v5 v7 v9 v13 v14 v15 v16 v17 => ∃ (i : Nat) (mi : Int) (nd k : Nat) (dp : Int) (dot saw : Bool), v2 = .int .u64 mi ∧ v5 = .bool false ∧ v7 = .int .i64 i ∧ v9 = .bool false ∧ v13 = .bool dot ∧ v14 = .bool saw ∧ v15 = .int .i64 nd ∧ v16 = .int .i64 k ∧ v17 = .int .i64 dp ∧
          1 ≤ i ∧ i ≤ s.size ∧ nd ≤ i ∧ k ≤ 19 ∧ -(i : Int) ≤ dp ∧ dp ≤ i ∧ 0 ≤ mi ∧ Hid (RfRel s fin 1 i mi nd k dp dot saw))
        (fun _ _ v7 _ _ _ _ _ _ => s.size - (intOf v7).toNat)
      case atStart => exact ⟨1, 0, 0, 0, 0, false, false, rfl, rfl, rfl, rfl, rfl, rfl, rfl, rfl, rfl, by omega, by omega, by omega, by omega, by omega, by omega, by omega, Lib.hid ⟨Or.inl rfl, 0, rfl, by decide, HOK.out, HSC.out⟩⟩
      case round =>
        obtain ⟨i, mi, nd, k, dp, dot, saw, rfl, rfl, rfl, rfl, rfl, rfl, rfl, rfl, rfl, ho, hi, hnd, hk, hdp0, hdp1, hmi, hh⟩ := hrel
        by_cases hlt : i < s.size
        · have hb := HCH.out i hlt ho
          obtain ⟨hsaw, m, hme, hm, hok, hsc⟩ := hh.out
          rw [drop_at s i hlt] at hok hsc
          have hst := step_of hk hm hok hsc
          have hfirst : i = 1 → Fl.Digit s[i] := fun e => by subst e; exact HD.out
          clear hok hsc hh
          obtain ⟨cb, hcb⟩ : ∃ cb : UInt8, s[i] = cb := ⟨_, rfl⟩
          rw [hcb] at hst hb hfirst
          obtain ⟨c, hcc⟩ : ∃ c : Int, (cb.toNat : Int) = c := ⟨_, rfl⟩
          have hc : (s[i].toNat : Int) = c := by rw [hcb]; exact hcc
          have HCC := Lib.hid hcc
          have HCB := Lib.hid hcb
          clear hcb
          have n95 : (c == 95) = false := by
            have : c ≠ 95 := by omega
            simpa using this
          have hc1 : c < 58 := by omega
          rcases hst with ⟨h46, hdot, hok, hsc⟩ | ⟨h48, hnd0, hok, hsc⟩ | ⟨hdg, hnz, hk19, hm18, hmn, hok, hsc⟩ | ⟨h48, hnd0, hk19, hok, hsc⟩
          · subst hdot
            have hs1 : saw = true := by
              rcases hsaw with h | h
              · have := (hfirst h).1; rw [h46] at this; exact absurd this (by decide)
              · exact h
            have e46 : c = 46 := by rw [← hcc, h46]; rfl
            have HR : Hid (RfRel s fin 1 (i + 1) mi nd k nd true true) := Lib.hid ⟨Or.inr rfl, m, hme, hm, hok, hsc⟩
            subst hs1 e46
            clear hok hsc hm hsaw hcc h46 hme hb hfirst
            go_wp2
            go_round
            case rel => exact ⟨i + 1, mi, nd, k, _, true, true, rfl, rfl, by go_num, rfl, rfl, rfl, rfl, rfl, rfl, by omega, by omega, by omega, by omega, by omega, by omega, by omega, HR.out⟩
            case measure => simp [intOf]; omega
          · have e48 : c = 48 := by rw [← hcc, h48]; rfl
            have HR : Hid (RfRel s fin 1 (i + 1) mi nd k (dp - 1) dot true) := Lib.hid ⟨Or.inr rfl, m, hme, hm, hok, hsc⟩
            have hz : ((nd : Int) == 0) = true := by simpa using hnd0
            subst e48
            clear hok hsc hm hsaw hcc h48 hme hb hfirst hnd0
            go_wp2
            go_round
            case rel => exact ⟨i + 1, mi, nd, k, _, dot, true, rfl, rfl, by go_num, rfl, rfl, rfl, rfl, rfl, rfl, by omega, by omega, by omega, by omega, by omega, by omega, by omega, HR.out⟩
            case measure => simp [intOf]; omega
          · have HR : Hid (RfRel s fin 1 (i + 1) (mi * 10 + (c - 48)) (nd + 1) (k + 1) dp dot true) := Lib.hid ⟨Or.inr rfl, m * 10 + (cb.toNat - 48), by have := hdg.1; omega, hmn, hok, hsc⟩
            have d0 : 48 ≤ c := by have := hdg.1; omega
            have d1 : c ≤ 57 := by omega
            have hm18' : mi < 1000000000000000000 := by omega
            have n46 : (c == 46) = false := by
              have : c ≠ 46 := by omega
              simpa using this
            by_cases e48 : c = 48
            · have hz : ((nd : Int) == 0) = false := by
                have : ¬ nd = 0 := fun h => hnz ⟨UInt8.toNat_inj.1 (by show cb.toNat = 48; omega), h⟩
                simpa using this
              subst e48
              have HR2 : Hid (RfRel s fin 1 (i + 1) (mi * 10) (nd + 1) (k + 1) dp dot true) := Lib.hid (by have h := HR.out; rw [show (mi * 10 + (48 - 48) : Int) = mi * 10 by omega] at h; exact h)
              clear hok hsc hm hsaw hcc hme hb hfirst hdg hnz hmn hm18
              go_wp2
              go_round
              case rel => exact ⟨i + 1, _, nd + 1, k + 1, dp, dot, true, rfl, rfl, by go_num, rfl, rfl, rfl, by go_num, by go_num, rfl, by omega, by omega, by omega, by omega, by omega, by omega, by omega, HR2.out⟩
              case measure => simp [intOf]; omega
            · have n48 : (c == 48) = false := by simpa using e48
              clear hok hsc hm hsaw hcc hme hb hfirst hdg hnz hmn hm18 e48
              go_wp2
              go_round
              case rel => exact ⟨i + 1, _, nd + 1, k + 1, dp, dot, true, rfl, rfl, by go_num, rfl, rfl, rfl, by go_num, by go_num, rfl, by omega, by omega, by omega, by omega, by omega, by omega, by omega, HR.out⟩
              case measure => simp [intOf]; omega
          · have e48 : c = 48 := by rw [← hcc, h48]; rfl
            have HR : Hid (RfRel s fin 1 (i + 1) mi (nd + 1) k dp dot true) := Lib.hid ⟨Or.inr rfl, m, hme, hm, hok, hsc⟩
            have hz : ((nd : Int) == 0) = false := by
              have : ¬ nd = 0 := by omega
              simpa using this
            have hk2 : 19 ≤ k := by omega
            subst e48
            clear hok hsc hm hsaw hcc h48 hme hb hfirst hnd0 hk19
            go_wp2
            go_round
            case rel => exact ⟨i + 1, mi, nd + 1, k, dp, dot, true, rfl, rfl, by go_num, rfl, rfl, rfl, by go_num, rfl, rfl, by omega, by omega, by omega, by omega, by omega, by omega, by omega, HR.out⟩
            case measure => simp [intOf]; omega
        · have hie : i = s.size := by omega
          subst hie
          obtain ⟨hsaw, m, hme, hm, hok, hsc⟩ := hh.out
          have hs1 : saw = true := by
            rcases hsaw with h | h
            · omega
            · exact h
          subst hs1
          rw [List.drop_eq_nil_of_le (by simp), Fl.scan] at hsc
          have HF : Hid (fin = (m, nd, k, dp, dot)) := Lib.hid hsc.symm
          have HM := Lib.hid hme
          clear hok hsc hm hsaw hh hme
          by_cases hm0 : mi = 0
          · subst hm0
            cases dot
            all_goals
              go_wp2
              refine bodyPost_ret (results_tmp7 rfl _ _ _) rfl ?_
              exact rf_zero HF.out HM.out
          · have hmz : (mi != 0) = true := by simpa using hm0
            have HM0 := Lib.hid hm0
            clear hm0
            cases dot
            · go_wp2
              refine bodyPost_ret (results_tmp7 rfl _ _ _) rfl ?_
              exact rf_whole HF.out HM.out HM0.out
            · go_wp2
              refine bodyPost_ret (results_tmp7 rfl _ _ _) rfl ?_
              exact rf_dot HF.out HM.out HM0.out
    · go_enter Tryz.func117, Tryz.ntmps117
      go_wp2
      go_step3
      go_wp2_with fail
      refine (Tryz.internal_strconv_lower _ _).mono ?_
      rintro e w' ⟨rfl, rfl⟩
      go_wp2_with fail
      go_step3
      go_wp2_with fail
      go_loop [2, 5, 7, 9, 13, 14, 15, 16, 17] (fun v2 v5 v7 v9 v13 v14 v15 v16 v17 => ∃ (i : Nat) (mi : Int) (nd k : Nat) (dp : Int) (dot saw : Bool), v2 = .int .u64 mi ∧ v5 = .bool false ∧ v7 = .int .i64 i ∧ v9 = .bool false ∧ v13 = .bool dot ∧ v14 = .bool saw ∧ v15 = .int .i64 nd ∧ v16 = .int .i64 k ∧ v17 = .int .i64 dp ∧
          1 ≤ i ∧ i ≤ s.size ∧ nd ≤ i ∧ k ≤ 19 ∧ -(i : Int) ≤ dp ∧ dp ≤ i ∧ 0 ≤ mi ∧ Hid (RfRel s fin 1 i mi nd k dp dot saw))
        (fun _ _ v7 _ _ _ _ _ _ => s.size - (intOf v7).toNat)
      case atStart => exact ⟨1, 0, 0, 0, 0, false, false, rfl, rfl, rfl, rfl, rfl, rfl, rfl, rfl, rfl, by omega, by omega, by omega, by omega, by omega, by omega, by omega, Lib.hid ⟨Or.inl rfl, 0, rfl, by decide, HOK.out, HSC.out⟩⟩
      case round =>
        obtain ⟨i, mi, nd, k, dp, dot, saw, rfl, rfl, rfl, rfl, rfl, rfl, rfl, rfl, rfl, ho, hi, hnd, hk, hdp0, hdp1, hmi, hh⟩ := hrel
        by_cases hlt : i < s.size
        · have hb := HCH.out i hlt ho
          obtain ⟨hsaw, m, hme, hm, hok, hsc⟩ := hh.out
          rw [drop_at s i hlt] at hok hsc
          have hst := step_of hk hm hok hsc
          have hfirst : i = 1 → Fl.Digit s[i] := fun e => by subst e; exact HD.out
          clear hok hsc hh
          obtain ⟨cb, hcb⟩ : ∃ cb : UInt8, s[i] = cb := ⟨_, rfl⟩
          rw [hcb] at hst hb hfirst
          obtain ⟨c, hcc⟩ : ∃ c : Int, (cb.toNat : Int) = c := ⟨_, rfl⟩
          have hc : (s[i].toNat : Int) = c := by rw [hcb]; exact hcc
          have HCC := Lib.hid hcc
          have HCB := Lib.hid hcb
          clear hcb
          have n95 : (c == 95) = false := by
            have : c ≠ 95 := by omega
            simpa using this
          have hc1 : c < 58 := by omega
          rcases hst with ⟨h46, hdot, hok, hsc⟩ | ⟨h48, hnd0, hok, hsc⟩ | ⟨hdg, hnz, hk19, hm18, hmn, hok, hsc⟩ | ⟨h48, hnd0, hk19, hok, hsc⟩
          · subst hdot
            have hs1 : saw = true := by
              rcases hsaw with h | h
              · have := (hfirst h).1; rw [h46] at this; exact absurd this (by decide)
              · exact h
            have e46 : c = 46 := by rw [← hcc, h46]; rfl
            have HR : Hid (RfRel s fin 1 (i + 1) mi nd k nd true true) := Lib.hid ⟨Or.inr rfl, m, hme, hm, hok, hsc⟩
            subst hs1 e46
            clear hok hsc hm hsaw hcc h46 hme hb hfirst
            go_wp2
            go_round
            case rel => exact ⟨i + 1, mi, nd, k, _, true, true, rfl, rfl, by go_num, rfl, rfl, rfl, rfl, rfl, rfl, by omega, by omega, by omega, by omega, by omega, by omega, by omega, HR.out⟩
            case measure => simp [intOf]; omega
          · have e48 : c = 48 := by rw [← hcc, h48]; rfl
            have HR : Hid (RfRel s fin 1 (i + 1) mi nd k (dp - 1) dot true) := Lib.hid ⟨Or.inr rfl, m, hme, hm, hok, hsc⟩
            have hz : ((nd : Int) == 0) = true := by simpa using hnd0
            subst e48
            clear hok hsc hm hsaw hcc h48 hme hb hfirst hnd0
            go_wp2
            go_round
            case rel => exact ⟨i + 1, mi, nd, k, _, dot, true, rfl, rfl, by go_num, rfl, rfl, rfl, rfl, rfl, rfl, by omega, by omega, by omega, by omega, by omega, by omega, by omega, HR.out⟩
            case measure => simp [intOf]; omega
          · have HR : Hid (RfRel s fin 1 (i + 1) (mi * 10 + (c - 48)) (nd + 1) (k + 1) dp dot true) := Lib.hid ⟨Or.inr rfl, m * 10 + (cb.toNat - 48), by have := hdg.1; omega, hmn, hok, hsc⟩
            have d0 : 48 ≤ c := by have := hdg.1; omega
            have d1 : c ≤ 57 := by omega
            have hm18' : mi < 1000000000000000000 := by omega
            have n46 : (c == 46) = false := by
              have : c ≠ 46 := by omega
              simpa using this
            by_cases e48 : c = 48
            · have hz : ((nd : Int) == 0) = false := by
                have : ¬ nd = 0 := fun h => hnz ⟨UInt8.toNat_inj.1 (by show cb.toNat = 48; omega), h⟩
                simpa using this
              subst e48
              have HR2 : Hid (RfRel s fin 1 (i + 1) (mi * 10) (nd + 1) (k + 1) dp dot true) := Lib.hid (by have h := HR.out; rw [show (mi * 10 + (48 - 48) : Int) = mi * 10 by omega] at h; exact h)
              clear hok hsc hm hsaw hcc hme hb hfirst hdg hnz hmn hm18
              go_wp2
              go_round
              case rel => exact ⟨i + 1, _, nd + 1, k + 1, dp, dot, true, rfl, rfl, by go_num, rfl, rfl, rfl, by go_num, by go_num, rfl, by omega, by omega, by omega, by omega, by omega, by omega, by omega, HR2.out⟩
              case measure => simp [intOf]; omega
            · have n48 : (c == 48) = false := by simpa using e48
              clear hok hsc hm hsaw hcc hme hb hfirst hdg hnz hmn hm18 e48
              go_wp2
              go_round
              case rel => exact ⟨i + 1, _, nd + 1, k + 1, dp, dot, true, rfl, rfl, by go_num, rfl, rfl, rfl, by go_num, by go_num, rfl, by omega, by omega, by omega, by omega, by omega, by omega, by omega, HR.out⟩
              case measure => simp [intOf]; omega
          · have e48 : c = 48 := by rw [← hcc, h48]; rfl
            have HR : Hid (RfRel s fin 1 (i + 1) mi (nd + 1) k dp dot true) := Lib.hid ⟨Or.inr rfl, m, hme, hm, hok, hsc⟩
            have hz : ((nd : Int) == 0) = false := by
              have : ¬ nd = 0 := by omega
              simpa using this
            have hk2 : 19 ≤ k := by omega
            subst e48
            clear hok hsc hm hsaw hcc h48 hme hb hfirst hnd0 hk19
            go_wp2
            go_round
            case rel => exact ⟨i + 1, mi, nd + 1, k, dp, dot, true, rfl, rfl, by go_num, rfl, rfl, rfl, by go_num, rfl, rfl, by omega, by omega, by omega, by omega, by omega, by omega, by omega, HR.out⟩
            case measure => simp [intOf]; omega
        · have hie : i = s.size := by omega
          subst hie
          obtain ⟨hsaw, m, hme, hm, hok, hsc⟩ := hh.out
          have hs1 : saw = true := by
            rcases hsaw with h | h
            · omega
            · exact h
          subst hs1
          rw [List.drop_eq_nil_of_le (by simp), Fl.scan] at hsc
          have HF : Hid (fin = (m, nd, k, dp, dot)) := Lib.hid hsc.symm
          have HM := Lib.hid hme
          clear hok hsc hm hsaw hh hme
          by_cases hm0 : mi = 0
          · subst hm0
            cases dot
            all_goals
              go_wp2
              refine bodyPost_ret (results_tmp7 rfl _ _ _) rfl ?_
              exact rf_zero HF.out HM.out
          · have hmz : (mi != 0) = true := by simpa using hm0
            have HM0 := Lib.hid hm0
            clear hm0
            cases dot
            · go_wp2
              refine bodyPost_ret (results_tmp7 rfl _ _ _) rfl ?_
              exact rf_whole HF.out HM.out HM0.out
            · go_wp2
              refine bodyPost_ret (results_tmp7 rfl _ _ _) rfl ?_
              exact rf_dot HF.out HM.out HM0.out
  · go_enter Tryz.func117, Tryz.ntmps117
    go_wp2
    go_step3
    go_wp2_with fail
    go_step3
    go_wp2_with fail
    go_loop [2, 5, 7, 9, 13, 14, 15, 16, 17] (fun v2 v5 v7 v9 v13 v14 v15 v16 v17 => ∃ (i : Nat) (mi : Int) (nd k : Nat) (dp : Int) (dot saw : Bool), v2 = .int .u64 mi ∧ v5 = .bool false ∧ v7 = .int .i64 i ∧ v9 = .bool false ∧ v13 = .bool dot ∧ v14 = .bool saw ∧ v15 = .int .i64 nd ∧ v16 = .int .i64 k ∧ v17 = .int .i64 dp ∧
        1 ≤ i ∧ i ≤ s.size ∧ nd ≤ i ∧ k ≤ 19 ∧ -(i : Int) ≤ dp ∧ dp ≤ i ∧ 0 ≤ mi ∧ Hid (RfRel s fin 1 i mi nd k dp dot saw))
      (fun _ _ v7 _ _ _ _ _ _ => s.size - (intOf v7).toNat)
    case atStart => exact ⟨1, 0, 0, 0, 0, false, false, rfl, rfl, rfl, rfl, rfl, rfl, rfl, rfl, rfl, by omega, by omega, by omega, by omega, by omega, by omega, by omega, Lib.hid ⟨Or.inl rfl, 0, rfl, by decide, HOK.out, HSC.out⟩⟩
    case round =>
      obtain ⟨i, mi, nd, k, dp, dot, saw, rfl, rfl, rfl, rfl, rfl, rfl, rfl, rfl, rfl, ho, hi, hnd, hk, hdp0, hdp1, hmi, hh⟩ := hrel
      by_cases hlt : i < s.size
      · have hb := HCH.out i hlt ho
        obtain ⟨hsaw, m, hme, hm, hok, hsc⟩ := hh.out
        rw [drop_at s i hlt] at hok hsc
        have hst := step_of hk hm hok hsc
        have hfirst : i = 1 → Fl.Digit s[i] := fun e => by subst e; exact HD.out
        clear hok hsc hh
        obtain ⟨cb, hcb⟩ : ∃ cb : UInt8, s[i] = cb := ⟨_, rfl⟩
        rw [hcb] at hst hb hfirst
        obtain ⟨c, hcc⟩ : ∃ c : Int, (cb.toNat : Int) = c := ⟨_, rfl⟩
        have hc : (s[i].toNat : Int) = c := by rw [hcb]; exact hcc
        have HCC := Lib.hid hcc
        have HCB := Lib.hid hcb
        clear hcb
        have n95 : (c == 95) = false := by
          have : c ≠ 95 := by omega
          simpa using this
        have hc1 : c < 58 := by omega
        rcases hst with ⟨h46, hdot, hok, hsc⟩ | ⟨h48, hnd0, hok, hsc⟩ | ⟨hdg, hnz, hk19, hm18, hmn, hok, hsc⟩ | ⟨h48, hnd0, hk19, hok, hsc⟩
        · subst hdot
          have hs1 : saw = true := by
            rcases hsaw with h | h
            · have := (hfirst h).1; rw [h46] at this; exact absurd this (by decide)
            · exact h
          have e46 : c = 46 := by rw [← hcc, h46]; rfl
          have HR : Hid (RfRel s fin 1 (i + 1) mi nd k nd true true) := Lib.hid ⟨Or.inr rfl, m, hme, hm, hok, hsc⟩
          subst hs1 e46
          clear hok hsc hm hsaw hcc h46 hme hb hfirst
          go_wp2
          go_round
          case rel => exact ⟨i + 1, mi, nd, k, _, true, true, rfl, rfl, by go_num, rfl, rfl, rfl, rfl, rfl, rfl, by omega, by omega, by omega, by omega, by omega, by omega, by omega, HR.out⟩
          case measure => simp [intOf]; omega
        · have e48 : c = 48 := by rw [← hcc, h48]; rfl
          have HR : Hid (RfRel s fin 1 (i + 1) mi nd k (dp - 1) dot true) := Lib.hid ⟨Or.inr rfl, m, hme, hm, hok, hsc⟩
          have hz : ((nd : Int) == 0) = true := by simpa using hnd0
          subst e48
          clear hok hsc hm hsaw hcc h48 hme hb hfirst hnd0
          go_wp2
          go_round
          case rel => exact ⟨i + 1, mi, nd, k, _, dot, true, rfl, rfl, by go_num, rfl, rfl, rfl, rfl, rfl, rfl, by omega, by omega, by omega, by omega, by omega, by omega, by omega, HR.out⟩
          case measure => simp [intOf]; omega
        · have HR : Hid (RfRel s fin 1 (i + 1) (mi * 10 + (c - 48)) (nd + 1) (k + 1) dp dot true) := Lib.hid ⟨Or.inr rfl, m * 10 + (cb.toNat - 48), by have := hdg.1; omega, hmn, hok, hsc⟩
          have d0 : 48 ≤ c := by have := hdg.1; omega
          have d1 : c ≤ 57 := by omega
          have hm18' : mi < 1000000000000000000 := by omega
          have n46 : (c == 46) = false := by
            have : c ≠ 46 := by omega
            simpa using this
          by_cases e48 : c = 48
          · have hz : ((nd : Int) == 0) = false := by
              have : ¬ nd = 0 := fun h => hnz ⟨UInt8.toNat_inj.1 (by show cb.toNat = 48; omega), h⟩
              simpa using this
            subst e48
            have HR2 : Hid (RfRel s fin 1 (i + 1) (mi * 10) (nd + 1) (k + 1) dp dot true) := Lib.hid (by have h := HR.out; rw [show (mi * 10 + (48 - 48) : Int) = mi * 10 by omega] at h; exact h)
            clear hok hsc hm hsaw hcc hme hb hfirst hdg hnz hmn hm18
            go_wp2
            go_round
            case rel => exact ⟨i + 1, _, nd + 1, k + 1, dp, dot, true, rfl, rfl, by go_num, rfl, rfl, rfl, by go_num, by go_num, rfl, by omega, by omega, by omega, by omega, by omega, by omega, by omega, HR2.out⟩
            case measure => simp [intOf]; omega
          · have n48 : (c == 48) = false := by simpa using e48
            clear hok hsc hm hsaw hcc hme hb hfirst hdg hnz hmn hm18 e48
            go_wp2
            go_round
            case rel => exact ⟨i + 1, _, nd + 1, k + 1, dp, dot, true, rfl, rfl, by go_num, rfl, rfl, rfl, by go_num, by go_num, rfl, by omega, by omega, by omega, by omega, by omega, by omega, by omega, HR.out⟩
            case measure => simp [intOf]; omega
        · have e48 : c = 48 := by rw [← hcc, h48]; rfl
          have HR : Hid (RfRel s fin 1 (i + 1) mi (nd + 1) k dp dot true) := Lib.hid ⟨Or.inr rfl, m, hme, hm, hok, hsc⟩
          have hz : ((nd : Int) == 0) = false := by
            have : ¬ nd = 0 := by omega
            simpa using this
          have hk2 : 19 ≤ k := by omega
          subst e48
          clear hok hsc hm hsaw hcc h48 hme hb hfirst hnd0 hk19
          go_wp2
          go_round
          case rel => exact ⟨i + 1, mi, nd + 1, k, dp, dot, true, rfl, rfl, by go_num, rfl, rfl, rfl, by go_num, rfl, rfl, by omega, by omega, by omega, by omega, by omega, by omega, by omega, HR.out⟩
          case measure => simp [intOf]; omega
      · have hie : i = s.size := by omega
        subst hie
        obtain ⟨hsaw, m, hme, hm, hok, hsc⟩ := hh.out
        have hs1 : saw = true := by
          rcases hsaw with h | h
          · omega
          · exact h
        subst hs1
        rw [List.drop_eq_nil_of_le (by simp), Fl.scan] at hsc
        have HF : Hid (fin = (m, nd, k, dp, dot)) := Lib.hid hsc.symm
        have HM := Lib.hid hme
        clear hok hsc hm hsaw hh hme
        by_cases hm0 : mi = 0
        · subst hm0
          cases dot
          all_goals
            go_wp2
            refine bodyPost_ret (results_tmp7 rfl _ _ _) rfl ?_
            exact rf_zero HF.out HM.out
        · have hmz : (mi != 0) = true := by simpa using hm0
          have HM0 := Lib.hid hm0
          clear hm0
          cases dot
          · go_wp2
            refine bodyPost_ret (results_tmp7 rfl _ _ _) rfl ?_
            exact rf_whole HF.out HM.out HM0.out
          · go_wp2
            refine bodyPost_ret (results_tmp7 rfl _ _ _) rfl ?_
            exact rf_dot HF.out HM.out HM0.out
end Go.Proofs.YtbbjjkcjpdmjnaaGreatDoor
