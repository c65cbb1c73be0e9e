/- Walks of the law FnBack: the text of a float's digits appended. -/
import Derived.Test.YtbbjjkcjpdmjnaaGreatDoorZg
import Derived.Lib.OthersKept
import Derived.Lib.OwnKind
import Derived.Lib.UnsafeStr
import Derived.Deep.AppendLies
namespace Go.Proofs.YtbbjjkcjpdmjnaaGreatDoor
open Go.RowKit
open Go.Lib (decDigits nDigits)

theorem info5 : (Tryz.prog.info? 5).map (fun i => (i.zero, i.size, i.bytes)) = some (some (.int .u8 0), 1, 1) := by kernel_rfl

/-- Bytes of a text that have been appended to a row of the call's own. -/
structure St (w : World) (B n : Nat) (xs : List Value) (wr : World) (v : Value) (l : List UInt8) : Prop where
  own : wr.ownsRow B 5 1 v (n + l.length) (xs ++ Lib.byteCells l)
  below : Below B w wr
  kept : Lib.OthersKept 5 none w wr
  base : B ≤ wr.heap.size

theorem St.start {w : World} {B n : Nat} {xs : List Value} {v : Value} (h : w.ownsRow B 5 1 v n xs) (hB : B ≤ w.heap.size) : St w B n xs w v [] :=
  ⟨by simpa [Lib.byteCells] using h, Below.refl _ _, Lib.OthersKept.refl _ _ _, hB⟩

theorem St.step {w : World} {B n : Nat} {xs : List Value} {wr w1 : World} {v v' : Value} {l m : List UInt8} {o : Obj} (h : St w B n xs wr v l) (hown : w1.ownsRow B 5 1 v' (n + l.length + m.length) (xs ++ Lib.byteCells l ++ Lib.byteCells m)) (hg : (wr.alloc o).grownBy w1 v.ownBlock) : St w B n xs w1 v' (l ++ m) := by
  have hr : ∀ k, v.ownBlock = some k → B ≤ k := fun k hk => (h.own.lt k hk).1
  have h2 := h.own.alloc o
  refine ⟨?_, (h.below.alloc h.base o).grown hg (by simp; have := h.base; omega) hr, (h.kept.alloc o).grown hg (Lib.ownsRow_kind h2), Nat.le_trans h.base (by have := hg.size; simp at this; omega)⟩
  rw [List.length_append, ← Nat.add_assoc]
  unfold Lib.byteCells at hown ⊢
  rw [List.map_append, ← List.append_assoc]
  exact hown

/-- One byte appended. -/
theorem wpList_app1 {ops : Array Oper} {rest : List Oper} {o : Oper} {a : Act} {Q : Exit → Act → World → Prop} (hgd : o.guard = none) (s x : Operand)
    (ho : o.op = .call { callee := .builtin .append, args := #[s, x], argTypes := #[50, 50] }) {w : World} {B n : Nat} {xs : List Value} {wr : World} {v : Value} {l : List UInt8} {T : TypeId} {z : Int} {c : Nat}
    (hst : St w B n xs wr v l) (b : UInt8) (hz : (b.toNat : Int) = z) (hs : a.eval s = v) (hx : a.eval x = .slice (some ⟨wr.heap.size, 0, none⟩) 1 c) (hn : n + l.length ≤ 1000000000)
    (h : ∀ v' w', St w B n xs w' v' (l ++ [b]) → wpList Tryz.prog ops Q rest (a.put o.dst v') w') : wpList Tryz.prog ops Q (o :: rest) a (wr.alloc (.cells #[.int .u8 z] T)) := by
  obtain ⟨i0, hi, hz0, hz1, hz2⟩ := info_parts info5
  subst hz
  refine wpList_append_own _ hgd s x 50 ho B 5 i0 (.int .u8 0) 1 1 Tryz.underlying50 hi hz0 hz1 hz2 rfl (by decide) v _ _ hs (hst.own.alloc _) ⟨wr.heap.size, 0, none⟩ 1 c [.int .u8 (b.toNat : Int)] hx rfl
    (fun j u hu => World.news_of_block (heap_alloc_new wr _) j u hu) (fun u hu => by rw [List.mem_singleton] at hu; subst hu; rfl) (by unfold maxLen; omega) (by omega) (by have := hst.base; simp; omega) ?_
  intro v' w1 hown hg _
  exact h v' w1 (hst.step (m := [b]) hown hg)

/-- What an appending call leaves. -/
def App (B n : Nat) (xs : List Value) (t : List UInt8) (w : World) (e : Ending) (w' : World) : Prop := ∃ v', e = .returned v' ∧ St w B n xs w' v' t

theorem St.digs {w : World} {B n : Nat} {xs : List Value} {wr : World} {v : Value} {l ds : List UInt8} {g : Nat} (h : St w B n xs wr v l) (hd : Digs w g ds) : Digs wr g ds := by
  obtain ⟨⟨cs, hc⟩, hd⟩ := hd
  have h2 := h.kept g _ hc (by simp) (fun c fz he => by injection he with _ h5; exact absurd h5 (by decide))
  refine ⟨⟨cs, h2⟩, fun j hj => ?_⟩
  have := hd j hj
  rw [cell_of_row _ _ _ _ _ _ hc] at this
  rw [cell_of_row _ _ _ _ _ _ h2]
  exact this

theorem Digs.at_ {w : World} {g : Nat} {ds : List UInt8} (h : Digs w g ds) (k : Nat) (hk : k < ds.length) : ∃ (b : UInt8) (z : Int), (b.toNat : Int) = z ∧ w.cell? ⟨g, k, none⟩ = some (.int .u8 z) ∧ ds.take (k + 1) = ds.take k ++ [b] ∧ ds[k]? = some b :=
  ⟨ds[k], _, rfl, h.2 k hk, by rw [List.take_succ_eq_append_getElem hk], List.getElem?_eq_getElem hk⟩

set_option maxRecDepth 100000 in
set_option maxHeartbeats 4000000 in
theorem fmt_A_plus (B n u g : Nat) (dp : Int) (sv : Value) (xs : List Value) (w : World) (hown : w.ownsRow B 5 1 sv n xs) (hB : B ≤ w.heap.size) (hn : n ≤ 100000000) (hD : Digs w g (decDigits u)) (h17 : nDigits u ≤ 17) (h0 : 0 < dp) (h1 : (nDigits u : Int) ≤ dp) (hdp : dp ≤ 400) :
    Calls Tryz.prog 63 #[sv, .bool false, .slice (some ⟨g, 0, none⟩) 32 32, .int .i64 dp, .int .i64 (nDigits u), .int .i64 0, .int .u8 102, .bool true] w (App B n xs ([] ++ Fl.txt u dp) w) := by
  have hlen := Lib.decDigits_length u
  have hn1 := Lib.nDigits_pos u
  have HS0 := Lib.hid (St.start hown hB)
  have HD := Lib.hid hD
  have HT : Hid (∀ v' w', St w B n xs w' v' ([] ++ (decDigits u ++ List.replicate (dp.toNat - nDigits u) 48)) → App B n xs ([] ++ Fl.txt u dp) w (.returned v') w') := Lib.hid (fun v' w' h => ⟨v', rfl, by
    have e : Fl.txt u dp = (decDigits u ++ List.replicate (dp.toNat - nDigits u) 48) := by
      unfold Fl.txt
      rw [if_pos h0, hlen, if_pos (by omega)]
    rw [e]; exact h⟩)
  obtain ⟨ds, hds⟩ : ∃ ds, ds = decDigits u := ⟨_, rfl⟩
  rw [← hds] at hlen HD HT
  obtain ⟨nu, hnu⟩ : ∃ nu, nu = nDigits u := ⟨_, rfl⟩
  rw [← hnu] at hlen hn1 h17 h1 HT ⊢
  have HLEN := Lib.hid hlen
  clear hown hB hD hds hnu hlen
  obtain ⟨p, rfl⟩ : ∃ p : Nat, dp = (p : Int) := ⟨dp.toNat, by omega⟩
  have hmin : min (nu : Int) (p : Int) = nu := by omega
  have hdec : decide (0 < p) = true := decide_eq_true (by omega)
  go_enter Tryz.func63, Tryz.ntmps63
  go_wp2
  go_loopw [0, 191] (fun v i wr => ∃ k : Nat, k ≤ nu ∧ i = .int .i64 k ∧ Hid (St w B n xs wr v ([] ++ ds.take k)))
    (fun _ i _ => nu - (intOf i).toNat)
  case atStart => exact ⟨0, by omega, rfl, Lib.hid (by have := HS0.out; simpa using this)⟩
  case round =>
    obtain ⟨k, hk, rfl, hst⟩ := hrel
    by_cases hkn : k < nu
    · obtain ⟨b, z, hbz, hcell, htake, _⟩ := (hst.out.digs HD.out).at_ k (by rw [HLEN.out]; exact hkn)
      have HT1 := Lib.hid htake
      have HBZ := Lib.hid hbz
      have hlk : ([] ++ ds.take k).length ≤ 30 := by simp; omega
      clear htake hbz
      go_wp2_with (at_builtin; refine wpList_app1 rfl _ _ rfl hst.out b HBZ.out rfl rfl (by omega) ?_)
      intro v1 w1 hst1
      have HN : Hid (St w B n xs w1 v1 ([] ++ ds.take (k + 1))) := Lib.hid (by have e := hst1; simpa [HT1.out] using e)
      clear hst1 hst
      go_wp2
      go_roundw
      case rel => exact ⟨k + 1, by omega, by go_num, HN.out⟩
      case measure => simp [intOf]; omega
    · obtain rfl : k = nu := by omega
      have HE : Hid (St w B n xs wr u0 ([] ++ ds)) := Lib.hid (by have := hst.out; rw [List.take_of_length_le (by rw [HLEN.out]; omega)] at this; exact this)
      clear hst
      go_wp2
      go_loopw [0, 203] (fun v i wr => ∃ j : Nat, j ≤ p - k ∧ i = .int .i64 j ∧ Hid (St w B n xs wr v ([] ++ ds ++ List.replicate j 48)))
        (fun _ i _ => p - k - (intOf i).toNat)
      case atStart => exact ⟨0, by omega, rfl, Lib.hid (by have := HE.out; simpa using this)⟩
      case round =>
        obtain ⟨j, hj, rfl, hst⟩ := hrel
        by_cases hjn : j < p - k
        · have hlk : ([] ++ ds ++ List.replicate j 48).length ≤ 600 := by simp; have := HLEN.out; omega
          go_wp2_with (at_builtin; refine wpList_app1 rfl _ _ rfl hst.out 48 rfl rfl rfl (by omega) ?_)
          intro v1 w1 hst1
          have HN : Hid (St w B n xs w1 v1 ([] ++ ds ++ List.replicate (j + 1) 48)) := Lib.hid (by have e := hst1; simpa [List.replicate_succ'] using e)
          clear hst1 hst
          go_wp2
          go_roundw
          case rel => exact ⟨j + 1, by omega, by go_num, HN.out⟩
          case measure => simp [intOf]; omega
        · obtain rfl : j = p - k := by omega
          have HF := Lib.hid (HT.out _ _ (by have e := hst.out; simpa using e))
          clear hst
          go_wp2
          go_ret
          exact HF.out

set_option maxRecDepth 100000 in
set_option maxHeartbeats 4000000 in
theorem fmt_A_minus (B n u g : Nat) (dp : Int) (sv : Value) (xs : List Value) (w : World) (hown : w.ownsRow B 5 1 sv n xs) (hB : B ≤ w.heap.size) (hn : n ≤ 100000000) (hD : Digs w g (decDigits u)) (h17 : nDigits u ≤ 17) (h0 : 0 < dp) (h1 : (nDigits u : Int) ≤ dp) (hdp : dp ≤ 400) :
    Calls Tryz.prog 63 #[sv, .bool true, .slice (some ⟨g, 0, none⟩) 32 32, .int .i64 dp, .int .i64 (nDigits u), .int .i64 0, .int .u8 102, .bool true] w (App B n xs ([45] ++ Fl.txt u dp) w) := by
  have hlen := Lib.decDigits_length u
  have hn1 := Lib.nDigits_pos u
  have HS0 := Lib.hid (St.start hown hB)
  have HD := Lib.hid hD
  have HT : Hid (∀ v' w', St w B n xs w' v' ([45] ++ (decDigits u ++ List.replicate (dp.toNat - nDigits u) 48)) → App B n xs ([45] ++ Fl.txt u dp) w (.returned v') w') := Lib.hid (fun v' w' h => ⟨v', rfl, by
    have e : Fl.txt u dp = (decDigits u ++ List.replicate (dp.toNat - nDigits u) 48) := by
      unfold Fl.txt
      rw [if_pos h0, hlen, if_pos (by omega)]
    rw [e]; exact h⟩)
  obtain ⟨ds, hds⟩ : ∃ ds, ds = decDigits u := ⟨_, rfl⟩
  rw [← hds] at hlen HD HT
  obtain ⟨nu, hnu⟩ : ∃ nu, nu = nDigits u := ⟨_, rfl⟩
  rw [← hnu] at hlen hn1 h17 h1 HT ⊢
  have HLEN := Lib.hid hlen
  clear hown hB hD hds hnu hlen
  obtain ⟨p, rfl⟩ : ∃ p : Nat, dp = (p : Int) := ⟨dp.toNat, by omega⟩
  have hmin : min (nu : Int) (p : Int) = nu := by omega
  have hdec : decide (0 < p) = true := decide_eq_true (by omega)
  go_enter Tryz.func63, Tryz.ntmps63
  go_wp2_with (at_builtin; refine wpList_app1 rfl _ _ rfl HS0.out 45 rfl rfl rfl (by simp; omega) ?_)
  intro v0 w0 hst
  have HS1 := Lib.hid hst
  clear hst HS0
  go_wp2
  go_loopw [0, 191] (fun v i wr => ∃ k : Nat, k ≤ nu ∧ i = .int .i64 k ∧ Hid (St w B n xs wr v ([45] ++ ds.take k)))
    (fun _ i _ => nu - (intOf i).toNat)
  case atStart => exact ⟨0, by omega, rfl, Lib.hid (by have := HS1.out; simpa using this)⟩
  case round =>
    obtain ⟨k, hk, rfl, hst⟩ := hrel
    by_cases hkn : k < nu
    · obtain ⟨b, z, hbz, hcell, htake, _⟩ := (hst.out.digs HD.out).at_ k (by rw [HLEN.out]; exact hkn)
      have HT1 := Lib.hid htake
      have HBZ := Lib.hid hbz
      have hlk : ([45] ++ ds.take k).length ≤ 30 := by simp; omega
      clear htake hbz
      go_wp2_with (at_builtin; refine wpList_app1 rfl _ _ rfl hst.out b HBZ.out rfl rfl (by omega) ?_)
      intro v1 w1 hst1
      have HN : Hid (St w B n xs w1 v1 ([45] ++ ds.take (k + 1))) := Lib.hid (by have e := hst1; simpa [HT1.out] using e)
      clear hst1 hst
      go_wp2
      go_roundw
      case rel => exact ⟨k + 1, by omega, by go_num, HN.out⟩
      case measure => simp [intOf]; omega
    · obtain rfl : k = nu := by omega
      have HE : Hid (St w B n xs wr u0 ([45] ++ ds)) := Lib.hid (by have := hst.out; rw [List.take_of_length_le (by rw [HLEN.out]; omega)] at this; exact this)
      clear hst
      go_wp2
      go_loopw [0, 203] (fun v i wr => ∃ j : Nat, j ≤ p - k ∧ i = .int .i64 j ∧ Hid (St w B n xs wr v ([45] ++ ds ++ List.replicate j 48)))
        (fun _ i _ => p - k - (intOf i).toNat)
      case atStart => exact ⟨0, by omega, rfl, Lib.hid (by have := HE.out; simpa using this)⟩
      case round =>
        obtain ⟨j, hj, rfl, hst⟩ := hrel
        by_cases hjn : j < p - k
        · have hlk : ([45] ++ ds ++ List.replicate j 48).length ≤ 600 := by simp; have := HLEN.out; omega
          go_wp2_with (at_builtin; refine wpList_app1 rfl _ _ rfl hst.out 48 rfl rfl rfl (by omega) ?_)
          intro v1 w1 hst1
          have HN : Hid (St w B n xs w1 v1 ([45] ++ ds ++ List.replicate (j + 1) 48)) := Lib.hid (by have e := hst1; simpa [List.replicate_succ'] using e)
          clear hst1 hst
          go_wp2
          go_roundw
          case rel => exact ⟨j + 1, by omega, by go_num, HN.out⟩
          case measure => simp [intOf]; omega
        · obtain rfl : j = p - k := by omega
          have HF := Lib.hid (HT.out _ _ (by have e := hst.out; simpa using e))
          clear hst
          go_wp2
          go_ret
          exact HF.out

set_option maxRecDepth 100000 in
set_option maxHeartbeats 4000000 in
theorem fmt_B_plus (B n u g : Nat) (dp : Int) (sv : Value) (xs : List Value) (w : World) (hown : w.ownsRow B 5 1 sv n xs) (hB : B ≤ w.heap.size) (hn : n ≤ 100000000) (hD : Digs w g (decDigits u)) (h17 : nDigits u ≤ 17) (h0 : 0 < dp) (h1 : dp < (nDigits u : Int)) :
    Calls Tryz.prog 63 #[sv, .bool false, .slice (some ⟨g, 0, none⟩) 32 32, .int .i64 dp, .int .i64 (nDigits u), .int .i64 ((nDigits u : Int) - dp), .int .u8 102, .bool true] w (App B n xs ([] ++ Fl.txt u dp) w) := by
  have hlen := Lib.decDigits_length u
  have hn1 := Lib.nDigits_pos u
  have HS0 := Lib.hid (St.start hown hB)
  have HD := Lib.hid hD
  have HT : Hid (∀ v' w', St w B n xs w' v' ([] ++ ((decDigits u).take dp.toNat ++ 46 :: (decDigits u).drop dp.toNat)) → App B n xs ([] ++ Fl.txt u dp) w (.returned v') w') := Lib.hid (fun v' w' h => ⟨v', rfl, by
    have e : Fl.txt u dp = ((decDigits u).take dp.toNat ++ 46 :: (decDigits u).drop dp.toNat) := by
      unfold Fl.txt
      rw [if_pos h0, hlen, if_neg (by omega)]
    rw [e]; exact h⟩)
  obtain ⟨ds, hds⟩ : ∃ ds, ds = decDigits u := ⟨_, rfl⟩
  rw [← hds] at hlen HD HT
  obtain ⟨nu, hnu⟩ : ∃ nu, nu = nDigits u := ⟨_, rfl⟩
  rw [← hnu] at hlen hn1 h17 h1  ⊢
  have HLEN := Lib.hid hlen
  clear hown hB hD hds hnu hlen
  obtain ⟨p, rfl⟩ : ∃ p : Nat, dp = (p : Int) := ⟨dp.toNat, by omega⟩
  obtain ⟨r, hr⟩ : ∃ r : Nat, nu = p + r := ⟨nu - p, by omega⟩
  have e1 : (nu : Int) - p = r := by omega
  rw [e1]
  have HR := Lib.hid hr
  have hmin : min (nu : Int) (p : Int) = p := by omega
  have hmax : max (0 : Int) (-(p : Int)) = 0 := by omega
  have hmin2 : min (r : Int) (0 : Int) = 0 := by omega
  have hmax2 : max (0 : Int) (r : Int) = r := by omega
  have hdec : decide (0 < p) = true := decide_eq_true (by omega)
  have hr0 : 0 < r := by omega
  have hdecr : decide (0 < r) = true := decide_eq_true hr0
  have hr1 : r ≤ 17 := by omega
  have hp17 : p ≤ 17 := by omega
  have hpr : p + r ≤ nu := by omega
  have hpr2 : nu ≤ p + r := by omega
  clear hr h1
  go_enter Tryz.func63, Tryz.ntmps63
  go_wp2
  go_loopw [0, 191] (fun v i wr => ∃ k : Nat, k ≤ p ∧ i = .int .i64 k ∧ Hid (St w B n xs wr v ([] ++ (ds).take k)))
    (fun _ i _ => p - (intOf i).toNat)
  case atStart => exact ⟨0, by omega, rfl, Lib.hid (by have := HS0.out; simpa using this)⟩
  case round =>
    obtain ⟨k, hk, rfl, hst⟩ := hrel
    by_cases hkn : k < p
    · obtain ⟨b, z, hbz, hcell, _, hget⟩ := (hst.out.digs HD.out).at_ (k) (by rw [HLEN.out]; omega)
      have HT1 : Hid ((ds).take (k + 1) = (ds).take k ++ [b]) := Lib.hid (by rw [List.take_add_one]; simp [hget])
      have HBZ := Lib.hid hbz
      have hlk : ([] ++ (ds).take k).length ≤ 600 := by simp; omega
      clear hbz hget
      go_wp2_with (at_builtin; refine wpList_app1 rfl _ _ rfl hst.out b HBZ.out rfl rfl (by omega) ?_)
      intro v91 w91 hst1
      have HN : Hid (St w B n xs w91 v91 ([] ++ (ds).take (k + 1))) := Lib.hid (by have e := hst1; simpa [HT1.out] using e)
      clear hst1 hst
      go_wp2
      go_roundw
      case rel => exact ⟨k + 1, by omega, by go_num, HN.out⟩
      case measure => simp [intOf]; omega
    · obtain rfl : p = k := by omega
      have HE := hst
      clear hst
      go_wp2
      go_loopw [0, 203] (fun v i wr => i = .int .i64 0 ∧ Hid (St w B n xs wr v ([] ++ ds.take p)))
        (fun _ _ _ => 0)
      case atStart => exact ⟨rfl, Lib.hid (by have := HE.out; simpa using this)⟩
      case round =>
        obtain ⟨rfl, HZ⟩ := hrel
        go_wp2_with (at_builtin; refine wpList_app1 rfl _ _ rfl HZ.out 46 rfl rfl rfl (by simp; omega) ?_)
        intro v70 w70 hst
        have HS70 := Lib.hid hst
        clear hst HZ
        go_wp2
        go_loopw [0, 240] (fun v i wr => i = .int .i64 0 ∧ Hid (St w B n xs wr v ([] ++ ds.take p ++ [46])))
          (fun _ _ _ => 0)
        case atStart => exact ⟨rfl, Lib.hid (by have := HS70.out; simpa using this)⟩
        case round =>
          obtain ⟨rfl, HZ⟩ := hrel
          go_wp2
          go_loopw [0, 247] (fun v i wr => ∃ k : Nat, k ≤ r ∧ i = .int .i64 k ∧ Hid (St w B n xs wr v ([] ++ ds.take p ++ [46] ++ (ds.drop p).take k)))
            (fun _ i _ => r - (intOf i).toNat)
          case atStart => exact ⟨0, by omega, rfl, Lib.hid (by have := HZ.out; simpa using this)⟩
          case round =>
            obtain ⟨k, hk, rfl, hst⟩ := hrel
            by_cases hkn : k < r
            · obtain ⟨b, z, hbz, hcell, _, hget⟩ := (hst.out.digs HD.out).at_ (p + k) (by rw [HLEN.out]; omega)
              have HT1 : Hid ((ds.drop p).take (k + 1) = (ds.drop p).take k ++ [b]) := Lib.hid (by rw [List.take_add_one]; simp [hget])
              have HBZ := Lib.hid hbz
              have hlk : ([] ++ ds.take p ++ [46] ++ (ds.drop p).take k).length ≤ 600 := by simp; omega
              clear hbz hget
              go_wp2_with (at_builtin; refine wpList_app1 rfl _ _ rfl hst.out b HBZ.out rfl rfl (by omega) ?_)
              intro v91 w91 hst1
              have HN : Hid (St w B n xs w91 v91 ([] ++ ds.take p ++ [46] ++ (ds.drop p).take (k + 1))) := Lib.hid (by have e := hst1; simpa [HT1.out] using e)
              clear hst1 hst
              go_wp2
              go_roundw
              case rel => exact ⟨k + 1, by omega, by go_num, HN.out⟩
              case measure => simp [intOf]; omega
            · obtain rfl : r = k := by omega
              have HE : Hid (St w B n xs wr u0 ([] ++ ds.take p ++ [46] ++ ds.drop p)) := Lib.hid (by have e := hst.out; rw [List.take_of_length_le (l := ds.drop p) (by simp [HLEN.out]; try omega)] at e; exact e)
              clear hst
              go_wp2
              go_loopw [0, 261] (fun v i wr => i = .int .i64 0 ∧ Hid (St w B n xs wr v ([] ++ ds.take p ++ [46] ++ ds.drop p)))
                (fun _ _ _ => 0)
              case atStart => exact ⟨rfl, Lib.hid (by have := HE.out; simpa using this)⟩
              case round =>
                obtain ⟨rfl, HZ⟩ := hrel
                have HF := Lib.hid (HT.out _ _ (by have e := HZ.out; simpa using e))
                clear HZ
                go_wp2
                go_ret
                exact HF.out

set_option maxRecDepth 100000 in
set_option maxHeartbeats 4000000 in
theorem fmt_B_minus (B n u g : Nat) (dp : Int) (sv : Value) (xs : List Value) (w : World) (hown : w.ownsRow B 5 1 sv n xs) (hB : B ≤ w.heap.size) (hn : n ≤ 100000000) (hD : Digs w g (decDigits u)) (h17 : nDigits u ≤ 17) (h0 : 0 < dp) (h1 : dp < (nDigits u : Int)) :
    Calls Tryz.prog 63 #[sv, .bool true, .slice (some ⟨g, 0, none⟩) 32 32, .int .i64 dp, .int .i64 (nDigits u), .int .i64 ((nDigits u : Int) - dp), .int .u8 102, .bool true] w (App B n xs ([45] ++ Fl.txt u dp) w) := by
  have hlen := Lib.decDigits_length u
  have hn1 := Lib.nDigits_pos u
  have HS0 := Lib.hid (St.start hown hB)
  have HD := Lib.hid hD
  have HT : Hid (∀ v' w', St w B n xs w' v' ([45] ++ ((decDigits u).take dp.toNat ++ 46 :: (decDigits u).drop dp.toNat)) → App B n xs ([45] ++ Fl.txt u dp) w (.returned v') w') := Lib.hid (fun v' w' h => ⟨v', rfl, by
    have e : Fl.txt u dp = ((decDigits u).take dp.toNat ++ 46 :: (decDigits u).drop dp.toNat) := by
      unfold Fl.txt
      rw [if_pos h0, hlen, if_neg (by omega)]
    rw [e]; exact h⟩)
  obtain ⟨ds, hds⟩ : ∃ ds, ds = decDigits u := ⟨_, rfl⟩
  rw [← hds] at hlen HD HT
  obtain ⟨nu, hnu⟩ : ∃ nu, nu = nDigits u := ⟨_, rfl⟩
  rw [← hnu] at hlen hn1 h17 h1  ⊢
  have HLEN := Lib.hid hlen
  clear hown hB hD hds hnu hlen
  obtain ⟨p, rfl⟩ : ∃ p : Nat, dp = (p : Int) := ⟨dp.toNat, by omega⟩
  obtain ⟨r, hr⟩ : ∃ r : Nat, nu = p + r := ⟨nu - p, by omega⟩
  have e1 : (nu : Int) - p = r := by omega
  rw [e1]
  have HR := Lib.hid hr
  have hmin : min (nu : Int) (p : Int) = p := by omega
  have hmax : max (0 : Int) (-(p : Int)) = 0 := by omega
  have hmin2 : min (r : Int) (0 : Int) = 0 := by omega
  have hmax2 : max (0 : Int) (r : Int) = r := by omega
  have hdec : decide (0 < p) = true := decide_eq_true (by omega)
  have hr0 : 0 < r := by omega
  have hdecr : decide (0 < r) = true := decide_eq_true hr0
  have hr1 : r ≤ 17 := by omega
  have hp17 : p ≤ 17 := by omega
  have hpr : p + r ≤ nu := by omega
  have hpr2 : nu ≤ p + r := by omega
  clear hr h1
  go_enter Tryz.func63, Tryz.ntmps63
  go_wp2_with (at_builtin; refine wpList_app1 rfl _ _ rfl HS0.out 45 rfl rfl rfl (by simp; omega) ?_)
  intro v0 w0 hst
  have HS1 := Lib.hid hst
  clear hst HS0
  go_wp2
  go_loopw [0, 191] (fun v i wr => ∃ k : Nat, k ≤ p ∧ i = .int .i64 k ∧ Hid (St w B n xs wr v ([45] ++ (ds).take k)))
    (fun _ i _ => p - (intOf i).toNat)
  case atStart => exact ⟨0, by omega, rfl, Lib.hid (by have := HS1.out; simpa using this)⟩
  case round =>
    obtain ⟨k, hk, rfl, hst⟩ := hrel
    by_cases hkn : k < p
    · obtain ⟨b, z, hbz, hcell, _, hget⟩ := (hst.out.digs HD.out).at_ (k) (by rw [HLEN.out]; omega)
      have HT1 : Hid ((ds).take (k + 1) = (ds).take k ++ [b]) := Lib.hid (by rw [List.take_add_one]; simp [hget])
      have HBZ := Lib.hid hbz
      have hlk : ([45] ++ (ds).take k).length ≤ 600 := by simp; omega
      clear hbz hget
      go_wp2_with (at_builtin; refine wpList_app1 rfl _ _ rfl hst.out b HBZ.out rfl rfl (by omega) ?_)
      intro v91 w91 hst1
      have HN : Hid (St w B n xs w91 v91 ([45] ++ (ds).take (k + 1))) := Lib.hid (by have e := hst1; simpa [HT1.out] using e)
      clear hst1 hst
      go_wp2
      go_roundw
      case rel => exact ⟨k + 1, by omega, by go_num, HN.out⟩
      case measure => simp [intOf]; omega
    · obtain rfl : p = k := by omega
      have HE := hst
      clear hst
      go_wp2
      go_loopw [0, 203] (fun v i wr => i = .int .i64 0 ∧ Hid (St w B n xs wr v ([45] ++ ds.take p)))
        (fun _ _ _ => 0)
      case atStart => exact ⟨rfl, Lib.hid (by have := HE.out; simpa using this)⟩
      case round =>
        obtain ⟨rfl, HZ⟩ := hrel
        go_wp2_with (at_builtin; refine wpList_app1 rfl _ _ rfl HZ.out 46 rfl rfl rfl (by simp; omega) ?_)
        intro v70 w70 hst
        have HS70 := Lib.hid hst
        clear hst HZ
        go_wp2
        go_loopw [0, 240] (fun v i wr => i = .int .i64 0 ∧ Hid (St w B n xs wr v ([45] ++ ds.take p ++ [46])))
          (fun _ _ _ => 0)
        case atStart => exact ⟨rfl, Lib.hid (by have := HS70.out; simpa using this)⟩
        case round =>
          obtain ⟨rfl, HZ⟩ := hrel
          go_wp2
          go_loopw [0, 247] (fun v i wr => ∃ k : Nat, k ≤ r ∧ i = .int .i64 k ∧ Hid (St w B n xs wr v ([45] ++ ds.take p ++ [46] ++ (ds.drop p).take k)))
            (fun _ i _ => r - (intOf i).toNat)
          case atStart => exact ⟨0, by omega, rfl, Lib.hid (by have := HZ.out; simpa using this)⟩
          case round =>
            obtain ⟨k, hk, rfl, hst⟩ := hrel
            by_cases hkn : k < r
            · obtain ⟨b, z, hbz, hcell, _, hget⟩ := (hst.out.digs HD.out).at_ (p + k) (by rw [HLEN.out]; omega)
              have HT1 : Hid ((ds.drop p).take (k + 1) = (ds.drop p).take k ++ [b]) := Lib.hid (by rw [List.take_add_one]; simp [hget])
              have HBZ := Lib.hid hbz
              have hlk : ([45] ++ ds.take p ++ [46] ++ (ds.drop p).take k).length ≤ 600 := by simp; omega
              clear hbz hget
              go_wp2_with (at_builtin; refine wpList_app1 rfl _ _ rfl hst.out b HBZ.out rfl rfl (by omega) ?_)
              intro v91 w91 hst1
              have HN : Hid (St w B n xs w91 v91 ([45] ++ ds.take p ++ [46] ++ (ds.drop p).take (k + 1))) := Lib.hid (by have e := hst1; simpa [HT1.out] using e)
              clear hst1 hst
              go_wp2
              go_roundw
              case rel => exact ⟨k + 1, by omega, by go_num, HN.out⟩
              case measure => simp [intOf]; omega
            · obtain rfl : r = k := by omega
              have HE : Hid (St w B n xs wr u0 ([45] ++ ds.take p ++ [46] ++ ds.drop p)) := Lib.hid (by have e := hst.out; rw [List.take_of_length_le (l := ds.drop p) (by simp [HLEN.out]; try omega)] at e; exact e)
              clear hst
              go_wp2
              go_loopw [0, 261] (fun v i wr => i = .int .i64 0 ∧ Hid (St w B n xs wr v ([45] ++ ds.take p ++ [46] ++ ds.drop p)))
                (fun _ _ _ => 0)
              case atStart => exact ⟨rfl, Lib.hid (by have := HE.out; simpa using this)⟩
              case round =>
                obtain ⟨rfl, HZ⟩ := hrel
                have HF := Lib.hid (HT.out _ _ (by have e := HZ.out; simpa using e))
                clear HZ
                go_wp2
                go_ret
                exact HF.out

set_option maxRecDepth 100000 in
set_option maxHeartbeats 4000000 in
theorem fmt_C_plus (B n u g : Nat) (dp : Int) (sv : Value) (xs : List Value) (w : World) (hown : w.ownsRow B 5 1 sv n xs) (hB : B ≤ w.heap.size) (hn : n ≤ 100000000) (hD : Digs w g (decDigits u)) (h17 : nDigits u ≤ 17) (h0 : dp ≤ 0) (hdp : -400 ≤ dp) :
    Calls Tryz.prog 63 #[sv, .bool false, .slice (some ⟨g, 0, none⟩) 32 32, .int .i64 dp, .int .i64 (nDigits u), .int .i64 ((nDigits u : Int) - dp), .int .u8 102, .bool true] w (App B n xs ([] ++ Fl.txt u dp) w) := by
  have hlen := Lib.decDigits_length u
  have hn1 := Lib.nDigits_pos u
  have HS0 := Lib.hid (St.start hown hB)
  have HD := Lib.hid hD
  have HT : Hid (∀ v' w', St w B n xs w' v' ([] ++ (48 :: 46 :: (List.replicate (-dp).toNat 48 ++ decDigits u))) → App B n xs ([] ++ Fl.txt u dp) w (.returned v') w') := Lib.hid (fun v' w' h => ⟨v', rfl, by
    have e : Fl.txt u dp = (48 :: 46 :: (List.replicate (-dp).toNat 48 ++ decDigits u)) := by
      unfold Fl.txt
      rw [if_neg (by omega)]
    rw [e]; exact h⟩)
  obtain ⟨ds, hds⟩ : ∃ ds, ds = decDigits u := ⟨_, rfl⟩
  rw [← hds] at hlen HD HT
  obtain ⟨nu, hnu⟩ : ∃ nu, nu = nDigits u := ⟨_, rfl⟩
  rw [← hnu] at hlen hn1 h17  ⊢
  have HLEN := Lib.hid hlen
  clear hown hB hD hds hnu hlen
  obtain ⟨q, hq0⟩ : ∃ q : Nat, (-dp).toNat = q := ⟨_, rfl⟩
  have hq : q ≤ 400 := by omega
  rw [hq0] at HT
  obtain ⟨pr, hpr⟩ : ∃ pr : Nat, (pr : Int) = (nu : Int) + q := ⟨nu + q, by omega⟩
  have e1 : (nu : Int) - dp = pr := by omega
  rw [e1]
  have hng : -dp = (q : Int) := by omega
  have hng2 : dp + (q : Int) = 0 := by omega
  have hmax : max (0 : Int) (q : Int) = q := by omega
  have hmin : min (pr : Int) (q : Int) = q := by omega
  have e2 : (pr : Int) - q = nu := by omega
  have hmax2 : max (0 : Int) (nu : Int) = nu := by omega
  have hpr0 : 0 < pr := by omega
  have hdecr : decide (0 < pr) = true := decide_eq_true hpr0
  have hpr1 : pr ≤ 500 := by omega
  clear hpr e1 hq0
  go_enter Tryz.func63, Tryz.ntmps63
  go_wp2_with (at_builtin; refine wpList_app1 rfl _ _ rfl HS0.out 48 rfl rfl rfl (by simp; omega) ?_)
  intro v60 w60 hst
  have HS60 := Lib.hid hst
  clear hst HS0
  go_wp2_with (at_builtin; refine wpList_app1 rfl _ _ rfl HS60.out 46 rfl rfl rfl (by simp; omega) ?_)
  intro v61 w61 hst
  have HS61 := Lib.hid hst
  clear hst HS60
  go_wp2
  go_loopw [0, 240] (fun v i wr => ∃ j : Nat, j ≤ q ∧ i = .int .i64 j ∧ Hid (St w B n xs wr v ([] ++ [48, 46] ++ List.replicate j 48)))
    (fun _ i _ => q - (intOf i).toNat)
  case atStart => exact ⟨0, by omega, rfl, Lib.hid (by have := HS61.out; simpa using this)⟩
  case round =>
    obtain ⟨j, hj, rfl, hst⟩ := hrel
    by_cases hjn : j < q
    · go_wp2_with (at_builtin; refine wpList_app1 rfl _ _ rfl hst.out 48 rfl rfl rfl (by simp; omega) ?_)
      intro v92 w92 hst1
      have HN : Hid (St w B n xs w92 v92 ([] ++ [48, 46] ++ List.replicate (j + 1) 48)) := Lib.hid (by have e := hst1; simpa [List.replicate_succ'] using e)
      clear hst1 hst
      go_wp2
      go_roundw
      case rel => exact ⟨j + 1, by omega, by go_num, HN.out⟩
      case measure => simp [intOf]; omega
    · obtain rfl : q = j := by omega
      have HE2 : Hid (St w B n xs wr u0 ([] ++ [48, 46] ++ List.replicate (q) 48)) := hst
      clear hst
      go_wp2
      go_loopw [0, 247] (fun v i wr => ∃ k : Nat, k ≤ nu ∧ i = .int .i64 k ∧ Hid (St w B n xs wr v ([] ++ [48, 46] ++ List.replicate q 48 ++ (ds).take k)))
        (fun _ i _ => nu - (intOf i).toNat)
      case atStart => exact ⟨0, by omega, rfl, Lib.hid (by have := HE2.out; simpa using this)⟩
      case round =>
        obtain ⟨k, hk, rfl, hst⟩ := hrel
        by_cases hkn : k < nu
        · obtain ⟨b, z, hbz, hcell, _, hget⟩ := (hst.out.digs HD.out).at_ (k) (by rw [HLEN.out]; omega)
          have HT1 : Hid ((ds).take (k + 1) = (ds).take k ++ [b]) := Lib.hid (by rw [List.take_add_one]; simp [hget])
          have HBZ := Lib.hid hbz
          have hlk : ([] ++ [48, 46] ++ List.replicate q 48 ++ (ds).take k).length ≤ 600 := by simp; omega
          clear hbz hget
          go_wp2_with (at_builtin; refine wpList_app1 rfl _ _ rfl hst.out b HBZ.out rfl rfl (by omega) ?_)
          intro v91 w91 hst1
          have HN : Hid (St w B n xs w91 v91 ([] ++ [48, 46] ++ List.replicate q 48 ++ (ds).take (k + 1))) := Lib.hid (by have e := hst1; simpa [HT1.out] using e)
          clear hst1 hst
          go_wp2
          go_roundw
          case rel => exact ⟨k + 1, by omega, by go_num, HN.out⟩
          case measure => simp [intOf]; omega
        · obtain rfl : nu = k := by omega
          have HE : Hid (St w B n xs wr u0 ([] ++ [48, 46] ++ List.replicate q 48 ++ ds)) := Lib.hid (by have e := hst.out; rw [List.take_of_length_le (l := ds) (by simp [HLEN.out]; try omega)] at e; exact e)
          clear hst
          go_wp2
          go_loopw [0, 261] (fun v i wr => i = .int .i64 0 ∧ Hid (St w B n xs wr v ([] ++ [48, 46] ++ List.replicate q 48 ++ ds)))
            (fun _ _ _ => 0)
          case atStart => exact ⟨rfl, Lib.hid (by have := HE.out; simpa using this)⟩
          case round =>
            obtain ⟨rfl, HZ⟩ := hrel
            have HF := Lib.hid (HT.out _ _ (by have e := HZ.out; simpa using e))
            clear HZ
            go_wp2
            go_ret
            exact HF.out

set_option maxRecDepth 100000 in
set_option maxHeartbeats 4000000 in
theorem fmt_C_minus (B n u g : Nat) (dp : Int) (sv : Value) (xs : List Value) (w : World) (hown : w.ownsRow B 5 1 sv n xs) (hB : B ≤ w.heap.size) (hn : n ≤ 100000000) (hD : Digs w g (decDigits u)) (h17 : nDigits u ≤ 17) (h0 : dp ≤ 0) (hdp : -400 ≤ dp) :
    Calls Tryz.prog 63 #[sv, .bool true, .slice (some ⟨g, 0, none⟩) 32 32, .int .i64 dp, .int .i64 (nDigits u), .int .i64 ((nDigits u : Int) - dp), .int .u8 102, .bool true] w (App B n xs ([45] ++ Fl.txt u dp) w) := by
  have hlen := Lib.decDigits_length u
  have hn1 := Lib.nDigits_pos u
  have HS0 := Lib.hid (St.start hown hB)
  have HD := Lib.hid hD
  have HT : Hid (∀ v' w', St w B n xs w' v' ([45] ++ (48 :: 46 :: (List.replicate (-dp).toNat 48 ++ decDigits u))) → App B n xs ([45] ++ Fl.txt u dp) w (.returned v') w') := Lib.hid (fun v' w' h => ⟨v', rfl, by
    have e : Fl.txt u dp = (48 :: 46 :: (List.replicate (-dp).toNat 48 ++ decDigits u)) := by
      unfold Fl.txt
      rw [if_neg (by omega)]
    rw [e]; exact h⟩)
  obtain ⟨ds, hds⟩ : ∃ ds, ds = decDigits u := ⟨_, rfl⟩
  rw [← hds] at hlen HD HT
  obtain ⟨nu, hnu⟩ : ∃ nu, nu = nDigits u := ⟨_, rfl⟩
  rw [← hnu] at hlen hn1 h17  ⊢
  have HLEN := Lib.hid hlen
  clear hown hB hD hds hnu hlen
  obtain ⟨q, hq0⟩ : ∃ q : Nat, (-dp).toNat = q := ⟨_, rfl⟩
  have hq : q ≤ 400 := by omega
  rw [hq0] at HT
  obtain ⟨pr, hpr⟩ : ∃ pr : Nat, (pr : Int) = (nu : Int) + q := ⟨nu + q, by omega⟩
  have e1 : (nu : Int) - dp = pr := by omega
  rw [e1]
  have hng : -dp = (q : Int) := by omega
  have hng2 : dp + (q : Int) = 0 := by omega
  have hmax : max (0 : Int) (q : Int) = q := by omega
  have hmin : min (pr : Int) (q : Int) = q := by omega
  have e2 : (pr : Int) - q = nu := by omega
  have hmax2 : max (0 : Int) (nu : Int) = nu := by omega
  have hpr0 : 0 < pr := by omega
  have hdecr : decide (0 < pr) = true := decide_eq_true hpr0
  have hpr1 : pr ≤ 500 := by omega
  clear hpr e1 hq0
  go_enter Tryz.func63, Tryz.ntmps63
  go_wp2_with (at_builtin; refine wpList_app1 rfl _ _ rfl HS0.out 45 rfl rfl rfl (by simp; omega) ?_)
  intro v0 w0 hst
  have HS1 := Lib.hid hst
  clear hst HS0
  go_wp2_with (at_builtin; refine wpList_app1 rfl _ _ rfl HS1.out 48 rfl rfl rfl (by simp; omega) ?_)
  intro v60 w60 hst
  have HS60 := Lib.hid hst
  clear hst HS1
  go_wp2_with (at_builtin; refine wpList_app1 rfl _ _ rfl HS60.out 46 rfl rfl rfl (by simp; omega) ?_)
  intro v61 w61 hst
  have HS61 := Lib.hid hst
  clear hst HS60
  go_wp2
  go_loopw [0, 240] (fun v i wr => ∃ j : Nat, j ≤ q ∧ i = .int .i64 j ∧ Hid (St w B n xs wr v ([45] ++ [48, 46] ++ List.replicate j 48)))
    (fun _ i _ => q - (intOf i).toNat)
  case atStart => exact ⟨0, by omega, rfl, Lib.hid (by have := HS61.out; simpa using this)⟩
  case round =>
    obtain ⟨j, hj, rfl, hst⟩ := hrel
    by_cases hjn : j < q
    · go_wp2_with (at_builtin; refine wpList_app1 rfl _ _ rfl hst.out 48 rfl rfl rfl (by simp; omega) ?_)
      intro v92 w92 hst1
      have HN : Hid (St w B n xs w92 v92 ([45] ++ [48, 46] ++ List.replicate (j + 1) 48)) := Lib.hid (by have e := hst1; simpa [List.replicate_succ'] using e)
      clear hst1 hst
      go_wp2
      go_roundw
      case rel => exact ⟨j + 1, by omega, by go_num, HN.out⟩
      case measure => simp [intOf]; omega
    · obtain rfl : q = j := by omega
      have HE2 : Hid (St w B n xs wr u0 ([45] ++ [48, 46] ++ List.replicate (q) 48)) := hst
      clear hst
      go_wp2
      go_loopw [0, 247] (fun v i wr => ∃ k : Nat, k ≤ nu ∧ i = .int .i64 k ∧ Hid (St w B n xs wr v ([45] ++ [48, 46] ++ List.replicate q 48 ++ (ds).take k)))
        (fun _ i _ => nu - (intOf i).toNat)
      case atStart => exact ⟨0, by omega, rfl, Lib.hid (by have := HE2.out; simpa using this)⟩
      case round =>
        obtain ⟨k, hk, rfl, hst⟩ := hrel
        by_cases hkn : k < nu
        · obtain ⟨b, z, hbz, hcell, _, hget⟩ := (hst.out.digs HD.out).at_ (k) (by rw [HLEN.out]; omega)
          have HT1 : Hid ((ds).take (k + 1) = (ds).take k ++ [b]) := Lib.hid (by rw [List.take_add_one]; simp [hget])
          have HBZ := Lib.hid hbz
          have hlk : ([45] ++ [48, 46] ++ List.replicate q 48 ++ (ds).take k).length ≤ 600 := by simp; omega
          clear hbz hget
          go_wp2_with (at_builtin; refine wpList_app1 rfl _ _ rfl hst.out b HBZ.out rfl rfl (by omega) ?_)
          intro v91 w91 hst1
          have HN : Hid (St w B n xs w91 v91 ([45] ++ [48, 46] ++ List.replicate q 48 ++ (ds).take (k + 1))) := Lib.hid (by have e := hst1; simpa [HT1.out] using e)
          clear hst1 hst
          go_wp2
          go_roundw
          case rel => exact ⟨k + 1, by omega, by go_num, HN.out⟩
          case measure => simp [intOf]; omega
        · obtain rfl : nu = k := by omega
          have HE : Hid (St w B n xs wr u0 ([45] ++ [48, 46] ++ List.replicate q 48 ++ ds)) := Lib.hid (by have e := hst.out; rw [List.take_of_length_le (l := ds) (by simp [HLEN.out]; try omega)] at e; exact e)
          clear hst
          go_wp2
          go_loopw [0, 261] (fun v i wr => i = .int .i64 0 ∧ Hid (St w B n xs wr v ([45] ++ [48, 46] ++ List.replicate q 48 ++ ds)))
            (fun _ _ _ => 0)
          case atStart => exact ⟨rfl, Lib.hid (by have := HE.out; simpa using this)⟩
          case round =>
            obtain ⟨rfl, HZ⟩ := hrel
            have HF := Lib.hid (HT.out _ _ (by have e := HZ.out; simpa using e))
            clear HZ
            go_wp2
            go_ret
            exact HF.out

end Go.Proofs.YtbbjjkcjpdmjnaaGreatDoor
