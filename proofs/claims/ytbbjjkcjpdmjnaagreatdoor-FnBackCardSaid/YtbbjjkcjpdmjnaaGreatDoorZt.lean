/- Walks of the law FnBack: texts quoted; StringArray's Value. -/
import Derived.Test.YtbbjjkcjpdmjnaaGreatDoorZq
import Derived.Maps.AppendAt
import Derived.Test.YtbbjjkcjpdmjnaaGreatDoorZp
namespace Go.Proofs.YtbbjjkcjpdmjnaaGreatDoor
open Go.RowKit

/-- Where the first quote or backslash stands. -/
def QIx (l : List UInt8) (r : Int) : Prop := (r = -1 ∧ esc l = l) ∨ ∃ p c rest, l = p ++ c :: rest ∧ (c = 34 ∨ c = 92) ∧ esc p = p ∧ r = (p.length : Int)

theorem esc_one {c : UInt8} (h1 : c ≠ 34) (h2 : c ≠ 92) : esc [c] = [c] := by simp [esc, h1, h2]
theorem esc_cons {c : UInt8} (h : c = 34 ∨ c = 92) (r : List UInt8) : esc (c :: r) = 92 :: c :: esc r := by rw [esc, if_pos h]

set_option maxRecDepth 100000 in
set_option maxHeartbeats 1000000 in
theorem index_quote (w : World) (g o n c : Nat) (l : List UInt8) (hl : n = l.length) (hn : n ≤ 1000000000) (hc : ∀ j (h : j < l.length), w.cell? ⟨g, o + j, none⟩ = some (.int .u8 (l[j].toNat : Int))) :
    Calls Tryz.prog 38 #[.slice (some ⟨g, o, none⟩) n c] w fun e w' => w' = w ∧ ∃ r, e = .returned (.int .i64 r) ∧ QIx l r := by
  have HL := Lib.hid hl
  have HC := Lib.hid hc
  have HW : Hid (esc (l.take 0) = l.take 0) := Lib.hid rfl
  clear hl hc
  go_enter Tryz.func38, Tryz.ntmps38
  go_wp2_with fail
  go_loopw [2, 3, 4, 7] (fun _ _ _ v7 wr => ∃ i : Nat, i ≤ n ∧ v7 = .int .i64 i ∧ wr = w ∧ Hid (esc (l.take i) = l.take i)) (fun _ _ _ v7 _ => n - (intOf v7).toNat)
  case atStart => exact ⟨0, by omega, rfl, rfl, HW⟩
  case round =>
    obtain ⟨i, hi, rfl, rfl, hesc⟩ := hrel
    by_cases hin : i < n
    · have hil : i < l.length := by rw [← HL.out]; exact hin
      obtain ⟨z, hz⟩ : ∃ z : Int, (l[i].toNat : Int) = z := ⟨_, rfl⟩
      have hci := HC.out i hil
      rw [hz] at hci
      have HZ := Lib.hid hz
      by_cases h34 : l[i] = 34
      · have e34 : (z == 34) = true := by
          have : z = 34 := by rw [← hz, h34]; rfl
          simp [this]
        have HF : Hid (QIx l (i : Int)) := Lib.hid (Or.inr ⟨l.take i, l[i], l.drop (i + 1), by rw [← List.drop_eq_getElem_cons hil, List.take_append_drop], Or.inl h34, hesc.out, by simp; omega⟩)
        clear hz HZ h34 hesc HW
        go_wp2_with fail
        go_ret
        exact ⟨rfl, _, rfl, HF.out⟩
      · have e34 : (z == 34) = false := by
          have : z ≠ 34 := fun h => h34 (UInt8.toNat_inj.1 (by show l[i].toNat = 34; omega))
          simpa using this
        by_cases h92 : l[i] = 92
        · have e92 : (z == 92) = true := by
            have : z = 92 := by rw [← hz, h92]; rfl
            simp [this]
          have HF : Hid (QIx l (i : Int)) := Lib.hid (Or.inr ⟨l.take i, l[i], l.drop (i + 1), by rw [← List.drop_eq_getElem_cons hil, List.take_append_drop], Or.inr h92, hesc.out, by simp; omega⟩)
          clear hz HZ h34 h92 hesc HW
          go_wp2_with fail
          go_ret
          exact ⟨rfl, _, rfl, HF.out⟩
        · have e92 : (z == 92) = false := by
            have : z ≠ 92 := fun h => h92 (UInt8.toNat_inj.1 (by show l[i].toNat = 92; omega))
            simpa using this
          have HS : Hid (esc (l.take (i + 1)) = l.take (i + 1)) := Lib.hid (by
            rw [List.take_succ_eq_append_getElem hil, esc_append, hesc.out, esc_one h34 h92])
          clear hz HZ h34 h92 hesc HW
          go_wp2_with fail
          go_roundw
          case rel => exact ⟨i + 1, by omega, by go_num, trivial, HS⟩
          case measure => simp [intOf]; omega
    · obtain rfl : i = n := by omega
      have HF : Hid (QIx l (-1)) := Lib.hid (Or.inl ⟨rfl, by
        have := hesc.out
        rwa [List.take_of_length_le (by rw [← HL.out]; exact Nat.le_refl _)] at this⟩)
      clear hesc HW
      go_wp2_with fail
      go_ret
      exact ⟨rfl, _, rfl, HF.out⟩

/-- Appended bytes, beside a row that is read. -/
structure StQ (g : Nat) (b : List UInt8) (w : World) (B n : Nat) (xs : List Value) (wr : World) (v : Value) (l : List UInt8) : Prop where
  st : St w B n xs wr v l
  apart : v.ownBlock ≠ some g
  cells : ∀ j (h : j < b.length), wr.cell? ⟨g, j, none⟩ = some (.int .u8 (b[j].toNat : Int))
  lt : g < wr.heap.size

/-- Bytes appended. -/
theorem wpList_appQ {g : Nat} {b : List UInt8} {ops : Array Oper} {rest : List Oper} {o : Oper} {a : Act} {Q : Exit → Act → World → Prop} (hgd : o.guard = none) (s x : Operand)
    (ho : o.op = .call { callee := .builtin .append, args := #[s, x], argTypes := #[50, 50] }) {w : World} {B n : Nat} {xs : List Value} {wr wx : World} {v : Value} {l : List UInt8}
    (hq : StQ g b w B n xs wr v l) (hw : wx = wr ∨ ∃ ob, wx = wr.alloc ob) (ms : List UInt8) (m : Nat) (hm : ms.length = m) (ad : Addr) (c : Nat) (hs : a.eval s = v) (hx : a.eval x = .slice (some ad) m c)
    (hnews : ∀ j (h : j < ms.length), wx.cell? (ad.add j) = some (.int .u8 (ms[j].toNat : Int))) (hn : n + l.length + m ≤ 1000000000)
    (h : ∀ v' w', StQ g b w B n xs w' v' (l ++ ms) → wpList Tryz.prog ops Q rest (a.put o.dst v') w') : wpList Tryz.prog ops Q (o :: rest) a wx := by
  subst hm
  obtain ⟨i0, hi, hz0, hz1, hz2⟩ := info_parts info5
  have hown : wx.ownsRow B 5 1 v (n + l.length) (xs ++ Lib.byteCells l) := by
    rcases hw with rfl | ⟨ob, rfl⟩
    · exact hq.st.own
    · exact hq.st.own.alloc _
  have hsz : wr.heap.size ≤ wx.heap.size := by
    rcases hw with rfl | ⟨ob, rfl⟩
    · exact Nat.le_refl _
    · simp
  have hbw : Below B w wx := by
    rcases hw with rfl | ⟨ob, rfl⟩
    · exact hq.st.below
    · exact hq.st.below.alloc hq.st.base _
  have hkw : Lib.OthersKept 5 none w wx := by
    rcases hw with rfl | ⟨ob, rfl⟩
    · exact hq.st.kept
    · exact hq.st.kept.alloc _
  have hcw : ∀ j (h : j < b.length), wx.cell? ⟨g, j, none⟩ = some (.int .u8 (b[j].toNat : Int)) := by
    rcases hw with rfl | ⟨ob, rfl⟩
    · exact hq.cells
    · intro j hj
      rw [World.cell?_alloc_lt _ _ _ hq.lt]
      exact hq.cells j hj
  refine Go.wpList_append_own_at _ hgd s x 50 ho B 5 i0 (.int .u8 0) 1 1 Tryz.underlying50 hi hz0 hz1 hz2 rfl (by decide) v _ _ hs hown ad ms.length c (Lib.byteCells ms) hx (by simp [Lib.byteCells])
    (fun j u hu => by
      simp only [Lib.byteCells, List.getElem?_map, Option.map_eq_some_iff] at hu
      obtain ⟨y, hy, rfl⟩ := hu
      obtain ⟨hj, rfl⟩ := List.getElem?_eq_some_iff.1 hy
      exact hnews j hj)
    (fun u hu => by
      simp only [Lib.byteCells, List.mem_map] at hu
      obtain ⟨y, _, rfl⟩ := hu
      rfl) (by unfold maxLen; omega) (by omega) (Nat.le_trans hq.st.base hsz) ?_
  intro v' w1 hown1 hg _ hat
  refine h v' w1 ⟨⟨?_, hbw.grown hg (Nat.le_trans hq.st.base hsz) (fun k hk => (hown.lt k hk).1), hkw.grown hg (Lib.ownsRow_kind hown), Nat.le_trans hq.st.base (Nat.le_trans hsz hg.size)⟩, ?_, fun j hj => ?_, Nat.lt_of_lt_of_le hq.lt (Nat.le_trans hsz hg.size)⟩
  · rw [List.length_append, ← Nat.add_assoc]
    unfold Lib.byteCells at hown1 ⊢
    rw [List.map_append, ← List.append_assoc]
    exact hown1
  · rcases hat with e | e
    · rw [e]; exact hq.apart
    · rw [e]
      intro he
      injection he with he
      have := hq.lt
      omega
  · rw [World.cell?_of_block (hg.block g (Nat.lt_of_lt_of_le hq.lt hsz) (fun e => hq.apart e.symm))]
    exact hcw j hj

def lenV : Value → Nat
  | .slice _ n _ => n
  | _ => 0

set_option maxRecDepth 100000 in
set_option maxHeartbeats 1000000 in
theorem quoted (g nb c : Nat) (b : List UInt8) (hnb : b.length = nb) (hbc : nb ≤ c) (hbl : nb ≤ 1000000) (B n : Nat) (xs : List Value) (v : Value) (w : World) (hst : StQ g b w B n xs w v []) (hn : n ≤ 100000000) :
    Calls Tryz.prog 24 #[v, .slice (some ⟨g, 0, none⟩) nb c] w (App B n xs (34 :: (esc b ++ [34])) w) := by
  have HB := Lib.hid hnb
  have hesc := esc_length b
  rw [hnb] at hesc
  have HST := Lib.hid hst
  clear hst hnb
  go_enter Tryz.func24, Tryz.ntmps24
  go_wp2_with (at_builtin; refine wpList_appQ rfl _ _ rfl HST.out (Or.inr ⟨_, rfl⟩) [34] 1 rfl ⟨w.heap.size, 0, none⟩ 1 rfl rfl (fun j hj => World.news_of_block (heap_alloc_new w _) j _ (by simp at hj; subst hj; rfl)) (by simp; omega) ?_)
  intro v1 w1 hq1
  have HQ1 := Lib.hid hq1
  clear hq1 HST
  go_wp2_with fail
  go_loopw [0, 1, 5] (fun v0 v1 _ wr => ∃ (i off r c' : Nat) (l : List UInt8), i + r = nb ∧ i + c' = c ∧ (off = i ∨ r = 0) ∧ v1 = .slice (some ⟨g, off, none⟩) r c' ∧ Hid (l = 34 :: esc (b.take i)) ∧ Hid (StQ g b w B n xs wr v0 l)) (fun _ v1 _ _ => lenV v1)
  case atStart => exact ⟨0, 0, nb, c, _, by omega, by omega, Or.inl rfl, rfl, Lib.hid rfl, HQ1⟩
  case round =>
    obtain ⟨i, off, r, c', l, hi, hc', hoff, rfl, hl, hq⟩ := hrel
    have hll : l.length ≤ 1 + 2 * i := by
      rw [hl.out, List.length_cons]
      have := esc_length (b.take i)
      rw [List.length_take] at this
      omega
    have hdl : (b.drop i).length = r := by rw [List.length_drop, HB.out]; omega
    have hcells : ∀ j (h : j < (b.drop i).length), wr.cell? ⟨g, off + j, none⟩ = some (.int .u8 ((b.drop i)[j].toNat : Int)) := fun j hj => by
      have ho : off = i := by omega
      subst ho
      rw [hq.out.cells (off + j) (by rw [HB.out]; omega)]
      simp [List.getElem_drop]
    have HIX := Lib.hid (index_quote wr g off r c' (b.drop i) hdl.symm (by omega) hcells)
    have HCE := Lib.hid hcells
    have HDL := Lib.hid hdl
    clear hcells hdl
    go_wp2_with fail
    refine HIX.out.mono ?_
    rintro e w2 ⟨hw2, q, rfl, hr⟩
    have hw2 := hw2.symm
    subst hw2
    rcases hr with ⟨rfl, hed⟩ | ⟨p, z, rest, hd, hz, hep, rfl⟩
    · have HED := Lib.hid hed
      clear hed
      go_wp2_with (at_builtin; refine wpList_appQ rfl _ _ rfl hq.out (Or.inl rfl) (b.drop i) r HDL.out ⟨g, off, none⟩ c' rfl rfl (fun j hj => by rw [Lib.add_plain]; exact HCE.out j hj) (by omega) ?_)
      intro v2 w3 hq2
      have HQ2 := Lib.hid hq2
      clear hq2
      have hl2 : (l ++ b.drop i).length ≤ 1 + 2 * nb := by have := HDL.out; simp only [List.length_append]; omega
      go_wp2_with (at_builtin; refine wpList_appQ rfl _ _ rfl HQ2.out (Or.inr ⟨_, rfl⟩) [34] 1 rfl ⟨w3.heap.size, 0, none⟩ 1 rfl rfl (fun j hj => World.news_of_block (heap_alloc_new w3 _) j _ (by simp at hj; subst hj; rfl)) (by omega) ?_)
      intro v3 w4 hq3
      have HF : Hid (App B n xs (34 :: (esc b ++ [34])) w (.returned v3) w4) := Lib.hid ⟨v3, rfl, by
        have h := hq3.st
        rw [hl.out] at h
        have e : (34 :: esc (b.take i)) ++ (b.drop i ++ [34]) = 34 :: (esc b ++ [34]) := by
          have h2 : esc b = esc (b.take i) ++ esc (b.drop i) := by rw [← esc_append, List.take_append_drop]
          rw [h2, HED.out]
          simp
        rw [e] at h
        exact h⟩
      clear hq3
      go_wp2_with fail
      go_ret
      exact HF.out
    · obtain ⟨k, hk⟩ : ∃ k, k = p.length := ⟨_, rfl⟩
      have hlen := congrArg List.length hd
      rw [HDL.out, List.length_append, List.length_cons, ← hk] at hlen
      have hoi : off = i := by omega
      subst hoi
      have hzc : wr.cell? ⟨g, off + k, none⟩ = some (.int .u8 (z.toNat : Int)) := by
        have h := HCE.out k (by rw [HDL.out]; omega)
        rw [h]
        congr 3
        have e : (b.drop off)[k]? = some z := by rw [hd, hk, List.getElem?_append_right (Nat.le_refl _), Nat.sub_self]; rfl
        rw [List.getElem?_eq_getElem (by rw [HDL.out]; omega)] at e
        exact congrArg UInt8.toNat (Option.some.inj e)
      have HND : Hid (34 :: esc (b.take off) ++ p ++ [92, z] = 34 :: esc (b.take (off + (k + 1)))) := Lib.hid (by
        have e : b.take (off + (k + 1)) = b.take off ++ (p ++ [z]) := by
          rw [List.take_add, hd, hk]
          congr 1
          rw [List.take_length_add_append]
          rfl
        rw [e, esc_append, esc_append, hep, esc_cons hz]
        simp [esc])
      have HPC : Hid (∀ j (h : j < p.length), wr.cell? ⟨g, off + j, none⟩ = some (.int .u8 (p[j].toNat : Int))) := Lib.hid (fun j hj => by
        have h := HCE.out j (by rw [HDL.out]; omega)
        rw [h]
        congr 3
        have e : (b.drop off)[j]? = some p[j] := by rw [hd, List.getElem?_append_left hj, List.getElem?_eq_getElem hj]
        rw [List.getElem?_eq_getElem (by rw [HDL.out]; omega)] at e
        exact congrArg UInt8.toNat (Option.some.inj e))
      have HK := Lib.hid hk
      have HHD := Lib.hid hd
      clear hd hep hz HIX
      rw [← hk]
      clear hk
      have hkr : k < r := by omega
      have hrest : r = k + (rest.length + 1) := by omega
      obtain ⟨zz, hzz⟩ : ∃ zz : Int, (z.toNat : Int) = zz := ⟨_, rfl⟩
      rw [hzz] at hzc
      have HZZ := Lib.hid hzz
      by_cases hk0 : k = 0
      · subst hk0
        have hp0 : p = [] := List.length_eq_zero_iff.1 HK.out.symm
        have hce : wr.cell? ⟨g, off, none⟩ = some (.int .u8 zz) := hzc
        have HND' : Hid (l ++ [92, z] = 34 :: esc (b.take (off + (0 + 1)))) := Lib.hid (by have := HND.out; rw [hp0, List.append_nil] at this; rw [hl.out]; exact this)
        have hnews : ∀ w' : World, ∀ T, ∀ j (h : j < [92, z].length), (w'.alloc (.cells #[.int .u8 92, .int .u8 zz] T)).cell? (Addr.add ⟨w'.heap.size, 0, none⟩ j) = some (.int .u8 ([92, z][j].toNat : Int)) := fun w' T j hj => World.news_of_block (heap_alloc_new w' _) j _ (by match j, hj with | 0, _ => rfl | 1, _ => rw [← HZZ.out]; rfl)
        have HN := Lib.hid hnews
        clear hzc hp0 hnews hzz
        by_cases hcc : c' = 1
        · subst hcc
          go_wp2_with (at_builtin; refine wpList_appQ rfl _ _ rfl hq.out (Or.inr ⟨_, rfl⟩) [92, z] 2 rfl ⟨wr.heap.size, 0, none⟩ 2 rfl rfl (HN.out _ _) (by omega) ?_)
          intro v4 w4 hq4
          rw [HND'.out] at hq4
          have HQ4 := Lib.hid hq4
          clear hq4
          go_wp2_with fail
          go_roundw
          case rel => exact ⟨off + (0 + 1), _, _, _, _, by omega, by omega, by omega, rfl, Lib.hid rfl, HQ4⟩
          case measure => simp [lenV]; omega
        · go_wp2_with (at_builtin; refine wpList_appQ rfl _ _ rfl hq.out (Or.inr ⟨_, rfl⟩) [92, z] 2 rfl ⟨wr.heap.size, 0, none⟩ 2 rfl rfl (HN.out _ _) (by omega) ?_)
          intro v4 w4 hq4
          rw [HND'.out] at hq4
          have HQ4 := Lib.hid hq4
          clear hq4
          go_wp2_with fail
          go_roundw
          case rel => exact ⟨off + (0 + 1), _, _, _, _, by omega, by omega, by omega, rfl, Lib.hid rfl, HQ4⟩
          case measure => simp [lenV]; omega
      · have hk1 : decide (0 < k) = true := decide_eq_true (by omega)
        have HND' : Hid (l ++ (p ++ [92, z]) = 34 :: esc (b.take (off + (k + 1)))) := Lib.hid (by rw [hl.out, ← List.append_assoc]; exact HND.out)
        have hnews : ∀ w' : World, ∀ T, ∀ j (h : j < [92, z].length), (w'.alloc (.cells #[.int .u8 92, .int .u8 zz] T)).cell? (Addr.add ⟨w'.heap.size, 0, none⟩ j) = some (.int .u8 ([92, z][j].toNat : Int)) := fun w' T j hj => World.news_of_block (heap_alloc_new w' _) j _ (by match j, hj with | 0, _ => rfl | 1, _ => rw [← HZZ.out]; rfl)
        have HN := Lib.hid hnews
        have hl2 : (l ++ p).length ≤ 1 + 2 * nb := by have := HK.out; simp only [List.length_append]; omega
        have HZC := Lib.hid hzc
        have hcell3 : ∀ (v' : Value) (w' : World), StQ g b w B n xs w' v' (l ++ p) → w'.cell? ⟨g, off + k, none⟩ = some (.int .u8 zz) := fun v' w' h => by
          have h1 := h.cells (off + k) (by rw [HB.out]; omega)
          have h2 := hq.out.cells (off + k) (by rw [HB.out]; omega)
          rw [h1, ← h2]
          exact HZC.out
        have HC3 := Lib.hid hcell3
        clear hzc hnews hcell3 hzz
        by_cases hcc : c' = k + 1
        · go_wp2_with (at_builtin; refine wpList_appQ rfl _ _ rfl hq.out (Or.inl rfl) p k HK.out.symm ⟨g, off, none⟩ _ rfl rfl (fun j hj => by rw [Lib.add_plain]; exact HPC.out j hj) (by omega) ?_)
          intro v3 w3 hq3
          have hc3 := HC3.out _ _ hq3
          have HQ3 := Lib.hid hq3
          clear hq3
          go_wp2_with (at_builtin; refine wpList_appQ rfl _ _ rfl HQ3.out (Or.inr ⟨_, rfl⟩) [92, z] 2 rfl ⟨w3.heap.size, 0, none⟩ 2 rfl rfl (HN.out _ _) (by omega) ?_)
          intro v4 w4 hq4
          rw [HND'.out] at hq4
          have HQ4 := Lib.hid hq4
          clear hq4
          go_wp2_with fail
          go_roundw
          case rel => exact ⟨off + (k + 1), _, _, _, _, by omega, by omega, by omega, rfl, Lib.hid rfl, HQ4⟩
          case measure => simp [lenV]; omega
        · go_wp2_with (at_builtin; refine wpList_appQ rfl _ _ rfl hq.out (Or.inl rfl) p k HK.out.symm ⟨g, off, none⟩ _ rfl rfl (fun j hj => by rw [Lib.add_plain]; exact HPC.out j hj) (by omega) ?_)
          intro v3 w3 hq3
          have hc3 := HC3.out _ _ hq3
          have HQ3 := Lib.hid hq3
          clear hq3
          go_wp2_with (at_builtin; refine wpList_appQ rfl _ _ rfl HQ3.out (Or.inr ⟨_, rfl⟩) [92, z] 2 rfl ⟨w3.heap.size, 0, none⟩ 2 rfl rfl (HN.out _ _) (by omega) ?_)
          intro v4 w4 hq4
          rw [HND'.out] at hq4
          have HQ4 := Lib.hid hq4
          clear hq4
          go_wp2_with fail
          go_roundw
          case rel => exact ⟨off + (k + 1), _, _, _, _, by omega, by omega, by omega, rfl, Lib.hid rfl, HQ4⟩
          case measure => simp [lenV]; omega

end Go.Proofs.YtbbjjkcjpdmjnaaGreatDoor

/- Walks of the law FnBack: StringArray's Value. -/
namespace Go.Proofs.YtbbjjkcjpdmjnaaGreatDoor
open Go.RowKit

theorem ownsRow_same {w w' : World} {B e n size : Nat} {v : Value} {xs : List Value} (h : w.ownsRow B e size v n xs) (hb : Below w.heap.size w w') : w'.ownsRow B e size v n xs := by
  refine ⟨h.1, ?_⟩
  rcases h.2 with h2 | ⟨g, cap, cur, h1, h2, h3, h4⟩
  · exact Or.inl h2
  · exact Or.inr ⟨g, cap, cur, h1, h2, (hb.block g (heap_lt h3)).trans h3, h4⟩
theorem othersKept_below {e : TypeId} {w w1 w2 : World} (h : Lib.OthersKept e none w w1) (hb : Below w1.heap.size w1 w2) : Lib.OthersKept e none w w2 := fun k o hk hn hne => by
  have h1 := h k o hk hn hne
  exact (hb.block k (by
    rcases Nat.lt_or_ge k w1.heap.size with h' | h'
    · exact h'
    · rw [Array.getElem?_eq_none h'] at h1; cases h1)).trans h1
theorem St.same {W : World} {B n : Nat} {xs : List Value} {wr w' : World} {v : Value} {l : List UInt8} (h : St W B n xs wr v l) (hb : Below wr.heap.size wr w') : St W B n xs w' v l :=
  ⟨ownsRow_same h.own hb, h.below.trans (hb.mono h.base), othersKept_below h.kept hb, Nat.le_trans h.base hb.size⟩

set_option maxRecDepth 100000 in
set_option maxHeartbeats 1000000 in
theorem value_string (W : World) (ga n c : Nat) (ns : List (List UInt8)) (T : Nat → List UInt8 → Prop) (hn : ns.length = n) (hk : n ≤ 1000) (hcells : ∀ (j : Nat) x, ns[j]? = some x → W.cell? ⟨ga, j, none⟩ = some (.string ⟨x.toArray⟩)) (hT : ∀ (j : Nat) x, ns[j]? = some x → T j (34 :: (esc x ++ [34]))) (hbd : ∀ x ∈ ns, x.length ≤ 400)
    (hTl : ∀ j t, T j t → t.length ≤ 1000) :
    Calls Tryz.prog 15 #[.slice (some ⟨ga, 0, none⟩) n c] W (VDone T n W) := by
  have hnil := fun W1 : World => Lib.run_eql_slice_nil (P := Tryz.prog) W1 47 9 (some ⟨ga, 0, none⟩) n c 0 0 Tryz.underlying47
  have HCELLS := Lib.hid hcells
  have HN := Lib.hid hn
  have HTL := Lib.hid hTl
  have HT := Lib.hid hT
  have HBD := Lib.hid hbd
  clear hcells hn hTl hT hbd
  by_cases h0 : n = 0
  · subst h0
    have HF : Hid (VDone T 0 W (.returned (.tuple #[.iface 9 (.string ⟨#[123, 125]⟩), .nilIface])) W) := Lib.hid ⟨[], rfl, fun j t h => by simp at h, rfl, Below.refl _ _⟩
    go_enter Tryz.func15, Tryz.ntmps15
    go_wp2_with fail
    go_ret2
    exact HF.out
  · have hn1 : 1 ≤ n := by omega
    have hdn : decide (0 < n) = true := decide_eq_true (by omega)
    obtain ⟨cv, hcv⟩ : ∃ cv : Nat, cv = 1 + 3 * n := ⟨_, rfl⟩
    have hcap : (1 : Int) + 3 * (n : Int) = (cv : Int) := by omega
    have hcv1 : 1 ≤ cv := by omega
    have hcv2 : cv ≤ 4000 := by omega
    have hmk : ∀ w : World, (Instr.makeSlice 50 (.int .i64 1) (.int .i64 (cv : Int))).run Tryz.prog w = .ok (.slice (some ⟨w.heap.size, 0, none⟩) 1 cv) (w.alloc (.cells (madeCells #[.int .u8 0] cv) 5)) := fun w => make50 1 cv (by omega) (by omega) w
    have hST := st_brace W cv (by omega) (by omega)
    have hm0 : (madeCells #[Value.int .u8 0] cv)[0]? = some (.int .u8 0) := by
      rw [Array.getElem?_eq_getElem (by simp [madeCells]; omega)]
      simp [madeCells]
    generalize madeCells #[Value.int .u8 0] cv = mc at hmk hST hm0
    have HVS := fun t (h : T 0 t) => Lib.hid (VR.start h)
    have HVS' := Lib.hid HVS
    clear HVS
    clear hcv
    obtain ⟨x0, hx0⟩ : ∃ x0, ns[0]? = some x0 := ⟨_, List.getElem?_eq_getElem (by rw [HN.out]; omega)⟩
    have hc0 := HCELLS.out 0 x0 hx0
    have HX0 := Lib.hid hx0
    have HST := Lib.hid hST
    have hga : ga < W.heap.size := Lib.lt_of_cell hc0
    clear h0 hST hx0
    have hcvt : ∀ (s : ByteArray) (w : World), (convert 9 50 (.string s)).run Tryz.prog w = .ok (.slice (some ⟨w.heap.size, 0, none⟩) s.size (grownCap w s.size 0 5)) (Lib.bytesWorld w 5 s) := fun s w => Lib.run_convert_string_bytes (P := Tryz.prog) w 9 50 5 s Tryz.underlying9 Tryz.underlying50 Tryz.underlying5
    have HCALL : Hid (∀ wr v l, St W W.heap.size 0 [] wr v l → l.length ≤ 10000000 → ∀ (j : Nat) x, ns[j]? = some x → Calls Tryz.prog 24 #[v, .slice (some ⟨wr.heap.size, 0, none⟩) (⟨x.toArray⟩ : ByteArray).size (grownCap wr (⟨x.toArray⟩ : ByteArray).size 0 5)] (Lib.bytesWorld wr 5 ⟨x.toArray⟩) fun e w' => ∃ v' t, e = .returned v' ∧ T j t ∧ St W W.heap.size 0 [] w' v' (l ++ t)) := Lib.hid (fun wr v l hst hl j x hx => by
      have hsz : (⟨x.toArray⟩ : ByteArray).size = x.length := by simp [ByteArray.size]
      have hel := elem_bytesWorld wr x
      have hst2 := hst.same (Lib.bytesWorld_below wr 5 ⟨x.toArray⟩)
      have hbx := HBD.out x (List.mem_of_getElem? hx)
      rw [hsz]
      have hs0 := St.start hst2.own hst2.base
      refine (quoted wr.heap.size x.length _ x rfl (grownCap_ge _ _ _ _) (by omega) W.heap.size (0 + l.length) ([] ++ Lib.byteCells l) v _ ⟨hs0, ?_, ?_, ?_⟩ (by omega)).mono ?_
      · intro h
        have := (hst.own.lt _ h).2
        omega
      · intro j hj
        have := hel.cell.2.2 j hj
        rwa [Nat.zero_add] at this
      · rw [Lib.bytesWorld_size]; omega
      · rintro e w' ⟨v', rfl, hs2⟩
        exact ⟨v', _, rfl, HT.out j x hx, hst2.app hs2⟩)
    have hsz1 : (W.alloc (.cells (mc.setIfInBounds 0 (.int .u8 123)) 5)).heap.size = W.heap.size + 1 := by simp
    have HC0 := HCALL.out _ _ _ HST.out (by decide) 0 x0 HX0.out
    rw [hsz1] at HC0
    have HC0 := Lib.hid HC0
    generalize (⟨x0.toArray⟩ : ByteArray) = b0 at hc0 HC0
    go_enter Tryz.func15, Tryz.ntmps15
    go_wp2_with fail
    refine HC0.out.mono ?_
    rintro e w1 ⟨v1, t1, rfl, ht1, hst1⟩
    have HS1 := Lib.hid hst1
    have HV1 := HVS'.out t1 ht1
    have hl1 : ([123] ++ t1).length ≤ 1002 * 1 := by have := HTL.out 0 t1 ht1; simp; omega
    clear ht1 hst1 HVS' hmk hm0
    go_wp2_with fail
    go_loopw [5, 6] (fun v5 v6 wr => ∃ (i : Nat) (l : List UInt8), 1 ≤ i ∧ i ≤ n ∧ v6 = .int .i64 i ∧ l.length ≤ 1002 * i ∧ Hid (VR T i l) ∧ Hid (St W W.heap.size 0 [] wr v5 l)) (fun _ v6 _ => n - (intOf v6).toNat)
    case atStart => exact ⟨1, _, by omega, hn1, rfl, hl1, HV1, HS1⟩
    case round =>
      obtain ⟨i, l, hi0, hi1, rfl, hll, hvr, hst⟩ := hrel
      by_cases hin : i < n
      · obtain ⟨x, hx⟩ : ∃ x, ns[i]? = some x := ⟨_, List.getElem?_eq_getElem (by rw [HN.out]; exact hin)⟩
        have hci := HCELLS.out i x hx
        have HX := Lib.hid hx
        have HCI := Lib.hid hci
        clear hx hci
        go_wp2_with (at_builtin; refine wpList_app1 rfl _ _ rfl hst.out 44 rfl rfl rfl (by omega) ?_)
        intro v91 w91 hst1
        have hcw : w91.cell? ⟨ga, i, none⟩ = some (.string ⟨x.toArray⟩) := (hst1.below.cell (p := ⟨ga, i, none⟩) hga).trans HCI.out
        have HC := Lib.hid (HCALL.out _ _ _ hst1 (by simp; omega) i x HX.out)
        clear HCI HX
        generalize (⟨x.toArray⟩ : ByteArray) = b1 at hcw HC
        clear hst1 hst
        go_wp2_with fail
        refine HC.out.mono ?_
        rintro e w92 ⟨v92, t2, rfl, ht2, hst2⟩
        have HS2 := Lib.hid hst2
        have HV2 := Lib.hid (hvr.out.step ht2)
        have hl2 : (l ++ [44] ++ t2).length ≤ 1002 * (i + 1) := by have := HTL.out i t2 ht2; simp; omega
        clear ht2 hst2 hvr
        go_wp2_with fail
        go_roundw
        case rel => exact ⟨i + 1, _, by omega, by omega, by go_num, hl2, HV2, HS2⟩
        case measure => simp [intOf]; omega
      · obtain rfl : i = n := by omega
        go_wp2_with (at_builtin; refine wpList_app1 rfl _ _ rfl hst.out 125 rfl rfl rfl (by omega) ?_)
        intro v91 w91 hst1
        have hstr := hst1.string (by simp)
        have HF := Lib.hid (hvr.out.done (w' := w91) hst1.below)
        generalize (⟨(l ++ [125]).toArray⟩ : ByteArray) = bs at hstr HF
        clear hst1 hst hvr
        go_wp2_with fail
        go_ret2
        exact HF.out
end Go.Proofs.YtbbjjkcjpdmjnaaGreatDoor

/- Walks of the law FnBack: BoolArray's Value. -/
namespace Go.Proofs.YtbbjjkcjpdmjnaaGreatDoor
open Go.RowKit

/-- The first cells hold these bytes. -/
def Fil (cs : Array Value) (l : List UInt8) : Prop := l.length ≤ cs.size ∧ ∀ k (h : k < l.length), cs[k]? = some (.int .u8 (l[k].toNat : Int))
theorem Fil.nil (cs : Array Value) : Fil cs [] := ⟨Nat.zero_le _, fun k h => absurd h (Nat.not_lt_zero _)⟩
theorem Fil.snoc {cs : Array Value} {l : List UInt8} (h : Fil cs l) (b : UInt8) (z : Int) (hz : (b.toNat : Int) = z) (k : Nat) (hk : k = l.length) (hs : k < cs.size) : Fil (cs.setIfInBounds k (.int .u8 z)) (l ++ [b]) := by
  subst hk hz
  refine ⟨by simp; omega, fun j hj => ?_⟩
  rw [Array.getElem?_setIfInBounds]
  by_cases he : l.length = j
  · subst he
    rw [if_pos rfl, if_pos hs]
    simp
  · rw [if_neg he]
    have hj2 : j < l.length := by simp at hj; omega
    rw [h.2 j hj2, List.getElem_append_left hj2]
theorem Fil.head {cs : Array Value} {a : UInt8} {l : List UInt8} (h : Fil cs (a :: l)) (b : UInt8) (z : Int) (hz : (b.toNat : Int) = z) : Fil (cs.setIfInBounds 0 (.int .u8 z)) (b :: l) := by
  subst hz
  have h1 := h.1
  refine ⟨by simpa using h1, fun j hj => ?_⟩
  rw [Array.getElem?_setIfInBounds]
  by_cases he : 0 = j
  · subst he
    rw [if_pos rfl, if_pos (by simp at h1; omega)]
    rfl
  · rw [if_neg he]
    have := h.2 j (by simpa using hj)
    obtain ⟨k, rfl⟩ : ∃ k, j = k + 1 := ⟨j - 1, by omega⟩
    rw [this]
    rfl
theorem Fil.string {W : World} {cs : Array Value} {l : List UInt8} (h : Fil cs l) (c : Nat) (n : Nat) (hn : n = l.length) (o : World) (ho : o = W.alloc (.cells cs 5)) : (convert 50 9 (.slice (some ⟨W.heap.size, 0, none⟩) n c)).run Tryz.prog o = .ok (.string ⟨l.toArray⟩) o := by
  subst hn ho
  exact run_convert_bytes_back _ 50 9 5 ⟨W.heap.size, 0, none⟩ c l Tryz.underlying50 Tryz.underlying5 Tryz.underlying9 (fun j hj => by
    rw [Lib.add_plain, cell_of_row _ _ _ _ _ _ (heap_alloc_new W _), Nat.zero_add]
    exact h.2 j hj)

def tf (b : Bool) : UInt8 := if b then 116 else 102
def tfs (l : List Bool) : List UInt8 := l.flatMap fun b => [44, tf b]
theorem tfs_length (l : List Bool) : (tfs l).length = 2 * l.length := by
  induction l with
  | nil => rfl
  | cons b l ih => simp only [tfs, List.flatMap_cons, List.length_append, List.length_cons] at ih ⊢; simp at ih ⊢; omega
theorem tfs_lit (b : Bool) (l : List Bool) : 123 :: (tf b :: (tfs l ++ [125])) = litTs ((b :: l).map fun b => [tf b]) := by
  simp only [List.map_cons, litTs, tfs]
  simp [List.flatMap_map]

set_option maxRecDepth 100000 in
set_option maxHeartbeats 1000000 in
theorem value_bool (W : World) (ga n c : Nat) (ns : List Bool) (T : Nat → List UInt8 → Prop) (hn : ns.length = n) (hk : n ≤ 1000) (hcells : ∀ (j : Nat) x, ns[j]? = some x → W.cell? ⟨ga, j, none⟩ = some (.bool x)) (hT : ∀ (j : Nat) x, ns[j]? = some x → T j [tf x]) :
    Calls Tryz.prog 12 #[.slice (some ⟨ga, 0, none⟩) n c] W (VDone T n W) := by
  have hnil := fun W1 : World => Lib.run_eql_slice_nil (P := Tryz.prog) W1 36 4 (some ⟨ga, 0, none⟩) n c 0 0 Tryz.underlying36
  have HCELLS := Lib.hid hcells
  have HN := Lib.hid hn
  have HT := Lib.hid hT
  clear hcells hn hT
  by_cases h0 : n = 0
  · subst h0
    have HF : Hid (VDone T 0 W (.returned (.tuple #[.iface 9 (.string ⟨#[123, 125]⟩), .nilIface])) W) := Lib.hid ⟨[], rfl, fun j t h => by simp at h, rfl, Below.refl _ _⟩
    go_enter Tryz.func12, Tryz.ntmps12
    go_wp2_with fail
    go_ret2
    exact HF.out
  · have hn1 : 1 ≤ n := by omega
    have hdn : decide (0 < n) = true := decide_eq_true (by omega)
    obtain ⟨n2, hn2⟩ : ∃ n2 : Nat, n2 = 2 * n := ⟨_, rfl⟩
    obtain ⟨cv, hcv⟩ : ∃ cv : Nat, cv = 1 + n2 := ⟨_, rfl⟩
    have hcap0 : (2 : Int) * (n : Int) = (n2 : Int) := by omega
    have hcap : (1 : Int) + (n2 : Int) = (cv : Int) := by omega
    have hcv1 : 1 ≤ cv := by omega
    have hcv2 : cv ≤ 3000 := by omega
    have hcv3 : n2 < cv := by omega
    have hmk : ∀ w : World, (Instr.makeSlice 50 (.int .i64 (cv : Int)) (.int .i64 (cv : Int))).run Tryz.prog w = .ok (.slice (some ⟨w.heap.size, 0, none⟩) cv cv) (w.alloc (.cells (madeCells #[.int .u8 0] cv) 5)) := fun w => make50 cv cv (by omega) (by omega) w
    have hms : (madeCells #[Value.int .u8 0] cv).size = cv := by simp [madeCells]
    generalize madeCells #[Value.int .u8 0] cv = mc at hmk hms
    obtain ⟨x0, hx0⟩ : ∃ x0, ns[0]? = some x0 := ⟨_, List.getElem?_eq_getElem (by rw [HN.out]; omega)⟩
    have hga : ga < W.heap.size := Lib.lt_of_cell (HCELLS.out 0 x0 hx0)
    have HMS := Lib.hid hms
    have HCV := Lib.hid hcv
    have HN2 := Lib.hid hn2
    have HF0 : Hid (Fil mc (tfs (ns.take 0))) := Lib.hid (Fil.nil _)
    clear h0 hx0 hms hcv hn2
    go_enter Tryz.func12, Tryz.ntmps12
    go_wp2_with fail
    go_loopw [6] (fun v6 wr => ∃ (i : Nat) (cs : Array Value), i ≤ n ∧ v6 = .int .i64 i ∧ wr = W.alloc (.cells cs 5) ∧ Hid (cs.size = cv) ∧ Hid (Fil cs (tfs (ns.take i)))) (fun v6 _ => n - (intOf v6).toNat)
    case atStart => exact ⟨0, mc, by omega, rfl, rfl, HMS, HF0⟩
    case round =>
      obtain ⟨i, cs, hi1, rfl, rfl, hcs, hfil⟩ := hrel
      by_cases hin : i < n
      · obtain ⟨x, hx⟩ : ∃ x, ns[i]? = some x := ⟨_, List.getElem?_eq_getElem (by rw [HN.out]; exact hin)⟩
        have hci := HCELLS.out i x hx
        have hcw : ∀ o, (W.alloc o).cell? ⟨ga, i, none⟩ = some (.bool x) := fun o => (World.cell?_alloc_lt _ _ _ hga).trans hci
        obtain ⟨i2, hi2⟩ : ∃ i2 : Nat, i2 = 2 * i := ⟨_, rfl⟩
        obtain ⟨i3, hi3⟩ : ∃ i3 : Nat, i3 = i2 + 1 := ⟨_, rfl⟩
        have e2 : (2 : Int) * (i : Int) = (i2 : Int) := by omega
        have e3 : (1 : Int) + (i2 : Int) = (i3 : Int) := by omega
        have hb2 : i2 < cv := by have := HCV.out; have := HN2.out; omega
        have hb3 : i3 < cv := by have := HCV.out; have := HN2.out; omega
        have hlen : (tfs (ns.take i)).length = i2 := by rw [tfs_length, List.length_take, HN.out]; omega
        obtain ⟨o1, ho1⟩ : ∃ o1, cs[i2]? = some o1 := ⟨_, Array.getElem?_eq_getElem (by rw [hcs.out]; omega)⟩
        have hcs1 : (cs.setIfInBounds i2 (.int .u8 44)).size = cv := by simp [hcs.out]
        have hf1 := hfil.out.snoc 44 44 rfl i2 hlen.symm (by rw [hcs.out]; exact hb2)
        obtain ⟨o2, ho2⟩ : ∃ o2, (cs.setIfInBounds i2 (.int .u8 44))[i3]? = some o2 := ⟨_, Array.getElem?_eq_getElem (by rw [hcs1]; omega)⟩
        have hf2 : ∀ z : Int, ((tf x).toNat : Int) = z → Hid (Fil ((cs.setIfInBounds i2 (.int .u8 44)).setIfInBounds i3 (.int .u8 z)) (tfs (ns.take (i + 1)))) := fun z hz => Lib.hid (by
          have h := hf1.snoc (tf x) z hz i3 (by rw [List.length_append, hlen]; exact hi3) (by rw [hcs1]; omega)
          have e : tfs (ns.take (i + 1)) = tfs (ns.take i) ++ [44] ++ [tf x] := by
            obtain ⟨hlt, he⟩ := List.getElem?_eq_some_iff.1 hx
            rw [List.take_succ_eq_append_getElem hlt, he]
            simp [tfs]
          rw [e]; exact h)
        have HF2 := Lib.hid hf2
        have HCS1 := Lib.hid hcs1
        have HCV3 : ∀ z : Value, Hid (((cs.setIfInBounds i2 (.int .u8 44)).setIfInBounds i3 z).size = cv) := fun z => Lib.hid (by simp [hcs.out])
        have HCV4 := Lib.hid HCV3
        clear hf1 hf2 hlen hi2 hi3 hx hcs1 HCV3
        cases x with
        | true =>
          have HFX := HF2.out 116 rfl
          clear HF2
          go_wp2_with fail
          go_roundw
          case rel => exact ⟨i + 1, _, by omega, by go_num, rfl, HCV4.out _, HFX⟩
          case measure => simp [intOf]; omega
        | false =>
          have HFX := HF2.out 102 rfl
          clear HF2
          go_wp2_with fail
          go_roundw
          case rel => exact ⟨i + 1, _, by omega, by go_num, rfl, HCV4.out _, HFX⟩
          case measure => simp [intOf]; omega
      · obtain rfl : i = n := by omega
        obtain ⟨y, ys, hys⟩ : ∃ y ys, ns = y :: ys := by
          cases ns with
          | nil => have := HN.out; simp at this; omega
          | cons y ys => exact ⟨y, ys, rfl⟩
        have ht : ns.take i = ns := List.take_of_length_le (by rw [HN.out]; exact Nat.le_refl _)
        have hcsz := hcs.out
        have hf := hfil.out
        rw [ht, hys] at hf
        have hlen : (tfs (y :: ys)).length = n2 := by rw [tfs_length, ← hys, HN.out, HN2.out]
        have he0 : tfs (y :: ys) = 44 :: (tf y :: tfs ys) := by simp [tfs]
        rw [he0] at hf hlen
        have hf1 := hf.head 123 123 rfl
        have hf2 := hf1.snoc 125 125 rfl n2 (by rw [← hlen]; rfl) (by simp [hcsz]; exact hcv3)
        have hlit : (123 :: (tf y :: tfs ys)) ++ [125] = litTs (ns.map fun b => [tf b]) := by
          rw [hys, ← tfs_lit]; rfl
        rw [hlit] at hf2
        have hll : (litTs (ns.map fun b => [tf b])).length = cv := by
          rw [← hlit, List.length_append]
          have := HCV.out
          simp at hlen ⊢
          omega
        obtain ⟨o1, ho0⟩ : ∃ o1, cs[0]? = some o1 := ⟨_, Array.getElem?_eq_getElem (by rw [hcsz]; omega)⟩
        obtain ⟨o2, ho2⟩ : ∃ o2, (cs.setIfInBounds 0 (.int .u8 123))[n2]? = some o2 := ⟨_, Array.getElem?_eq_getElem (by simp [hcsz]; omega)⟩
        have hstr := hf2.string (W := W) cv cv hll.symm _ rfl
        have HF : ∀ w', Below W.heap.size W w' → Hid (VDone T i W (.returned (.tuple #[.iface 9 (.string ⟨(litTs (ns.map fun b => [tf b])).toArray⟩), .nilIface])) w') := fun w' hb => Lib.hid ⟨_, by simp [HN.out], fun j t ht => by
          rw [List.getElem?_map, Option.map_eq_some_iff] at ht
          obtain ⟨x, hx, rfl⟩ := ht
          exact HT.out j x hx, rfl, hb⟩
        have HFF := Lib.hid HF
        clear hf hf1 hf2 hlit hll hlen he0 ht HF hys hfil hcs
        generalize (⟨(litTs (ns.map fun b => [tf b])).toArray⟩ : ByteArray) = bs at hstr HFF
        go_wp2_with fail
        go_ret2
        exact (HFF.out _ ((Below.refl _ _).alloc (Nat.le_refl _) _)).out
end Go.Proofs.YtbbjjkcjpdmjnaaGreatDoor
