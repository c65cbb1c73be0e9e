/- Walks of the law FnBack: Scanned. -/
import Derived.Test.YtbbjjkcjpdmjnaaGreatDoorYk
namespace Go.Proofs.YtbbjjkcjpdmjnaaGreatDoor
open Go.RowKit

theorem infoV32 : (Tryz.prog.info? 32).map (fun i => (i.zero, i.size, i.bytes)) = some (some (.agg #[.bool false, .string ⟨#[]⟩, .int .i64 0, .float .f64 0, .bool false]), 5, 48) := by kernel_rfl

theorem cells_len (x : It) : x.cells.length = 5 := rfl
theorem flat_len : ∀ its : List It, (its.flatMap It.cells).length = its.length * 5
  | [] => rfl
  | x :: r => by rw [List.flatMap_cons, List.length_append, flat_len r, cells_len, List.length_cons]; omega
theorem flat_at : ∀ (its : List It) (i : Nat) (x : It) (k : Nat) (u : Value), its[i]? = some x → x.cells[k]? = some u → (its.flatMap It.cells)[i * 5 + k]? = some u
  | [], i, x, k, u, h, _ => by simp at h
  | y :: r, 0, x, k, u, h, hk => by
    simp at h
    subst h
    have hl := (List.getElem?_eq_some_iff.1 hk).1
    rw [List.flatMap_cons, List.getElem?_append_left (by omega), Nat.zero_mul, Nat.zero_add]
    exact hk
  | y :: r, i + 1, x, k, u, h, hk => by
    rw [List.flatMap_cons, List.getElem?_append_right (by rw [cells_len]; omega), cells_len, show (i + 1) * 5 + k - 5 = i * 5 + k by omega]
    exact flat_at r i x k u (by simpa using h) hk

/-- A row of items of the call's own. -/
structure Rw5 (W : World) (wr : World) (v : Value) (its : List It) : Prop where
  own : wr.ownsRow W.heap.size 32 5 v its.length (its.flatMap It.cells)
  below : Below W.heap.size W wr
theorem Rw5.start (W : World) : Rw5 W W (.slice none 0 0) [] := ⟨World.ownsRow_nil W _ _ _, Below.refl _ _⟩
theorem Rw5.form {W wr : World} {v : Value} {its : List It} (h : Rw5 W wr v its) : ∃ A c g, v = .slice A its.length c ∧ (0 < its.length → A = some ⟨g, 0, none⟩) ∧ Its wr g 0 its := by
  rcases h.own.2 with ⟨h1, h2⟩ | ⟨g, cap, cur, h1, _⟩
  · have : its = [] := List.length_eq_zero_iff.1 h2
    subst this
    exact ⟨none, 0, 0, h1, fun h => absurd h (by simp), fun i x hx => by simp at hx⟩
  · refine ⟨_, cap, g, h1, fun _ => rfl, fun i x hx k u hu => ?_⟩
    subst h1
    have := h.own.cells (g := g) rfl _ u (flat_at its i x k u hx hu)
    rw [Lib.add_plain, Nat.zero_add] at this
    rw [Nat.zero_add]
    exact this

/-- One item appended. -/
theorem wpList_appI {ops : Array Oper} {rest : List Oper} {o : Oper} {a : Act} {Q : Exit → Act → World → Prop} (hgd : o.guard = none) (s x : Operand)
    (ho : o.op = .call { callee := .builtin .append, args := #[s, x], argTypes := #[22, 22] })
    {W wr : World} {v : Value} {its : List It} {T : TypeId} {c g : Nat} (h0 : Rw5 W wr v its) (y : It) (hs : a.eval s = v) (hx : a.eval x = .slice (some ⟨g, 0, none⟩) 1 c) (hgs : g = wr.heap.size) (hn : its.length ≤ 1000000)
    (h : ∀ v' w', Rw5 W w' v' (its ++ [y]) → wpList Tryz.prog ops Q rest (a.put o.dst v') w') : wpList Tryz.prog ops Q (o :: rest) a (wr.alloc (.cells #[.bool y.nul, .string y.text, .int .i64 y.num, .float .f64 y.real, .bool y.tru] T)) := by
  subst hgs
  obtain ⟨i0, hi, hz0, hsz, hbs⟩ := info_parts infoV32
  refine wpList_append_own _ hgd s x 22 ho W.heap.size 32 i0 _ 5 48 Tryz.underlying22 hi hz0 hsz hbs rfl (by decide) v _ _ hs (h0.own.alloc _) ⟨wr.heap.size, 0, none⟩ 1 c y.cells hx rfl
    (fun j u hu => World.news_of_block (heap_alloc_new wr _) j u hu) (fun u hu => ?_) (by unfold maxLen; omega) (by omega) (by have := h0.below.size; simp; omega) ?_
  · unfold It.cells at hu
    simp only [List.mem_cons, List.not_mem_nil, or_false] at hu
    rcases hu with rfl | rfl | rfl | rfl | rfl <;> rfl
  · intro v' w1 hown hg _
    refine h v' w1 ⟨?_, (h0.below.alloc h0.below.size _).grown hg (by have := h0.below.size; simp; omega) (fun q hq => (h0.own.lt q hq).1)⟩
    rw [List.length_append, List.flatMap_append]
    have e : List.flatMap It.cells [y] = y.cells := by simp
    rw [e]
    exact hown

/-- What Scanned answers. -/
def SRes (W : World) (its : List It) (e : Ending) (w' : World) : Prop :=
  ∃ A c g, e = .returned (.tuple #[.slice A its.length c, .bool true]) ∧ (0 < its.length → A = some ⟨g, 0, none⟩) ∧ Its w' g 0 its ∧ Below W.heap.size W w'
/-- What a Scan leaves behind its pointer. -/
def ScanP (w : World) (p : Nat) (ta te : TypeId) (vals : List Value) (e : Ending) (w' : World) : Prop :=
  e = .returned .nilIface ∧ w.grownBy w' (some p) ∧ ∃ A c, w'.heap[p]? = some (.cells #[.slice A vals.length c] ta (0, 0)) ∧ RowAt w' te A vals

set_option maxRecDepth 100000 in
set_option maxHeartbeats 2000000 in
theorem scanned_1 (W : World) (str : ByteArray) (n : Nat) (es : List (Bool)) (hn : es.length = n) (hk : n ≤ 200)
    (hS : Calls Tryz.prog 17 #[.pointer (some ⟨W.heap.size, 0, none⟩), .iface 9 (.string str)] (W.alloc (.cells #[.slice none 0 0] 36)) (ScanP (W.alloc (.cells #[.slice none 0 0] 36)) W.heap.size 36 4 (es.map fun e => Value.bool e))) :
    Calls Tryz.prog 7 #[.int .i64 1, .string str] W (SRes W (es.map mkBool)) := by
  have HN := Lib.hid hn
  have HS := Lib.hid hS
  clear hn hS
  go_enter Tryz.func7, Tryz.ntmps7
  go_wp2_with fail
  refine HS.out.mono ?_
  rintro e w1 ⟨rfl, hg, A, c, hp, hrow⟩
  obtain ⟨vals, hvals⟩ : ∃ vals, vals = (es.map fun e => Value.bool e) := ⟨_, rfl⟩
  have hvl : vals.length = n := by rw [hvals, List.length_map, HN.out]
  rw [← hvals] at hp hrow
  rw [hvl] at hp
  have HVALS := Lib.hid hvals
  have HVL := Lib.hid hvl
  clear hvals hvl
  have hbw : Below W.heap.size W w1 := ((Below.refl W.heap.size W).alloc (Nat.le_refl _) _).grown hg (by simp) (fun q hq => by injection hq with hq; omega)
  have hpc : w1.cell? ⟨W.heap.size, 0, none⟩ = some (.slice A n c) := by rw [cell_of_row _ _ _ _ _ _ hp]; rfl
  have HBW := Lib.hid hbw
  have HROW := Lib.hid hrow
  have HR0 := Lib.hid (Rw5.start w1)
  clear hg hp hrow hbw HS
  go_wp2_with fail
  go_loopw [4, 30] (fun v i_ wr => ∃ i : Nat, i ≤ n ∧ i_ = .int .i64 i ∧ Hid (Rw5 w1 wr v ((es.take i).map mkBool))) (fun _ i_ _ => n - (intOf i_).toNat)
  case atStart => exact ⟨0, by omega, rfl, HR0⟩
  case round =>
    obtain ⟨i, hi, rfl, hb⟩ := hrel
    by_cases hin : i < n
    · obtain ⟨gb, cs, hA1, hgb, hcs⟩ := HROW.out (by rw [HVL.out]; omega)
      obtain ⟨e, he⟩ : ∃ e, es[i]? = some e := ⟨_, List.getElem?_eq_getElem (by rw [HN.out]; exact hin)⟩
      have hgl : gb < w1.heap.size := heap_lt hgb
      have hci : wr.cell? ⟨gb, i, none⟩ = some (.bool e) := by
        rw [cell_of_row _ _ _ _ _ _ ((hb.out.below.block gb hgl).trans hgb)]
        exact hcs i _ (by rw [HVALS.out, List.getElem?_map, he]; rfl)
      have HX := Lib.hid he
      have HR2 := hb
      have htk : ((es.take i).map mkBool).length ≤ 1000000 := by rw [List.length_map, List.length_take]; omega
      clear he hb hgb hcs
      subst hA1
      go_wp2_with (at_builtin; refine wpList_appI rfl _ _ rfl HR2.out ⟨false, ⟨#[]⟩, 0, 0, e⟩ rfl rfl (by simp) htk ?_)
      intro v91 w91 hr91
      have HR3 : Hid (Rw5 w1 w91 v91 ((es.take (i + 1)).map mkBool)) := Lib.hid (by
        rw [List.take_add_one, HX.out, List.map_append, List.map_take]
        exact hr91)
      clear hr91 HR2
      go_wp2_with fail
      go_roundw
      case rel => exact ⟨i + 1, by omega, by go_num, HR3⟩
      case measure => simp [intOf]; omega
    · obtain rfl : n = i := by omega
      obtain ⟨A2, c2, g2, hv, hA2, hI2⟩ := hb.out.form
      have HBF : Hid (Below W.heap.size W wr) := Lib.hid (HBW.out.trans (hb.out.below.mono HBW.out.size))
      have hl2 : ((es.take n).map mkBool).length = n := by rw [List.length_map, List.length_take, HN.out, Nat.min_self]
      have htk : es.take n = es := List.take_of_length_le (by rw [HN.out]; omega)
      rw [htk] at hA2 hI2
      rw [hl2] at hv
      have hl3 : (es.map mkBool).length = n := by rw [List.length_map, HN.out]
      have HA2 := Lib.hid hA2
      have HI2 := Lib.hid hI2
      have HL3 := Lib.hid hl3
      subst hv
      clear hb hl2 hA2 hI2 hl3 htk
      go_wp2_with fail
      go_quiet (fail)
      go_wp2
      go_ret2
      refine ⟨A2, c2, g2, by rw [HL3.out]; rfl, HA2.out, HI2.out, ?_⟩
      exact below_drewN HBF.out _

end Go.Proofs.YtbbjjkcjpdmjnaaGreatDoor

/- Walks of the law FnBack: Scanned, more kinds. -/
namespace Go.Proofs.YtbbjjkcjpdmjnaaGreatDoor
open Go.RowKit

set_option maxRecDepth 100000 in
set_option maxHeartbeats 2000000 in
theorem scanned_2 (W : World) (str : ByteArray) (n : Nat) (es : List (Int)) (hn : es.length = n) (hk : n ≤ 200)
    (hS : Calls Tryz.prog 18 #[.pointer (some ⟨W.heap.size, 0, none⟩), .iface 9 (.string str)] (W.alloc (.cells #[.slice none 0 0] 43)) (ScanP (W.alloc (.cells #[.slice none 0 0] 43)) W.heap.size 43 2 (es.map fun e => Value.int .i64 e))) :
    Calls Tryz.prog 7 #[.int .i64 2, .string str] W (SRes W (es.map mkInt)) := by
  have HN := Lib.hid hn
  have HS := Lib.hid hS
  clear hn hS
  go_enter Tryz.func7, Tryz.ntmps7
  go_wp2_with fail
  refine HS.out.mono ?_
  rintro e w1 ⟨rfl, hg, A, c, hp, hrow⟩
  obtain ⟨vals, hvals⟩ : ∃ vals, vals = (es.map fun e => Value.int .i64 e) := ⟨_, rfl⟩
  have hvl : vals.length = n := by rw [hvals, List.length_map, HN.out]
  rw [← hvals] at hp hrow
  rw [hvl] at hp
  have HVALS := Lib.hid hvals
  have HVL := Lib.hid hvl
  clear hvals hvl
  have hbw : Below W.heap.size W w1 := ((Below.refl W.heap.size W).alloc (Nat.le_refl _) _).grown hg (by simp) (fun q hq => by injection hq with hq; omega)
  have hpc : w1.cell? ⟨W.heap.size, 0, none⟩ = some (.slice A n c) := by rw [cell_of_row _ _ _ _ _ _ hp]; rfl
  have HBW := Lib.hid hbw
  have HROW := Lib.hid hrow
  have HR0 := Lib.hid (Rw5.start w1)
  clear hg hp hrow hbw HS
  go_wp2_with fail
  go_loopw [4, 50] (fun v i_ wr => ∃ i : Nat, i ≤ n ∧ i_ = .int .i64 i ∧ Hid (Rw5 w1 wr v ((es.take i).map mkInt))) (fun _ i_ _ => n - (intOf i_).toNat)
  case atStart => exact ⟨0, by omega, rfl, HR0⟩
  case round =>
    obtain ⟨i, hi, rfl, hb⟩ := hrel
    by_cases hin : i < n
    · obtain ⟨gb, cs, hA1, hgb, hcs⟩ := HROW.out (by rw [HVL.out]; omega)
      obtain ⟨e, he⟩ : ∃ e, es[i]? = some e := ⟨_, List.getElem?_eq_getElem (by rw [HN.out]; exact hin)⟩
      have hgl : gb < w1.heap.size := heap_lt hgb
      have hci : wr.cell? ⟨gb, i, none⟩ = some (.int .i64 e) := by
        rw [cell_of_row _ _ _ _ _ _ ((hb.out.below.block gb hgl).trans hgb)]
        exact hcs i _ (by rw [HVALS.out, List.getElem?_map, he]; rfl)
      have HX := Lib.hid he
      have HR2 := hb
      have htk : ((es.take i).map mkInt).length ≤ 1000000 := by rw [List.length_map, List.length_take]; omega
      clear he hb hgb hcs
      subst hA1
      go_wp2_with (at_builtin; refine wpList_appI rfl _ _ rfl HR2.out ⟨false, ⟨#[]⟩, e, 0, false⟩ rfl rfl (by simp) htk ?_)
      intro v91 w91 hr91
      have HR3 : Hid (Rw5 w1 w91 v91 ((es.take (i + 1)).map mkInt)) := Lib.hid (by
        rw [List.take_add_one, HX.out, List.map_append, List.map_take]
        exact hr91)
      clear hr91 HR2
      go_wp2_with fail
      go_roundw
      case rel => exact ⟨i + 1, by omega, by go_num, HR3⟩
      case measure => simp [intOf]; omega
    · obtain rfl : n = i := by omega
      obtain ⟨A2, c2, g2, hv, hA2, hI2⟩ := hb.out.form
      have HBF : Hid (Below W.heap.size W wr) := Lib.hid (HBW.out.trans (hb.out.below.mono HBW.out.size))
      have hl2 : ((es.take n).map mkInt).length = n := by rw [List.length_map, List.length_take, HN.out, Nat.min_self]
      have htk : es.take n = es := List.take_of_length_le (by rw [HN.out]; omega)
      rw [htk] at hA2 hI2
      rw [hl2] at hv
      have hl3 : (es.map mkInt).length = n := by rw [List.length_map, HN.out]
      have HA2 := Lib.hid hA2
      have HI2 := Lib.hid hI2
      have HL3 := Lib.hid hl3
      subst hv
      clear hb hl2 hA2 hI2 hl3 htk
      go_wp2_with fail
      go_quiet (fail)
      go_wp2
      go_ret2
      refine ⟨A2, c2, g2, by rw [HL3.out]; rfl, HA2.out, HI2.out, ?_⟩
      exact below_drewN HBF.out _

set_option maxRecDepth 100000 in
set_option maxHeartbeats 2000000 in
theorem scanned_3 (W : World) (str : ByteArray) (n : Nat) (es : List (Bool × Nat)) (hn : es.length = n) (hk : n ≤ 200)
    (hS : Calls Tryz.prog 19 #[.pointer (some ⟨W.heap.size, 0, none⟩), .iface 9 (.string str)] (W.alloc (.cells #[.slice none 0 0] 45)) (ScanP (W.alloc (.cells #[.slice none 0 0] 45)) W.heap.size 45 30 (es.map fun e => Value.float .f64 (Ieee.double.word e.1 e.2)))) :
    Calls Tryz.prog 7 #[.int .i64 3, .string str] W (SRes W (es.map mkReal)) := by
  have HN := Lib.hid hn
  have HS := Lib.hid hS
  clear hn hS
  go_enter Tryz.func7, Tryz.ntmps7
  go_wp2_with fail
  refine HS.out.mono ?_
  rintro e w1 ⟨rfl, hg, A, c, hp, hrow⟩
  obtain ⟨vals, hvals⟩ : ∃ vals, vals = (es.map fun e => Value.float .f64 (Ieee.double.word e.1 e.2)) := ⟨_, rfl⟩
  have hvl : vals.length = n := by rw [hvals, List.length_map, HN.out]
  rw [← hvals] at hp hrow
  rw [hvl] at hp
  have HVALS := Lib.hid hvals
  have HVL := Lib.hid hvl
  clear hvals hvl
  have hbw : Below W.heap.size W w1 := ((Below.refl W.heap.size W).alloc (Nat.le_refl _) _).grown hg (by simp) (fun q hq => by injection hq with hq; omega)
  have hpc : w1.cell? ⟨W.heap.size, 0, none⟩ = some (.slice A n c) := by rw [cell_of_row _ _ _ _ _ _ hp]; rfl
  have HBW := Lib.hid hbw
  have HROW := Lib.hid hrow
  have HR0 := Lib.hid (Rw5.start w1)
  clear hg hp hrow hbw HS
  go_wp2_with fail
  go_loopw [4, 70] (fun v i_ wr => ∃ i : Nat, i ≤ n ∧ i_ = .int .i64 i ∧ Hid (Rw5 w1 wr v ((es.take i).map mkReal))) (fun _ i_ _ => n - (intOf i_).toNat)
  case atStart => exact ⟨0, by omega, rfl, HR0⟩
  case round =>
    obtain ⟨i, hi, rfl, hb⟩ := hrel
    by_cases hin : i < n
    · obtain ⟨gb, cs, hA1, hgb, hcs⟩ := HROW.out (by rw [HVL.out]; omega)
      obtain ⟨e, he⟩ : ∃ e, es[i]? = some e := ⟨_, List.getElem?_eq_getElem (by rw [HN.out]; exact hin)⟩
      have hgl : gb < w1.heap.size := heap_lt hgb
      have hci : wr.cell? ⟨gb, i, none⟩ = some (.float .f64 (Ieee.double.word e.1 e.2)) := by
        rw [cell_of_row _ _ _ _ _ _ ((hb.out.below.block gb hgl).trans hgb)]
        exact hcs i _ (by rw [HVALS.out, List.getElem?_map, he]; rfl)
      have HX := Lib.hid he
      have HR2 := hb
      have htk : ((es.take i).map mkReal).length ≤ 1000000 := by rw [List.length_map, List.length_take]; omega
      clear he hb hgb hcs
      subst hA1
      go_wp2_with (at_builtin; refine wpList_appI rfl _ _ rfl HR2.out ⟨false, ⟨#[]⟩, 0, Ieee.double.word e.1 e.2, false⟩ rfl rfl (by simp) htk ?_)
      intro v91 w91 hr91
      have HR3 : Hid (Rw5 w1 w91 v91 ((es.take (i + 1)).map mkReal)) := Lib.hid (by
        rw [List.take_add_one, HX.out, List.map_append, List.map_take]
        exact hr91)
      clear hr91 HR2
      go_wp2_with fail
      go_roundw
      case rel => exact ⟨i + 1, by omega, by go_num, HR3⟩
      case measure => simp [intOf]; omega
    · obtain rfl : n = i := by omega
      obtain ⟨A2, c2, g2, hv, hA2, hI2⟩ := hb.out.form
      have HBF : Hid (Below W.heap.size W wr) := Lib.hid (HBW.out.trans (hb.out.below.mono HBW.out.size))
      have hl2 : ((es.take n).map mkReal).length = n := by rw [List.length_map, List.length_take, HN.out, Nat.min_self]
      have htk : es.take n = es := List.take_of_length_le (by rw [HN.out]; omega)
      rw [htk] at hA2 hI2
      rw [hl2] at hv
      have hl3 : (es.map mkReal).length = n := by rw [List.length_map, HN.out]
      have HA2 := Lib.hid hA2
      have HI2 := Lib.hid hI2
      have HL3 := Lib.hid hl3
      subst hv
      clear hb hl2 hA2 hI2 hl3 htk
      go_wp2_with fail
      go_quiet (fail)
      go_wp2
      go_ret2
      refine ⟨A2, c2, g2, by rw [HL3.out]; rfl, HA2.out, HI2.out, ?_⟩
      exact below_drewN HBF.out _

set_option maxRecDepth 100000 in
set_option maxHeartbeats 2000000 in
theorem scanned_4 (W : World) (str : ByteArray) (n : Nat) (es : List (List UInt8)) (hn : es.length = n) (hk : n ≤ 200)
    (hS : Calls Tryz.prog 20 #[.pointer (some ⟨W.heap.size, 0, none⟩), .iface 9 (.string str)] (W.alloc (.cells #[.slice none 0 0] 47)) (ScanP (W.alloc (.cells #[.slice none 0 0] 47)) W.heap.size 47 9 (es.map fun e => Value.string ⟨e.toArray⟩))) :
    Calls Tryz.prog 7 #[.int .i64 4, .string str] W (SRes W (es.map mkText)) := by
  have HN := Lib.hid hn
  have HS := Lib.hid hS
  clear hn hS
  go_enter Tryz.func7, Tryz.ntmps7
  go_wp2_with fail
  refine HS.out.mono ?_
  rintro e w1 ⟨rfl, hg, A, c, hp, hrow⟩
  obtain ⟨vals, hvals⟩ : ∃ vals, vals = (es.map fun e => Value.string ⟨e.toArray⟩) := ⟨_, rfl⟩
  have hvl : vals.length = n := by rw [hvals, List.length_map, HN.out]
  rw [← hvals] at hp hrow
  rw [hvl] at hp
  have HVALS := Lib.hid hvals
  have HVL := Lib.hid hvl
  clear hvals hvl
  have hbw : Below W.heap.size W w1 := ((Below.refl W.heap.size W).alloc (Nat.le_refl _) _).grown hg (by simp) (fun q hq => by injection hq with hq; omega)
  have hpc : w1.cell? ⟨W.heap.size, 0, none⟩ = some (.slice A n c) := by rw [cell_of_row _ _ _ _ _ _ hp]; rfl
  have HBW := Lib.hid hbw
  have HROW := Lib.hid hrow
  have HR0 := Lib.hid (Rw5.start w1)
  clear hg hp hrow hbw HS
  go_wp2_with fail
  go_loopw [4, 90] (fun v i_ wr => ∃ i : Nat, i ≤ n ∧ i_ = .int .i64 i ∧ Hid (Rw5 w1 wr v ((es.take i).map mkText))) (fun _ i_ _ => n - (intOf i_).toNat)
  case atStart => exact ⟨0, by omega, rfl, HR0⟩
  case round =>
    obtain ⟨i, hi, rfl, hb⟩ := hrel
    by_cases hin : i < n
    · obtain ⟨gb, cs, hA1, hgb, hcs⟩ := HROW.out (by rw [HVL.out]; omega)
      obtain ⟨e, he⟩ : ∃ e, es[i]? = some e := ⟨_, List.getElem?_eq_getElem (by rw [HN.out]; exact hin)⟩
      have hgl : gb < w1.heap.size := heap_lt hgb
      have hci : wr.cell? ⟨gb, i, none⟩ = some (.string ⟨e.toArray⟩) := by
        rw [cell_of_row _ _ _ _ _ _ ((hb.out.below.block gb hgl).trans hgb)]
        exact hcs i _ (by rw [HVALS.out, List.getElem?_map, he]; rfl)
      have HX := Lib.hid he
      have HR2 := hb
      have htk : ((es.take i).map mkText).length ≤ 1000000 := by rw [List.length_map, List.length_take]; omega
      clear he hb hgb hcs
      subst hA1
      go_wp2_with (at_builtin; refine wpList_appI rfl _ _ rfl HR2.out ⟨false, ⟨e.toArray⟩, 0, 0, false⟩ rfl rfl (by simp) htk ?_)
      intro v91 w91 hr91
      have HR3 : Hid (Rw5 w1 w91 v91 ((es.take (i + 1)).map mkText)) := Lib.hid (by
        rw [List.take_add_one, HX.out, List.map_append, List.map_take]
        exact hr91)
      clear hr91 HR2
      go_wp2_with fail
      go_roundw
      case rel => exact ⟨i + 1, by omega, by go_num, HR3⟩
      case measure => simp [intOf]; omega
    · obtain rfl : n = i := by omega
      obtain ⟨A2, c2, g2, hv, hA2, hI2⟩ := hb.out.form
      have HBF : Hid (Below W.heap.size W wr) := Lib.hid (HBW.out.trans (hb.out.below.mono HBW.out.size))
      have hl2 : ((es.take n).map mkText).length = n := by rw [List.length_map, List.length_take, HN.out, Nat.min_self]
      have htk : es.take n = es := List.take_of_length_le (by rw [HN.out]; omega)
      rw [htk] at hA2 hI2
      rw [hl2] at hv
      have hl3 : (es.map mkText).length = n := by rw [List.length_map, HN.out]
      have HA2 := Lib.hid hA2
      have HI2 := Lib.hid hI2
      have HL3 := Lib.hid hl3
      subst hv
      clear hb hl2 hA2 hI2 hl3 htk
      go_wp2_with fail
      go_quiet (fail)
      go_wp2
      go_ret2
      refine ⟨A2, c2, g2, by rw [HL3.out]; rfl, HA2.out, HI2.out, ?_⟩
      exact below_drewN HBF.out _

end Go.Proofs.YtbbjjkcjpdmjnaaGreatDoor

/- Walks of the law FnBack: Scanned, more kinds. -/
namespace Go.Proofs.YtbbjjkcjpdmjnaaGreatDoor
open Go.RowKit

set_option maxRecDepth 100000 in
set_option maxHeartbeats 2000000 in
theorem sother_5 (W : World) (str : ByteArray) (n : Nat) (es : List (List UInt8)) (hn : es.length = n) (hk : n ≤ 200)
    (hS : Calls Tryz.prog 33 #[.pointer (some ⟨W.heap.size, 0, none⟩), .iface 9 (.string str)] (W.alloc (.cells #[.slice none 0 0] 55)) (fun e w' => ∃ vals, vals.length = n ∧ ScanP (W.alloc (.cells #[.slice none 0 0] 55)) W.heap.size 55 50 vals e w' ∧ Elems w' vals es)) :
    Calls Tryz.prog 21 #[.int .i64 5, .string str] W (SRes W (es.map mkText)) := by
  have HN := Lib.hid hn
  have HS := Lib.hid hS
  clear hn hS
  go_enter Tryz.func21, Tryz.ntmps21
  go_wp2_with fail
  refine HS.out.mono ?_
  rintro e w1 ⟨vals, hvl, ⟨rfl, hg, A, c, hp, hrow⟩, hel⟩
  rw [hvl] at hp
  have HVL := Lib.hid hvl
  have HEL := Lib.hid hel
  clear hel hvl
  have hbw : Below W.heap.size W w1 := ((Below.refl W.heap.size W).alloc (Nat.le_refl _) _).grown hg (by simp) (fun q hq => by injection hq with hq; omega)
  have hpc : w1.cell? ⟨W.heap.size, 0, none⟩ = some (.slice A n c) := by rw [cell_of_row _ _ _ _ _ _ hp]; rfl
  have HBW := Lib.hid hbw
  have HROW := Lib.hid hrow
  have HR0 := Lib.hid (Rw5.start w1)
  clear hg hp hrow hbw HS
  go_wp2_with fail
  go_loopw [4, 26] (fun v i_ wr => ∃ i : Nat, i ≤ n ∧ i_ = .int .i64 i ∧ Hid (Rw5 w1 wr v ((es.take i).map mkText))) (fun _ i_ _ => n - (intOf i_).toNat)
  case atStart => exact ⟨0, by omega, rfl, HR0⟩
  case round =>
    obtain ⟨i, hi, rfl, hb⟩ := hrel
    by_cases hin : i < n
    · obtain ⟨gb, cs, hA1, hgb, hcs⟩ := HROW.out (by rw [HVL.out]; omega)
      obtain ⟨e, he⟩ : ∃ e, es[i]? = some e := ⟨_, List.getElem?_eq_getElem (by rw [HN.out]; exact hin)⟩
      have hgl : gb < w1.heap.size := heap_lt hgb
      obtain ⟨u, hu⟩ : ∃ u, vals[i]? = some u := ⟨_, List.getElem?_eq_getElem (by rw [HVL.out]; exact hin)⟩
      have hci : wr.cell? ⟨gb, i, none⟩ = some u := by
        rw [cell_of_row _ _ _ _ _ _ ((hb.out.below.block gb hgl).trans hgb)]
        exact hcs i u hu
      have hcv := ((HEL.out.2 i u e hu he).keep (Keeps5.below hb.out.below)).string
      obtain ⟨go_, oo_, cc_, hu2, _⟩ := (HEL.out.2 i u e hu he).form
      subst hu2
      have HX := Lib.hid he
      have HR2 := hb
      have htk : ((es.take i).map mkText).length ≤ 1000000 := by rw [List.length_map, List.length_take]; omega
      clear he hb hgb hcs
      subst hA1
      go_wp2_with (at_builtin; refine wpList_appI rfl _ _ rfl HR2.out ⟨false, ⟨e.toArray⟩, 0, 0, false⟩ rfl rfl (by simp) htk ?_)
      intro v91 w91 hr91
      have HR3 : Hid (Rw5 w1 w91 v91 ((es.take (i + 1)).map mkText)) := Lib.hid (by
        rw [List.take_add_one, HX.out, List.map_append, List.map_take]
        exact hr91)
      clear hr91 HR2
      go_wp2_with fail
      go_roundw
      case rel => exact ⟨i + 1, by omega, by go_num, HR3⟩
      case measure => simp [intOf]; omega
    · obtain rfl : n = i := by omega
      obtain ⟨A2, c2, g2, hv, hA2, hI2⟩ := hb.out.form
      have HBF : Hid (Below W.heap.size W wr) := Lib.hid (HBW.out.trans (hb.out.below.mono HBW.out.size))
      have hl2 : ((es.take n).map mkText).length = n := by rw [List.length_map, List.length_take, HN.out, Nat.min_self]
      have htk : es.take n = es := List.take_of_length_le (by rw [HN.out]; omega)
      rw [htk] at hA2 hI2
      rw [hl2] at hv
      have hl3 : (es.map mkText).length = n := by rw [List.length_map, HN.out]
      have HA2 := Lib.hid hA2
      have HI2 := Lib.hid hI2
      have HL3 := Lib.hid hl3
      subst hv
      clear hb hl2 hA2 hI2 hl3 htk
      go_wp2_with fail
      go_quiet (fail)
      go_wp2
      go_ret2
      refine ⟨A2, c2, g2, by rw [HL3.out]; rfl, HA2.out, HI2.out, ?_⟩
      exact below_drewN HBF.out _

end Go.Proofs.YtbbjjkcjpdmjnaaGreatDoor

/- Walks of the law FnBack: Scanned, more kinds. -/
namespace Go.Proofs.YtbbjjkcjpdmjnaaGreatDoor
open Go.RowKit

set_option maxRecDepth 100000 in
set_option maxHeartbeats 2000000 in
theorem sother_6 (W : World) (str : ByteArray) (n : Nat) (es : List (Int)) (hn : es.length = n) (hk : n ≤ 200) (hbd : ∀ e ∈ es, -2147483648 ≤ e ∧ e ≤ 2147483647)
    (hS : Calls Tryz.prog 34 #[.pointer (some ⟨W.heap.size, 0, none⟩), .iface 9 (.string str)] (W.alloc (.cells #[.slice none 0 0] 57)) (ScanP (W.alloc (.cells #[.slice none 0 0] 57)) W.heap.size 57 21 (es.map fun e => Value.int .i32 e))) :
    Calls Tryz.prog 21 #[.int .i64 6, .string str] W (SRes W (es.map mkInt)) := by
  have HN := Lib.hid hn
  have HS := Lib.hid hS
  have HBD := Lib.hid hbd
  clear hn hS hbd
  go_enter Tryz.func21, Tryz.ntmps21
  go_wp2_with fail
  refine HS.out.mono ?_
  rintro e w1 ⟨rfl, hg, A, c, hp, hrow⟩
  obtain ⟨vals, hvals⟩ : ∃ vals, vals = (es.map fun e => Value.int .i32 e) := ⟨_, rfl⟩
  have hvl : vals.length = n := by rw [hvals, List.length_map, HN.out]
  rw [← hvals] at hp hrow
  rw [hvl] at hp
  have HVALS := Lib.hid hvals
  have HVL := Lib.hid hvl
  clear hvals hvl
  have hbw : Below W.heap.size W w1 := ((Below.refl W.heap.size W).alloc (Nat.le_refl _) _).grown hg (by simp) (fun q hq => by injection hq with hq; omega)
  have hpc : w1.cell? ⟨W.heap.size, 0, none⟩ = some (.slice A n c) := by rw [cell_of_row _ _ _ _ _ _ hp]; rfl
  have HBW := Lib.hid hbw
  have HROW := Lib.hid hrow
  have HR0 := Lib.hid (Rw5.start w1)
  clear hg hp hrow hbw HS
  go_wp2_with fail
  go_loopw [4, 47] (fun v i_ wr => ∃ i : Nat, i ≤ n ∧ i_ = .int .i64 i ∧ Hid (Rw5 w1 wr v ((es.take i).map mkInt))) (fun _ i_ _ => n - (intOf i_).toNat)
  case atStart => exact ⟨0, by omega, rfl, HR0⟩
  case round =>
    obtain ⟨i, hi, rfl, hb⟩ := hrel
    by_cases hin : i < n
    · obtain ⟨gb, cs, hA1, hgb, hcs⟩ := HROW.out (by rw [HVL.out]; omega)
      obtain ⟨e, he⟩ : ∃ e, es[i]? = some e := ⟨_, List.getElem?_eq_getElem (by rw [HN.out]; exact hin)⟩
      have hgl : gb < w1.heap.size := heap_lt hgb
      have hci : wr.cell? ⟨gb, i, none⟩ = some (.int .i32 e) := by
        rw [cell_of_row _ _ _ _ _ _ ((hb.out.below.block gb hgl).trans hgb)]
        exact hcs i _ (by rw [HVALS.out, List.getElem?_map, he]; rfl)
      obtain ⟨hb0, hb1⟩ := HBD.out e (List.mem_of_getElem? he)
      have HX := Lib.hid he
      have HR2 := hb
      have htk : ((es.take i).map mkInt).length ≤ 1000000 := by rw [List.length_map, List.length_take]; omega
      clear he hb hgb hcs
      subst hA1
      go_wp2_with (at_builtin; refine wpList_appI rfl _ _ rfl HR2.out ⟨false, ⟨#[]⟩, e, 0, false⟩ rfl rfl (by simp) htk ?_)
      intro v91 w91 hr91
      have HR3 : Hid (Rw5 w1 w91 v91 ((es.take (i + 1)).map mkInt)) := Lib.hid (by
        rw [List.take_add_one, HX.out, List.map_append, List.map_take]
        exact hr91)
      clear hr91 HR2
      go_wp2_with fail
      go_roundw
      case rel => exact ⟨i + 1, by omega, by go_num, HR3⟩
      case measure => simp [intOf]; omega
    · obtain rfl : n = i := by omega
      obtain ⟨A2, c2, g2, hv, hA2, hI2⟩ := hb.out.form
      have HBF : Hid (Below W.heap.size W wr) := Lib.hid (HBW.out.trans (hb.out.below.mono HBW.out.size))
      have hl2 : ((es.take n).map mkInt).length = n := by rw [List.length_map, List.length_take, HN.out, Nat.min_self]
      have htk : es.take n = es := List.take_of_length_le (by rw [HN.out]; omega)
      rw [htk] at hA2 hI2
      rw [hl2] at hv
      have hl3 : (es.map mkInt).length = n := by rw [List.length_map, HN.out]
      have HA2 := Lib.hid hA2
      have HI2 := Lib.hid hI2
      have HL3 := Lib.hid hl3
      subst hv
      clear hb hl2 hA2 hI2 hl3 htk
      go_wp2_with fail
      go_quiet (fail)
      go_wp2
      go_ret2
      refine ⟨A2, c2, g2, by rw [HL3.out]; rfl, HA2.out, HI2.out, ?_⟩
      exact below_drewN HBF.out _

set_option maxRecDepth 100000 in
set_option maxHeartbeats 2000000 in
theorem sother_7 (W : World) (str : ByteArray) (n : Nat) (es : List (Bool × Nat)) (hn : es.length = n) (hk : n ≤ 200) (hbd : ∀ e ∈ es, e.2 < 2139095040)
    (hS : Calls Tryz.prog 35 #[.pointer (some ⟨W.heap.size, 0, none⟩), .iface 9 (.string str)] (W.alloc (.cells #[.slice none 0 0] 59)) (ScanP (W.alloc (.cells #[.slice none 0 0] 59)) W.heap.size 59 49 (es.map fun e => Value.float .f32 (Ieee.single.word e.1 e.2)))) :
    Calls Tryz.prog 21 #[.int .i64 7, .string str] W (SRes W (es.map mkReal32)) := by
  have HN := Lib.hid hn
  have HS := Lib.hid hS
  have HBD := Lib.hid hbd
  clear hn hS hbd
  go_enter Tryz.func21, Tryz.ntmps21
  go_wp2_with fail
  refine HS.out.mono ?_
  rintro e w1 ⟨rfl, hg, A, c, hp, hrow⟩
  obtain ⟨vals, hvals⟩ : ∃ vals, vals = (es.map fun e => Value.float .f32 (Ieee.single.word e.1 e.2)) := ⟨_, rfl⟩
  have hvl : vals.length = n := by rw [hvals, List.length_map, HN.out]
  rw [← hvals] at hp hrow
  rw [hvl] at hp
  have HVALS := Lib.hid hvals
  have HVL := Lib.hid hvl
  clear hvals hvl
  have hbw : Below W.heap.size W w1 := ((Below.refl W.heap.size W).alloc (Nat.le_refl _) _).grown hg (by simp) (fun q hq => by injection hq with hq; omega)
  have hpc : w1.cell? ⟨W.heap.size, 0, none⟩ = some (.slice A n c) := by rw [cell_of_row _ _ _ _ _ _ hp]; rfl
  have HBW := Lib.hid hbw
  have HROW := Lib.hid hrow
  have HR0 := Lib.hid (Rw5.start w1)
  clear hg hp hrow hbw HS
  go_wp2_with fail
  go_loopw [4, 68] (fun v i_ wr => ∃ i : Nat, i ≤ n ∧ i_ = .int .i64 i ∧ Hid (Rw5 w1 wr v ((es.take i).map mkReal32))) (fun _ i_ _ => n - (intOf i_).toNat)
  case atStart => exact ⟨0, by omega, rfl, HR0⟩
  case round =>
    obtain ⟨i, hi, rfl, hb⟩ := hrel
    by_cases hin : i < n
    · obtain ⟨gb, cs, hA1, hgb, hcs⟩ := HROW.out (by rw [HVL.out]; omega)
      obtain ⟨e, he⟩ : ∃ e, es[i]? = some e := ⟨_, List.getElem?_eq_getElem (by rw [HN.out]; exact hin)⟩
      have hgl : gb < w1.heap.size := heap_lt hgb
      have hci : wr.cell? ⟨gb, i, none⟩ = some (.float .f32 (Ieee.single.word e.1 e.2)) := by
        rw [cell_of_row _ _ _ _ _ _ ((hb.out.below.block gb hgl).trans hgb)]
        exact hcs i _ (by rw [HVALS.out, List.getElem?_map, he]; rfl)
      have hcv := conv_wide e.1 e.2 (HBD.out e (List.mem_of_getElem? he))
      have HX := Lib.hid he
      have HR2 := hb
      have htk : ((es.take i).map mkReal32).length ≤ 1000000 := by rw [List.length_map, List.length_take]; omega
      clear he hb hgb hcs
      subst hA1
      go_wp2_with (at_builtin; refine wpList_appI rfl _ _ rfl HR2.out ⟨false, ⟨#[]⟩, 0, Ieee.double.word e.1 (Fl.wideR e.2), false⟩ rfl rfl (by simp) htk ?_)
      intro v91 w91 hr91
      have HR3 : Hid (Rw5 w1 w91 v91 ((es.take (i + 1)).map mkReal32)) := Lib.hid (by
        rw [List.take_add_one, HX.out, List.map_append, List.map_take]
        exact hr91)
      clear hr91 HR2
      go_wp2_with fail
      go_roundw
      case rel => exact ⟨i + 1, by omega, by go_num, HR3⟩
      case measure => simp [intOf]; omega
    · obtain rfl : n = i := by omega
      obtain ⟨A2, c2, g2, hv, hA2, hI2⟩ := hb.out.form
      have HBF : Hid (Below W.heap.size W wr) := Lib.hid (HBW.out.trans (hb.out.below.mono HBW.out.size))
      have hl2 : ((es.take n).map mkReal32).length = n := by rw [List.length_map, List.length_take, HN.out, Nat.min_self]
      have htk : es.take n = es := List.take_of_length_le (by rw [HN.out]; omega)
      rw [htk] at hA2 hI2
      rw [hl2] at hv
      have hl3 : (es.map mkReal32).length = n := by rw [List.length_map, HN.out]
      have HA2 := Lib.hid hA2
      have HI2 := Lib.hid hI2
      have HL3 := Lib.hid hl3
      subst hv
      clear hb hl2 hA2 hI2 hl3 htk
      go_wp2_with fail
      go_quiet (fail)
      go_wp2
      go_ret2
      refine ⟨A2, c2, g2, by rw [HL3.out]; rfl, HA2.out, HI2.out, ?_⟩
      exact below_drewN HBF.out _

end Go.Proofs.YtbbjjkcjpdmjnaaGreatDoor
