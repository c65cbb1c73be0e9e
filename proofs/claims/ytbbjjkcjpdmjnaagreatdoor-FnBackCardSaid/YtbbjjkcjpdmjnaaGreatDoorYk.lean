/- Walks of the law FnBack: Written. -/
import Derived.Test.YtbbjjkcjpdmjnaaGreatDoorYj
import Derived.Test.YtbbjjkcjpdmjnaaGreatDoorYe
namespace Go.Proofs.YtbbjjkcjpdmjnaaGreatDoor
open Go.RowKit

/-- A row of the call's own that is written one value at a time. -/
structure Rw (W : World) (te : TypeId) (wr : World) (v : Value) (xs : List Value) : Prop where
  own : wr.ownsRow W.heap.size te 1 v xs.length xs
  below : Below W.heap.size W wr
  nz : v ≠ .slice none 0 0
theorem Rw.start {W wr : World} (te : TypeId) (hb : Below W.heap.size W wr) : Rw W te (wr.alloc (.cells #[] te)) (.slice (some ⟨wr.heap.size, 0, none⟩) 0 0) [] :=
  ⟨⟨rfl, Or.inr ⟨wr.heap.size, 0, #[], rfl, hb.size, heap_alloc_new wr _, Nat.le_refl _, by unfold maxLen; omega, rfl, rfl⟩⟩, hb.alloc hb.size _, fun h => by injection h with h; cases h⟩
theorem Rw.alloc {W wr : World} {te : TypeId} {v : Value} {xs : List Value} (h : Rw W te wr v xs) (o : Obj) : Rw W te (wr.alloc o) v xs := ⟨h.own.alloc o, h.below.alloc h.below.size o, h.nz⟩
theorem Rw.form {W wr : World} {te : TypeId} {v : Value} {xs : List Value} (h : Rw W te wr v xs) : ∃ g cap, v = .slice (some ⟨g, 0, none⟩) xs.length cap ∧ ∀ (j : Nat) u, xs[j]? = some u → wr.cell? ⟨g, j, none⟩ = some u := by
  rcases h.own.2 with ⟨h1, _⟩ | ⟨g, cap, cur, h1, _⟩
  · exact absurd h1 h.nz
  · refine ⟨g, cap, h1, fun j u hu => ?_⟩
    subst h1
    have := h.own.cells (g := g) rfl j u hu
    rwa [Lib.add_plain, Nat.zero_add] at this
theorem Rw.same {W wr w' : World} {te : TypeId} {v : Value} {xs : List Value} (h : Rw W te wr v xs) (hb : Below wr.heap.size wr w') : Rw W te w' v xs :=
  ⟨h.own.kept (row := none) ⟨hb.os, hb.tape, hb.output, hb.size, fun i hi _ => hb.block i hi⟩ (by cases v.ownBlock <;> simp), h.below.trans (hb.mono h.below.size), h.nz⟩

/-- One value appended. -/
theorem wpList_appV {ops : Array Oper} {rest : List Oper} {o : Oper} {a : Act} {Q : Exit → Act → World → Prop} (hgd : o.guard = none) (s x : Operand) (ta te : TypeId) (z0 : Value) (by_ : Nat)
    (ho : o.op = .call { callee := .builtin .append, args := #[s, x], argTypes := #[ta, ta] }) (hu : Tryz.prog.underlying ta = some (.slice te)) (hinf : (Tryz.prog.info? te).map (fun i => (i.zero, i.size, i.bytes)) = some (some z0, 1, by_)) (hz1 : z0.cells.size = 1) (hby : by_ ≤ 64)
    {W wr : World} {v : Value} {xs : List Value} {T : TypeId} {c g : Nat} (h0 : Rw W te wr v xs) (z : Value) (hz : z.oneCell' = true) (hs : a.eval s = v) (hx : a.eval x = .slice (some ⟨g, 0, none⟩) 1 c) (hgs : g = wr.heap.size) (hn : xs.length ≤ 1000000)
    (h : ∀ v' w', Rw W te w' v' (xs ++ [z]) → (wr.alloc (.cells #[z] T)).grownBy w' v.ownBlock → wpList Tryz.prog ops Q rest (a.put o.dst v') w') : wpList Tryz.prog ops Q (o :: rest) a (wr.alloc (.cells #[z] T)) := by
  subst hgs
  obtain ⟨i0, hi, hz0, hsz, hbs⟩ := info_parts hinf
  have hle : (xs.length + 1) * by_ ≤ 1000001 * 64 := Nat.mul_le_mul (by omega) hby
  refine wpList_append_own _ hgd s x ta ho W.heap.size te i0 z0 1 by_ hu hi hz0 hsz hbs hz1 (by decide) v _ _ hs (h0.own.alloc _) ⟨wr.heap.size, 0, none⟩ 1 c [z] hx rfl
    (fun j u hu => World.news_of_block (heap_alloc_new wr _) j u hu) (fun u hu => by rw [List.mem_singleton] at hu; subst hu; exact hz) (by unfold maxLen; omega) (by omega) (by have := h0.below.size; simp; omega) ?_
  intro v' w1 hown hg hnz
  refine h v' w1 ⟨by rw [List.length_append]; exact hown, (h0.below.alloc h0.below.size _).grown hg (by have := h0.below.size; simp; omega) (fun q hq => (h0.own.lt q hq).1), fun hv => ?_⟩ hg
  exact absurd (hnz.1 hv).2 (by decide)

/-- What Written answers. -/
def WDone (T : Nat → List UInt8 → Prop) (n : Nat) (W : World) (e : Ending) (w' : World) : Prop :=
  ∃ ts : List (List UInt8), ts.length = n ∧ (∀ (j : Nat) t, ts[j]? = some t → T j t) ∧ e = .returned (.tuple #[.string ⟨(litTs ts).toArray⟩, .bool true]) ∧ Below W.heap.size W w'

theorem infoV4 : (Tryz.prog.info? 4).map (fun i => (i.zero, i.size, i.bytes)) = some (some (.bool false), 1, 1) := by kernel_rfl
theorem infoV2 : (Tryz.prog.info? 2).map (fun i => (i.zero, i.size, i.bytes)) = some (some (.int .i64 0), 1, 8) := by kernel_rfl
theorem infoV30 : (Tryz.prog.info? 30).map (fun i => (i.zero, i.size, i.bytes)) = some (some (.float .f64 0), 1, 8) := by kernel_rfl
theorem infoV9 : (Tryz.prog.info? 9).map (fun i => (i.zero, i.size, i.bytes)) = some (some (.string ⟨#[]⟩), 1, 16) := by kernel_rfl
theorem infoV21 : (Tryz.prog.info? 21).map (fun i => (i.zero, i.size, i.bytes)) = some (some (.int .i32 0), 1, 4) := by kernel_rfl
theorem infoV49 : (Tryz.prog.info? 49).map (fun i => (i.zero, i.size, i.bytes)) = some (some (.float .f32 0), 1, 4) := by kernel_rfl

def mkBool (b : Bool) : It := ⟨false, ⟨#[]⟩, 0, 0, b⟩
def mkInt (n : Int) : It := ⟨false, ⟨#[]⟩, n, 0, false⟩
def mkReal (p : Bool × Nat) : It := ⟨false, ⟨#[]⟩, 0, Ieee.double.word p.1 p.2, false⟩
def mkText (t : List UInt8) : It := ⟨false, ⟨t.toArray⟩, 0, 0, false⟩
def mkReal32 (p : Bool × Nat) : It := ⟨false, ⟨#[]⟩, 0, Ieee.double.word p.1 (Fl.wideR p.2), false⟩

set_option maxRecDepth 100000 in
set_option maxHeartbeats 2000000 in
theorem written_1 (W : World) (A : Option Addr) (ga oa n c : Nat) (es : List (Bool)) (hn : es.length = n) (hk : n ≤ 200) (hA : 0 < n → A = some ⟨ga, oa, none⟩) (h : Its W ga oa (es.map mkBool)) (T : Nat → List UInt8 → Prop)
    (hV : ∀ w g cap, Below W.heap.size W w → (∀ (j : Nat) e, es[j]? = some e → w.cell? ⟨g, j, none⟩ = some (Value.bool e)) → Calls Tryz.prog 12 #[.slice (some ⟨g, 0, none⟩) n cap] w (VDone T n w)) :
    Calls Tryz.prog 6 #[.int .i64 1, .slice A n c] W (WDone T n W) := by
  have HE : Hid (∀ (i : Nat) e, es[i]? = some e → (es.map mkBool)[i]? = some (mkBool e)) := Lib.hid (fun i e he => by rw [List.getElem?_map, he]; rfl)
  have HI := Lib.hid h
  have HN := Lib.hid hn
  have HA := Lib.hid hA
  have HV := Lib.hid hV
  clear h hn hA hV
  go_enter Tryz.func6, Tryz.ntmps6
  go_wp2_with fail
  go_loopw [7, 22] (fun _ v22 wr => ∃ i : Nat, i ≤ n ∧ v22 = .int .i64 i ∧ Hid (Below W.heap.size W wr)) (fun _ v22 _ => n - (intOf v22).toNat)
  case atStart => exact ⟨0, by omega, rfl, Lib.hid (Below.refl _ _)⟩
  case round =>
    obtain ⟨i, hi, rfl, hb⟩ := hrel
    by_cases hin : i < n
    · have hA1 := HA.out (by omega)
      obtain ⟨e, he⟩ : ∃ e, es[i]? = some e := ⟨_, List.getElem?_eq_getElem (by rw [HN.out]; exact hin)⟩
      obtain ⟨h0, h1, h2, h3, h4⟩ := HI.out.five i _ (HE.out i e he)
      have hga : ga < W.heap.size := Lib.lt_of_cell h0
      have c0 : wr.cell? ⟨ga, oa + i * 5, none⟩ = some (.bool false) := (hb.out.cell (p := ⟨ga, oa + i * 5, none⟩) hga).trans h0
      have c1 : wr.cell? ⟨ga, oa + i * 5 + 1, none⟩ = some (.string ⟨#[]⟩) := (hb.out.cell (p := ⟨ga, oa + i * 5 + 1, none⟩) hga).trans h1
      have c2 : wr.cell? ⟨ga, oa + i * 5 + 2, none⟩ = some (.int .i64 0) := (hb.out.cell (p := ⟨ga, oa + i * 5 + 2, none⟩) hga).trans h2
      have c3 : wr.cell? ⟨ga, oa + i * 5 + 3, none⟩ = some (.float .f64 0) := (hb.out.cell (p := ⟨ga, oa + i * 5 + 3, none⟩) hga).trans h3
      have c4 : wr.cell? ⟨ga, oa + i * 5 + 4, none⟩ = some (.bool e) := (hb.out.cell (p := ⟨ga, oa + i * 5 + 4, none⟩) hga).trans h4
      have HB2 : Hid (Below W.heap.size W (wr.alloc (.cells #[.bool false, .string ⟨#[]⟩, .int .i64 0, .float .f64 0, .bool e] 32))) := Lib.hid (hb.out.alloc hb.out.size _)
      clear h0 h1 h2 h3 h4 he
      subst hA1
      go_wp2_with fail
      go_roundw
      case rel => exact ⟨i + 1, by omega, by go_num, HB2⟩
      case measure => simp [intOf]; omega
    · obtain rfl : n = i := by omega
      have HR0 := Lib.hid (Rw.start (W := W) 4 hb.out)
      go_wp2_with fail
      go_loopw [8, 10, 35] (fun v _ i_ wr => ∃ i : Nat, i ≤ n ∧ i_ = .int .i64 i ∧ Hid (Rw W 4 wr v ((es.take i).map fun e => Value.bool e))) (fun _ _ i_ _ => n - (intOf i_).toNat)
      case atStart => exact ⟨0, by omega, rfl, HR0⟩
      case round =>
        obtain ⟨i, hi, rfl, hb⟩ := hrel
        by_cases hin : i < n
        · have hA1 := HA.out (by omega)
          obtain ⟨e, he⟩ : ∃ e, es[i]? = some e := ⟨_, List.getElem?_eq_getElem (by rw [HN.out]; exact hin)⟩
          obtain ⟨h0, h1, h2, h3, h4⟩ := HI.out.five i _ (HE.out i e he)
          have hga : ga < W.heap.size := Lib.lt_of_cell h0
          have c0 : wr.cell? ⟨ga, oa + i * 5, none⟩ = some (.bool false) := (hb.out.below.cell (p := ⟨ga, oa + i * 5, none⟩) hga).trans h0
          have c1 : wr.cell? ⟨ga, oa + i * 5 + 1, none⟩ = some (.string ⟨#[]⟩) := (hb.out.below.cell (p := ⟨ga, oa + i * 5 + 1, none⟩) hga).trans h1
          have c2 : wr.cell? ⟨ga, oa + i * 5 + 2, none⟩ = some (.int .i64 0) := (hb.out.below.cell (p := ⟨ga, oa + i * 5 + 2, none⟩) hga).trans h2
          have c3 : wr.cell? ⟨ga, oa + i * 5 + 3, none⟩ = some (.float .f64 0) := (hb.out.below.cell (p := ⟨ga, oa + i * 5 + 3, none⟩) hga).trans h3
          have c4 : wr.cell? ⟨ga, oa + i * 5 + 4, none⟩ = some (.bool e) := (hb.out.below.cell (p := ⟨ga, oa + i * 5 + 4, none⟩) hga).trans h4
          have HR2 := Lib.hid (hb.out.alloc (.cells #[.bool false, .string ⟨#[]⟩, .int .i64 0, .float .f64 0, .bool e] 32))
          have HX := Lib.hid he
          have htk : ((es.take i).map fun e => Value.bool e).length ≤ 1000000 := by rw [List.length_map, List.length_take]; omega
          clear h0 h1 h2 h3 h4 he hb
          subst hA1
          go_wp2_with (at_builtin; refine wpList_appV rfl _ _ 36 4 (.bool false) 1 rfl Tryz.underlying36 infoV4 rfl (by decide) HR2.out (Value.bool e) rfl rfl rfl (by simp) htk ?_)
          intro v91 w91 hr91 _
          have HR3 : Hid (Rw W 4 w91 v91 ((es.take (i + 1)).map fun e => Value.bool e)) := Lib.hid (by
            rw [List.take_add_one, HX.out]
            simpa using hr91)
          clear hr91 HR2 
          go_wp2_with fail
          go_roundw
          case rel => exact ⟨i + 1, by omega, by go_num, HR3⟩
          case measure => simp [intOf]; omega
        · obtain rfl : n = i := by omega
          obtain ⟨g, cap, hv, hc⟩ := hb.out.form
          have hlen : ((es.take n).map fun e => Value.bool e).length = n := by rw [List.length_map, List.length_take, HN.out, Nat.min_self]
          rw [hlen] at hv
          subst hv
          have HB := Lib.hid hb.out.below
          have HC := Lib.hid (HV.out _ g cap HB.out (fun j e he => hc j _ (by rw [List.take_of_length_le (by rw [HN.out]; omega), List.getElem?_map, he]; rfl)))
          clear hc hlen hb
          go_wp2_with fail
          refine HC.out.mono ?_
          rintro e w92 ⟨ts, hts, hT, rfl, hb92⟩
          have HB92 : Hid (Below W.heap.size W w92) := Lib.hid (HB.out.trans (hb92.mono HB.out.size))
          have HT := Lib.hid hT
          have HTS := Lib.hid hts
          obtain ⟨str, hstr⟩ : ∃ str, str = (⟨(litTs ts).toArray⟩ : ByteArray) := ⟨_, rfl⟩
          have HSTR := Lib.hid hstr
          have H11 := Lib.hid (told str w92)
          rw [← hstr]
          clear hb92 hT hts hstr
          go_wp2_with fail
          refine H11.out.mono ?_
          rintro e w93 ⟨rfl, kq, rfl⟩
          go_wp2_with fail
          go_ret2
          refine ⟨ts, HTS.out, HT.out, by rw [HSTR.out]; rfl, below_drewN HB92.out kq⟩

end Go.Proofs.YtbbjjkcjpdmjnaaGreatDoor

/- Walks of the law FnBack: Written, more kinds. -/
namespace Go.Proofs.YtbbjjkcjpdmjnaaGreatDoor
open Go.RowKit

set_option maxRecDepth 100000 in
set_option maxHeartbeats 2000000 in
theorem written_2 (W : World) (A : Option Addr) (ga oa n c : Nat) (es : List (Int)) (hn : es.length = n) (hk : n ≤ 200) (hA : 0 < n → A = some ⟨ga, oa, none⟩) (h : Its W ga oa (es.map mkInt)) (T : Nat → List UInt8 → Prop)
    (hV : ∀ w g cap, Below W.heap.size W w → (∀ (j : Nat) e, es[j]? = some e → w.cell? ⟨g, j, none⟩ = some (Value.int .i64 e)) → Calls Tryz.prog 13 #[.slice (some ⟨g, 0, none⟩) n cap] w (VDone T n w)) :
    Calls Tryz.prog 6 #[.int .i64 2, .slice A n c] W (WDone T n W) := by
  have HE : Hid (∀ (i : Nat) e, es[i]? = some e → (es.map mkInt)[i]? = some (mkInt e)) := Lib.hid (fun i e he => by rw [List.getElem?_map, he]; rfl)
  have HI := Lib.hid h
  have HN := Lib.hid hn
  have HA := Lib.hid hA
  have HV := Lib.hid hV
  clear h hn hA hV
  go_enter Tryz.func6, Tryz.ntmps6
  go_wp2_with fail
  go_loopw [7, 22] (fun _ v22 wr => ∃ i : Nat, i ≤ n ∧ v22 = .int .i64 i ∧ Hid (Below W.heap.size W wr)) (fun _ v22 _ => n - (intOf v22).toNat)
  case atStart => exact ⟨0, by omega, rfl, Lib.hid (Below.refl _ _)⟩
  case round =>
    obtain ⟨i, hi, rfl, hb⟩ := hrel
    by_cases hin : i < n
    · have hA1 := HA.out (by omega)
      obtain ⟨e, he⟩ : ∃ e, es[i]? = some e := ⟨_, List.getElem?_eq_getElem (by rw [HN.out]; exact hin)⟩
      obtain ⟨h0, h1, h2, h3, h4⟩ := HI.out.five i _ (HE.out i e he)
      have hga : ga < W.heap.size := Lib.lt_of_cell h0
      have c0 : wr.cell? ⟨ga, oa + i * 5, none⟩ = some (.bool false) := (hb.out.cell (p := ⟨ga, oa + i * 5, none⟩) hga).trans h0
      have c1 : wr.cell? ⟨ga, oa + i * 5 + 1, none⟩ = some (.string ⟨#[]⟩) := (hb.out.cell (p := ⟨ga, oa + i * 5 + 1, none⟩) hga).trans h1
      have c2 : wr.cell? ⟨ga, oa + i * 5 + 2, none⟩ = some (.int .i64 e) := (hb.out.cell (p := ⟨ga, oa + i * 5 + 2, none⟩) hga).trans h2
      have c3 : wr.cell? ⟨ga, oa + i * 5 + 3, none⟩ = some (.float .f64 0) := (hb.out.cell (p := ⟨ga, oa + i * 5 + 3, none⟩) hga).trans h3
      have c4 : wr.cell? ⟨ga, oa + i * 5 + 4, none⟩ = some (.bool false) := (hb.out.cell (p := ⟨ga, oa + i * 5 + 4, none⟩) hga).trans h4
      have HB2 : Hid (Below W.heap.size W (wr.alloc (.cells #[.bool false, .string ⟨#[]⟩, .int .i64 e, .float .f64 0, .bool false] 32))) := Lib.hid (hb.out.alloc hb.out.size _)
      clear h0 h1 h2 h3 h4 he
      subst hA1
      go_wp2_with fail
      go_roundw
      case rel => exact ⟨i + 1, by omega, by go_num, HB2⟩
      case measure => simp [intOf]; omega
    · obtain rfl : n = i := by omega
      have HR0 := Lib.hid (Rw.start (W := W) 2 hb.out)
      go_wp2_with fail
      go_loopw [11, 13, 57] (fun v _ i_ wr => ∃ i : Nat, i ≤ n ∧ i_ = .int .i64 i ∧ Hid (Rw W 2 wr v ((es.take i).map fun e => Value.int .i64 e))) (fun _ _ i_ _ => n - (intOf i_).toNat)
      case atStart => exact ⟨0, by omega, rfl, HR0⟩
      case round =>
        obtain ⟨i, hi, rfl, hb⟩ := hrel
        by_cases hin : i < n
        · have hA1 := HA.out (by omega)
          obtain ⟨e, he⟩ : ∃ e, es[i]? = some e := ⟨_, List.getElem?_eq_getElem (by rw [HN.out]; exact hin)⟩
          obtain ⟨h0, h1, h2, h3, h4⟩ := HI.out.five i _ (HE.out i e he)
          have hga : ga < W.heap.size := Lib.lt_of_cell h0
          have c0 : wr.cell? ⟨ga, oa + i * 5, none⟩ = some (.bool false) := (hb.out.below.cell (p := ⟨ga, oa + i * 5, none⟩) hga).trans h0
          have c1 : wr.cell? ⟨ga, oa + i * 5 + 1, none⟩ = some (.string ⟨#[]⟩) := (hb.out.below.cell (p := ⟨ga, oa + i * 5 + 1, none⟩) hga).trans h1
          have c2 : wr.cell? ⟨ga, oa + i * 5 + 2, none⟩ = some (.int .i64 e) := (hb.out.below.cell (p := ⟨ga, oa + i * 5 + 2, none⟩) hga).trans h2
          have c3 : wr.cell? ⟨ga, oa + i * 5 + 3, none⟩ = some (.float .f64 0) := (hb.out.below.cell (p := ⟨ga, oa + i * 5 + 3, none⟩) hga).trans h3
          have c4 : wr.cell? ⟨ga, oa + i * 5 + 4, none⟩ = some (.bool false) := (hb.out.below.cell (p := ⟨ga, oa + i * 5 + 4, none⟩) hga).trans h4
          have HR2 := Lib.hid (hb.out.alloc (.cells #[.bool false, .string ⟨#[]⟩, .int .i64 e, .float .f64 0, .bool false] 32))
          have HX := Lib.hid he
          have htk : ((es.take i).map fun e => Value.int .i64 e).length ≤ 1000000 := by rw [List.length_map, List.length_take]; omega
          clear h0 h1 h2 h3 h4 he hb
          subst hA1
          go_wp2_with (at_builtin; refine wpList_appV rfl _ _ 43 2 (.int .i64 0) 8 rfl Tryz.underlying43 infoV2 rfl (by decide) HR2.out (Value.int .i64 e) rfl rfl rfl (by simp) htk ?_)
          intro v91 w91 hr91 _
          have HR3 : Hid (Rw W 2 w91 v91 ((es.take (i + 1)).map fun e => Value.int .i64 e)) := Lib.hid (by
            rw [List.take_add_one, HX.out]
            simpa using hr91)
          clear hr91 HR2 
          go_wp2_with fail
          go_roundw
          case rel => exact ⟨i + 1, by omega, by go_num, HR3⟩
          case measure => simp [intOf]; omega
        · obtain rfl : n = i := by omega
          obtain ⟨g, cap, hv, hc⟩ := hb.out.form
          have hlen : ((es.take n).map fun e => Value.int .i64 e).length = n := by rw [List.length_map, List.length_take, HN.out, Nat.min_self]
          rw [hlen] at hv
          subst hv
          have HB := Lib.hid hb.out.below
          have HC := Lib.hid (HV.out _ g cap HB.out (fun j e he => hc j _ (by rw [List.take_of_length_le (by rw [HN.out]; omega), List.getElem?_map, he]; rfl)))
          clear hc hlen hb
          go_wp2_with fail
          refine HC.out.mono ?_
          rintro e w92 ⟨ts, hts, hT, rfl, hb92⟩
          have HB92 : Hid (Below W.heap.size W w92) := Lib.hid (HB.out.trans (hb92.mono HB.out.size))
          have HT := Lib.hid hT
          have HTS := Lib.hid hts
          obtain ⟨str, hstr⟩ : ∃ str, str = (⟨(litTs ts).toArray⟩ : ByteArray) := ⟨_, rfl⟩
          have HSTR := Lib.hid hstr
          have H11 := Lib.hid (told str w92)
          rw [← hstr]
          clear hb92 hT hts hstr
          go_wp2_with fail
          refine H11.out.mono ?_
          rintro e w93 ⟨rfl, kq, rfl⟩
          go_wp2_with fail
          go_ret2
          refine ⟨ts, HTS.out, HT.out, by rw [HSTR.out]; rfl, below_drewN HB92.out kq⟩

set_option maxRecDepth 100000 in
set_option maxHeartbeats 2000000 in
theorem written_3 (W : World) (A : Option Addr) (ga oa n c : Nat) (es : List (Bool × Nat)) (hn : es.length = n) (hk : n ≤ 200) (hA : 0 < n → A = some ⟨ga, oa, none⟩) (h : Its W ga oa (es.map mkReal)) (T : Nat → List UInt8 → Prop)
    (hV : ∀ w g cap, Below W.heap.size W w → (∀ (j : Nat) e, es[j]? = some e → w.cell? ⟨g, j, none⟩ = some (Value.float .f64 (Ieee.double.word e.1 e.2))) → Calls Tryz.prog 14 #[.slice (some ⟨g, 0, none⟩) n cap] w (VDone T n w)) :
    Calls Tryz.prog 6 #[.int .i64 3, .slice A n c] W (WDone T n W) := by
  have HE : Hid (∀ (i : Nat) e, es[i]? = some e → (es.map mkReal)[i]? = some (mkReal e)) := Lib.hid (fun i e he => by rw [List.getElem?_map, he]; rfl)
  have HI := Lib.hid h
  have HN := Lib.hid hn
  have HA := Lib.hid hA
  have HV := Lib.hid hV
  clear h hn hA hV
  go_enter Tryz.func6, Tryz.ntmps6
  go_wp2_with fail
  go_loopw [7, 22] (fun _ v22 wr => ∃ i : Nat, i ≤ n ∧ v22 = .int .i64 i ∧ Hid (Below W.heap.size W wr)) (fun _ v22 _ => n - (intOf v22).toNat)
  case atStart => exact ⟨0, by omega, rfl, Lib.hid (Below.refl _ _)⟩
  case round =>
    obtain ⟨i, hi, rfl, hb⟩ := hrel
    by_cases hin : i < n
    · have hA1 := HA.out (by omega)
      obtain ⟨e, he⟩ : ∃ e, es[i]? = some e := ⟨_, List.getElem?_eq_getElem (by rw [HN.out]; exact hin)⟩
      obtain ⟨h0, h1, h2, h3, h4⟩ := HI.out.five i _ (HE.out i e he)
      have hga : ga < W.heap.size := Lib.lt_of_cell h0
      have c0 : wr.cell? ⟨ga, oa + i * 5, none⟩ = some (.bool false) := (hb.out.cell (p := ⟨ga, oa + i * 5, none⟩) hga).trans h0
      have c1 : wr.cell? ⟨ga, oa + i * 5 + 1, none⟩ = some (.string ⟨#[]⟩) := (hb.out.cell (p := ⟨ga, oa + i * 5 + 1, none⟩) hga).trans h1
      have c2 : wr.cell? ⟨ga, oa + i * 5 + 2, none⟩ = some (.int .i64 0) := (hb.out.cell (p := ⟨ga, oa + i * 5 + 2, none⟩) hga).trans h2
      have c3 : wr.cell? ⟨ga, oa + i * 5 + 3, none⟩ = some (.float .f64 (Ieee.double.word e.1 e.2)) := (hb.out.cell (p := ⟨ga, oa + i * 5 + 3, none⟩) hga).trans h3
      have c4 : wr.cell? ⟨ga, oa + i * 5 + 4, none⟩ = some (.bool false) := (hb.out.cell (p := ⟨ga, oa + i * 5 + 4, none⟩) hga).trans h4
      have HB2 : Hid (Below W.heap.size W (wr.alloc (.cells #[.bool false, .string ⟨#[]⟩, .int .i64 0, .float .f64 (Ieee.double.word e.1 e.2), .bool false] 32))) := Lib.hid (hb.out.alloc hb.out.size _)
      clear h0 h1 h2 h3 h4 he
      subst hA1
      go_wp2_with fail
      go_roundw
      case rel => exact ⟨i + 1, by omega, by go_num, HB2⟩
      case measure => simp [intOf]; omega
    · obtain rfl : n = i := by omega
      have HR0 := Lib.hid (Rw.start (W := W) 30 hb.out)
      go_wp2_with fail
      go_loopw [14, 16, 79] (fun v _ i_ wr => ∃ i : Nat, i ≤ n ∧ i_ = .int .i64 i ∧ Hid (Rw W 30 wr v ((es.take i).map fun e => Value.float .f64 (Ieee.double.word e.1 e.2)))) (fun _ _ i_ _ => n - (intOf i_).toNat)
      case atStart => exact ⟨0, by omega, rfl, HR0⟩
      case round =>
        obtain ⟨i, hi, rfl, hb⟩ := hrel
        by_cases hin : i < n
        · have hA1 := HA.out (by omega)
          obtain ⟨e, he⟩ : ∃ e, es[i]? = some e := ⟨_, List.getElem?_eq_getElem (by rw [HN.out]; exact hin)⟩
          obtain ⟨h0, h1, h2, h3, h4⟩ := HI.out.five i _ (HE.out i e he)
          have hga : ga < W.heap.size := Lib.lt_of_cell h0
          have c0 : wr.cell? ⟨ga, oa + i * 5, none⟩ = some (.bool false) := (hb.out.below.cell (p := ⟨ga, oa + i * 5, none⟩) hga).trans h0
          have c1 : wr.cell? ⟨ga, oa + i * 5 + 1, none⟩ = some (.string ⟨#[]⟩) := (hb.out.below.cell (p := ⟨ga, oa + i * 5 + 1, none⟩) hga).trans h1
          have c2 : wr.cell? ⟨ga, oa + i * 5 + 2, none⟩ = some (.int .i64 0) := (hb.out.below.cell (p := ⟨ga, oa + i * 5 + 2, none⟩) hga).trans h2
          have c3 : wr.cell? ⟨ga, oa + i * 5 + 3, none⟩ = some (.float .f64 (Ieee.double.word e.1 e.2)) := (hb.out.below.cell (p := ⟨ga, oa + i * 5 + 3, none⟩) hga).trans h3
          have c4 : wr.cell? ⟨ga, oa + i * 5 + 4, none⟩ = some (.bool false) := (hb.out.below.cell (p := ⟨ga, oa + i * 5 + 4, none⟩) hga).trans h4
          have HR2 := Lib.hid (hb.out.alloc (.cells #[.bool false, .string ⟨#[]⟩, .int .i64 0, .float .f64 (Ieee.double.word e.1 e.2), .bool false] 32))
          have HX := Lib.hid he
          have htk : ((es.take i).map fun e => Value.float .f64 (Ieee.double.word e.1 e.2)).length ≤ 1000000 := by rw [List.length_map, List.length_take]; omega
          clear h0 h1 h2 h3 h4 he hb
          subst hA1
          go_wp2_with (at_builtin; refine wpList_appV rfl _ _ 45 30 (.float .f64 0) 8 rfl Tryz.underlying45 infoV30 rfl (by decide) HR2.out (Value.float .f64 (Ieee.double.word e.1 e.2)) rfl rfl rfl (by simp) htk ?_)
          intro v91 w91 hr91 _
          have HR3 : Hid (Rw W 30 w91 v91 ((es.take (i + 1)).map fun e => Value.float .f64 (Ieee.double.word e.1 e.2))) := Lib.hid (by
            rw [List.take_add_one, HX.out]
            simpa using hr91)
          clear hr91 HR2 
          go_wp2_with fail
          go_roundw
          case rel => exact ⟨i + 1, by omega, by go_num, HR3⟩
          case measure => simp [intOf]; omega
        · obtain rfl : n = i := by omega
          obtain ⟨g, cap, hv, hc⟩ := hb.out.form
          have hlen : ((es.take n).map fun e => Value.float .f64 (Ieee.double.word e.1 e.2)).length = n := by rw [List.length_map, List.length_take, HN.out, Nat.min_self]
          rw [hlen] at hv
          subst hv
          have HB := Lib.hid hb.out.below
          have HC := Lib.hid (HV.out _ g cap HB.out (fun j e he => hc j _ (by rw [List.take_of_length_le (by rw [HN.out]; omega), List.getElem?_map, he]; rfl)))
          clear hc hlen hb
          go_wp2_with fail
          refine HC.out.mono ?_
          rintro e w92 ⟨ts, hts, hT, rfl, hb92⟩
          have HB92 : Hid (Below W.heap.size W w92) := Lib.hid (HB.out.trans (hb92.mono HB.out.size))
          have HT := Lib.hid hT
          have HTS := Lib.hid hts
          obtain ⟨str, hstr⟩ : ∃ str, str = (⟨(litTs ts).toArray⟩ : ByteArray) := ⟨_, rfl⟩
          have HSTR := Lib.hid hstr
          have H11 := Lib.hid (told str w92)
          rw [← hstr]
          clear hb92 hT hts hstr
          go_wp2_with fail
          refine H11.out.mono ?_
          rintro e w93 ⟨rfl, kq, rfl⟩
          go_wp2_with fail
          go_ret2
          refine ⟨ts, HTS.out, HT.out, by rw [HSTR.out]; rfl, below_drewN HB92.out kq⟩

set_option maxRecDepth 100000 in
set_option maxHeartbeats 2000000 in
theorem written_4 (W : World) (A : Option Addr) (ga oa n c : Nat) (es : List (List UInt8)) (hn : es.length = n) (hk : n ≤ 200) (hA : 0 < n → A = some ⟨ga, oa, none⟩) (h : Its W ga oa (es.map mkText)) (T : Nat → List UInt8 → Prop)
    (hV : ∀ w g cap, Below W.heap.size W w → (∀ (j : Nat) e, es[j]? = some e → w.cell? ⟨g, j, none⟩ = some (Value.string ⟨e.toArray⟩)) → Calls Tryz.prog 15 #[.slice (some ⟨g, 0, none⟩) n cap] w (VDone T n w)) :
    Calls Tryz.prog 6 #[.int .i64 4, .slice A n c] W (WDone T n W) := by
  have HE : Hid (∀ (i : Nat) e, es[i]? = some e → (es.map mkText)[i]? = some (mkText e)) := Lib.hid (fun i e he => by rw [List.getElem?_map, he]; rfl)
  have HI := Lib.hid h
  have HN := Lib.hid hn
  have HA := Lib.hid hA
  have HV := Lib.hid hV
  clear h hn hA hV
  go_enter Tryz.func6, Tryz.ntmps6
  go_wp2_with fail
  go_loopw [7, 22] (fun _ v22 wr => ∃ i : Nat, i ≤ n ∧ v22 = .int .i64 i ∧ Hid (Below W.heap.size W wr)) (fun _ v22 _ => n - (intOf v22).toNat)
  case atStart => exact ⟨0, by omega, rfl, Lib.hid (Below.refl _ _)⟩
  case round =>
    obtain ⟨i, hi, rfl, hb⟩ := hrel
    by_cases hin : i < n
    · have hA1 := HA.out (by omega)
      obtain ⟨e, he⟩ : ∃ e, es[i]? = some e := ⟨_, List.getElem?_eq_getElem (by rw [HN.out]; exact hin)⟩
      obtain ⟨h0, h1, h2, h3, h4⟩ := HI.out.five i _ (HE.out i e he)
      have hga : ga < W.heap.size := Lib.lt_of_cell h0
      have c0 : wr.cell? ⟨ga, oa + i * 5, none⟩ = some (.bool false) := (hb.out.cell (p := ⟨ga, oa + i * 5, none⟩) hga).trans h0
      have c1 : wr.cell? ⟨ga, oa + i * 5 + 1, none⟩ = some (.string ⟨e.toArray⟩) := (hb.out.cell (p := ⟨ga, oa + i * 5 + 1, none⟩) hga).trans h1
      have c2 : wr.cell? ⟨ga, oa + i * 5 + 2, none⟩ = some (.int .i64 0) := (hb.out.cell (p := ⟨ga, oa + i * 5 + 2, none⟩) hga).trans h2
      have c3 : wr.cell? ⟨ga, oa + i * 5 + 3, none⟩ = some (.float .f64 0) := (hb.out.cell (p := ⟨ga, oa + i * 5 + 3, none⟩) hga).trans h3
      have c4 : wr.cell? ⟨ga, oa + i * 5 + 4, none⟩ = some (.bool false) := (hb.out.cell (p := ⟨ga, oa + i * 5 + 4, none⟩) hga).trans h4
      have HB2 : Hid (Below W.heap.size W (wr.alloc (.cells #[.bool false, .string ⟨e.toArray⟩, .int .i64 0, .float .f64 0, .bool false] 32))) := Lib.hid (hb.out.alloc hb.out.size _)
      clear h0 h1 h2 h3 h4 he
      subst hA1
      go_wp2_with fail
      go_roundw
      case rel => exact ⟨i + 1, by omega, by go_num, HB2⟩
      case measure => simp [intOf]; omega
    · obtain rfl : n = i := by omega
      have HR0 := Lib.hid (Rw.start (W := W) 9 hb.out)
      go_wp2_with fail
      go_loopw [17, 19, 101] (fun v _ i_ wr => ∃ i : Nat, i ≤ n ∧ i_ = .int .i64 i ∧ Hid (Rw W 9 wr v ((es.take i).map fun e => Value.string ⟨e.toArray⟩))) (fun _ _ i_ _ => n - (intOf i_).toNat)
      case atStart => exact ⟨0, by omega, rfl, HR0⟩
      case round =>
        obtain ⟨i, hi, rfl, hb⟩ := hrel
        by_cases hin : i < n
        · have hA1 := HA.out (by omega)
          obtain ⟨e, he⟩ : ∃ e, es[i]? = some e := ⟨_, List.getElem?_eq_getElem (by rw [HN.out]; exact hin)⟩
          obtain ⟨h0, h1, h2, h3, h4⟩ := HI.out.five i _ (HE.out i e he)
          have hga : ga < W.heap.size := Lib.lt_of_cell h0
          have c0 : wr.cell? ⟨ga, oa + i * 5, none⟩ = some (.bool false) := (hb.out.below.cell (p := ⟨ga, oa + i * 5, none⟩) hga).trans h0
          have c1 : wr.cell? ⟨ga, oa + i * 5 + 1, none⟩ = some (.string ⟨e.toArray⟩) := (hb.out.below.cell (p := ⟨ga, oa + i * 5 + 1, none⟩) hga).trans h1
          have c2 : wr.cell? ⟨ga, oa + i * 5 + 2, none⟩ = some (.int .i64 0) := (hb.out.below.cell (p := ⟨ga, oa + i * 5 + 2, none⟩) hga).trans h2
          have c3 : wr.cell? ⟨ga, oa + i * 5 + 3, none⟩ = some (.float .f64 0) := (hb.out.below.cell (p := ⟨ga, oa + i * 5 + 3, none⟩) hga).trans h3
          have c4 : wr.cell? ⟨ga, oa + i * 5 + 4, none⟩ = some (.bool false) := (hb.out.below.cell (p := ⟨ga, oa + i * 5 + 4, none⟩) hga).trans h4
          have HR2 := Lib.hid (hb.out.alloc (.cells #[.bool false, .string ⟨e.toArray⟩, .int .i64 0, .float .f64 0, .bool false] 32))
          have HX := Lib.hid he
          have htk : ((es.take i).map fun e => Value.string ⟨e.toArray⟩).length ≤ 1000000 := by rw [List.length_map, List.length_take]; omega
          clear h0 h1 h2 h3 h4 he hb
          subst hA1
          go_wp2_with (at_builtin; refine wpList_appV rfl _ _ 47 9 (.string ⟨#[]⟩) 16 rfl Tryz.underlying47 infoV9 rfl (by decide) HR2.out (Value.string ⟨e.toArray⟩) rfl rfl rfl (by simp) htk ?_)
          intro v91 w91 hr91 _
          have HR3 : Hid (Rw W 9 w91 v91 ((es.take (i + 1)).map fun e => Value.string ⟨e.toArray⟩)) := Lib.hid (by
            rw [List.take_add_one, HX.out]
            simpa using hr91)
          clear hr91 HR2 
          go_wp2_with fail
          go_roundw
          case rel => exact ⟨i + 1, by omega, by go_num, HR3⟩
          case measure => simp [intOf]; omega
        · obtain rfl : n = i := by omega
          obtain ⟨g, cap, hv, hc⟩ := hb.out.form
          have hlen : ((es.take n).map fun e => Value.string ⟨e.toArray⟩).length = n := by rw [List.length_map, List.length_take, HN.out, Nat.min_self]
          rw [hlen] at hv
          subst hv
          have HB := Lib.hid hb.out.below
          have HC := Lib.hid (HV.out _ g cap HB.out (fun j e he => hc j _ (by rw [List.take_of_length_le (by rw [HN.out]; omega), List.getElem?_map, he]; rfl)))
          clear hc hlen hb
          go_wp2_with fail
          refine HC.out.mono ?_
          rintro e w92 ⟨ts, hts, hT, rfl, hb92⟩
          have HB92 : Hid (Below W.heap.size W w92) := Lib.hid (HB.out.trans (hb92.mono HB.out.size))
          have HT := Lib.hid hT
          have HTS := Lib.hid hts
          obtain ⟨str, hstr⟩ : ∃ str, str = (⟨(litTs ts).toArray⟩ : ByteArray) := ⟨_, rfl⟩
          have HSTR := Lib.hid hstr
          have H11 := Lib.hid (told str w92)
          rw [← hstr]
          clear hb92 hT hts hstr
          go_wp2_with fail
          refine H11.out.mono ?_
          rintro e w93 ⟨rfl, kq, rfl⟩
          go_wp2_with fail
          go_ret2
          refine ⟨ts, HTS.out, HT.out, by rw [HSTR.out]; rfl, below_drewN HB92.out kq⟩

end Go.Proofs.YtbbjjkcjpdmjnaaGreatDoor

/- Walks of the law FnBack: Written, more kinds. -/
namespace Go.Proofs.YtbbjjkcjpdmjnaaGreatDoor
open Go.RowKit

set_option maxRecDepth 100000 in
set_option maxHeartbeats 2000000 in
theorem other_6 (W : World) (A : Option Addr) (ga oa n c : Nat) (es : List (Int)) (hn : es.length = n) (hk : n ≤ 200) (hA : 0 < n → A = some ⟨ga, oa, none⟩) (h : Its W ga oa (es.map mkInt)) (T : Nat → List UInt8 → Prop) (hbd : ∀ e ∈ es, -2147483648 ≤ e ∧ e ≤ 2147483647)
    (hV : ∀ w g cap, Below W.heap.size W w → (∀ (j : Nat) e, es[j]? = some e → w.cell? ⟨g, j, none⟩ = some (Value.int .i32 e)) → Calls Tryz.prog 26 #[.slice (some ⟨g, 0, none⟩) n cap] w (VDone T n w)) :
    Calls Tryz.prog 16 #[.int .i64 6, .slice A n c] W (WDone T n W) := by
  have HE : Hid (∀ (i : Nat) e, es[i]? = some e → (es.map mkInt)[i]? = some (mkInt e)) := Lib.hid (fun i e he => by rw [List.getElem?_map, he]; rfl)
  have HI := Lib.hid h
  have HN := Lib.hid hn
  have HA := Lib.hid hA
  have HV := Lib.hid hV
  have HBD := Lib.hid hbd
  clear h hn hA hV hbd
  go_enter Tryz.func16, Tryz.ntmps16
  go_wp2_with fail
  have HR0 := Lib.hid (Rw.start (W := W) 21 (Below.refl _ _))
  go_wp2_with fail
  go_loopw [9, 11, 44] (fun v _ i_ wr => ∃ i : Nat, i ≤ n ∧ i_ = .int .i64 i ∧ Hid (Rw W 21 wr v ((es.take i).map fun e => Value.int .i32 e))) (fun _ _ i_ _ => n - (intOf i_).toNat)
  case atStart => exact ⟨0, by omega, rfl, HR0⟩
  case round =>
    obtain ⟨i, hi, rfl, hb⟩ := hrel
    by_cases hin : i < n
    · have hA1 := HA.out (by omega)
      obtain ⟨e, he⟩ : ∃ e, es[i]? = some e := ⟨_, List.getElem?_eq_getElem (by rw [HN.out]; exact hin)⟩
      obtain ⟨h0, h1, h2, h3, h4⟩ := HI.out.five i _ (HE.out i e he)
      have hga : ga < W.heap.size := Lib.lt_of_cell h0
      have c0 : wr.cell? ⟨ga, oa + i * 5, none⟩ = some (.bool false) := (hb.out.below.cell (p := ⟨ga, oa + i * 5, none⟩) hga).trans h0
      have c1 : wr.cell? ⟨ga, oa + i * 5 + 1, none⟩ = some (.string ⟨#[]⟩) := (hb.out.below.cell (p := ⟨ga, oa + i * 5 + 1, none⟩) hga).trans h1
      have c2 : wr.cell? ⟨ga, oa + i * 5 + 2, none⟩ = some (.int .i64 e) := (hb.out.below.cell (p := ⟨ga, oa + i * 5 + 2, none⟩) hga).trans h2
      have c3 : wr.cell? ⟨ga, oa + i * 5 + 3, none⟩ = some (.float .f64 0) := (hb.out.below.cell (p := ⟨ga, oa + i * 5 + 3, none⟩) hga).trans h3
      have c4 : wr.cell? ⟨ga, oa + i * 5 + 4, none⟩ = some (.bool false) := (hb.out.below.cell (p := ⟨ga, oa + i * 5 + 4, none⟩) hga).trans h4
      have HR2 := Lib.hid (hb.out.alloc (.cells #[.bool false, .string ⟨#[]⟩, .int .i64 e, .float .f64 0, .bool false] 32))
      have HX := Lib.hid he
      obtain ⟨hb0, hb1⟩ := HBD.out e (List.mem_of_getElem? he)
      have htk : ((es.take i).map fun e => Value.int .i32 e).length ≤ 1000000 := by rw [List.length_map, List.length_take]; omega
      clear h0 h1 h2 h3 h4 he hb
      subst hA1
      go_wp2_with (at_builtin; refine wpList_appV rfl _ _ 57 21 (.int .i32 0) 4 rfl Tryz.underlying57 infoV21 rfl (by decide) HR2.out (Value.int .i32 e) rfl rfl rfl (by simp) htk ?_)
      intro v91 w91 hr91 _
      have HR3 : Hid (Rw W 21 w91 v91 ((es.take (i + 1)).map fun e => Value.int .i32 e)) := Lib.hid (by
        rw [List.take_add_one, HX.out]
        simpa using hr91)
      clear hr91 HR2 
      go_wp2_with fail
      go_roundw
      case rel => exact ⟨i + 1, by omega, by go_num, HR3⟩
      case measure => simp [intOf]; omega
    · obtain rfl : n = i := by omega
      obtain ⟨g, cap, hv, hc⟩ := hb.out.form
      have hlen : ((es.take n).map fun e => Value.int .i32 e).length = n := by rw [List.length_map, List.length_take, HN.out, Nat.min_self]
      rw [hlen] at hv
      subst hv
      have HB := Lib.hid hb.out.below
      have HC := Lib.hid (HV.out _ g cap HB.out (fun j e he => hc j _ (by rw [List.take_of_length_le (by rw [HN.out]; omega), List.getElem?_map, he]; rfl)))
      clear hc hlen hb
      go_wp2_with fail
      refine HC.out.mono ?_
      rintro e w92 ⟨ts, hts, hT, rfl, hb92⟩
      have HB92 : Hid (Below W.heap.size W w92) := Lib.hid (HB.out.trans (hb92.mono HB.out.size))
      have HT := Lib.hid hT
      have HTS := Lib.hid hts
      obtain ⟨str, hstr⟩ : ∃ str, str = (⟨(litTs ts).toArray⟩ : ByteArray) := ⟨_, rfl⟩
      have HSTR := Lib.hid hstr
      have H11 := Lib.hid (told str w92)
      rw [← hstr]
      clear hb92 hT hts hstr
      go_wp2_with fail
      refine H11.out.mono ?_
      rintro e w93 ⟨rfl, kq, rfl⟩
      go_wp2_with fail
      go_ret2
      refine ⟨ts, HTS.out, HT.out, by rw [HSTR.out]; rfl, below_drewN HB92.out kq⟩

end Go.Proofs.YtbbjjkcjpdmjnaaGreatDoor

/- Walks of the law FnBack: Written, more kinds. -/
namespace Go.Proofs.YtbbjjkcjpdmjnaaGreatDoor
open Go.RowKit

set_option maxRecDepth 100000 in
set_option maxHeartbeats 2000000 in
theorem other_7 (W : World) (A : Option Addr) (ga oa n c : Nat) (es : List (Bool × Nat)) (hn : es.length = n) (hk : n ≤ 200) (hA : 0 < n → A = some ⟨ga, oa, none⟩) (h : Its W ga oa (es.map mkReal32)) (T : Nat → List UInt8 → Prop) (hbd : ∀ e ∈ es, e.2 < 2139095040)
    (hV : ∀ w g cap, Below W.heap.size W w → (∀ (j : Nat) e, es[j]? = some e → w.cell? ⟨g, j, none⟩ = some (Value.float .f32 (Ieee.single.word e.1 e.2))) → Calls Tryz.prog 27 #[.slice (some ⟨g, 0, none⟩) n cap] w (VDone T n w)) :
    Calls Tryz.prog 16 #[.int .i64 7, .slice A n c] W (WDone T n W) := by
  have HE : Hid (∀ (i : Nat) e, es[i]? = some e → (es.map mkReal32)[i]? = some (mkReal32 e)) := Lib.hid (fun i e he => by rw [List.getElem?_map, he]; rfl)
  have HI := Lib.hid h
  have HN := Lib.hid hn
  have HA := Lib.hid hA
  have HV := Lib.hid hV
  have HBD := Lib.hid hbd
  clear h hn hA hV hbd
  go_enter Tryz.func16, Tryz.ntmps16
  go_wp2_with fail
  have HR0 := Lib.hid (Rw.start (W := W) 49 (Below.refl _ _))
  go_wp2_with fail
  go_loopw [12, 14, 74] (fun v _ i_ wr => ∃ i : Nat, i ≤ n ∧ i_ = .int .i64 i ∧ Hid (Rw W 49 wr v ((es.take i).map fun e => Value.float .f32 (Ieee.single.word e.1 e.2)))) (fun _ _ i_ _ => n - (intOf i_).toNat)
  case atStart => exact ⟨0, by omega, rfl, HR0⟩
  case round =>
    obtain ⟨i, hi, rfl, hb⟩ := hrel
    by_cases hin : i < n
    · have hA1 := HA.out (by omega)
      obtain ⟨e, he⟩ : ∃ e, es[i]? = some e := ⟨_, List.getElem?_eq_getElem (by rw [HN.out]; exact hin)⟩
      obtain ⟨h0, h1, h2, h3, h4⟩ := HI.out.five i _ (HE.out i e he)
      have hga : ga < W.heap.size := Lib.lt_of_cell h0
      have c0 : wr.cell? ⟨ga, oa + i * 5, none⟩ = some (.bool false) := (hb.out.below.cell (p := ⟨ga, oa + i * 5, none⟩) hga).trans h0
      have c1 : wr.cell? ⟨ga, oa + i * 5 + 1, none⟩ = some (.string ⟨#[]⟩) := (hb.out.below.cell (p := ⟨ga, oa + i * 5 + 1, none⟩) hga).trans h1
      have c2 : wr.cell? ⟨ga, oa + i * 5 + 2, none⟩ = some (.int .i64 0) := (hb.out.below.cell (p := ⟨ga, oa + i * 5 + 2, none⟩) hga).trans h2
      have c3 : wr.cell? ⟨ga, oa + i * 5 + 3, none⟩ = some (.float .f64 (Ieee.double.word e.1 (Fl.wideR e.2))) := (hb.out.below.cell (p := ⟨ga, oa + i * 5 + 3, none⟩) hga).trans h3
      have c4 : wr.cell? ⟨ga, oa + i * 5 + 4, none⟩ = some (.bool false) := (hb.out.below.cell (p := ⟨ga, oa + i * 5 + 4, none⟩) hga).trans h4
      have HR2 := Lib.hid (hb.out.alloc (.cells #[.bool false, .string ⟨#[]⟩, .int .i64 0, .float .f64 (Ieee.double.word e.1 (Fl.wideR e.2)), .bool false] 32))
      have HX := Lib.hid he
      have hcv := conv_narrow e.1 e.2 (HBD.out e (List.mem_of_getElem? he))
      have htk : ((es.take i).map fun e => Value.float .f32 (Ieee.single.word e.1 e.2)).length ≤ 1000000 := by rw [List.length_map, List.length_take]; omega
      clear h0 h1 h2 h3 h4 he hb
      subst hA1
      go_wp2_with (at_builtin; refine wpList_appV rfl _ _ 59 49 (.float .f32 0) 4 rfl Tryz.underlying59 infoV49 rfl (by decide) HR2.out (Value.float .f32 (Ieee.single.word e.1 e.2)) rfl rfl rfl (by simp) htk ?_)
      intro v91 w91 hr91 _
      have HR3 : Hid (Rw W 49 w91 v91 ((es.take (i + 1)).map fun e => Value.float .f32 (Ieee.single.word e.1 e.2))) := Lib.hid (by
        rw [List.take_add_one, HX.out]
        simpa using hr91)
      clear hr91 HR2 
      go_wp2_with fail
      go_roundw
      case rel => exact ⟨i + 1, by omega, by go_num, HR3⟩
      case measure => simp [intOf]; omega
    · obtain rfl : n = i := by omega
      obtain ⟨g, cap, hv, hc⟩ := hb.out.form
      have hlen : ((es.take n).map fun e => Value.float .f32 (Ieee.single.word e.1 e.2)).length = n := by rw [List.length_map, List.length_take, HN.out, Nat.min_self]
      rw [hlen] at hv
      subst hv
      have HB := Lib.hid hb.out.below
      have HC := Lib.hid (HV.out _ g cap HB.out (fun j e he => hc j _ (by rw [List.take_of_length_le (by rw [HN.out]; omega), List.getElem?_map, he]; rfl)))
      clear hc hlen hb
      go_wp2_with fail
      refine HC.out.mono ?_
      rintro e w92 ⟨ts, hts, hT, rfl, hb92⟩
      have HB92 : Hid (Below W.heap.size W w92) := Lib.hid (HB.out.trans (hb92.mono HB.out.size))
      have HT := Lib.hid hT
      have HTS := Lib.hid hts
      obtain ⟨str, hstr⟩ : ∃ str, str = (⟨(litTs ts).toArray⟩ : ByteArray) := ⟨_, rfl⟩
      have HSTR := Lib.hid hstr
      have H11 := Lib.hid (told str w92)
      rw [← hstr]
      clear hb92 hT hts hstr
      go_wp2_with fail
      refine H11.out.mono ?_
      rintro e w93 ⟨rfl, kq, rfl⟩
      go_wp2_with fail
      go_ret2
      refine ⟨ts, HTS.out, HT.out, by rw [HSTR.out]; rfl, below_drewN HB92.out kq⟩

end Go.Proofs.YtbbjjkcjpdmjnaaGreatDoor

/- Walks of the law FnBack: Written of rows of bytes; the kinds that Written hands on. -/
namespace Go.Proofs.YtbbjjkcjpdmjnaaGreatDoor
open Go.RowKit

/-- Slices that read as texts, each at the head of its block. -/
def BRow (w : World) (xs : List Value) (ls : List (List UInt8)) : Prop := xs.length = ls.length ∧ ∀ (j : Nat) v l, xs[j]? = some v → ls[j]? = some l → ∃ g cc, v = .slice (some ⟨g, 0, none⟩) l.length cc ∧ Elem w v l
theorem BRow.nil (w : World) : BRow w [] [] := ⟨rfl, fun j v l hv _ => by simp at hv⟩
theorem BRow.keep {w w' : World} {xs : List Value} {ls : List (List UInt8)} (h : BRow w xs ls) (k : Keeps5 w w') : BRow w' xs ls :=
  ⟨h.1, fun j v l hv hl => by obtain ⟨g, cc, h1, h2⟩ := h.2 j v l hv hl; exact ⟨g, cc, h1, h2.keep k⟩⟩
theorem BRow.snoc {w : World} {xs : List Value} {ls : List (List UInt8)} (h : BRow w xs ls) {g cc : Nat} {l : List UInt8} (he : Elem w (.slice (some ⟨g, 0, none⟩) l.length cc) l) : BRow w (xs ++ [.slice (some ⟨g, 0, none⟩) l.length cc]) (ls ++ [l]) := by
  obtain ⟨h1, h2⟩ := h
  refine ⟨by simp [h1], fun j v m hv hm => ?_⟩
  rcases Nat.lt_or_ge j xs.length with hj | hj
  · rw [List.getElem?_append_left hj] at hv
    rw [List.getElem?_append_left (by omega)] at hm
    exact h2 j v m hv hm
  · rw [List.getElem?_append_right hj] at hv
    rw [List.getElem?_append_right (by omega)] at hm
    obtain h0 | h0 : j - xs.length = 0 ∨ 1 ≤ j - xs.length := by omega
    · rw [h0] at hv
      rw [← h1, h0] at hm
      simp at hv hm
      subst hv hm
      exact ⟨g, cc, rfl, he⟩
    · rw [List.getElem?_eq_none (by simpa using h0)] at hv; cases hv

set_option maxRecDepth 100000 in
set_option maxHeartbeats 2000000 in
theorem other_5 (W : World) (A : Option Addr) (ga oa n c : Nat) (es : List (List UInt8)) (hn : es.length = n) (hk : n ≤ 200) (hA : 0 < n → A = some ⟨ga, oa, none⟩) (h : Its W ga oa (es.map mkText)) (T : Nat → List UInt8 → Prop)
    (hV : ∀ w g cap, Below W.heap.size W w → (∀ (j : Nat) e, es[j]? = some e → ∃ g' cc, w.cell? ⟨g, j, none⟩ = some (.slice (some ⟨g', 0, none⟩) e.length cc) ∧ Elem w (.slice (some ⟨g', 0, none⟩) e.length cc) e) → Calls Tryz.prog 25 #[.slice (some ⟨g, 0, none⟩) n cap] w (VDone T n w)) :
    Calls Tryz.prog 16 #[.int .i64 5, .slice A n c] W (WDone T n W) := by
  have HE : Hid (∀ (i : Nat) e, es[i]? = some e → (es.map mkText)[i]? = some (mkText e)) := Lib.hid (fun i e he => by rw [List.getElem?_map, he]; rfl)
  have HI := Lib.hid h
  have HN := Lib.hid hn
  have HA := Lib.hid hA
  have HV := Lib.hid hV
  clear h hn hA hV
  go_enter Tryz.func16, Tryz.ntmps16
  go_wp2_with fail
  have HR0 := Lib.hid (Rw.start (W := W) 50 (Below.refl _ _))
  have HB0 := Lib.hid (BRow.nil (W.alloc (.cells #[] 50)))
  go_wp2_with fail
  go_loopw [6, 8, 21] (fun v _ i_ wr => ∃ (i : Nat) (xs : List Value), i ≤ n ∧ i_ = .int .i64 i ∧ Hid (Rw W 50 wr v xs) ∧ Hid (BRow wr xs (es.take i))) (fun _ _ i_ _ => n - (intOf i_).toNat)
  case atStart => exact ⟨0, [], by omega, rfl, HR0, HB0⟩
  case round =>
    obtain ⟨i, xs, hi, rfl, hb, hbr⟩ := hrel
    by_cases hin : i < n
    · have hA1 := HA.out (by omega)
      obtain ⟨e, he⟩ : ∃ e, es[i]? = some e := ⟨_, List.getElem?_eq_getElem (by rw [HN.out]; exact hin)⟩
      obtain ⟨h0, h1, h2, h3, h4⟩ := HI.out.five i _ (HE.out i e he)
      have hga : ga < W.heap.size := Lib.lt_of_cell h0
      have c0 : wr.cell? ⟨ga, oa + i * 5, none⟩ = some (.bool false) := (hb.out.below.cell (p := ⟨ga, oa + i * 5, none⟩) hga).trans h0
      have c1 : wr.cell? ⟨ga, oa + i * 5 + 1, none⟩ = some (.string ⟨e.toArray⟩) := (hb.out.below.cell (p := ⟨ga, oa + i * 5 + 1, none⟩) hga).trans h1
      have c2 : wr.cell? ⟨ga, oa + i * 5 + 2, none⟩ = some (.int .i64 0) := (hb.out.below.cell (p := ⟨ga, oa + i * 5 + 2, none⟩) hga).trans h2
      have c3 : wr.cell? ⟨ga, oa + i * 5 + 3, none⟩ = some (.float .f64 0) := (hb.out.below.cell (p := ⟨ga, oa + i * 5 + 3, none⟩) hga).trans h3
      have c4 : wr.cell? ⟨ga, oa + i * 5 + 4, none⟩ = some (.bool false) := (hb.out.below.cell (p := ⟨ga, oa + i * 5 + 4, none⟩) hga).trans h4
      obtain ⟨wr1, hwr1⟩ : ∃ wr1, wr1 = wr.alloc (.cells #[.bool false, .string ⟨e.toArray⟩, .int .i64 0, .float .f64 0, .bool false] 32) := ⟨_, rfl⟩
      have hcv := Lib.run_convert_string_bytes (P := Tryz.prog) wr1 9 50 5 ⟨e.toArray⟩ Tryz.underlying9 Tryz.underlying50 Tryz.underlying5
      have hsz : (⟨e.toArray⟩ : ByteArray).size = e.length := by simp [ByteArray.size]
      rw [hsz] at hcv
      have hel := elem_bytesWorld wr1 e
      have hbw := below_bytesW wr1 ⟨e.toArray⟩
      have hb1 : Below wr.heap.size wr wr1 := by rw [hwr1]; exact (Below.refl _ _).alloc (Nat.le_refl _) _
      have HR2 := Lib.hid ((hb.out.same hb1).same hbw)
      have HB2 := Lib.hid ((hbr.out.keep (Keeps5.below hb1)).keep (Keeps5.below hbw))
      have HEL := Lib.hid hel
      have HX := Lib.hid he
      obtain ⟨w2, hw2⟩ : ∃ w2, w2 = Lib.bytesWorld wr1 5 ⟨e.toArray⟩ := ⟨_, rfl⟩
      obtain ⟨cc, hcc⟩ : ∃ cc, cc = grownCap wr1 e.length 0 5 := ⟨_, rfl⟩
      rw [← hw2, ← hcc] at hcv HEL
      rw [← hw2] at HR2 HB2
      have hw1s : wr1.heap.size = wr.heap.size + 1 := by rw [hwr1]; simp
      rw [hw1s] at hcv HEL
      rw [hwr1] at hcv
      have hxl : xs.length ≤ 1000000 := by rw [hbr.out.1, List.length_take]; omega
      clear h0 h1 h2 h3 h4 he hb hbr hel hbw hb1 hw2 hcc hwr1 hw1s hsz
      subst hA1
      go_wp2_with (at_builtin; refine wpList_appV rfl _ _ 55 50 (.slice none 0 0) 24 rfl Tryz.underlying55 info50 rfl (by decide) HR2.out (.slice (some ⟨wr.heap.size + 1, 0, none⟩) e.length cc) rfl rfl rfl (by simp) hxl ?_)
      intro v91 w91 hr91 hg91
      have HR3 := Lib.hid hr91
      have HB3 : Hid (BRow w91 (xs ++ [.slice (some ⟨wr.heap.size + 1, 0, none⟩) e.length cc]) (es.take (i + 1))) := Lib.hid (by
        have hk : Keeps5 w2 w91 := (Keeps5.below ((Below.refl _ _).alloc (Nat.le_refl _) _)).trans (Keeps5.grown hg91 (HR2.out.own.alloc _) (by decide))
        have := (HB2.out.keep hk).snoc (HEL.out.keep hk)
        rw [List.take_add_one, HX.out]
        exact this)
      clear hr91 hg91 HR2 HB2 hcv HEL
      go_wp2_with fail
      go_roundw
      case rel => exact ⟨i + 1, _, by omega, by go_num, HR3, HB3⟩
      case measure => simp [intOf]; omega
    · obtain rfl : n = i := by omega
      obtain ⟨g, cap, hv, hc⟩ := hb.out.form
      have hlen : xs.length = n := by rw [hbr.out.1, List.length_take, HN.out, Nat.min_self]
      rw [hlen] at hv
      subst hv
      have HB := Lib.hid hb.out.below
      have HC := Lib.hid (HV.out _ g cap HB.out (fun j e he => by
        have hj : j < xs.length := by rw [hlen, ← HN.out]; exact (List.getElem?_eq_some_iff.1 he).1
        obtain ⟨g', cc, h1, h2⟩ := hbr.out.2 j _ e (List.getElem?_eq_getElem hj) (by rw [List.take_of_length_le (by rw [HN.out]; omega)]; exact he)
        rw [h1] at h2
        exact ⟨g', cc, hc j _ (by rw [List.getElem?_eq_getElem hj, h1]), h2⟩))
      clear hc hlen hb hbr
      go_wp2_with fail
      refine HC.out.mono ?_
      rintro e w92 ⟨ts, hts, hT, rfl, hb92⟩
      have HB92 : Hid (Below W.heap.size W w92) := Lib.hid (HB.out.trans (hb92.mono HB.out.size))
      have HT := Lib.hid hT
      have HTS := Lib.hid hts
      obtain ⟨str, hstr⟩ : ∃ str, str = (⟨(litTs ts).toArray⟩ : ByteArray) := ⟨_, rfl⟩
      have HSTR := Lib.hid hstr
      have H11 := Lib.hid (told str w92)
      rw [← hstr]
      clear hb92 hT hts hstr
      go_wp2_with fail
      refine H11.out.mono ?_
      rintro e w93 ⟨rfl, kq, rfl⟩
      go_wp2_with fail
      go_ret2
      refine ⟨ts, HTS.out, HT.out, by rw [HSTR.out]; rfl, below_drewN HB92.out kq⟩

set_option maxRecDepth 100000 in
set_option maxHeartbeats 2000000 in
theorem written_via (κ : Int) (hκ : κ = 5 ∨ κ = 6 ∨ κ = 7) (W : World) (A : Option Addr) (ga oa n c : Nat) (its : List It) (hn : its.length = n) (hk : n ≤ 200) (hA : 0 < n → A = some ⟨ga, oa, none⟩) (h : Its W ga oa its) (hnul : ∀ x ∈ its, x.nul = false) (T : Nat → List UInt8 → Prop)
    (hO : ∀ w, Below W.heap.size W w → Calls Tryz.prog 16 #[.int .i64 κ, .slice A n c] w (WDone T n w)) :
    Calls Tryz.prog 6 #[.int .i64 κ, .slice A n c] W (WDone T n W) := by
  have hκ0 : 5 ≤ κ := by omega
  have hκ1 : κ ≤ 7 := by omega
  have HI := Lib.hid h
  have HN := Lib.hid hn
  have HA := Lib.hid hA
  have HO := Lib.hid hO
  have HNUL := Lib.hid hnul
  clear h hn hA hO hnul hκ
  go_enter Tryz.func6, Tryz.ntmps6
  go_wp2_with fail
  go_loopw [7, 22] (fun _ v22 wr => ∃ i : Nat, i ≤ n ∧ v22 = .int .i64 i ∧ Hid (Below W.heap.size W wr)) (fun _ v22 _ => n - (intOf v22).toNat)
  case atStart => exact ⟨0, by omega, rfl, Lib.hid (Below.refl _ _)⟩
  case round =>
    obtain ⟨i, hi, rfl, hb⟩ := hrel
    by_cases hin : i < n
    · have hA1 := HA.out (by omega)
      obtain ⟨x, hx⟩ : ∃ x, its[i]? = some x := ⟨_, List.getElem?_eq_getElem (by rw [HN.out]; exact hin)⟩
      have hxn := HNUL.out x (List.mem_of_getElem? hx)
      obtain ⟨h0, h1, h2, h3, h4⟩ := HI.out.five i x hx
      rw [hxn] at h0
      have hga : ga < W.heap.size := Lib.lt_of_cell h0
      have c0 := (hb.out.cell (p := ⟨ga, oa + i * 5, none⟩) hga).trans h0
      have c1 := (hb.out.cell (p := ⟨ga, oa + i * 5 + 1, none⟩) hga).trans h1
      have c2 := (hb.out.cell (p := ⟨ga, oa + i * 5 + 2, none⟩) hga).trans h2
      have c3 := (hb.out.cell (p := ⟨ga, oa + i * 5 + 3, none⟩) hga).trans h3
      have c4 := (hb.out.cell (p := ⟨ga, oa + i * 5 + 4, none⟩) hga).trans h4
      have HB2 : Hid (Below W.heap.size W (wr.alloc (.cells #[.bool false, .string x.text, .int .i64 x.num, .float .f64 x.real, .bool x.tru] 32))) := Lib.hid (hb.out.alloc hb.out.size _)
      clear h0 h1 h2 h3 h4 hx hxn
      subst hA1
      go_wp2_with fail
      go_roundw
      case rel => exact ⟨i + 1, by omega, by go_num, HB2⟩
      case measure => simp [intOf]; omega
    · obtain rfl : n = i := by omega
      have HC := Lib.hid (HO.out wr hb.out)
      go_wp2_with fail
      refine HC.out.mono ?_
      rintro e w92 ⟨ts, hts, hT, rfl, hb92⟩
      have HF : Hid (WDone T n W (.returned (.tuple #[.string ⟨(litTs ts).toArray⟩, .bool true])) w92) := Lib.hid ⟨ts, hts, hT, rfl, hb.out.trans (hb92.mono hb.out.size)⟩
      clear hb92 hT hts
      go_wp2_with fail
      go_ret2
      exact HF.out
end Go.Proofs.YtbbjjkcjpdmjnaaGreatDoor
