/- Walks of the law FnBack: the scanBytes of the arrays. -/
import Derived.Test.YtbbjjkcjpdmjnaaGreatDoorZl
import Derived.Deep.OwnRows
import Derived.WalkSpells
import Derived.Lib.SliceRun
namespace Go.Proofs.YtbbjjkcjpdmjnaaGreatDoor
open Go.RowKit

@[go_sem] theorem run_store_float (P : Program) (w : World) (a : Addr) (m : Mode) (k : FloatKind) (b : Nat) : (store a (.float k b) m).run P w = stored P w a (.float k b) m := run_store P w a _ m rfl

/-- A row of values that lies at the head of a block. -/
def RowAt (w : World) (te : TypeId) (A : Option Addr) (vals : List Value) : Prop := 0 < vals.length → ∃ gb cs, A = some ⟨gb, 0, none⟩ ∧ w.heap[gb]? = some (.cells cs te (0, 0)) ∧ ∀ (j : Nat) u, vals[j]? = some u → cs[j]? = some u

/-- What a scanBytes leaves: the variable behind its pointer holds the row. -/
def SDone (W : World) (p : Nat) (ta te : TypeId) (vals : List Value) (e : Ending) (w' : World) : Prop :=
  e = .returned .nilIface ∧ W.grownBy w' (some p) ∧ ∃ A c, w'.heap[p]? = some (.cells #[.slice A vals.length c] ta (0, 0)) ∧ RowAt w' te A vals

theorem heap_lt {w : World} {k : Nat} {o : Obj} (h : w.heap[k]? = some o) : k < w.heap.size := by
  rcases Nat.lt_or_ge k w.heap.size with h1 | h1
  · exact h1
  · rw [Array.getElem?_eq_none h1] at h; cases h

/-- A row of n cells being filled: i of them hold what they shall. -/
def Fill (w : World) (gb : Nat) (te : TypeId) (n : Nat) (vals : List Value) (i : Nat) : Prop := ∃ cs, w.heap[gb]? = some (.cells cs te (0, 0)) ∧ cs.size = n ∧ ∀ j, j < i → cs[j]? = vals[j]?
theorem Fill.keep {w w' : World} {gb : Nat} {te : TypeId} {n : Nat} {vals : List Value} {i : Nat} (h : Fill w gb te n vals i) (hb : Below w.heap.size w w') : Fill w' gb te n vals i := by
  obtain ⟨cs, h1, h2, h3⟩ := h
  exact ⟨cs, (hb.block gb (heap_lt h1)).trans h1, h2, h3⟩
theorem Fill.start (w : World) (te : TypeId) (z : Value) (n : Nat) (vals : List Value) : Fill (w.alloc (.cells (madeCells #[z] n) te)) w.heap.size te n vals 0 := ⟨_, heap_alloc_new w _, by simp [madeCells], fun j hj => absurd hj (by omega)⟩
theorem Fill.cell {w : World} {gb : Nat} {te : TypeId} {n : Nat} {vals : List Value} {i : Nat} (h : Fill w gb te n vals i) (hi : i < n) : (∃ u, w.cell? ⟨gb, i, none⟩ = some u) ∧ w.frozen? ⟨gb, i, none⟩ = false := by
  obtain ⟨cs, h1, h2, h3⟩ := h
  exact ⟨⟨cs[i]'(by omega), by rw [cell_of_row _ _ _ _ _ _ h1]; exact Array.getElem?_eq_getElem (by omega)⟩, by simp [World.frozen?, h1]⟩
theorem Fill.step {w : World} {gb : Nat} {te : TypeId} {n : Nat} {vals : List Value} {i : Nat} (h : Fill w gb te n vals i) (hi : i < n) (u : Value) (hu : vals[i]? = some u) : Fill (w.setCell ⟨gb, i, none⟩ u) gb te n vals (i + 1) := by
  obtain ⟨cs, h1, h2, h3⟩ := h
  refine ⟨cs.setIfInBounds i u, ?_, by simpa using h2, fun j hj => ?_⟩
  · simp only [World.setCell, Array.getElem?_modify, if_pos, h1, Option.map_some]
    rfl
  · rw [Array.getElem?_setIfInBounds]
    by_cases hij : i = j
    · subst hij
      rw [if_pos rfl, if_pos (by omega), hu]
    · rw [if_neg hij]
      exact h3 j (by omega)

/-- The world behind the last store. -/
theorem sdone {W w1 wr : World} {p : Nat} {ta te : TypeId} {n : Nat} {vals : List Value} (hp : W.heap[p]? = some (.cells #[.slice none 0 0] ta (0, 0))) (hb : Below W.heap.size W w1) (hb2 : Below w1.heap.size w1 wr) (hf : Fill wr w1.heap.size te n vals n) (hn : vals.length = n) :
    SDone W p ta te vals (.returned .nilIface) (wr.setCell ⟨p, 0, none⟩ (.slice (some ⟨w1.heap.size, 0, none⟩) n n)) := by
  have hpl := heap_lt hp
  have hps := hb.size
  have hpr : wr.heap[p]? = some (.cells #[.slice none 0 0] ta (0, 0)) := (hb2.block p (by omega)).trans ((hb.block p hpl).trans hp)
  obtain ⟨cs, h1, h2, h3⟩ := hf
  refine ⟨rfl, ⟨hb2.os.trans hb.os, hb2.tape.trans hb.tape, hb2.output.trans hb.output, by simp [World.setCell]; have := hb2.size; omega, fun k hk hne => ?_⟩, some ⟨w1.heap.size, 0, none⟩, n, ?_, fun _ => ⟨w1.heap.size, cs, rfl, ?_, fun j u hj => ?_⟩⟩
  · exact (Below.heap_setCell _ _ _ _ (fun e => hne (by rw [e]))).trans ((hb2.block k (by omega)).trans (hb.block k hk))
  · rw [hn]
    simp only [World.setCell, Array.getElem?_modify, if_pos, hpr, Option.map_some]
    rfl
  · exact (Below.heap_setCell _ _ _ _ (fun e => by simp at e; omega)).trans h1
  · rw [h3 j (by have := (List.getElem?_eq_some_iff.1 hj).1; omega)]
    exact hj

theorem tabF_below {w w' : World} (h : TabF w) (hb : Below w.heap.size w w') : TabF w' := by
  obtain ⟨h8, a, c, h13, hel⟩ := h
  refine ⟨(hb.cell (p := ⟨8, 0, none⟩) (Lib.lt_of_cell h8)).trans h8, a, c, (hb.cell (p := ⟨13, 0, none⟩) (Lib.lt_of_cell h13)).trans h13, fun i hi => ?_⟩
  have := hel i hi
  exact (hb.cell (Lib.lt_of_cell this)).trans this
theorem tabF32_below {w w' : World} (h : TabF32 w) (hb : Below w.heap.size w w') : TabF32 w' := by
  obtain ⟨a, c, h13, hel⟩ := h
  refine ⟨a, c, (hb.cell (p := ⟨11, 0, none⟩) (Lib.lt_of_cell h13)).trans h13, fun i hi => ?_⟩
  have := hel i hi
  exact (hb.cell (Lib.lt_of_cell this)).trans this

theorem below_bytesW (w : World) (t : ByteArray) : Below w.heap.size w (Lib.bytesWorld w 5 t) :=
  ⟨rfl, rfl, rfl, by rw [Lib.bytesWorld_size]; omega, fun k hk => Lib.bytesWorld_at_old w 5 t k hk⟩

theorem infoEint64 : (Tryz.prog.info? 2).map (fun i => (i.zero, i.size, i.bytes)) = some (some (.int .i64 0), 1, 8) := by kernel_rfl
set_option maxRecDepth 100000 in
set_option maxHeartbeats 4000000 in
theorem scanBytes_int64 (W : World) (p g cap : Nat) (s : List UInt8) (toks : List Tok) (vals : List Value) (ns : List Int) (hs : s = litOf toks) (hok : ∀ t ∈ toks, t.Ok) (hcap : s.length ≤ cap) (hlen : s.length ≤ 1000000) (hk : toks.length ≤ 1000) (hv : vals.length = toks.length)
    (hE : Elem W (.slice (some ⟨g, 0, none⟩) s.length cap) s) (hp : W.heap[p]? = some (.cells #[.slice none 0 0] 43 (0, 0))) (hvals : vals = ns.map (Value.int .i64)) (hpar : ∀ (j : Nat) l n, (toks.map Tok.val)[j]? = some l → ns[j]? = some n → Lib.parseIntB 64 l = .ok n) (hll : ∀ l ∈ toks.map Tok.val, l.length ≤ 100000) :
    Calls Tryz.prog 30 #[.pointer (some ⟨p, 0, none⟩), .slice (some ⟨g, 0, none⟩) s.length cap] W (SDone W p 43 2 vals) := by
  have hb0 : Below W.heap.size W (W.alloc (.cells #[.int .u8 44] 5)) := (Below.refl _ _).alloc (Nat.le_refl _) _
  have hD : Elem (W.alloc (.cells #[.int .u8 44] 5)) (.slice (some ⟨W.heap.size, 0, none⟩) 1 1) [44] := ⟨W.heap.size, 0, 1, _, _, rfl, by decide, heap_alloc_new W _, fun j hj => by
    have : j = 0 := by simp at hj; omega
    subst this; rfl⟩
  have HSL := Lib.hid (scanLinear (W.alloc (.cells #[.int .u8 44] 5)) s toks g cap W.heap.size 1 ⟨#[73, 110, 116, 54, 52, 65, 114, 114, 97, 121]⟩ hs hok hcap hlen hk (hE.keep (Keeps5.below hb0)) hD)
  have HB0 := Lib.hid hb0
  have HP := Lib.hid hp
  have HV := Lib.hid hv
  have HPAR := Lib.hid hpar
  have HVALS := Lib.hid hvals
  have HLL := Lib.hid hll
  have HPL := heap_lt hp
  have hmk := fun w => run_make_row' (P := Tryz.prog) 43 2 (.int .i64 0) 8 Tryz.underlying43 infoEint64 rfl .i64 .i64 toks.length (by omega) (by omega) w
  have HMK := Lib.hid hmk
  clear hb0 hD hs hok hE hp hv hmk hpar hvals hll
  go_enter Tryz.func30, Tryz.ntmps30
  go_wp2_with fail
  refine HSL.out.mono ?_
  rintro e w1 ⟨A, n0, c0, xs, rfl, hn0, hb1, hel, hA⟩
  have hn : n0 = toks.length := by rw [hn0]; simp
  clear hn0
  subst hn
  have hbw1 : Below W.heap.size W w1 := HB0.out.trans (hb1.mono (by simp))
  have hpc : w1.cell? ⟨p, 0, none⟩ = some (.slice none 0 0) := by
    rw [hbw1.cell (p := ⟨p, 0, none⟩) HPL, cell_of_row _ _ _ _ _ _ HP.out]; rfl
  have HBW1 := Lib.hid hbw1
  have HEL := Lib.hid hel
  have HA := Lib.hid hA
  clear hb1 hel hA hbw1 HSL
  have hmk := HMK.out
  go_wp2_with fail
  clear hmk hpc
  go_loopw [39] (fun v39 wr => ∃ i : Nat, i ≤ toks.length ∧ v39 = .int .i64 i ∧ Hid (Below w1.heap.size w1 wr) ∧ Hid (Fill wr w1.heap.size 2 toks.length vals i)) (fun v39 _ => toks.length - (intOf v39).toNat)
  case atStart => exact ⟨0, by omega, rfl, Lib.hid ((Below.refl _ _).alloc (Nat.le_refl _) _), Lib.hid (Fill.start w1 2 (.int .i64 0) toks.length vals)⟩
  case round =>
    obtain ⟨i, hi, rfl, hbr, hfl⟩ := hrel
    by_cases hin : i < toks.length
    · obtain ⟨ge, hAe, hcells⟩ := HA.out (by omega)
      subst hAe
      obtain ⟨l, hl⟩ : ∃ l, (toks.map Tok.val)[i]? = some l := ⟨_, List.getElem?_eq_getElem (by simpa using hin)⟩
      obtain ⟨x, hx⟩ : ∃ x, xs[i]? = some x := ⟨_, List.getElem?_eq_getElem (by rw [HEL.out.1]; simpa using hin)⟩
      obtain ⟨y, hy⟩ : ∃ y, vals[i]? = some y := ⟨_, List.getElem?_eq_getElem (by rw [HV.out]; exact hin)⟩
      have hcx := hcells i x hx
      have hcx2 : wr.cell? ⟨ge, i, none⟩ = some x := (hbr.out.cell (p := ⟨ge, i, none⟩) (Lib.lt_of_cell hcx)).trans hcx
      have hex : Elem wr x l := (HEL.out.2 i x l hx hl).keep (Keeps5.below hbr.out)
      obtain ⟨gx, ox, cx, hxf, hxl, hxc⟩ := hex.form
      have hstr := hex.string
      obtain ⟨nz, hnz, hyz⟩ : ∃ nz, ns[i]? = some nz ∧ y = .int .i64 nz := by
        rw [HVALS.out, List.getElem?_map] at hy
        cases hns : ns[i]? with
        | none => rw [hns] at hy; cases hy
        | some nz => rw [hns] at hy; exact ⟨nz, rfl, (Option.some.inj hy).symm⟩
      have hpz := HPAR.out i l nz hl hnz
      have hls := HLL.out l (List.mem_of_getElem? hl)
      have HCALL := Lib.hid (Tryz.strconv_ParseInt_10_at64_ok ⟨l.toArray⟩ (by simp [ByteArray.size]; omega) nz (by simpa using hpz) wr)
      generalize (⟨l.toArray⟩ : ByteArray) = ls at hstr HCALL
      subst hyz
      clear hnz hpz hxf hxl hxc hls
      have HY := Lib.hid hy
      have HEX := Lib.hid hex
      clear hl hx hy hcx hex hcells
      go_wp2_with fail
      refine HCALL.out.mono ?_
      rintro e w5 ⟨rfl, hw5⟩
      have hb5 : Below wr.heap.size wr w5 := by
        rcases hw5 with rfl | ⟨t, rfl⟩
        · exact Below.refl _ _
        · exact below_bytesW wr t
      have hf5 := hfl.out.keep hb5
      obtain ⟨⟨u0, hu0⟩, hu1⟩ := hf5.cell hin
      have HB6 : Hid (Below w1.heap.size w1 (w5.setCell ⟨w1.heap.size, i, none⟩ (.int .i64 nz))) := Lib.hid ((hbr.out.trans (hb5.mono hbr.out.size)).setCell (Nat.le_refl _) _)
      have HF6 := Lib.hid (hf5.step hin (.int .i64 nz) HY.out)
      clear hb5 hf5 hw5 hbr hfl
      go_wp2_with fail
      go_roundw
      case rel => exact ⟨i + 1, by omega, by go_num, HB6, HF6⟩
      case measure => simp [intOf]; omega
    · obtain rfl : i = toks.length := by omega
      have hpr : wr.cell? ⟨p, 0, none⟩ = some (.slice none 0 0) ∧ wr.frozen? ⟨p, 0, none⟩ = false := by
        have h : wr.heap[p]? = some (.cells #[.slice none 0 0] 43 (0, 0)) := (hbr.out.block p (by have := HBW1.out.size; omega)).trans ((HBW1.out.block p HPL).trans HP.out)
        exact ⟨by rw [cell_of_row _ _ _ _ _ _ h]; rfl, by simp [World.frozen?, h]⟩
      obtain ⟨hpr1, hpr2⟩ := hpr
      have HF := Lib.hid (sdone HP.out HBW1.out hbr.out hfl.out HV.out)
      clear hbr hfl
      go_wp2_with fail
      go_ret
      exact HF.out

theorem infoEfloat64 : (Tryz.prog.info? 30).map (fun i => (i.zero, i.size, i.bytes)) = some (some (.float .f64 0), 1, 8) := by kernel_rfl
set_option maxRecDepth 100000 in
set_option maxHeartbeats 4000000 in
theorem scanBytes_float64 (W : World) (p g cap : Nat) (s : List UInt8) (toks : List Tok) (vals : List Value) (ns : List (Bool × Nat)) (hs : s = litOf toks) (hok : ∀ t ∈ toks, t.Ok) (hcap : s.length ≤ cap) (hlen : s.length ≤ 1000000) (hk : toks.length ≤ 1000) (hv : vals.length = toks.length)
    (hE : Elem W (.slice (some ⟨g, 0, none⟩) s.length cap) s) (hp : W.heap[p]? = some (.cells #[.slice none 0 0] 45 (0, 0))) (hvals : vals = ns.map (fun x => Value.float .f64 (Ieee.double.word x.1 x.2))) (hpar : ∀ (j : Nat) l n, (toks.map Tok.val)[j]? = some l → ns[j]? = some n → IsText64 n.1 n.2 l ∧ n.2 < 9218868437227405312) (hT : Tab W) (hTF : TabF W) (hO : W.cell? ⟨0, 0, none⟩ = some (.bool true)) :
    Calls Tryz.prog 31 #[.pointer (some ⟨p, 0, none⟩), .slice (some ⟨g, 0, none⟩) s.length cap] W (SDone W p 45 30 vals) := by
  have hb0 : Below W.heap.size W (W.alloc (.cells #[.int .u8 44] 5)) := (Below.refl _ _).alloc (Nat.le_refl _) _
  have hD : Elem (W.alloc (.cells #[.int .u8 44] 5)) (.slice (some ⟨W.heap.size, 0, none⟩) 1 1) [44] := ⟨W.heap.size, 0, 1, _, _, rfl, by decide, heap_alloc_new W _, fun j hj => by
    have : j = 0 := by simp at hj; omega
    subst this; rfl⟩
  have HSL := Lib.hid (scanLinear (W.alloc (.cells #[.int .u8 44] 5)) s toks g cap W.heap.size 1 ⟨#[70, 108, 111, 97, 116, 54, 52, 65, 114, 114, 97, 121]⟩ hs hok hcap hlen hk (hE.keep (Keeps5.below hb0)) hD)
  have HB0 := Lib.hid hb0
  have HP := Lib.hid hp
  have HV := Lib.hid hv
  have HPAR := Lib.hid hpar
  have HVALS := Lib.hid hvals
  have HT := Lib.hid hT
  have HTF := Lib.hid hTF
  have HO := Lib.hid hO
  have HPL := heap_lt hp
  have hmk := fun w => run_make_row' (P := Tryz.prog) 45 30 (.float .f64 0) 8 Tryz.underlying45 infoEfloat64 rfl .i64 .i64 toks.length (by omega) (by omega) w
  have HMK := Lib.hid hmk
  clear hb0 hD hs hok hE hp hv hmk hpar hvals hT hTF hO
  go_enter Tryz.func31, Tryz.ntmps31
  go_wp2_with fail
  refine HSL.out.mono ?_
  rintro e w1 ⟨A, n0, c0, xs, rfl, hn0, hb1, hel, hA⟩
  have hn : n0 = toks.length := by rw [hn0]; simp
  clear hn0
  subst hn
  have hbw1 : Below W.heap.size W w1 := HB0.out.trans (hb1.mono (by simp))
  have hpc : w1.cell? ⟨p, 0, none⟩ = some (.slice none 0 0) := by
    rw [hbw1.cell (p := ⟨p, 0, none⟩) HPL, cell_of_row _ _ _ _ _ _ HP.out]; rfl
  have HBW1 := Lib.hid hbw1
  have HEL := Lib.hid hel
  have HA := Lib.hid hA
  clear hb1 hel hA hbw1 HSL
  have hmk := HMK.out
  go_wp2_with fail
  clear hmk hpc
  go_loopw [39] (fun v39 wr => ∃ i : Nat, i ≤ toks.length ∧ v39 = .int .i64 i ∧ Hid (Below w1.heap.size w1 wr) ∧ Hid (Fill wr w1.heap.size 30 toks.length vals i)) (fun v39 _ => toks.length - (intOf v39).toNat)
  case atStart => exact ⟨0, by omega, rfl, Lib.hid ((Below.refl _ _).alloc (Nat.le_refl _) _), Lib.hid (Fill.start w1 30 (.float .f64 0) toks.length vals)⟩
  case round =>
    obtain ⟨i, hi, rfl, hbr, hfl⟩ := hrel
    by_cases hin : i < toks.length
    · obtain ⟨ge, hAe, hcells⟩ := HA.out (by omega)
      subst hAe
      obtain ⟨l, hl⟩ : ∃ l, (toks.map Tok.val)[i]? = some l := ⟨_, List.getElem?_eq_getElem (by simpa using hin)⟩
      obtain ⟨x, hx⟩ : ∃ x, xs[i]? = some x := ⟨_, List.getElem?_eq_getElem (by rw [HEL.out.1]; simpa using hin)⟩
      obtain ⟨y, hy⟩ : ∃ y, vals[i]? = some y := ⟨_, List.getElem?_eq_getElem (by rw [HV.out]; exact hin)⟩
      have hcx := hcells i x hx
      have hcx2 : wr.cell? ⟨ge, i, none⟩ = some x := (hbr.out.cell (p := ⟨ge, i, none⟩) (Lib.lt_of_cell hcx)).trans hcx
      have hex : Elem wr x l := (HEL.out.2 i x l hx hl).keep (Keeps5.below hbr.out)
      obtain ⟨gx, ox, cx, hxf, hxl, hxc⟩ := hex.form
      have hstr := hex.string
      obtain ⟨nz, hnz, hyz⟩ : ∃ nz, ns[i]? = some nz ∧ y = .float .f64 (Ieee.double.word nz.1 nz.2) := by
        rw [HVALS.out, List.getElem?_map] at hy
        cases hns : ns[i]? with
        | none => rw [hns] at hy; cases hy
        | some nz => rw [hns] at hy; exact ⟨nz, rfl, (Option.some.inj hy).symm⟩
      have hpz := HPAR.out i l nz hl hnz
      have hbwr : Below W.heap.size W wr := HBW1.out.trans (hbr.out.mono HBW1.out.size)
      have HCALL := Lib.hid (readBack64 nz.1 nz.2 l hpz.1 hpz.2 ⟨l.toArray⟩ rfl wr (tab_below HT.out hbwr) (tabF_below HTF.out hbwr) ((hbwr.cell (p := ⟨0, 0, none⟩) (Lib.lt_of_cell HO.out)).trans HO.out))
      generalize (⟨l.toArray⟩ : ByteArray) = ls at hstr HCALL
      subst hyz
      generalize Ieee.double.word nz.1 nz.2 = fb at *
      clear hnz hpz hxf hxl hxc hbwr
      have HY := Lib.hid hy
      have HEX := Lib.hid hex
      clear hl hx hy hcx hex hcells
      go_wp2_with fail
      refine HCALL.out.mono ?_
      rintro e w5 ⟨rfl, hw5⟩
      have hb5 := hw5
      have hf5 := hfl.out.keep hb5
      obtain ⟨⟨u0, hu0⟩, hu1⟩ := hf5.cell hin
      have HB6 : Hid (Below w1.heap.size w1 (w5.setCell ⟨w1.heap.size, i, none⟩ (.float .f64 fb))) := Lib.hid ((hbr.out.trans (hb5.mono hbr.out.size)).setCell (Nat.le_refl _) _)
      have HF6 := Lib.hid (hf5.step hin (.float .f64 fb) HY.out)
      clear hb5 hf5 hw5 hbr hfl
      go_wp2_with fail
      go_roundw
      case rel => exact ⟨i + 1, by omega, by go_num, HB6, HF6⟩
      case measure => simp [intOf]; omega
    · obtain rfl : i = toks.length := by omega
      have hpr : wr.cell? ⟨p, 0, none⟩ = some (.slice none 0 0) ∧ wr.frozen? ⟨p, 0, none⟩ = false := by
        have h : wr.heap[p]? = some (.cells #[.slice none 0 0] 45 (0, 0)) := (hbr.out.block p (by have := HBW1.out.size; omega)).trans ((HBW1.out.block p HPL).trans HP.out)
        exact ⟨by rw [cell_of_row _ _ _ _ _ _ h]; rfl, by simp [World.frozen?, h]⟩
      obtain ⟨hpr1, hpr2⟩ := hpr
      have HF := Lib.hid (sdone HP.out HBW1.out hbr.out hfl.out HV.out)
      clear hbr hfl
      go_wp2_with fail
      go_ret
      exact HF.out

theorem infoEint32 : (Tryz.prog.info? 21).map (fun i => (i.zero, i.size, i.bytes)) = some (some (.int .i32 0), 1, 4) := by kernel_rfl
set_option maxRecDepth 100000 in
set_option maxHeartbeats 4000000 in
theorem scanBytes_int32 (W : World) (p g cap : Nat) (s : List UInt8) (toks : List Tok) (vals : List Value) (ns : List Int) (hs : s = litOf toks) (hok : ∀ t ∈ toks, t.Ok) (hcap : s.length ≤ cap) (hlen : s.length ≤ 1000000) (hk : toks.length ≤ 1000) (hv : vals.length = toks.length)
    (hE : Elem W (.slice (some ⟨g, 0, none⟩) s.length cap) s) (hp : W.heap[p]? = some (.cells #[.slice none 0 0] 57 (0, 0))) (hvals : vals = ns.map (Value.int .i32)) (hpar : ∀ (j : Nat) l n, (toks.map Tok.val)[j]? = some l → ns[j]? = some n → Lib.parseIntB 32 l = .ok n) (hll : ∀ l ∈ toks.map Tok.val, l.length ≤ 100000) (hbd : ∀ n ∈ ns, -2147483648 ≤ n ∧ n ≤ 2147483647) :
    Calls Tryz.prog 45 #[.pointer (some ⟨p, 0, none⟩), .slice (some ⟨g, 0, none⟩) s.length cap] W (SDone W p 57 21 vals) := by
  have hb0 : Below W.heap.size W (W.alloc (.cells #[.int .u8 44] 5)) := (Below.refl _ _).alloc (Nat.le_refl _) _
  have hD : Elem (W.alloc (.cells #[.int .u8 44] 5)) (.slice (some ⟨W.heap.size, 0, none⟩) 1 1) [44] := ⟨W.heap.size, 0, 1, _, _, rfl, by decide, heap_alloc_new W _, fun j hj => by
    have : j = 0 := by simp at hj; omega
    subst this; rfl⟩
  have HSL := Lib.hid (scanLinear (W.alloc (.cells #[.int .u8 44] 5)) s toks g cap W.heap.size 1 ⟨#[73, 110, 116, 51, 50, 65, 114, 114, 97, 121]⟩ hs hok hcap hlen hk (hE.keep (Keeps5.below hb0)) hD)
  have HB0 := Lib.hid hb0
  have HP := Lib.hid hp
  have HV := Lib.hid hv
  have HPAR := Lib.hid hpar
  have HVALS := Lib.hid hvals
  have HLL := Lib.hid hll
  have HBD := Lib.hid hbd
  have HPL := heap_lt hp
  have hmk := fun w => run_make_row' (P := Tryz.prog) 57 21 (.int .i32 0) 4 Tryz.underlying57 infoEint32 rfl .i64 .i64 toks.length (by omega) (by omega) w
  have HMK := Lib.hid hmk
  clear hb0 hD hs hok hE hp hv hmk hpar hvals hll hbd
  go_enter Tryz.func45, Tryz.ntmps45
  go_wp2_with fail
  refine HSL.out.mono ?_
  rintro e w1 ⟨A, n0, c0, xs, rfl, hn0, hb1, hel, hA⟩
  have hn : n0 = toks.length := by rw [hn0]; simp
  clear hn0
  subst hn
  have hbw1 : Below W.heap.size W w1 := HB0.out.trans (hb1.mono (by simp))
  have hpc : w1.cell? ⟨p, 0, none⟩ = some (.slice none 0 0) := by
    rw [hbw1.cell (p := ⟨p, 0, none⟩) HPL, cell_of_row _ _ _ _ _ _ HP.out]; rfl
  have HBW1 := Lib.hid hbw1
  have HEL := Lib.hid hel
  have HA := Lib.hid hA
  clear hb1 hel hA hbw1 HSL
  have hmk := HMK.out
  go_wp2_with fail
  clear hmk hpc
  go_loopw [41] (fun v39 wr => ∃ i : Nat, i ≤ toks.length ∧ v39 = .int .i64 i ∧ Hid (Below w1.heap.size w1 wr) ∧ Hid (Fill wr w1.heap.size 21 toks.length vals i)) (fun v39 _ => toks.length - (intOf v39).toNat)
  case atStart => exact ⟨0, by omega, rfl, Lib.hid ((Below.refl _ _).alloc (Nat.le_refl _) _), Lib.hid (Fill.start w1 21 (.int .i32 0) toks.length vals)⟩
  case round =>
    obtain ⟨i, hi, rfl, hbr, hfl⟩ := hrel
    by_cases hin : i < toks.length
    · obtain ⟨ge, hAe, hcells⟩ := HA.out (by omega)
      subst hAe
      obtain ⟨l, hl⟩ : ∃ l, (toks.map Tok.val)[i]? = some l := ⟨_, List.getElem?_eq_getElem (by simpa using hin)⟩
      obtain ⟨x, hx⟩ : ∃ x, xs[i]? = some x := ⟨_, List.getElem?_eq_getElem (by rw [HEL.out.1]; simpa using hin)⟩
      obtain ⟨y, hy⟩ : ∃ y, vals[i]? = some y := ⟨_, List.getElem?_eq_getElem (by rw [HV.out]; exact hin)⟩
      have hcx := hcells i x hx
      have hcx2 : wr.cell? ⟨ge, i, none⟩ = some x := (hbr.out.cell (p := ⟨ge, i, none⟩) (Lib.lt_of_cell hcx)).trans hcx
      have hex : Elem wr x l := (HEL.out.2 i x l hx hl).keep (Keeps5.below hbr.out)
      obtain ⟨gx, ox, cx, hxf, hxl, hxc⟩ := hex.form
      have hstr := hex.string
      obtain ⟨nz, hnz, hyz⟩ : ∃ nz, ns[i]? = some nz ∧ y = .int .i32 nz := by
        rw [HVALS.out, List.getElem?_map] at hy
        cases hns : ns[i]? with
        | none => rw [hns] at hy; cases hy
        | some nz => rw [hns] at hy; exact ⟨nz, rfl, (Option.some.inj hy).symm⟩
      have hpz := HPAR.out i l nz hl hnz
      have hls := HLL.out l (List.mem_of_getElem? hl)
      have HCALL := Lib.hid (Tryz.strconv_ParseInt_10_at32_ok ⟨l.toArray⟩ (by simp [ByteArray.size]; omega) nz (by simpa using hpz) wr)
      obtain ⟨hbd0, hbd1⟩ := HBD.out nz (List.mem_of_getElem? hnz)
      generalize (⟨l.toArray⟩ : ByteArray) = ls at hstr HCALL
      subst hyz
      clear hnz hpz hxf hxl hxc hls
      have HY := Lib.hid hy
      have HEX := Lib.hid hex
      clear hl hx hy hcx hex hcells
      go_wp2_with fail
      refine HCALL.out.mono ?_
      rintro e w5 ⟨rfl, hw5⟩
      have hb5 : Below wr.heap.size wr w5 := by
        rcases hw5 with rfl | ⟨t, rfl⟩
        · exact Below.refl _ _
        · exact below_bytesW wr t
      have hf5 := hfl.out.keep hb5
      obtain ⟨⟨u0, hu0⟩, hu1⟩ := hf5.cell hin
      have HB6 : Hid (Below w1.heap.size w1 (w5.setCell ⟨w1.heap.size, i, none⟩ (.int .i32 nz))) := Lib.hid ((hbr.out.trans (hb5.mono hbr.out.size)).setCell (Nat.le_refl _) _)
      have HF6 := Lib.hid (hf5.step hin (.int .i32 nz) HY.out)
      clear hb5 hf5 hw5 hbr hfl
      go_wp2_with fail
      go_roundw
      case rel => exact ⟨i + 1, by omega, by go_num, HB6, HF6⟩
      case measure => simp [intOf]; omega
    · obtain rfl : i = toks.length := by omega
      have hpr : wr.cell? ⟨p, 0, none⟩ = some (.slice none 0 0) ∧ wr.frozen? ⟨p, 0, none⟩ = false := by
        have h : wr.heap[p]? = some (.cells #[.slice none 0 0] 57 (0, 0)) := (hbr.out.block p (by have := HBW1.out.size; omega)).trans ((HBW1.out.block p HPL).trans HP.out)
        exact ⟨by rw [cell_of_row _ _ _ _ _ _ h]; rfl, by simp [World.frozen?, h]⟩
      obtain ⟨hpr1, hpr2⟩ := hpr
      have HF := Lib.hid (sdone HP.out HBW1.out hbr.out hfl.out HV.out)
      clear hbr hfl
      go_wp2_with fail
      go_ret
      exact HF.out

theorem infoEfloat32 : (Tryz.prog.info? 49).map (fun i => (i.zero, i.size, i.bytes)) = some (some (.float .f32 0), 1, 4) := by kernel_rfl
set_option maxRecDepth 100000 in
set_option maxHeartbeats 4000000 in
theorem scanBytes_float32 (W : World) (p g cap : Nat) (s : List UInt8) (toks : List Tok) (vals : List Value) (ns : List (Bool × Nat)) (hs : s = litOf toks) (hok : ∀ t ∈ toks, t.Ok) (hcap : s.length ≤ cap) (hlen : s.length ≤ 1000000) (hk : toks.length ≤ 1000) (hv : vals.length = toks.length)
    (hE : Elem W (.slice (some ⟨g, 0, none⟩) s.length cap) s) (hp : W.heap[p]? = some (.cells #[.slice none 0 0] 59 (0, 0))) (hvals : vals = ns.map (fun x => Value.float .f32 (Ieee.single.word x.1 x.2))) (hpar : ∀ (j : Nat) l n, (toks.map Tok.val)[j]? = some l → ns[j]? = some n → IsText32 n.1 n.2 l ∧ n.2 < 2139095040) (hT : Tab W) (hTF : TabF32 W) (hO : W.cell? ⟨0, 0, none⟩ = some (.bool true)) :
    Calls Tryz.prog 46 #[.pointer (some ⟨p, 0, none⟩), .slice (some ⟨g, 0, none⟩) s.length cap] W (SDone W p 59 49 vals) := by
  have hb0 : Below W.heap.size W (W.alloc (.cells #[.int .u8 44] 5)) := (Below.refl _ _).alloc (Nat.le_refl _) _
  have hD : Elem (W.alloc (.cells #[.int .u8 44] 5)) (.slice (some ⟨W.heap.size, 0, none⟩) 1 1) [44] := ⟨W.heap.size, 0, 1, _, _, rfl, by decide, heap_alloc_new W _, fun j hj => by
    have : j = 0 := by simp at hj; omega
    subst this; rfl⟩
  have HSL := Lib.hid (scanLinear (W.alloc (.cells #[.int .u8 44] 5)) s toks g cap W.heap.size 1 ⟨#[70, 108, 111, 97, 116, 51, 50, 65, 114, 114, 97, 121]⟩ hs hok hcap hlen hk (hE.keep (Keeps5.below hb0)) hD)
  have HB0 := Lib.hid hb0
  have HP := Lib.hid hp
  have HV := Lib.hid hv
  have HPAR := Lib.hid hpar
  have HVALS := Lib.hid hvals
  have HT := Lib.hid hT
  have HTF := Lib.hid hTF
  have HO := Lib.hid hO
  have HPL := heap_lt hp
  have hmk := fun w => run_make_row' (P := Tryz.prog) 59 49 (.float .f32 0) 4 Tryz.underlying59 infoEfloat32 rfl .i64 .i64 toks.length (by omega) (by omega) w
  have HMK := Lib.hid hmk
  clear hb0 hD hs hok hE hp hv hmk hpar hvals hT hTF hO
  go_enter Tryz.func46, Tryz.ntmps46
  go_wp2_with fail
  refine HSL.out.mono ?_
  rintro e w1 ⟨A, n0, c0, xs, rfl, hn0, hb1, hel, hA⟩
  have hn : n0 = toks.length := by rw [hn0]; simp
  clear hn0
  subst hn
  have hbw1 : Below W.heap.size W w1 := HB0.out.trans (hb1.mono (by simp))
  have hpc : w1.cell? ⟨p, 0, none⟩ = some (.slice none 0 0) := by
    rw [hbw1.cell (p := ⟨p, 0, none⟩) HPL, cell_of_row _ _ _ _ _ _ HP.out]; rfl
  have HBW1 := Lib.hid hbw1
  have HEL := Lib.hid hel
  have HA := Lib.hid hA
  clear hb1 hel hA hbw1 HSL
  have hmk := HMK.out
  go_wp2_with fail
  clear hmk hpc
  go_loopw [41] (fun v39 wr => ∃ i : Nat, i ≤ toks.length ∧ v39 = .int .i64 i ∧ Hid (Below w1.heap.size w1 wr) ∧ Hid (Fill wr w1.heap.size 49 toks.length vals i)) (fun v39 _ => toks.length - (intOf v39).toNat)
  case atStart => exact ⟨0, by omega, rfl, Lib.hid ((Below.refl _ _).alloc (Nat.le_refl _) _), Lib.hid (Fill.start w1 49 (.float .f32 0) toks.length vals)⟩
  case round =>
    obtain ⟨i, hi, rfl, hbr, hfl⟩ := hrel
    by_cases hin : i < toks.length
    · obtain ⟨ge, hAe, hcells⟩ := HA.out (by omega)
      subst hAe
      obtain ⟨l, hl⟩ : ∃ l, (toks.map Tok.val)[i]? = some l := ⟨_, List.getElem?_eq_getElem (by simpa using hin)⟩
      obtain ⟨x, hx⟩ : ∃ x, xs[i]? = some x := ⟨_, List.getElem?_eq_getElem (by rw [HEL.out.1]; simpa using hin)⟩
      obtain ⟨y, hy⟩ : ∃ y, vals[i]? = some y := ⟨_, List.getElem?_eq_getElem (by rw [HV.out]; exact hin)⟩
      have hcx := hcells i x hx
      have hcx2 : wr.cell? ⟨ge, i, none⟩ = some x := (hbr.out.cell (p := ⟨ge, i, none⟩) (Lib.lt_of_cell hcx)).trans hcx
      have hex : Elem wr x l := (HEL.out.2 i x l hx hl).keep (Keeps5.below hbr.out)
      obtain ⟨gx, ox, cx, hxf, hxl, hxc⟩ := hex.form
      have hstr := hex.string
      obtain ⟨nz, hnz, hyz⟩ : ∃ nz, ns[i]? = some nz ∧ y = .float .f32 (Ieee.single.word nz.1 nz.2) := by
        rw [HVALS.out, List.getElem?_map] at hy
        cases hns : ns[i]? with
        | none => rw [hns] at hy; cases hy
        | some nz => rw [hns] at hy; exact ⟨nz, rfl, (Option.some.inj hy).symm⟩
      have hpz := HPAR.out i l nz hl hnz
      have hbwr : Below W.heap.size W wr := HBW1.out.trans (hbr.out.mono HBW1.out.size)
      have HCALL := Lib.hid (readBack32 nz.1 nz.2 l hpz.1 hpz.2 ⟨l.toArray⟩ rfl wr (tab_below HT.out hbwr) (tabF32_below HTF.out hbwr) ((hbwr.cell (p := ⟨0, 0, none⟩) (Lib.lt_of_cell HO.out)).trans HO.out))
      generalize (⟨l.toArray⟩ : ByteArray) = ls at hstr HCALL
      have hcv := conv_narrow nz.1 nz.2 hpz.2
      generalize Ieee.double.word nz.1 (Fl.wideR nz.2) = fw at hcv HCALL
      subst hyz
      generalize Ieee.single.word nz.1 nz.2 = fb at *
      clear hnz hpz hxf hxl hxc hbwr
      have HY := Lib.hid hy
      have HEX := Lib.hid hex
      clear hl hx hy hcx hex hcells
      go_wp2_with fail
      refine HCALL.out.mono ?_
      rintro e w5 ⟨rfl, hw5⟩
      have hb5 := hw5
      have hf5 := hfl.out.keep hb5
      obtain ⟨⟨u0, hu0⟩, hu1⟩ := hf5.cell hin
      have HB6 : Hid (Below w1.heap.size w1 (w5.setCell ⟨w1.heap.size, i, none⟩ (.float .f32 fb))) := Lib.hid ((hbr.out.trans (hb5.mono hbr.out.size)).setCell (Nat.le_refl _) _)
      have HF6 := Lib.hid (hf5.step hin (.float .f32 fb) HY.out)
      clear hb5 hf5 hw5 hbr hfl
      go_wp2_with fail
      go_roundw
      case rel => exact ⟨i + 1, by omega, by go_num, HB6, HF6⟩
      case measure => simp [intOf]; omega
    · obtain rfl : i = toks.length := by omega
      have hpr : wr.cell? ⟨p, 0, none⟩ = some (.slice none 0 0) ∧ wr.frozen? ⟨p, 0, none⟩ = false := by
        have h : wr.heap[p]? = some (.cells #[.slice none 0 0] 59 (0, 0)) := (hbr.out.block p (by have := HBW1.out.size; omega)).trans ((HBW1.out.block p HPL).trans HP.out)
        exact ⟨by rw [cell_of_row _ _ _ _ _ _ h]; rfl, by simp [World.frozen?, h]⟩
      obtain ⟨hpr1, hpr2⟩ := hpr
      have HF := Lib.hid (sdone HP.out HBW1.out hbr.out hfl.out HV.out)
      clear hbr hfl
      go_wp2_with fail
      go_ret
      exact HF.out

theorem infoEbool : (Tryz.prog.info? 4).map (fun i => (i.zero, i.size, i.bytes)) = some (some (.bool false), 1, 1) := by kernel_rfl
set_option maxRecDepth 100000 in
set_option maxHeartbeats 4000000 in
theorem scanBytes_bool (W : World) (p g cap : Nat) (s : List UInt8) (toks : List Tok) (vals : List Value) (ns : List Bool) (hs : s = litOf toks) (hok : ∀ t ∈ toks, t.Ok) (hcap : s.length ≤ cap) (hlen : s.length ≤ 1000000) (hk : toks.length ≤ 1000) (hv : vals.length = toks.length)
    (hE : Elem W (.slice (some ⟨g, 0, none⟩) s.length cap) s) (hp : W.heap[p]? = some (.cells #[.slice none 0 0] 36 (0, 0))) (hvals : vals = ns.map Value.bool) (hpar : ∀ (j : Nat) l n, (toks.map Tok.val)[j]? = some l → ns[j]? = some n → l = [if n then 116 else 102]) :
    Calls Tryz.prog 28 #[.pointer (some ⟨p, 0, none⟩), .slice (some ⟨g, 0, none⟩) s.length cap] W (SDone W p 36 4 vals) := by
  have hb0 : Below W.heap.size W (W.alloc (.cells #[.int .u8 44] 5)) := (Below.refl _ _).alloc (Nat.le_refl _) _
  have hD : Elem (W.alloc (.cells #[.int .u8 44] 5)) (.slice (some ⟨W.heap.size, 0, none⟩) 1 1) [44] := ⟨W.heap.size, 0, 1, _, _, rfl, by decide, heap_alloc_new W _, fun j hj => by
    have : j = 0 := by simp at hj; omega
    subst this; rfl⟩
  have HSL := Lib.hid (scanLinear (W.alloc (.cells #[.int .u8 44] 5)) s toks g cap W.heap.size 1 ⟨#[66, 111, 111, 108, 65, 114, 114, 97, 121]⟩ hs hok hcap hlen hk (hE.keep (Keeps5.below hb0)) hD)
  have HB0 := Lib.hid hb0
  have HP := Lib.hid hp
  have HV := Lib.hid hv
  have HPAR := Lib.hid hpar
  have HVALS := Lib.hid hvals
  have HPL := heap_lt hp
  have hmk := fun w => run_make_row' (P := Tryz.prog) 36 4 (.bool false) 1 Tryz.underlying36 infoEbool rfl .i64 .i64 toks.length (by omega) (by omega) w
  have HMK := Lib.hid hmk
  clear hb0 hD hs hok hE hp hv hmk hpar hvals
  go_enter Tryz.func28, Tryz.ntmps28
  go_wp2_with fail
  refine HSL.out.mono ?_
  rintro e w1 ⟨A, n0, c0, xs, rfl, hn0, hb1, hel, hA⟩
  have hn : n0 = toks.length := by rw [hn0]; simp
  clear hn0
  subst hn
  have hbw1 : Below W.heap.size W w1 := HB0.out.trans (hb1.mono (by simp))
  have hpc : w1.cell? ⟨p, 0, none⟩ = some (.slice none 0 0) := by
    rw [hbw1.cell (p := ⟨p, 0, none⟩) HPL, cell_of_row _ _ _ _ _ _ HP.out]; rfl
  have HBW1 := Lib.hid hbw1
  have HEL := Lib.hid hel
  have HA := Lib.hid hA
  clear hb1 hel hA hbw1 HSL
  have hmk := HMK.out
  go_wp2_with fail
  clear hmk hpc
  go_loopw [39] (fun v39 wr => ∃ i : Nat, i ≤ toks.length ∧ v39 = .int .i64 i ∧ Hid (Below w1.heap.size w1 wr) ∧ Hid (Fill wr w1.heap.size 4 toks.length vals i)) (fun v39 _ => toks.length - (intOf v39).toNat)
  case atStart => exact ⟨0, by omega, rfl, Lib.hid ((Below.refl _ _).alloc (Nat.le_refl _) _), Lib.hid (Fill.start w1 4 (.bool false) toks.length vals)⟩
  case round =>
    obtain ⟨i, hi, rfl, hbr, hfl⟩ := hrel
    by_cases hin : i < toks.length
    · obtain ⟨ge, hAe, hcells⟩ := HA.out (by omega)
      subst hAe
      obtain ⟨l, hl⟩ : ∃ l, (toks.map Tok.val)[i]? = some l := ⟨_, List.getElem?_eq_getElem (by simpa using hin)⟩
      obtain ⟨x, hx⟩ : ∃ x, xs[i]? = some x := ⟨_, List.getElem?_eq_getElem (by rw [HEL.out.1]; simpa using hin)⟩
      obtain ⟨y, hy⟩ : ∃ y, vals[i]? = some y := ⟨_, List.getElem?_eq_getElem (by rw [HV.out]; exact hin)⟩
      have hcx := hcells i x hx
      have hcx2 : wr.cell? ⟨ge, i, none⟩ = some x := (hbr.out.cell (p := ⟨ge, i, none⟩) (Lib.lt_of_cell hcx)).trans hcx
      have hex : Elem wr x l := (HEL.out.2 i x l hx hl).keep (Keeps5.below hbr.out)
      obtain ⟨gx, ox, cx, hxf, hxl, hxc⟩ := hex.form
      have hstr := hex.string
      obtain ⟨nz, hnz, hyz⟩ : ∃ nz, ns[i]? = some nz ∧ y = .bool nz := by
        rw [HVALS.out, List.getElem?_map] at hy
        cases hns : ns[i]? with
        | none => rw [hns] at hy; cases hy
        | some nz => rw [hns] at hy; exact ⟨nz, rfl, (Option.some.inj hy).symm⟩
      have hpz := HPAR.out i l nz hl hnz
      have hx0 := hxc 0 (by rw [hpz]; simp)
      have hx1 : wr.cell? ⟨gx, ox, none⟩ = some (.int .u8 (if nz then 116 else 102)) := by
        rw [Nat.add_zero] at hx0
        rw [hx0]
        simp only [hpz, List.getElem_cons_zero]
        cases nz <;> rfl
      have hl1 : l.length = 1 := by rw [hpz]; rfl
      rw [hl1] at hxf
      subst hxf
      subst hyz
      clear hnz hpz hxl hxc hx0 hl1 hstr
      have HY := Lib.hid hy
      have HEX := Lib.hid hex
      clear hl hx hy hcx hex hcells
      cases nz
      all_goals
        simp only [if_true, if_false, Bool.false_eq_true] at hx1
        have hf5 := hfl.out
        obtain ⟨⟨u0, hu0⟩, hu1⟩ := hf5.cell hin
        have HB6 := fun u => Lib.hid (hbr.out.setCell (p := ⟨w1.heap.size, i, none⟩) (Nat.le_refl _) u)
        have HB7 := Lib.hid HB6
        clear HB6
        have HF6 := Lib.hid (hf5.step hin _ HY.out)
        clear hf5 hbr hfl
        go_wp2_with fail
        go_roundw
        case rel => exact ⟨i + 1, by omega, by go_num, (HB7.out _).out, HF6⟩
        case measure => simp [intOf]; omega
    · obtain rfl : i = toks.length := by omega
      have hpr : wr.cell? ⟨p, 0, none⟩ = some (.slice none 0 0) ∧ wr.frozen? ⟨p, 0, none⟩ = false := by
        have h : wr.heap[p]? = some (.cells #[.slice none 0 0] 36 (0, 0)) := (hbr.out.block p (by have := HBW1.out.size; omega)).trans ((HBW1.out.block p HPL).trans HP.out)
        exact ⟨by rw [cell_of_row _ _ _ _ _ _ h]; rfl, by simp [World.frozen?, h]⟩
      obtain ⟨hpr1, hpr2⟩ := hpr
      have HF := Lib.hid (sdone HP.out HBW1.out hbr.out hfl.out HV.out)
      clear hbr hfl
      go_wp2_with fail
      go_ret
      exact HF.out

theorem infoEstring : (Tryz.prog.info? 9).map (fun i => (i.zero, i.size, i.bytes)) = some (some (.string ⟨#[]⟩), 1, 16) := by kernel_rfl
set_option maxRecDepth 100000 in
set_option maxHeartbeats 4000000 in
theorem scanBytes_string (W : World) (p g cap : Nat) (s : List UInt8) (toks : List Tok) (vals : List Value)  (hs : s = litOf toks) (hok : ∀ t ∈ toks, t.Ok) (hcap : s.length ≤ cap) (hlen : s.length ≤ 1000000) (hk : toks.length ≤ 1000) (hv : vals.length = toks.length)
    (hE : Elem W (.slice (some ⟨g, 0, none⟩) s.length cap) s) (hp : W.heap[p]? = some (.cells #[.slice none 0 0] 47 (0, 0))) (hvals : vals = toks.map (fun t => Value.string ⟨t.val.toArray⟩)) :
    Calls Tryz.prog 32 #[.pointer (some ⟨p, 0, none⟩), .slice (some ⟨g, 0, none⟩) s.length cap] W (SDone W p 47 9 vals) := by
  have hb0 : Below W.heap.size W (W.alloc (.cells #[.int .u8 44] 5)) := (Below.refl _ _).alloc (Nat.le_refl _) _
  have hD : Elem (W.alloc (.cells #[.int .u8 44] 5)) (.slice (some ⟨W.heap.size, 0, none⟩) 1 1) [44] := ⟨W.heap.size, 0, 1, _, _, rfl, by decide, heap_alloc_new W _, fun j hj => by
    have : j = 0 := by simp at hj; omega
    subst this; rfl⟩
  have HSL := Lib.hid (scanLinear (W.alloc (.cells #[.int .u8 44] 5)) s toks g cap W.heap.size 1 ⟨#[83, 116, 114, 105, 110, 103, 65, 114, 114, 97, 121]⟩ hs hok hcap hlen hk (hE.keep (Keeps5.below hb0)) hD)
  have HB0 := Lib.hid hb0
  have HP := Lib.hid hp
  have HV := Lib.hid hv
  have HVALS := Lib.hid hvals
  have HPL := heap_lt hp
  have hmk := fun w => run_make_row' (P := Tryz.prog) 47 9 (.string ⟨#[]⟩) 16 Tryz.underlying47 infoEstring rfl .i64 .i64 toks.length (by omega) (by omega) w
  have HMK := Lib.hid hmk
  clear hb0 hD hs hok hE hp hv hmk hvals
  go_enter Tryz.func32, Tryz.ntmps32
  go_wp2_with fail
  refine HSL.out.mono ?_
  rintro e w1 ⟨A, n0, c0, xs, rfl, hn0, hb1, hel, hA⟩
  have hn : n0 = toks.length := by rw [hn0]; simp
  clear hn0
  subst hn
  have hbw1 : Below W.heap.size W w1 := HB0.out.trans (hb1.mono (by simp))
  have hpc : w1.cell? ⟨p, 0, none⟩ = some (.slice none 0 0) := by
    rw [hbw1.cell (p := ⟨p, 0, none⟩) HPL, cell_of_row _ _ _ _ _ _ HP.out]; rfl
  have HBW1 := Lib.hid hbw1
  have HEL := Lib.hid hel
  have HA := Lib.hid hA
  clear hb1 hel hA hbw1 HSL
  have hmk := HMK.out
  go_wp2_with fail
  clear hmk hpc
  go_loopw [39] (fun v39 wr => ∃ i : Nat, i ≤ toks.length ∧ v39 = .int .i64 i ∧ Hid (Below w1.heap.size w1 wr) ∧ Hid (Fill wr w1.heap.size 9 toks.length vals i)) (fun v39 _ => toks.length - (intOf v39).toNat)
  case atStart => exact ⟨0, by omega, rfl, Lib.hid ((Below.refl _ _).alloc (Nat.le_refl _) _), Lib.hid (Fill.start w1 9 (.string ⟨#[]⟩) toks.length vals)⟩
  case round =>
    obtain ⟨i, hi, rfl, hbr, hfl⟩ := hrel
    by_cases hin : i < toks.length
    · obtain ⟨ge, hAe, hcells⟩ := HA.out (by omega)
      subst hAe
      obtain ⟨l, hl⟩ : ∃ l, (toks.map Tok.val)[i]? = some l := ⟨_, List.getElem?_eq_getElem (by simpa using hin)⟩
      obtain ⟨x, hx⟩ : ∃ x, xs[i]? = some x := ⟨_, List.getElem?_eq_getElem (by rw [HEL.out.1]; simpa using hin)⟩
      obtain ⟨y, hy⟩ : ∃ y, vals[i]? = some y := ⟨_, List.getElem?_eq_getElem (by rw [HV.out]; exact hin)⟩
      have hcx := hcells i x hx
      have hcx2 : wr.cell? ⟨ge, i, none⟩ = some x := (hbr.out.cell (p := ⟨ge, i, none⟩) (Lib.lt_of_cell hcx)).trans hcx
      have hex : Elem wr x l := (HEL.out.2 i x l hx hl).keep (Keeps5.below hbr.out)
      obtain ⟨gx, ox, cx, hxf, hxl, hxc⟩ := hex.form
      have hstr := hex.string
      have hyz : y = .string ⟨l.toArray⟩ := by
        rw [HVALS.out, List.getElem?_map] at hy
        rw [List.getElem?_map] at hl
        cases hns : toks[i]? with
        | none => rw [hns] at hy; cases hy
        | some t => rw [hns] at hy hl; cases hy; cases hl; rfl
      subst hxf
      subst hyz
      generalize (⟨l.toArray⟩ : ByteArray) = ls at *
      clear hxl hxc
      have HY := Lib.hid hy
      have HEX := Lib.hid hex
      clear hl hx hy hcx hex hcells
      have heql := fun W1 : World => Lib.run_eql_slice_nil (P := Tryz.prog) W1 50 5 (some ⟨gx, ox, none⟩) l.length cx 0 0 Tryz.underlying50
      have hf5 := hfl.out
      obtain ⟨⟨u0, hu0⟩, hu1⟩ := hf5.cell hin
      have HB6 : Hid (Below w1.heap.size w1 (wr.setCell ⟨w1.heap.size, i, none⟩ (.string ls))) := Lib.hid (hbr.out.setCell (Nat.le_refl _) _)
      have HF6 := Lib.hid (hf5.step hin (.string ls) HY.out)
      clear hf5 hbr hfl
      go_wp2_with fail
      go_roundw
      case rel => exact ⟨i + 1, by omega, by go_num, HB6, HF6⟩
      case measure => simp [intOf]; omega
    · obtain rfl : i = toks.length := by omega
      have hpr : wr.cell? ⟨p, 0, none⟩ = some (.slice none 0 0) ∧ wr.frozen? ⟨p, 0, none⟩ = false := by
        have h : wr.heap[p]? = some (.cells #[.slice none 0 0] 47 (0, 0)) := (hbr.out.block p (by have := HBW1.out.size; omega)).trans ((HBW1.out.block p HPL).trans HP.out)
        exact ⟨by rw [cell_of_row _ _ _ _ _ _ h]; rfl, by simp [World.frozen?, h]⟩
      obtain ⟨hpr1, hpr2⟩ := hpr
      have HF := Lib.hid (sdone HP.out HBW1.out hbr.out hfl.out HV.out)
      clear hbr hfl
      go_wp2_with fail
      go_ret
      exact HF.out

end Go.Proofs.YtbbjjkcjpdmjnaaGreatDoor
