/- Walks of the law FnBack: bytes in the hex format read, and their array's scanBytes. -/
import Derived.Test.YtbbjjkcjpdmjnaaGreatDoorZn
import Derived.Lib.AtoiErrMem
namespace Go.Proofs.YtbbjjkcjpdmjnaaGreatDoor
open Go.RowKit
open Go.Lib (bytesOf)

/-- A hexadecimal digit. -/
def hd (n : Nat) : UInt8 := [48, 49, 50, 51, 52, 53, 54, 55, 56, 57, 97, 98, 99, 100, 101, 102].getD n 0
/-- Bytes as hexadecimal digits. -/
def hexs : List UInt8 → List UInt8
  | [] => []
  | c :: r => hd (c.toNat / 16) :: hd (c.toNat % 16) :: hexs r
theorem hexs_length (l : List UInt8) : (hexs l).length = 2 * l.length := by
  induction l with
  | nil => rfl
  | cons c r ih => simp [hexs, ih]; omega
/-- The text of bytes in the hex format. -/
def hexText (l : List UInt8) : List UInt8 := [92, 120] ++ hexs l
theorem hexText_length (l : List UInt8) : (hexText l).length = 2 + 2 * l.length := by unfold hexText; rw [List.length_append, hexs_length]; rfl

theorem v_hd : ∀ n : Fin 16, Lib.Hx.v (hd n) = n := of_decide_eq_true (by kernel_rfl)
theorem decode_hexs (l : List UInt8) : Lib.Hx.decode (hexs l) = (l, .ok) := by
  induction l with
  | nil => rw [hexs, Lib.Hx.decode_nil]
  | cons c r ih =>
    have hc := c.toNat_lt
    have h1 := v_hd ⟨c.toNat / 16, by omega⟩
    have h2 := v_hd ⟨c.toNat % 16, by omega⟩
    simp only at h1 h2
    rw [hexs, Lib.Hx.decode_two, h1, h2, if_neg (by omega), if_neg (by omega), ih]
    simp only [Prod.mk.injEq, List.cons.injEq, and_true]
    apply UInt8.toNat_inj.1
    rw [UInt8.toNat_ofNat']
    omega

abbrev ints (l : List UInt8) : List Int := l.map fun b => (b.toNat : Int)
theorem bytesOf_ints (l : List UInt8) : bytesOf (ints l) = l := by
  unfold bytesOf ints
  rw [List.map_map]
  refine (List.map_congr_left fun b _ => ?_).trans (List.map_id l)
  simp

/-- What Decode does here: it fills the new row. -/
theorem decode_here (w1 : World) (g os cs n : Nat) (l : List UInt8) (hn : n = l.length) (hl : n ≤ 500) (hg : g < w1.heap.size) (h4 : 4 < w1.heap.size) (ev : Value) (hE : w1.cell? ⟨4, 0, none⟩ = some ev)
    (hx : ∀ i, i < 2 * l.length → w1.cell? ⟨g, os + i, none⟩ = some (.int .u8 ((ints (hexs l)).getD i 0)))
    (hr : ∀ i, i < 2 * l.length → 0 ≤ (ints (hexs l)).getD i 0 ∧ (ints (hexs l)).getD i 0 < 256) :
    Calls Tryz.prog 81 #[.slice (some ⟨w1.heap.size, 0, none⟩) n n, .slice (some ⟨g, os, none⟩) (2 * n : Nat) cs] (w1.alloc (.cells (madeCells #[.int .u8 0] n) 5)) fun e w' =>
      e = .returned (.tuple #[.int .i64 n, .nilIface]) ∧ Elem w' (.slice (some ⟨w1.heap.size, 0, none⟩) n n) l ∧ Below w1.heap.size w1 w' := by
  have hlen : (ints (hexs l)).length = 2 * n := by simp [hexs_length, hn]
  refine (Tryz.hex_Decode w1.heap.size 0 n n n (fun _ => .int .u8 0) g os (2 * n) cs (ints (hexs l)) _ ev hlen (by rw [hn]; exact hr) (fun i hi => ?_) (World.rowIs_made _ _ _ _) (by omega) (by omega) (by omega) (by omega) ?_ (by omega)).mono ?_
  · rw [World.cell?_alloc_lt _ _ _ hg]
    exact hx i (by omega)
  · rw [World.cell?_alloc_lt _ _ _ h4]
    exact hE
  · rintro e w' ⟨rfl, hrow, hgrow⟩
    rw [bytesOf_ints, decode_hexs] at hrow ⊢
    refine ⟨by rw [← hn]; rfl, ?_, ((Below.refl _ _).alloc (Nat.le_refl _) _).grown hgrow (by simp) (fun k hk => by cases hk; exact Nat.le_refl _)⟩
    obtain ⟨cells, hc1, hc2, hc3⟩ := hrow
    refine ⟨_, 0, n, cells, (0, 0), by rw [hn], by omega, hc1, fun j hj => ?_⟩
    rw [Nat.zero_add, hc3 j (by omega)]
    simp only [Lib.Hx.rowP]
    rw [if_pos (by omega)]
    simp [hj]

theorem hx_ints (l : List UInt8) : (∀ i, i < 2 * l.length → 0 ≤ (ints (hexs l)).getD i 0 ∧ (ints (hexs l)).getD i 0 < 256) := fun i hi => by
  have hi' : i < (hexs l).length := by rw [hexs_length]; omega
  have : (ints (hexs l)).getD i 0 = ((hexs l)[i].toNat : Int) := by simp [ints, List.getD, hi']
  rw [this]
  have := (hexs l)[i].toNat_lt
  omega

set_option maxRecDepth 100000 in
set_option maxHeartbeats 1000000 in
theorem parseBytea_hex (v : Value) (l : List UInt8) (w : World) (hel : Elem w v (hexText l)) (hl : l.length ≤ 500) (h4 : 4 < w.heap.size) (ev : Value) (hE : w.cell? ⟨4, 0, none⟩ = some ev) :
    Calls Tryz.prog 54 #[v] w fun e w' => ∃ v', e = .returned (.tuple #[v', .nilIface]) ∧ Elem w' v' l ∧ Below w.heap.size w w' := by
  obtain ⟨g, o, c, cs, fz, rfl, hlc, hg0, hcs⟩ := hel
  have hg := heap_lt hg0
  have hcell : ∀ j (h : j < (hexText l).length), w.cell? ⟨g, o + j, none⟩ = some (.int .u8 ((hexText l)[j].toNat : Int)) := fun j hj => by
    rw [cell_of_row _ _ _ _ _ _ hg0]; exact hcs j hj
  have hcv : (convert 50 9 (.slice (some ⟨g, o, none⟩) 2 c)).run Tryz.prog w = .ok (.string ⟨#[92, 120]⟩) w :=
    run_convert_bytes_back w 50 9 5 ⟨g, o, none⟩ c [92, 120] Tryz.underlying50 Tryz.underlying5 Tryz.underlying9 (fun j hj => by
      rw [Lib.add_plain]
      match j, hj with
      | 0, _ => exact hcell 0 (by rw [hexText_length]; omega)
      | 1, _ => exact hcell 1 (by rw [hexText_length]; omega))
  have hx : ∀ i, i < 2 * l.length → w.cell? ⟨g, (o + 2) + i, none⟩ = some (.int .u8 ((ints (hexs l)).getD i 0)) := fun i hi => by
    have := hcell (2 + i) (by rw [hexText_length]; omega)
    rw [Nat.add_assoc, this]
    have e : (hexText l)[2 + i]'(by rw [hexText_length]; omega) = (hexs l)[i]'(by rw [hexs_length]; omega) := by
      simp only [hexText]
      rw [List.getElem_append_right (by simp)]
      simp
    rw [e]
    simp [ints, List.getD, show i < (hexs l).length by rw [hexs_length]; omega]
  have hr := hx_ints l
  rw [hexText_length] at *
  have hmk := fun W => run_make_row' (P := Tryz.prog) 50 5 (.int .u8 0) 1 Tryz.underlying50 info5 rfl .i64 .i64 l.length (by omega) (by omega) W
  obtain ⟨n, hn⟩ : ∃ n : Nat, n = l.length := ⟨_, rfl⟩
  have HX := Lib.hid hx
  have HR := Lib.hid hr
  clear hx hr hcell hg0 hcs
  rw [← hn] at hmk hlc hl ⊢
  by_cases hcc : c = 2
  · subst hcc
    have hn0 : n = 0 := by omega
    have HD := Lib.hid (decode_here w g o 0 n l hn hl hg h4 ev hE (fun i hi => by omega) HR.out)
    subst hn0
    have HN := Lib.hid hn
    have HE := Lib.hid hE
    have hmk0 : ∀ W : World, (Instr.makeSlice 50 (.int .i64 0) (.int .i64 0)).run Tryz.prog W = .ok (.slice (some ⟨W.heap.size, 0, none⟩) 0 0) (W.alloc (.cells (madeCells #[.int .u8 0] 0) 5)) := fun W => hmk W
    have hd0 : Calls Tryz.prog 81 #[.slice (some ⟨w.heap.size, 0, none⟩) 0 0, .slice (some ⟨g, o, none⟩) 0 0] (w.alloc (.cells (madeCells #[.int .u8 0] 0) 5)) fun e w' => e = .returned (.tuple #[.int .i64 0, .nilIface]) ∧ Elem w' (.slice (some ⟨w.heap.size, 0, none⟩) 0 0) l ∧ Below w.heap.size w w' := HD.out
    have HD0 := Lib.hid hd0
    clear hmk hn hE HD hd0
    generalize madeCells #[Value.int .u8 0] 0 = mc at HD0 hmk0
    have e2 : (2 : Nat) + 2 * 0 = 2 := rfl
    rw [e2]
    go_enter Tryz.func54, Tryz.ntmps54
    go_wp2_with fail
    refine (Tryz.hex_DecodedLen _ (by omega) (by omega) _).mono ?_
    rintro e w1 ⟨rfl, rfl⟩
    go_wp2_with fail
    refine HD0.out.mono ?_
    rintro e w2 ⟨rfl, hel, hb⟩
    have HEL := Lib.hid hel
    have HB := Lib.hid hb
    clear hel hb
    go_wp2_with fail
    go_ret2
    exact ⟨_, rfl, HEL.out, HB.out⟩
  · have HD := Lib.hid (decode_here w g (o + 2) (c - 2) n l hn hl hg h4 ev hE HX.out HR.out)
    have HN := Lib.hid hn
    clear hn hE
    have hdl : decide (2 ≤ 2 + 2 * n) = true := decide_eq_true (by omega)
    go_enter Tryz.func54, Tryz.ntmps54
    go_wp2_with fail
    refine (Tryz.hex_DecodedLen _ (by omega) (by omega) _).mono ?_
    rintro e w1 ⟨rfl, rfl⟩
    have ed : (2 * (n : Int)) / 2 = n := by omega
    go_wp2_with fail
    refine HD.out.mono ?_
    rintro e w2 ⟨rfl, hel, hb⟩
    have HEL := Lib.hid hel
    have HB := Lib.hid hb
    clear hel hb
    go_wp2_with fail
    go_ret2
    exact ⟨_, rfl, HEL.out, HB.out⟩

/-- A row of slices being filled. -/
def FillB (w : World) (gb n : Nat) (ls : List (List UInt8)) (i : Nat) : Prop := ∃ cs, w.heap[gb]? = some (.cells cs 50 (0, 0)) ∧ cs.size = n ∧ ∀ j, j < i → ∃ v l, cs[j]? = some v ∧ ls[j]? = some l ∧ Elem w v l
theorem FillB.keep {w w' : World} {gb n : Nat} {ls : List (List UInt8)} {i : Nat} (h : FillB w gb n ls i) (hb : Below w.heap.size w w') : FillB w' gb n ls i := by
  obtain ⟨cs, h1, h2, h3⟩ := h
  refine ⟨cs, (hb.block gb (heap_lt h1)).trans h1, h2, fun j hj => ?_⟩
  obtain ⟨v, l, a, b, c⟩ := h3 j hj
  exact ⟨v, l, a, b, c.keep (Keeps5.below hb)⟩
theorem FillB.cell {w : World} {gb n : Nat} {ls : List (List UInt8)} {i : Nat} (h : FillB w gb n ls i) (hi : i < n) : (∃ u, w.cell? ⟨gb, i, none⟩ = some u) ∧ w.frozen? ⟨gb, i, none⟩ = false := by
  obtain ⟨cs, h1, h2, h3⟩ := h
  exact ⟨⟨cs[i]'(by omega), by rw [cell_of_row _ _ _ _ _ _ h1]; exact Array.getElem?_eq_getElem (by omega)⟩, by simp [World.frozen?, h1]⟩
theorem FillB.step {w : World} {gb n : Nat} {ls : List (List UInt8)} {i : Nat} (h : FillB w gb n ls i) (hi : i < n) (u : Value) (l : List UInt8) (hl : ls[i]? = some l) (hu : Elem w u l) : FillB (w.setCell ⟨gb, i, none⟩ u) gb n ls (i + 1) := by
  obtain ⟨cs, h1, h2, h3⟩ := h
  have hk := Keeps5.setCell (i := i) h1 (by decide) u
  refine ⟨cs.setIfInBounds i u, ?_, by simpa using h2, fun j hj => ?_⟩
  · simp only [World.setCell, Array.getElem?_modify, if_pos, h1, Option.map_some]
    rfl
  · by_cases hij : i = j
    · subst hij
      exact ⟨u, l, by rw [Array.getElem?_setIfInBounds, if_pos rfl, if_pos (by omega)], hl, hu.keep hk⟩
    · obtain ⟨v, l', a, b, c⟩ := h3 j (by omega)
      exact ⟨v, l', by rw [Array.getElem?_setIfInBounds, if_neg hij]; exact a, b, c.keep hk⟩
theorem FillB.vals {w : World} {gb n : Nat} {ls : List (List UInt8)} (h : FillB w gb n ls n) (hn : ls.length = n) : ∃ vals : List Value, vals.length = n ∧ Fill w gb 50 n vals n ∧ Elems w vals ls := by
  obtain ⟨cs, h1, h2, h3⟩ := h
  refine ⟨cs.toList, by simpa using h2, ⟨cs, h1, h2, fun j hj => by simp⟩, by simp [h2, hn], fun j v l hv hl => ?_⟩
  have hj : j < n := by rw [← hn]; exact (List.getElem?_eq_some_iff.1 hl).1
  obtain ⟨v', l', a, b, c⟩ := h3 j hj
  have e1 : cs[j]? = some v := by simpa using hv
  rw [e1] at a
  rw [hl] at b
  cases a; cases b
  exact c

/-- What ByteaArray's scanBytes leaves. -/
def SDoneB (W : World) (p : Nat) (ls : List (List UInt8)) (e : Ending) (w' : World) : Prop := ∃ vals, vals.length = ls.length ∧ SDone W p 55 50 vals e w' ∧ Elems w' vals ls

theorem infoEbytea : (Tryz.prog.info? 50).map (fun i => (i.zero, i.size, i.bytes)) = some (some (.slice none 0 0), 1, 24) := by kernel_rfl
set_option maxRecDepth 100000 in
set_option maxHeartbeats 4000000 in
theorem scanBytes_bytea (W : World) (p g cap : Nat) (s : List UInt8) (toks : List Tok) (ls : List (List UInt8)) (hs : s = litOf toks) (hok : ∀ t ∈ toks, t.Ok) (hcap : s.length ≤ cap) (hlen : s.length ≤ 1000000) (hk : toks.length ≤ 1000)
    (hE : Elem W (.slice (some ⟨g, 0, none⟩) s.length cap) s) (hp : W.heap[p]? = some (.cells #[.slice none 0 0] 55 (0, 0))) (hls : toks.map Tok.val = ls.map hexText) (hll : ∀ l ∈ ls, l.length ≤ 500) (ev : Value) (h4 : W.cell? ⟨4, 0, none⟩ = some ev) :
    Calls Tryz.prog 44 #[.pointer (some ⟨p, 0, none⟩), .slice (some ⟨g, 0, none⟩) s.length cap] W (SDoneB W p ls) := by
  have hb0 : Below W.heap.size W (W.alloc (.cells #[.int .u8 44] 5)) := (Below.refl _ _).alloc (Nat.le_refl _) _
  have hD : Elem (W.alloc (.cells #[.int .u8 44] 5)) (.slice (some ⟨W.heap.size, 0, none⟩) 1 1) [44] := ⟨W.heap.size, 0, 1, _, _, rfl, by decide, heap_alloc_new W _, fun j hj => by
    have : j = 0 := by simp at hj; omega
    subst this; rfl⟩
  have HSL := Lib.hid (scanLinear (W.alloc (.cells #[.int .u8 44] 5)) s toks g cap W.heap.size 1 ⟨#[66, 121, 116, 101, 97, 65, 114, 114, 97, 121]⟩ hs hok hcap hlen hk (hE.keep (Keeps5.below hb0)) hD)
  have HB0 := Lib.hid hb0
  have HP := Lib.hid hp
  have HLS := Lib.hid hls
  have HLL := Lib.hid hll
  have H4 := Lib.hid h4
  have hlsl : ls.length = toks.length := by have := congrArg List.length hls; simpa using this.symm
  have HLSL := Lib.hid hlsl
  have HPL := heap_lt hp
  have hmk := fun w => run_make_row' (P := Tryz.prog) 55 50 (.slice none 0 0) 24 Tryz.underlying55 infoEbytea rfl .i64 .i64 toks.length (by omega) (by omega) w
  have HMK := Lib.hid hmk
  clear hb0 hD hs hok hE hp hmk hls hll h4 hlsl
  go_enter Tryz.func44, Tryz.ntmps44
  go_wp2_with fail
  refine HSL.out.mono ?_
  rintro e w1 ⟨A, n0, c0, xs, rfl, hn0, hb1, hel, hA⟩
  have hn : n0 = toks.length := by rw [hn0]; simp
  clear hn0
  subst hn
  have hbw1 : Below W.heap.size W w1 := HB0.out.trans (hb1.mono (by simp))
  have hpc : w1.cell? ⟨p, 0, none⟩ = some (.slice none 0 0) := by
    rw [hbw1.cell (p := ⟨p, 0, none⟩) HPL, cell_of_row _ _ _ _ _ _ HP.out]; rfl
  have HBW1 := Lib.hid hbw1
  have HEL := Lib.hid hel
  have HA := Lib.hid hA
  clear hb1 hel hA hbw1 HSL
  have hmk := HMK.out
  go_wp2_with fail
  clear hmk hpc
  go_loopw [39] (fun v39 wr => ∃ i : Nat, i ≤ toks.length ∧ v39 = .int .i64 i ∧ Hid (Below w1.heap.size w1 wr) ∧ Hid (FillB wr w1.heap.size toks.length ls i)) (fun v39 _ => toks.length - (intOf v39).toNat)
  case atStart => exact ⟨0, by omega, rfl, Lib.hid ((Below.refl _ _).alloc (Nat.le_refl _) _), Lib.hid ⟨_, heap_alloc_new w1 _, by simp [madeCells], fun j hj => absurd hj (by omega)⟩⟩
  case round =>
    obtain ⟨i, hi, rfl, hbr, hfl⟩ := hrel
    by_cases hin : i < toks.length
    · obtain ⟨ge, hAe, hcells⟩ := HA.out (by omega)
      subst hAe
      obtain ⟨l, hl⟩ : ∃ l, ls[i]? = some l := ⟨_, List.getElem?_eq_getElem (by rw [HLSL.out]; exact hin)⟩
      have hlt : (toks.map Tok.val)[i]? = some (hexText l) := by rw [HLS.out, List.getElem?_map, hl]; rfl
      obtain ⟨x, hx⟩ : ∃ x, xs[i]? = some x := ⟨_, List.getElem?_eq_getElem (by rw [HEL.out.1]; simpa using hin)⟩
      have hcx := hcells i x hx
      have hcx2 : wr.cell? ⟨ge, i, none⟩ = some x := (hbr.out.cell (p := ⟨ge, i, none⟩) (Lib.lt_of_cell hcx)).trans hcx
      have hex : Elem wr x (hexText l) := (HEL.out.2 i x _ hx hlt).keep (Keeps5.below hbr.out)
      have hbwr : Below W.heap.size W wr := HBW1.out.trans (hbr.out.mono HBW1.out.size)
      have h4w := (hbwr.cell (p := ⟨4, 0, none⟩) (Lib.lt_of_cell H4.out)).trans H4.out
      have HCALL := Lib.hid (parseBytea_hex x l wr hex (HLL.out l (List.mem_of_getElem? hl)) (Lib.lt_of_cell h4w) ev h4w)
      have HL := Lib.hid hl
      clear hl hlt hx hcx hex hcells hbwr h4w
      go_wp2_with fail
      refine HCALL.out.mono ?_
      rintro e w5 ⟨v5, rfl, hel5, hb5⟩
      have hf5 := hfl.out.keep hb5
      obtain ⟨⟨u0, hu0⟩, hu1⟩ := hf5.cell hin
      have HB6 : Hid (Below w1.heap.size w1 (w5.setCell ⟨w1.heap.size, i, none⟩ v5)) := Lib.hid ((hbr.out.trans (hb5.mono hbr.out.size)).setCell (Nat.le_refl _) _)
      have HF6 := Lib.hid (hf5.step hin v5 l HL.out hel5)
      obtain ⟨g5, o5, c5, hv5, _, _⟩ := hel5.form
      subst hv5
      clear hb5 hf5 hbr hfl hel5
      go_wp2_with fail
      go_roundw
      case rel => exact ⟨i + 1, by omega, by go_num, HB6, HF6⟩
      case measure => simp [intOf]; omega
    · obtain rfl : i = toks.length := by omega
      have hpr : wr.cell? ⟨p, 0, none⟩ = some (.slice none 0 0) ∧ wr.frozen? ⟨p, 0, none⟩ = false := by
        have h : wr.heap[p]? = some (.cells #[.slice none 0 0] 55 (0, 0)) := (hbr.out.block p (by have := HBW1.out.size; omega)).trans ((HBW1.out.block p HPL).trans HP.out)
        exact ⟨by rw [cell_of_row _ _ _ _ _ _ h]; rfl, by simp [World.frozen?, h]⟩
      obtain ⟨hpr1, hpr2⟩ := hpr
      have HF : Hid (SDoneB W p ls (.returned .nilIface) (wr.setCell ⟨p, 0, none⟩ (.slice (some ⟨w1.heap.size, 0, none⟩) toks.length toks.length))) := Lib.hid (by
        obtain ⟨vals, h1, h2, h3⟩ := hfl.out.vals HLSL.out
        have hpb : wr.heap[p]? = some (.cells #[.slice none 0 0] 55 (0, 0)) := (hbr.out.block p (by have := HBW1.out.size; omega)).trans ((HBW1.out.block p HPL).trans HP.out)
        exact ⟨vals, by rw [h1, HLSL.out], sdone HP.out HBW1.out hbr.out h2 h1, h3.keep (Keeps5.setCell hpb (by decide) _)⟩)
      clear hbr hfl
      go_wp2_with fail
      go_ret
      exact HF.out
end Go.Proofs.YtbbjjkcjpdmjnaaGreatDoor
