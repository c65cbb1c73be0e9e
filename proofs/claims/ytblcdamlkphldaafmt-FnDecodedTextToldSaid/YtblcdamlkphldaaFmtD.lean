/- Walks of the law FnDecodedText: parseBytea at the hex format. -/
import Derived.Test.YtblcdamlkphldaaFmtC
import Derived.Test.YtblcdamlkphldaaFmtShelf
import Derived.Deep.OwnRows
import Derived.Lib.AtoiErrMem
namespace Go.Proofs.YtblcdamlkphldaaFmt
open Go.RowKit Go.Lib

theorem v_hd : ∀ n : Fin 16, Hx.v (hd n) = n := of_decide_eq_true (by kernel_rfl)
theorem decode_hexs (l : List UInt8) : Hx.decode (hexs l) = (l, .ok) := by
  induction l with
  | nil => rw [hexs, Hx.decode_nil]
  | cons c r ih =>
    have hc := c.toNat_lt
    have h1 := v_hd ⟨c.toNat / 16, by omega⟩
    have h2 := v_hd ⟨c.toNat % 16, by omega⟩
    simp only at h1 h2
    rw [hexs, Hx.decode_two, h1, h2, if_neg (by omega), if_neg (by omega), ih]
    simp only [Prod.mk.injEq, List.cons.injEq, and_true]
    apply UInt8.toNat_inj.1
    rw [UInt8.toNat_ofNat']
    omega

abbrev ints (l : List UInt8) : List Int := l.map fun b => (b.toNat : Int)
theorem bytesOf_ints (l : List UInt8) : bytesOf (ints l) = l := by
  unfold bytesOf ints
  rw [List.map_map]
  refine (List.map_congr_left fun b _ => ?_).trans (List.map_id l)
  simp

/-- What Decode does here: it fills the new row. -/
theorem decode_here (w1 : World) (g os cs n : Nat) (l : List UInt8) (hn : n = l.length) (hl : n ≤ 500) (hg : g < w1.heap.size) (ev : Value) (hE : w1.cell? ⟨0, 0, none⟩ = some ev)
    (hx : ∀ i, i < 2 * l.length → w1.cell? ⟨g, os + i, none⟩ = some (.int .u8 ((ints (hexs l)).getD i 0)))
    (hr : ∀ i, i < 2 * l.length → 0 ≤ (ints (hexs l)).getD i 0 ∧ (ints (hexs l)).getD i 0 < 256) :
    Calls Tryf.prog 18 #[.slice (some ⟨w1.heap.size, 0, none⟩) n n, .slice (some ⟨g, os, none⟩) (2 * n) cs] (w1.alloc (.cells (madeCells #[.int .u8 0] n) 5)) fun e w' =>
      e = .returned (.tuple #[.int .i64 n, .nilIface]) ∧ BytesAt w' w1.heap.size l ∧ Below w1.heap.size w1 w' := by
  have h0 : 0 < w1.heap.size := by omega
  have hlen : (ints (hexs l)).length = 2 * n := by simp [hexs_length, hn]
  refine (Tryf.hex_Decode w1.heap.size 0 n n n (fun _ => .int .u8 0) g os (2 * n) cs (ints (hexs l)) _ ev hlen (by rw [hn]; exact hr) (fun i hi => ?_) (World.rowIs_made _ _ _ _) (by omega) (by omega) (by omega) (by omega) ?_ (by omega)).mono ?_
  · rw [World.cell?_alloc_lt _ _ _ hg]
    exact hx i (by omega)
  · rw [World.cell?_alloc_lt _ _ _ h0]
    exact hE
  · rintro e w' ⟨rfl, hrow, hgrow⟩
    rw [bytesOf_ints, decode_hexs] at hrow ⊢
    refine ⟨by rw [← hn]; rfl, fun j hj => ?_, ((Below.refl _ _).alloc (Nat.le_refl _) _).grown hgrow (by simp) (fun k hk => by cases hk; exact Nat.le_refl _)⟩
    rw [hrow.cell (by omega)]
    simp only [Hx.rowP]
    rw [if_pos (by omega)]
    simp [hj]

theorem parseBytea_hex (g cap : Nat) (l : List UInt8) (w : World) (hc : BytesAt w g (hexText l)) (hl : l.length ≤ 500) (ev : Value) (hE : w.cell? ⟨0, 0, none⟩ = some ev) (hcap : (hexText l).length ≤ cap) (hg : g < w.heap.size) :
    Calls Tryf.prog 10 #[.slice (some ⟨g, 0, none⟩) (hexText l).length cap] w fun e w' => ∃ g' cap', e = .returned (.tuple #[.slice (some ⟨g', 0, none⟩) l.length cap', .nilIface]) ∧ BytesAt w' g' l ∧ Below w.heap.size w w' := by
  have h2 : BytesAt w g [92, 120] := fun j hj => by
    match j, hj with
    | 0, _ => exact hc 0 (by rw [hexText_length]; omega)
    | 1, _ => exact hc 1 (by rw [hexText_length]; omega)
  have hcv : (convert 39 9 (.slice (some ⟨g, 0, none⟩) 2 cap)).run Tryf.prog w = .ok (.string ⟨#[92, 120]⟩) w := back w g cap [92, 120] h2
  have hx : ∀ i, i < 2 * l.length → w.cell? ⟨g, 2 + i, none⟩ = some (.int .u8 ((ints (hexs l)).getD i 0)) := fun i hi => by
    have := hc (2 + i) (by rw [hexText_length]; omega)
    rw [this]
    have e : (hexText l)[2 + i]'(by rw [hexText_length]; omega) = (hexs l)[i]'(by rw [hexs_length]; omega) := by
      simp only [hexText]
      rw [List.getElem_append_right (by simp)]
      simp
    rw [e]
    simp [List.getD, show i < (hexs l).length by rw [hexs_length]; omega]
  have hr : ∀ i, i < 2 * l.length → 0 ≤ (ints (hexs l)).getD i 0 ∧ (ints (hexs l)).getD i 0 < 256 := fun i hi => by
    have hi' : i < (hexs l).length := by rw [hexs_length]; omega
    have : (ints (hexs l)).getD i 0 = ((hexs l)[i].toNat : Int) := by simp [List.getD, hi']
    rw [this]
    have := (hexs l)[i].toNat_lt
    omega
  rw [hexText_length] at *
  have hmk := fun W => run_make_row' (P := Tryf.prog) 39 5 (.int .u8 0) 1 Tryf.underlying39 info5 rfl .i64 .i64 l.length (by omega) (by omega) W
  have Hc := Lib.hid hc; have Hx := Lib.hid hx; have Hr := Lib.hid hr; have H2 := Lib.hid h2
  clear hc hx hr h2
  obtain ⟨n, hn⟩ : ∃ n : Nat, n = l.length := ⟨_, rfl⟩
  rw [← hn] at hmk hcap hl ⊢
  have Hn := Lib.hid hn
  clear hn
  have HE := Lib.hid hE
  clear hE
  by_cases hcc : cap = 2
  · subst hcc
    obtain rfl : n = 0 := by omega
    have e2 : (2 : Nat) + 2 * 0 = 2 := rfl
    rw [e2]
    have hmk0 : ∀ W : World, (Instr.makeSlice 39 (.int .i64 0) (.int .i64 0)).run Tryf.prog W = .ok (.slice (some ⟨W.heap.size, 0, none⟩) 0 0) (W.alloc (.cells (madeCells #[.int .u8 0] 0) 5)) := fun W => hmk W
    clear hmk
    have hd0 : Calls Tryf.prog 18 #[.slice (some ⟨w.heap.size, 0, none⟩) 0 0, .slice (some ⟨g, 0, none⟩) 0 0] (w.alloc (.cells (madeCells #[.int .u8 0] 0) 5)) fun e w' => e = .returned (.tuple #[.int .i64 0, .nilIface]) ∧ BytesAt w' w.heap.size l ∧ Below w.heap.size w w' := decode_here w g 0 0 0 l Hn.out hl hg ev HE.out (fun i hi => by have := Hn.out; omega) Hr.out
    generalize madeCells #[Value.int .u8 0] 0 = mc at hd0 hmk0
    have hd := Lib.hid hd0
    clear hd0
    go_enter Tryf.func10, Tryf.ntmps10
    go_wp2_with fail
    refine (Tryf.hex_DecodedLen _ (by omega) (by omega) _).mono ?_
    rintro e w1 ⟨rfl, rfl⟩
    go_wp2_with fail
    refine hd.out.mono ?_
    rintro e w2 ⟨rfl, hB, hb⟩
    have HB := Lib.hid hB
    have Hb := Lib.hid hb
    clear hB hb
    go_wp2
    go_ret2
    exact ⟨_, _, rfl, HB.out, Hb.out⟩
  · have hd := Lib.hid (decode_here w g 2 (cap - 2) n l Hn.out hl hg ev HE.out Hx.out Hr.out)
    go_enter Tryf.func10, Tryf.ntmps10
    go_wp2_with fail
    refine (Tryf.hex_DecodedLen _ (by omega) (by omega) _).mono ?_
    rintro e w1 ⟨rfl, rfl⟩
    have ed : (2 * (n : Int)) / 2 = n := by omega
    go_wp2_with fail
    refine hd.out.mono ?_
    rintro e w2 ⟨rfl, hB, hb⟩
    have HB := Lib.hid hB
    have Hb := Lib.hid hb
    clear hB hb
    go_wp2
    go_ret2
    exact ⟨_, _, rfl, HB.out, Hb.out⟩

theorem BytesAt.below {w w' : World} {g : Nat} {l : List UInt8} (h : BytesAt w g l) (hb : Below w.heap.size w w') : BytesAt w' g l := fun j hj => by
  have := h j hj
  rw [hb.cell (p := ⟨g, j, none⟩) (Lib.lt_of_cell this)]
  exact this

theorem textDecode_bytes (g cap : Nat) (l : List UInt8) (w : World) (hc : BytesAt w g (hexText l)) (hl : l.length ≤ 500) (ev : Value) (hE : w.cell? ⟨0, 0, none⟩ = some ev) (hcap : (hexText l).length ≤ cap) (hg : g < w.heap.size) :
    Calls Tryf.prog 7 #[.slice (some ⟨g, 0, none⟩) (hexText l).length cap, .int .u32 17] w fun e w' => ∃ g' cap', e = .returned (.tuple #[.iface 39 (.slice (some ⟨g', 0, none⟩) l.length cap'), .nilIface]) ∧ BytesAt w' g' l ∧ Below w.heap.size w w' := by
  have h10 := Lib.hid (parseBytea_hex g cap l w hc hl ev hE hcap hg)
  clear hc hl hE hcap hg
  have h8 : Calls Tryf.prog 8 #[.pointer none, .slice (some ⟨g, 0, none⟩) (hexText l).length cap, .int .u32 17] w fun e w' => ∃ g' cap', e = .returned (.tuple #[.iface 39 (.slice (some ⟨g', 0, none⟩) l.length cap'), .nilIface]) ∧ BytesAt w' g' l ∧ Below w.heap.size w w' := by
    generalize (Value.slice (some ⟨g, 0, none⟩) (hexText l).length cap) = v at h10 ⊢
    go_enter Tryf.func8, Tryf.ntmps8
    go_wp2_with fail
    refine h10.out.mono ?_
    rintro e w' ⟨g', cap', rfl, hB, hb⟩
    have HB := Lib.hid hB
    have Hb := Lib.hid hb
    clear hB hb
    go_wp2
    go_ret2
    exact ⟨_, _, rfl, HB.out, Hb.out⟩
  have H8 := Lib.hid h8
  clear h10 h8
  generalize (Value.slice (some ⟨g, 0, none⟩) (hexText l).length cap) = v at H8 ⊢
  go_enter Tryf.func7, Tryf.ntmps7
  go_wp2_with fail
  refine H8.out.mono ?_
  rintro e w' ⟨g', cap', rfl, hB, hb⟩
  have HB := Lib.hid hB
  have Hb := Lib.hid hb
  clear hB hb
  go_wp2_with fail
  refine (plain_39 _ _).mono ?_
  rintro e w2 ⟨rfl, hb2⟩
  have Hb2 := Lib.hid hb2
  clear hb2
  go_wp2
  go_ret2
  exact ⟨_, _, rfl, HB.out.below Hb2.out, Hb.out.trans (Hb2.out.mono Hb.out.size)⟩

theorem decoded_bytes (l : List UInt8) (hl : l.length ≤ 500) (w : World) (ev : Value) (hE : w.cell? ⟨0, 0, none⟩ = some ev) :
    Calls Tryf.prog 4 #[.int .u32 17, .string ⟨(hexText l).toArray⟩] w fun e w' => e = .returned (.tuple #[dat 4 ⟨l.toArray⟩ false, .bool true]) ∧ Below w.heap.size w w' :=
  decoded_of 17 rfl ⟨(hexText l).toArray⟩ w 4 ⟨l.toArray⟩ false fun W1 cap hcap hlt hbel hB => by
    have h0 := Lib.lt_of_cell hE
    have hB' : BytesAt W1 (w.heap.size + 1) (hexText l) := hB
    have hsz : (⟨(hexText l).toArray⟩ : ByteArray).size = (hexText l).length := by simp [ByteArray.size]
    rw [hsz] at hcap ⊢
    refine (textDecode_bytes _ cap l W1 hB' hl ev ((hbel.cell h0).trans hE) hcap hlt).mono ?_
    rintro e W2 ⟨g', cap', rfl, hb2, hbel2⟩
    exact ⟨_, rfl, hbel2, datum_bytes g' cap' l W2 hb2⟩
end Go.Proofs.YtblcdamlkphldaaFmt
