/- Walks of the law FnBack: ByteaArray's Value. -/
import Derived.Test.YtbbjjkcjpdmjnaaGreatDoorZt
import Derived.Lib.LazyBuf
import Derived.Lib.SlBuf
import Derived.StillTailTactics
namespace Go.Proofs.YtbbjjkcjpdmjnaaGreatDoor
open Go.RowKit

/-- A row of bytes of the call's own, of which the first are written. -/
structure FW (W : World) (cv : Nat) (w : World) (l : List UInt8) : Prop where
  below : Below W.heap.size W w
  row : ∃ f, w.rowIs W.heap.size 5 cv f ∧ ∀ k (h : k < l.length), f k = .int .u8 (l[k].toNat : Int)
  le : l.length ≤ cv
theorem FW.made (W : World) (cv : Nat) : FW W cv (W.alloc (.cells (madeCells #[.int .u8 0] cv) 5)) [] :=
  ⟨(Below.refl _ _).alloc (Nat.le_refl _) _, ⟨_, World.rowIs_made _ _ _ _, fun k h => absurd h (Nat.not_lt_zero _)⟩, Nat.zero_le _⟩
theorem FW.drew {W : World} {cv : Nat} {w : World} {l : List UInt8} (h : FW W cv w l) : FW W cv w.drew l := ⟨h.below.drew, h.row, h.le⟩
theorem FW.at_ {W : World} {cv : Nat} {w : World} {l : List UInt8} (h : FW W cv w l) (k : Nat) (hk : k < cv) : ∃ o, w.cell? ⟨W.heap.size, k, none⟩ = some o ∧ w.frozen? ⟨W.heap.size, k, none⟩ = false := by
  obtain ⟨f, hr, _⟩ := h.row
  exact ⟨_, hr.cell hk, hr.frozen k⟩
theorem FW.set {W : World} {cv : Nat} {w : World} {l : List UInt8} (h : FW W cv w l) (b : UInt8) (z : Int) (hz : (b.toNat : Int) = z) (k : Nat) (hk : k = l.length) (hs : k < cv) : FW W cv (w.setCell ⟨W.heap.size, k, none⟩ (.int .u8 z)) (l ++ [b]) := by
  subst hk hz
  obtain ⟨f, hr, hf⟩ := h.row
  refine ⟨h.below.setCell (Nat.le_refl _) _, ⟨_, hr.set _ _, fun j hj => ?_⟩, by simp; omega⟩
  by_cases he : j = l.length
  · subst he
    rw [if_pos rfl]
    simp
  · rw [if_neg he]
    have hj2 : j < l.length := by simp at hj; omega
    rw [hf j hj2, List.getElem_append_left hj2]
theorem FW.sets {W : World} {cv : Nat} : ∀ (bs : List UInt8) {w : World} {l : List UInt8}, FW W cv w l → ∀ (k : Nat), k = l.length → k + bs.length ≤ cv → FW W cv (w.setCells W.heap.size k (bs.map fun x => Value.int .u8 (x.toNat : Int))) (l ++ bs)
  | [], w, l, h, k, hk, hs => by simpa [World.setCells] using h
  | b :: r, w, l, h, k, hk, hs => by
    have h1 := h.set b _ rfl k hk (by simp at hs; omega)
    have h2 := FW.sets r h1 (k + 1) (by simp [hk]) (by simp at hs; omega)
    simpa [World.setCells] using h2
theorem FW.head {W : World} {cv : Nat} {w : World} {a : UInt8} {l : List UInt8} (h : FW W cv w (a :: l)) (b : UInt8) (z : Int) (hz : (b.toNat : Int) = z) : FW W cv (w.setCell ⟨W.heap.size, 0, none⟩ (.int .u8 z)) (b :: l) := by
  subst hz
  obtain ⟨f, hr, hf⟩ := h.row
  refine ⟨h.below.setCell (Nat.le_refl _) _, ⟨_, hr.set _ _, fun j hj => ?_⟩, by simpa using h.le⟩
  by_cases he : j = 0
  · subst he
    rw [if_pos rfl]
    rfl
  · rw [if_neg he, hf j (by simpa using hj)]
    obtain ⟨k, rfl⟩ : ∃ k, j = k + 1 := ⟨j - 1, by omega⟩
    rfl
theorem FW.string {W : World} {cv : Nat} {w : World} {l : List UInt8} (h : FW W cv w l) (c n : Nat) (hn : n = l.length) : (convert 50 9 (.slice (some ⟨W.heap.size, 0, none⟩) n c)).run Tryz.prog w = .ok (.string ⟨l.toArray⟩) w := by
  subst hn
  obtain ⟨f, hr, hf⟩ := h.row
  exact run_convert_bytes_back _ 50 9 5 ⟨W.heap.size, 0, none⟩ c l Tryz.underlying50 Tryz.underlying5 Tryz.underlying9 (fun j hj => by
    rw [Lib.add_plain, Nat.zero_add, hr.cell (Nat.lt_of_lt_of_le hj h.le), hf j hj])
theorem digit_hd : ∀ n : Fin 16, Lib.Hx.digit n = hd n := of_decide_eq_true (by kernel_rfl)
theorem encode_hexs (l : List UInt8) : Lib.Hx.encode l = hexs l := by
  induction l with
  | nil => rfl
  | cons c r ih =>
    have hc := c.toNat_lt
    have h1 := digit_hd ⟨c.toNat / 16, by omega⟩
    have h2 := digit_hd ⟨c.toNat % 16, by omega⟩
    simp only at h1 h2
    rw [Lib.Hx.encode_cons, hexs, ih, h1, h2]
theorem FW.enc {W : World} {cv : Nat} {w : World} {l : List UInt8} (h : FW W cv w l) (g c n : Nat) (x : List UInt8) (hn : n = x.length) (hg : g < W.heap.size) (k nd cd : Nat) (hk : k = l.length) (hnd : k + nd = cv) (hfit : 2 * n ≤ nd) (hbig : n ≤ 1000000)
    (hx : ∀ i (h : i < x.length), w.cell? ⟨g, i, none⟩ = some (.int .u8 (x[i].toNat : Int))) :
    Calls Tryz.prog 40 #[.slice (some ⟨W.heap.size, k, none⟩) nd cd, .slice (some ⟨g, 0, none⟩) n c] w fun e w' => e = .returned (.int .i64 ((n : Int) * 2)) ∧ FW W cv w' (l ++ hexs x) := by
  subst hk
  obtain ⟨f, hr, hf⟩ := h.row
  have hget : ∀ i (h : i < x.length), (ints x).getD i 0 = (x[i].toNat : Int) := fun i hi => by simp [ints, List.getD, hi]
  refine (Tryz.hex_Encode W.heap.size l.length nd cd cv f g 0 n c (ints x) w (by simp [hn]) (fun i hi => ?_) (fun i hi => ?_) hr (by omega) hfit (by omega) (by omega)).mono ?_
  · rw [hget i (by omega)]
    have := (x[i]'(by omega)).toNat_lt
    omega
  · rw [Nat.zero_add, hget i (by omega)]
    exact hx i (by omega)
  · rintro e w' ⟨rfl, hrow, hgr⟩
    rw [bytesOf_ints] at hrow
    refine ⟨rfl, h.below.grown hgr h.below.size (fun k hk => by cases hk; exact Nat.le_refl _), ⟨_, hrow, fun j hj => ?_⟩, by rw [List.length_append, hexs_length]; omega⟩
    unfold Lib.Hx.row
    rw [encode_hexs]
    rw [List.length_append, hexs_length] at hj
    by_cases h1 : l.length ≤ j ∧ j < l.length + 2 * n
    · rw [if_pos h1, List.getElem_append_right h1.1, List.getElem?_eq_getElem (by rw [hexs_length]; omega)]
      rfl
    · rw [if_neg h1, hf j (by omega), List.getElem_append_left (by omega)]

/-- The text of an element, and with the comma ahead. -/
def bt (x : List UInt8) : List UInt8 := [34, 92, 92, 120] ++ hexs x ++ [34]
def bts (ns : List (List UInt8)) : List UInt8 := ns.flatMap fun x => 44 :: bt x
def sum2 (ns : List (List UInt8)) : Nat := (ns.map fun x => x.length * 2).sum
theorem bts_length (ns : List (List UInt8)) : (bts ns).length = 6 * ns.length + sum2 ns := by
  induction ns with
  | nil => rfl
  | cons x ns ih =>
    simp only [bts, sum2, List.flatMap_cons, List.length_append, List.length_cons, List.map_cons, List.sum_cons, bt, hexs_length, List.length_nil] at ih ⊢
    omega
theorem bts_lit (x : List UInt8) (ns : List (List UInt8)) : 123 :: (bt x ++ (bts ns ++ [125])) = litTs ((x :: ns).map bt) := by
  simp only [List.map_cons, litTs, bts]
  simp [List.flatMap_map]
theorem sum2_take (ns : List (List UInt8)) (i : Nat) (x : List UInt8) (hx : ns[i]? = some x) : sum2 (ns.take (i + 1)) = sum2 (ns.take i) + x.length * 2 := by
  obtain ⟨hlt, he⟩ := List.getElem?_eq_some_iff.1 hx
  rw [List.take_succ_eq_append_getElem hlt, he]
  simp [sum2]
theorem bts_take (ns : List (List UInt8)) (i : Nat) (x : List UInt8) (hx : ns[i]? = some x) : bts (ns.take (i + 1)) = bts (ns.take i) ++ [44, 34, 92, 92, 120] ++ hexs x ++ [34] := by
  obtain ⟨hlt, he⟩ := List.getElem?_eq_some_iff.1 hx
  rw [List.take_succ_eq_append_getElem hlt, he]
  simp [bts, bt]
theorem sum2_le (ns : List (List UInt8)) (i : Nat) : sum2 (ns.take i) ≤ sum2 ns := by
  have h : sum2 ns = sum2 (ns.take i) + sum2 (ns.drop i) := by
    have := congrArg sum2 (List.take_append_drop i ns)
    rw [← this]
    unfold sum2
    rw [List.map_append, List.sum_append]
  omega
theorem sum2_bound (ns : List (List UInt8)) (h : ∀ x ∈ ns, x.length ≤ 400) : sum2 ns ≤ 800 * ns.length := by
  induction ns with
  | nil => exact Nat.le_refl _
  | cons x ns ih =>
    have h1 := h x (List.mem_cons_self ..)
    have h2 := ih (fun y hy => h y (List.mem_cons_of_mem _ hy))
    simp only [sum2, List.map_cons, List.sum_cons, List.length_cons] at h2 ⊢
    omega

theorem size5 (w : World) : (Go.sizeOf 5).run Tryz.prog w = .ok 1 w := by kernel_rfl

set_option maxRecDepth 100000 in
set_option maxHeartbeats 400000 in
theorem value_bytea (W : World) (ga n c : Nat) (ns : List (List UInt8)) (T : Nat → List UInt8 → Prop) (hn : ns.length = n) (hk : n ≤ 1000) (hcells : ∀ (j : Nat) x, ns[j]? = some x → ∃ g cc, W.cell? ⟨ga, j, none⟩ = some (.slice (some ⟨g, 0, none⟩) x.length cc) ∧ Elem W (.slice (some ⟨g, 0, none⟩) x.length cc) x) (hT : ∀ (j : Nat) x, ns[j]? = some x → T j (bt x)) (hbd : ∀ x ∈ ns, x.length ≤ 400) :
    Calls Tryz.prog 25 #[.slice (some ⟨ga, 0, none⟩) n c] W (VDone T n W) := by
  have hnil := fun W1 : World => Lib.run_eql_slice_nil (P := Tryz.prog) W1 55 50 (some ⟨ga, 0, none⟩) n c 0 0 Tryz.underlying55
  have HCELLS := Lib.hid hcells
  have HN := Lib.hid hn
  have HT := Lib.hid hT
  have HBD := Lib.hid hbd
  clear hcells hn hT hbd
  by_cases h0 : n = 0
  · subst h0
    have HF : Hid (VDone T 0 W (.returned (.tuple #[.iface 9 (.string ⟨#[123, 125]⟩), .nilIface])) W) := Lib.hid ⟨[], rfl, fun j t h => by simp at h, rfl, Below.refl _ _⟩
    go_enter Tryz.func25, Tryz.ntmps25
    go_wp2_with fail
    go_ret2
    exact HF.out
  · have hn1 : 1 ≤ n := by omega
    have hdn : decide (0 < n) = true := decide_eq_true (by omega)
    obtain ⟨s0, hs0⟩ : ∃ s0 : Nat, s0 = 1 + 6 * n := ⟨_, rfl⟩
    have hcap0 : (1 : Int) + 6 * (n : Int) = (s0 : Int) := by omega
    obtain ⟨cv, hcv⟩ : ∃ cv : Nat, cv = 1 + 6 * n + sum2 ns := ⟨_, rfl⟩
    have hsb := sum2_bound ns HBD.out
    rw [HN.out] at hsb
    have hcv1 : 1 ≤ cv := by omega
    have hcv2 : cv ≤ 1000000 := by omega
    have hS0 : s0 = 1 + 6 * n + sum2 (ns.take 0) := by simp [sum2, hs0]
    have hs0b : s0 ≤ 1000000 := by omega
    have HS0 := Lib.hid hS0
    have HCV := Lib.hid hcv
    have hmk : ∀ w : World, (Instr.makeSlice 50 (.int .i64 (cv : Int)) (.int .i64 (cv : Int))).run Tryz.prog w = .ok (.slice (some ⟨w.heap.size, 0, none⟩) cv cv) (w.alloc (.cells (madeCells #[.int .u8 0] cv) 5)) := fun w => make50 cv cv (by omega) (by omega) w
    have HFW := Lib.hid (FW.made W cv)
    obtain ⟨x0, hx0⟩ : ∃ x0, ns[0]? = some x0 := ⟨_, List.getElem?_eq_getElem (by rw [HN.out]; omega)⟩
    obtain ⟨_, _, hcx, _⟩ := HCELLS.out 0 x0 hx0
    have hga : ga < W.heap.size := Lib.lt_of_cell hcx
    have HSB := Lib.hid hsb
    clear h0 hx0 hcx hcv hS0 hs0 hsb
    go_enter Tryz.func25, Tryz.ntmps25
    go_wp2_with fail
    go_loopw [5, 7, 23] (fun v5 _ v23 wr => ∃ (i s : Nat), i ≤ n ∧ v23 = .int .i64 i ∧ v5 = .int .i64 s ∧ s ≤ 1000000 ∧ W = wr ∧ Hid (s = 1 + 6 * n + sum2 (ns.take i))) (fun _ _ v23 _ => n - (intOf v23).toNat)
    case atStart => exact ⟨0, s0, by omega, rfl, rfl, hs0b, rfl, HS0⟩
    case round =>
      obtain ⟨i, s, hi1, rfl, rfl, hsb, rfl, hs⟩ := hrel
      by_cases hin : i < n
      · obtain ⟨x, hx⟩ : ∃ x, ns[i]? = some x := ⟨_, List.getElem?_eq_getElem (by rw [HN.out]; exact hin)⟩
        obtain ⟨g, cc, hci, hel⟩ := HCELLS.out i x hx
        have hxb := HBD.out x (List.mem_of_getElem? hx)
        obtain ⟨m, hm⟩ : ∃ m : Nat, m = x.length := ⟨_, rfl⟩
        obtain ⟨s', hs'⟩ : ∃ s' : Nat, s' = s + m * 2 := ⟨_, rfl⟩
        have hse : (s : Int) + (m : Int) * 2 = (s' : Int) := by omega
        have HS' : Hid (s' = 1 + 6 * n + sum2 (ns.take (i + 1))) := Lib.hid (by rw [sum2_take ns i x hx, ← hm, hs', hs.out]; omega)
        have hsb' : s' ≤ 1000000 := by have := sum2_le ns (i + 1); have := HSB.out; have := HS'.out; omega
        rw [← hm] at hci hxb
        clear hm hel hs' hx
        go_wp2_with fail
        refine (Tryz.hex_EncodedLen _ (by omega) (by omega) _).mono ?_
        rintro e w1 ⟨rfl, rfl⟩
        go_wp2_with fail
        go_roundw
        case rel => exact ⟨i + 1, s', by omega, by go_num, rfl, hsb', trivial, HS'⟩
        case measure => simp [intOf]; omega
      · obtain rfl : n = i := by omega
        have hscv : s = cv := by have := hs.out; rw [List.take_of_length_le (by rw [HN.out]; exact Nat.le_refl _)] at this; rw [this, HCV.out]
        clear hs
        obtain rfl : cv = s := hscv.symm
        go_wp2_with fail
        go_loopw [9, 10, 11] (fun v9 v10 _ wr => ∃ (j pos r : Nat), j ≤ n ∧ v9 = .int .i64 j ∧ pos + r = cv ∧ v10 = .slice (some ⟨W.heap.size, pos, none⟩) r r ∧ Hid (pos = (bts (ns.take j)).length) ∧ Hid (FW W cv wr (bts (ns.take j)))) (fun v9 _ _ _ => n - (intOf v9).toNat)
        case atStart => exact ⟨0, 0, cv, by omega, rfl, by omega, rfl, Lib.hid rfl, HFW⟩
        case round =>
          obtain ⟨j, pos, r, hj1, rfl, hpr, rfl, hpos, hfw⟩ := hrel
          by_cases hjn : j < n
          · obtain ⟨x, hx⟩ : ∃ x, ns[j]? = some x := ⟨_, List.getElem?_eq_getElem (by rw [HN.out]; exact hjn)⟩
            obtain ⟨g, cc, hci, hel⟩ := HCELLS.out j x hx
            have hxb := HBD.out x (List.mem_of_getElem? hx)
            obtain ⟨m, hm⟩ : ∃ m : Nat, m = x.length := ⟨_, rfl⟩
            have hbl : pos + 6 + 2 * m + 1 ≤ cv := by
              have h1 := hpos.out
              rw [bts_length, List.length_take, HN.out] at h1
              have h2 := sum2_take ns j x hx
              have h3 := sum2_le ns (j + 1)
              have h4 := HCV.out
              omega
            have hcl : ∀ k (h : k < x.length), W.cell? ⟨g, k, none⟩ = some (.int .u8 (x[k].toNat : Int)) := fun k hk => by
              have := hel.cell.2.2 k hk
              rwa [Nat.zero_add] at this
            have hgl : g < W.heap.size := by
              obtain ⟨g', off', c', cs, fz, h1, h2, h3, h4⟩ := hel
              injection h1 with h5
              injection h5 with h5
              injection h5 with h5
              subst h5
              exact heap_lt h3
            obtain ⟨w1, hcp, hf1⟩ : ∃ w1, (Builtin.copy_ #[50, 9] 3 #[.slice (some ⟨W.heap.size, pos, none⟩) r r, .string ⟨#[44, 34, 92, 92, 120]⟩]).run Tryz.prog wr = .ok (.int .i64 5) w1 ∧ FW W cv w1 (bts (ns.take j) ++ [44, 34, 92, 92, 120]) :=
              ⟨_, Go.run_copy_string (P := Tryz.prog) wr 50 9 3 5 W.heap.size pos r r ⟨#[44, 34, 92, 92, 120]⟩ Tryz.underlying50 size5 (by show 5 ≤ r; omega)
                (fun k hk => by
                  have hk5 : k < 5 := hk
                  obtain ⟨o, ho, _⟩ := hfw.out.at_ (pos + k) (by omega)
                  rw [ho]; rfl)
                (fun k hk => by
                  have hk5 : k < 5 := hk
                  obtain ⟨o, _, ho⟩ := hfw.out.at_ (pos + k) (by omega)
                  exact ho), hfw.out.sets [44, 34, 92, 92, 120] pos hpos.out (by show pos + 5 ≤ cv; omega)⟩
            have hcw := (hf1.below.cell (p := ⟨ga, j, none⟩) hga).trans hci
            rw [← hm] at hcw
            obtain ⟨m2, hm2⟩ : ∃ m2 : Nat, m2 = 2 * m := ⟨_, rfl⟩
            have hm2e : (m : Int) * 2 = (m2 : Int) := by omega
            have H40 : Hid (Calls Tryz.prog 40 #[.slice (some ⟨W.heap.size, pos + 5, none⟩) (r - 5) (r - 5), .slice (some ⟨g, 0, none⟩) m cc] w1.drew fun e w2 => e = .returned (.int .i64 (m2 : Int)) ∧ FW W cv w2 (bts (ns.take j) ++ [44, 34, 92, 92, 120] ++ hexs x)) := Lib.hid (by
              rw [← hm2e]
              exact hf1.drew.enc g cc m x hm hgl (pos + 5) (r - 5) (r - 5) (by simp [← hpos.out]) (by omega) (by omega) (by omega) (fun k hk => by
                rw [hf1.drew.below.cell (p := ⟨g, k, none⟩) hgl]
                exact hcl k hk))
            have HF1 := Lib.hid hf1
            have HX := Lib.hid hx
            have HM := Lib.hid hm
            have hrcv : r ≤ 1000000 := by omega
            have hr5 : 5 < r := by omega
            have hr5ne : ¬ r = 5 := by omega
            obtain ⟨o, ho⟩ : ∃ o : Nat, o = 5 + m2 := ⟨_, rfl⟩
            have hoe : (5 : Int) + (m2 : Int) = (o : Int) := by omega
            have hwr : IntKind.i64.wrap (o : Int) = (o : Int) := by rw [IntKind.wrap_i64]; omega
            have HM2 := Lib.hid hm2
            have hro : o + 1 < r := by omega
            have HO := Lib.hid ho
            have HCI := Lib.hid hci
            have hr5i : (5 : Int) ≤ (r : Int) := by omega
            have hji : (0 : Int) ≤ (j : Int) := by omega
            have hjni : (j : Int) < (n : Int) := by omega
            rw [← hm] at hxb HCI
            clear hf1 hcl hci hel hm hfw hx ho hbl hm2 hm2e
            go_wp2_with (at_builtin; refine Lib.wpList_copy_run _ rfl _ _ 50 9 rfl _ _ rfl rfl hcp ?_)
            have HC3 : Hid (∀ w3, FW W cv w3 (bts (ns.take j) ++ [44, 34, 92, 92, 120] ++ hexs x) → w3.cell? ⟨ga, j, none⟩ = some (.slice (some ⟨g, 0, none⟩) m cc)) := Lib.hid (fun w3 hf3 => (hf3.below.cell (p := ⟨ga, j, none⟩) hga).trans HCI.out)
            go_region_held3 (fun w' => w'.cell? ⟨ga, j, none⟩ = some (.slice (some ⟨g, 0, none⟩) m cc)) (first | exact hcw | exact HC3.out _ (by assumption)) (first | (go_at_call 40; (try rw [if_neg hr5ne]); refine H40.out.mono ?_; rintro e w3 ⟨rfl, hf3⟩))
            obtain ⟨old, hold, hfz⟩ := hf3.at_ (pos + o) (by omega)
            have hf4 := hf3.set 34 34 rfl (pos + o) (by simp [hexs_length, ← hpos.out, ← HM.out]; have := HO.out; have := HM2.out; omega) (by omega)
            rw [← bts_take ns j x HX.out] at hf4
            have HF4 := Lib.hid hf4
            have HP4 : Hid (pos + o + 1 = (bts (ns.take (j + 1))).length) := Lib.hid (by
              rw [bts_take ns j x HX.out]
              have h1 := hpos.out
              have h2 := HO.out
              have h3 := HM2.out
              have h4 := HM.out
              simp only [List.length_append, hexs_length, List.length_cons, List.length_nil]
              omega)
            have hro1 : ¬ r = o + 1 := by omega
            obtain ⟨o1, ho1⟩ : ∃ o1 : Nat, o1 = o + 1 := ⟨_, rfl⟩
            have ho1e : (o : Int) + 1 = (o1 : Int) := by omega
            have ho1r : o1 < r := by omega
            have ho1n : ¬ r = o1 := by omega
            have hor : o < r := by omega
            have HO1 := Lib.hid ho1
            clear hf3 hf4 ho1 hro1
            simp only [Exit.then]
            go_step
            go_wp2_with fail
            go_roundw
            case rel => exact ⟨j + 1, pos + o1, r - o1, by omega, by go_num, by omega, rfl, by rw [HO1.out, ← Nat.add_assoc]; exact HP4, HF4⟩
            case measure => simp [intOf]; omega
          · obtain rfl : n = j := by omega
            obtain ⟨y, ys, hys⟩ : ∃ y ys, ns = y :: ys := by
              cases ns with
              | nil => have := HN.out; simp at this; omega
              | cons y ys => exact ⟨y, ys, rfl⟩
            have ht : ns.take n = ns := List.take_of_length_le (by rw [HN.out]; exact Nat.le_refl _)
            have hf := hfw.out
            rw [ht, hys] at hf
            have he0 : bts (y :: ys) = 44 :: (bt y ++ bts ys) := by simp [bts]
            obtain ⟨c1, hc1⟩ : ∃ c1 : Nat, c1 + 1 = cv := ⟨cv - 1, by omega⟩
            have hlen : (bts (y :: ys)).length = c1 := by
              rw [bts_length, ← hys, HN.out]
              have := HCV.out
              omega
            rw [he0] at hf hlen
            have hc1e : (cv : Int) - 1 = (c1 : Int) := by omega
            have hc1b : c1 < cv := by omega
            obtain ⟨o1, ho1, hz1⟩ := hf.at_ 0 (by omega)
            have hf1 := hf.head 123 123 rfl
            obtain ⟨o2, ho2, hz2⟩ := hf1.at_ c1 hc1b
            have hf2 := hf1.set 125 125 rfl c1 (by rw [← hlen]; rfl) hc1b
            have hlit : (123 :: (bt y ++ bts ys)) ++ [125] = litTs (ns.map bt) := by
              rw [hys, ← bts_lit]; simp
            rw [hlit] at hf2
            have hll : (litTs (ns.map bt)).length = cv := by
              rw [← hlit, List.length_append]
              simp at hlen ⊢
              omega
            have hstr := hf2.string cv cv hll.symm
            have HF : Hid (VDone T n W (.returned (.tuple #[.iface 9 (.string ⟨(litTs (ns.map bt)).toArray⟩), .nilIface])) ((wr.setCell ⟨W.heap.size, 0, none⟩ (.int .u8 123)).setCell ⟨W.heap.size, c1, none⟩ (.int .u8 125))) := Lib.hid ⟨_, by simp [HN.out], fun j t ht => by
              rw [List.getElem?_map, Option.map_eq_some_iff] at ht
              obtain ⟨x, hx, rfl⟩ := ht
              exact HT.out j x hx, rfl, hf2.below⟩
            clear hf hf1 hf2 hlit hll hlen he0 ht hys hfw hpos hc1
            generalize (⟨(litTs (ns.map bt)).toArray⟩ : ByteArray) = bs at hstr HF
            go_wp2_with fail
            go_ret2
            exact HF.out
end Go.Proofs.YtbbjjkcjpdmjnaaGreatDoor
