/- Walks of the law FnBack: the arrays' Value: floating-point numbers. -/
import Derived.Test.YtbbjjkcjpdmjnaaGreatDoorZq
namespace Go.Proofs.YtbbjjkcjpdmjnaaGreatDoor
open Go.RowKit

set_option maxRecDepth 100000 in
set_option maxHeartbeats 1000000 in
theorem value_float64 (W : World) (ga n c : Nat) (ns : List (Bool × Nat)) (T : Nat → List UInt8 → Prop) (hn : ns.length = n) (hk : n ≤ 1000) (hcells : ∀ (j : Nat) x, ns[j]? = some x → W.cell? ⟨ga, j, none⟩ = some (.float .f64 (Ieee.double.word x.1 x.2))) (hT : ∀ (j : Nat) x t, ns[j]? = some x → IsText64 x.1 x.2 t → T j t) (hbd : ∀ x ∈ ns, x.2 < 9218868437227405312 ∧ (x.2 = 0 → x.1 = false)) (hTab : Tab W) (hTens : Tens W)
    (hTl : ∀ j t, T j t → t.length ≤ 1000) :
    Calls Tryz.prog 14 #[.slice (some ⟨ga, 0, none⟩) n c] W (VDone T n W) := by
  have hnil := fun W1 : World => Lib.run_eql_slice_nil (P := Tryz.prog) W1 45 30 (some ⟨ga, 0, none⟩) n c 0 0 Tryz.underlying45
  have HCELLS := Lib.hid hcells
  have HN := Lib.hid hn
  have HTL := Lib.hid hTl
  have HT := Lib.hid hT
  have HBD := Lib.hid hbd
  have HTAB := Lib.hid hTab
  have HTENS := Lib.hid hTens
  clear hcells hn hTl hT hbd hTab hTens
  by_cases h0 : n = 0
  · subst h0
    have HF : Hid (VDone T 0 W (.returned (.tuple #[.iface 9 (.string ⟨#[123, 125]⟩), .nilIface])) W) := Lib.hid ⟨[], rfl, fun j t h => by simp at h, rfl, Below.refl _ _⟩
    go_enter Tryz.func14, Tryz.ntmps14
    go_wp2_with fail
    go_ret2
    exact HF.out
  · have hn1 : 1 ≤ n := by omega
    have hdn : decide (0 < n) = true := decide_eq_true (by omega)
    obtain ⟨cv, hcv⟩ : ∃ cv : Nat, cv = 1 + 2 * n := ⟨_, rfl⟩
    have hcap : (1 : Int) + 2 * (n : Int) = (cv : Int) := by omega
    have hcv1 : 1 ≤ cv := by omega
    have hcv2 : cv ≤ 3000 := by omega
    have hmk : ∀ w : World, (Instr.makeSlice 50 (.int .i64 1) (.int .i64 (cv : Int))).run Tryz.prog w = .ok (.slice (some ⟨w.heap.size, 0, none⟩) 1 cv) (w.alloc (.cells (madeCells #[.int .u8 0] cv) 5)) := fun w => make50 1 cv (by omega) (by omega) w
    have hST := st_brace W cv (by omega) (by omega)
    have hm0 : (madeCells #[Value.int .u8 0] cv)[0]? = some (.int .u8 0) := by
      rw [Array.getElem?_eq_getElem (by simp [madeCells]; omega)]
      simp [madeCells]
    generalize madeCells #[Value.int .u8 0] cv = mc at hmk hST hm0
    have HVS := fun t (h : T 0 t) => Lib.hid (VR.start h)
    have HVS' := Lib.hid HVS
    clear HVS
    clear hcv
    obtain ⟨x0, hx0⟩ : ∃ x0, ns[0]? = some x0 := ⟨_, List.getElem?_eq_getElem (by rw [HN.out]; omega)⟩
    have hc0 := HCELLS.out 0 x0 hx0
    have HX0 := Lib.hid hx0
    have HST := Lib.hid hST
    have hga : ga < W.heap.size := Lib.lt_of_cell hc0
    clear h0 hST hx0
    skip
    have HCALL : Hid (∀ wr v l, St W W.heap.size 0 [] wr v l → l.length ≤ 10000000 → ∀ (j : Nat) x, ns[j]? = some x → Calls Tryz.prog 23 #[v, .float .f64 (Ieee.double.word x.1 x.2), .int .u8 102, .int .i64 (-1), .int .i64 64] wr fun e w' => ∃ v' t, e = .returned v' ∧ T j t ∧ St W W.heap.size 0 [] w' v' (l ++ t)) := Lib.hid (fun wr v l hst hl j x hx => by
      have hb := HBD.out x (List.mem_of_getElem? hx)
      refine (appendFloat64 x.1 x.2 hb.1 hb.2 W.heap.size (0 + l.length) v ([] ++ Lib.byteCells l) wr hst.own hst.base (by omega) (tab_below HTAB.out hst.below) (tens_below HTENS.out hst.below)).mono ?_
      rintro e w' ⟨t, ht, v', rfl, hs2⟩
      exact ⟨v', t, rfl, HT.out j x t hx ht, hst.app hs2⟩)
    have HC0 := Lib.hid (HCALL.out _ _ _ HST.out (by decide) 0 x0 HX0.out)
    generalize Ieee.double.word x0.1 x0.2 = fx0 at hc0 HC0
    go_enter Tryz.func14, Tryz.ntmps14
    go_wp2_with fail
    refine HC0.out.mono ?_
    rintro e w1 ⟨v1, t1, rfl, ht1, hst1⟩
    have HS1 := Lib.hid hst1
    have HV1 := HVS'.out t1 ht1
    have hl1 : ([123] ++ t1).length ≤ 1002 * 1 := by have := HTL.out 0 t1 ht1; simp; omega
    clear ht1 hst1 HVS' hmk hm0 
    go_wp2_with fail
    go_loopw [5, 6] (fun v5 v6 wr => ∃ (i : Nat) (l : List UInt8), 1 ≤ i ∧ i ≤ n ∧ v6 = .int .i64 i ∧ l.length ≤ 1002 * i ∧ Hid (VR T i l) ∧ Hid (St W W.heap.size 0 [] wr v5 l)) (fun _ v6 _ => n - (intOf v6).toNat)
    case atStart => exact ⟨1, _, by omega, hn1, rfl, hl1, HV1, HS1⟩
    case round =>
      obtain ⟨i, l, hi0, hi1, rfl, hll, hvr, hst⟩ := hrel
      by_cases hin : i < n
      · obtain ⟨x, hx⟩ : ∃ x, ns[i]? = some x := ⟨_, List.getElem?_eq_getElem (by rw [HN.out]; exact hin)⟩
        have hci := HCELLS.out i x hx
        have HX := Lib.hid hx
        have HCI := Lib.hid hci
        clear hx hci
        go_wp2_with (at_builtin; refine wpList_app1 rfl _ _ rfl hst.out 44 rfl rfl rfl (by omega) ?_)
        intro v91 w91 hst1
        have hcw : w91.cell? ⟨ga, i, none⟩ = some (.float .f64 (Ieee.double.word x.1 x.2)) := (hst1.below.cell (p := ⟨ga, i, none⟩) hga).trans HCI.out
        have HC := Lib.hid (HCALL.out _ _ _ hst1 (by simp; omega) i x HX.out)
        clear HCI HX
        generalize Ieee.double.word x.1 x.2 = fx at hcw HC
        clear hst1 hst
        go_wp2_with fail
        refine HC.out.mono ?_
        rintro e w92 ⟨v92, t2, rfl, ht2, hst2⟩
        have HS2 := Lib.hid hst2
        have HV2 := Lib.hid (hvr.out.step ht2)
        have hl2 : (l ++ [44] ++ t2).length ≤ 1002 * (i + 1) := by have := HTL.out i t2 ht2; simp; omega
        clear ht2 hst2 hvr 
        go_wp2_with fail
        go_roundw
        case rel => exact ⟨i + 1, _, by omega, by omega, by go_num, hl2, HV2, HS2⟩
        case measure => simp [intOf]; omega
      · obtain rfl : i = n := by omega
        go_wp2_with (at_builtin; refine wpList_app1 rfl _ _ rfl hst.out 125 rfl rfl rfl (by omega) ?_)
        intro v91 w91 hst1
        have hstr := hst1.string (by simp)
        have HF := Lib.hid (hvr.out.done (w' := w91) hst1.below)
        generalize (⟨(l ++ [125]).toArray⟩ : ByteArray) = bs at hstr HF
        clear hst1 hst hvr
        go_wp2_with fail
        go_ret2
        exact HF.out

end Go.Proofs.YtbbjjkcjpdmjnaaGreatDoor

/- Walks of the law FnBack: the arrays' Value: floating-point numbers. -/
namespace Go.Proofs.YtbbjjkcjpdmjnaaGreatDoor
open Go.RowKit

set_option maxRecDepth 100000 in
set_option maxHeartbeats 1000000 in
theorem value_float32 (W : World) (ga n c : Nat) (ns : List (Bool × Nat)) (T : Nat → List UInt8 → Prop) (hn : ns.length = n) (hk : n ≤ 1000) (hcells : ∀ (j : Nat) x, ns[j]? = some x → W.cell? ⟨ga, j, none⟩ = some (.float .f32 (Ieee.single.word x.1 x.2))) (hT : ∀ (j : Nat) x t, ns[j]? = some x → IsText32 x.1 x.2 t → T j t) (hbd : ∀ x ∈ ns, x.2 < 2139095040 ∧ (x.2 = 0 → x.1 = false)) (hTab : Tab W) (hTens : Tens W)
    (hTl : ∀ j t, T j t → t.length ≤ 1000) :
    Calls Tryz.prog 27 #[.slice (some ⟨ga, 0, none⟩) n c] W (VDone T n W) := by
  have hnil := fun W1 : World => Lib.run_eql_slice_nil (P := Tryz.prog) W1 59 49 (some ⟨ga, 0, none⟩) n c 0 0 Tryz.underlying59
  have HCELLS := Lib.hid hcells
  have HN := Lib.hid hn
  have HTL := Lib.hid hTl
  have HT := Lib.hid hT
  have HBD := Lib.hid hbd
  have HTAB := Lib.hid hTab
  have HTENS := Lib.hid hTens
  clear hcells hn hTl hT hbd hTab hTens
  by_cases h0 : n = 0
  · subst h0
    have HF : Hid (VDone T 0 W (.returned (.tuple #[.iface 9 (.string ⟨#[123, 125]⟩), .nilIface])) W) := Lib.hid ⟨[], rfl, fun j t h => by simp at h, rfl, Below.refl _ _⟩
    go_enter Tryz.func27, Tryz.ntmps27
    go_wp2_with fail
    go_ret2
    exact HF.out
  · have hn1 : 1 ≤ n := by omega
    have hdn : decide (0 < n) = true := decide_eq_true (by omega)
    obtain ⟨cv, hcv⟩ : ∃ cv : Nat, cv = 1 + 2 * n := ⟨_, rfl⟩
    have hcap : (1 : Int) + 2 * (n : Int) = (cv : Int) := by omega
    have hcv1 : 1 ≤ cv := by omega
    have hcv2 : cv ≤ 3000 := by omega
    have hmk : ∀ w : World, (Instr.makeSlice 50 (.int .i64 1) (.int .i64 (cv : Int))).run Tryz.prog w = .ok (.slice (some ⟨w.heap.size, 0, none⟩) 1 cv) (w.alloc (.cells (madeCells #[.int .u8 0] cv) 5)) := fun w => make50 1 cv (by omega) (by omega) w
    have hST := st_brace W cv (by omega) (by omega)
    have hm0 : (madeCells #[Value.int .u8 0] cv)[0]? = some (.int .u8 0) := by
      rw [Array.getElem?_eq_getElem (by simp [madeCells]; omega)]
      simp [madeCells]
    generalize madeCells #[Value.int .u8 0] cv = mc at hmk hST hm0
    have HVS := fun t (h : T 0 t) => Lib.hid (VR.start h)
    have HVS' := Lib.hid HVS
    clear HVS
    clear hcv
    obtain ⟨x0, hx0⟩ : ∃ x0, ns[0]? = some x0 := ⟨_, List.getElem?_eq_getElem (by rw [HN.out]; omega)⟩
    have hc0 := HCELLS.out 0 x0 hx0
    have HX0 := Lib.hid hx0
    have HST := Lib.hid hST
    have hga : ga < W.heap.size := Lib.lt_of_cell hc0
    clear h0 hST hx0
    skip
    have HCALL : Hid (∀ wr v l, St W W.heap.size 0 [] wr v l → l.length ≤ 10000000 → ∀ (j : Nat) x, ns[j]? = some x → Calls Tryz.prog 23 #[v, .float .f64 (Ieee.double.word x.1 (Fl.wideR x.2)), .int .u8 102, .int .i64 (-1), .int .i64 32] wr fun e w' => ∃ v' t, e = .returned v' ∧ T j t ∧ St W W.heap.size 0 [] w' v' (l ++ t)) := Lib.hid (fun wr v l hst hl j x hx => by
      have hb := HBD.out x (List.mem_of_getElem? hx)
      refine (appendFloat32 x.1 x.2 hb.1 hb.2 W.heap.size (0 + l.length) v ([] ++ Lib.byteCells l) wr hst.own hst.base (by omega) (tab_below HTAB.out hst.below) (tens_below HTENS.out hst.below)).mono ?_
      rintro e w' ⟨t, ht, v', rfl, hs2⟩
      exact ⟨v', t, rfl, HT.out j x t hx ht, hst.app hs2⟩)
    have HC0 := Lib.hid (HCALL.out _ _ _ HST.out (by decide) 0 x0 HX0.out)
    have hcv0 := conv_wide x0.1 x0.2 (HBD.out x0 (List.mem_of_getElem? HX0.out)).1
    generalize Ieee.single.word x0.1 x0.2 = fx0 at hc0 hcv0
    generalize Ieee.double.word x0.1 (Fl.wideR x0.2) = fw0 at hcv0 HC0
    go_enter Tryz.func27, Tryz.ntmps27
    go_wp2_with fail
    refine HC0.out.mono ?_
    rintro e w1 ⟨v1, t1, rfl, ht1, hst1⟩
    have HS1 := Lib.hid hst1
    have HV1 := HVS'.out t1 ht1
    have hl1 : ([123] ++ t1).length ≤ 1002 * 1 := by have := HTL.out 0 t1 ht1; simp; omega
    clear ht1 hst1 HVS' hmk hm0 hcv0
    go_wp2_with fail
    go_loopw [5, 6] (fun v5 v6 wr => ∃ (i : Nat) (l : List UInt8), 1 ≤ i ∧ i ≤ n ∧ v6 = .int .i64 i ∧ l.length ≤ 1002 * i ∧ Hid (VR T i l) ∧ Hid (St W W.heap.size 0 [] wr v5 l)) (fun _ v6 _ => n - (intOf v6).toNat)
    case atStart => exact ⟨1, _, by omega, hn1, rfl, hl1, HV1, HS1⟩
    case round =>
      obtain ⟨i, l, hi0, hi1, rfl, hll, hvr, hst⟩ := hrel
      by_cases hin : i < n
      · obtain ⟨x, hx⟩ : ∃ x, ns[i]? = some x := ⟨_, List.getElem?_eq_getElem (by rw [HN.out]; exact hin)⟩
        have hci := HCELLS.out i x hx
        have HX := Lib.hid hx
        have HCI := Lib.hid hci
        clear hx hci
        go_wp2_with (at_builtin; refine wpList_app1 rfl _ _ rfl hst.out 44 rfl rfl rfl (by omega) ?_)
        intro v91 w91 hst1
        have hcw : w91.cell? ⟨ga, i, none⟩ = some (.float .f32 (Ieee.single.word x.1 x.2)) := (hst1.below.cell (p := ⟨ga, i, none⟩) hga).trans HCI.out
        have HC := Lib.hid (HCALL.out _ _ _ hst1 (by simp; omega) i x HX.out)
        have hcv1 := conv_wide x.1 x.2 (HBD.out x (List.mem_of_getElem? HX.out)).1
        clear HCI HX
        generalize Ieee.single.word x.1 x.2 = fx at hcw hcv1
        generalize Ieee.double.word x.1 (Fl.wideR x.2) = fw at hcv1 HC
        clear hst1 hst
        go_wp2_with fail
        refine HC.out.mono ?_
        rintro e w92 ⟨v92, t2, rfl, ht2, hst2⟩
        have HS2 := Lib.hid hst2
        have HV2 := Lib.hid (hvr.out.step ht2)
        have hl2 : (l ++ [44] ++ t2).length ≤ 1002 * (i + 1) := by have := HTL.out i t2 ht2; simp; omega
        clear ht2 hst2 hvr hcv1
        go_wp2_with fail
        go_roundw
        case rel => exact ⟨i + 1, _, by omega, by omega, by go_num, hl2, HV2, HS2⟩
        case measure => simp [intOf]; omega
      · obtain rfl : i = n := by omega
        go_wp2_with (at_builtin; refine wpList_app1 rfl _ _ rfl hst.out 125 rfl rfl rfl (by omega) ?_)
        intro v91 w91 hst1
        have hstr := hst1.string (by simp)
        have HF := Lib.hid (hvr.out.done (w' := w91) hst1.below)
        generalize (⟨(l ++ [125]).toArray⟩ : ByteArray) = bs at hstr HF
        clear hst1 hst hvr
        go_wp2_with fail
        go_ret2
        exact HF.out

end Go.Proofs.YtbbjjkcjpdmjnaaGreatDoor
