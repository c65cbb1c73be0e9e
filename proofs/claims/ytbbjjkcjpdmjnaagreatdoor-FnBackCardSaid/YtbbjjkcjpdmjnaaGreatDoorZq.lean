/- Walks of the law FnBack: the arrays' Value: numbers. -/
import Derived.Test.YtbbjjkcjpdmjnaaGreatDoorZp
namespace Go.Proofs.YtbbjjkcjpdmjnaaGreatDoor
open Go.RowKit

/-- The literal of elements' texts. -/
def litTs : List (List UInt8) → List UInt8
  | [] => [123, 125]
  | t :: r => (123 :: t) ++ (r.flatMap fun t => 44 :: t) ++ [125]
theorem tl_eq (r : List Tok) : tl r = ((r.map Tok.enc).flatMap fun t => 44 :: t) ++ [125] := by
  induction r with
  | nil => rfl
  | cons t r ih => rw [tl, ih]; simp
theorem litTs_toks (toks : List Tok) : litTs (toks.map Tok.enc) = litOf toks := by
  cases toks with
  | nil => rfl
  | cons t r => simp only [List.map_cons, litTs, litOf, lit, tl_eq]; simp

/-- What a Value answers. -/
def VDone (T : Nat → List UInt8 → Prop) (n : Nat) (W : World) (e : Ending) (w' : World) : Prop :=
  ∃ ts : List (List UInt8), ts.length = n ∧ (∀ (j : Nat) t, ts[j]? = some t → T j t) ∧ e = .returned (.tuple #[.iface 9 (.string ⟨(litTs ts).toArray⟩), .nilIface]) ∧ Below W.heap.size W w'

theorem run_make_rowN {P : Program} (t e : TypeId) (i : TypeInfo) (z : Value) (ht : P.underlying t = some (.slice e)) (hi : P.info? e = some i) (hz : i.zero = some z)
    (kl kc : IntKind) (n c : Nat) (hnc : n ≤ c) (hbytes : i.bytes * c ≤ 281474976710656) (h63 : c ≤ 9223372036854775807) (w : World) :
    (Instr.makeSlice t (.int kl (n : Int)) (.int kc (c : Int))).run P w = .ok (.slice (some ⟨w.heap.size, 0, none⟩) n c) (w.alloc (.cells (madeCells z.cells (c * i.size)) e)) := by
  have hb : (i.bytes : Int) * (c : Int) ≤ 281474976710656 := by
    have h : ((i.bytes * c : Nat) : Int) ≤ 281474976710656 := by omega
    rwa [Int.natCast_mul] at h
  have hr := run_make (P := P) w t e i z ht hi hz kl kc n c (by omega) (by omega) hb (by omega)
  simp only [Int.toNat_natCast] at hr
  exact hr

theorem make50 (n c : Nat) (hnc : n ≤ c) (hc : c ≤ 1000000000) (w : World) : (Instr.makeSlice 50 (.int .i64 (n : Int)) (.int .i64 (c : Int))).run Tryz.prog w = .ok (.slice (some ⟨w.heap.size, 0, none⟩) n c) (w.alloc (.cells (madeCells #[.int .u8 0] c) 5)) := by
  obtain ⟨i0, hi, hz0, hz1, hz2⟩ := info_parts info5
  have h := run_make_rowN (P := Tryz.prog) 50 5 i0 (.int .u8 0) Tryz.underlying50 hi hz0   .i64 .i64 n c hnc (by rw [hz2]; omega) (by omega) w
  rw [hz1, Nat.mul_one] at h
  exact h

/-- The brace laid. -/
theorem st_brace (W : World) (c : Nat) (h1 : 1 ≤ c) (h2 : c ≤ 1000000000) : St W W.heap.size 0 [] (W.alloc (.cells ((madeCells #[.int .u8 0] c).setIfInBounds 0 (.int .u8 123)) 5)) (.slice (some ⟨W.heap.size, 0, none⟩) 1 c) [123] := by
  have hsz : (madeCells #[Value.int .u8 0] c).size = c := by simp [madeCells]
  refine ⟨⟨rfl, Or.inr ⟨W.heap.size, c, _, rfl, Nat.le_refl _, heap_alloc_new W _, by omega, by unfold maxLen; omega, by simp [hsz], ?_⟩⟩, (Below.refl _ _).alloc (Nat.le_refl _) _, (Lib.OthersKept.refl _ _ _).alloc _, by simp⟩
  have e : ((madeCells #[Value.int .u8 0] c).setIfInBounds 0 (.int .u8 123)).toList.take 1 = [.int .u8 123] := by
    apply List.ext_getElem?
    intro j
    rw [List.getElem?_take]
    by_cases hj : j < 1
    · have : j = 0 := by omega
      subst this
      rw [if_pos (by decide), Array.getElem?_toList, Array.getElem?_setIfInBounds, if_pos rfl, if_pos (by omega)]
      rfl
    · rw [if_neg hj, List.getElem?_eq_none (by simp; omega)]
  simpa [Lib.byteCells] using e

/-- What has been written of a literal: i elements. -/
def VR (T : Nat → List UInt8 → Prop) (i : Nat) (l : List UInt8) : Prop := ∃ t0 r, List.length r + 1 = i ∧ (∀ (j : Nat) t, (t0 :: r)[j]? = some t → T j t) ∧ l = (123 :: t0) ++ (r.flatMap fun t => 44 :: t)
theorem VR.start {T : Nat → List UInt8 → Prop} {t : List UInt8} (h : T 0 t) : VR T 1 ([123] ++ t) := by
  refine ⟨t, [], rfl, ?_, by simp⟩
  intro j u hu
  obtain h0 | h0 : j = 0 ∨ 1 ≤ j := by omega
  · subst h0; simp at hu; subst hu; exact h
  · rw [List.getElem?_eq_none (by simpa using h0)] at hu; cases hu
theorem VR.step {T : Nat → List UInt8 → Prop} {i : Nat} {l t : List UInt8} (h : VR T i l) (ht : T i t) : VR T (i + 1) (l ++ [44] ++ t) := by
  obtain ⟨t0, r, h1, h2, rfl⟩ := h
  refine ⟨t0, r ++ [t], by simp; omega, fun j u hu => ?_, by simp⟩
  rw [← List.cons_append] at hu
  rcases Nat.lt_or_ge j (t0 :: r).length with hj | hj
  · rw [List.getElem?_append_left hj] at hu
    exact h2 j u hu
  · rw [List.getElem?_append_right hj] at hu
    obtain h0 | h0 : j - (t0 :: r).length = 0 ∨ 1 ≤ j - (t0 :: r).length := by omega
    · rw [h0] at hu
      simp at hu
      subst hu
      have : j = i := by simp at h0 hj; omega
      rw [this]; exact ht
    · rw [List.getElem?_eq_none (by simpa using h0)] at hu; cases hu
theorem VR.done {T : Nat → List UInt8 → Prop} {n : Nat} {l : List UInt8} (h : VR T n l) {W w' : World} (hb : Below W.heap.size W w') : VDone T n W (.returned (.tuple #[.iface 9 (.string ⟨(l ++ [125]).toArray⟩), .nilIface])) w' := by
  obtain ⟨t0, r, h1, h2, rfl⟩ := h
  exact ⟨t0 :: r, by simpa using h1, h2, rfl, hb⟩

theorem St.app {W : World} {B n : Nat} {xs : List Value} {wr w' : World} {v v' : Value} {l t : List UInt8} (h : St W B n xs wr v l) (h2 : St wr B (n + l.length) (xs ++ Lib.byteCells l) w' v' t) : St W B n xs w' v' (l ++ t) := by
  refine ⟨?_, h.below.trans h2.below, h.kept.trans h2.kept, h2.base⟩
  have := h2.own
  rw [List.length_append, ← Nat.add_assoc]
  unfold Lib.byteCells at this ⊢
  rw [List.map_append, ← List.append_assoc]
  exact this

theorem St.string {W : World} {B : Nat} {w : World} {v : Value} {l : List UInt8} (h : St W B 0 [] w v l) (hl : 0 < l.length) : (convert 50 9 v).run Tryz.prog w = .ok (.string ⟨l.toArray⟩) w := by
  obtain ⟨g, cap, hv, _, _⟩ := h.own.form (by omega)
  rw [Nat.zero_add] at hv
  subst hv
  have hc := h.own.cells (g := g) rfl
  exact run_convert_bytes_back w 50 9 5 ⟨g, 0, none⟩ cap l Tryz.underlying50 Tryz.underlying5 Tryz.underlying9 (fun j hj => hc j _ (by simp [Lib.byteCells, hj]))

set_option maxRecDepth 100000 in
set_option maxHeartbeats 1000000 in
theorem value_int64 (W : World) (ga n c : Nat) (ns : List Int) (T : Nat → List UInt8 → Prop) (hn : ns.length = n) (hk : n ≤ 1000) (hcells : ∀ (j : Nat) x, ns[j]? = some x → W.cell? ⟨ga, j, none⟩ = some (.int .i64 x)) (hT : ∀ (j : Nat) x, ns[j]? = some x → T j (Lib.itoa x)) (hbd : ∀ x ∈ ns, -9223372036854775808 ≤ x ∧ x ≤ 9223372036854775807) (htab : Lib.TabBelow Tryz.prog W.heap.size W "internal/strconv.uint64pow10" .u64 Lib.pow10Tab)
    (hTl : ∀ j t, T j t → t.length ≤ 1000) :
    Calls Tryz.prog 13 #[.slice (some ⟨ga, 0, none⟩) n c] W (VDone T n W) := by
  have hnil := fun W1 : World => Lib.run_eql_slice_nil (P := Tryz.prog) W1 43 2 (some ⟨ga, 0, none⟩) n c 0 0 Tryz.underlying43
  have HCELLS := Lib.hid hcells
  have HN := Lib.hid hn
  have HTL := Lib.hid hTl
  have HT := Lib.hid hT
  have HBD := Lib.hid hbd
  have HTAB := Lib.hid htab
  clear hcells hn hTl hT hbd htab
  by_cases h0 : n = 0
  · subst h0
    have HF : Hid (VDone T 0 W (.returned (.tuple #[.iface 9 (.string ⟨#[123, 125]⟩), .nilIface])) W) := Lib.hid ⟨[], rfl, fun j t h => by simp at h, rfl, Below.refl _ _⟩
    go_enter Tryz.func13, Tryz.ntmps13
    go_wp2_with fail
    go_ret2
    exact HF.out
  · have hn1 : 1 ≤ n := by omega
    have hdn : decide (0 < n) = true := decide_eq_true (by omega)
    obtain ⟨cv, hcv⟩ : ∃ cv : Nat, cv = 1 + 2 * n := ⟨_, rfl⟩
    have hcap : (1 : Int) + 2 * (n : Int) = (cv : Int) := by omega
    have hcv1 : 1 ≤ cv := by omega
    have hcv2 : cv ≤ 3000 := by omega
    have hmk : ∀ w : World, (Instr.makeSlice 50 (.int .i64 1) (.int .i64 (cv : Int))).run Tryz.prog w = .ok (.slice (some ⟨w.heap.size, 0, none⟩) 1 cv) (w.alloc (.cells (madeCells #[.int .u8 0] cv) 5)) := fun w => make50 1 cv (by omega) (by omega) w
    have hST := st_brace W cv (by omega) (by omega)
    have hm0 : (madeCells #[Value.int .u8 0] cv)[0]? = some (.int .u8 0) := by
      rw [Array.getElem?_eq_getElem (by simp [madeCells]; omega)]
      simp [madeCells]
    generalize madeCells #[Value.int .u8 0] cv = mc at hmk hST hm0
    have HVS := fun t (h : T 0 t) => Lib.hid (VR.start h)
    have HVS' := Lib.hid HVS
    clear HVS
    clear hcv
    obtain ⟨x0, hx0⟩ : ∃ x0, ns[0]? = some x0 := ⟨_, List.getElem?_eq_getElem (by rw [HN.out]; omega)⟩
    have hc0 := HCELLS.out 0 x0 hx0
    have HX0 := Lib.hid hx0
    have HST := Lib.hid hST
    have hga : ga < W.heap.size := Lib.lt_of_cell hc0
    clear h0 hST hx0
    skip
    have HCALL : Hid (∀ wr v l, St W W.heap.size 0 [] wr v l → l.length ≤ 10000000 → ∀ (j : Nat) x, ns[j]? = some x → Calls Tryz.prog 22 #[v, .int .i64 x, .int .i64 10] wr fun e w' => ∃ v' t, e = .returned v' ∧ T j t ∧ St W W.heap.size 0 [] w' v' (l ++ t)) := Lib.hid (fun wr v l hst hl j x hx => by
      have hb := HBD.out x (List.mem_of_getElem? hx)
      refine (Tryz.strconv_AppendInt_10 W.heap.size (0 + l.length) x (by omega) (by omega) v ([] ++ Lib.byteCells l) wr hst.own hst.base (by omega) (HTAB.out.on hst.below)).mono ?_
      rintro e w' ⟨v', rfl, ho, hb, hk⟩
      exact ⟨v', _, rfl, HT.out j x hx, hst.app ⟨ho, hb, hk, Nat.le_trans hst.base hb.size⟩⟩)
    have HC0 := Lib.hid (HCALL.out _ _ _ HST.out (by decide) 0 x0 HX0.out)
    skip
    go_enter Tryz.func13, Tryz.ntmps13
    go_wp2_with fail
    refine HC0.out.mono ?_
    rintro e w1 ⟨v1, t1, rfl, ht1, hst1⟩
    have HS1 := Lib.hid hst1
    have HV1 := HVS'.out t1 ht1
    have hl1 : ([123] ++ t1).length ≤ 1002 * 1 := by have := HTL.out 0 t1 ht1; simp; omega
    clear ht1 hst1 HVS' hmk hm0 
    go_wp2_with fail
    go_loopw [5, 6] (fun v5 v6 wr => ∃ (i : Nat) (l : List UInt8), 1 ≤ i ∧ i ≤ n ∧ v6 = .int .i64 i ∧ l.length ≤ 1002 * i ∧ Hid (VR T i l) ∧ Hid (St W W.heap.size 0 [] wr v5 l)) (fun _ v6 _ => n - (intOf v6).toNat)
    case atStart => exact ⟨1, _, by omega, hn1, rfl, hl1, HV1, HS1⟩
    case round =>
      obtain ⟨i, l, hi0, hi1, rfl, hll, hvr, hst⟩ := hrel
      by_cases hin : i < n
      · obtain ⟨x, hx⟩ : ∃ x, ns[i]? = some x := ⟨_, List.getElem?_eq_getElem (by rw [HN.out]; exact hin)⟩
        have hci := HCELLS.out i x hx
        have HX := Lib.hid hx
        have HCI := Lib.hid hci
        clear hx hci
        go_wp2_with (at_builtin; refine wpList_app1 rfl _ _ rfl hst.out 44 rfl rfl rfl (by omega) ?_)
        intro v91 w91 hst1
        have hcw : w91.cell? ⟨ga, i, none⟩ = some (.int .i64 x) := (hst1.below.cell (p := ⟨ga, i, none⟩) hga).trans HCI.out
        have HC := Lib.hid (HCALL.out _ _ _ hst1 (by simp; omega) i x HX.out)
        skip
        clear hst1 hst
        go_wp2_with fail
        refine HC.out.mono ?_
        rintro e w92 ⟨v92, t2, rfl, ht2, hst2⟩
        have HS2 := Lib.hid hst2
        have HV2 := Lib.hid (hvr.out.step ht2)
        have hl2 : (l ++ [44] ++ t2).length ≤ 1002 * (i + 1) := by have := HTL.out i t2 ht2; simp; omega
        clear ht2 hst2 hvr 
        go_wp2_with fail
        go_roundw
        case rel => exact ⟨i + 1, _, by omega, by omega, by go_num, hl2, HV2, HS2⟩
        case measure => simp [intOf]; omega
      · obtain rfl : i = n := by omega
        go_wp2_with (at_builtin; refine wpList_app1 rfl _ _ rfl hst.out 125 rfl rfl rfl (by omega) ?_)
        intro v91 w91 hst1
        have hstr := hst1.string (by simp)
        have HF := Lib.hid (hvr.out.done (w' := w91) hst1.below)
        generalize (⟨(l ++ [125]).toArray⟩ : ByteArray) = bs at hstr HF
        clear hst1 hst hvr
        go_wp2_with fail
        go_ret2
        exact HF.out

set_option maxRecDepth 100000 in
set_option maxHeartbeats 1000000 in
theorem value_int32 (W : World) (ga n c : Nat) (ns : List Int) (T : Nat → List UInt8 → Prop) (hn : ns.length = n) (hk : n ≤ 1000) (hcells : ∀ (j : Nat) x, ns[j]? = some x → W.cell? ⟨ga, j, none⟩ = some (.int .i32 x)) (hT : ∀ (j : Nat) x, ns[j]? = some x → T j (Lib.itoa x)) (hbd : ∀ x ∈ ns, -2147483648 ≤ x ∧ x ≤ 2147483647) (htab : Lib.TabBelow Tryz.prog W.heap.size W "internal/strconv.uint64pow10" .u64 Lib.pow10Tab)
    (hTl : ∀ j t, T j t → t.length ≤ 1000) :
    Calls Tryz.prog 26 #[.slice (some ⟨ga, 0, none⟩) n c] W (VDone T n W) := by
  have hnil := fun W1 : World => Lib.run_eql_slice_nil (P := Tryz.prog) W1 57 21 (some ⟨ga, 0, none⟩) n c 0 0 Tryz.underlying57
  have HCELLS := Lib.hid hcells
  have HN := Lib.hid hn
  have HTL := Lib.hid hTl
  have HT := Lib.hid hT
  have HBD := Lib.hid hbd
  have HTAB := Lib.hid htab
  clear hcells hn hTl hT hbd htab
  by_cases h0 : n = 0
  · subst h0
    have HF : Hid (VDone T 0 W (.returned (.tuple #[.iface 9 (.string ⟨#[123, 125]⟩), .nilIface])) W) := Lib.hid ⟨[], rfl, fun j t h => by simp at h, rfl, Below.refl _ _⟩
    go_enter Tryz.func26, Tryz.ntmps26
    go_wp2_with fail
    go_ret2
    exact HF.out
  · have hn1 : 1 ≤ n := by omega
    have hdn : decide (0 < n) = true := decide_eq_true (by omega)
    obtain ⟨cv, hcv⟩ : ∃ cv : Nat, cv = 1 + 2 * n := ⟨_, rfl⟩
    have hcap : (1 : Int) + 2 * (n : Int) = (cv : Int) := by omega
    have hcv1 : 1 ≤ cv := by omega
    have hcv2 : cv ≤ 3000 := by omega
    have hmk : ∀ w : World, (Instr.makeSlice 50 (.int .i64 1) (.int .i64 (cv : Int))).run Tryz.prog w = .ok (.slice (some ⟨w.heap.size, 0, none⟩) 1 cv) (w.alloc (.cells (madeCells #[.int .u8 0] cv) 5)) := fun w => make50 1 cv (by omega) (by omega) w
    have hST := st_brace W cv (by omega) (by omega)
    have hm0 : (madeCells #[Value.int .u8 0] cv)[0]? = some (.int .u8 0) := by
      rw [Array.getElem?_eq_getElem (by simp [madeCells]; omega)]
      simp [madeCells]
    generalize madeCells #[Value.int .u8 0] cv = mc at hmk hST hm0
    have HVS := fun t (h : T 0 t) => Lib.hid (VR.start h)
    have HVS' := Lib.hid HVS
    clear HVS
    clear hcv
    obtain ⟨x0, hx0⟩ : ∃ x0, ns[0]? = some x0 := ⟨_, List.getElem?_eq_getElem (by rw [HN.out]; omega)⟩
    have hc0 := HCELLS.out 0 x0 hx0
    have HX0 := Lib.hid hx0
    have HST := Lib.hid hST
    have hga : ga < W.heap.size := Lib.lt_of_cell hc0
    clear h0 hST hx0
    have hx0b := HBD.out x0 (List.mem_of_getElem? HX0.out)
    have HCALL : Hid (∀ wr v l, St W W.heap.size 0 [] wr v l → l.length ≤ 10000000 → ∀ (j : Nat) x, ns[j]? = some x → Calls Tryz.prog 22 #[v, .int .i64 x, .int .i64 10] wr fun e w' => ∃ v' t, e = .returned v' ∧ T j t ∧ St W W.heap.size 0 [] w' v' (l ++ t)) := Lib.hid (fun wr v l hst hl j x hx => by
      have hb := HBD.out x (List.mem_of_getElem? hx)
      refine (Tryz.strconv_AppendInt_10 W.heap.size (0 + l.length) x (by omega) (by omega) v ([] ++ Lib.byteCells l) wr hst.own hst.base (by omega) (HTAB.out.on hst.below)).mono ?_
      rintro e w' ⟨v', rfl, ho, hb, hk⟩
      exact ⟨v', _, rfl, HT.out j x hx, hst.app ⟨ho, hb, hk, Nat.le_trans hst.base hb.size⟩⟩)
    have HC0 := Lib.hid (HCALL.out _ _ _ HST.out (by decide) 0 x0 HX0.out)
    obtain ⟨hx0b0, hx0b1⟩ := hx0b
    go_enter Tryz.func26, Tryz.ntmps26
    go_wp2_with fail
    refine HC0.out.mono ?_
    rintro e w1 ⟨v1, t1, rfl, ht1, hst1⟩
    have HS1 := Lib.hid hst1
    have HV1 := HVS'.out t1 ht1
    have hl1 : ([123] ++ t1).length ≤ 1002 * 1 := by have := HTL.out 0 t1 ht1; simp; omega
    clear ht1 hst1 HVS' hmk hm0 hx0b0 hx0b1
    go_wp2_with fail
    go_loopw [5, 6] (fun v5 v6 wr => ∃ (i : Nat) (l : List UInt8), 1 ≤ i ∧ i ≤ n ∧ v6 = .int .i64 i ∧ l.length ≤ 1002 * i ∧ Hid (VR T i l) ∧ Hid (St W W.heap.size 0 [] wr v5 l)) (fun _ v6 _ => n - (intOf v6).toNat)
    case atStart => exact ⟨1, _, by omega, hn1, rfl, hl1, HV1, HS1⟩
    case round =>
      obtain ⟨i, l, hi0, hi1, rfl, hll, hvr, hst⟩ := hrel
      by_cases hin : i < n
      · obtain ⟨x, hx⟩ : ∃ x, ns[i]? = some x := ⟨_, List.getElem?_eq_getElem (by rw [HN.out]; exact hin)⟩
        have hci := HCELLS.out i x hx
        have HX := Lib.hid hx
        have HCI := Lib.hid hci
        clear hx hci
        go_wp2_with (at_builtin; refine wpList_app1 rfl _ _ rfl hst.out 44 rfl rfl rfl (by omega) ?_)
        intro v91 w91 hst1
        have hcw : w91.cell? ⟨ga, i, none⟩ = some (.int .i32 x) := (hst1.below.cell (p := ⟨ga, i, none⟩) hga).trans HCI.out
        have HC := Lib.hid (HCALL.out _ _ _ hst1 (by simp; omega) i x HX.out)
        obtain ⟨hxb0, hxb1⟩ := HBD.out x (List.mem_of_getElem? HX.out)
        clear hst1 hst
        go_wp2_with fail
        refine HC.out.mono ?_
        rintro e w92 ⟨v92, t2, rfl, ht2, hst2⟩
        have HS2 := Lib.hid hst2
        have HV2 := Lib.hid (hvr.out.step ht2)
        have hl2 : (l ++ [44] ++ t2).length ≤ 1002 * (i + 1) := by have := HTL.out i t2 ht2; simp; omega
        clear ht2 hst2 hvr hxb0 hxb1
        go_wp2_with fail
        go_roundw
        case rel => exact ⟨i + 1, _, by omega, by omega, by go_num, hl2, HV2, HS2⟩
        case measure => simp [intOf]; omega
      · obtain rfl : i = n := by omega
        go_wp2_with (at_builtin; refine wpList_app1 rfl _ _ rfl hst.out 125 rfl rfl rfl (by omega) ?_)
        intro v91 w91 hst1
        have hstr := hst1.string (by simp)
        have HF := Lib.hid (hvr.out.done (w' := w91) hst1.below)
        generalize (⟨(l ++ [125]).toArray⟩ : ByteArray) = bs at hstr HF
        clear hst1 hst hvr
        go_wp2_with fail
        go_ret2
        exact HF.out

end Go.Proofs.YtbbjjkcjpdmjnaaGreatDoor
