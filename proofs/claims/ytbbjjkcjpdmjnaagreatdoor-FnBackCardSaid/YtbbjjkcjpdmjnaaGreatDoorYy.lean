/- The law FnBack: the package variables that it reads, out of the row's list; its items, out of its argument. -/
import Derived.Test.YtbbjjkcjpdmjnaaGreatDoorYw
import Derived.Test.YtbbjjkcjpdmjnaaGreatDoorRows
import Derived.ProofKit
import Derived.OpenShut
import Derived.LaidMore
import Derived.Lay
import Derived.Lib.LaidTab
import Derived.Deep.Slices
import Derived.Deep.Fields
import Derived.ChangeSame
import Derived.Carry
namespace Go.Proofs.YtbbjjkcjpdmjnaaGreatDoor
open Go.ChangeShapes Go.WideShapes Go.ChangeAt Go.RowKit Go.Deep

theorem trod_flt {H : Type} {enc : TypeId × Value → H} {P : Program} {w : World} {base : Nat} {spare : Nat → Bool} {held : Bool} {fuel : Nat} {t : TypeId} {cs : List Value} {x : DataW H × List MemPlace} {k : FloatKind} (ht : P.underlying t = some (.float k)) (h : DataW.trod enc P w base spare held fuel t cs = some x) :
    ∃ b, cs = [.float k b] ∧ x = (.lit (.float k b), []) ∧ (Lit.float k b).wf = true := by
  cases fuel with
  | zero => simp [DataW.trod] at h
  | succ n =>
    unfold DataW.trod at h
    rw [ht] at h
    split at h <;> simp_all

theorem laid_var {P : Program} {w : World} : ∀ {l : List (String × DataW Unit)} {ps : List MemPlace}, DataW.LaidVars P w l ps → ∀ (i : Nat) (n : String) (d : DataW Unit), l[i]? = some (n, d) →
    ∃ g t cs fuel p, P.globalNamed n = some g ∧ (P.globals[g]?).map (·.type) = some t ∧ w.var? P n = some cs ∧ DataW.trod (fun _ => ()) P w 0 (fun _ => true) false fuel t cs.toList = some (d, p)
  | [], _, _, i, n, d, hl => by simp at hl
  | (n0, d0) :: r, ps, h, i, n, d, hl => by
    obtain ⟨g, t, cs, fuel, p, q, h1, h2, h3, h4, h5, _⟩ := h
    cases i with
    | zero =>
      simp only [List.getElem?_cons_zero, Option.some.injEq, Prod.mk.injEq] at hl
      obtain ⟨rfl, rfl⟩ := hl
      exact ⟨g, t, cs, fuel, p, h1, h2, h3, h4⟩
    | succ i => exact laid_var h5 i n d (by simpa using hl)

theorem laid_at {P : Program} {w : World} {l : List (String × DataW Unit)} (h : laidMet P l w) (i : Nat) (n : String) (d : DataW Unit) (g : Nat) (t : TypeId) (hl : l[i]? = some (n, d)) (hg : P.globalNamed n = some g) (ht : (P.globals[g]?).map (·.type) = some t) :
    ∃ cs fuel p, (∀ j, w.cell? ⟨g, j, none⟩ = cs.toList[j]?) ∧ w.var? P n = some cs ∧ DataW.trod (fun _ => ()) P w 0 (fun _ => true) false fuel t cs.toList = some (d, p) := by
  obtain ⟨ps, hv, _⟩ := h
  obtain ⟨g', t', cs, fuel, p, hg', ht', hvar, hd⟩ := laid_var hv i n d hl
  obtain rfl := Option.some.inj (hg.symm.trans hg')
  obtain rfl := Option.some.inj (ht.symm.trans ht')
  exact ⟨cs, fuel, p, fun j => by rw [World.var?_cell hg hvar j, Array.getElem?_toList], hvar, hd⟩

/-- An array of pairs of numbers. -/
theorem cells_of_pairs {P : Program} {w : World} {base : Nat} {sp : Nat → Bool} {held : Bool} {fuel : Nat} {t e u : TypeId} {n : Nat} {f0 f1 : Field} {cs : List Value} {rows : List (Nat × Nat)} {p : List MemPlace} {H : Type} {enc : TypeId × Value → H}
    (ht : P.underlying t = some (.array n e)) (he : P.underlying e = some (.struct #[f0, f1])) (hu : P.underlying u = some (.int .u64)) (hce : P.cellsOf e = 2) (hcu : P.cellsOf u = 1) (h0 : f0.type = u ∧ f0.offset = 0) (h1 : f1.type = u ∧ f1.offset = 1)
    (h : DataW.trod enc P w base sp held fuel t cs = some (.agg (rows.map fun x => .agg [.lit (.int .u64 x.1), .lit (.int .u64 x.2)]), p)) (hn : rows.length = n) :
    ∀ i x, rows[i]? = some x → cs[i * 2]? = some (.int .u64 x.1) ∧ cs[i * 2 + 1]? = some (.int .u64 x.2) := by
  cases fuel with
  | zero => simp [DataW.trod] at h
  | succ fuel =>
    simp only [DataW.trod, ht, hce] at h
    split at h
    · obtain ⟨xs, hm, hx⟩ := Option.map_eq_some_iff.1 h
      have hxs : xs.map (·.1) = rows.map fun x => (DataW.agg [.lit (.int .u64 x.1), .lit (.int .u64 x.2)] : DataW H) := by
        have := congrArg Prod.fst hx
        simpa using this
      intro i x hix
      have hi : i < n := by rw [← hn]; exact (List.getElem?_eq_some_iff.1 hix).1
      obtain ⟨b, hb, hf⟩ := Lib.mapM_at hm i i (by simp [hi])
      have hbx : b.1 = DataW.agg [.lit (.int .u64 (x.1 : Nat)), .lit (.int .u64 (x.2 : Nat))] := by
        have := congrArg (·[i]?) hxs
        simpa [hb, hix] using this
      obtain ⟨y0, y1, m, hb2, _, hy0, hy1⟩ := trod_struct2 he hf
      rw [h0.1, h0.2, hcu] at hy0
      rw [h1.1, h1.2, hcu] at hy1
      obtain ⟨z0, hc0, rfl, _⟩ := DataW.trod_int hu hy0
      obtain ⟨z1, hc1, rfl, _⟩ := DataW.trod_int hu hy1
      rw [hb2] at hbx
      simp only [DataW.agg.injEq, List.cons.injEq, DataW.lit.injEq, Lit.int.injEq, true_and, and_true] at hbx
      obtain ⟨rfl, rfl⟩ := hbx
      have g0 := congrArg (·[0]?) hc0
      have g1 := congrArg (·[0]?) hc1
      simp [List.getElem?_take, List.getElem?_drop] at g0 g1
      exact ⟨g0, g1⟩
    · cases h

theorem tab_eq : Rows.laid_internal_strconv_pow10Tab = DataW.agg (Go.Pinned.pow10Rows.map fun x => .agg [.lit (.int .u64 (x.1 : Nat)), .lit (.int .u64 (x.2 : Nat))]) := rfl
theorem f64_eq : (Rows.laid_internal_strconv_float64pow10 : DataW Unit) = .slice (p64.map fun x => .lit (.float .f64 x)) [] := rfl
theorem f32_eq : (Rows.laid_internal_strconv_float32pow10 : DataW Unit) = .slice (p32.map fun x => .lit (.float .f32 x)) [] := rfl
theorem u64_eq : (Rows.laid_internal_strconv_uint64pow10 : DataW Unit) = Lib.tabData .u64 Lib.pow10Tab := by kernel_rfl

theorem row_floats {P : Program} {w : World} {base : Nat} {sp : Nat → Bool} {held : Bool} {fuel : Nat} {t e : TypeId} {k : FloatKind} {cs : List Value} {zs : List Nat} {p : List MemPlace} (ht : P.underlying t = some (.slice e)) (hc : P.cellsOf e = 1) (he : P.underlying e = some (.float k))
    (h : DataW.trod (fun _ => ()) P w base sp held fuel t cs = some (.slice (zs.map fun x => .lit (.float k x)) [], p)) : ∃ a cap, cs = [.slice (some a) zs.length cap] ∧ ∀ i, i < zs.length → w.cell? (a.add i) = some (.float k (zs.getD i 0)) := by
  obtain ⟨a, cap, hcs, _, hel⟩ := open_row ht hc h
  rw [List.length_map] at hcs
  refine ⟨a, cap, hcs, fun i hi => ?_⟩
  obtain ⟨v, n, q, hv, hd⟩ := hel i (.lit (.float k (zs.getD i 0))) (by rw [List.getElem?_map, List.getElem?_eq_getElem hi]; simp [List.getD, hi])
  obtain ⟨b, hb, hx, _⟩ := trod_flt he hd
  injection hb with hb _
  simp only [Prod.mk.injEq, DataW.lit.injEq, Lit.float.injEq, true_and] at hx
  rw [hv, hb, hx.1]

set_option maxRecDepth 100000 in
theorem globs_of {W : World} (h : laidMetH Tryz.prog Rows.fnBackRow.laid W) : Globs W := by
  rw [MakeChecks.laidMetH_plain _ _ _ (by kernel_rfl)] at h
  refine ⟨?_, ?_, ?_, ?_, ?_, ?_⟩
  · obtain ⟨cs, fuel, p, hc, _, hd⟩ := laid_at h 13 "internal/strconv.pow10Tab" Rows.laid_internal_strconv_pow10Tab 5 157 rfl (by kernel_rfl) (by kernel_rfl)
    rw [tab_eq] at hd
    have hall := cells_of_pairs Tryz.underlying157 Tryz.underlying156 Tryz.underlying81 (by kernel_rfl) (by kernel_rfl) ⟨rfl, rfl⟩ ⟨rfl, rfl⟩ hd Fl.tab_length
    intro q h0 h1
    have hlt : (q + 348).toNat < Go.Pinned.pow10Rows.length := by rw [Fl.tab_length]; omega
    have hx := hall (q + 348).toNat _ (List.getElem?_eq_getElem hlt)
    have e : Go.Pinned.pow10Rows[(q + 348).toNat] = Go.Pinned.pow10Rows.getD (q + 348).toNat (0, 0) := by simp [List.getD, hlt]
    rw [e] at hx
    exact ⟨(hc _).trans hx.1, (hc _).trans hx.2⟩
  · obtain ⟨cs, fuel, p, hc, hv, hd⟩ := laid_at h 8 "internal/strconv.uint64pow10" Rows.laid_internal_strconv_uint64pow10 1 129 rfl (by kernel_rfl) (by kernel_rfl)
    rw [u64_eq] at hd
    have := Lib.cells_of_tab Tryz.underlying129 Tryz.underlying81 (by kernel_rfl) (by kernel_rfl) hd
    show W.var? Tryz.prog "internal/strconv.uint64pow10" = _
    rw [hv, ← this]
  · refine ⟨?_, ?_⟩
    · obtain ⟨cs, fuel, p, hc, _, hd⟩ := laid_at h 3 "internal/strconv.float64info" Rows.laid_internal_strconv_float64info 8 174 rfl (by kernel_rfl) (by kernel_rfl)
      obtain ⟨xs, n, _, hx, hl, hlen, hf⟩ := DataW.trod_struct Tryz.underlying174 hd
      have h0 : DataW.trod (fun _ => ()) Tryz.prog W 0 (fun _ => true) false n 85 ((cs.toList.drop 0).take (Tryz.prog.cellsOf 85)) = xs[0]? := hf 0 _ rfl
      have hk : Tryz.prog.cellsOf 85 = 1 := by kernel_rfl
      rw [hk] at h0
      have hxs : xs.map (·.1) = [DataW.lit (.int .u64 52), .lit (.int .u64 11), .lit (.int .i64 (-1023))] := by
        have := congrArg Prod.fst hx
        simpa [Rows.laid_internal_strconv_float64info] using this.symm
      match xs, hxs with
      | x0 :: r, hxs =>
        simp only [List.map_cons, List.cons.injEq] at hxs
        obtain ⟨z, hz, hz2, _⟩ := DataW.trod_int Tryz.underlying85 (h0.trans rfl)
        rw [hz2] at hxs
        simp only [DataW.lit.injEq, Lit.int.injEq, true_and] at hxs
        obtain ⟨rfl, _⟩ := hxs
        have g0 := congrArg (·[0]?) hz
        simp at g0
        rw [hc 0]
        first | exact g0 | simpa [List.getElem?_take] using g0
    · obtain ⟨cs, fuel, p, hc, _, hd⟩ := laid_at h 6 "internal/strconv.float64pow10" Rows.laid_internal_strconv_float64pow10 13 44 rfl (by kernel_rfl) (by kernel_rfl)
      rw [f64_eq] at hd
      obtain ⟨a, cap, hcs, hel⟩ := row_floats Tryz.underlying44 (by kernel_rfl) Tryz.underlying30 hd
      exact ⟨a, cap, by rw [hc 0, hcs]; rfl, hel⟩
  · obtain ⟨cs, fuel, p, hc, _, hd⟩ := laid_at h 7 "internal/strconv.float32pow10" Rows.laid_internal_strconv_float32pow10 11 58 rfl (by kernel_rfl) (by kernel_rfl)
    rw [f32_eq] at hd
    obtain ⟨a, cap, hcs, hel⟩ := row_floats Tryz.underlying58 (by kernel_rfl) Tryz.underlying49 hd
    exact ⟨a, cap, by rw [hc 0, hcs]; rfl, hel⟩
  · obtain ⟨cs, fuel, p, hc, _, hd⟩ := laid_at h 4 "internal/strconv.optimize" Rows.laid_internal_strconv_optimize 0 4 rfl (by kernel_rfl) (by kernel_rfl)
    obtain ⟨b, hb, hx⟩ := DataW.trod_bool Tryz.underlying4 hd
    simp only [Rows.laid_internal_strconv_optimize, Prod.mk.injEq, DataW.lit.injEq, Lit.bool.injEq] at hx
    rw [hc 0, hb, ← hx.1]
    rfl
  · obtain ⟨cs, fuel, p, hc, _, hd⟩ := laid_at h 11 "encoding/hex.ErrLength" Rows.laid_encoding_hex_ErrLength 4 39 rfl (by kernel_rfl) (by kernel_rfl)
    obtain ⟨_, u, v, hcs, _⟩ := iface_of_trod Tryz.underlying39 hd
    exact ⟨_, by rw [hc 0, hcs]; rfl⟩
end Go.Proofs.YtbbjjkcjpdmjnaaGreatDoor
