/- The law FnBack: what joins its parts, kind for kind. -/
import Derived.Test.YtbbjjkcjpdmjnaaGreatDoorYu
import Derived.Test.YtbbjjkcjpdmjnaaGreatDoorYk
import Derived.Test.YtbbjjkcjpdmjnaaGreatDoorYq
import Derived.Test.YtbbjjkcjpdmjnaaGreatDoorZr
namespace Go.Proofs.YtbbjjkcjpdmjnaaGreatDoor
open Go.RowKit

/-- The package variables that are read. -/
structure Globs (W : World) : Prop where
  tab : Tab W
  tens : Tens W
  tabF : TabF W
  tabF32 : TabF32 W
  opt : W.cell? ⟨0, 0, none⟩ = some (.bool true)
  err : ∃ ev, W.cell? ⟨4, 0, none⟩ = some ev
theorem Globs.ints {W : World} (h : Globs W) : Lib.TabBelow Tryz.prog W.heap.size W "internal/strconv.uint64pow10" .u64 Lib.pow10Tab := Lib.tabBelow_of_tabIs h.tens
theorem Globs.below {W w : World} (h : Globs W) (hb : Below W.heap.size W w) : Globs w :=
  ⟨tab_below h.tab hb, tens_below h.tens hb, tabF_below h.tabF hb, tabF32_below h.tabF32 hb, (hb.cell (Lib.lt_of_cell h.opt)).trans h.opt, by
    obtain ⟨ev, h4⟩ := h.err
    exact ⟨ev, (hb.cell (Lib.lt_of_cell h4)).trans h4⟩⟩

theorem text_empty {t : ByteArray} (h : t.toList = []) : t = ⟨#[]⟩ := by
  rw [ByteArray.toList_eq] at h
  obtain ⟨⟨l⟩⟩ := t
  simp at h
  rw [h]
theorem text_list (t : ByteArray) : t = ⟨t.data.toList.toArray⟩ := by
  obtain ⟨⟨l⟩⟩ := t
  rfl

theorem order_self (neg : Bool) (r : Nat) (hr : r < 9218868437227405312) : FloatKind.f64.format.order (Ieee.double.word neg r) (Ieee.double.word neg r) = some .eq := by
  obtain ⟨M, ex, h, _⟩ := Fl.read64 neg r hr
  show Ieee.double.order _ _ = _
  unfold Ieee.Format.order
  rw [h]
  simp only [Ieee.Datum.order, Option.some.injEq, Std.compare_eq_iff_eq]

theorem all_mk {α : Type} {mk : α → It} {C : α → Prop} : ∀ its : List It, (∀ x ∈ its, ∃ e, C e ∧ x = mk e) → ∃ es : List α, its = es.map mk ∧ ∀ e ∈ es, C e
  | [], _ => ⟨[], rfl, fun e he => by cases he⟩
  | x :: r, h => by
    obtain ⟨e, he, rfl⟩ := h x (List.mem_cons_self ..)
    obtain ⟨es, rfl, hes⟩ := all_mk r (fun y hy => h y (List.mem_cons_of_mem _ hy))
    refine ⟨e :: es, rfl, fun f hf => ?_⟩
    rcases List.mem_cons.1 hf with rfl | hf
    · exact he
    · exact hes f hf

theorem ts_eq {α : Type} {f : α → List UInt8} {es : List α} {ts : List (List UInt8)} (hl : ts.length = es.length) (h : ∀ (j : Nat) t, ts[j]? = some t → ∃ e, es[j]? = some e ∧ t = f e) : ts = es.map f := by
  apply List.ext_getElem? 
  intro j
  rcases Nat.lt_or_ge j ts.length with hj | hj
  · obtain ⟨e, he, ht⟩ := h j _ (List.getElem?_eq_getElem hj)
    rw [List.getElem?_map, he, List.getElem?_eq_getElem hj, ht]
    rfl
  · rw [List.getElem?_eq_none hj, List.getElem?_eq_none (by simp; omega)]

theorem litTs_length (ts : List (List UInt8)) (h : ∀ t ∈ ts, t.length ≤ 1000) : (litTs ts).length ≤ 2 + 1001 * ts.length := by
  have hf : ∀ r : List (List UInt8), (∀ t ∈ r, t.length ≤ 1000) → (r.flatMap fun t => 44 :: t).length ≤ 1001 * r.length := by
    intro r
    induction r with
    | nil => intro _; simp
    | cons t r ih =>
      intro h
      have h1 := h t (List.mem_cons_self ..)
      have h2 := ih (fun u hu => h u (List.mem_cons_of_mem _ hu))
      rw [List.flatMap_cons, List.length_append, List.length_cons, List.length_cons]
      omega
  cases ts with
  | nil => simp [litTs]
  | cons t r =>
    have h1 := h t (List.mem_cons_self ..)
    have h2 := hf r (fun u hu => h u (List.mem_cons_of_mem _ hu))
    simp only [litTs, List.length_append, List.length_cons, List.length_nil]
    omega

/-- A Scan, out of its scanBytes. -/
theorem scan_join {sf sb : FuncId} {ta te : TypeId} (w : World) (s : List UInt8) (vals : List Value)
    (hscan : ∀ (W : World) (p : Nat) (s : List UInt8) (P : World → World → Prop), (∀ W1 g cap, Below W.heap.size W W1 → Elem W1 (.slice (some ⟨g, 0, none⟩) s.length cap) s → s.length ≤ cap →
      Calls Tryz.prog sb #[.pointer (some ⟨p, 0, none⟩), .slice (some ⟨g, 0, none⟩) s.length cap] W1 fun e w' => e = .returned .nilIface ∧ P W1 w') →
      Calls Tryz.prog sf #[.pointer (some ⟨p, 0, none⟩), .iface 9 (.string ⟨s.toArray⟩)] W fun e w' => e = .returned .nilIface ∧ ∃ W1, Below W.heap.size W W1 ∧ P W1 w')
    (hbytes : ∀ W1 g cap, Below (w.alloc (.cells #[.slice none 0 0] ta)).heap.size (w.alloc (.cells #[.slice none 0 0] ta)) W1 → Elem W1 (.slice (some ⟨g, 0, none⟩) s.length cap) s → s.length ≤ cap → W1.heap[w.heap.size]? = some (.cells #[.slice none 0 0] ta (0, 0)) →
      Calls Tryz.prog sb #[.pointer (some ⟨w.heap.size, 0, none⟩), .slice (some ⟨g, 0, none⟩) s.length cap] W1 (SDone W1 w.heap.size ta te vals)) :
    Calls Tryz.prog sf #[.pointer (some ⟨w.heap.size, 0, none⟩), .iface 9 (.string ⟨s.toArray⟩)] (w.alloc (.cells #[.slice none 0 0] ta)) (ScanP (w.alloc (.cells #[.slice none 0 0] ta)) w.heap.size ta te vals) := by
  refine (hscan (w.alloc (.cells #[.slice none 0 0] ta)) w.heap.size s (fun W1 w' => SDone W1 w.heap.size ta te vals (.returned .nilIface) w') (fun W1 g cap hb hE hc => ?_)).mono ?_
  · refine (hbytes W1 g cap hb hE hc ((hb.block w.heap.size (by simp)).trans (heap_alloc_new w _))).mono ?_
    intro e w' h
    have he := h.1
    subst he
    exact ⟨rfl, h⟩
  · rintro e w' ⟨rfl, W1, hb, _, hg, hrest⟩
    exact ⟨rfl, grown_of hb hg, hrest⟩
theorem scan_joinB {sf sb : FuncId} (w : World) (s : List UInt8) (ls : List (List UInt8))
    (hscan : ∀ (W : World) (p : Nat) (s : List UInt8) (P : World → World → Prop), (∀ W1 g cap, Below W.heap.size W W1 → Elem W1 (.slice (some ⟨g, 0, none⟩) s.length cap) s → s.length ≤ cap →
      Calls Tryz.prog sb #[.pointer (some ⟨p, 0, none⟩), .slice (some ⟨g, 0, none⟩) s.length cap] W1 fun e w' => e = .returned .nilIface ∧ P W1 w') →
      Calls Tryz.prog sf #[.pointer (some ⟨p, 0, none⟩), .iface 9 (.string ⟨s.toArray⟩)] W fun e w' => e = .returned .nilIface ∧ ∃ W1, Below W.heap.size W W1 ∧ P W1 w')
    (hbytes : ∀ W1 g cap, Below (w.alloc (.cells #[.slice none 0 0] 55)).heap.size (w.alloc (.cells #[.slice none 0 0] 55)) W1 → Elem W1 (.slice (some ⟨g, 0, none⟩) s.length cap) s → s.length ≤ cap → W1.heap[w.heap.size]? = some (.cells #[.slice none 0 0] 55 (0, 0)) →
      Calls Tryz.prog sb #[.pointer (some ⟨w.heap.size, 0, none⟩), .slice (some ⟨g, 0, none⟩) s.length cap] W1 (SDoneB W1 w.heap.size ls)) :
    Calls Tryz.prog sf #[.pointer (some ⟨w.heap.size, 0, none⟩), .iface 9 (.string ⟨s.toArray⟩)] (w.alloc (.cells #[.slice none 0 0] 55)) (fun e w' => ∃ vals, vals.length = ls.length ∧ ScanP (w.alloc (.cells #[.slice none 0 0] 55)) w.heap.size 55 50 vals e w' ∧ Elems w' vals ls) := by
  refine (hscan (w.alloc (.cells #[.slice none 0 0] 55)) w.heap.size s (fun W1 w' => SDoneB W1 w.heap.size ls (.returned .nilIface) w') (fun W1 g cap hb hE hc => ?_)).mono ?_
  · refine (hbytes W1 g cap hb hE hc ((hb.block w.heap.size (by simp)).trans (heap_alloc_new w _))).mono ?_
    intro e w' h
    have he : e = .returned .nilIface := by obtain ⟨vals, _, h2, _⟩ := h; exact h2.1
    subst he
    exact ⟨rfl, h⟩
  · rintro e w' ⟨rfl, W1, hb, vals, hvl, ⟨_, hg, hrest⟩, hel⟩
    exact ⟨vals, hvl, ⟨rfl, grown_of hb hg, hrest⟩, hel⟩
end Go.Proofs.YtbbjjkcjpdmjnaaGreatDoor

/- The law FnBack, kind for kind. -/
namespace Go.Proofs.YtbbjjkcjpdmjnaaGreatDoor
open Go.RowKit

theorem Its.keep {W w : World} {ga oa : Nat} {its : List It} (h : Its W ga oa its) (hb : Below W.heap.size W w) : Its w ga oa its := fun i x hx k u hu => by
  have := h i x hx k u hu
  exact (hb.cell (Lib.lt_of_cell this)).trans this

/-- A text for each element. -/
def TOf {α : Type} (TT : α → List UInt8 → Prop) (es : List α) (j : Nat) (t : List UInt8) : Prop := ∃ e, es[j]? = some e ∧ TT e t

theorem law_join {α : Type} (mk : α → It) (C : α → Prop) (TT : α → List UInt8 → Prop) (κ : Int) (h1 : 1 ≤ κ) (h7 : κ ≤ 7) (W : World) (HG : Globs W) (A : Option Addr) (ga oa n c : Nat) (its : List It) (hn : its.length = n) (hk : n ≤ 9223372036854775807) (hA : 0 < n → A = some ⟨ga, oa, none⟩) (hI : Its W ga oa its)
    (hP : ∀ x ∈ its, ∀ w, Calls Tryz.prog 10 #[.int .i64 κ, x.val] w (FPost (∃ e, C e ∧ x = mk e) w))
    (hWr : ∀ (es : List α) w, (∀ e ∈ es, C e) → es.length = n → n ≤ 200 → Its w ga oa (es.map mk) → Globs w → Calls Tryz.prog 6 #[.int .i64 κ, .slice A n c] w (WDone (TOf TT es) n w))
    (hSc : ∀ (es : List α) (ts : List (List UInt8)) w, (∀ e ∈ es, C e) → es.length = n → n ≤ 200 → ts.length = n → (∀ (j : Nat) t, ts[j]? = some t → TOf TT es j t) → Globs w → Calls Tryz.prog 7 #[.int .i64 κ, .string ⟨(litTs ts).toArray⟩] w (SRes w (es.map mk)))
    (hfin : ∀ e, C e → FloatKind.f64.format.order (mk e).real (mk e).real = some .eq) :
    Calls Tryz.prog 3 #[.int .i64 κ, .slice A n c] W (LDone3 W) := by
  refine law_core κ h1 h7 W A ga oa n c its hn hk hA hI (fun x => ∃ e, C e ∧ x = mk e) hP (fun bs => ∃ es ts, its = es.map mk ∧ (∀ e ∈ es, C e) ∧ ts.length = n ∧ (∀ (j : Nat) t, ts[j]? = some t → TOf TT es j t) ∧ bs = ⟨(litTs ts).toArray⟩) ?_ ?_ ?_
  · intro h200 hp w hb
    obtain ⟨es, hes, hC⟩ := all_mk its hp
    have hl : es.length = n := by rw [← hn, hes, List.length_map]
    have hI2 := hI.keep hb
    rw [hes] at hI2
    refine (hWr es w hC hl h200 hI2 (HG.below hb)).mono ?_
    rintro e w' ⟨ts, hts, hT, rfl, hb2⟩
    exact ⟨_, ⟨es, ts, hes, hC, hts, hT, rfl⟩, rfl, hb2⟩
  · rintro h200 hp bs w ⟨es, ts, hes, hC, hts, hT, rfl⟩ hb
    have hl : es.length = n := by rw [← hn, hes, List.length_map]
    rw [hes]
    exact hSc es ts w hC hl h200 hts hT (HG.below hb)
  · rintro x ⟨e, he, rfl⟩
    exact hfin e he

theorem tok_at {α : Type} {tok : α → Tok} {es : List α} {j : Nat} {l : List UInt8} {e : α} (h1 : ((es.map tok).map Tok.val)[j]? = some l) (h2 : es[j]? = some e) : l = (tok e).val := by
  rw [List.getElem?_map, List.getElem?_map, h2] at h1
  simpa using h1.symm
theorem lit_len {ts : List (List UInt8)} {n : Nat} (hn : ts.length = n) (h200 : n ≤ 200) (h : ∀ t ∈ ts, t.length ≤ 1000) : (litTs ts).length ≤ 1000000 := by
  have := litTs_length ts h
  omega

/-- What a kind's elements are as parts of a literal. -/
theorem lit_parts {α : Type} {f : α → List UInt8} {tok : α → Tok} {es : List α} {ts : List (List UInt8)} {n : Nat} (hl : es.length = n) (hts : ts.length = n) (h200 : n ≤ 200) (hT : ∀ (j : Nat) t, ts[j]? = some t → TOf (fun e t => t = f e) es j t) (henc : ∀ e, f e = (tok e).enc) (hlen : ∀ e ∈ es, (f e).length ≤ 1000) :
    litTs ts = litOf (es.map tok) ∧ (litTs ts).length ≤ 1000000 ∧ (es.map tok).length ≤ 1000 := by
  have e1 := ts_eq (by rw [hts, hl]) hT
  refine ⟨?_, lit_len hts h200 (fun t ht => ?_), by rw [List.length_map]; omega⟩
  · rw [e1, ← litTs_toks, List.map_map]
    congr 1
    apply List.map_congr_left
    intro e _
    exact henc e
  · rw [e1] at ht
    obtain ⟨e, he, rfl⟩ := List.mem_map.1 ht
    exact hlen e he

theorem itoa_len (x : Int) (h0 : -9223372036854775808 ≤ x) (h1 : x ≤ 9223372036854775807) : (Lib.itoa x).length ≤ 1000 := by
  have := Lib.itoa_length_le x h0 h1
  omega

theorem law_1 (W : World) (HG : Globs W) (A : Option Addr) (ga oa n c : Nat) (its : List It) (hn : its.length = n) (hk : n ≤ 9223372036854775807) (hA : 0 < n → A = some ⟨ga, oa, none⟩) (hI : Its W ga oa its) (hwf : ∀ x ∈ its, It.wf x) :
    Calls Tryz.prog 3 #[.int .i64 1, .slice A n c] W (LDone3 W) := by
  refine law_join mkBool (fun _ => True) (fun e t => t = [tf e]) 1 (by decide) (by decide) W HG A ga oa n c its hn hk hA hI ?_ ?_ ?_ ?_
  · intro x hx w
    have hw := hwf x hx
    obtain ⟨nul, text, num, real, tru⟩ := x
    refine fits_1 nul text num real tru hw.1 w _ ?_
    rintro rfl h2 rfl rfl
    exact ⟨tru, trivial, by rw [text_empty h2]; rfl⟩
  · intro es w hC hl h200 hI2 hG
    exact written_1 w A ga oa n c es hl h200 hA hI2 _ (fun w2 g cap hb hcells => value_bool w2 g n cap es _ hl (by omega) hcells (fun j x hx => ⟨x, hx, rfl⟩))
  · intro es ts w hC hl h200 hts hT hG
    obtain ⟨hs, hlen, hkk⟩ := lit_parts (tok := fun e => Tok.bare [tf e]) hl hts h200 hT (fun e => rfl) (fun e _ => by simp)
    refine scanned_1 w _ n es hl h200 (scan_join w (litTs ts) (es.map fun e => Value.bool e) scan_bool (fun W1 g cap hb hE hc hp => ?_))
    refine scanBytes_bool W1 w.heap.size g cap (litTs ts) (es.map fun e => Tok.bare [tf e]) _ es hs (fun t ht => ?_) hc hlen hkk (by simp) hE hp rfl (fun j l e h1 h2 => ?_)
    · obtain ⟨e, _, rfl⟩ := List.mem_map.1 ht
      exact tf_plain e
    · have := tok_at (tok := fun e => Tok.bare [tf e]) h1 h2
      rw [this, ← tf_eq]
      rfl
  · intro e _
    exact order_pz

theorem law_2 (W : World) (HG : Globs W) (A : Option Addr) (ga oa n c : Nat) (its : List It) (hn : its.length = n) (hk : n ≤ 9223372036854775807) (hA : 0 < n → A = some ⟨ga, oa, none⟩) (hI : Its W ga oa its) (hwf : ∀ x ∈ its, It.wf x) :
    Calls Tryz.prog 3 #[.int .i64 2, .slice A n c] W (LDone3 W) := by
  refine law_join mkInt (fun e => -9223372036854775808 ≤ e ∧ e ≤ 9223372036854775807) (fun e t => t = Lib.itoa e) 2 (by decide) (by decide) W HG A ga oa n c its hn hk hA hI ?_ ?_ ?_ ?_
  · intro x hx w
    have hw := hwf x hx
    obtain ⟨nul, text, num, real, tru⟩ := x
    refine fits_2 nul text num real tru hw.1 w _ ?_
    rintro rfl h2 rfl rfl
    exact ⟨num, hw.2, by rw [text_empty h2]; rfl⟩
  · intro es w hC hl h200 hI2 hG
    exact written_2 w A ga oa n c es hl h200 hA hI2 _ (fun w2 g cap hb hcells => value_int64 w2 g n cap es _ hl (by omega) hcells (fun j x hx => ⟨x, hx, rfl⟩) hC (hG.below hb).ints (fun j t ⟨e, he, ht⟩ => by
      have := hC e (List.mem_of_getElem? he)
      rw [ht]; exact itoa_len e this.1 this.2))
  · intro es ts w hC hl h200 hts hT hG
    obtain ⟨hs, hlen, hkk⟩ := lit_parts (tok := fun e => Tok.bare (Lib.itoa e)) hl hts h200 hT (fun e => rfl) (fun e he => itoa_len e (hC e he).1 (hC e he).2)
    refine scanned_2 w _ n es hl h200 (scan_join w (litTs ts) (es.map fun e => Value.int .i64 e) scan_int64 (fun W1 g cap hb hE hc hp => ?_))
    refine scanBytes_int64 W1 w.heap.size g cap (litTs ts) (es.map fun e => Tok.bare (Lib.itoa e)) _ es hs (fun t ht => ?_) hc hlen hkk (by simp) hE hp rfl (fun j l e h1 h2 => ?_) (fun l hl2 => ?_)
    · obtain ⟨e, _, rfl⟩ := List.mem_map.1 ht
      exact itoa_plain e
    · have := tok_at (tok := fun e => Tok.bare (Lib.itoa e)) h1 h2
      have hb2 := hC e (List.mem_of_getElem? h2)
      rw [this]
      exact parse_itoa64 e hb2.1 hb2.2
    · obtain ⟨t, ht, rfl⟩ := List.mem_map.1 hl2
      obtain ⟨e, he, rfl⟩ := List.mem_map.1 ht
      have := itoa_len e (hC e he).1 (hC e he).2
      show (Lib.itoa e).length ≤ 100000
      omega
  · intro e _
    exact order_pz

theorem law_4 (W : World) (HG : Globs W) (A : Option Addr) (ga oa n c : Nat) (its : List It) (hn : its.length = n) (hk : n ≤ 9223372036854775807) (hA : 0 < n → A = some ⟨ga, oa, none⟩) (hI : Its W ga oa its) (hwf : ∀ x ∈ its, It.wf x) :
    Calls Tryz.prog 3 #[.int .i64 4, .slice A n c] W (LDone3 W) := by
  have hq : ∀ e : List UInt8, e.length ≤ 200 → (34 :: (esc e ++ [34])).length ≤ 1000 := fun e he => by
    have := esc_length e
    simp
    omega
  refine law_join mkText (fun e => e.length ≤ 200) (fun e t => t = 34 :: (esc e ++ [34])) 4 (by decide) (by decide) W HG A ga oa n c its hn hk hA hI ?_ ?_ ?_ ?_
  · intro x hx w
    have hw := hwf x hx
    obtain ⟨nul, text, num, real, tru⟩ := x
    refine fits_4 nul text num real tru hw.1 w _ ?_
    rintro rfl h2 rfl rfl rfl
    refine ⟨text.data.toList, by rw [Array.length_toList]; exact h2, ?_⟩
    show _ = (⟨false, ⟨text.data.toList.toArray⟩, 0, 0, false⟩ : It)
    rw [← text_list]
  · intro es w hC hl h200 hI2 hG
    exact written_4 w A ga oa n c es hl h200 hA hI2 _ (fun w2 g cap hb hcells => value_string w2 g n cap es _ hl (by omega) hcells (fun j x hx => ⟨x, hx, rfl⟩) (fun x hx => Nat.le_trans (hC x hx) (by decide)) (fun j t ⟨e, he, ht⟩ => by
      rw [ht]; exact hq e (hC e (List.mem_of_getElem? he))))
  · intro es ts w hC hl h200 hts hT hG
    obtain ⟨hs, hlen, hkk⟩ := lit_parts (tok := fun e => Tok.quoted e) hl hts h200 hT (fun e => rfl) (fun e he => hq e (hC e he))
    refine scanned_4 w _ n es hl h200 (scan_join w (litTs ts) (es.map fun e => Value.string ⟨e.toArray⟩) scan_string (fun W1 g cap hb hE hc hp => ?_))
    refine scanBytes_string W1 w.heap.size g cap (litTs ts) (es.map fun e => Tok.quoted e) _ hs (fun t ht => ?_) hc hlen hkk (by simp) hE hp ?_
    · obtain ⟨e, _, rfl⟩ := List.mem_map.1 ht
      trivial
    · rw [List.map_map]
      rfl
  · intro e _
    exact order_pz

theorem law_5 (W : World) (HG : Globs W) (A : Option Addr) (ga oa n c : Nat) (its : List It) (hn : its.length = n) (hk : n ≤ 9223372036854775807) (hA : 0 < n → A = some ⟨ga, oa, none⟩) (hI : Its W ga oa its) (hwf : ∀ x ∈ its, It.wf x) :
    Calls Tryz.prog 3 #[.int .i64 5, .slice A n c] W (LDone3 W) := by
  have hq : ∀ e : List UInt8, e.length ≤ 200 → (bt e).length ≤ 1000 := fun e he => by
    have := hexs_length e
    simp [bt]
    omega
  refine law_join mkText (fun e => e.length ≤ 200) (fun e t => t = bt e) 5 (by decide) (by decide) W HG A ga oa n c its hn hk hA hI ?_ ?_ ?_ ?_
  · intro x hx w
    have hw := hwf x hx
    obtain ⟨nul, text, num, real, tru⟩ := x
    refine fits_5 nul text num real tru hw.1 w _ ?_
    rintro rfl h2 rfl rfl rfl
    refine ⟨text.data.toList, by rw [Array.length_toList]; exact h2, ?_⟩
    show _ = (⟨false, ⟨text.data.toList.toArray⟩, 0, 0, false⟩ : It)
    rw [← text_list]
  · intro es w hC hl h200 hI2 hG
    refine written_via 5 (Or.inl rfl) w A ga oa n c (es.map mkText) (by rw [List.length_map, hl]) h200 hA hI2 (fun x hx => ?_) _ (fun w1 hb1 => ?_)
    · obtain ⟨e, _, rfl⟩ := List.mem_map.1 hx
      rfl
    · exact other_5 w1 A ga oa n c es hl h200 hA (hI2.keep hb1) _ (fun w2 g cap hb hcells => value_bytea w2 g n cap es _ hl (by omega) hcells (fun j x hx => ⟨x, hx, rfl⟩) (fun x hx => Nat.le_trans (hC x hx) (by decide)))
  · intro es ts w hC hl h200 hts hT hG
    obtain ⟨hs, hlen, hkk⟩ := lit_parts (tok := fun e => Tok.quoted (hexText e)) hl hts h200 hT bt_enc (fun e he => hq e (hC e he))
    refine scanned_via 5 (Or.inl rfl) w _ _ (sother_5 w _ n es hl h200 ?_)
    rw [← hl]
    refine scan_joinB w (litTs ts) es scan_bytea (fun W1 g cap hb hE hc hp => ?_)
    obtain ⟨ev, h4⟩ := hG.err
    have hb0 : Below w.heap.size w W1 := ((Below.refl _ w).alloc (Nat.le_refl _) _).trans (hb.mono (by simp))
    refine scanBytes_bytea W1 w.heap.size g cap (litTs ts) (es.map fun e => Tok.quoted (hexText e)) es hs (fun t ht => ?_) hc hlen hkk hE hp ?_ (fun l hl2 => Nat.le_trans (hC l hl2) (by decide)) ev ((hb0.cell (Lib.lt_of_cell h4)).trans h4)
    · obtain ⟨e, _, rfl⟩ := List.mem_map.1 ht
      trivial
    · rw [List.map_map]
      rfl
  · intro e _
    exact order_pz

theorem law_6 (W : World) (HG : Globs W) (A : Option Addr) (ga oa n c : Nat) (its : List It) (hn : its.length = n) (hk : n ≤ 9223372036854775807) (hA : 0 < n → A = some ⟨ga, oa, none⟩) (hI : Its W ga oa its) (hwf : ∀ x ∈ its, It.wf x) :
    Calls Tryz.prog 3 #[.int .i64 6, .slice A n c] W (LDone3 W) := by
  have hq : ∀ e : Int, -2147483648 ≤ e ∧ e ≤ 2147483647 → (Lib.itoa e).length ≤ 1000 := fun e he => itoa_len e (by omega) (by omega)
  refine law_join mkInt (fun e => -2147483648 ≤ e ∧ e ≤ 2147483647) (fun e t => t = Lib.itoa e) 6 (by decide) (by decide) W HG A ga oa n c its hn hk hA hI ?_ ?_ ?_ ?_
  · intro x hx w
    have hw := hwf x hx
    obtain ⟨nul, text, num, real, tru⟩ := x
    refine fits_6 nul text num real tru hw.1 w _ ?_
    rintro rfl h2 h3 h4 rfl rfl
    exact ⟨num, ⟨h3, h4⟩, by rw [text_empty h2]; rfl⟩
  · intro es w hC hl h200 hI2 hG
    refine written_via 6 (Or.inr (Or.inl rfl)) w A ga oa n c (es.map mkInt) (by rw [List.length_map, hl]) h200 hA hI2 (fun x hx => ?_) _ (fun w1 hb1 => ?_)
    · obtain ⟨e, _, rfl⟩ := List.mem_map.1 hx
      rfl
    · exact other_6 w1 A ga oa n c es hl h200 hA (hI2.keep hb1) _ hC (fun w2 g cap hb hcells => value_int32 w2 g n cap es _ hl (by omega) hcells (fun j x hx => ⟨x, hx, rfl⟩) hC ((hG.below hb1).below hb).ints (fun j t ⟨e, he, ht⟩ => by
        rw [ht]; exact hq e (hC e (List.mem_of_getElem? he))))
  · intro es ts w hC hl h200 hts hT hG
    obtain ⟨hs, hlen, hkk⟩ := lit_parts (tok := fun e => Tok.bare (Lib.itoa e)) hl hts h200 hT (fun e => rfl) (fun e he => hq e (hC e he))
    refine scanned_via 6 (Or.inr (Or.inl rfl)) w _ _ (sother_6 w _ n es hl h200 hC (scan_join w (litTs ts) (es.map fun e => Value.int .i32 e) scan_int32 (fun W1 g cap hb hE hc hp => ?_)))
    refine scanBytes_int32 W1 w.heap.size g cap (litTs ts) (es.map fun e => Tok.bare (Lib.itoa e)) _ es hs (fun t ht => ?_) hc hlen hkk (by simp) hE hp rfl (fun j l e h1 h2 => ?_) (fun l hl2 => ?_) hC
    · obtain ⟨e, _, rfl⟩ := List.mem_map.1 ht
      exact itoa_plain e
    · have := tok_at (tok := fun e => Tok.bare (Lib.itoa e)) h1 h2
      have hb2 := hC e (List.mem_of_getElem? h2)
      rw [this]
      exact parse_itoa32 e hb2.1 hb2.2
    · obtain ⟨t, ht, rfl⟩ := List.mem_map.1 hl2
      obtain ⟨e, he, rfl⟩ := List.mem_map.1 ht
      have := hq e (hC e he)
      show (Lib.itoa e).length ≤ 100000
      omega
  · intro e _
    exact order_pz

theorem law_3 (W : World) (HG : Globs W) (A : Option Addr) (ga oa n c : Nat) (its : List It) (hn : its.length = n) (hk : n ≤ 9223372036854775807) (hA : 0 < n → A = some ⟨ga, oa, none⟩) (hI : Its W ga oa its) (hwf : ∀ x ∈ its, It.wf x) :
    Calls Tryz.prog 3 #[.int .i64 3, .slice A n c] W (LDone3 W) := by
  refine law_join mkReal (fun e => e.2 < 9218868437227405312 ∧ (e.2 = 0 → e.1 = false)) (fun e t => IsText64 e.1 e.2 t) 3 (by decide) (by decide) W HG A ga oa n c its hn hk hA hI ?_ ?_ ?_ ?_
  · intro x hx w
    have hw := hwf x hx
    obtain ⟨nul, text, num, real, tru⟩ := x
    refine fits_3 nul text num real tru hw.1 w _ ?_
    rintro rfl h2 rfl rfl ⟨neg, r, hr, h0, rfl⟩
    exact ⟨(neg, r), ⟨hr, h0⟩, by rw [text_empty h2]; rfl⟩
  · intro es w hC hl h200 hI2 hG
    exact written_3 w A ga oa n c es hl h200 hA hI2 _ (fun w2 g cap hb hcells => value_float64 w2 g n cap es _ hl (by omega) hcells (fun j x t hx ht => ⟨x, hx, ht⟩) hC (hG.below hb).tab (hG.below hb).tens (fun j t ⟨e, he, ht⟩ => by
      have := (text64_plain ht).2
      omega))
  · intro es ts w hC hl h200 hts hT hG
    have hmem : ∀ t ∈ ts, (Tok.bare t).Ok ∧ t.length ≤ 401 := fun t ht => by
      obtain ⟨j, hj, hjt⟩ := List.getElem_of_mem ht
      obtain ⟨e, _, h2⟩ := hT j t (by rw [List.getElem?_eq_getElem hj, hjt])
      exact text64_plain h2
    have hs : litTs ts = litOf (ts.map Tok.bare) := by
      rw [← litTs_toks, List.map_map]
      congr 1
      exact (List.map_id ts).symm
    have hlen := lit_len hts h200 (fun t ht => Nat.le_trans (hmem t ht).2 (by decide))
    refine scanned_3 w _ n es hl h200 (scan_join w (litTs ts) (es.map fun e => Value.float .f64 (Ieee.double.word e.1 e.2)) scan_float64 (fun W1 g cap hb hE hc hp => ?_))
    have hb0 : Below w.heap.size w W1 := ((Below.refl _ w).alloc (Nat.le_refl _) _).trans (hb.mono (by simp))
    have hG1 := hG.below hb0
    refine scanBytes_float64 W1 w.heap.size g cap (litTs ts) (ts.map Tok.bare) _ es hs (fun t ht => ?_) hc hlen (by rw [List.length_map]; omega) (by simp [hl, hts]) hE hp rfl (fun j l e h1 h2 => ?_) hG1.tab hG1.tabF hG1.opt
    · obtain ⟨u, hu, rfl⟩ := List.mem_map.1 ht
      exact (hmem u hu).1
    · rw [List.map_map] at h1
      have h3 : ts[j]? = some l := by
        rw [List.getElem?_map] at h1
        obtain ⟨u, hu, hul⟩ := Option.map_eq_some_iff.1 h1
        rw [hu]
        exact congrArg some hul
      obtain ⟨e2, h4, h5⟩ := hT j l h3
      rw [h2] at h4
      injection h4 with h4
      subst h4
      exact ⟨h5, (hC e (List.mem_of_getElem? h2)).1⟩
  · rintro ⟨neg, r⟩ he
    exact order_self neg r he.1

theorem law_7 (W : World) (HG : Globs W) (A : Option Addr) (ga oa n c : Nat) (its : List It) (hn : its.length = n) (hk : n ≤ 9223372036854775807) (hA : 0 < n → A = some ⟨ga, oa, none⟩) (hI : Its W ga oa its) (hwf : ∀ x ∈ its, It.wf x) :
    Calls Tryz.prog 3 #[.int .i64 7, .slice A n c] W (LDone3 W) := by
  refine law_join mkReal32 (fun e => e.2 < 2139095040 ∧ (e.2 = 0 → e.1 = false)) (fun e t => IsText32 e.1 e.2 t) 7 (by decide) (by decide) W HG A ga oa n c its hn hk hA hI ?_ ?_ ?_ ?_
  · intro x hx w
    have hw := hwf x hx
    obtain ⟨nul, text, num, real, tru⟩ := x
    refine fits_7 nul text num real tru hw.1 w _ ?_
    rintro rfl h2 rfl rfl ⟨neg, r, hr, h0, rfl⟩
    exact ⟨(neg, r), ⟨hr, h0⟩, by rw [text_empty h2]; rfl⟩
  · intro es w hC hl h200 hI2 hG
    refine written_via 7 (Or.inr (Or.inr rfl)) w A ga oa n c (es.map mkReal32) (by rw [List.length_map, hl]) h200 hA hI2 (fun x hx => ?_) _ (fun w1 hb1 => ?_)
    · obtain ⟨e, _, rfl⟩ := List.mem_map.1 hx
      rfl
    · have hG1 := hG.below hb1
      exact other_7 w1 A ga oa n c es hl h200 hA (hI2.keep hb1) _ (fun e he => (hC e he).1) (fun w2 g cap hb hcells => value_float32 w2 g n cap es _ hl (by omega) hcells (fun j x t hx ht => ⟨x, hx, ht⟩) hC (hG1.below hb).tab (hG1.below hb).tens (fun j t ⟨e, he, ht⟩ => by
        have := (text32_plain ht).2
        omega))
  · intro es ts w hC hl h200 hts hT hG
    have hmem : ∀ t ∈ ts, (Tok.bare t).Ok ∧ t.length ≤ 401 := fun t ht => by
      obtain ⟨j, hj, hjt⟩ := List.getElem_of_mem ht
      obtain ⟨e, _, h2⟩ := hT j t (by rw [List.getElem?_eq_getElem hj, hjt])
      exact text32_plain h2
    have hs : litTs ts = litOf (ts.map Tok.bare) := by
      rw [← litTs_toks, List.map_map]
      congr 1
      exact (List.map_id ts).symm
    have hlen := lit_len hts h200 (fun t ht => Nat.le_trans (hmem t ht).2 (by decide))
    refine scanned_via 7 (Or.inr (Or.inr rfl)) w _ _ (sother_7 w _ n es hl h200 (fun e he => (hC e he).1) (scan_join w (litTs ts) (es.map fun e => Value.float .f32 (Ieee.single.word e.1 e.2)) scan_float32 (fun W1 g cap hb hE hc hp => ?_)))
    have hb0 : Below w.heap.size w W1 := ((Below.refl _ w).alloc (Nat.le_refl _) _).trans (hb.mono (by simp))
    have hG1 := hG.below hb0
    refine scanBytes_float32 W1 w.heap.size g cap (litTs ts) (ts.map Tok.bare) _ es hs (fun t ht => ?_) hc hlen (by rw [List.length_map]; omega) (by simp [hl, hts]) hE hp rfl (fun j l e h1 h2 => ?_) hG1.tab hG1.tabF32 hG1.opt
    · obtain ⟨u, hu, rfl⟩ := List.mem_map.1 ht
      exact (hmem u hu).1
    · rw [List.map_map] at h1
      have h3 : ts[j]? = some l := by
        rw [List.getElem?_map] at h1
        obtain ⟨u, hu, hul⟩ := Option.map_eq_some_iff.1 h1
        rw [hu]
        exact congrArg some hul
      obtain ⟨e2, h4, h5⟩ := hT j l h3
      rw [h2] at h4
      injection h4 with h4
      subst h4
      exact ⟨h5, (hC e (List.mem_of_getElem? h2)).1⟩
  · rintro ⟨neg, r⟩ he
    exact order_self neg _ (Fl.wideR_lt r he.1)

/-- The law at every argument. -/
theorem law_all (κ : Int) (W : World) (HG : Globs W) (A : Option Addr) (ga oa n c : Nat) (its : List It) (hn : its.length = n) (hk : n ≤ 9223372036854775807) (hA : 0 < n → A = some ⟨ga, oa, none⟩) (hI : Its W ga oa its) (hwf : ∀ x ∈ its, It.wf x) :
    Calls Tryz.prog 3 #[.int .i64 κ, .slice A n c] W (LDone3 W) := by
  by_cases hκ : κ < 1 ∨ 7 < κ
  · exact law_out κ hκ W A ga oa n c its hn hk hA hI
  · have : κ = 1 ∨ κ = 2 ∨ κ = 3 ∨ κ = 4 ∨ κ = 5 ∨ κ = 6 ∨ κ = 7 := by omega
    rcases this with rfl | rfl | rfl | rfl | rfl | rfl | rfl
    · exact law_1 W HG A ga oa n c its hn hk hA hI hwf
    · exact law_2 W HG A ga oa n c its hn hk hA hI hwf
    · exact law_3 W HG A ga oa n c its hn hk hA hI hwf
    · exact law_4 W HG A ga oa n c its hn hk hA hI hwf
    · exact law_5 W HG A ga oa n c its hn hk hA hI hwf
    · exact law_6 W HG A ga oa n c its hn hk hA hI hwf
    · exact law_7 W HG A ga oa n c its hn hk hA hI hwf
end Go.Proofs.YtbbjjkcjpdmjnaaGreatDoor
