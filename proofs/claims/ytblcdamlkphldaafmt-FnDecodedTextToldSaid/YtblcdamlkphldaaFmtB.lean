/- Walks of the law FnDecodedText: TextDecode and Decoded at texts. -/
import Derived.Test.YtblcdamlkphldaaFmtA
import Derived.Laws.Rows
import Derived.Laws.Tables
import Derived.Laws.ResultCell
namespace Go.Proofs.YtblcdamlkphldaaFmt
open Go.RowKit

theorem textDecode2_str (t : Int) (ht : t = 25 ∨ t = 1043 ∨ t = 1042) (g cap : Nat) (l : List UInt8) (w : World) (hc : BytesAt w g l) :
    Calls Tryf.prog 7 #[.slice (some ⟨g, 0, none⟩) l.length cap, .int .u32 t] w fun e w' => e = .returned (.tuple #[.iface 9 (.string ⟨l.toArray⟩), .nilIface]) ∧ Below w.heap.size w w' := by
  have h8 := Lib.hid (textDecode_str t ht g cap l w hc)
  clear hc ht
  generalize (Value.slice (some ⟨g, 0, none⟩) l.length cap) = v at h8 ⊢
  go_enter Tryf.func7, Tryf.ntmps7
  go_wp2_with fail
  refine h8.out.mono ?_
  rintro e w' ⟨rfl, rfl⟩
  go_wp2_with fail
  refine (plain_9 _ _).mono ?_
  rintro e w' ⟨rfl, hb⟩
  go_wp2
  go_ret2
  exact ⟨rfl, hb⟩

/-- A Datum and a boolean as results. -/
theorem res_dat {fn : Func} {p u : Tmp} (h : fn.results = #[.cell p 28, .tmp u]) (tmps : Array Value) (w : World) (g : Nat) (cs : Array Value) (v : Value) (fr : Nat × Nat)
    (hp : tmps.getD p undef = .pointer (some ⟨g, 0, none⟩)) (hu : tmps.getD u undef = v) (hg : w.heap[g]? = some (.cells cs 28 fr)) (hs : cs.size = 13) :
    (results fn tmps).run Tryf.prog w = .ok (.tuple #[.agg cs, v]) w := by
  rw [results_cell_tmp h, hp, hu]
  have := run_loadVar_row (P := Tryf.prog) w g 28 28 cs fr _ hg Tryf.underlying28 rfl (by rw [hs]; kernel_rfl)
  simp only [asAddr, Sem.run_pure, Result.andThen_ok, this]

abbrev zeros28 : Array Value := #[.int .i64 0, .int .i64 0, .float .f64 0, .string ⟨#[]⟩, .bool false, .int .i64 0, .int .i64 0, .int .i64 0, .int .i64 0, .int .i64 0, .int .i64 0, .int .i64 0, .int .i64 0]

theorem size28 : (Tryf.prog.info? 28).map (·.size) = some 13 := by kernel_rfl

theorem bytesAt_new (w : World) (s : ByteArray) : BytesAt (Lib.bytesWorld w 5 s) w.heap.size s.data.toList := by
  intro j hj
  have hj' : j < s.size := by simpa using hj
  rw [Lib.bytesWorld_cell w 5 s j hj']
  rw [List.getD, List.getElem?_eq_getElem hj]; rfl

theorem below_bytes (w : World) (s : ByteArray) : Below w.heap.size w (Lib.bytesWorld w 5 s) :=
  ⟨rfl, rfl, rfl, by rw [Lib.bytesWorld_size]; omega, fun k hk => Lib.bytesWorld_at_old w 5 s k hk⟩

theorem textDecode2_str' (t : Int) (ht : t = 25 ∨ t = 1043 ∨ t = 1042) (g cap : Nat) (s : ByteArray) (w : World) (hc : BytesAt w g s.data.toList) :
    Calls Tryf.prog 7 #[.slice (some ⟨g, 0, none⟩) s.size cap, .int .u32 t] w fun e w' => e = .returned (.tuple #[.iface 9 (.string s), .nilIface]) ∧ Below w.heap.size w w' := by
  have h := textDecode2_str t ht g cap s.data.toList w hc
  simpa using h

theorem one28 (k : Int) (s : ByteArray) (b : Bool) : (#[.int .i64 k, .int .i64 0, .float .f64 0, .string s, .bool b, .int .i64 0, .int .i64 0, .int .i64 0, .int .i64 0, .int .i64 0, .int .i64 0, .int .i64 0, .int .i64 0] : Array Value).all (·.oneCell') = true := by kernel_rfl

theorem below_setRow {B : Nat} {a w : World} (h : Below B a w) {g : Nat} (hg : B ≤ g) (cs : Array Value) : Below B a (w.setRow g cs) :=
  h.trans ⟨rfl, rfl, rfl, by simp, fun k hk => by
    simp only [World.setRow, Array.getElem?_modify]
    rw [if_neg (by omega)]⟩

/-- Decoded, out of what TextDecode and datum do at its text. -/
theorem decoded_of (t : Int) (ht16 : (t == 16) = false) (s : ByteArray) (w : World) (k : Int) (r : ByteArray) (b : Bool)
    (h : ∀ W1 cap, s.size ≤ cap → w.heap.size + 1 < W1.heap.size → Below w.heap.size w W1 → BytesAt W1 (w.heap.size + 1) s.data.toList →
      Calls Tryf.prog 7 #[.slice (some ⟨w.heap.size + 1, 0, none⟩) s.size cap, .int .u32 t] W1 fun e W2 => ∃ v, e = .returned (.tuple #[v, .nilIface]) ∧ Below W1.heap.size W1 W2 ∧
        Calls Tryf.prog 6 #[v, .nilIface] W2 fun e W3 => e = .returned (.tuple #[dat k r b, .bool true]) ∧ Below W2.heap.size W2 W3) :
    Calls Tryf.prog 4 #[.int .u32 t, .string s] w fun e w' => e = .returned (.tuple #[dat k r b, .bool true]) ∧ Below w.heap.size w w' := by
  have hcv := fun W => Lib.run_convert_string_bytes (P := Tryf.prog) W 9 39 5 s Tryf.underlying9 Tryf.underlying39 Tryf.underlying5
  have HB := Lib.hid (bytesAt_new (w.alloc (.cells zeros28 28)) s)
  have HL := Lib.hid (below_bytes (w.alloc (.cells zeros28 28)) s)
  have HZ := Lib.hid ((below_bytes (w.alloc (.cells zeros28 28)) s).block w.heap.size (by simp))
  have HS := Lib.hid (Lib.bytesWorld_size (w.alloc (.cells zeros28 28)) 5 s)
  have HH := Lib.hid h
  clear h
  go_enter Tryf.func4, Tryf.ntmps4
  go_wp2_with fail
  have hB := HB.out; have hL := HL.out; have hZ := HZ.out; have hS := HS.out
  rw [heap_alloc_new] at hZ
  simp only [World.size_alloc] at hB hL hS
  generalize Lib.bytesWorld _ 5 s = W1 at hB hL hZ hS ⊢
  clear HB HL HZ HS hcv
  have HL := Lib.hid hL
  have HZ := Lib.hid hZ
  have HB := Lib.hid hB
  have HS := Lib.hid hS
  clear hL hZ hB hS
  have hb1 := Lib.hid (((Below.refl _ _).alloc (Nat.le_refl _) _).trans (HL.out.mono (by omega)) : Below w.heap.size w W1)
  refine (HH.out W1 _ (grownCap_ge _ _ _ _) (by have := HS.out; omega) hb1.out HB.out).mono ?_
  rintro e W2 ⟨v, rfl, hb2, h6⟩
  have HB2 := Lib.hid hb2
  have H6 := Lib.hid h6
  clear hb2 h6
  go_wp2_with fail
  refine H6.out.mono ?_
  rintro e W3 ⟨rfl, hb3⟩
  have hZ3 : W3.heap[w.heap.size]? = some (.cells zeros28 28 (0, 0)) := by
    rw [hb3.block _ (by have := HB2.out.size; have := HS.out; omega), HB2.out.block _ (by have := HS.out; omega), HZ.out]
  have hbW : Below w.heap.size w W3 :=
    hb1.out.trans ((HB2.out.mono hb1.out.size).trans (hb3.mono (Nat.le_trans hb1.out.size HB2.out.size)))
  have HZ3 := Lib.hid hZ3
  have HbW := Lib.hid hbW
  clear hZ3 hbW hb3
  go_wp2_with (refine wpList_store_row rfl 28 _ _ rfl w.heap.size #[.int .i64 k, .int .i64 0, .float .f64 0, .string r, .bool b, .int .i64 0, .int .i64 0, .int .i64 0, .int .i64 0, .int .i64 0, .int .i64 0, .int .i64 0, .int .i64 0] rfl rfl 28 zeros28 HZ3.out size28 rfl (one28 _ _ _) ?_)
  refine bodyPost_ret (res_dat (p := 4) (u := 5) Tryf.results4 _ _ w.heap.size _ (.bool true) (0, 0) rfl rfl (setRow_heap _ _ zeros28 _ 28 _ HZ3.out) rfl) rfl ⟨rfl, below_setRow HbW.out (Nat.le_refl _) _⟩

/-- Decoded of a boolean, out of what TextDecode and datum do at its text. -/
theorem decoded_of16 (s : ByteArray) (hs : s.size ≠ 0) (w : World) (k : Int) (r : ByteArray) (b : Bool)
    (h : ∀ W1 cap, s.size ≤ cap → w.heap.size + 1 < W1.heap.size → Below w.heap.size w W1 → BytesAt W1 (w.heap.size + 1) s.data.toList →
      Calls Tryf.prog 7 #[.slice (some ⟨w.heap.size + 1, 0, none⟩) s.size cap, (.int .u32 16)] W1 fun e W2 => ∃ v, e = .returned (.tuple #[v, .nilIface]) ∧ Below W1.heap.size W1 W2 ∧
        Calls Tryf.prog 6 #[v, .nilIface] W2 fun e W3 => e = .returned (.tuple #[dat k r b, .bool true]) ∧ Below W2.heap.size W2 W3) :
    Calls Tryf.prog 4 #[(.int .u32 16), .string s] w fun e w' => e = .returned (.tuple #[dat k r b, .bool true]) ∧ Below w.heap.size w w' := by
  have hs1 : s.toList.isEmpty = false := by
    rw [← decide_eq_emptyBytes]
    exact decide_eq_false (fun h => hs (by rw [h]; rfl))
  clear hs
  have hcv := fun W => Lib.run_convert_string_bytes (P := Tryf.prog) W 9 39 5 s Tryf.underlying9 Tryf.underlying39 Tryf.underlying5
  have HB := Lib.hid (bytesAt_new (w.alloc (.cells zeros28 28)) s)
  have HL := Lib.hid (below_bytes (w.alloc (.cells zeros28 28)) s)
  have HZ := Lib.hid ((below_bytes (w.alloc (.cells zeros28 28)) s).block w.heap.size (by simp))
  have HS := Lib.hid (Lib.bytesWorld_size (w.alloc (.cells zeros28 28)) 5 s)
  have HH := Lib.hid h
  clear h
  go_enter Tryf.func4, Tryf.ntmps4
  go_wp2_with fail
  have hB := HB.out; have hL := HL.out; have hZ := HZ.out; have hS := HS.out
  rw [heap_alloc_new] at hZ
  simp only [World.size_alloc] at hB hL hS
  generalize Lib.bytesWorld _ 5 s = W1 at hB hL hZ hS ⊢
  clear HB HL HZ HS hcv
  have HL := Lib.hid hL
  have HZ := Lib.hid hZ
  have HB := Lib.hid hB
  have HS := Lib.hid hS
  clear hL hZ hB hS
  have hb1 := Lib.hid (((Below.refl _ _).alloc (Nat.le_refl _) _).trans (HL.out.mono (by omega)) : Below w.heap.size w W1)
  refine (HH.out W1 _ (grownCap_ge _ _ _ _) (by have := HS.out; omega) hb1.out HB.out).mono ?_
  rintro e W2 ⟨v, rfl, hb2, h6⟩
  have HB2 := Lib.hid hb2
  have H6 := Lib.hid h6
  clear hb2 h6
  go_wp2_with fail
  refine H6.out.mono ?_
  rintro e W3 ⟨rfl, hb3⟩
  have hZ3 : W3.heap[w.heap.size]? = some (.cells zeros28 28 (0, 0)) := by
    rw [hb3.block _ (by have := HB2.out.size; have := HS.out; omega), HB2.out.block _ (by have := HS.out; omega), HZ.out]
  have hbW : Below w.heap.size w W3 :=
    hb1.out.trans ((HB2.out.mono hb1.out.size).trans (hb3.mono (Nat.le_trans hb1.out.size HB2.out.size)))
  have HZ3 := Lib.hid hZ3
  have HbW := Lib.hid hbW
  clear hZ3 hbW hb3
  go_wp2_with (refine wpList_store_row rfl 28 _ _ rfl w.heap.size #[.int .i64 k, .int .i64 0, .float .f64 0, .string r, .bool b, .int .i64 0, .int .i64 0, .int .i64 0, .int .i64 0, .int .i64 0, .int .i64 0, .int .i64 0, .int .i64 0] rfl rfl 28 zeros28 HZ3.out size28 rfl (one28 _ _ _) ?_)
  refine bodyPost_ret (res_dat (p := 4) (u := 5) Tryf.results4 _ _ w.heap.size _ (.bool true) (0, 0) rfl rfl (setRow_heap _ _ zeros28 _ 28 _ HZ3.out) rfl) rfl ⟨rfl, below_setRow HbW.out (Nat.le_refl _) _⟩

theorem decoded_str (t : Int) (ht : t = 25 ∨ t = 1043 ∨ t = 1042) (s : ByteArray) (w : World) :
    Calls Tryf.prog 4 #[.int .u32 t, .string s] w fun e w' => e = .returned (.tuple #[dat 3 s false, .bool true]) ∧ Below w.heap.size w w' :=
  decoded_of t (by rcases ht with rfl | rfl | rfl <;> rfl) s w 3 s false fun W1 cap _ _ _ hB =>
    (textDecode2_str' t ht _ cap s W1 hB).mono fun _ W2 ⟨he, hb⟩ => ⟨_, he, hb, datum_str s W2⟩

/-- The booleans t and f. -/
theorem textDecode_bool (b : Bool) (g cap : Nat) (w : World) (hc : w.cell? ⟨g, 0, none⟩ = some (.int .u8 (if b then 116 else 102))) :
    Calls Tryf.prog 7 #[.slice (some ⟨g, 0, none⟩) 1 cap, .int .u32 16] w fun e w' => e = .returned (.tuple #[.iface 4 (.bool b), .nilIface]) ∧ Below w.heap.size w w' := by
  have h8 : Calls Tryf.prog 8 #[.pointer none, .slice (some ⟨g, 0, none⟩) 1 cap, .int .u32 16] w fun e w' => e = .returned (.tuple #[.iface 4 (.bool b), .nilIface]) ∧ w = w' := by
    cases b
    all_goals
      simp only [if_true, if_false, Bool.false_eq_true] at hc
      go_enter Tryf.func8, Tryf.ntmps8
      go_wp2
      go_ret2
      exact ⟨rfl, rfl⟩
  have H8 := Lib.hid h8
  clear hc h8
  generalize (Value.slice (some ⟨g, 0, none⟩) 1 cap) = v at H8 ⊢
  go_enter Tryf.func7, Tryf.ntmps7
  go_wp2_with fail
  refine H8.out.mono ?_
  rintro e w' ⟨rfl, rfl⟩
  go_wp2_with fail
  refine (plain_4 _ _).mono ?_
  rintro e w' ⟨rfl, hb⟩
  go_wp2
  go_ret2
  exact ⟨rfl, hb⟩

def letter (b : Bool) : ByteArray := ⟨#[if b then 116 else 102]⟩
theorem decoded_bool (b : Bool) (w : World) :
    Calls Tryf.prog 4 #[.int .u32 16, .string (letter b)] w fun e w' => e = .returned (.tuple #[dat 5 ⟨#[]⟩ b, .bool true]) ∧ Below w.heap.size w w' :=
  decoded_of16 (letter b) (by show 1 ≠ 0; decide) w 5 ⟨#[]⟩ b fun W1 cap _ _ _ hB =>
    (textDecode_bool b _ cap W1 (by
      have := hB 0 (by cases b <;> decide)
      rw [this]
      cases b <;> rfl)).mono fun _ W2 ⟨he, hb⟩ => ⟨_, he, hb, datum_bool b W2⟩
end Go.Proofs.YtblcdamlkphldaaFmt
