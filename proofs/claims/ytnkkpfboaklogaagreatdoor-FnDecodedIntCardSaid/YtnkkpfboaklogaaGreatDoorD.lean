/- Walks of the law FnDecodedInt: the small functions (datum, plain, textDecode, TextDecode) and Decoded at the numeral of a number. -/
import Derived.Test.YtnkkpfboaklogaaGreatDoorB
import Derived.Laws.Rows
import Derived.Laws.Tables
import Derived.Laws.ResultCell
namespace Go.Proofs.YtnkkpfboaklogaaGreatDoor
open Go.RowKit

@[go_sem] theorem as2_2 (v : Value) (w : World) : (Instr.typeAssert (.iface 2 v) 20 2 true).run Tryz.prog w = .ok (.tuple #[v, .bool true]) w := by kernel_rfl
@[go_sem] theorem as2_52 (v : Value) (w : World) : (Instr.typeAssert (.iface 2 v) 20 52 true).run Tryz.prog w = .ok (.tuple #[.agg #[.int .i64 0, .int .i64 0, .int .i64 0], .bool false]) w := by kernel_rfl
@[go_sem] theorem run_store_float (P : Program) (w : World) (a : Addr) (m : Mode) (k : FloatKind) (b : Nat) : (store a (.float k b) m).run P w = stored P w a (.float k b) m := run_store P w a _ m rfl

/-- A Datum of a whole number. -/
abbrev dat (n : Int) : Value := .agg #[.int .i64 1, .int .i64 n, .float .f64 0, .string ⟨#[]⟩, .bool false, .int .i64 0, .int .i64 0, .int .i64 0, .int .i64 0, .int .i64 0, .int .i64 0, .int .i64 0, .int .i64 0]

theorem datum_int (n : Int) (w : World) :
    Calls Tryz.prog 6 #[.iface 2 (.int .i64 n), .nilIface] w fun e w' => e = .returned (.tuple #[dat n, .bool true]) ∧ Below w.heap.size w w' := by
  go_enter Tryz.func6, Tryz.ntmps6
  go_wp2
  exact bodyPost_ret (v := .tuple #[dat n, .bool true]) (by simp [results, Tryz.results6, go_sem]) rfl ⟨rfl, (Below.refl _ _).alloc (Nat.le_refl _) _⟩

theorem plain_2 (v : Value) (w : World) : Calls Tryz.prog 10 #[.iface 2 v] w fun e w' => e = .returned (.iface 2 v) ∧ Below w.heap.size w w' := by
  go_enter Tryz.func10, Tryz.ntmps10
  go_wp2
  go_ret
  exact ⟨rfl, (Below.refl _ _).alloc (Nat.le_refl _) _⟩

/-- Bytes that lie at the head of a block. -/
def BytesAt (w : World) (g : Nat) (l : List UInt8) : Prop := ∀ j (hj : j < l.length), w.cell? ⟨g, j, none⟩ = some (.int .u8 (l[j].toNat : Int))

theorem back (w : World) (g : Nat) (cap : Nat) (l : List UInt8) (h : BytesAt w g l) :
    (convert 40 9 (.slice (some ⟨g, 0, none⟩) l.length cap)).run Tryz.prog w = .ok (.string ⟨l.toArray⟩) w :=
  run_convert_bytes_back w 40 9 5 ⟨g, 0, none⟩ cap l Tryz.underlying40 Tryz.underlying5 Tryz.underlying9 (fun j hj => by
    have := h j hj
    unfold Addr.add
    by_cases h0 : j = 0
    · subst h0; simpa using this
    · simpa [h0] using this)

theorem textDecode_int (t : Int) (ht : t = 20 ∨ t = 23 ∨ t = 21) (n : Int) (h0 : -9223372036854775808 ≤ n) (h1 : n ≤ 9223372036854775807) (g cap : Nat) (w : World) (hc : BytesAt w g (Lib.itoa n)) :
    Calls Tryz.prog 9 #[.pointer none, .slice (some ⟨g, 0, none⟩) (Lib.itoa n).length cap, .int .u32 t] w fun e w' => e = .returned (.tuple #[.iface 2 (.int .i64 n), .nilIface]) ∧ Below w.heap.size w w' := by
  have hcv := back w g cap (Lib.itoa n) hc
  have H := Lib.hid (publicParseInt n h0 h1 w)
  clear hc h0 h1
  generalize (Value.slice (some ⟨g, 0, none⟩) (Lib.itoa n).length cap) = v at hcv ⊢
  generalize (⟨(Lib.itoa n).toArray⟩ : ByteArray) = s at hcv H
  rcases ht with rfl | rfl | rfl
  all_goals
    go_enter Tryz.func9, Tryz.ntmps9
    go_wp2_with fail
    refine H.out.mono ?_
    rintro e w1 ⟨rfl, hb⟩
    have Hb := Lib.hid hb
    clear hb hcv H
    go_wp2
    go_ret2
    exact ⟨rfl, Hb.out⟩

theorem textDecode2_int (t : Int) (ht : t = 20 ∨ t = 23 ∨ t = 21) (n : Int) (h0 : -9223372036854775808 ≤ n) (h1 : n ≤ 9223372036854775807) (g cap : Nat) (w : World) (hc : BytesAt w g (Lib.itoa n)) :
    Calls Tryz.prog 7 #[.slice (some ⟨g, 0, none⟩) (Lib.itoa n).length cap, .int .u32 t] w fun e w' => e = .returned (.tuple #[.iface 2 (.int .i64 n), .nilIface]) ∧ Below w.heap.size w w' := by
  have h8 := Lib.hid (textDecode_int t ht n h0 h1 g cap w hc)
  clear hc ht h0 h1
  generalize (Value.slice (some ⟨g, 0, none⟩) (Lib.itoa n).length cap) = v at h8 ⊢
  go_enter Tryz.func7, Tryz.ntmps7
  go_wp2_with fail
  refine h8.out.mono ?_
  rintro e w1 ⟨rfl, hb1⟩
  have Hb1 := Lib.hid hb1
  clear hb1
  go_wp2_with fail
  refine (plain_2 _ _).mono ?_
  rintro e w2 ⟨rfl, hb⟩
  have Hb2 := Lib.hid (Hb1.out.trans (hb.mono Hb1.out.size))
  clear hb
  go_wp2
  go_ret2
  exact ⟨rfl, Hb2.out⟩

/-- A Datum and a boolean as results. -/
theorem res_dat {fn : Func} {p u : Tmp} (h : fn.results = #[.cell p 29, .tmp u]) (tmps : Array Value) (w : World) (g : Nat) (cs : Array Value) (v : Value) (fr : Nat × Nat)
    (hp : tmps.getD p undef = .pointer (some ⟨g, 0, none⟩)) (hu : tmps.getD u undef = v) (hg : w.heap[g]? = some (.cells cs 29 fr)) (hs : cs.size = 13) :
    (results fn tmps).run Tryz.prog w = .ok (.tuple #[.agg cs, v]) w := by
  rw [results_cell_tmp h, hp, hu]
  have := run_loadVar_row (P := Tryz.prog) w g 29 29 cs fr _ hg Tryz.underlying29 rfl (by rw [hs]; kernel_rfl)
  simp only [asAddr, Sem.run_pure, Result.andThen_ok, this]

abbrev zeros29 : Array Value := #[.int .i64 0, .int .i64 0, .float .f64 0, .string ⟨#[]⟩, .bool false, .int .i64 0, .int .i64 0, .int .i64 0, .int .i64 0, .int .i64 0, .int .i64 0, .int .i64 0, .int .i64 0]

theorem size29 : (Tryz.prog.info? 29).map (·.size) = some 13 := by kernel_rfl

theorem bytesAt_new (w : World) (s : ByteArray) : BytesAt (Lib.bytesWorld w 5 s) w.heap.size s.data.toList := by
  intro j hj
  have hj' : j < s.size := by simpa using hj
  rw [Lib.bytesWorld_cell w 5 s j hj']
  rw [List.getD, List.getElem?_eq_getElem hj]; rfl

theorem one29 (n : Int) : (#[.int .i64 1, .int .i64 n, .float .f64 0, .string ⟨#[]⟩, .bool false, .int .i64 0, .int .i64 0, .int .i64 0, .int .i64 0, .int .i64 0, .int .i64 0, .int .i64 0, .int .i64 0] : Array Value).all (·.oneCell') = true := by kernel_rfl

theorem below_setRow {B : Nat} {a w : World} (h : Below B a w) {g : Nat} (hg : B ≤ g) (cs : Array Value) : Below B a (w.setRow g cs) :=
  h.trans ⟨rfl, rfl, rfl, by simp, fun k hk => by
    simp only [World.setRow, Array.getElem?_modify]
    rw [if_neg (by omega)]⟩

/-- Decoded, out of what TextDecode and datum do at its text. -/
theorem decoded_of (t : Int) (ht16 : (t == 16) = false) (s : ByteArray) (w : World) (n : Int)
    (h : ∀ W1 cap, s.size ≤ cap → w.heap.size + 1 < W1.heap.size → Below w.heap.size w W1 → BytesAt W1 (w.heap.size + 1) s.data.toList →
      Calls Tryz.prog 7 #[.slice (some ⟨w.heap.size + 1, 0, none⟩) s.size cap, .int .u32 t] W1 fun e W2 => ∃ v, e = .returned (.tuple #[v, .nilIface]) ∧ Below W1.heap.size W1 W2 ∧
        Calls Tryz.prog 6 #[v, .nilIface] W2 fun e W3 => e = .returned (.tuple #[dat n, .bool true]) ∧ Below W2.heap.size W2 W3) :
    Calls Tryz.prog 4 #[.int .u32 t, .string s] w fun e w' => e = .returned (.tuple #[dat n, .bool true]) ∧ Below w.heap.size w w' := by
  have hcv := fun W => Lib.run_convert_string_bytes (P := Tryz.prog) W 9 40 5 s Tryz.underlying9 Tryz.underlying40 Tryz.underlying5
  have HB := Lib.hid (bytesAt_new (w.alloc (.cells zeros29 29)) s)
  have HL := Lib.hid (below_bytes (w.alloc (.cells zeros29 29)) s)
  have HZ := Lib.hid ((below_bytes (w.alloc (.cells zeros29 29)) s).block w.heap.size (by simp))
  have HS := Lib.hid (Lib.bytesWorld_size (w.alloc (.cells zeros29 29)) 5 s)
  have HH := Lib.hid h
  clear h
  go_enter Tryz.func4, Tryz.ntmps4
  go_wp2_with fail
  have hB := HB.out; have hL := HL.out; have hZ := HZ.out; have hS := HS.out
  rw [heap_alloc_new] at hZ
  simp only [World.size_alloc] at hB hL hS
  generalize Lib.bytesWorld _ 5 s = W1 at hB hL hZ hS ⊢
  clear HB HL HZ HS hcv
  have HL := Lib.hid hL
  have HZ := Lib.hid hZ
  have HB := Lib.hid hB
  have HS := Lib.hid hS
  clear hL hZ hB hS
  have hb1 := Lib.hid (((Below.refl _ _).alloc (Nat.le_refl _) _).trans (HL.out.mono (by omega)) : Below w.heap.size w W1)
  refine (HH.out W1 _ (grownCap_ge _ _ _ _) (by have := HS.out; omega) hb1.out HB.out).mono ?_
  rintro e W2 ⟨v, rfl, hb2, h6⟩
  have HB2 := Lib.hid hb2
  have H6 := Lib.hid h6
  clear hb2 h6
  go_wp2_with fail
  refine H6.out.mono ?_
  rintro e W3 ⟨rfl, hb3⟩
  have hZ3 : W3.heap[w.heap.size]? = some (.cells zeros29 29 (0, 0)) := by
    rw [hb3.block _ (by have := HB2.out.size; have := HS.out; omega), HB2.out.block _ (by have := HS.out; omega), HZ.out]
  have hbW : Below w.heap.size w W3 :=
    hb1.out.trans ((HB2.out.mono hb1.out.size).trans (hb3.mono (Nat.le_trans hb1.out.size HB2.out.size)))
  have HZ3 := Lib.hid hZ3
  have HbW := Lib.hid hbW
  clear hZ3 hbW hb3
  go_wp2_with (refine wpList_store_row rfl 29 _ _ rfl w.heap.size #[.int .i64 1, .int .i64 n, .float .f64 0, .string ⟨#[]⟩, .bool false, .int .i64 0, .int .i64 0, .int .i64 0, .int .i64 0, .int .i64 0, .int .i64 0, .int .i64 0, .int .i64 0] rfl rfl 29 zeros29 HZ3.out size29 rfl (one29 _) ?_)
  refine bodyPost_ret (res_dat (p := 4) (u := 5) Tryz.results4 _ _ w.heap.size _ (.bool true) (0, 0) rfl rfl (setRow_heap _ _ zeros29 _ 29 _ HZ3.out) rfl) rfl ⟨rfl, below_setRow HbW.out (Nat.le_refl _) _⟩


theorem decoded_int (t : Int) (ht : t = 20 ∨ t = 23 ∨ t = 21) (n : Int) (h0 : -9223372036854775808 ≤ n) (h1 : n ≤ 9223372036854775807) (w : World) :
    Calls Tryz.prog 4 #[.int .u32 t, .string ⟨(Lib.itoa n).toArray⟩] w fun e w' => e = .returned (.tuple #[dat n, .bool true]) ∧ Below w.heap.size w w' :=
  decoded_of t (by rcases ht with rfl | rfl | rfl <;> rfl) ⟨(Lib.itoa n).toArray⟩ w n fun W1 cap _ _ _ hB =>
    (textDecode2_int t ht n h0 h1 _ cap W1 (by simpa using hB)).mono fun _ W2 ⟨he, hb⟩ => ⟨_, he, hb, datum_int n W2⟩
end Go.Proofs.YtnkkpfboaklogaaGreatDoor
