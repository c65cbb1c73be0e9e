/- Walks of the law FnDecodedText: the small functions of the thin package and the package (datum, plain, textDecode). -/
import Derived.Test.YtblcdamlkphldaaFmtProg
import Derived.WalkKit
import Derived.WalkSpells
import Derived.WalkLawsBesides
import Derived.Outline
import Derived.Lib.Hide
import Derived.Lib.ConvBytes
import Derived.Handy
namespace Go.Proofs.YtblcdamlkphldaaFmt
open Go.RowKit

/- A type switch over a string, over bytes, over a boolean. -/
@[go_sem] theorem as9_2 (v : Value) (w : World) : (Instr.typeAssert (.iface 9 v) 20 2 true).run Tryf.prog w = .ok (.tuple #[.int .i64 0, .bool false]) w := by kernel_rfl
@[go_sem] theorem as9_24 (v : Value) (w : World) : (Instr.typeAssert (.iface 9 v) 20 24 true).run Tryf.prog w = .ok (.tuple #[.float .f64 0, .bool false]) w := by kernel_rfl
@[go_sem] theorem as9_9 (v : Value) (w : World) : (Instr.typeAssert (.iface 9 v) 20 9 true).run Tryf.prog w = .ok (.tuple #[v, .bool true]) w := by kernel_rfl
@[go_sem] theorem as9_51 (v : Value) (w : World) : (Instr.typeAssert (.iface 9 v) 20 51 true).run Tryf.prog w = .ok (.tuple #[.agg #[.int .i64 0, .int .i64 0, .int .i64 0], .bool false]) w := by kernel_rfl
@[go_sem] theorem as39_2 (v : Value) (w : World) : (Instr.typeAssert (.iface 39 v) 20 2 true).run Tryf.prog w = .ok (.tuple #[.int .i64 0, .bool false]) w := by kernel_rfl
@[go_sem] theorem as39_24 (v : Value) (w : World) : (Instr.typeAssert (.iface 39 v) 20 24 true).run Tryf.prog w = .ok (.tuple #[.float .f64 0, .bool false]) w := by kernel_rfl
@[go_sem] theorem as39_9 (v : Value) (w : World) : (Instr.typeAssert (.iface 39 v) 20 9 true).run Tryf.prog w = .ok (.tuple #[.string ⟨#[]⟩, .bool false]) w := by kernel_rfl
@[go_sem] theorem as39_39 (v : Value) (w : World) : (Instr.typeAssert (.iface 39 v) 20 39 true).run Tryf.prog w = .ok (.tuple #[v, .bool true]) w := by kernel_rfl
@[go_sem] theorem as39_51 (v : Value) (w : World) : (Instr.typeAssert (.iface 39 v) 20 51 true).run Tryf.prog w = .ok (.tuple #[.agg #[.int .i64 0, .int .i64 0, .int .i64 0], .bool false]) w := by kernel_rfl
@[go_sem] theorem as4_2 (v : Value) (w : World) : (Instr.typeAssert (.iface 4 v) 20 2 true).run Tryf.prog w = .ok (.tuple #[.int .i64 0, .bool false]) w := by kernel_rfl
@[go_sem] theorem as4_24 (v : Value) (w : World) : (Instr.typeAssert (.iface 4 v) 20 24 true).run Tryf.prog w = .ok (.tuple #[.float .f64 0, .bool false]) w := by kernel_rfl
@[go_sem] theorem as4_9 (v : Value) (w : World) : (Instr.typeAssert (.iface 4 v) 20 9 true).run Tryf.prog w = .ok (.tuple #[.string ⟨#[]⟩, .bool false]) w := by kernel_rfl
@[go_sem] theorem as4_39 (v : Value) (w : World) : (Instr.typeAssert (.iface 4 v) 20 39 true).run Tryf.prog w = .ok (.tuple #[.slice none 0 0, .bool false]) w := by kernel_rfl
@[go_sem] theorem as4_4 (v : Value) (w : World) : (Instr.typeAssert (.iface 4 v) 20 4 true).run Tryf.prog w = .ok (.tuple #[v, .bool true]) w := by kernel_rfl
@[go_sem] theorem as4_51 (v : Value) (w : World) : (Instr.typeAssert (.iface 4 v) 20 51 true).run Tryf.prog w = .ok (.tuple #[.agg #[.int .i64 0, .int .i64 0, .int .i64 0], .bool false]) w := by kernel_rfl
@[go_sem] theorem run_store_float (P : Program) (w : World) (a : Addr) (m : Mode) (k : FloatKind) (b : Nat) : (store a (.float k b) m).run P w = stored P w a (.float k b) m := run_store P w a _ m rfl

/-- A Datum without a number and a time. -/
abbrev dat (k : Int) (s : ByteArray) (b : Bool) : Value := .agg #[.int .i64 k, .int .i64 0, .float .f64 0, .string s, .bool b, .int .i64 0, .int .i64 0, .int .i64 0, .int .i64 0, .int .i64 0, .int .i64 0, .int .i64 0, .int .i64 0]

theorem datum_str (s : ByteArray) (w : World) :
    Calls Tryf.prog 6 #[.iface 9 (.string s), .nilIface] w fun e w' => e = .returned (.tuple #[dat 3 s false, .bool true]) ∧ Below w.heap.size w w' := by
  go_enter Tryf.func6, Tryf.ntmps6
  go_wp2
  exact bodyPost_ret (v := .tuple #[dat 3 s false, .bool true]) (by simp [results, Tryf.results6, go_sem]) rfl ⟨rfl, (Below.refl _ _).alloc (Nat.le_refl _) _⟩

theorem datum_bool (b : Bool) (w : World) :
    Calls Tryf.prog 6 #[.iface 4 (.bool b), .nilIface] w fun e w' => e = .returned (.tuple #[dat 5 ⟨#[]⟩ b, .bool true]) ∧ Below w.heap.size w w' := by
  go_enter Tryf.func6, Tryf.ntmps6
  go_wp2
  exact bodyPost_ret (v := .tuple #[dat 5 ⟨#[]⟩ b, .bool true]) (by simp [results, Tryf.results6, go_sem]) rfl ⟨rfl, (Below.refl _ _).alloc (Nat.le_refl _) _⟩

/-- Bytes that lie at the head of a block. -/
def BytesAt (w : World) (g : Nat) (l : List UInt8) : Prop := ∀ j (hj : j < l.length), w.cell? ⟨g, j, none⟩ = some (.int .u8 (l[j].toNat : Int))

theorem back (w : World) (g : Nat) (cap : Nat) (l : List UInt8) (h : BytesAt w g l) :
    (convert 39 9 (.slice (some ⟨g, 0, none⟩) l.length cap)).run Tryf.prog w = .ok (.string ⟨l.toArray⟩) w :=
  run_convert_bytes_back w 39 9 5 ⟨g, 0, none⟩ cap l Tryf.underlying39 Tryf.underlying5 Tryf.underlying9 (fun j hj => by
    have := h j hj
    unfold Addr.add
    by_cases h0 : j = 0
    · subst h0; simpa using this
    · simpa [h0] using this)

theorem datum_bytes (g cap : Nat) (l : List UInt8) (w : World) (hc : BytesAt w g l) :
    Calls Tryf.prog 6 #[.iface 39 (.slice (some ⟨g, 0, none⟩) l.length cap), .nilIface] w fun e w' => e = .returned (.tuple #[dat 4 ⟨l.toArray⟩ false, .bool true]) ∧ Below w.heap.size w w' := by
  have hcv := back (w.alloc (.cells #[.int .i64 0, .int .i64 0, .float .f64 0, .string ⟨#[]⟩, .bool false, .int .i64 0, .int .i64 0, .int .i64 0, .int .i64 0, .int .i64 0, .int .i64 0, .int .i64 0, .int .i64 0] 28)) g cap l (by
    intro j hj
    have := hc j hj
    rw [← this]
    apply World.cell?_alloc_lt
    simp [World.cell?] at this
    rcases Nat.lt_or_ge g w.heap.size with h | h
    · exact h
    · simp [Array.getElem?_eq_none h] at this)
  clear hc
  generalize (Value.slice (some ⟨g, 0, none⟩) l.length cap) = v at hcv ⊢
  go_enter Tryf.func6, Tryf.ntmps6
  go_wp2
  exact bodyPost_ret (v := .tuple #[dat 4 ⟨l.toArray⟩ false, .bool true]) (by simp [results, Tryf.results6, go_sem]) rfl ⟨rfl, (Below.refl _ _).alloc (Nat.le_refl _) _⟩

theorem textDecode_str (t : Int) (ht : t = 25 ∨ t = 1043 ∨ t = 1042) (g cap : Nat) (l : List UInt8) (w : World) (hc : BytesAt w g l) :
    Calls Tryf.prog 8 #[.pointer none, .slice (some ⟨g, 0, none⟩) l.length cap, .int .u32 t] w fun e w' => e = .returned (.tuple #[.iface 9 (.string ⟨l.toArray⟩), .nilIface]) ∧ w = w' := by
  have hcv := back w g cap l hc
  clear hc
  generalize (Value.slice (some ⟨g, 0, none⟩) l.length cap) = v at hcv ⊢
  rcases ht with rfl | rfl | rfl
  all_goals
    go_enter Tryf.func8, Tryf.ntmps8
    go_wp2
    go_ret2
    exact ⟨rfl, rfl⟩

/-- plain: what is no time stays. -/
theorem plain_9 (v : Value) (w : World) : Calls Tryf.prog 9 #[.iface 9 v] w fun e w' => e = .returned (.iface 9 v) ∧ Below w.heap.size w w' := by
  go_enter Tryf.func9, Tryf.ntmps9
  go_wp2
  go_ret
  exact ⟨rfl, (Below.refl _ _).alloc (Nat.le_refl _) _⟩
theorem plain_39 (v : Value) (w : World) : Calls Tryf.prog 9 #[.iface 39 v] w fun e w' => e = .returned (.iface 39 v) ∧ Below w.heap.size w w' := by
  go_enter Tryf.func9, Tryf.ntmps9
  go_wp2
  go_ret
  exact ⟨rfl, (Below.refl _ _).alloc (Nat.le_refl _) _⟩
theorem plain_4 (v : Value) (w : World) : Calls Tryf.prog 9 #[.iface 4 v] w fun e w' => e = .returned (.iface 4 v) ∧ Below w.heap.size w w' := by
  go_enter Tryf.func9, Tryf.ntmps9
  go_wp2
  go_ret
  exact ⟨rfl, (Below.refl _ _).alloc (Nat.le_refl _) _⟩
end Go.Proofs.YtblcdamlkphldaaFmt
