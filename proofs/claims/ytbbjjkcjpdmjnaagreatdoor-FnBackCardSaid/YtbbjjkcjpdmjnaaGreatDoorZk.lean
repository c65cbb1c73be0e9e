/- Words and small walks of the law FnBack: literals of arrays, and what a slice of bytes reads as. -/
import Derived.Test.YtbbjjkcjpdmjnaaGreatDoorZj
import Derived.Lib.SlBytesConst
namespace Go.Proofs.YtbbjjkcjpdmjnaaGreatDoor
open Go.RowKit

/-- An element of a literal: bare, or in quotes. -/
inductive Tok where
  | bare (b : List UInt8)
  | quoted (b : List UInt8)
def Tok.val : Tok → List UInt8
  | .bare b => b
  | .quoted b => b
/-- A backslash ahead of quotes and backslashes. -/
def esc : List UInt8 → List UInt8
  | [] => []
  | c :: r => if c = 34 ∨ c = 92 then 92 :: c :: esc r else c :: esc r
def Tok.enc : Tok → List UInt8
  | .bare b => b
  | .quoted b => 34 :: (esc b ++ [34])
/-- What stands behind an element. -/
def tl : List Tok → List UInt8
  | [] => [125]
  | t :: r => 44 :: (t.enc ++ tl r)
/-- The literal of one element or more. -/
def lit (t : Tok) (r : List Tok) : List UInt8 := 123 :: (t.enc ++ tl r)
/-- A byte that may stand in a bare element. -/
def Plain (c : UInt8) : Prop := c ≠ 44 ∧ c ≠ 125 ∧ c ≠ 123 ∧ c ≠ 34 ∧ c ≠ 78
def Tok.Ok : Tok → Prop
  | .bare b => b ≠ [] ∧ ∀ c ∈ b, Plain c
  | .quoted _ => True

theorem esc_append (a b : List UInt8) : esc (a ++ b) = esc a ++ esc b := by
  induction a with
  | nil => rfl
  | cons c a ih =>
    rw [List.cons_append, esc, esc, ih]
    split <;> rfl
theorem esc_length (a : List UInt8) : (esc a).length ≤ 2 * a.length := by
  induction a with
  | nil => exact Nat.le_refl _
  | cons c a ih =>
    rw [esc]
    split <;> simp only [List.length_cons] <;> omega

/-- A slice value that reads as bytes, in a block of bytes. -/
def Elem (w : World) (v : Value) (l : List UInt8) : Prop :=
  ∃ g off c cs fz, v = .slice (some ⟨g, off, none⟩) l.length c ∧ l.length ≤ c ∧ w.heap[g]? = some (.cells cs 5 fz) ∧ ∀ j (h : j < l.length), cs[off + j]? = some (.int .u8 (l[j].toNat : Int))
/-- Blocks of bytes are as they were. -/
def Keeps5 (w w' : World) : Prop := ∀ (k : Nat) c fz, w.heap[k]? = some (.cells c 5 fz) → w'.heap[k]? = some (.cells c 5 fz)
theorem Keeps5.refl (w : World) : Keeps5 w w := fun _ _ _ h => h
theorem Keeps5.trans {a b c : World} (h : Keeps5 a b) (k : Keeps5 b c) : Keeps5 a c := fun i x z hx => k i x z (h i x z hx)
theorem Keeps5.below {w w' : World} (h : Below w.heap.size w w') : Keeps5 w w' := fun k c fz hk => (h.block k (by
  rcases Nat.lt_or_ge k w.heap.size with h' | h'
  · exact h'
  · rw [Array.getElem?_eq_none h'] at hk; cases hk)).trans hk
theorem Keeps5.grown {w w' : World} {v : Value} {B e n : Nat} {size : Nat} {xs : List Value} (hg : w.grownBy w' v.ownBlock) (ho : w.ownsRow B e size v n xs) (he : e ≠ 5) : Keeps5 w w' := fun k c fz hk => by
  have hlt : k < w.heap.size := by
    rcases Nat.lt_or_ge k w.heap.size with h' | h'
    · exact h'
    · rw [Array.getElem?_eq_none h'] at hk; cases hk
  refine (hg.block k hlt (fun h2 => ?_)).trans hk
  obtain ⟨c2, fz2, h3⟩ := Lib.ownsRow_kind ho k h2.symm
  rw [hk] at h3
  injection h3 with h3
  injection h3 with _ h4
  exact he h4.symm
theorem Keeps5.setCell {w : World} {g i : Nat} {cs : Array Value} {T : TypeId} {fz0 : Nat × Nat} (h : w.heap[g]? = some (.cells cs T fz0)) (hT : T ≠ 5) (v : Value) : Keeps5 w (w.setCell ⟨g, i, none⟩ v) := fun k c fz hk => by
  have hne : g ≠ k := fun e => by
    subst e
    rw [h] at hk
    injection hk with hk
    injection hk with _ h4
    exact hT h4
  rw [Below.heap_setCell _ _ _ _ (fun e => hne e.symm)]
  exact hk
theorem Elem.keep {w w' : World} {v : Value} {l : List UInt8} (h : Elem w v l) (k : Keeps5 w w') : Elem w' v l := by
  obtain ⟨g, off, c, cs, fz, h1, h2, h3, h4⟩ := h
  exact ⟨g, off, c, cs, fz, h1, h2, k g cs fz h3, h4⟩
theorem Elem.cell {w : World} {g off c : Nat} {l : List UInt8} {n : Nat} (h : Elem w (.slice (some ⟨g, off, none⟩) n c) l) : n = l.length ∧ l.length ≤ c ∧ ∀ j (h : j < l.length), w.cell? ⟨g, off + j, none⟩ = some (.int .u8 (l[j].toNat : Int)) := by
  obtain ⟨g', off', c', cs, fz, h1, h2, h3, h4⟩ := h
  injection h1 with h5 h6 h7
  injection h5 with h5
  injection h5 with h8 h9
  subst h8 h9 h6 h7
  refine ⟨rfl, h2, fun j hj => ?_⟩
  rw [cell_of_row _ _ _ _ _ _ h3]
  exact h4 j hj
theorem Elem.form {w : World} {v : Value} {l : List UInt8} (h : Elem w v l) : ∃ g off c, v = .slice (some ⟨g, off, none⟩) l.length c ∧ l.length ≤ c ∧ ∀ j (h : j < l.length), w.cell? ⟨g, off + j, none⟩ = some (.int .u8 (l[j].toNat : Int)) := by
  obtain ⟨g, off, c, cs, fz, h1, h2, h3, h4⟩ := h
  refine ⟨g, off, c, h1, h2, fun j hj => ?_⟩
  rw [cell_of_row _ _ _ _ _ _ h3]
  exact h4 j hj
/-- The bytes as a string. -/
theorem Elem.string {w : World} {v : Value} {l : List UInt8} (h : Elem w v l) : (convert 50 9 v).run Tryz.prog w = .ok (.string ⟨l.toArray⟩) w := by
  obtain ⟨g, off, c, rfl, _, h4⟩ := h.form
  exact run_convert_bytes_back w 50 9 5 ⟨g, off, none⟩ c l Tryz.underlying50 Tryz.underlying5 Tryz.underlying9 (fun j hj => by
    rw [Lib.add_plain]
    exact h4 j hj)
/-- A part of a slice. -/
theorem Elem.part {w : World} {g off c n : Nat} {l : List UInt8} (h : Elem w (.slice (some ⟨g, off, none⟩) n c) l) (i : Nat) (m : List UInt8) (hm : m <+: l.drop i) (c' : Nat) (hc : m.length ≤ c') : Elem w (.slice (some ⟨g, off + i, none⟩) m.length c') m := by
  obtain ⟨g', off', c', cs, fz, h1, h2, h3, h4⟩ := h
  injection h1 with h5 h6 h7
  injection h5 with h5
  injection h5 with h8 h9
  subst h8 h9 h6 h7
  refine ⟨g, off + i, _, cs, fz, rfl, hc, h3, fun j hj => ?_⟩
  have hl := hm.length_le
  rw [List.length_drop] at hl
  have e : m[j] = l[i + j]'(by omega) := by
    have := List.IsPrefix.getElem hm hj
    rw [this, List.getElem_drop]
  rw [Nat.add_assoc, e]
  exact h4 (i + j) (by omega)

/-- Slice values that read as texts. -/
def Elems (w : World) (xs : List Value) (ls : List (List UInt8)) : Prop := xs.length = ls.length ∧ ∀ (j : Nat) (v : Value) (l : List UInt8), xs[j]? = some v → ls[j]? = some l → Elem w v l
theorem Elems.keep {w w' : World} {xs : List Value} {ls : List (List UInt8)} (h : Elems w xs ls) (k : Keeps5 w w') : Elems w' xs ls := ⟨h.1, fun j v l hv hl => (h.2 j v l hv hl).keep k⟩
theorem Elems.nil (w : World) : Elems w [] [] := ⟨rfl, fun j v l hv _ => by simp at hv⟩
theorem Elems.snoc {w : World} {xs : List Value} {ls : List (List UInt8)} (h : Elems w xs ls) {v : Value} {l : List UInt8} (he : Elem w v l) : Elems w (xs ++ [v]) (ls ++ [l]) := by
  refine ⟨by simp [h.1], fun j v' l' hv hl => ?_⟩
  rcases Nat.lt_or_ge j xs.length with hj | hj
  · rw [List.getElem?_append_left hj] at hv
    rw [List.getElem?_append_left (by rw [← h.1]; exact hj)] at hl
    exact h.2 j v' l' hv hl
  · rw [List.getElem?_append_right hj] at hv
    rw [List.getElem?_append_right (by rw [← h.1]; exact hj), ← h.1] at hl
    obtain h0 | h0 : j - xs.length = 0 ∨ 1 ≤ j - xs.length := by omega
    · rw [h0] at hv hl
      cases hv; cases hl
      exact he
    · rw [List.getElem?_eq_none (by simpa using h0)] at hv
      cases hv

theorem conv_one (w : World) (g i c : Nat) (b : UInt8) (h : w.cell? ⟨g, i, none⟩ = some (.int .u8 (b.toNat : Int))) : (convert 50 9 (.slice (some ⟨g, i, none⟩) 1 c)).run Tryz.prog w = .ok (.string ⟨#[b]⟩) w :=
  run_convert_bytes_back w 50 9 5 ⟨g, i, none⟩ c [b] Tryz.underlying50 Tryz.underlying5 Tryz.underlying9 (fun j hj => by
    have : j = 0 := by simp at hj; omega
    subst this
    exact h)

theorem begins_yes (g i m c gd cd : Nat) (w : World) (hm : 1 ≤ m) (hmc : m ≤ c) (h : w.cell? ⟨g, i, none⟩ = some (.int .u8 44)) (hd : w.cell? ⟨gd, 0, none⟩ = some (.int .u8 44)) :
    Calls Tryz.prog 73 #[.slice (some ⟨g, i, none⟩) m c, .slice (some ⟨gd, 0, none⟩) 1 cd] w fun e w' => e = .returned (.bool true) ∧ ∃ n, w' = w.drewN n := by
  have c1 := fun n => conv_one (w.drewN n) g i c 44 h
  have c2 := fun n => conv_one (w.drewN n) gd 0 cd 44 hd
  have hdm : decide (1 ≤ m) = true := decide_eq_true hm
  have hdm2 : decide ((1 : Int) ≤ (m : Int)) = true := decide_eq_true (by omega)
  go_enter Tryz.func73, Tryz.ntmps73
  go_wp2
  go_quiet (fail)
  go_wp2
  go_ret
  exact ⟨rfl, _, rfl⟩
theorem begins_no (g i m c gd cd : Nat) (b : UInt8) (w : World) (hb : b ≠ 44) (hm : 1 ≤ m) (hmc : m ≤ c) (h : w.cell? ⟨g, i, none⟩ = some (.int .u8 (b.toNat : Int))) (hd : w.cell? ⟨gd, 0, none⟩ = some (.int .u8 44)) :
    Calls Tryz.prog 73 #[.slice (some ⟨g, i, none⟩) m c, .slice (some ⟨gd, 0, none⟩) 1 cd] w fun e w' => e = .returned (.bool false) ∧ ∃ n, w' = w.drewN n := by
  have c1 := fun n => conv_one (w.drewN n) g i c b h
  have c2 := fun n => conv_one (w.drewN n) gd 0 cd 44 hd
  have hne : ((⟨#[b]⟩ : ByteArray).toList == [44]) = false := by
    have e : (⟨#[b]⟩ : ByteArray).toList = [b] := by
      rw [Lib.toList_data]
    rw [e]
    simpa using hb
  generalize (⟨#[b]⟩ : ByteArray) = s at *
  have hdm : decide (1 ≤ m) = true := decide_eq_true hm
  have hdm2 : decide ((1 : Int) ≤ (m : Int)) = true := decide_eq_true (by omega)
  go_enter Tryz.func73, Tryz.ntmps73
  go_wp2
  go_quiet (fail)
  go_wp2
  go_ret
  exact ⟨rfl, _, rfl⟩
end Go.Proofs.YtbbjjkcjpdmjnaaGreatDoor
