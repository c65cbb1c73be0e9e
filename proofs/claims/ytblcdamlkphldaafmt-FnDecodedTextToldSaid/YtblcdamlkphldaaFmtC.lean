/- Walks of the law FnDecodedText: the reference's hex format. -/
import Derived.Test.YtblcdamlkphldaaFmtB
import Derived.StillTailTactics
import Derived.Deep.AppendLies
import Derived.Deep.RegionHeld3
import Derived.Deep.RegionLawGrows
import Derived.ArgAppend
import Derived.Lib.SlBytesConst
namespace Go.Proofs.YtblcdamlkphldaaFmt
open Go.RowKit

/-- A hexadecimal digit. -/
def hd (n : Nat) : UInt8 := [48, 49, 50, 51, 52, 53, 54, 55, 56, 57, 97, 98, 99, 100, 101, 102].getD n 0
/-- Bytes as hexadecimal digits. -/
def hexs : List UInt8 → List UInt8
  | [] => []
  | c :: r => hd (c.toNat / 16) :: hd (c.toNat % 16) :: hexs r
theorem hexs_length (l : List UInt8) : (hexs l).length = 2 * l.length := by
  induction l with
  | nil => rfl
  | cons c r ih => simp [hexs, ih]; omega
theorem hexs_append (l r : List UInt8) : hexs (l ++ r) = hexs l ++ hexs r := by
  induction l with
  | nil => rfl
  | cons c l ih => simp [hexs, ih]

/-- The text of bytes in the hex format. -/
def hexText (l : List UInt8) : List UInt8 := [92, 120] ++ hexs l
theorem hexText_length (l : List UInt8) : (hexText l).length = 2 + 2 * l.length := by unfold hexText; rw [List.length_append, hexs_length]; rfl

/-- Bytes as cells. -/
abbrev cells8 (l : List UInt8) : List Value := l.map fun b => .int .u8 (b.toNat : Int)
theorem one8 (l : List UInt8) : ∀ u ∈ cells8 l, u.oneCell' = true := by
  intro u hu
  simp at hu
  obtain ⟨b, _, rfl⟩ := hu
  rfl
theorem info5 : (Tryf.prog.info? 5).map (fun i => (i.zero, i.size, i.bytes)) = some (some (.int .u8 0), 1, 1) := by kernel_rfl

theorem ownsRow_base {w : World} {b b' : Nat} {e : TypeId} {size n : Nat} {v : Value} {xs : List Value} (h : w.ownsRow b e size v n xs) (hb : b' ≤ b) : w.ownsRow b' e size v n xs := by
  refine ⟨h.1, ?_⟩
  rcases h.2 with h2 | ⟨g, cap, cur, hv, hg, r⟩
  · exact .inl h2
  · exact .inr ⟨g, cap, cur, hv, by omega, r⟩

theorem and15 (n : Nat) (h : n < 256) : bits BinOp.and IntKind.u8 (n : Int) 15 = (n : Int) % 16 := by
  have : ∀ n : Fin 256, bits BinOp.and IntKind.u8 ((n : Nat) : Int) 15 = ((n : Nat) : Int) % 16 := of_decide_eq_true (by kernel_rfl)
  exact this ⟨n, h⟩

theorem digitAt (k : Nat) (h : k < (⟨#[48, 49, 50, 51, 52, 53, 54, 55, 56, 57, 97, 98, 99, 100, 101, 102]⟩ : ByteArray).size) :
    (⟨#[48, 49, 50, 51, 52, 53, 54, 55, 56, 57, 97, 98, 99, 100, 101, 102]⟩ : ByteArray)[k] = hd k := by
  have hk : k < 16 := h
  have : ∀ k : Fin 16, (⟨#[48, 49, 50, 51, 52, 53, 54, 55, 56, 57, 97, 98, 99, 100, 101, 102]⟩ : ByteArray)[(k : Nat)]'(k.2) = hd k := by decide
  exact this ⟨k, hk⟩

theorem hexs_step (s : ByteArray) (k : Nat) (hk : k < s.size) : hexs (s.data.toList.take (k + 1)) = hexs (s.data.toList.take k) ++ [hd (s[k].toNat / 16), hd (s[k].toNat % 16)] := by
  have h : s.data.toList.take (k + 1) = s.data.toList.take k ++ [s[k]] := by
    rw [List.take_succ_eq_append_getElem (by simpa using hk)]; rfl
  rw [h, hexs_append]
  rfl
theorem toNat16 (c : Nat) : ((c : Int) / 16).toNat = c / 16 := by omega
theorem toNat15 (c : Nat) : ((c : Int) % 16).toNat = c % 16 := by omega
theorem two_one (a b : Int) : ∀ u ∈ (#[Value.int .u8 a, Value.int .u8 b] : Array Value).toList, u.oneCell' = true := by
  intro u hu
  simp at hu
  rcases hu with rfl | rfl <;> rfl
theorem bytesAt_cells {w : World} {g : Nat} {l : List UInt8} (h : BytesAt w g l) : ∀ b, some (⟨g, 0, none⟩ : Addr) = some b → ∀ j u, (cells8 l)[j]? = some u → w.cell? (b.add j) = some u := by
  rintro b ⟨rfl⟩ j u hu
  have hj : j < l.length := by
    have := (List.getElem?_eq_some_iff.1 hu).1
    simpa using this
  have he : (⟨g, 0, none⟩ : Addr).add j = ⟨g, j, none⟩ := by unfold Addr.add; split <;> simp_all
  rw [he, h j hj]
  simp [hj] at hu
  rw [← hu]
theorem bytesAt_alloc {w : World} {g : Nat} {l : List UInt8} (h : BytesAt w g l) (hg : g < w.heap.size) (o : Obj) : BytesAt (w.alloc o).drew g l := fun j hj => (World.cell?_alloc_lt w o _ hg).trans (h j hj)
theorem bytesAt_own {w : World} {B n g cap : Nat} {l : List UInt8} (h : w.ownsRow B 5 1 (.slice (some ⟨g, 0, none⟩) n cap) n (cells8 l)) : BytesAt w g l := by
  intro j hj
  have := h.cells (g := g) rfl j (.int .u8 (l[j].toNat : Int)) (by simp [hj])
  have he : (⟨g, 0, none⟩ : Addr).add j = ⟨g, j, none⟩ := by unfold Addr.add; split <;> simp_all
  rwa [he] at this

set_option maxHeartbeats 4000000 in
theorem hex_any (s : ByteArray) (hs : s.size ≤ 500) (w : World) :
    Calls Tryf.prog 5 #[.string s, .bool false] w fun e w' => e = .returned (.string ⟨(hexText s.data.toList).toArray⟩) ∧ Below w.heap.size w w' := by
  obtain ⟨i0, hi, hz0, hz1, hz2⟩ := info_parts info5
  have kc := fun (w : World) (C : Array Value) (n c : Nat) => Lib.run_convert_bytes_const (P := Tryf.prog) w 39 5 C n c Tryf.underlying39 Tryf.underlying5
  go_enter Tryf.func5, Tryf.ntmps5
  go_wp2
  clear kc
  go_loopw [5, 6] (fun v i wr => ∃ k : Nat, k ≤ s.size ∧ i = .int .i64 k ∧ Below w.heap.size w wr ∧ w.heap.size < wr.heap.size ∧
      ((k = 0 ∧ v = .slice (some ⟨w.heap.size, 0, none⟩) 2 2 ∧ BytesAt wr w.heap.size [92, 120]) ∨
       (0 < k ∧ wr.ownsRow (w.heap.size + 1) 5 1 v (2 + 2 * k) (cells8 ([92, 120] ++ hexs (s.data.toList.take k))))))
    (fun _ i _ => s.size - (intOf i).toNat)
  case atStart =>
    refine ⟨0, by omega, rfl, ?_, by simp, .inl ⟨rfl, rfl, ?_⟩⟩
    · exact (Below.refl _ _).alloc (Nat.le_refl _) _
    · intro j hj
      rw [cell_of_row _ _ j _ _ _ (heap_alloc_new w _)]
      match j, hj with
      | 0, _ => rfl
      | 1, _ => rfl
  case round =>
    obtain ⟨k, hk, rfl, hb, hlt, hv⟩ := hrel
    by_cases hks : k < s.size
    · have k0 : (0 : Int) ≤ (k : Int) := by omega
      have k1 : (k : Int) < (s.size : Int) := by omega
      have c1 : (s[k].toNat : Int) < 256 := by have := s[k].toNat_lt; omega
      have d0 : (0 : Int) ≤ (s[k].toNat : Int) / 16 := by omega
      have d1 : (s[k].toNat : Int) / 16 < 16 := by omega
      have e15 := and15 s[k].toNat s[k].toNat_lt
      have m0 : (0 : Int) ≤ (s[k].toNat : Int) % 16 := by omega
      have m1 : (s[k].toNat : Int) % 16 < 16 := by omega
      have HS := Lib.hid (hexs_step s k hks)
      have HN := Lib.hid hi
      rcases hv with ⟨rfl, rfl, hB⟩ | ⟨hk0, hown⟩
      · have hB' := Lib.hid hB
        clear hB
        go_wp2
        go_region_held3 (fun _ => True) (exact trivial) ((refine step_append_grows (by rfl) _ _ _ (by rfl) 5 i0 (.int .u8 0) 1 1 Tryf.underlying39 HN.out hz0 hz1 hz2 rfl (by decide) _ _ _ (cells8 [92, 120]) (by rfl) (by intro h; cases h) (by rfl) (bytesAt_cells (bytesAt_alloc hB'.out (by omega) _)) ⟨wr.heap.size, 0, none⟩ 2 2 _ (by rfl) (by rfl) (fun j u hu => World.news_of_block (heap_alloc_new wr _) j u hu) (two_one _ _) (by omega) (by unfold maxLen; omega) (by omega) ?_; intro v' w1 hown1 hgrow))
        all_goals
          have HO : Hid (w1.ownsRow (w.heap.size + 1) 5 1 v' (2 + 2 * (0 + 1)) (cells8 ([92, 120] ++ hexs (s.data.toList.take (0 + 1))))) := by
            rw [HS.out]
            simp only [toNat16, toNat15, digitAt] at hown1
            refine Lib.hid ?_
            have e : cells8 (([92, 120] : List UInt8) ++ (hexs (List.take 0 s.data.toList) ++ [hd (s[0].toNat / 16), hd (s[0].toNat % 16)])) = cells8 [92, 120] ++ (#[Value.int .u8 ((hd (s[0].toNat / 16)).toNat : Int), Value.int .u8 ((hd (s[0].toNat % 16)).toNat : Int)] : Array Value).toList := by simp [cells8, hexs]
            rw [e]
            exact ownsRow_base hown1 (by simp; omega)
          have HB : Hid (Below w.heap.size w w1) := Lib.hid (((hb.alloc (by omega) _).drew).grown hgrow (by simp; omega) (fun q hq => by cases hq))
          have hsz : w.heap.size < w1.heap.size := by have := hgrow.size; simp at this; omega
          clear hown1 hgrow hB' hb
          go_wp2
          go_roundw
          case rel => exact ⟨0 + 1, by omega, by go_num, HB.out, hsz, .inr ⟨by omega, HO.out⟩⟩
          case measure => simp [intOf]; omega
      · go_wp2
        go_region_held3 (fun _ => True) (exact trivial) ((refine step_append_lies _ (by rfl) _ _ _ (by rfl) (w.heap.size + 1) 5 i0 (.int .u8 0) 1 1 Tryf.underlying39 HN.out hz0 hz1 hz2 rfl (by decide) _ _ _ (by rfl) (hown.alloc _).drew ⟨wr.heap.size, 0, none⟩ 2 2 _ (by rfl) (by rfl) (fun j u hu => World.news_of_block (heap_alloc_new wr _) j u hu) (two_one _ _) (by decide) (by unfold maxLen; omega) (by omega) (by simp; omega) (wr.heap.size + 1) (by simp) ?_; intro g cap w1 hown1 hgrow hat hlt1))
        all_goals
          have HO : Hid (w1.ownsRow (w.heap.size + 1) 5 1 (.slice (some ⟨g, 0, none⟩) (2 + 2 * k + 2) cap) (2 + 2 * (k + 1)) (cells8 ([92, 120] ++ hexs (s.data.toList.take (k + 1))))) := by
            rw [HS.out]
            simp only [toNat16, toNat15, digitAt] at hown1
            refine Lib.hid ?_
            have e : cells8 (([92, 120] : List UInt8) ++ (hexs (List.take k s.data.toList) ++ [hd (s[k].toNat / 16), hd (s[k].toNat % 16)])) = cells8 ([92, 120] ++ hexs (List.take k s.data.toList)) ++ (#[Value.int .u8 ((hd (s[k].toNat / 16)).toNat : Int), Value.int .u8 ((hd (s[k].toNat % 16)).toNat : Int)] : Array Value).toList := by simp [cells8]
            rw [e]
            exact hown1
          have HB : Hid (Below w.heap.size w w1) := Lib.hid (((hb.alloc (by omega) _).drew).grown hgrow (by simp; omega) (fun q hq => by
            obtain ⟨g', cap', hv', hg', _⟩ := hown.form (by omega)
            rw [hv'] at hq
            have : g' = q := by simpa [Value.ownBlock] using hq
            omega))
          have hsz : w.heap.size < w1.heap.size := by have := hgrow.size; simp at this; omega
          clear hown1 hgrow hat hown hb
          go_wp2
          go_roundw
          case rel => exact ⟨k + 1, by omega, by go_num, HB.out, hsz, .inr ⟨by omega, HO.out⟩⟩
          case measure => simp [intOf]; omega
    · have hkk : k = s.size := by omega
      subst hkk
      have ht : s.data.toList.take s.size = s.data.toList := List.take_of_length_le (by simp)
      rw [ht] at hv
      have hl : (hexText s.data.toList).length = 2 + 2 * s.size := by rw [hexText_length]; simp
      have hfin : ∃ g cap, u5 = .slice (some ⟨g, 0, none⟩) (hexText s.data.toList).length cap ∧ BytesAt wr g (hexText s.data.toList) := by
        rcases hv with ⟨h0, rfl, hB⟩ | ⟨_, hown⟩
        · have he : s.data.toList = [] := List.eq_nil_of_length_eq_zero (by simpa using h0)
          rw [he]
          exact ⟨_, 2, rfl, hB⟩
        · rw [hl]
          obtain ⟨g, cap, rfl, _, _⟩ := hown.form (by omega)
          exact ⟨g, cap, rfl, bytesAt_own hown⟩
      obtain ⟨g, cap, rfl, hB⟩ := hfin
      have hcv := back wr g cap _ hB
      have hHs := Lib.hid hb
      have hll : 2 ≤ (hexText s.data.toList).length := by omega
      clear hv hB ht hb hl
      go_wp2
      refine wp_loop_rounds 1 ?_
      rw [rounds_succ]
      go_wp2
      all_goals
        go_ret
        exact ⟨rfl, hHs.out⟩
end Go.Proofs.YtblcdamlkphldaaFmt
