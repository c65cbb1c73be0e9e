/- Walks of the law FnBack: parseArray at literals of one dimension. -/
import Derived.Test.YtbbjjkcjpdmjnaaGreatDoorZk
import Derived.ScopeJumps
import Derived.WalkMore
namespace Go.Proofs.YtbbjjkcjpdmjnaaGreatDoor
open Go.RowKit

theorem wp_scope_enter {P : Program} {a : Act} {w : World} {Q : Exit → Act → World → Prop} {c c' : Code} (l : Nat) (J : Act → World → Prop) (μ : Act → World → Nat) (hf : findLabel c l = some (.seq .skip c'))
    (first : (∀ a w, J a w → c'.wp P (Exit.jump l J Q) a w) → c.wp P (Exit.jump l J Q) a w)
    (pass : ∀ a w, J a w → c'.wp P (Exit.jump l (fun a' w' => J a' w' ∧ μ a' w' < μ a w) Q) a w) : (Code.scope c).wp P Q a w :=
  wp_scope_jumps l J μ hf (first fun a w h => Code.wp_mono (fun e a' w' hq => by
    cases e with
    | goto l' => exact ⟨hq.1, hq.2.1⟩
    | _ => exact hq) (pass a w h)) (fun a w h => wp_seq (wp_skip (pass a w h)))

theorem fl_skip {a b rest : Code} {l : Nat} (ha : findLabel a l = none) (hb : findLabel b l = some rest) : findLabel (.seq a b) l = some rest := by simp [findLabel, ha, hb]
theorem fl_label {b : Code} {l : Nat} : findLabel (.seq (.label l) b) l = some (.seq .skip b) := by simp [findLabel]

/-- Where the parser stands at its label Element. -/
structure PS (W : World) (s : List UInt8) (toks : List Tok) (w : World) (v : Value) (i : Nat) : Prop where
  at_ : ∃ done t r, toks = done ++ t :: r ∧ s.drop i = t.enc ++ tl r ∧ i ≤ s.length ∧
    w.heap[W.heap.size]? = some (.cells #[.int .i64 (done.length : Nat)] 3 (0, 0)) ∧ ∃ xs, w.ownsRow W.heap.size 50 1 v done.length xs ∧ Elems w xs (done.map Tok.val)
  below : Below W.heap.size W w

/-- What parseArray answers. -/
def PDone (W : World) (toks : List Tok) (e : Ending) (w' : World) : Prop :=
  ∃ v xs, e = .returned (.tuple #[.slice (some ⟨W.heap.size, 0, none⟩) 1 1, v, .nilIface]) ∧ Below W.heap.size W w' ∧ w'.ownsRow W.heap.size 50 1 v toks.length xs ∧ Elems w' xs (toks.map Tok.val)

/-- What holds at every jump to the label Element. -/
structure PJ (W : World) (s : List UInt8) (toks : List Tok) (g cap gd cd : Nat) (a : Act) (w : World) : Prop where
  defers : a.defers = []
  size : a.tmps.size = 221
  s0 : a.tmps.getD 0 undef = .slice (some ⟨g, 0, none⟩) s.length cap
  s1 : a.tmps.getD 1 undef = .slice (some ⟨gd, 0, none⟩) 1 cd
  s4 : a.tmps.getD 4 undef = .slice (some ⟨W.heap.size, 0, none⟩) 1 1
  s6 : a.tmps.getD 6 undef = .nilIface
  s7 : a.tmps.getD 7 undef = .int .i64 1
  rest : ∃ (v : Value) (i : Nat), a.tmps.getD 5 undef = v ∧ a.tmps.getD 8 undef = .int .i64 i ∧ Hid (PS W s toks w v i)

theorem array_lits (t : Array Value) : t = ((List.range t.size).map fun k => t.getD k undef).toArray := by
  apply Array.ext
  · simp
  · intro i h1 h2
    simp [h1]
set_option maxRecDepth 1000000 in
theorem frame221 (a : Act) (hd : a.defers = []) (hs : a.tmps.size = 221) : ∃ u : Nat → Value, (∀ k, u k = a.tmps.getD k undef) ∧ a = { tmps := #[u 0, u 1, u 2, u 3, u 4, u 5, u 6, u 7, u 8, u 9, u 10, u 11, u 12, u 13, u 14, u 15, u 16, u 17, u 18, u 19, u 20, u 21, u 22, u 23, u 24, u 25, u 26, u 27, u 28, u 29, u 30, u 31, u 32, u 33, u 34, u 35, u 36, u 37, u 38, u 39, u 40, u 41, u 42, u 43, u 44, u 45, u 46, u 47, u 48, u 49, u 50, u 51, u 52, u 53, u 54, u 55, u 56, u 57, u 58, u 59, u 60, u 61, u 62, u 63, u 64, u 65, u 66, u 67, u 68, u 69, u 70, u 71, u 72, u 73, u 74, u 75, u 76, u 77, u 78, u 79, u 80, u 81, u 82, u 83, u 84, u 85, u 86, u 87, u 88, u 89, u 90, u 91, u 92, u 93, u 94, u 95, u 96, u 97, u 98, u 99, u 100, u 101, u 102, u 103, u 104, u 105, u 106, u 107, u 108, u 109, u 110, u 111, u 112, u 113, u 114, u 115, u 116, u 117, u 118, u 119, u 120, u 121, u 122, u 123, u 124, u 125, u 126, u 127, u 128, u 129, u 130, u 131, u 132, u 133, u 134, u 135, u 136, u 137, u 138, u 139, u 140, u 141, u 142, u 143, u 144, u 145, u 146, u 147, u 148, u 149, u 150, u 151, u 152, u 153, u 154, u 155, u 156, u 157, u 158, u 159, u 160, u 161, u 162, u 163, u 164, u 165, u 166, u 167, u 168, u 169, u 170, u 171, u 172, u 173, u 174, u 175, u 176, u 177, u 178, u 179, u 180, u 181, u 182, u 183, u 184, u 185, u 186, u 187, u 188, u 189, u 190, u 191, u 192, u 193, u 194, u 195, u 196, u 197, u 198, u 199, u 200, u 201, u 202, u 203, u 204, u 205, u 206, u 207, u 208, u 209, u 210, u 211, u 212, u 213, u 214, u 215, u 216, u 217, u 218, u 219, u 220], defers := [] } := by
  refine ⟨fun k => a.tmps.getD k undef, fun _ => rfl, ?_⟩
  have h := array_lits a.tmps
  rw [hs] at h
  obtain ⟨t, d⟩ := a
  simp only at hd h hs
  subst hd
  congr 1

theorem info50 : (Tryz.prog.info? 50).map (fun i => (i.zero, i.size, i.bytes)) = some (some (.slice none 0 0), 1, 24) := by kernel_rfl
/-- One element appended. -/
theorem wpList_appE {ops : Array Oper} {rest : List Oper} {o : Oper} {a : Act} {Q : Exit → Act → World → Prop} (hgd : o.guard = none) (s x : Operand)
    (ho : o.op = .call { callee := .builtin .append, args := #[s, x], argTypes := #[54, 54] }) {B n : Nat} {xs : List Value} {wr : World} {v : Value} {T : TypeId} {c : Nat}
    (hown : wr.ownsRow B 50 1 v n xs) (hB : B ≤ wr.heap.size) (z : Value) (hz : z.oneCell' = true) (hs : a.eval s = v) (hx : a.eval x = .slice (some ⟨wr.heap.size, 0, none⟩) 1 c) (hn : n ≤ 1000000)
    (h : ∀ v' w', w'.ownsRow B 50 1 v' (n + 1) (xs ++ [z]) → (wr.alloc (.cells #[z] T)).grownBy w' v.ownBlock → wpList Tryz.prog ops Q rest (a.put o.dst v') w') : wpList Tryz.prog ops Q (o :: rest) a (wr.alloc (.cells #[z] T)) := by
  obtain ⟨i0, hi, hz0, hz1, hz2⟩ := info_parts info50
  refine wpList_append_own _ hgd s x 54 ho B 50 i0 (.slice none 0 0) 1 24 Tryz.underlying54 hi hz0 hz1 hz2 rfl (by decide) v _ _ hs (hown.alloc _) ⟨wr.heap.size, 0, none⟩ 1 c [z] hx rfl
    (fun j u hu => World.news_of_block (heap_alloc_new wr _) j u hu) (fun u hu => by rw [List.mem_singleton] at hu; subst hu; exact hz) (by unfold maxLen; omega) (by omega) (by simp; omega) ?_
  intro v' w1 hown hg _
  exact h v' w1 hown hg

theorem after_app {W wb w3 : World} {v z : Value} {xs : List Value} {k : Nat} {vals : List (List UInt8)} {val : List UInt8} {T : TypeId} {cs : Array Value} (hown : wb.ownsRow W.heap.size 50 1 v k xs) (hb : Below W.heap.size W wb)
    (hd : wb.heap[W.heap.size]? = some (.cells cs 3 (0, 0))) (hel : Elems wb xs vals) (he : Elem wb z val) (hg : (wb.alloc (.cells #[z] T)).grownBy w3 v.ownBlock) :
    Below W.heap.size W w3 ∧ w3.heap[W.heap.size]? = some (.cells cs 3 (0, 0)) ∧ Elems w3 (xs ++ [z]) (vals ++ [val]) := by
  have ho2 := hown.alloc (.cells #[z] T)
  have hlt : W.heap.size < wb.heap.size := by
    rcases Nat.lt_or_ge W.heap.size wb.heap.size with h | h
    · exact h
    · rw [Array.getElem?_eq_none h] at hd; cases hd
  have hk : Keeps5 wb w3 := (Keeps5.below ((Below.refl _ _).alloc (Nat.le_refl _) _)).trans (Keeps5.grown hg ho2 (by decide))
  refine ⟨(hb.alloc hb.size _).grown hg (by simp; omega) (fun q hq => (hown.lt q hq).1), ?_, (hel.keep hk).snoc (he.keep hk)⟩
  have hd2 := (Below.heap_alloc wb (.cells #[z] T) W.heap.size hlt).trans hd
  refine (hg.block W.heap.size (by simp; omega) (fun e => ?_)).trans hd2
  obtain ⟨c2, fz2, h3⟩ := Lib.ownsRow_kind ho2 _ e.symm
  rw [hd2] at h3
  injection h3 with h3
  injection h3 with _ h4
  exact absurd h4 (by decide)

theorem fin_app {W w3 : World} {v3 : Value} {xs : List Value} {k : Nat} {vals : List (List UInt8)} {x0 : Value} (hown : w3.ownsRow W.heap.size 50 1 v3 k xs) (hb : Below W.heap.size W w3)
    (hd : w3.heap[W.heap.size]? = some (.cells #[x0] 3 (0, 0))) (hel : Elems w3 xs vals) (m : Nat) (u : Value) :
    Below W.heap.size W ((w3.drewN m).setCell ⟨W.heap.size, 0, none⟩ u) ∧ ((w3.drewN m).setCell ⟨W.heap.size, 0, none⟩ u).heap[W.heap.size]? = some (.cells #[u] 3 (0, 0)) ∧
    ((w3.drewN m).setCell ⟨W.heap.size, 0, none⟩ u).ownsRow W.heap.size 50 1 v3 k xs ∧ Elems ((w3.drewN m).setCell ⟨W.heap.size, 0, none⟩ u) xs vals := by
  have hd' : (w3.drewN m).heap[W.heap.size]? = some (.cells #[x0] 3 (0, 0)) := hd
  have hg : w3.grownBy ((w3.drewN m).setCell ⟨W.heap.size, 0, none⟩ u) (some W.heap.size) :=
    ⟨rfl, rfl, rfl, by simp [World.setCell, World.drewN], fun q hq hne => Below.heap_setCell _ _ _ _ (fun e => hne (by rw [e]))⟩
  refine ⟨(below_drewN hb m).setCell (Nat.le_refl _) _, ?_, hown.kept hg ?_, hel.keep (Keeps5.setCell (w := w3.drewN m) hd' (by decide) u)⟩
  · simp only [World.setCell, Array.getElem?_modify, if_pos, hd', Option.map_some]
    rfl
  · right
    intro e
    obtain ⟨c2, fz2, h3⟩ := Lib.ownsRow_kind hown _ e
    rw [hd] at h3
    injection h3 with h3
    injection h3 with _ h4
    exact absurd h4 (by decide)

theorem ps_next {W w3 : World} {s : List UInt8} {toks done r2 : List Tok} {t t2 : Tok} {i e : Nat} {v3 : Value} {xs : List Value} (ht : toks = done ++ t :: t2 :: r2) (hdrop : s.drop i = t.enc ++ tl (t2 :: r2)) (he : e = i + t.enc.length) (hes : e < s.length)
    (hown : w3.ownsRow W.heap.size 50 1 v3 (done.length + 1) xs) (hb : Below W.heap.size W w3) (hd : w3.heap[W.heap.size]? = some (.cells #[.int .i64 (done.length : Nat)] 3 (0, 0))) (hel : Elems w3 xs (done.map Tok.val ++ [t.val])) (m : Nat) :
    PS W s toks ((w3.drewN m).setCell ⟨W.heap.size, 0, none⟩ (.int .i64 ((done.length : Int) + 1))) v3 (e + 1) := by
  obtain ⟨f1, f2, f3, f4⟩ := fin_app hown hb hd hel m (.int .i64 ((done.length : Int) + 1))
  refine ⟨⟨done ++ [t], t2, r2, by rw [ht]; simp, ?_, by omega, ?_, xs, ?_, ?_⟩, f1⟩
  · have h2 : s.drop (e + 1) = (s.drop i).drop (t.enc.length + 1) := by rw [List.drop_drop, he, Nat.add_assoc]
    rw [h2, hdrop, List.drop_append, List.drop_of_length_le (by omega), Nat.add_sub_cancel_left]
    rfl
  · rw [f2]; simp
  · have e3 : (done ++ [t]).length = done.length + 1 := by simp
    rw [e3]; exact f3
  · rw [List.map_append]; exact f4

/-- What is known amid an element in quotes. -/
def QR (i : Nat) (b : List UInt8) (r : List Tok) (s : List UInt8) (p : Nat) (f : Bool) (b1 b2 : List UInt8) : Prop :=
  b = b1 ++ b2 ∧ p = i + 1 + (esc b1).length + f.toNat ∧ (f = false → s.drop p = esc b2 ++ 34 :: tl r) ∧ (f = true → ∃ c b3, b2 = c :: b3 ∧ (c = 34 ∨ c = 92) ∧ s.drop p = c :: (esc b3 ++ 34 :: tl r))

theorem own50_below {w w' : World} {B n : Nat} {sv : Value} {xs : List Value} (h : w.ownsRow B 50 1 sv n xs) (hb : Below w.heap.size w w') : w'.ownsRow B 50 1 sv n xs :=
  h.kept (row := none) ⟨hb.os, hb.tape, hb.output, hb.size, fun i hi _ => hb.block i hi⟩ (by cases sv.ownBlock <;> simp)

theorem elem_own {w wr : World} {B g9 c9 : Nat} {l : List UInt8} (h : St w B 0 [] wr (.slice (some ⟨g9, 0, none⟩) l.length c9) l) : Elem wr (.slice (some ⟨g9, 0, none⟩) l.length c9) l := by
  obtain ⟨hl, h2⟩ := h.own
  rcases h2 with ⟨h3, _⟩ | ⟨g, cap, cur, h3, _, h4, h5, _, h6, h7⟩
  · injection h3 with h3; cases h3
  · injection h3 with h8 h9 h10
    injection h8 with h8
    injection h8 with h8
    subst h8 h10
    refine ⟨_, 0, _, cur, (0, 0), rfl, by omega, h4, fun j hj => ?_⟩
    have h11 := congrArg (·[j]?) h7
    simp only [List.nil_append, Lib.byteCells, List.getElem?_take, List.getElem?_map, List.getElem?_eq_getElem hj, Option.map_some] at h11
    rw [if_pos (by omega)] at h11
    rw [Nat.zero_add]
    simpa using h11

theorem drop_head {s : List UInt8} {p : Nat} {c : UInt8} {r : List UInt8} (h : s.drop p = c :: r) : ∃ hp : p < s.length, s[p] = c ∧ s.drop (p + 1) = r := by
  have hp : p < s.length := by
    rcases Nat.lt_or_ge p s.length with h1 | h1
    · exact h1
    · rw [List.drop_eq_nil_of_le h1] at h; cases h
  rw [List.drop_eq_getElem_cons hp] at h
  injection h with h1 h2
  exact ⟨hp, h1, h2⟩

theorem enc_ne (t : Tok) (h : t.Ok) : ∃ c r, t.enc = c :: r ∧ c ≠ 123 ∧ c ≠ 125 := by
  cases t with
  | bare b =>
    obtain ⟨hne, hp⟩ := h
    cases b with
    | nil => exact absurd rfl hne
    | cons c r =>
      have := hp c (List.mem_cons_self ..)
      exact ⟨c, r, rfl, this.2.2.1, this.2.1⟩
  | quoted b => exact ⟨34, _, rfl, by decide, by decide⟩

set_option maxRecDepth 1000000 in
set_option maxHeartbeats 400000 in
theorem parseArray_some (W : World) (s : List UInt8) (toks : List Tok) (t0 : Tok) (r0 : List Tok) (g cap gd cd : Nat) (hs : s = lit t0 r0) (ht : toks = t0 :: r0) (hok : ∀ t ∈ toks, t.Ok) (hcap : s.length ≤ cap) (hlen : s.length ≤ 1000000) (hk : toks.length ≤ 1000)
    (hE : Elem W (.slice (some ⟨g, 0, none⟩) s.length cap) s) (hD : Elem W (.slice (some ⟨gd, 0, none⟩) 1 cd) [44]) :
    Calls Tryz.prog 50 #[.slice (some ⟨g, 0, none⟩) s.length cap, .slice (some ⟨gd, 0, none⟩) 1 cd] W (PDone W toks) := by
  have hcell := hE.cell.2.2
  have hcellD := hD.cell.2.2
  obtain ⟨c1, cr, hc1, hn123, hn125⟩ := enc_ne t0 (hok t0 (by rw [ht]; exact List.mem_cons_self ..))
  have hn2 : 2 ≤ s.length := by rw [hs]; unfold lit; rw [hc1]; simp
  have h0 : W.cell? ⟨g, 0, none⟩ = some (.int .u8 123) := by
    have h := hcell 0 (by omega)
    have e : s[0]'(by omega) = 123 := by simp only [hs, lit, List.getElem_cons_zero]
    rw [e] at h
    exact h
  have h1 : W.cell? ⟨g, 1, none⟩ = some (.int .u8 (c1.toNat : Int)) := by
    have h := hcell 1 (by omega)
    have e : s[1]'(by omega) = c1 := by simp only [hs, lit, hc1, List.cons_append, List.getElem_cons_succ, List.getElem_cons_zero]
    rw [e] at h
    exact h
  obtain ⟨z1, hz1⟩ : ∃ z1 : Int, (c1.toNat : Int) = z1 := ⟨_, rfl⟩
  rw [hz1] at h1
  have k123 : (z1 == 123) = false := by
    have : z1 ≠ 123 := fun h => hn123 (UInt8.toNat_inj.1 (by show c1.toNat = 123; omega))
    simpa using this
  have k125 : (z1 == 125) = false := by
    have : z1 ≠ 125 := fun h => hn125 (UInt8.toNat_inj.1 (by show c1.toNat = 125; omega))
    simpa using this
  have hmk : ∀ w : World, (Instr.makeSlice 86 (.int .i64 1) (.int .i64 1)).run Tryz.prog w = .ok (.slice (some ⟨w.heap.size, 0, none⟩) 1 1) (w.alloc (.cells #[.int .i64 0] 3)) := fun _ => by kernel_rfl
  have HE := Lib.hid hE
  have HD := Lib.hid hD
  have HS := Lib.hid hs
  have HT := Lib.hid ht
  have HOK := Lib.hid hok
  have HCELL := Lib.hid hcell
  have HCELLD := Lib.hid hcellD
  have HPS : Hid (∀ w, Below W.heap.size W w → w.heap[W.heap.size]? = some (.cells #[.int .i64 0] 3 (0, 0)) → PS W s toks w (.slice none 0 0) 1) := Lib.hid (fun w hb hd =>
    ⟨⟨[], t0, r0, by rw [ht]; rfl, by rw [hs]; rfl, by omega, hd, [], World.ownsRow_nil _ _ _ _, Elems.nil _⟩, hb⟩)
  have HMK := Lib.hid hmk
  clear hmk hE hD hs ht hok hcell hcellD hc1 hn123 hn125 hz1
  go_enter Tryz.func50, Tryz.ntmps50
  go_wp2_with fail
  refine wp_scope_enter 2 (PJ W s toks g cap gd cd) (fun a _ => s.length - (intOf (a.tmps.getD 8 undef)).toNat) (fl_skip rfl (fl_skip rfl (fl_skip rfl (fl_skip rfl (fl_skip rfl fl_label))))) ?_ ?_
  · intro hrest
    have HREST := Lib.hid hrest
    clear hrest
    go_wp2_with fail
    go_step3
    go_wp2_with fail
    refine wp_loop_rounds 2 ?_
    rw [rounds_succ]
    go_wp2_with fail
    rw [rounds_succ]
    have hmk := HMK.out
    go_wp2_with fail
    clear hmk
    go_step3
    go_step
    have hps := HPS.out (W.alloc (.cells #[.int .i64 0] 3)) ((Below.refl _ _).alloc (Nat.le_refl _) _) (heap_alloc_new _ _)
    go_step
    refine HREST.out _ _ ?_
    exact ⟨rfl, rfl, rfl, rfl, rfl, rfl, rfl, _, _, rfl, rfl, Lib.hid hps⟩
  · rintro a w ⟨hd, hsz, s0, s1, s4, s6, s7, v, i, s5, s8, hst⟩
    obtain ⟨u, hu, ha⟩ := frame221 a hd hsz
    rw [(hu 0).trans s0, (hu 1).trans s1, (hu 4).trans s4, (hu 5).trans s5, (hu 6).trans s6, (hu 7).trans s7, (hu 8).trans s8] at ha
    clear hd hsz s0 s1 s4 s6 s7 s5 s8 hu
    subst ha
    obtain ⟨⟨done, t, r, ht', hdrop, hi, hdims, xs, hown, hel⟩, hbel⟩ := hst.out
    clear hst
    have hEw := HE.out.keep (Keeps5.below hbel)
    have hDw := HD.out.keep (Keeps5.below hbel)
    have HC : Hid (∀ p (hp : p < s.length), w.cell? ⟨g, p, none⟩ = some (.int .u8 (s[p].toNat : Int))) := Lib.hid (fun p hp => by have := hEw.cell.2.2 p hp; rwa [Nat.zero_add] at this)
    have hcd : w.cell? ⟨gd, 0, none⟩ = some (.int .u8 44) := hDw.cell.2.2 0 (by decide)
    have htok := HOK.out t (by rw [ht']; simp)
    cases t with
    | bare b =>
      obtain ⟨hne, hplain⟩ := htok
      have hbl : 1 ≤ b.length := by cases b with
        | nil => exact absurd rfl hne
        | cons c r => simp
      have hget : ∀ j, s[i + j]? = (b ++ tl r)[j]? := fun j => by
        rw [← List.getElem?_drop, hdrop]; rfl
      obtain ⟨ce, re, hce⟩ : ∃ ce re, tl r = ce :: re := by cases r <;> exact ⟨_, _, rfl⟩
      have hend : i + b.length < s.length := by
        have h := hget b.length
        rw [List.getElem?_append_right (by omega), Nat.sub_self, hce] at h
        exact (List.getElem?_eq_some_iff.1 h).1
      have hchar : ∀ p (hp : p < s.length), i ≤ p → p < i + b.length → Plain s[p] := fun p hp h1 h2 => by
        have h := hget (p - i)
        rw [show i + (p - i) = p by omega, List.getElem?_append_left (by omega), List.getElem?_eq_getElem hp, List.getElem?_eq_getElem (by omega)] at h
        rw [Option.some.inj h]
        exact hplain _ (List.getElem_mem _)
      have hchend : s[i + b.length]'hend = ce := by
        have h := hget b.length
        rw [List.getElem?_append_right (by omega), Nat.sub_self, hce, List.getElem?_eq_getElem hend] at h
        exact Option.some.inj h
      have HCH := Lib.hid hchar
      have HEND := Lib.hid hchend
      have HDR : Hid (s.drop (i + b.length) = tl r) := Lib.hid (by
        have h2 : s.drop (i + b.length) = (s.drop i).drop b.length := by rw [List.drop_drop]
        rw [h2, hdrop]
        exact List.drop_left)
      have HDROP := Lib.hid hdrop
      have HT' := Lib.hid ht'
      have HDIMS := Lib.hid hdims
      have HOWN := Lib.hid hown
      have HEL := Lib.hid hel
      have HBEL := Lib.hid hbel
      have HCE := Lib.hid hce
      have HPL := Lib.hid hplain
      clear hchar hchend hdrop ht' hdims hown hel hbel hce hplain hne hget hEw hDw
      obtain ⟨z0, hz0⟩ : ∃ z0 : Int, ((s[i]'(by omega)).toNat : Int) = z0 := ⟨_, rfl⟩
      have hc0 : w.cell? ⟨g, i, none⟩ = some (.int .u8 z0) := by rw [HC.out i (by omega), hz0]
      have hp0 := HCH.out i (by omega) (by omega) (by omega)
      have k0 : ∀ k : UInt8, s[i]'(by omega) ≠ k → (z0 == (k.toNat : Int)) = false := fun k h => by
        have : z0 ≠ (k.toNat : Int) := fun h2 => h (UInt8.toNat_inj.1 (by omega))
        simpa using this
      have e123 : (z0 == 123) = false := k0 123 hp0.2.2.1
      have e34 : (z0 == 34) = false := k0 34 hp0.2.2.2.1
      clear k0 hp0 hz0
      have hdl : decide (i < s.length) = true := decide_eq_true (by omega)
      go_wp2_with fail
      refine wp_loop_rounds 1 ?_
      rw [rounds_succ]
      go_wp2_with fail
      go_loopw [4, 5, 6, 8] (fun v4 v5 v6 v8 wr => v4 = .slice (some ⟨W.heap.size, 0, none⟩) 1 1 ∧ v5 = v ∧ v6 = .nilIface ∧ ∃ p m : Nat, i ≤ p ∧ p ≤ i + b.length ∧ v8 = .int .i64 p ∧ wr = w.drewN m) (fun _ _ _ v8 _ => s.length - (intOf v8).toNat)
      case atStart => exact ⟨rfl, rfl, rfl, i, 0, by omega, by omega, rfl, rfl⟩
      case round =>
        obtain ⟨rfl, rfl, rfl, p, m, hp0, hp1, rfl, rfl⟩ := hrel
        by_cases hpe : p < i + b.length
        · have hps : p < s.length := by omega
          have hcp := HC.out p hps
          have hpp := HCH.out p hps hp0 hpe
          have HB := fun w' (h1 : w'.cell? ⟨g, p, none⟩ = some (.int .u8 ((s[p]'hps).toNat : Int))) (h2 : w'.cell? ⟨gd, 0, none⟩ = some (.int .u8 44)) => Lib.hid (begins_no g p (s.length - p) (cap - p) gd cd (s[p]'hps) w' hpp.1 (by omega) (by omega) h1 h2)
          have HBN := Lib.hid (HB (w.drewN m) hcp hcd)
          obtain ⟨zp, hzp⟩ : ∃ zp : Int, ((s[p]'hps).toNat : Int) = zp := ⟨_, rfl⟩
          have e125 : (zp == 125) = false := by
            have : zp ≠ 125 := fun h => hpp.2.1 (UInt8.toNat_inj.1 (by show (s[p]'hps).toNat = 125; omega))
            simpa using this
          rw [hzp] at hcp
          have hcapp : cap ≠ p := by omega
          clear HB hpp hzp
          go_wp2_with fail
          refine HBN.out.out.mono ?_
          rintro e w2 ⟨rfl, m2, rfl⟩
          go_wp2_with fail
          go_roundw
          case rel => exact ⟨rfl, rfl, rfl, p + 1, m + m2, by omega, by omega, by go_num, rfl⟩
          case measure => simp [intOf]; omega
        · obtain rfl : p = i + b.length := by omega
          have hcp : w.cell? ⟨g, i + b.length, none⟩ = some (.int .u8 (ce.toNat : Int)) := by rw [HC.out _ hend, HEND.out]
          have hcapp : cap ≠ i + b.length := by omega
          have hcut : i + b.length - i = b.length := by omega
          have hconv := fun n => (Elem.string (w := w.drewN n) (v := .slice (some ⟨g, i, none⟩) b.length (cap - i)) (l := b) (by
            have hp := Elem.part (i := i) (c' := cap - i) (HE.out.keep (Keeps5.below HBEL.out)) b (by rw [HDROP.out]; exact List.prefix_append _ _) (by omega)
            rw [Nat.zero_add] at hp
            exact hp) : (convert 50 9 (.slice (some ⟨g, i, none⟩) b.length (cap - i))).run Tryz.prog (w.drewN n) = .ok (.string ⟨b.toArray⟩) (w.drewN n))
          have hnull : ((⟨b.toArray⟩ : ByteArray).toList == [78, 85, 76, 76]) = false := by
            rw [Lib.toList_data]
            have : b ≠ [78, 85, 76, 76] := fun h => (HPL.out 78 (by rw [h]; simp)).2.2.2.2 rfl
            simpa using this
          generalize (⟨b.toArray⟩ : ByteArray) = bs at hconv hnull
          have hbl0 : ((b.length : Int) == 0) = false := by
            have : ¬ b.length = 0 := by omega
            simpa using this
          have HNEW : Hid (Elem w (.slice (some ⟨g, i, none⟩) b.length (cap - i)) b) := Lib.hid (by
            have hp := Elem.part (i := i) (c' := cap - i) (HE.out.keep (Keeps5.below HBEL.out)) b (by rw [HDROP.out]; exact List.prefix_append _ _) (by omega)
            rw [Nat.zero_add] at hp
            exact hp)
          have hkd : done.length ≤ 1000 := by have := HT'.out; rw [this] at hk; simp at hk; omega
          cases r with
          | nil =>
            have hc125 : ce = 125 := by have := HCE.out; simp only [tl, List.cons.injEq] at this; exact this.1.symm
            subst hc125
            have HBN := Lib.hid (begins_no g (i + b.length) (s.length - (i + b.length)) (cap - (i + b.length)) gd cd 125 (w.drewN m) (by decide) (by omega) (by omega) hcp hcd)
            go_wp2_with fail
            refine HBN.out.mono ?_
            rintro e w2 ⟨rfl, m2, rfl⟩
            go_wp2_with (at_builtin; refine wpList_appE rfl _ _ rfl (B := W.heap.size) (wr := w.drewN (m + m2)) HOWN.out HBEL.out.size (.slice (some ⟨g, i, none⟩) b.length (cap - i)) rfl rfl rfl (by omega) ?_)
            intro v3 w3 hown3 hg3
            obtain ⟨g3, cap3, hv3, _, _⟩ := hown3.form (by omega)
            subst hv3
            obtain ⟨hb3, hd3, hel3⟩ := after_app (wb := w.drewN (m + m2)) HOWN.out (below_drewN HBEL.out _) HDIMS.out HEL.out HNEW.out hg3
            have hE3 := HE.out.keep (Keeps5.below hb3)
            have hce3 : w3.cell? ⟨g, i + b.length, none⟩ = some (.int .u8 125) := by
              have := hE3.cell.2.2 (i + b.length) hend
              rw [Nat.zero_add, HEND.out] at this
              exact this
            have hcd3 : w3.cell? ⟨gd, 0, none⟩ = some (.int .u8 44) := (HD.out.keep (Keeps5.below hb3)).cell.2.2 0 (by decide)
            have hdc3 : w3.cell? ⟨W.heap.size, 0, none⟩ = some (.int .i64 (done.length : Nat)) := by rw [cell_of_row _ _ _ _ _ _ hd3]; rfl
            have hdf3 : w3.frozen? ⟨W.heap.size, 0, none⟩ = false := by simp [World.frozen?, hd3]
            have HB3 := Lib.hid hb3
            have HD3 := Lib.hid hd3
            have HEL3 := Lib.hid hel3
            have HOWN3 := Lib.hid hown3
            have HBN3 := Lib.hid (begins_no g (i + b.length) (s.length - (i + b.length)) (cap - (i + b.length)) gd cd 125 w3 (by decide) (by omega) (by omega) hce3 hcd3)
            clear hb3 hd3 hel3 hown3 hg3 hE3
            have hle3 : s.length ≤ i + b.length + 1 := by have h := congrArg List.length HDR.out; rw [List.length_drop] at h; simp [tl] at h; omega
            go_wp2_with fail
            refine wp_loop_rounds 2 ?_
            rw [rounds_succ]
            go_wp2_with fail
            refine HBN3.out.mono ?_
            rintro e w4 ⟨rfl, m4, rfl⟩
            go_wp2_with fail
            rw [rounds_succ]
            go_wp2_with fail
            go_step3
            go_wp2_with fail
            refine wp_loop_rounds 1 ?_
            rw [rounds_succ]
            go_wp2_with fail
            refine wp_loop_rounds 2 ?_
            rw [rounds_succ]
            go_wp2_with fail
            rw [rounds_succ]
            go_wp2_with fail
            simp only [Exit.jump]
            have hfin := fin_app HOWN3.out HB3.out HD3.out HEL3.out m4 (.int .i64 ((done.length : Int) + 1))
            have HFIN := Lib.hid hfin
            clear hfin
            go_ret3
            refine ⟨.slice (some ⟨g3, 0, none⟩) (done.length + 1) cap3, xs ++ [.slice (some ⟨g, i, none⟩) b.length (cap - i)], rfl, HFIN.out.1, ?_, ?_⟩
            · have h := HFIN.out.2.2.1
              have e : toks.length = done.length + 1 := by rw [HT'.out]; simp
              rw [e]
              exact h
            · have h := HFIN.out.2.2.2
              rw [HT'.out, List.map_append]
              exact h
          | cons t2 r2 =>
            have hc44 : ce = 44 := by have := HCE.out; simp only [tl, List.cons.injEq] at this; exact this.1.symm
            subst hc44
            have HBN := Lib.hid (begins_yes g (i + b.length) (s.length - (i + b.length)) (cap - (i + b.length)) gd cd (w.drewN m) (by omega) (by omega) hcp hcd)
            go_wp2_with fail
            refine HBN.out.mono ?_
            rintro e w2 ⟨rfl, m2, rfl⟩
            go_wp2_with (at_builtin; refine wpList_appE rfl _ _ rfl (B := W.heap.size) (wr := w.drewN (m + m2)) HOWN.out HBEL.out.size (.slice (some ⟨g, i, none⟩) b.length (cap - i)) rfl rfl rfl (by omega) ?_)
            intro v3 w3 hown3 hg3
            obtain ⟨g3, cap3, hv3, _, _⟩ := hown3.form (by omega)
            subst hv3
            obtain ⟨hb3, hd3, hel3⟩ := after_app (wb := w.drewN (m + m2)) HOWN.out (below_drewN HBEL.out _) HDIMS.out HEL.out HNEW.out hg3
            have hE3 := HE.out.keep (Keeps5.below hb3)
            have hce3 : w3.cell? ⟨g, i + b.length, none⟩ = some (.int .u8 44) := by
              have := hE3.cell.2.2 (i + b.length) hend
              rw [Nat.zero_add, HEND.out] at this
              exact this
            have hcd3 : w3.cell? ⟨gd, 0, none⟩ = some (.int .u8 44) := (HD.out.keep (Keeps5.below hb3)).cell.2.2 0 (by decide)
            have hdc3 : w3.cell? ⟨W.heap.size, 0, none⟩ = some (.int .i64 (done.length : Nat)) := by rw [cell_of_row _ _ _ _ _ _ hd3]; rfl
            have hdf3 : w3.frozen? ⟨W.heap.size, 0, none⟩ = false := by simp [World.frozen?, hd3]
            have HB3 := Lib.hid hb3
            have HD3 := Lib.hid hd3
            have HEL3 := Lib.hid hel3
            have HOWN3 := Lib.hid hown3
            have HBN3 := Lib.hid (begins_yes g (i + b.length) (s.length - (i + b.length)) (cap - (i + b.length)) gd cd w3 (by omega) (by omega) hce3 hcd3)
            clear hb3 hd3 hel3 hown3 hg3 hE3
            skip
            go_wp2_with fail
            refine wp_loop_rounds 2 ?_
            rw [rounds_succ]
            go_wp2_with fail
            refine HBN3.out.mono ?_
            rintro e w4 ⟨rfl, m4, rfl⟩
            go_wp2_with fail
            go_step3
            have hps := ps_next (e := (i + b.length)) HT'.out HDROP.out (by simp [Tok.enc]; try omega) hend HOWN3.out HB3.out HD3.out HEL3.out m4
            refine ⟨rfl, ⟨rfl, rfl, rfl, rfl, rfl, rfl, rfl, _, (i + b.length) + 1, rfl, by go_num, Lib.hid hps⟩, ?_⟩
            simp [intOf]
            omega
    | quoted b =>
      have hdrop0 : s.drop i = 34 :: (esc b ++ 34 :: tl r) := by rw [hdrop]; simp [Tok.enc]
      obtain ⟨hi0, hs34, hdrop1⟩ := drop_head hdrop0
      have hp1 : i + 1 < s.length := by
        have h := congrArg List.length hdrop1
        rw [List.length_drop] at h
        simp at h
        omega
      have hbs : b.length ≤ s.length := by
        have h := congrArg List.length hdrop1
        rw [List.length_drop] at h
        have h2 : ∀ l : List UInt8, l.length ≤ (esc l).length := fun l => by
          induction l with
          | nil => exact Nat.le_refl _
          | cons c l ih => rw [esc]; split <;> simp only [List.length_cons] <;> omega
        have := h2 b
        simp at h
        omega
      have HQ0 : Hid (QR i b r s (i + 1) false [] b) := Lib.hid ⟨rfl, by simp [esc], fun _ => hdrop1, fun h => by cases h⟩
      have hc0 : w.cell? ⟨g, i, none⟩ = some (.int .u8 34) := by rw [HC.out i hi0, hs34]; rfl
      have HDROP := Lib.hid hdrop
      have HT' := Lib.hid ht'
      have HDIMS := Lib.hid hdims
      have HOWN := Lib.hid hown
      have HEL := Lib.hid hel
      have HBEL := Lib.hid hbel
      have hkd : done.length ≤ 1000 := by rw [ht'] at hk; simp at hk; omega
      have HCW : Hid (∀ wr, Below w.heap.size w wr → (∀ p (hp : p < s.length), wr.cell? ⟨g, p, none⟩ = some (.int .u8 (s[p].toNat : Int)))) := Lib.hid (fun wr hb p hp => by
        have := (HE.out.keep (Keeps5.below (hbel.trans (hb.mono hbel.size)))).cell.2.2 p hp
        rwa [Nat.zero_add] at this)
      have HS0 : Hid (St w w.heap.size 0 [] (w.alloc (.cells #[] 5)) (.slice (some ⟨w.heap.size, 0, none⟩) 0 0) []) := Lib.hid ⟨World.ownsRow_made w #[] 0 (Nat.le_refl _) (by decide) rfl, (Below.refl _ _).alloc (Nat.le_refl _) _, (Lib.OthersKept.refl _ _ _).alloc _, by simp⟩
      clear hdrop0 hdrop1 hs34 hdrop ht' hdims hown hel hbel hEw hDw htok
      have hdl : decide (i < s.length) = true := decide_eq_true (by omega)
      go_wp2_with fail
      refine wp_loop_rounds 1 ?_
      rw [rounds_succ]
      go_wp2_with fail
      go_loopw [5, 8, 9, 10] (fun v5 v8 v9 v10 wr => v5 = v ∧ ∃ (p : Nat) (f : Bool) (b1 b2 : List UInt8) (g9 c9 : Nat), v8 = .int .i64 p ∧ v10 = .bool f ∧ v9 = .slice (some ⟨g9, 0, none⟩) b1.length c9 ∧ p < s.length ∧ b1.length ≤ s.length ∧ Hid (QR i b r s p f b1 b2) ∧ Hid (St w w.heap.size 0 [] wr (.slice (some ⟨g9, 0, none⟩) b1.length c9) b1)) (fun _ v8 _ _ _ => s.length - (intOf v8).toNat)
      case atStart => exact ⟨rfl, i + 1, false, [], b, w.heap.size, 0, by go_num, rfl, rfl, hp1, by simp, HQ0, HS0⟩
      case round =>
        obtain ⟨rfl, p, f, b1, b2, g9, c9, rfl, rfl, rfl, hps, hb1s, hq, hst9⟩ := hrel
        have hcw := HCW.out wr hst9.out.below p hps
        obtain ⟨q1, q2, q3, q4⟩ := hq.out
        cases f with
        | true =>
          obtain ⟨c, b3, hb2, hcc, hdr⟩ := q4 rfl
          obtain ⟨_, hsp, hdr2⟩ := drop_head hdr
          have hp1' : p + 1 < s.length := by
            have h := congrArg List.length hdr2
            rw [List.length_drop] at h
            simp at h
            omega
          have hb1c : (b1 ++ [c]).length ≤ s.length := by
            have h := congrArg List.length q1
            rw [hb2] at h
            simp at h ⊢
            omega
          obtain ⟨z, hz⟩ : ∃ z : Int, (c.toNat : Int) = z := ⟨_, rfl⟩
          rw [hsp, hz] at hcw
          have HZ := Lib.hid hz
          have HQN : Hid (QR i b r s (p + 1) false (b1 ++ [c]) b3) := Lib.hid ⟨by rw [q1, hb2]; simp, by
            rw [esc_append, List.length_append, q2]
            simp only [esc, if_pos hcc, List.length_cons, List.length_nil, Bool.toNat_true, Bool.toNat_false]
            omega, fun _ => hdr2, fun h => by cases h⟩
          clear q1 q2 q3 q4 hb2 hcc hdr hsp hdr2 hz hq
          go_wp2_with (at_builtin; refine wpList_app1 rfl _ _ rfl hst9.out c HZ.out rfl rfl (by simp; omega) ?_)
          intro v91 w91 hst1
          obtain ⟨g91, c91, hv91, _, _⟩ := hst1.own.form (by simp)
          have e91 : 0 + (b1 ++ [c]).length = (b1 ++ [c]).length := Nat.zero_add _
          rw [e91] at hv91
          subst hv91
          have HN := Lib.hid hst1
          clear hst1 hst9 e91
          go_wp2_with fail
          go_roundw
          case rel => exact ⟨rfl, p + 1, false, b1 ++ [c], b3, g91, c91, by go_num, rfl, rfl, hp1', hb1c, HQN, HN⟩
          case measure => simp [intOf]; omega
        | false =>
          cases b2 with
          | nil =>
            have hdr := q3 rfl
            rw [esc, List.nil_append] at hdr
            obtain ⟨_, hsp, hdr2⟩ := drop_head hdr
            have hb1 : b1 = b := by rw [q1]; simp
            obtain ⟨ce, re, hce⟩ : ∃ ce re, tl r = ce :: re := by cases r <;> exact ⟨_, _, rfl⟩
            have hdr3 := hdr2
            rw [hce] at hdr3
            obtain ⟨hend, hcend, _⟩ := drop_head hdr3
            have hcw2 : wr.cell? ⟨g, p, none⟩ = some (.int .u8 34) := by rw [hcw, hsp]; rfl
            have hlt0 : W.heap.size < w.heap.size := by
              rcases Nat.lt_or_ge W.heap.size w.heap.size with h | h
              · exact h
              · have := HDIMS.out; rw [Array.getElem?_eq_none h] at this; cases this
            have hbelw := hst9.out.below
            have HOWNR := Lib.hid (own50_below HOWN.out hbelw)
            have HBELR := Lib.hid (HBEL.out.trans (hbelw.mono HBEL.out.size))
            have HDIMSR := Lib.hid ((hbelw.block W.heap.size hlt0).trans HDIMS.out)
            have HELR := Lib.hid (HEL.out.keep (Keeps5.below hbelw))
            have HNEW : Hid (Elem wr (.slice (some ⟨g9, 0, none⟩) b1.length c9) (Tok.quoted b).val) := Lib.hid (by
              have h := elem_own hst9.out
              show Elem wr _ b
              rw [← hb1]; exact h)
            have hszr : W.heap.size ≤ wr.heap.size := HBELR.out.size
            have HEND := Lib.hid hcend
            have HDR := Lib.hid hdr2
            have HCE := Lib.hid hce
            have HPP : Hid (p + 1 = i + (Tok.quoted b).enc.length) := Lib.hid (by
              rw [← hb1]
              simp only [Tok.enc, List.length_cons, List.length_append, List.length_nil]
              rw [q2]
              simp only [Bool.toNat_false]
              omega)
            have hip : i ≤ p := by rw [q2]; simp only [Bool.toNat_false]; omega
            clear q1 q2 q3 q4 hdr hsp hdr2 hce hdr3 hcend hcw hbelw hb1 hq hst9 hlt0
            cases r with
            | nil =>
              have hc125 : ce = 125 := by have := HCE.out; simp only [tl, List.cons.injEq] at this; exact this.1.symm
              subst hc125
              go_wp2_with (at_builtin; refine wpList_appE rfl _ _ rfl (B := W.heap.size) (wr := wr) HOWNR.out hszr (.slice (some ⟨g9, 0, none⟩) b1.length c9) rfl rfl rfl (by omega) ?_)
              intro v3 w3 hown3 hg3
              obtain ⟨g3, cap3, hv3, _, _⟩ := hown3.form (by omega)
              subst hv3
              obtain ⟨hb3, hd3, hel3⟩ := after_app (wb := wr) HOWNR.out HBELR.out HDIMSR.out HELR.out HNEW.out hg3
              have hE3 := HE.out.keep (Keeps5.below hb3)
              have hce3 : w3.cell? ⟨g, p + 1, none⟩ = some (.int .u8 125) := by
                have := hE3.cell.2.2 (p + 1) hend
                rw [Nat.zero_add, HEND.out] at this
                exact this
              have hcd3 : w3.cell? ⟨gd, 0, none⟩ = some (.int .u8 44) := (HD.out.keep (Keeps5.below hb3)).cell.2.2 0 (by decide)
              have hdc3 : w3.cell? ⟨W.heap.size, 0, none⟩ = some (.int .i64 (done.length : Nat)) := by rw [cell_of_row _ _ _ _ _ _ hd3]; rfl
              have hdf3 : w3.frozen? ⟨W.heap.size, 0, none⟩ = false := by simp [World.frozen?, hd3]
              have HB3 := Lib.hid hb3
              have HD3 := Lib.hid hd3
              have HEL3 := Lib.hid hel3
              have HOWN3 := Lib.hid hown3
              have HBN3 := Lib.hid (begins_no g (p + 1) (s.length - (p + 1)) (cap - (p + 1)) gd cd 125 w3 (by decide) (by omega) (by omega) hce3 hcd3)
              clear hb3 hd3 hel3 hown3 hg3 hE3
              have hle3 : s.length ≤ p + 1 + 1 := by have h := congrArg List.length HDR.out; rw [List.length_drop] at h; simp [tl] at h; omega
              go_wp2_with fail
              refine wp_loop_rounds 2 ?_
              rw [rounds_succ]
              go_wp2_with fail
              refine HBN3.out.mono ?_
              rintro e w4 ⟨rfl, m4, rfl⟩
              go_wp2_with fail
              rw [rounds_succ]
              go_wp2_with fail
              go_step3
              go_wp2_with fail
              refine wp_loop_rounds 1 ?_
              rw [rounds_succ]
              go_wp2_with fail
              refine wp_loop_rounds 2 ?_
              rw [rounds_succ]
              go_wp2_with fail
              rw [rounds_succ]
              go_wp2_with fail
              simp only [Exit.jump]
              have hfin := fin_app HOWN3.out HB3.out HD3.out HEL3.out m4 (.int .i64 ((done.length : Int) + 1))
              have HFIN := Lib.hid hfin
              clear hfin
              go_ret3
              refine ⟨.slice (some ⟨g3, 0, none⟩) (done.length + 1) cap3, xs ++ [.slice (some ⟨g9, 0, none⟩) b1.length c9], rfl, HFIN.out.1, ?_, ?_⟩
              · have h := HFIN.out.2.2.1
                have e : toks.length = done.length + 1 := by rw [HT'.out]; simp
                rw [e]
                exact h
              · have h := HFIN.out.2.2.2
                rw [HT'.out, List.map_append]
                exact h
            | cons t2 r2 =>
              have hc44 : ce = 44 := by have := HCE.out; simp only [tl, List.cons.injEq] at this; exact this.1.symm
              subst hc44
              go_wp2_with (at_builtin; refine wpList_appE rfl _ _ rfl (B := W.heap.size) (wr := wr) HOWNR.out hszr (.slice (some ⟨g9, 0, none⟩) b1.length c9) rfl rfl rfl (by omega) ?_)
              intro v3 w3 hown3 hg3
              obtain ⟨g3, cap3, hv3, _, _⟩ := hown3.form (by omega)
              subst hv3
              obtain ⟨hb3, hd3, hel3⟩ := after_app (wb := wr) HOWNR.out HBELR.out HDIMSR.out HELR.out HNEW.out hg3
              have hE3 := HE.out.keep (Keeps5.below hb3)
              have hce3 : w3.cell? ⟨g, p + 1, none⟩ = some (.int .u8 44) := by
                have := hE3.cell.2.2 (p + 1) hend
                rw [Nat.zero_add, HEND.out] at this
                exact this
              have hcd3 : w3.cell? ⟨gd, 0, none⟩ = some (.int .u8 44) := (HD.out.keep (Keeps5.below hb3)).cell.2.2 0 (by decide)
              have hdc3 : w3.cell? ⟨W.heap.size, 0, none⟩ = some (.int .i64 (done.length : Nat)) := by rw [cell_of_row _ _ _ _ _ _ hd3]; rfl
              have hdf3 : w3.frozen? ⟨W.heap.size, 0, none⟩ = false := by simp [World.frozen?, hd3]
              have HB3 := Lib.hid hb3
              have HD3 := Lib.hid hd3
              have HEL3 := Lib.hid hel3
              have HOWN3 := Lib.hid hown3
              have HBN3 := Lib.hid (begins_yes g (p + 1) (s.length - (p + 1)) (cap - (p + 1)) gd cd w3 (by omega) (by omega) hce3 hcd3)
              clear hb3 hd3 hel3 hown3 hg3 hE3
              skip
              go_wp2_with fail
              refine wp_loop_rounds 2 ?_
              rw [rounds_succ]
              go_wp2_with fail
              refine HBN3.out.mono ?_
              rintro e w4 ⟨rfl, m4, rfl⟩
              go_wp2_with fail
              go_step3
              have hps := ps_next (e := (p + 1)) HT'.out HDROP.out HPP.out hend HOWN3.out HB3.out HD3.out HEL3.out m4
              refine ⟨rfl, ⟨rfl, rfl, rfl, rfl, rfl, rfl, rfl, _, (p + 1) + 1, rfl, by go_num, Lib.hid hps⟩, ?_⟩
              simp [intOf]
              omega
          | cons c b3 =>
            by_cases hcc : c = 34 ∨ c = 92
            · have hdr := q3 rfl
              rw [esc, if_pos hcc, List.cons_append] at hdr
              obtain ⟨_, hsp, hdr2⟩ := drop_head hdr
              have hp1' : p + 1 < s.length := by
                have h := congrArg List.length hdr2
                rw [List.length_drop] at h
                simp at h
                omega
              have hcw2 : wr.cell? ⟨g, p, none⟩ = some (.int .u8 92) := by rw [hcw, hsp]; rfl
              have HQN : Hid (QR i b r s (p + 1) true b1 (c :: b3)) := Lib.hid ⟨q1, by
                rw [q2]
                simp only [Bool.toNat_true, Bool.toNat_false]
                try omega, (fun h => by cases h), fun _ => ⟨c, b3, rfl, hcc, hdr2⟩⟩
              have HN := hst9
              clear q1 q2 q3 q4 hcc hdr hsp hdr2 hq hcw hst9
              go_wp2_with fail
              go_roundw
              case rel => exact ⟨rfl, p + 1, true, b1, c :: b3, g9, c9, by go_num, rfl, rfl, hp1', hb1s, HQN, HN⟩
              case measure => simp [intOf]; omega
            · have hdr := q3 rfl
              rw [esc, if_neg hcc, List.cons_append] at hdr
              obtain ⟨_, hsp, hdr2⟩ := drop_head hdr
              have hp1' : p + 1 < s.length := by
                have h := congrArg List.length hdr2
                rw [List.length_drop] at h
                simp at h
                omega
              have hb1c : (b1 ++ [c]).length ≤ s.length := by
                have h := congrArg List.length q1
                simp at h ⊢
                omega
              obtain ⟨z, hz⟩ : ∃ z : Int, (c.toNat : Int) = z := ⟨_, rfl⟩
              rw [hsp, hz] at hcw
              have HZ := Lib.hid hz
              have e34 : (z == 34) = false := by
                have : z ≠ 34 := fun h => hcc (Or.inl (UInt8.toNat_inj.1 (by show c.toNat = 34; omega)))
                simpa using this
              have e92 : (z == 92) = false := by
                have : z ≠ 92 := fun h => hcc (Or.inr (UInt8.toNat_inj.1 (by show c.toNat = 92; omega)))
                simpa using this
              have HQN : Hid (QR i b r s (p + 1) false (b1 ++ [c]) b3) := Lib.hid ⟨by rw [q1]; simp, by
                rw [esc_append, List.length_append, q2]
                simp only [esc, if_neg hcc, List.length_cons, List.length_nil, Bool.toNat_false]
                omega, fun _ => hdr2, fun h => by cases h⟩
              clear q1 q2 q3 q4 hcc hdr hsp hdr2 hz hq
              go_wp2_with (at_builtin; refine wpList_app1 rfl _ _ rfl hst9.out c HZ.out rfl rfl (by simp; omega) ?_)
              intro v91 w91 hst1
              obtain ⟨g91, c91, hv91, _, _⟩ := hst1.own.form (by simp)
              have e91 : 0 + (b1 ++ [c]).length = (b1 ++ [c]).length := Nat.zero_add _
              rw [e91] at hv91
              subst hv91
              have HN := Lib.hid hst1
              clear hst1 hst9 e91
              go_wp2_with fail
              go_roundw
              case rel => exact ⟨rfl, p + 1, false, b1 ++ [c], b3, g91, c91, by go_num, rfl, rfl, hp1', hb1c, HQN, HN⟩
              case measure => simp [intOf]; omega
end Go.Proofs.YtbbjjkcjpdmjnaaGreatDoor

/- Walks of the law FnBack: parseArray at the empty literal, and scanLinearArray. -/
namespace Go.Proofs.YtbbjjkcjpdmjnaaGreatDoor
open Go.RowKit

structure PJ0 (W : World) (g cap : Nat) (a : Act) (w : World) : Prop where
  defers : a.defers = []
  size : a.tmps.size = 221
  s0 : a.tmps.getD 0 undef = .slice (some ⟨g, 0, none⟩) 2 cap
  s4 : a.tmps.getD 4 undef = .slice none 0 0
  s5 : a.tmps.getD 5 undef = .slice (some ⟨W.heap.size, 0, none⟩) 0 0
  s6 : a.tmps.getD 6 undef = .nilIface
  s7 : a.tmps.getD 7 undef = .int .i64 1
  s8 : a.tmps.getD 8 undef = .int .i64 1
  world : w = W.alloc (.cells #[] 50)

set_option maxRecDepth 1000000 in
set_option maxHeartbeats 4000000 in
theorem parseArray_none (W : World) (g cap gd cd : Nat) (h0 : W.cell? ⟨g, 0, none⟩ = some (.int .u8 123)) (h1 : W.cell? ⟨g, 1, none⟩ = some (.int .u8 125)) (hcap : 2 ≤ cap) :
    Calls Tryz.prog 50 #[.slice (some ⟨g, 0, none⟩) 2 cap, .slice (some ⟨gd, 0, none⟩) 1 cd] W fun e w' => e = .returned (.tuple #[.slice none 0 0, .slice (some ⟨W.heap.size, 0, none⟩) 0 0, .nilIface]) ∧ w' = W.alloc (.cells #[] 50) := by
  have hg : g < W.heap.size := Lib.lt_of_cell h1
  have h1' : (W.alloc (.cells #[] 50)).cell? ⟨g, 1, none⟩ = some (.int .u8 125) := (World.cell?_alloc_lt _ _ _ hg).trans h1
  have hmk : ∀ w : World, (Instr.makeSlice 54 (.int .i64 0) (.int .i64 0)).run Tryz.prog w = .ok (.slice (some ⟨w.heap.size, 0, none⟩) 0 0) (w.alloc (.cells #[] 50)) := fun _ => by kernel_rfl
  have HMK := Lib.hid hmk
  have H1 := Lib.hid h1'
  clear hmk h1'
  go_enter Tryz.func50, Tryz.ntmps50
  go_wp2_with fail
  refine wp_scope_jumps 0 (PJ0 W g cap) (fun _ _ => 0) (fl_skip rfl (fl_skip rfl (fl_skip rfl (fl_skip rfl (fl_skip rfl (fl_skip rfl (fl_skip rfl (fl_skip rfl fl_label)))))))) ?_ ?_
  · go_wp2_with fail
    go_step3
    go_wp2_with fail
    refine wp_loop_rounds 2 ?_
    rw [rounds_succ]
    go_wp2_with fail
    rw [rounds_succ]
    have hmk := HMK.out
    go_wp2_with fail
    clear hmk
    go_step3
    exact ⟨rfl, rfl, rfl, rfl, rfl, rfl, rfl, rfl, rfl, rfl⟩
  · rintro a w ⟨hd, hsz, s0, s4, s5, s6, s7, s8, hw⟩
    obtain ⟨u, hu, ha⟩ := frame221 a hd hsz
    rw [(hu 0).trans s0, (hu 4).trans s4, (hu 5).trans s5, (hu 6).trans s6, (hu 7).trans s7, (hu 8).trans s8] at ha
    clear hd hsz s0 s4 s5 s6 s7 s8 hu
    subst ha
    subst hw
    have h2 := H1.out
    go_wp2_with fail
    refine wp_loop_rounds 2 ?_
    rw [rounds_succ]
    go_wp2_with fail
    rw [rounds_succ]
    go_wp2_with fail
    refine wp_loop_rounds 1 ?_
    rw [rounds_succ]
    go_wp2_with fail
    simp only [Exit.jump]
    go_ret3
    exact ⟨rfl, rfl⟩

/-- The literal of a list. -/
def litOf : List Tok → List UInt8
  | [] => [123, 125]
  | t :: r => lit t r

/-- What scanLinearArray answers. -/
def LDone (W : World) (ls : List (List UInt8)) (e : Ending) (w' : World) : Prop :=
  ∃ A n c xs, e = .returned (.tuple #[.slice A n c, .nilIface]) ∧ n = ls.length ∧ Below W.heap.size W w' ∧ Elems w' xs ls ∧ (0 < n → ∃ ge, A = some ⟨ge, 0, none⟩ ∧ ∀ j v, xs[j]? = some v → w'.cell? ⟨ge, j, none⟩ = some v)

set_option maxHeartbeats 1000000 in
theorem scanLinear (W : World) (s : List UInt8) (toks : List Tok) (g cap gd cd : Nat) (ty : ByteArray) (hs : s = litOf toks) (hok : ∀ t ∈ toks, t.Ok) (hcap : s.length ≤ cap) (hlen : s.length ≤ 1000000) (hk : toks.length ≤ 1000)
    (hE : Elem W (.slice (some ⟨g, 0, none⟩) s.length cap) s) (hD : Elem W (.slice (some ⟨gd, 0, none⟩) 1 cd) [44]) :
    Calls Tryz.prog 41 #[.slice (some ⟨g, 0, none⟩) s.length cap, .slice (some ⟨gd, 0, none⟩) 1 cd, .string ty] W (LDone W (toks.map Tok.val)) := by
  cases toks with
  | nil =>
    have hs2 : s = [123, 125] := hs
    subst hs2
    have hc := hE.cell.2.2
    have HP := Lib.hid (parseArray_none W g cap gd cd (hc 0 (by decide)) (hc 1 (by decide)) hcap)
    have HF : Hid (LDone W ([].map Tok.val) (.returned (.tuple #[.slice (some ⟨W.heap.size, 0, none⟩) 0 0, .nilIface])) (W.alloc (.cells #[] 50))) := Lib.hid ⟨_, 0, 0, [], rfl, rfl, (Below.refl _ _).alloc (Nat.le_refl _) _, Elems.nil _, fun h => absurd h (by decide)⟩
    clear hE hD hc hs hok
    have e2 : ([123, 125] : List UInt8).length = 2 := rfl
    rw [e2] at *
    go_enter Tryz.func41, Tryz.ntmps41
    go_wp2_with fail
    refine HP.out.mono ?_
    rintro e w' ⟨rfl, hw⟩
    have hw' := hw.symm
    subst hw'
    clear hw
    go_wp2_with fail
    go_ret2
    exact HF.out
  | cons t r =>
    have HP := Lib.hid (parseArray_some W s (t :: r) t r g cap gd cd hs rfl hok hcap hlen hk hE hD)
    clear hE hD hs hok
    go_enter Tryz.func41, Tryz.ntmps41
    go_wp2_with fail
    refine HP.out.mono ?_
    rintro e w' ⟨v, xs, rfl, hb, hown, hel⟩
    obtain ⟨ge, ce, hv, _, _⟩ := hown.form (by simp)
    subst hv
    have hcells := hown.cells (g := ge) rfl
    have HF : Hid (LDone W ((t :: r).map Tok.val) (.returned (.tuple #[.slice (some ⟨ge, 0, none⟩) (t :: r).length ce, .nilIface])) w') :=
      Lib.hid ⟨_, _, _, xs, rfl, by simp, hb, hel, fun _ => ⟨ge, rfl, fun j v hj => by
        have := hcells j v hj
        rw [Lib.add_plain, Nat.zero_add] at this
        exact this⟩⟩
    clear hb hown hel hcells
    go_wp2_with fail
    go_ret2
    exact HF.out
end Go.Proofs.YtbbjjkcjpdmjnaaGreatDoor
