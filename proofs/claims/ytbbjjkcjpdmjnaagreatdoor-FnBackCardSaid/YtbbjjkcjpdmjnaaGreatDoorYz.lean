/-
  FnBack: for every kind and every list of items the law returns true (what an array of a kind writes it reads as it was), and the arguments read behind the call as they did before. Conditions: those of the given row alone: the listed package-level variables read as their initialisers lay them (the card ties that to the program's text; two great tables are pinned by the form's constants).
-/
import Derived.Test.YtbbjjkcjpdmjnaaGreatDoorYy
import Derived.Test.YtbbjjkcjpdmjnaaGreatDoorRows
import Derived.Test.YtbbjjkcjpdmjnaaGreatDoorCards
import Derived.Test.YtbbjjkcjpdmjnaaGreatDoorTie
import Derived.ProofKit
import Derived.OpenShut
import Derived.LaidMore
import Derived.Lay
import Derived.SevenTiedAt
import Derived.Stop.Joined
import Derived.Lib.LaidTab
import Derived.Carry
namespace Go.Proofs.YtbbjjkcjpdmjnaaGreatDoor
open Go.ChangeShapes Go.WideShapes Go.ChangeAt Go.RowKit

theorem own : ownKnob Tryz.prog.godebug = none := by kernel_rfl
theorem laidOut : laidOutB Tryz.prog = true := by kernel_rfl
theorem cells32 : Tryz.prog.cellsOf 32 = 5 := by kernel_rfl
theorem cells4 : Tryz.prog.cellsOf 4 = 1 := by kernel_rfl
theorem cells9 : Tryz.prog.cellsOf 9 = 1 := by kernel_rfl
theorem cells2 : Tryz.prog.cellsOf 2 = 1 := by kernel_rfl
theorem cells30 : Tryz.prog.cellsOf 30 = 1 := by kernel_rfl

section
variable {H : Type} {enc : TypeId × Value → H} {W : World} {base : Nat} {sp : Nat → Bool} {held : Bool}
set_option maxRecDepth 100000 in
/-- What reads as an item is one. -/
theorem item_of {fuel : Nat} {cs : List Value} {y : DataW H × List MemPlace} (h : DataW.trod enc Tryz.prog W base sp held fuel 32 cs = some y) : ∃ x : It, It.wf x ∧ cs = x.cells := by
  obtain ⟨xs, n, _, _, hl, hlen, hf⟩ := DataW.trod_struct Tryz.underlying32 h
  have hl5 : cs.length = 5 := hl.trans cells32
  match cs, hl5 with
  | [c0, c1, c2, c3, c4], _ =>
    match xs, hlen with
    | [y0, y1, y2, y3, y4], _ =>
      have h0 : DataW.trod enc Tryz.prog W base sp held n 4 (([c0, c1, c2, c3, c4].drop 0).take (Tryz.prog.cellsOf 4)) = some y0 := hf 0 _ rfl
      have h1 : DataW.trod enc Tryz.prog W base sp held n 9 (([c0, c1, c2, c3, c4].drop 1).take (Tryz.prog.cellsOf 9)) = some y1 := hf 1 _ rfl
      have h2 : DataW.trod enc Tryz.prog W base sp held n 2 (([c0, c1, c2, c3, c4].drop 2).take (Tryz.prog.cellsOf 2)) = some y2 := hf 2 _ rfl
      have h3 : DataW.trod enc Tryz.prog W base sp held n 30 (([c0, c1, c2, c3, c4].drop 3).take (Tryz.prog.cellsOf 30)) = some y3 := hf 3 _ rfl
      have h4 : DataW.trod enc Tryz.prog W base sp held n 4 (([c0, c1, c2, c3, c4].drop 4).take (Tryz.prog.cellsOf 4)) = some y4 := hf 4 _ rfl
      rw [cells4] at h0 h4
      rw [cells9] at h1
      rw [cells2] at h2
      rw [cells30] at h3
      obtain ⟨b0, e0, _⟩ := DataW.trod_bool Tryz.underlying4 h0
      obtain ⟨s1, e1, _⟩ := DataW.trod_string Tryz.underlying9 h1
      obtain ⟨n2, e2, _, w2⟩ := DataW.trod_int Tryz.underlying2 h2
      obtain ⟨r3, e3, _, w3⟩ := trod_flt Tryz.underlying30 h3
      obtain ⟨b4, e4, _⟩ := DataW.trod_bool Tryz.underlying4 h4
      injection e0 with e0 _
      injection e1 with e1 _
      injection e2 with e2 _
      injection e3 with e3 _
      injection e4 with e4 _
      subst e0 e1 e2 e3 e4
      refine ⟨⟨b0, s1, n2, r3, b4⟩, ⟨by simpa [Lit.wf] using w3, ?_⟩, rfl⟩
      have := w2
      simp only [Lit.wf, Bool.and_eq_true, decide_eq_true_eq] at this
      exact this

theorem spot_none {a : Addr} {v : Value} (h : W.cell? a = some v) : a.spot = none := by
  unfold World.cell? at h
  split at h
  · split at h
    · cases h
    · rename_i h2
      simpa using h2
  · cases h
theorem add_form {a : Addr} (hs : a.spot = none) (k : Nat) : a.add k = ⟨a.block, a.off + k, none⟩ := by
  obtain ⟨b, o, s⟩ := a
  dsimp only at hs
  subst hs
  unfold Addr.add
  split
  · rename_i h
    subst h
    rfl
  · rfl

theorem list_of {P : Nat → It → Prop} : ∀ n : Nat, (∀ i, i < n → ∃ x, P i x) → ∃ its : List It, its.length = n ∧ ∀ (i : Nat) x, its[i]? = some x → P i x
  | 0, _ => ⟨[], rfl, fun i x h => by simp at h⟩
  | n + 1, h => by
    obtain ⟨its, hl, hp⟩ := list_of n (fun i hi => h i (by omega))
    obtain ⟨x, hx⟩ := h n (by omega)
    refine ⟨its ++ [x], by simp [hl], fun i y hy => ?_⟩
    rcases Nat.lt_or_ge i its.length with hi | hi
    · rw [List.getElem?_append_left hi] at hy
      exact hp i y hy
    · rw [List.getElem?_append_right hi] at hy
      obtain h0 | h0 : i - its.length = 0 ∨ 1 ≤ i - its.length := by omega
      · rw [h0] at hy
        simp at hy
        subst hy
        have : i = n := by omega
        rw [this]; exact hx
      · rw [List.getElem?_eq_none (by simpa using h0)] at hy; cases hy

/-- An argument that reads as a list of items. -/
theorem items_of {fuel : Nat} {A : Option Addr} {n c : Nat} {y : DataW H × List MemPlace} (h : DataW.trod enc Tryz.prog W base sp held fuel 22 [.slice A n c] = some y) :
    ∃ (its : List It) (ga oa : Nat), its.length = n ∧ n ≤ 9223372036854775807 ∧ (0 < n → A = some ⟨ga, oa, none⟩) ∧ Its W ga oa its ∧ ∀ x ∈ its, It.wf x := by
  rcases Go.Deep.open_slice Tryz.underlying22 h with ⟨hcs, _⟩ | ⟨a, len, cap, m, k, D, Pl, hcs, _, hl, hm, hmm, _, hi⟩
  · injection hcs with hcs _
    injection hcs with h1 h2 h3
    subst h1 h2 h3
    exact ⟨[], 0, 0, rfl, by omega, fun h => absurd h (by omega), fun i x hx => by simp at hx, fun x hx => by cases hx⟩
  · injection hcs with hcs _
    injection hcs with h1 h2 h3
    subst h1 h2 h3
    have hnm : n ≤ m := by rw [hmm]; split <;> omega
    have hel : ∀ i, i < n → ∃ x : It, It.wf x ∧ ∀ (j : Nat) u, x.cells[j]? = some u → W.cell? (a.add (i * 5 + j)) = some u := by
      intro i hin
      obtain ⟨cs', hc, ht⟩ := hi i (by omega)
      obtain ⟨x, hw, rfl⟩ := item_of ht
      rw [cells32] at hc
      obtain ⟨_, _, hat⟩ := World.cells?_some hc
      refine ⟨x, hw, fun j u hu => ?_⟩
      have hj : j < 5 := (List.getElem?_eq_some_iff.1 hu).1
      have := hat j hj
      rw [Go.Deep.add_add] at this
      exact this.trans hu
    have hsp : 0 < n → a.spot = none := fun h0 => by
      obtain ⟨x, _, hx⟩ := hel 0 h0
      have := hx 0 _ rfl
      exact spot_none (a := a) this
    obtain ⟨its, hits, hp⟩ := list_of n hel
    refine ⟨its, a.block, a.off, hits, by unfold maxLen at hm; omega, fun h0 => ?_, fun i x hx j u hu => ?_, fun x hx => ?_⟩
    · have := hsp h0
      obtain ⟨b, o, s⟩ := a
      dsimp only at this
      subst this
      rfl
    · have hin : i < n := by rw [← hits]; exact (List.getElem?_eq_some_iff.1 hx).1
      have := (hp i x hx).2 j u hu
      rw [add_form (hsp (by omega))] at this
      rw [Nat.add_assoc]
      exact this
    · obtain ⟨i, hi2, hix⟩ := List.getElem_of_mem hx
      exact (hp i x (by rw [List.getElem?_eq_getElem hi2, hix])).1
end

set_option maxRecDepth 100000 in
theorem lifted (os : Os) (started : os.Started) (H : Type) (enc : TypeId × Value → H) :
    ReturnsInHanded {} Tryz.checked os 3 .any (fun w args => (Rows.fnBackSpec.pre enc Tryz.prog Tryz.f3 Rows.fnBackRow.domain false w args ∧ laidMetH Tryz.prog Rows.fnBackRow.laid w) ∧ sizedMet enc Tryz.prog Tryz.f3 (OpenSpec.ofChange Rows.fnBackSpec) false w args)
      (Rows.fnBackSpec.post enc Tryz.prog Tryz.f3 false true false false) := by
  refine returnsInHanded_of_change_and (C := Tryz.checked) (X := fun w _ => laidMetH Tryz.prog Rows.fnBackRow.laid w) (fun _ _ _ hh h => h.of_heap hh) own started (by kernel_rfl) Tryz.func3
    (ChangeSpec.witness_shaped (enc := enc) (C := Tryz.checked) (os := os) (X := fun w _ => laidMetH Tryz.prog Rows.fnBackRow.laid w) false (World.laidAll Tryz.prog os Rows.fnBackRow.laid) #[.int .i64 0, .slice none 0 0] 8 (World.laidAll_os _ _ _)
      (World.shaped_of_ZipB (by kernel_rfl) (by kernel_rfl)) (by kernel_rfl) (by kernel_rfl) (by kernel_rfl)
      (by rw [MakeChecks.laidMetH_plain _ _ _ (by kernel_rfl)]; exact laidMet_laidAll _ (by kernel_rfl) (by kernel_rfl))) ?_
  intro W base args ds gs before hval0 hW _ _ hL _
  have hval : ∀ (j : Nat) t v, Tryz.f3.params[j]? = some t → args[j]? = some v → Value.okWide Tryz.prog W .any base t v := hval0
  have hW' := hW
  obtain ⟨p, q, hA0, hV, rfl, _, _⟩ := hW
  have hA : DataW.TrodAll enc Tryz.prog W 0 (fun _ => true) true Tryz.f3.params.toList args.toList ds p := hA0
  rw [Tryz.params3] at hA hval
  obtain ⟨v0, v1, d0, d1, p0, p1, rfl, rfl, rfl, h0, h1⟩ := trodAll_two hA
  obtain ⟨rfl, rfl⟩ := trodVars_none hV
  obtain ⟨n, rfl, rfl, rfl, wn⟩ := open_int Tryz.underlying3 (hval 0 3 v0 rfl rfl) h0
  obtain ⟨a0, len, cap, rfl⟩ := okWide_slice Tryz.underlying22 (hval 1 22 v1 rfl rfl)
  have h1k := h1
  obtain ⟨fuel, hf⟩ := h1
  clear hA0 hval0
  simp only [List.append_nil] at hW'
  have hlt : ∀ x ∈ p1, x.block < W.heap.size := fun x hx => by
    have := hW'.lt x (List.mem_append_right _ hx)
    simpa using this
  obtain ⟨its, ga, oa, hits, hk, hA2, hI, hwf⟩ := items_of hf
  refine (law_all n W (globs_of hL) a0 ga oa len cap its hits hk hA2 hI hwf).mono ?_
  rintro e W' ⟨rfl, hb⟩
  refine ⟨_, rfl, _, _, _, [], [] ++ p1, [], hW', ?_, ?_, ?_, hb.frame _, fun h => by cases h⟩
  · exact trodAll_mk1 (shut_bool Tryz.underlying4 true)
  · exact trodAll_mk2 (shut_int Tryz.underlying3 wn) (Below.trod laidOut (by kernel_rfl) (of_decide_eq_true (by kernel_rfl)) h1k hb hlt)
  · rfl

theorem holds : Rows.FnBackSaid :=
  OpenClaim.holds_of_wide 3 Tryz.f3 rfl rfl rfl rfl rfl rfl rfl ⟨rfl, rfl, rfl, rfl, rfl⟩ rfl rfl rfl rfl rfl (by kernel_rfl) Tryz.func3 (by kernel_rfl)
    (of_decide_eq_true (by kernel_rfl)) (by unfold Func.isWrapper; first | (rw [if_pos (by decide +kernel)]; kernel_rfl) | (rw [if_neg (by decide +kernel)]; exact ⟨rfl, rfl⟩))
    (fun os started H enc _ => lifted os started H enc)

theorem card_holds : Rows.FnBackCardSaid :=
  Claim7.holds_tied_plain_at .later [] [.data, .data, .widerDeep, .widerDeep, .data, .data, .data, .data, .data, .sentinel, .sentinel, .sentinel, .pinned, .pinned] true (true, "0ac3d874e7da3373762679e5b29f754b57a60d3dbb2f13fffa8192f78db11df7") true holds (fun _ h => by cases h) (by kernel_rfl) (fun _ h => by cases h) fnBack_row_tie rfl ⟨rfl, rfl⟩ (by kernel_rfl) rfl
    (fun f fn hf hfn => by
      obtain rfl : f = 3 := Option.some.inj ((show Tryz.prog.funcNamed "given.example/pub-engrossment/laws.FnBack" = some 3 by kernel_rfl).symm.trans hf) |>.symm
      obtain rfl : fn = Tryz.f3 := (Option.some.inj (Tryz.func3.symm.trans hfn)).symm
      exact ⟨by kernel_rfl, fun j t ht => by
        rw [Tryz.params3] at ht
        have hm : t ∈ [3, 22] := by simpa using Array.mem_of_getElem? ht
        have hall : ([3, 22].all fun u => !Tryz.prog.wantsStandIn u) = true := by kernel_rfl
        exact (show Tryz.prog.wantsStandIn t = false by simpa using List.all_eq_true.1 hall t hm)⟩)
    (by kernel_rfl)
#print axioms card_holds
end Go.Proofs.YtbbjjkcjpdmjnaaGreatDoor
