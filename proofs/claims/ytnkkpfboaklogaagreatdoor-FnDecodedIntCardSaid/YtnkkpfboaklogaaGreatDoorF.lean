/-
  FnDecodedInt: for every byte and every int64 the law returns true (the text of a whole number is the number, at each of the three types), and the arguments read behind the call as they did before. Conditions: those of the given row alone: internal/strconv.uint64pow10 reads as its initialiser lays it (the card ties that to the program's text); the seat was turned with the translator's switch '-farwalls': functions that no drawn input enters stand without a body, and no run comes to one.
-/
import Derived.Test.YtnkkpfboaklogaaGreatDoorE
import Derived.Test.YtnkkpfboaklogaaGreatDoorRows
import Derived.Test.YtnkkpfboaklogaaGreatDoorCards
import Derived.Test.YtnkkpfboaklogaaGreatDoorTie
import Derived.ProofKit
import Derived.OpenShut
import Derived.LaidMore
import Derived.Lay
import Derived.SevenTiedAt
import Derived.Stop.Joined
import Derived.Lib.LaidTab
namespace Go.Proofs.YtnkkpfboaklogaaGreatDoor
open Go.ChangeShapes Go.WideShapes Go.ChangeAt Go.RowKit

theorem own : ownKnob Tryz.prog.godebug = none := by kernel_rfl

theorem tab_of {W : World} (h : laidMetH Tryz.prog Rows.fnDecodedIntRow.laid W) : Lib.TabIs Tryz.prog W "internal/strconv.uint64pow10" .u64 Lib.pow10Tab := by
  rw [MakeChecks.laidMetH_plain _ _ _ (by kernel_rfl)] at h
  exact Lib.tabIs_of_head (rest := []) (g := 0) (t := 74) (e := 63) (n := 20) (by kernel_rfl) (by kernel_rfl) Tryz.underlying74 Tryz.underlying63 (by kernel_rfl) (by kernel_rfl) h

set_option maxRecDepth 100000 in
theorem lifted (os : Os) (started : os.Started) (H : Type) (enc : TypeId × Value → H) :
    ReturnsInHanded {} Tryz.checked os 3 .any (fun w args => (Rows.fnDecodedIntSpec.pre enc Tryz.prog Tryz.f3 Rows.fnDecodedIntRow.domain false w args ∧ laidMetH Tryz.prog Rows.fnDecodedIntRow.laid w) ∧ sizedMet enc Tryz.prog Tryz.f3 (OpenSpec.ofChange Rows.fnDecodedIntSpec) false w args)
      (Rows.fnDecodedIntSpec.post enc Tryz.prog Tryz.f3 false true false false) := by
  refine returnsInHanded_of_change_and (C := Tryz.checked) (X := fun w _ => laidMetH Tryz.prog Rows.fnDecodedIntRow.laid w) (fun _ _ _ hh h => h.of_heap hh) own started (by kernel_rfl) Tryz.func3
    (ChangeSpec.witness_shaped (enc := enc) (C := Tryz.checked) (os := os) (X := fun w _ => laidMetH Tryz.prog Rows.fnDecodedIntRow.laid w) false (World.laidAll Tryz.prog os Rows.fnDecodedIntRow.laid) #[.int .u8 0, .int .i64 0] 8 (World.laidAll_os _ _ _)
      (World.shaped_of_ZipB (by kernel_rfl) (by kernel_rfl)) (by kernel_rfl) (by kernel_rfl) (by kernel_rfl)
      (by rw [MakeChecks.laidMetH_plain _ _ _ (by kernel_rfl)]; exact laidMet_laidAll _ (by kernel_rfl) (by kernel_rfl))) ?_
  intro W base args ds gs before hval0 hW _ _ hL _
  have hval : ∀ (j : Nat) t v, Tryz.f3.params[j]? = some t → args[j]? = some v → Value.okWide Tryz.prog W .any base t v := hval0
  have hW' := hW
  obtain ⟨p, q, hA0, hV, rfl, _, _⟩ := hW
  have hA : DataW.TrodAll enc Tryz.prog W 0 (fun _ => true) true Tryz.f3.params.toList args.toList ds p := hA0
  rw [Tryz.params3] at hA hval
  obtain ⟨v0, v1, d0, d1, p0, p1, rfl, rfl, rfl, h0, h1⟩ := trodAll_two hA
  obtain ⟨rfl, rfl⟩ := trodVars_none hV
  obtain ⟨x, rfl, rfl, rfl, wx⟩ := open_int Tryz.underlying5 (hval 0 5 v0 rfl rfl) h0
  obtain ⟨n, rfl, rfl, rfl, wn⟩ := open_int Tryz.underlying2 (hval 1 2 v1 rfl rfl) h1
  have bx : 0 ≤ x ∧ x ≤ 255 := by have h := wx; simp only [Lit.wf, Bool.and_eq_true, decide_eq_true_eq] at h; exact h
  have bn : -9223372036854775808 ≤ n ∧ n ≤ 9223372036854775807 := by have h := wn; simp only [Lit.wf, Bool.and_eq_true, decide_eq_true_eq] at h; exact h
  have htab := tab_of hL
  refine (law_any x bx.1 bx.2 n bn.1 bn.2 W htab).mono ?_
  rintro e W' ⟨rfl, hb⟩
  refine ⟨_, rfl, _, _, _, [], [], [], hW', ?_, ?_, ?_, hb.frame _, fun h => by cases h⟩
  · exact trodAll_mk1 (shut_bool Tryz.underlying4 true)
  · exact trodAll_mk2 (shut_int Tryz.underlying5 wx) (shut_int Tryz.underlying2 wn)
  · rfl

theorem holds : Rows.FnDecodedIntSaid :=
  OpenClaim.holds_of_wide 3 Tryz.f3 rfl rfl rfl rfl rfl rfl rfl ⟨rfl, rfl, rfl, rfl, rfl⟩ rfl rfl rfl rfl rfl (by kernel_rfl) Tryz.func3 (by kernel_rfl)
    (of_decide_eq_true (by kernel_rfl)) (by unfold Func.isWrapper; first | (rw [if_pos (by decide +kernel)]; kernel_rfl) | (rw [if_neg (by decide +kernel)]; exact ⟨rfl, rfl⟩))
    (fun os started H enc _ => lifted os started H enc)

theorem card_holds : Rows.FnDecodedIntCardSaid :=
  Claim7.holds_tied_plain_at .later [] [.data] true (true, "703de0d456502be377bbcb8d095e1d58bc342aa490cdf4895aafb6deece110b9") true holds (fun _ h => by cases h) (by kernel_rfl) (fun _ h => by cases h) fnDecodedInt_row_tie rfl ⟨rfl, rfl⟩ (by kernel_rfl) rfl
    (fun f fn hf hfn => by
      obtain rfl : f = 3 := Option.some.inj ((show Tryz.prog.funcNamed "given.example/pub-engrossment/laws.FnDecodedInt" = some 3 by kernel_rfl).symm.trans hf) |>.symm
      obtain rfl : fn = Tryz.f3 := (Option.some.inj (Tryz.func3.symm.trans hfn)).symm
      exact ⟨by kernel_rfl, fun j t ht => by
        rw [Tryz.params3] at ht
        have hm : t ∈ [5, 2] := by simpa using Array.mem_of_getElem? ht
        have hall : ([5, 2].all fun u => !Tryz.prog.wantsStandIn u) = true := by kernel_rfl
        exact (show Tryz.prog.wantsStandIn t = false by simpa using List.all_eq_true.1 hall t hm)⟩)
    (by kernel_rfl)
#print axioms card_holds
end Go.Proofs.YtnkkpfboaklogaaGreatDoor
