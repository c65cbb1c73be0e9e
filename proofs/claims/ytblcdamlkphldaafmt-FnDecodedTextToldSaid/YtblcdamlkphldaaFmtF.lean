/-
  FnDecodedText: for every text and every boolean the law returns true (the text of a text is itself, that of bytes in the hex format the bytes, t and f are booleans), and the arguments read behind the call as they did before. Conditions: those of the given row alone: encoding/hex.ErrLength reads as its initialiser lays it (the card ties that to the program's text); the seat was turned with the translator's switch '-farwalls': functions that no drawn input enters stand without a body, and no run comes to one.
-/
import Derived.Test.YtblcdamlkphldaaFmtE
import Derived.Test.YtblcdamlkphldaaFmtRows
import Derived.Test.YtblcdamlkphldaaFmtCards
import Derived.Test.YtblcdamlkphldaaFmtTie
import Derived.Stop.JoinedTold
import Derived.SevenToldRow
import Derived.SevenTiedAt
import Derived.ProofKit
import Derived.Stop.JoinedAt
import Derived.Stop.LaidErr
import Derived.Lay
namespace Go.Proofs.YtblcdamlkphldaaFmt
open Go.ChangeShapes Go.WideShapes Go.ChangeAt Go.RowKit Go.Kit
open Go.ChangeMaps (open_string shut_string)
open Go.Extern.Stop Go.Stop Go.Extern

theorem own : ownKnob Tryf.prog.godebug = none := by kernel_rfl
theorem star : "*" ++ "errors.errorString" = "*errors.errorString" := by decide

theorem laid_met (os : Os) (args : Array Value) : laidMet Tryf.prog Rows.fnDecodedTextRow.laid ((World.laidAll Tryf.prog os Rows.fnDecodedTextRow.laid).forCall (fun _ _ => 0) ⟨#[], args, []⟩).memory :=
  laidMet_laidAll args (by kernel_rfl) (by kernel_rfl)

theorem errLength_named : Tryf.prog.globalNamed "encoding/hex.ErrLength" = some 0 := by kernel_rfl

theorem row67 (u : TypeId) (h : Tryf.prog.typeName? 3 u = some "*errors.errorString") : u = 67 :=
  typeName_ptr_named (nm := "errors.errorString") (by rw [star]; kernel_rfl) (by kernel_rfl) (by decide) u (by rw [star]; exact h)

set_option maxRecDepth 100000 in
set_option maxHeartbeats 1600000 in
theorem lifted (os : Os) (started : os.Started) (H : Type) (enc : TypeId × Value → H) :
    ReturnsInTold none {} Tryf.checked os 3 .any Input.okWide ((OpenSpec.ofChange Rows.fnDecodedTextSpec).preRow enc Tryf.prog Tryf.f3 [] false Rows.fnDecodedTextRow.laid) (fun F => ((OpenSpec.ofChange Rows.fnDecodedTextSpec).at F.told).post enc Tryf.prog Tryf.f3 false true false false) (aloneAtReturn Tryf.prog) nothingAlways := by
  refine returnsInTold_of_row (C := Tryf.checked) (s := OpenSpec.ofChange Rows.fnDecodedTextSpec) (by kernel_rfl) own started (by kernel_rfl) Tryf.func3
    (OpenSpec.witness_stopped_at (enc := enc) (C := Tryf.checked) false (World.laidAll Tryf.prog os Rows.fnDecodedTextRow.laid) #[.string ⟨#[]⟩, .bool false] (World.laidAll_os _ _ _) (by kernel_rfl) (by kernel_rfl) (by kernel_rfl)
      (OpenSpec.preRow_of_B rfl 8 (by kernel_rfl) (by kernel_rfl) (laid_met os _))) ?_
  intro F W base0 args ds gs before _ hF hval0 hW _ _ _ hL _
  have hval : ∀ (j : Nat) t v, Tryf.f3.params[j]? = some t → args[j]? = some v → Value.okWide Tryf.prog W .any base0 t v := hval0
  have hW' := hW
  obtain ⟨p, q, hA0, hV0, rfl, hfz, hnd⟩ := hW
  have hA : DataW.TrodAll enc Tryf.prog W 0 (fun _ => true) true Tryf.f3.params.toList args.toList ds p := hA0
  rw [Tryf.params3] at hA hval
  obtain ⟨v0, v1, d0, d1, p0, p1, rfl, rfl, rfl, h0, h1⟩ := trodAll_two hA
  obtain ⟨rfl, rfl⟩ := trodVars_none hV0
  obtain ⟨s, rfl, rfl, rfl, ws⟩ := open_string Tryf.underlying9 (hval 0 9 v0 rfl rfl) h0
  obtain ⟨b, rfl, rfl, rfl⟩ := open_bool Tryf.underlying4 (hval 1 4 v1 rfl rfl) h1
  obtain ⟨a1, s1, hv1, _, _, _⟩ := laid_sentinel hL errLength_named (by kernel_rfl) Tryf.underlying36 row67 Tryf.underlying67 Tryf.underlying69 rfl rfl Tryf.underlying9 (by kernel_rfl) (by kernel_rfl)
  have hg1 : W.cell? ⟨0, 0, none⟩ = some (.iface 67 (.pointer (some a1))) := by simpa using World.var?_cell errLength_named hv1 0
  have e1 : ((OpenSpec.ofChange Rows.fnDecodedTextSpec).at F.told).fn H ([.lit (.string s.data.toList), .lit (.bool b)] ++ []) = { results := [.lit (.bool true)], args := [.lit (.string s.data.toList), .lit (.bool b)] } := rfl
  have fin : ∀ (e : Ending) W', (e = .returned (.bool true) ∧ Below W.heap.size W W') → ∃ v, e = .returned v ∧ ((OpenSpec.ofChange Rows.fnDecodedTextSpec).at F.told).post enc Tryf.prog Tryf.f3 false true false false W #[.string s, .bool b] v W' := by
    rintro e W' ⟨rfl, hb⟩
    refine ⟨_, rfl, _, _, _, [], [], [], hW', ?_, ?_, ?_, hb.frame _, fun h => by cases h⟩
    · rw [e1]; exact trodAll_mk1 (shut_bool Tryf.underlying4 true)
    · rw [e1]; exact trodAll_mk2 (shut_string Tryf.underlying9 ws) (shut_bool Tryf.underlying4 b)
    · rw [e1]; rfl
  by_cases hs : s.size ≤ 500
  · exact (law_short s b W hs _ hg1).mono fun e W' h => fin e W' h
  · exact (law_long s b W (by omega) ws).mono fun e W' ⟨he, hw⟩ => fin e W' ⟨he, by rw [hw]; exact Below.refl _ _⟩

theorem laidOut : laidOutB Tryf.pinned.checked.prog = true := by kernel_rfl
theorem stops : Tryf.pinned.checked.prog.stops = ["fmt.Sprintf"] := by kernel_rfl
theorem stopKnobs : Tryf.pinned.checked.prog.stopKnobs = [] := by kernel_rfl
theorem quiet (os : Os) : Stop.quiet Tryf.pinned.checked.prog os := by
  intro k hk
  rw [stopKnobs] at hk
  cases hk

theorem card_holds : Rows.FnDecodedTextToldSaid :=
  Claim7.holds_of_told_tied_any_at .later 3 Tryf.f3 "fmt.Sprintf" [] [] _ _ _ _ _ (by kernel_rfl) rfl rfl rfl laidOut (by kernel_rfl) rfl ⟨rfl, rfl, rfl, rfl, rfl, rfl, rfl⟩ rfl rfl (by kernel_rfl) (by kernel_rfl) Tryf.func3 (by kernel_rfl)
    (of_decide_eq_true (by kernel_rfl)) (of_decide_eq_true (by kernel_rfl)) stops.symm rfl stopKnobs.symm (by kernel_rfl)
    (by kernel_rfl) (by kernel_rfl) (by kernel_rfl) (by kernel_rfl) (by kernel_rfl) (by kernel_rfl) (by kernel_rfl) (by kernel_rfl) (by kernel_rfl) rfl (by kernel_rfl) rfl rfl
    rfl rfl
    rfl (by kernel_rfl) (by kernel_rfl) (by kernel_rfl) (by decide) (by kernel_rfl) fnDecodedText_row_tie
    (OpenClaim.moreEntering_of (by kernel_rfl) (by kernel_rfl) (by kernel_rfl) (by kernel_rfl) (by kernel_rfl) (by kernel_rfl) (by kernel_rfl) (by kernel_rfl) (by kernel_rfl) (by kernel_rfl))
    ⟨_, WideRow.started_initial, quiet _⟩
    (fun os started _ H enc _ => lifted os started H enc)
#print axioms card_holds
end Go.Proofs.YtblcdamlkphldaaFmt
