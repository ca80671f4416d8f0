/- PROVED: for every list of entries and every comment, of whatever size, laws.FnZip returns true and its arguments read behind the call as before. CONDITIONS: the fourteen package-level variables that the row lists (twelve errors, two tables of unicode/utf8) hold what the row lists; the card ties that to the program's text. -/
import Derived.Test.YtlmefkhglooepaaGreatDoorPart14
import Derived.Test.YtlmefkhglooepaaGreatDoorCards
import Derived.Test.YtlmefkhglooepaaGreatDoorTie
import Derived.MakeChecks
set_option linter.unusedSimpArgs false
set_option linter.unusedVariables false
namespace Go.Proofs.YtlmefkhglooepaaGreatDoor
open Go Go.ChangeShapes Go.RowKit Go.WideShapes Go.ChangeAt
set_option linter.unusedSimpArgs false
set_option linter.unusedVariables false
set_option maxRecDepth 100000
theorem reads {H : Type} (os : Os) (enc : TypeId × Value → H) : DataW.whole enc P (wMem os) Tryz.f3.params.toList Rows.fnZipSpec.vars false wArgs.toList 8 =
    some ([.nil, .lit (.string [])], [.held (enc (174, .pointer (some ⟨low + 9, 0, none⟩))), .held (enc (174, .pointer (some ⟨low + 6, 0, none⟩))), .held (enc (174, .pointer (some ⟨low + 7, 0, none⟩))), .held (enc (174, .pointer (some ⟨low + 8, 0, none⟩))), .held (enc (174, .pointer (some ⟨low + 10, 0, none⟩))), .held (enc (174, .pointer (some ⟨low + 11, 0, none⟩)))],
      [.cell 0 0, .cell 2 0, .cell 1 0, .cell 4 0, .cell 6 0, .cell 7 0]) := by kernel_rfl
theorem plainH (w : World) : laidMetH P Rows.fnZipRow.laid w = laidMet P Rows.fnZipRow.laid w := MakeChecks.laidMetH_plain P _ w (by kernel_rfl)
theorem lifted (os : Os) (started : os.Started) (H : Type) (enc : TypeId × Value → H) (F : Stop.Interp) :
    ReturnsInHanded {} Tryz.checked os 3 .any ((OpenSpec.ofChange Rows.fnZipSpec).preRow enc Tryz.prog Tryz.f3 Rows.fnZipRow.domain false Rows.fnZipRow.laid) (((OpenSpec.ofChange Rows.fnZipSpec).at F).post enc Tryz.prog Tryz.f3 Rows.fnZipRow.apart Rows.fnZipRow.fresh Rows.fnZipRow.handsOn Rows.fnZipRow.again) := by
  have hx := reads os enc
  refine returnsInHanded_of_row (C := Tryz.checked) (s := OpenSpec.ofChange Rows.fnZipSpec) ownK started (by kernel_rfl) Tryz.func3
    (witness_row_at (enc := enc) (C := Tryz.checked) false (laidWorld os) wArgs rfl (by kernel_rfl) (by kernel_rfl) (by kernel_rfl)
      (OpenSpec.preRow_of_cond 8 hx (by kernel_rfl) (fun k hk => by cases hk) (by kernel_rfl) ((plainH _).mpr (laid_met os)))) ?_
  intro W base args ds gs before hval hW _ _ _ hL _ _
  exact contract H enc W base args ds gs before _ _ _ hval hW ((plainH W).mp hL)
theorem fnZip_said : Rows.FnZipSaid :=
  OpenClaim.holds_of_cond 3 Tryz.f3 rfl rfl rfl rfl rfl rfl rfl ⟨rfl, rfl, rfl, rfl, rfl⟩ rfl rfl rfl rfl rfl (by kernel_rfl) Tryz.func3 (by kernel_rfl)
    (of_decide_eq_true (by kernel_rfl)) (by unfold Func.isWrapper; first | (rw [if_pos (by decide +kernel)]; kernel_rfl) | (rw [if_neg (by decide +kernel)]; exact ⟨rfl, rfl⟩))
    (fun os started H enc _ F => by rw [OpenClaim.pre_eq_preRow]; exact lifted os started H enc F)
theorem plain (f : FuncId) (fn : Func) (hf : Tryz.pinned.checked.prog.funcNamed "loop.example/pub-ziptheorem/laws.FnZip" = some f) (hfn : Tryz.pinned.checked.prog.funcs[f]? = some fn) :
    true = Tryz.pinned.checked.prog.looks [] ∧ ∀ (j : Nat) t, fn.params[j]? = some t → Tryz.pinned.checked.prog.wantsStandIn t = false := by
  obtain rfl : f = 3 := Option.some.inj ((show Tryz.prog.funcNamed "loop.example/pub-ziptheorem/laws.FnZip" = some 3 by kernel_rfl).symm.trans hf) |>.symm
  obtain rfl : fn = Tryz.f3 := (Option.some.inj (Tryz.func3.symm.trans hfn)).symm
  refine ⟨by kernel_rfl, fun j t ht => ?_⟩
  rw [Tryz.params3] at ht
  have hm : t = 22 ∨ t = 9 := by simpa using Array.mem_of_getElem? ht
  rcases hm with rfl | rfl
  · exact (show Tryz.prog.wantsStandIn 22 = false by kernel_rfl)
  · exact (show Tryz.prog.wantsStandIn 9 = false by kernel_rfl)
theorem fnZip_card : Rows.FnZipCardSaid :=
  Claim7.holds_tied_plain_at .later [] _ _ _ _ fnZip_said (fun _ h => by cases h) (by kernel_rfl) (fun _ h => by cases h) fnZip_row_tie rfl ⟨rfl, rfl⟩ (by kernel_rfl) rfl plain (by kernel_rfl)
end Go.Proofs.YtlmefkhglooepaaGreatDoor
#print axioms Go.Proofs.YtlmefkhglooepaaGreatDoor.fnZip_card
