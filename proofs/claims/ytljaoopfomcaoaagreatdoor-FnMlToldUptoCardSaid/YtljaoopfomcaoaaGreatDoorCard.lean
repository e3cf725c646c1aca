/-
  THE LAW FnMlTold OF pub-monody: for every two values and every list of choices whose bulk together is at most 1048576, in a world that holds the listed package variables as the program's text lays them: the function returns true, and the arguments read behind the call as they read before: the tied card of the second form.
  CONDITIONS: the given row's own (the bulk; the listed variables), and nothing else.
-/
import Derived.Test.YtljaoopfomcaoaaGreatDoorCards
import Derived.Test.YtljaoopfomcaoaaGreatDoorTie
import Derived.Test.YtljaoopfomcaoaaGreatDoorM49
import Derived.Test.YtljaoopfomcaoaaGreatDoorM50
set_option linter.all false
set_option linter.all false
namespace Go.Proofs.YtljaoopfomcaoaaGreatDoor
open Go.ChangeShapes Go.WideShapes Go.ChangeAt Go.RowKit
theorem own : ownKnob Tryz.prog.godebug = none := by kernel_rfl
set_option maxRecDepth 100000 in
theorem liftedUpto (os : Os) (started : os.Started) (H : Type) (enc' : TypeId × Value → H) (F : Stop.Interp) :
 ReturnsInHanded {} Tryz.checked os 3 .any ((Rows.OpenSpec.upto Rows.fnMlToldSpec).preRow enc' Tryz.prog Tryz.f3 Rows.fnMlToldUptoRow.domain false Rows.fnMlToldUptoRow.laid) (((Rows.OpenSpec.upto Rows.fnMlToldSpec).at F).post enc' Tryz.prog Tryz.f3 false true false false) := by
 obtain ⟨places, hx⟩ := reads0 os enc'; refine returnsInHanded_of_row (C := Tryz.checked) (s := Rows.OpenSpec.upto Rows.fnMlToldSpec) own started (by kernel_rfl) Tryz.func3
  (start_fits os (OpenSpec.preRow_of_cond 8 hx (by kernel_rfl) (fun k hk => by cases hk; kernel_rfl) (by kernel_rfl) (laid_met os))) ?_
 intro W base args ds gs before hval hW _ hk _ hL hsh _; exact contract H enc' F W base args ds gs before hval hW (hk _ rfl) hL hsh
theorem saidUpto : Rows.FnMlToldUptoSaid :=
 OpenClaim.holds_of_cond 3 Tryz.f3 rfl rfl rfl rfl rfl rfl rfl ⟨rfl, rfl, rfl, rfl, rfl⟩ rfl rfl rfl rfl rfl (by kernel_rfl) Tryz.func3 (by kernel_rfl)
  (of_decide_eq_true (by kernel_rfl)) (by unfold Func.isWrapper; first | (rw [if_pos (by decide +kernel)]; kernel_rfl) | (rw [if_neg (by decide +kernel)]; exact ⟨rfl, rfl⟩))
  (fun os started H enc' _ F => by rw [OpenClaim.pre_eq_preRow]; exact liftedUpto os started H enc' F)
theorem plain (f : FuncId) (fn : Func) (hf : Tryz.pinned.checked.prog.funcNamed "given.example/pub-monody/laws.FnMlTold" = some f) (hfn : Tryz.pinned.checked.prog.funcs[f]? = some fn) :
 true = Tryz.pinned.checked.prog.looks [] ∧ ∀ (j : Nat) t, fn.params[j]? = some t → Tryz.pinned.checked.prog.wantsStandIn t = false := by
 obtain rfl : f = 3 := Option.some.inj ((show Tryz.prog.funcNamed "given.example/pub-monody/laws.FnMlTold" = some 3 by kernel_rfl).symm.trans hf) |>.symm; obtain rfl : fn = Tryz.f3 := (Option.some.inj (Tryz.func3.symm.trans hfn)).symm; refine ⟨by kernel_rfl, fun j t ht => ?_⟩; rw [Tryz.params3] at ht; have hm : t = 26 ∨ t = 27 := by simpa using Array.mem_of_getElem? ht
 rcases hm with rfl | rfl
 · exact (show Tryz.prog.wantsStandIn 26 = false by kernel_rfl)
 · exact (show Tryz.prog.wantsStandIn 27 = false by kernel_rfl)
theorem cardUpto : Rows.FnMlToldUptoCardSaid :=
 Claim7.holds_tied_plain_at .later [] _ _ _ _ saidUpto (fun _ h => by cases h) (by kernel_rfl) (fun _ h => by cases h) fnMlToldUpto_row_tie rfl ⟨rfl, rfl⟩ (by kernel_rfl) rfl plain (by kernel_rfl)
end Go.Proofs.YtljaoopfomcaoaaGreatDoor
#print axioms Go.Proofs.YtljaoopfomcaoaaGreatDoor.cardUpto
