/-
  laws.FnFieldsComeFirst returns true for every header and every list of values: what the fields of a header tell comes ahead of records of its own with the keys of fields. Conditions: the listed package-level variables hold what the program's text lays (tied by the card); none else.
-/
import Derived.Test.YtkanmkcojlefbaaGreatDoorCards
import Derived.Test.YtkanmkcojlefbaaGreatDoorTie
import Derived.Test.YtkanmkcojlefbaaGreatDoorM00
import Derived.Test.YtkanmkcojlefbaaGreatDoorM51
import Derived.Test.YtkanmkcojlefbaaGreatDoorM50
import Derived.OpenShut
import Derived.Deep.DeepHandedRow
import Derived.Deep.DeepWitnessRowRef
import Derived.SevenTiedAt
set_option maxRecDepth 100000
set_option linter.unusedSimpArgs false
set_option linter.unusedVariables false
namespace Go.Proofs.YtkanmkcojlefbaaGreatDoor
open Go.ChangeShapes Go.WideShapes Go.ChangeAt Go.RowKit
namespace Fld
set_option maxRecDepth 100000
def wit : Array Value := #[.agg #[.int .u8 0,.string ⟨#[]⟩,.string ⟨#[]⟩,.int .i64 0,.int .i64 0,.int .i64 0,.int .i64 0,.string ⟨#[]⟩,.string ⟨#[]⟩,.int .i64 0,.int .i64 0,.bool false,.int .i64 0,.int .i64 0,.bool false,.int .i64 0,.int .i64 0,.int .i64 0,.int .i64 0,.slice none 0 0,.int .i64 0],.slice none 0 0]
theorem laid_met (os : Os) : laidMet Tryz.prog Rows.fnFieldsComeFirstRow.laid ((laidWorld os).forCall (fun _ _ => 0) ⟨#[],wit,[]⟩).memory :=
  laidMet_of_run' 8 (by kernel_rfl) (by kernel_rfl)
theorem reads (os : Os) {H : Type} (enc : TypeId × Value → H) : ∃ places,DataW.whole enc Tryz.prog ((laidWorld os).forCall (fun _ _ => 0) ⟨#[],wit,[]⟩).memory Tryz.f6.params.toList Rows.fnFieldsComeFirstSpec.vars false wit.toList 8 = some ([.agg [.lit (.int .u8 0),.lit (.string []),.lit (.string []),.lit (.int .i64 0),.lit (.int .i64 0),.lit (.int .i64 0),.lit (.int .i64 0),.lit (.string []),.lit (.string []),.agg [.lit (.int .i64 0),.lit (.int .i64 0)],.lit (.bool false),.agg [.lit (.int .i64 0),.lit (.int .i64 0)],.lit (.bool false),.agg [.lit (.int .i64 0),.lit (.int .i64 0)],.lit (.int .i64 0),.lit (.int .i64 0),.nil,.lit (.int .i64 0)],.nil],[],places) :=
  ⟨[],by kernel_rfl⟩
theorem lifted (os : Os) (started : os.Started) (H : Type) (enc : TypeId × Value → H) (F : Stop.Interp) :
    ReturnsInHanded {} Tryz.checked os 6 .any ((OpenSpec.ofChange Rows.fnFieldsComeFirstSpec).preRow enc Tryz.prog Tryz.f6 Rows.fnFieldsComeFirstRow.domain false Rows.fnFieldsComeFirstRow.laid) (((OpenSpec.ofChange Rows.fnFieldsComeFirstSpec).at F).post enc Tryz.prog Tryz.f6 false true false false) := by
  obtain ⟨places,hx⟩ := reads os enc
  refine returnsInHanded_of_row (C := Tryz.checked) (s := OpenSpec.ofChange Rows.fnFieldsComeFirstSpec) own started (by kernel_rfl) Tryz.func6
    (witness_row_atRef (enc := enc) (C := Tryz.checked) false (laidWorld os) wit rfl (by kernel_rfl) (by kernel_rfl) (by kernel_rfl)
      (OpenSpec.preRow_of_cond 8 hx (by kernel_rfl) (fun k hk => by cases hk) (by kernel_rfl) (laid_met os))) ?_
  intro W base args ds gs before hval hW _ _ _ hL _ _
  exact contract H enc W base args ds gs before hval hW hL
theorem closed : joinedFacts Tryz.prog 6 Tryz.f6 (OpenSpec.ofChange Rows.fnFieldsComeFirstSpec).bare Rows.fnFieldsComeFirstRow = true := by
  unfold joinedFacts
  refine andT ?_ jf31
  refine andT ?_ jf30
  refine andT ?_ jf29
  refine andT ?_ jf28
  refine andT ?_ jf27
  refine andT ?_ jf26
  refine andT ?_ jf25
  refine andT ?_ jf24
  refine andT ?_ jf23
  refine andT ?_ jf22
  refine andT ?_ jf21
  refine andT ?_ jf20
  refine andT ?_ jf19
  refine andT ?_ jf18
  refine andT ?_ jf17
  refine andT ?_ jf16
  refine andT ?_ jf15
  refine andT ?_ jf14
  refine andT ?_ jf13
  refine andT ?_ jf12
  refine andT ?_ jf11
  refine andT ?_ jf10
  refine andT ?_ jf9
  refine andT ?_ jf8
  refine andT ?_ jf7
  refine andT ?_ jf6
  refine andT ?_ jf5
  refine andT ?_ jf4
  refine andT ?_ jf3
  refine andT ?_ jf2
  refine andT ?_ jf1
  exact jf0
theorem named6 : Tryz.pinned.checked.prog.funcNamed Rows.fnFieldsComeFirstRow.func = some 6 := by kernel_rfl
theorem inst6 : Tryz.f6.isInstance Tryz.pinned.checked.prog Rows.fnFieldsComeFirstRow.origin Rows.fnFieldsComeFirstRow.targs := of_decide_eq_true (by kernel_rfl)
theorem wrap6 : Tryz.f6.isWrapper Tryz.pinned.checked.prog Rows.fnFieldsComeFirstRow.wrapper Rows.fnFieldsComeFirstRow.mainSum := by
  unfold Func.isWrapper
  rw [if_neg (by decide +kernel)]
  exact ⟨rfl,rfl⟩
theorem said : Rows.FnFieldsComeFirstSaid :=
  OpenClaim.holds_of_cond 6 Tryz.f6 rfl rfl rfl rfl rfl rfl rfl ⟨rfl,rfl,rfl,rfl,rfl⟩ rfl rfl rfl rfl rfl named6 Tryz.func6 closed
    inst6 wrap6
    (fun os started H enc _ F => by rw [OpenClaim.pre_eq_preRow]; exact lifted os started H enc F)
theorem plain (f : FuncId) (fn : Func) (hf : Tryz.pinned.checked.prog.funcNamed "tapearchives/laws.FnFieldsComeFirst" = some f) (hfn : Tryz.pinned.checked.prog.funcs[f]? = some fn) :
    true = Tryz.pinned.checked.prog.looks [] ∧ ∀ (j : Nat) t,fn.params[j]? = some t → Tryz.pinned.checked.prog.wantsStandIn t = false := by
  obtain rfl : f = 6 := Option.some.inj ((show Tryz.prog.funcNamed "tapearchives/laws.FnFieldsComeFirst" = some 6 by kernel_rfl).symm.trans hf) |>.symm
  obtain rfl : fn = Tryz.f6 := (Option.some.inj (Tryz.func6.symm.trans hfn)).symm
  refine ⟨by kernel_rfl,fun j t ht => ?_⟩
  rw [Tryz.params6] at ht
  have ht : t = 26 ∨ t = 54 := by simpa using Array.mem_of_getElem? ht
  rcases ht with rfl | rfl
  · exact (show Tryz.prog.wantsStandIn 26 = false by kernel_rfl)
  · exact (show Tryz.prog.wantsStandIn 54 = false by kernel_rfl)
theorem card : Rows.FnFieldsComeFirstCardSaid :=
  Claim7.holds_tied_plain_at .later [] _ _ _ _ said (fun _ h => by cases h) (by kernel_rfl) (fun _ h => by cases h) fnFieldsComeFirst_row_tie rfl ⟨rfl,rfl⟩ (by kernel_rfl) rfl plain (by kernel_rfl)
end Fld
end Go.Proofs.YtkanmkcojlefbaaGreatDoor
#print axioms Go.Proofs.YtkanmkcojlefbaaGreatDoor.Fld.card
