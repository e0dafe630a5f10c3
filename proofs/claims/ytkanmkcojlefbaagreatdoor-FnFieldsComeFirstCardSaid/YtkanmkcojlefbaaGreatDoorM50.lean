/-
  Part of the proof; holds the texts FldFacts.
-/
import Derived.Test.YtkanmkcojlefbaaGreatDoorRows
import Derived.JoinedOf
import Derived.KernelRfl
set_option maxRecDepth 100000
set_option linter.unusedSimpArgs false
set_option linter.unusedVariables false
namespace Go.Proofs.YtkanmkcojlefbaaGreatDoor.Fld
open Go
theorem andT {a b : Bool} (ha : a = true) (hb : b = true) : (a && b) = true := by rw [ha,hb]; rfl
theorem jf0 : (Rows.fnFieldsComeFirstRow.wf (OpenSpec.ofChange (OpenSpec.ofChange Rows.fnFieldsComeFirstSpec).bare)) = true := by kernel_rfl
theorem jf1 : (laidOutB Tryz.prog) = true := by kernel_rfl
theorem jf2 : (mapsRowed Tryz.prog) = true := by kernel_rfl
theorem jf3 : (Tryz.f6.params.all (Tryz.prog.readableRec ·)) = true := by kernel_rfl
theorem jf4 : (namedTie Tryz.prog Rows.fnFieldsComeFirstRow.named (OpenSpec.ofChange Rows.fnFieldsComeFirstSpec).bare.vars) = true := by kernel_rfl
theorem jf5 : ((Rows.fnFieldsComeFirstRow.stops == [])) = true := by kernel_rfl
theorem jf6 : ((Tryz.prog.stops == [])) = true := by kernel_rfl
theorem jf7 : ((Rows.fnFieldsComeFirstRow.knobs == [])) = true := by kernel_rfl
theorem jf8 : ((Tryz.prog.stopKnobs == [])) = true := by kernel_rfl
theorem jf9 : ((Rows.fnFieldsComeFirstRow.inPlace == Tryz.prog.inPlace 6)) = true := by kernel_rfl
theorem jf10 : ((Rows.fnFieldsComeFirstRow.unfollowed == Tryz.prog.unfollowed 6)) = true := by kernel_rfl
theorem jf11 : ((Rows.fnFieldsComeFirstRow.recurses == Tryz.prog.recurses 6)) = true := by kernel_rfl
theorem jf12 : ((Rows.fnFieldsComeFirstRow.named == Tryz.prog.varsNamed 6)) = true := by kernel_rfl
theorem jf13 : ((Rows.fnFieldsComeFirstRow.maps == (Tryz.f6.params.toList ++ (OpenSpec.ofChange Rows.fnFieldsComeFirstSpec).bare.plain.varTypes Tryz.prog).any (Tryz.prog.mapsRec ·))) = true := by kernel_rfl
theorem jf14 : ((Rows.fnFieldsComeFirstRow.ifaces == (Tryz.f6.params.toList ++ (OpenSpec.ofChange Rows.fnFieldsComeFirstSpec).bare.plain.varTypes Tryz.prog).any (Tryz.prog.ifacesRec ·))) = true := by kernel_rfl
theorem jf15 : ((Rows.fnFieldsComeFirstRow.mapsOut == Tryz.prog.mapsAmong Tryz.f6.resultTypes.toList)) = true := by kernel_rfl
theorem jf16 : ((Rows.fnFieldsComeFirstRow.loops == (Tryz.f6.params.toList ++ (OpenSpec.ofChange Rows.fnFieldsComeFirstSpec).bare.plain.varTypes Tryz.prog).any (Tryz.prog.loopsFrom ·))) = true := by kernel_rfl
theorem jf17 : ((Rows.fnFieldsComeFirstRow.wideKeys == (Tryz.f6.params.toList ++ (OpenSpec.ofChange Rows.fnFieldsComeFirstSpec).bare.plain.varTypes Tryz.prog ++ Tryz.f6.resultTypes.toList).any (Tryz.prog.wideKeysFrom ·))) = true := by kernel_rfl
theorem jf18 : ((OpenSpec.ofChange Rows.fnFieldsComeFirstSpec).bare.vars.all (Tryz.prog.varReadable ·)) = true := by kernel_rfl
theorem jf19 : (Tryz.f6.resultTypes.all (fun t => Tryz.prog.readableRec t && decide (t < Tryz.prog.types.size))) = true := by kernel_rfl
theorem jf20 : ((Rows.fnFieldsComeFirstRow.ifacesOut == Tryz.f6.resultTypes.toList.any (Tryz.prog.ifacesRec ·))) = true := by kernel_rfl
theorem jf21 : ((Rows.fnFieldsComeFirstRow.loopsOut == Tryz.f6.resultTypes.toList.any (Tryz.prog.loopsFrom ·))) = true := by kernel_rfl
theorem jf22 : ((Rows.fnFieldsComeFirstRow.plainKeys == Tryz.prog.plainKeys)) = true := by kernel_rfl
theorem jf23 : (Rows.fnFieldsComeFirstRow.shortTexts.isNone) = true := by kernel_rfl
theorem jf24 : (Tryz.prog.stopsHeard) = true := by kernel_rfl
theorem jf25 : (Tryz.prog.mayEnter) = true := by kernel_rfl
theorem jf26 : ((Rows.fnFieldsComeFirstRow.lifted == Tryz.prog.liftsFinal)) = true := by kernel_rfl
theorem jf27 : ((Tryz.prog.make == some Rows.fnFieldsComeFirstRow.make)) = true := by kernel_rfl
theorem jf28 : ((Rows.fnFieldsComeFirstRow.kinds == (if Rows.fnFieldsComeFirstRow.domain.isEmpty then [] else Tryz.f6.params.toList.map fun t => match Tryz.prog.underlying t with | some (.int k) => some k | _ => none))) = true := by kernel_rfl
theorem jf29 : ((Rows.fnFieldsComeFirstRow.pinned == Rows.fnFieldsComeFirstRow.pinnedBy)) = true := by kernel_rfl
theorem jf30 : ((Rows.fnFieldsComeFirstRow.veiled == (Tryz.f6.params.toList ++ (OpenSpec.ofChange Rows.fnFieldsComeFirstSpec).bare.plain.varTypes Tryz.prog ++ Tryz.f6.resultTypes.toList).any (Tryz.prog.veiledRec ·))) = true := by kernel_rfl
theorem jf31 : (Rows.fnFieldsComeFirstRow.veiledFits Tryz.prog Tryz.f6.params.toList (Tryz.f6.params.toList ++ (OpenSpec.ofChange Rows.fnFieldsComeFirstSpec).bare.plain.varTypes Tryz.prog ++ Tryz.f6.resultTypes.toList)) = true := by kernel_rfl
end Go.Proofs.YtkanmkcojlefbaaGreatDoor.Fld
