/-
  The closed facts of the row of Empty, one by one.
-/
import Derived.Test.YtkanmkcojlefbaaGreatDoorRows
import Derived.JoinedOf
import Derived.KernelRfl
namespace Go.Proofs.YtkanmkcojlefbaaGreatDoor.Empty
open Go
theorem andT {a b : Bool} (ha : a = true) (hb : b = true) : (a && b) = true := by rw [ha, hb]; rfl
theorem jf0 : (Rows.fnEmptyRow.wf (OpenSpec.ofChange (OpenSpec.ofChange Rows.fnEmptySpec).bare)) = true := by kernel_rfl
theorem jf1 : (laidOutB Tryz.prog) = true := by kernel_rfl
theorem jf2 : (mapsRowed Tryz.prog) = true := by kernel_rfl
theorem jf3 : (Tryz.f4.params.all (Tryz.prog.readableRec ·)) = true := by kernel_rfl
theorem jf4 : (namedTie Tryz.prog Rows.fnEmptyRow.named (OpenSpec.ofChange Rows.fnEmptySpec).bare.vars) = true := by kernel_rfl
theorem jf5 : ((Rows.fnEmptyRow.stops == [])) = true := by kernel_rfl
theorem jf6 : ((Tryz.prog.stops == [])) = true := by kernel_rfl
theorem jf7 : ((Rows.fnEmptyRow.knobs == [])) = true := by kernel_rfl
theorem jf8 : ((Tryz.prog.stopKnobs == [])) = true := by kernel_rfl
theorem jf9 : ((Rows.fnEmptyRow.inPlace == Tryz.prog.inPlace 4)) = true := by kernel_rfl
theorem jf10 : ((Rows.fnEmptyRow.unfollowed == Tryz.prog.unfollowed 4)) = true := by kernel_rfl
theorem jf11 : ((Rows.fnEmptyRow.recurses == Tryz.prog.recurses 4)) = true := by kernel_rfl
theorem jf12 : ((Rows.fnEmptyRow.named == Tryz.prog.varsNamed 4)) = true := by kernel_rfl
theorem jf13 : ((Rows.fnEmptyRow.maps == (Tryz.f4.params.toList ++ (OpenSpec.ofChange Rows.fnEmptySpec).bare.plain.varTypes Tryz.prog).any (Tryz.prog.mapsRec ·))) = true := by kernel_rfl
theorem jf14 : ((Rows.fnEmptyRow.ifaces == (Tryz.f4.params.toList ++ (OpenSpec.ofChange Rows.fnEmptySpec).bare.plain.varTypes Tryz.prog).any (Tryz.prog.ifacesRec ·))) = true := by kernel_rfl
theorem jf15 : ((Rows.fnEmptyRow.mapsOut == Tryz.prog.mapsAmong Tryz.f4.resultTypes.toList)) = true := by kernel_rfl
theorem jf16 : ((Rows.fnEmptyRow.loops == (Tryz.f4.params.toList ++ (OpenSpec.ofChange Rows.fnEmptySpec).bare.plain.varTypes Tryz.prog).any (Tryz.prog.loopsFrom ·))) = true := by kernel_rfl
theorem jf17 : ((Rows.fnEmptyRow.wideKeys == (Tryz.f4.params.toList ++ (OpenSpec.ofChange Rows.fnEmptySpec).bare.plain.varTypes Tryz.prog ++ Tryz.f4.resultTypes.toList).any (Tryz.prog.wideKeysFrom ·))) = true := by kernel_rfl
theorem jf18 : ((OpenSpec.ofChange Rows.fnEmptySpec).bare.vars.all (Tryz.prog.varReadable ·)) = true := by kernel_rfl
theorem jf19 : (Tryz.f4.resultTypes.all (fun t => Tryz.prog.readableRec t && decide (t < Tryz.prog.types.size))) = true := by kernel_rfl
theorem jf20 : ((Rows.fnEmptyRow.ifacesOut == Tryz.f4.resultTypes.toList.any (Tryz.prog.ifacesRec ·))) = true := by kernel_rfl
theorem jf21 : ((Rows.fnEmptyRow.loopsOut == Tryz.f4.resultTypes.toList.any (Tryz.prog.loopsFrom ·))) = true := by kernel_rfl
theorem jf22 : ((Rows.fnEmptyRow.plainKeys == Tryz.prog.plainKeys)) = true := by kernel_rfl
theorem jf23 : (Rows.fnEmptyRow.shortTexts.isNone) = true := by kernel_rfl
theorem jf24 : (Tryz.prog.stopsHeard) = true := by kernel_rfl
theorem jf25 : (Tryz.prog.mayEnter) = true := by kernel_rfl
theorem jf26 : ((Rows.fnEmptyRow.lifted == Tryz.prog.liftsFinal)) = true := by kernel_rfl
theorem jf27 : ((Tryz.prog.make == some Rows.fnEmptyRow.make)) = true := by kernel_rfl
theorem jf28 : ((Rows.fnEmptyRow.kinds == (if Rows.fnEmptyRow.domain.isEmpty then [] else Tryz.f4.params.toList.map fun t => match Tryz.prog.underlying t with | some (.int k) => some k | _ => none))) = true := by kernel_rfl
theorem jf29 : ((Rows.fnEmptyRow.pinned == Rows.fnEmptyRow.pinnedBy)) = true := by kernel_rfl
theorem jf30 : ((Rows.fnEmptyRow.veiled == (Tryz.f4.params.toList ++ (OpenSpec.ofChange Rows.fnEmptySpec).bare.plain.varTypes Tryz.prog ++ Tryz.f4.resultTypes.toList).any (Tryz.prog.veiledRec ·))) = true := by kernel_rfl
theorem jf31 : (Rows.fnEmptyRow.veiledFits Tryz.prog Tryz.f4.params.toList (Tryz.f4.params.toList ++ (OpenSpec.ofChange Rows.fnEmptySpec).bare.plain.varTypes Tryz.prog ++ Tryz.f4.resultTypes.toList)) = true := by kernel_rfl
end Go.Proofs.YtkanmkcojlefbaaGreatDoor.Empty
