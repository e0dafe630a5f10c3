/-
  Part of the proof; holds the texts L5Facts.
-/
import Derived.Test.YtkanmkcojlefbaaGreatDoorRows
import Derived.JoinedOf
set_option maxRecDepth 100000
set_option linter.unusedSimpArgs false
set_option linter.unusedVariables false
namespace Go.Proofs.YtkanmkcojlefbaaGreatDoor.Wri
open Go
theorem W0 {a b:Bool} (ha:a=true) (hb:b=true): (a&&b)=true:=by rw[ha,hb];rfl
theorem jf0: (Rows.fnWrittenIsReadUptoRow.wf (OpenSpec.ofChange (Rows.OpenSpec.upto Rows.fnWrittenIsReadSpec).bare))=true:=by kernel_rfl
theorem jf1: (laidOutB Tryz.prog)=true:=by kernel_rfl
theorem jf2: (mapsRowed Tryz.prog)=true:=by kernel_rfl
theorem jf3: (Tryz.f5.params.all (Tryz.prog.readableRec ·))=true:=by kernel_rfl
theorem jf4: (namedTie Tryz.prog Rows.fnWrittenIsReadUptoRow.named (Rows.OpenSpec.upto Rows.fnWrittenIsReadSpec).bare.vars)=true:=by kernel_rfl
theorem jf5: ((Rows.fnWrittenIsReadUptoRow.stops==[]))=true:=by kernel_rfl
theorem jf6: ((Tryz.prog.stops==[]))=true:=by kernel_rfl
theorem jf7: ((Rows.fnWrittenIsReadUptoRow.knobs==[]))=true:=by kernel_rfl
theorem jf8: ((Tryz.prog.stopKnobs==[]))=true:=by kernel_rfl
theorem jf9: ((Rows.fnWrittenIsReadUptoRow.inPlace==Tryz.prog.inPlace 5))=true:=by kernel_rfl
theorem B8G: ((Rows.fnWrittenIsReadUptoRow.unfollowed==Tryz.prog.unfollowed 5))=true:=by kernel_rfl
theorem B8H: ((Rows.fnWrittenIsReadUptoRow.recurses==Tryz.prog.recurses 5))=true:=by kernel_rfl
theorem B8I: ((Rows.fnWrittenIsReadUptoRow.named==Tryz.prog.varsNamed 5))=true:=by kernel_rfl
theorem B8J: ((Rows.fnWrittenIsReadUptoRow.maps==(Tryz.f5.params.toList++(Rows.OpenSpec.upto Rows.fnWrittenIsReadSpec).bare.plain.varTypes Tryz.prog).any (Tryz.prog.mapsRec ·)))=true:=by kernel_rfl
theorem B8K: ((Rows.fnWrittenIsReadUptoRow.ifaces==(Tryz.f5.params.toList++(Rows.OpenSpec.upto Rows.fnWrittenIsReadSpec).bare.plain.varTypes Tryz.prog).any (Tryz.prog.ifacesRec ·)))=true:=by kernel_rfl
theorem B8L: ((Rows.fnWrittenIsReadUptoRow.mapsOut==Tryz.prog.mapsAmong Tryz.f5.resultTypes.toList))=true:=by kernel_rfl
theorem B8M: ((Rows.fnWrittenIsReadUptoRow.loops==(Tryz.f5.params.toList++(Rows.OpenSpec.upto Rows.fnWrittenIsReadSpec).bare.plain.varTypes Tryz.prog).any (Tryz.prog.loopsFrom ·)))=true:=by kernel_rfl
theorem B8N: ((Rows.fnWrittenIsReadUptoRow.wideKeys==(Tryz.f5.params.toList++(Rows.OpenSpec.upto Rows.fnWrittenIsReadSpec).bare.plain.varTypes Tryz.prog++Tryz.f5.resultTypes.toList).any (Tryz.prog.wideKeysFrom ·)))=true:=by kernel_rfl
theorem B8O: ((Rows.OpenSpec.upto Rows.fnWrittenIsReadSpec).bare.vars.all (Tryz.prog.varReadable ·))=true:=by kernel_rfl
theorem B8P: (Tryz.f5.resultTypes.all (λt=>Tryz.prog.readableRec t&&decide (t<Tryz.prog.types.size)))=true:=by kernel_rfl
theorem B8Q: ((Rows.fnWrittenIsReadUptoRow.ifacesOut==Tryz.f5.resultTypes.toList.any (Tryz.prog.ifacesRec ·)))=true:=by kernel_rfl
theorem B8R: ((Rows.fnWrittenIsReadUptoRow.loopsOut==Tryz.f5.resultTypes.toList.any (Tryz.prog.loopsFrom ·)))=true:=by kernel_rfl
theorem B8S: ((Rows.fnWrittenIsReadUptoRow.plainKeys==Tryz.prog.plainKeys))=true:=by kernel_rfl
theorem B8T: (Rows.fnWrittenIsReadUptoRow.shortTexts.isNone)=true:=by kernel_rfl
theorem B8U: (Tryz.prog.stopsHeard)=true:=by kernel_rfl
theorem B8V: (Tryz.prog.mayEnter)=true:=by kernel_rfl
theorem B8W: ((Rows.fnWrittenIsReadUptoRow.lifted==Tryz.prog.liftsFinal))=true:=by kernel_rfl
theorem B8X: ((Tryz.prog.make==some Rows.fnWrittenIsReadUptoRow.make))=true:=by kernel_rfl
theorem B8Y: ((Rows.fnWrittenIsReadUptoRow.kinds==(if Rows.fnWrittenIsReadUptoRow.domain.isEmpty then [] else Tryz.f5.params.toList.map λt=>match Tryz.prog.underlying t with|some (.int k)=>some k|_=>none)))=true:=by kernel_rfl
theorem B8Z: ((Rows.fnWrittenIsReadUptoRow.pinned==Rows.fnWrittenIsReadUptoRow.pinnedBy))=true:=by kernel_rfl
theorem B8a: ((Rows.fnWrittenIsReadUptoRow.veiled==(Tryz.f5.params.toList++(Rows.OpenSpec.upto Rows.fnWrittenIsReadSpec).bare.plain.varTypes Tryz.prog++Tryz.f5.resultTypes.toList).any (Tryz.prog.veiledRec ·)))=true:=by kernel_rfl
theorem B8b: (Rows.fnWrittenIsReadUptoRow.veiledFits Tryz.prog Tryz.f5.params.toList (Tryz.f5.params.toList++(Rows.OpenSpec.upto Rows.fnWrittenIsReadSpec).bare.plain.varTypes Tryz.prog++Tryz.f5.resultTypes.toList))=true:=by kernel_rfl
end Go.Proofs.YtkanmkcojlefbaaGreatDoor.Wri
