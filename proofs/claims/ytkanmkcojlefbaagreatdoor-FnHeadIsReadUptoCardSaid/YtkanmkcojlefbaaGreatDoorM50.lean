/-
  Part of the proof; holds the texts L3Facts.
-/
import Derived.Test.YtkanmkcojlefbaaGreatDoorRows
import Derived.JoinedOf
set_option maxRecDepth 100000
set_option linter.unusedSimpArgs false
set_option linter.unusedVariables false
namespace Go.Proofs.YtkanmkcojlefbaaGreatDoor.Hdr
open Go
theorem W0 {a b:Bool} (ha:a=true) (hb:b=true): (a&&b)=true:=by rw[ha,hb];rfl
theorem jf0: (Rows.fnHeadIsReadUptoRow.wf (OpenSpec.ofChange (Rows.OpenSpec.upto Rows.fnHeadIsReadSpec).bare))=true:=by kernel_rfl
theorem jf1: (laidOutB Tryz.prog)=true:=by kernel_rfl
theorem jf2: (mapsRowed Tryz.prog)=true:=by kernel_rfl
theorem jf3: (Tryz.f3.params.all (Tryz.prog.readableRec ·))=true:=by kernel_rfl
theorem jf4: (namedTie Tryz.prog Rows.fnHeadIsReadUptoRow.named (Rows.OpenSpec.upto Rows.fnHeadIsReadSpec).bare.vars)=true:=by kernel_rfl
theorem jf5: ((Rows.fnHeadIsReadUptoRow.stops==[]))=true:=by kernel_rfl
theorem jf6: ((Tryz.prog.stops==[]))=true:=by kernel_rfl
theorem jf7: ((Rows.fnHeadIsReadUptoRow.knobs==[]))=true:=by kernel_rfl
theorem jf8: ((Tryz.prog.stopKnobs==[]))=true:=by kernel_rfl
theorem jf9: ((Rows.fnHeadIsReadUptoRow.inPlace==Tryz.prog.inPlace 3))=true:=by kernel_rfl
theorem B8G: ((Rows.fnHeadIsReadUptoRow.unfollowed==Tryz.prog.unfollowed 3))=true:=by kernel_rfl
theorem B8H: ((Rows.fnHeadIsReadUptoRow.recurses==Tryz.prog.recurses 3))=true:=by kernel_rfl
theorem B8I: ((Rows.fnHeadIsReadUptoRow.named==Tryz.prog.varsNamed 3))=true:=by kernel_rfl
theorem B8J: ((Rows.fnHeadIsReadUptoRow.maps==(Tryz.f3.params.toList++(Rows.OpenSpec.upto Rows.fnHeadIsReadSpec).bare.plain.varTypes Tryz.prog).any (Tryz.prog.mapsRec ·)))=true:=by kernel_rfl
theorem B8K: ((Rows.fnHeadIsReadUptoRow.ifaces==(Tryz.f3.params.toList++(Rows.OpenSpec.upto Rows.fnHeadIsReadSpec).bare.plain.varTypes Tryz.prog).any (Tryz.prog.ifacesRec ·)))=true:=by kernel_rfl
theorem B8L: ((Rows.fnHeadIsReadUptoRow.mapsOut==Tryz.prog.mapsAmong Tryz.f3.resultTypes.toList))=true:=by kernel_rfl
theorem B8M: ((Rows.fnHeadIsReadUptoRow.loops==(Tryz.f3.params.toList++(Rows.OpenSpec.upto Rows.fnHeadIsReadSpec).bare.plain.varTypes Tryz.prog).any (Tryz.prog.loopsFrom ·)))=true:=by kernel_rfl
theorem B8N: ((Rows.fnHeadIsReadUptoRow.wideKeys==(Tryz.f3.params.toList++(Rows.OpenSpec.upto Rows.fnHeadIsReadSpec).bare.plain.varTypes Tryz.prog++Tryz.f3.resultTypes.toList).any (Tryz.prog.wideKeysFrom ·)))=true:=by kernel_rfl
theorem B8O: ((Rows.OpenSpec.upto Rows.fnHeadIsReadSpec).bare.vars.all (Tryz.prog.varReadable ·))=true:=by kernel_rfl
theorem B8P: (Tryz.f3.resultTypes.all (λt=>Tryz.prog.readableRec t&&decide (t<Tryz.prog.types.size)))=true:=by kernel_rfl
theorem B8Q: ((Rows.fnHeadIsReadUptoRow.ifacesOut==Tryz.f3.resultTypes.toList.any (Tryz.prog.ifacesRec ·)))=true:=by kernel_rfl
theorem B8R: ((Rows.fnHeadIsReadUptoRow.loopsOut==Tryz.f3.resultTypes.toList.any (Tryz.prog.loopsFrom ·)))=true:=by kernel_rfl
theorem B8S: ((Rows.fnHeadIsReadUptoRow.plainKeys==Tryz.prog.plainKeys))=true:=by kernel_rfl
theorem B8T: (Rows.fnHeadIsReadUptoRow.shortTexts.isNone)=true:=by kernel_rfl
theorem B8U: (Tryz.prog.stopsHeard)=true:=by kernel_rfl
theorem B8V: (Tryz.prog.mayEnter)=true:=by kernel_rfl
theorem B8W: ((Rows.fnHeadIsReadUptoRow.lifted==Tryz.prog.liftsFinal))=true:=by kernel_rfl
theorem B8X: ((Tryz.prog.make==some Rows.fnHeadIsReadUptoRow.make))=true:=by kernel_rfl
theorem B8Y: ((Rows.fnHeadIsReadUptoRow.kinds==(if Rows.fnHeadIsReadUptoRow.domain.isEmpty then [] else Tryz.f3.params.toList.map λt=>match Tryz.prog.underlying t with|some (.int k)=>some k|_=>none)))=true:=by kernel_rfl
theorem B8Z: ((Rows.fnHeadIsReadUptoRow.pinned==Rows.fnHeadIsReadUptoRow.pinnedBy))=true:=by kernel_rfl
theorem B8a: ((Rows.fnHeadIsReadUptoRow.veiled==(Tryz.f3.params.toList++(Rows.OpenSpec.upto Rows.fnHeadIsReadSpec).bare.plain.varTypes Tryz.prog++Tryz.f3.resultTypes.toList).any (Tryz.prog.veiledRec ·)))=true:=by kernel_rfl
theorem B8b: (Rows.fnHeadIsReadUptoRow.veiledFits Tryz.prog Tryz.f3.params.toList (Tryz.f3.params.toList++(Rows.OpenSpec.upto Rows.fnHeadIsReadSpec).bare.plain.varTypes Tryz.prog++Tryz.f3.resultTypes.toList))=true:=by kernel_rfl
end Go.Proofs.YtkanmkcojlefbaaGreatDoor.Hdr
