/-
  Part of the proof; holds the texts L5C.
-/
import Derived.Test.YtkanmkcojlefbaaGreatDoorM49
import Derived.Test.YtkanmkcojlefbaaGreatDoorM50
set_option maxRecDepth 100000
set_option linter.unusedSimpArgs false
set_option linter.unusedVariables false
namespace Go.Proofs.YtkanmkcojlefbaaGreatDoor
open Go.ChangeShapes Go.WideShapes Go.ChangeAt Go.RowKit
namespace Wri
theorem B2E (H:Type) (enc:TypeId×Value->H) (W:World) (AC:Nat) (args:Array Value) (ds gs:List (DataW H)) (AA:List MemPlace)
  (AB:∀ (j:Nat) t v,Tryz.f5.params[j]?=some t->args[j]?=some v->Value.okWide Tryz.prog W .any AC t v)
  (hW:DataW.Whole enc Tryz.prog Tryz.f5.params.toList Rows.fnWrittenIsReadSpec.vars false W args.toList ds gs AA) (hk:Rows.uptoSmall H (ds++gs)=true) (hL:laidMetH Tryz.prog Rows.fnWrittenIsReadUptoRow.laid W):
  Calls Tryz.prog 5 args W λe W'=>∃v,e= .returned v/\Rows.fnWrittenIsReadSpec.post enc Tryz.prog Tryz.f5 false true false false W args v W':=by
 have AG:=hW;obtain⟨p,q,AE,hV,rfl,AT,AU⟩:=hW;have hA:DataW.TrodAll enc Tryz.prog W 0 (λ_=>true) true Tryz.f5.params.toList args.toList ds p:=AE;rw[Tryz.params5] at hA AB;obtain⟨v0,AV,d0,AR,p0,q0,AH,rfl,rfl,h0,r0⟩:=trodAll_cons hA;obtain⟨rfl,rfl,rfl⟩:=trodAll_nil r0;obtain rfl:args=#[v0]:=by cases args;simp_all
 obtain⟨rfl,rfl⟩:=trodVars_none hV;have AJ:=h0;obtain⟨f0,AL⟩:=h0;obtain⟨ps,n,c,rfl⟩:=okWide_slice Tryz.underlying45 (AB 0 45 v0 rfl rfl);obtain⟨F,hF,AP,AD⟩:=B9D (v:= .slice ps n c) AL;clear AE
 have AS:Rows.uptoBulk d0<=1048576:=by
  have h:=hk;rw[QH] at h;have h:Rows.uptoBulkAll [d0]<=1048576:=of_decide_eq_true h;simp only[Rows.uptoBulkAll] at h;omega
 have AQ:szs F<=13*Rows.uptoBulk d0:=AP;have AI:F.length<=Rows.uptoBulk d0:=AD;have AO:∀x∈p0,x.block<W.heap.size:=λx hx=>by simpa using AG.lt x (by simp[hx])
 rw[MakeChecks.laidMetH_plain _ _ _ (by kernel_rfl)] at hL;obtain⟨E,AM⟩:=A8v (show laidMet Tryz.prog Rows.fnFieldsComeFirstRow.laid W from hL);refine(C1f W.heap.size E W AM _ F hF (by omega) (by omega)).mono λe W' ⟨he,hb⟩=> ?_;subst he;exact⟨_,rfl,_,_,_,[],_,[],AG,trodAll_cons_mk (shut_bool Tryz.underlying4 _) trodAll_mk0,trodAll_cons_mk (Below.trod jf1 (by kernel_rfl) (of_decide_eq_true (by kernel_rfl)) AJ hb AO) trodAll_mk0,rfl,hb.frame _,λh=>by cases h⟩
end Wri
end Go.Proofs.YtkanmkcojlefbaaGreatDoor
