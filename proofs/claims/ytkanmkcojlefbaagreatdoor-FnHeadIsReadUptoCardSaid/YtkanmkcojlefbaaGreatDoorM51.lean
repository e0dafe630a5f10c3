/-
  Part of the proof; holds the texts L3C.
-/
import Derived.Test.YtkanmkcojlefbaaGreatDoorM49
import Derived.Test.YtkanmkcojlefbaaGreatDoorM50
set_option maxRecDepth 100000
set_option linter.unusedSimpArgs false
set_option linter.unusedVariables false
namespace Go.Proofs.YtkanmkcojlefbaaGreatDoor
open Go.ChangeShapes Go.WideShapes Go.ChangeAt Go.RowKit
namespace Hdr
theorem B2R {W:World} {AB:Nat} {v:Value} {h:IH} (AA:Value.okWide Tryz.prog W .any AB 26 v) (hc:v.cells.toList=h.cells):v= .agg h.cells.toArray:=by
 unfold Value.okWide at AA;rw[Tryz.underlying26] at AA;obtain⟨cs,rfl,-,-⟩:=AA;have:cs.toList=h.cells:=hc;rw[<-this]
theorem B2E (H:Type) (enc:TypeId×Value->H) (W:World) (AC:Nat) (args:Array Value) (ds gs:List (DataW H)) (AA:List MemPlace)
  (AB:∀ (j:Nat) t v,Tryz.f3.params[j]?=some t->args[j]?=some v->Value.okWide Tryz.prog W .any AC t v)
  (hW:DataW.Whole enc Tryz.prog Tryz.f3.params.toList Rows.fnHeadIsReadSpec.vars false W args.toList ds gs AA) (hk:Rows.uptoSmall H (ds++gs)=true) (hL:laidMetH Tryz.prog Rows.fnHeadIsReadUptoRow.laid W):
  Calls Tryz.prog 3 args W λe W'=>∃v,e= .returned v/\Rows.fnHeadIsReadSpec.post enc Tryz.prog Tryz.f3 false true false false W args v W':=by
 have AI:=hW;obtain⟨p,q,AH,hV,rfl,AW,AX⟩:=hW;have hA:DataW.TrodAll enc Tryz.prog W 0 (λ_=>true) true Tryz.f3.params.toList args.toList ds p:=AH;rw[Tryz.params3] at hA AB;obtain⟨v0,AY,d0,AU,p0,q0,AJ,rfl,rfl,h0,r0⟩:=trodAll_cons hA;obtain⟨rfl,rfl,rfl⟩:=trodAll_nil r0;obtain rfl:args=#[v0]:=by cases args;simp_all
 obtain⟨rfl,rfl⟩:=trodVars_none hV;have AO:=h0;obtain⟨f0,AR⟩:=h0;obtain⟨h,Lr,AQ,AG,AE,AD⟩:=B2v AR;obtain rfl:=B2R (AB 0 26 v0 rfl rfl) AQ;clear AH
 have AP:Rows.uptoBulkAll [d0]<=1048576:=by
  have h:=hk;rw[List.append_nil] at h;exact of_decide_eq_true h
 have AV:Rows.uptoBulk d0<=1048576:=by
  simp only[Rows.uptoBulkAll] at AP;omega
 have AL:h.name.length+h.link.length+h.user.length+h.group.length+L1 Lr<=12*Rows.uptoBulk d0:=AD;have AS:∀x∈p0,x.block<W.heap.size:=λx hx=>by simpa using AI.lt x (by simp[hx])
 rw[MakeChecks.laidMetH_plain _ _ _ (by kernel_rfl)] at hL;obtain⟨E,AM⟩:=A8v (show laidMet Tryz.prog Rows.fnFieldsComeFirstRow.laid W from hL);have AT:=A6O Lr;refine(B8c W.heap.size E W AM h Lr AE (by omega) (by omega) AG (E 0) (AM.err 0 (by decide))).mono λe W' ⟨he,hb⟩=> ?_;subst he;exact⟨_,rfl,_,_,_,[],_,[],AI,trodAll_cons_mk (shut_bool Tryz.underlying4 _) trodAll_mk0,trodAll_cons_mk (Below.trod jf1 (by kernel_rfl) (of_decide_eq_true (by kernel_rfl)) AO hb AS) trodAll_mk0,rfl,hb.frame _,λh=>by cases h⟩
end Hdr
end Go.Proofs.YtkanmkcojlefbaaGreatDoor
