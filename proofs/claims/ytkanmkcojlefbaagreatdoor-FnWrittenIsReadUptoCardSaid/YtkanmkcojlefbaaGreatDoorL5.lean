/-
  laws.FnWrittenIsRead returns true for every list of files whose bulk is at most 1048576: what a Writer writes of them, a Reader reads back. Conditions: that bulk (the statement's own), and the listed package-level variables hold what the program's text lays (tied by the card); none else.
-/
import Derived.Test.YtkanmkcojlefbaaGreatDoorCards
import Derived.Test.YtkanmkcojlefbaaGreatDoorTie
import Derived.Test.YtkanmkcojlefbaaGreatDoorM51
import Derived.Deep.DeepWitnessRowRef
set_option maxRecDepth 100000
set_option linter.unusedSimpArgs false
set_option linter.unusedVariables false
namespace Go.Proofs.YtkanmkcojlefbaaGreatDoor
open Go.ChangeShapes Go.WideShapes Go.ChangeAt Go.RowKit
namespace Wri
set_option maxRecDepth 100000
def wit:Array Value:=#[.slice none 0 0]
theorem B2d (os:Os):laidMet Tryz.prog Rows.fnWrittenIsReadUptoRow.laid ((A3d os).forCall (λ_ _=>0) ⟨#[],wit,[]⟩).memory:=
 laidMet_of_run' 8 (by kernel_rfl) (by kernel_rfl)
theorem reads (os:Os) {H:Type} (enc:TypeId×Value->H):∃AA,DataW.whole enc Tryz.prog ((A3d os).forCall (λ_ _=>0) ⟨#[],wit,[]⟩).memory Tryz.f5.params.toList Rows.fnWrittenIsReadSpec.vars false wit.toList 8=some ([.nil],[],AA):=
 ⟨[],by kernel_rfl⟩
theorem lifted (os:Os) (AA:os.Started) (H:Type) (enc:TypeId×Value->H) (F:Stop.Interp):
  ReturnsInHanded {} Tryz.checked os 5 .any ((Rows.OpenSpec.upto Rows.fnWrittenIsReadSpec).preRow enc Tryz.prog Tryz.f5 Rows.fnWrittenIsReadUptoRow.domain false Rows.fnWrittenIsReadUptoRow.laid) (((Rows.OpenSpec.upto Rows.fnWrittenIsReadSpec).at F).post enc Tryz.prog Tryz.f5 false true false false):=by
 obtain⟨AG,hx⟩:=reads os enc
 refine returnsInHanded_of_row (C:=Tryz.checked) (s:=Rows.OpenSpec.upto Rows.fnWrittenIsReadSpec) own AA (by kernel_rfl) Tryz.func5
  (witness_row_atRef (enc:=enc) (C:=Tryz.checked) false (A3d os) wit rfl (by kernel_rfl) (by kernel_rfl) (by kernel_rfl)
   (OpenSpec.preRow_of_cond 8 hx (by kernel_rfl) (λk hk=>by cases hk;kernel_rfl) (by kernel_rfl) (B2d os))) ?_
 intro W AD args ds gs AB AE hW _ AC _ hL _ _;exact B2E H enc W AD args ds gs AB AE hW (AC _ rfl) hL
theorem B5L:joinedFacts Tryz.prog 5 Tryz.f5 (Rows.OpenSpec.upto Rows.fnWrittenIsReadSpec).bare Rows.fnWrittenIsReadUptoRow=true:=by
 unfold joinedFacts;refine W0 ?_ B8b;refine W0 ?_ B8a;refine W0 ?_ B8Z;refine W0 ?_ B8Y;refine W0 ?_ B8X;refine W0 ?_ B8W;refine W0 ?_ B8V;refine W0 ?_ B8U;refine W0 ?_ B8T;refine W0 ?_ B8S;refine W0 ?_ B8R;refine W0 ?_ B8Q;refine W0 ?_ B8P;refine W0 ?_ B8O;refine W0 ?_ B8N;refine W0 ?_ B8M;refine W0 ?_ B8L;refine W0 ?_ B8K;refine W0 ?_ B8J;refine W0 ?_ B8I;refine W0 ?_ B8H;refine W0 ?_ B8G;refine W0 ?_ jf9;refine W0 ?_ jf8;refine W0 ?_ jf7;refine W0 ?_ jf6;refine W0 ?_ jf5;refine W0 ?_ jf4;refine W0 ?_ jf3;refine W0 ?_ jf2;refine W0 ?_ jf1;exact jf0
theorem C0i:Tryz.pinned.checked.prog.funcNamed Rows.fnWrittenIsReadUptoRow.func=some 5:=by kernel_rfl
theorem C1G:Tryz.f5.isInstance Tryz.pinned.checked.prog Rows.fnWrittenIsReadUptoRow.origin Rows.fnWrittenIsReadUptoRow.targs:=of_decide_eq_true (by kernel_rfl)
theorem C1O:Tryz.f5.isWrapper Tryz.pinned.checked.prog Rows.fnWrittenIsReadUptoRow.wrapper Rows.fnWrittenIsReadUptoRow.mainSum:=by
 unfold Func.isWrapper;rw[if_neg (by decide+kernel)];exact⟨rfl,rfl⟩
theorem B8n:Rows.FnWrittenIsReadUptoSaid:=
 OpenClaim.holds_of_cond 5 Tryz.f5 rfl rfl rfl rfl rfl rfl rfl ⟨rfl,rfl,rfl,rfl,rfl⟩ rfl rfl rfl rfl rfl C0i Tryz.func5 B5L
  C1G C1O
  (λos AA H enc _ F=>by rw[OpenClaim.pre_eq_preRow];exact lifted os AA H enc F)
theorem plain (f:FuncId) (fn:Func) (hf:Tryz.pinned.checked.prog.funcNamed "tapearchives/laws.FnWrittenIsRead" =some f) (AA:Tryz.pinned.checked.prog.funcs[f]?=some fn):
  true=Tryz.pinned.checked.prog.looks []/\∀ (j:Nat) t,fn.params[j]?=some t->Tryz.pinned.checked.prog.wantsStandIn t=false:=by
 obtain rfl:f=5:=Option.some.inj ((show Tryz.prog.funcNamed "tapearchives/laws.FnWrittenIsRead" =some 5 by kernel_rfl).symm.trans hf)|>.symm;obtain rfl:fn=Tryz.f5:=(Option.some.inj (Tryz.func5.symm.trans AA)).symm;refine⟨by kernel_rfl,λj t ht=> ?_⟩;rw[Tryz.params5] at ht;obtain rfl:t=45:=by simpa using Array.mem_of_getElem? ht
 exact(show Tryz.prog.wantsStandIn 45=false by kernel_rfl)
theorem card:Rows.FnWrittenIsReadUptoCardSaid:=
 Claim7.holds_tied_plain_at .later [] _ _ _ _ B8n (λ_ h=>by cases h) (by kernel_rfl) (λ_ h=>by cases h) fnWrittenIsReadUpto_row_tie rfl ⟨rfl,rfl⟩ (by kernel_rfl) rfl plain (by kernel_rfl)
end Wri
end Go.Proofs.YtkanmkcojlefbaaGreatDoor
#print axioms Go.Proofs.YtkanmkcojlefbaaGreatDoor.Wri.card
