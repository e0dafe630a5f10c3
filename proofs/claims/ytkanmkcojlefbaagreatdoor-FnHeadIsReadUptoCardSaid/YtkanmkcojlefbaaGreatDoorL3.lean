/-
  laws.FnHeadIsRead returns true for every header whose strings and records are of bulk at most 1048576: a header that is written is read back. Conditions: that bulk (the statement's own), and the listed package-level variables hold what the program's text lays (tied by the card); none else.
-/
import Derived.Test.YtkanmkcojlefbaaGreatDoorCards
import Derived.Test.YtkanmkcojlefbaaGreatDoorTie
import Derived.Test.YtkanmkcojlefbaaGreatDoorM51
import Derived.Deep.DeepWitnessRowRef
set_option maxRecDepth 100000
set_option linter.unusedSimpArgs false
set_option linter.unusedVariables false
namespace Go.Proofs.YtkanmkcojlefbaaGreatDoor
open Go.ChangeShapes Go.WideShapes Go.ChangeAt Go.RowKit
namespace Hdr
set_option maxRecDepth 100000
def wit:Array Value:=#[.agg #[.int .u8 0,.string ⟨#[]⟩,.string ⟨#[]⟩,.int .i64 0,.int .i64 0,.int .i64 0,.int .i64 0,.string ⟨#[]⟩,.string ⟨#[]⟩,.int .i64 0,.int .i64 0,.bool false,.int .i64 0,.int .i64 0,.bool false,.int .i64 0,.int .i64 0,.int .i64 0,.int .i64 0,.slice none 0 0,.int .i64 0]]
theorem B2d (os:Os):laidMet Tryz.prog Rows.fnHeadIsReadUptoRow.laid ((A3d os).forCall (λ_ _=>0) ⟨#[],wit,[]⟩).memory:=
 laidMet_of_run' 8 (by kernel_rfl) (by kernel_rfl)
theorem reads (os:Os) {H:Type} (enc:TypeId×Value->H):∃AA,DataW.whole enc Tryz.prog ((A3d os).forCall (λ_ _=>0) ⟨#[],wit,[]⟩).memory Tryz.f3.params.toList Rows.fnHeadIsReadSpec.vars false wit.toList 8=some ([.agg [.lit (.int .u8 0),.lit (.string []),.lit (.string []),.lit (.int .i64 0),.lit (.int .i64 0),.lit (.int .i64 0),.lit (.int .i64 0),.lit (.string []),.lit (.string []),.agg [.lit (.int .i64 0),.lit (.int .i64 0)],.lit (.bool false),.agg [.lit (.int .i64 0),.lit (.int .i64 0)],.lit (.bool false),.agg [.lit (.int .i64 0),.lit (.int .i64 0)],.lit (.int .i64 0),.lit (.int .i64 0),.nil,.lit (.int .i64 0)]],[],AA):=
 ⟨[],by kernel_rfl⟩
theorem lifted (os:Os) (AA:os.Started) (H:Type) (enc:TypeId×Value->H) (F:Stop.Interp):
  ReturnsInHanded {} Tryz.checked os 3 .any ((Rows.OpenSpec.upto Rows.fnHeadIsReadSpec).preRow enc Tryz.prog Tryz.f3 Rows.fnHeadIsReadUptoRow.domain false Rows.fnHeadIsReadUptoRow.laid) (((Rows.OpenSpec.upto Rows.fnHeadIsReadSpec).at F).post enc Tryz.prog Tryz.f3 false true false false):=by
 obtain⟨AG,hx⟩:=reads os enc
 refine returnsInHanded_of_row (C:=Tryz.checked) (s:=Rows.OpenSpec.upto Rows.fnHeadIsReadSpec) own AA (by kernel_rfl) Tryz.func3
  (witness_row_atRef (enc:=enc) (C:=Tryz.checked) false (A3d os) wit rfl (by kernel_rfl) (by kernel_rfl) (by kernel_rfl)
   (OpenSpec.preRow_of_cond 8 hx (by kernel_rfl) (λk hk=>by cases hk;kernel_rfl) (by kernel_rfl) (B2d os))) ?_
 intro W AD args ds gs AB AE hW _ AC _ hL _ _;exact B2E H enc W AD args ds gs AB AE hW (AC _ rfl) hL
theorem B5L:joinedFacts Tryz.prog 3 Tryz.f3 (Rows.OpenSpec.upto Rows.fnHeadIsReadSpec).bare Rows.fnHeadIsReadUptoRow=true:=by
 unfold joinedFacts;refine W0 ?_ B8b;refine W0 ?_ B8a;refine W0 ?_ B8Z;refine W0 ?_ B8Y;refine W0 ?_ B8X;refine W0 ?_ B8W;refine W0 ?_ B8V;refine W0 ?_ B8U;refine W0 ?_ B8T;refine W0 ?_ B8S;refine W0 ?_ B8R;refine W0 ?_ B8Q;refine W0 ?_ B8P;refine W0 ?_ B8O;refine W0 ?_ B8N;refine W0 ?_ B8M;refine W0 ?_ B8L;refine W0 ?_ B8K;refine W0 ?_ B8J;refine W0 ?_ B8I;refine W0 ?_ B8H;refine W0 ?_ B8G;refine W0 ?_ jf9;refine W0 ?_ jf8;refine W0 ?_ jf7;refine W0 ?_ jf6;refine W0 ?_ jf5;refine W0 ?_ jf4;refine W0 ?_ jf3;refine W0 ?_ jf2;refine W0 ?_ jf1;exact jf0
theorem B5j:Tryz.pinned.checked.prog.funcNamed Rows.fnHeadIsReadUptoRow.func=some 3:=by kernel_rfl
theorem B7D:Tryz.f3.isInstance Tryz.pinned.checked.prog Rows.fnHeadIsReadUptoRow.origin Rows.fnHeadIsReadUptoRow.targs:=of_decide_eq_true (by kernel_rfl)
theorem B7k:Tryz.f3.isWrapper Tryz.pinned.checked.prog Rows.fnHeadIsReadUptoRow.wrapper Rows.fnHeadIsReadUptoRow.mainSum:=by
 unfold Func.isWrapper;rw[if_neg (by decide+kernel)];exact⟨rfl,rfl⟩
theorem B8n:Rows.FnHeadIsReadUptoSaid:=
 OpenClaim.holds_of_cond 3 Tryz.f3 rfl rfl rfl rfl rfl rfl rfl ⟨rfl,rfl,rfl,rfl,rfl⟩ rfl rfl rfl rfl rfl B5j Tryz.func3 B5L
  B7D B7k
  (λos AA H enc _ F=>by rw[OpenClaim.pre_eq_preRow];exact lifted os AA H enc F)
theorem plain (f:FuncId) (fn:Func) (hf:Tryz.pinned.checked.prog.funcNamed "tapearchives/laws.FnHeadIsRead" =some f) (AA:Tryz.pinned.checked.prog.funcs[f]?=some fn):
  true=Tryz.pinned.checked.prog.looks []/\∀ (j:Nat) t,fn.params[j]?=some t->Tryz.pinned.checked.prog.wantsStandIn t=false:=by
 obtain rfl:f=3:=Option.some.inj ((show Tryz.prog.funcNamed "tapearchives/laws.FnHeadIsRead" =some 3 by kernel_rfl).symm.trans hf)|>.symm;obtain rfl:fn=Tryz.f3:=(Option.some.inj (Tryz.func3.symm.trans AA)).symm;refine⟨by kernel_rfl,λj t ht=> ?_⟩;rw[Tryz.params3] at ht;obtain rfl:t=26:=by simpa using Array.mem_of_getElem? ht
 exact(show Tryz.prog.wantsStandIn 26=false by kernel_rfl)
theorem card:Rows.FnHeadIsReadUptoCardSaid:=
 Claim7.holds_tied_plain_at .later [] _ _ _ _ B8n (λ_ h=>by cases h) (by kernel_rfl) (λ_ h=>by cases h) fnHeadIsReadUpto_row_tie rfl ⟨rfl,rfl⟩ (by kernel_rfl) rfl plain (by kernel_rfl)
end Hdr
end Go.Proofs.YtkanmkcojlefbaaGreatDoor
#print axioms Go.Proofs.YtkanmkcojlefbaaGreatDoor.Hdr.card
