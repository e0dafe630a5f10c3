/-
  laws.FnEmpty returns true for every limit: an archive of no file is at least two blocks of bytes 0, and is read as no file. Conditions: the listed package-level variables hold what the program's text lays (tied by the card); none else.
-/
import Derived.Test.YtkanmkcojlefbaaGreatDoorCards
import Derived.Test.YtkanmkcojlefbaaGreatDoorTie
import Derived.Test.YtkanmkcojlefbaaGreatDoorLaid
import Derived.Test.YtkanmkcojlefbaaGreatDoorEmptyWalk
import Derived.Test.YtkanmkcojlefbaaGreatDoorEmptyFacts
import Derived.OpenShut
import Derived.Deep.DeepHandedRow
import Derived.Deep.DeepWitnessRowRef
import Derived.SevenTiedAt
namespace Go.Proofs.YtkanmkcojlefbaaGreatDoor
open Go.ChangeShapes Go.WideShapes Go.ChangeAt Go.RowKit
namespace Empty
set_option maxRecDepth 100000

theorem contract (H : Type) (enc : TypeId × Value → H) (W : World) (base : Nat) (args : Array Value) (ds gs : List (DataW H)) (before : List MemPlace)
    (hval : ∀ (j : Nat) t v, Tryz.f4.params[j]? = some t → args[j]? = some v → Value.okWide Tryz.prog W .any base t v)
    (hW : DataW.Whole enc Tryz.prog Tryz.f4.params.toList Rows.fnEmptySpec.vars false W args.toList ds gs before) (hL : laidMetH Tryz.prog Rows.fnEmptyRow.laid W) :
    Calls Tryz.prog 4 args W fun e W' => ∃ v, e = .returned v ∧ Rows.fnEmptySpec.post enc Tryz.prog Tryz.f4 false true false false W args v W' := by
  have hW' := hW
  obtain ⟨p, q, hA0, hV, rfl, hfz, hnd⟩ := hW
  have hA : DataW.TrodAll enc Tryz.prog W 0 (fun _ => true) true Tryz.f4.params.toList args.toList ds p := hA0
  rw [Tryz.params4] at hA hval
  obtain ⟨v0, vs0, d0, ds0, p0, q0, hargs, rfl, rfl, h0, r0⟩ := trodAll_cons hA
  obtain ⟨rfl, rfl, rfl⟩ := trodAll_nil r0
  obtain rfl : args = #[v0] := by cases args; simp_all
  obtain ⟨rfl, rfl⟩ := trodVars_none hV
  obtain ⟨x, rfl, rfl, rfl, wx⟩ := open_int Tryz.underlying3 (hval 0 3 v0 rfl rfl) h0
  clear hA0
  simp only [List.append_nil] at hW'
  have hx : -9223372036854775808 ≤ x ∧ x ≤ 9223372036854775807 := by simpa [Lit.wf, IntKind.min, IntKind.max, IntKind.signed, IntKind.bits] using wx
  rw [MakeChecks.laidMetH_plain _ _ _ (by kernel_rfl)] at hL
  have hL7 : laidMet Tryz.prog (("io.EOF", Rows.laid_io_EOF) :: _) W := hL.tail.tail.tail.tail.tail.tail.tail
  obtain ⟨aE, hE⟩ := sentinel hL7 (by kernel_rfl) (by kernel_rfl)
  obtain ⟨aC, hC⟩ := sentinel hL7.tail.tail.tail.tail.tail.tail (by kernel_rfl) (by kernel_rfl)
  refine (empty_walk W x aE aC hx.1 hx.2 hE hC).mono fun e W' ⟨he, hb⟩ => ?_
  subst he
  exact ⟨_, rfl, _, _, _, [], [], [], hW', trodAll_cons_mk (shut_bool Tryz.underlying4 _) trodAll_mk0, trodAll_cons_mk (shut_int Tryz.underlying3 wx) trodAll_mk0, rfl, hb.frame _, fun h => by cases h⟩
theorem laid_met (os : Os) : laidMet Tryz.prog Rows.fnEmptyRow.laid ((laidWorld os).forCall (fun _ _ => 0) ⟨#[], #[.int .i64 0], []⟩).memory :=
  laidMet_of_run' 8 (by kernel_rfl) (by kernel_rfl)
theorem reads (os : Os) {H : Type} (enc : TypeId × Value → H) : ∃ places, DataW.whole enc Tryz.prog ((laidWorld os).forCall (fun _ _ => 0) ⟨#[], #[.int .i64 0], []⟩).memory Tryz.f4.params.toList Rows.fnEmptySpec.vars false #[Value.int .i64 0].toList 8 = some ([.lit (.int .i64 0)], [], places) :=
  ⟨[], by kernel_rfl⟩
theorem lifted (os : Os) (started : os.Started) (H : Type) (enc : TypeId × Value → H) (F : Stop.Interp) :
    ReturnsInHanded {} Tryz.checked os 4 .any ((OpenSpec.ofChange Rows.fnEmptySpec).preRow enc Tryz.prog Tryz.f4 Rows.fnEmptyRow.domain false Rows.fnEmptyRow.laid) (((OpenSpec.ofChange Rows.fnEmptySpec).at F).post enc Tryz.prog Tryz.f4 false true false false) := by
  obtain ⟨places, hx⟩ := reads os enc
  refine returnsInHanded_of_row (C := Tryz.checked) (s := OpenSpec.ofChange Rows.fnEmptySpec) own started (by kernel_rfl) Tryz.func4
    (witness_row_atRef (enc := enc) (C := Tryz.checked) false (laidWorld os) #[.int .i64 0] rfl (by kernel_rfl) (by kernel_rfl) (by kernel_rfl)
      (OpenSpec.preRow_of_cond 8 hx (by kernel_rfl) (fun k hk => by cases hk) (by kernel_rfl) (laid_met os))) ?_
  intro W base args ds gs before hval hW _ _ _ hL _ _
  exact contract H enc W base args ds gs before hval hW hL
theorem closed : joinedFacts Tryz.prog 4 Tryz.f4 (OpenSpec.ofChange Rows.fnEmptySpec).bare Rows.fnEmptyRow = true := by
  unfold joinedFacts
  refine andT ?_ jf31
  refine andT ?_ jf30
  refine andT ?_ jf29
  refine andT ?_ jf28
  refine andT ?_ jf27
  refine andT ?_ jf26
  refine andT ?_ jf25
  refine andT ?_ jf24
  refine andT ?_ jf23
  refine andT ?_ jf22
  refine andT ?_ jf21
  refine andT ?_ jf20
  refine andT ?_ jf19
  refine andT ?_ jf18
  refine andT ?_ jf17
  refine andT ?_ jf16
  refine andT ?_ jf15
  refine andT ?_ jf14
  refine andT ?_ jf13
  refine andT ?_ jf12
  refine andT ?_ jf11
  refine andT ?_ jf10
  refine andT ?_ jf9
  refine andT ?_ jf8
  refine andT ?_ jf7
  refine andT ?_ jf6
  refine andT ?_ jf5
  refine andT ?_ jf4
  refine andT ?_ jf3
  refine andT ?_ jf2
  refine andT ?_ jf1
  exact jf0
theorem named4 : Tryz.pinned.checked.prog.funcNamed Rows.fnEmptyRow.func = some 4 := by kernel_rfl
theorem inst4 : Tryz.f4.isInstance Tryz.pinned.checked.prog Rows.fnEmptyRow.origin Rows.fnEmptyRow.targs := of_decide_eq_true (by kernel_rfl)
theorem wrap4 : Tryz.f4.isWrapper Tryz.pinned.checked.prog Rows.fnEmptyRow.wrapper Rows.fnEmptyRow.mainSum := by
  unfold Func.isWrapper
  rw [if_neg (by decide +kernel)]
  exact ⟨rfl, rfl⟩
theorem said : Rows.FnEmptySaid :=
  OpenClaim.holds_of_cond 4 Tryz.f4 rfl rfl rfl rfl rfl rfl rfl ⟨rfl, rfl, rfl, rfl, rfl⟩ rfl rfl rfl rfl rfl named4 Tryz.func4 closed
    inst4 wrap4
    (fun os started H enc _ F => by rw [OpenClaim.pre_eq_preRow]; exact lifted os started H enc F)
theorem plain (f : FuncId) (fn : Func) (hf : Tryz.pinned.checked.prog.funcNamed "tapearchives/laws.FnEmpty" = some f) (hfn : Tryz.pinned.checked.prog.funcs[f]? = some fn) :
    true = Tryz.pinned.checked.prog.looks [] ∧ ∀ (j : Nat) t, fn.params[j]? = some t → Tryz.pinned.checked.prog.wantsStandIn t = false := by
  obtain rfl : f = 4 := Option.some.inj ((show Tryz.prog.funcNamed "tapearchives/laws.FnEmpty" = some 4 by kernel_rfl).symm.trans hf) |>.symm
  obtain rfl : fn = Tryz.f4 := (Option.some.inj (Tryz.func4.symm.trans hfn)).symm
  refine ⟨by kernel_rfl, fun j t ht => ?_⟩
  rw [Tryz.params4] at ht
  obtain rfl : t = 3 := by simpa using Array.mem_of_getElem? ht
  exact (show Tryz.prog.wantsStandIn 3 = false by kernel_rfl)
/-- The card. -/
theorem card : Rows.FnEmptyCardSaid :=
  Claim7.holds_tied_plain_at .later [] _ _ _ _ said (fun _ h => by cases h) (by kernel_rfl) (fun _ h => by cases h) fnEmpty_row_tie rfl ⟨rfl, rfl⟩ (by kernel_rfl) rfl plain (by kernel_rfl)
end Empty
/-- The statement. -/
theorem fnEmpty_card : Rows.FnEmptyCardSaid := Empty.card
end Go.Proofs.YtkanmkcojlefbaaGreatDoor
#print axioms Go.Proofs.YtkanmkcojlefbaaGreatDoor.fnEmpty_card
