/-
  Part of the proof; holds the texts FldC.
-/
import Derived.Test.YtkanmkcojlefbaaGreatDoorM49
import Derived.Test.YtkanmkcojlefbaaGreatDoorRows
import Derived.Test.YtkanmkcojlefbaaGreatDoorM50
import Derived.Carry
import Derived.OpenShut
import Derived.MakeChecks
set_option maxRecDepth 100000
set_option linter.unusedSimpArgs false
set_option linter.unusedVariables false
namespace Go.Proofs.YtkanmkcojlefbaaGreatDoor
open Go.ChangeShapes Go.WideShapes Go.ChangeAt Go.RowKit
namespace Fld
theorem hdr_form {W : World} {base : Nat} {v : Value} {h : IH} (hval : Value.okWide Tryz.prog W .any base 26 v) (hc : v.cells.toList = h.cells) : v = .agg h.cells.toArray := by
  unfold Value.okWide at hval
  rw [Tryz.underlying26] at hval
  obtain ⟨cs, rfl, -, -⟩ := hval
  have : cs.toList = h.cells := hc
  rw [← this]
theorem contract (H : Type) (enc : TypeId × Value → H) (W : World) (base : Nat) (args : Array Value) (ds gs : List (DataW H)) (before : List MemPlace)
    (hval : ∀ (j : Nat) t v, Tryz.f6.params[j]? = some t → args[j]? = some v → Value.okWide Tryz.prog W .any base t v)
    (hW : DataW.Whole enc Tryz.prog Tryz.f6.params.toList Rows.fnFieldsComeFirstSpec.vars false W args.toList ds gs before) (hL : laidMetH Tryz.prog Rows.fnFieldsComeFirstRow.laid W) :
    Calls Tryz.prog 6 args W fun e W' => ∃ v, e = .returned v ∧ Rows.fnFieldsComeFirstSpec.post enc Tryz.prog Tryz.f6 false true false false W args v W' := by
  have hW' := hW
  obtain ⟨p, q, hA0, hV, rfl, hfz, hnd⟩ := hW
  have hA : DataW.TrodAll enc Tryz.prog W 0 (fun _ => true) true Tryz.f6.params.toList args.toList ds p := hA0
  rw [Tryz.params6] at hA hval
  obtain ⟨v0, vs0, d0, ds0, p0, q0, hargs, rfl, rfl, h0, r0⟩ := trodAll_cons hA
  obtain ⟨v1, vs1, d1, ds1, p1, q1, hargs1, rfl, rfl, h1, r1⟩ := trodAll_cons r0
  obtain ⟨rfl, rfl, rfl⟩ := trodAll_nil r1
  subst hargs1
  obtain rfl : args = #[v0, v1] := by cases args; simp_all
  obtain ⟨rfl, rfl⟩ := trodVars_none hV
  have hT0 := h0
  have hT1 := h1
  obtain ⟨f0, hf0⟩ := h0
  obtain ⟨h, Lr, hc0, hrng, hrec, hLr⟩ := open_hdr hf0
  obtain rfl := hdr_form (hval 0 26 v0 rfl rfl) hc0
  obtain ⟨ps, n, c, rfl⟩ := okWide_slice Tryz.underlying54 (hval 1 54 v1 rfl rfl)
  obtain ⟨f1, hf1⟩ := h1
  obtain ⟨vals, hvs, hvl⟩ := open_strs (v := .slice ps n c) hf1
  obtain rfl : n = vals.length := by
    obtain ⟨p', c', e, -⟩ := hvs
    cases e; rfl
  clear hA0
  have hl0 : ∀ x ∈ p0, x.block < W.heap.size := fun x hx => by simpa using hW'.lt x (by simp [hx])
  have hl1 : ∀ x ∈ p1, x.block < W.heap.size := fun x hx => by simpa using hW'.lt x (by simp [hx])
  rw [MakeChecks.laidMetH_plain _ _ _ (by kernel_rfl)] at hL
  obtain ⟨E, hgl⟩ := gl_of_laid hL
  refine (law6 W.heap.size E W hgl h Lr hrec hLr vals ps c hvs hvl hrng (E 0) (hgl.err 0 (by decide))).mono fun e W' ⟨he, hb⟩ => ?_
  subst he
  exact ⟨_, rfl, _, _, _, [], _, [], hW', trodAll_cons_mk (shut_bool Tryz.underlying4 _) trodAll_mk0, trodAll_cons_mk (Below.trod jf1 (by kernel_rfl) (of_decide_eq_true (by kernel_rfl)) hT0 hb hl0) (trodAll_cons_mk (Below.trod jf1 (by kernel_rfl) (of_decide_eq_true (by kernel_rfl)) hT1 hb hl1) trodAll_mk0), rfl, hb.frame _, fun h => by cases h⟩
end Fld
end Go.Proofs.YtkanmkcojlefbaaGreatDoor
