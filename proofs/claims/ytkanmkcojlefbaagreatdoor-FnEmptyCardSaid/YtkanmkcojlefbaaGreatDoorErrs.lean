/-
  The package-level errors, compared.
-/
import Derived.Test.YtkanmkcojlefbaaGreatDoorCells
namespace Go.Proofs.YtkanmkcojlefbaaGreatDoor
open Go.RowKit
theorem i245 : ∃ i, Tryz.prog.info? 245 = some i ∧ i.comparable = true := by
  have h : (Tryz.prog.info? 245).map (fun i => i.comparable) = some true := by kernel_rfl
  cases hi : Tryz.prog.info? 245 with
  | none => rw [hi] at h; cases h
  | some i => rw [hi] at h; exact ⟨i, rfl, by simpa using h⟩
theorem i247 : ∃ i, Tryz.prog.info? 247 = some i ∧ i.size ≠ 0 := by
  have h : (Tryz.prog.info? 247).map (fun i => i.size) = some 1 := by kernel_rfl
  cases hi : Tryz.prog.info? 247 with
  | none => rw [hi] at h; cases h
  | some i =>
    rw [hi] at h
    have h1 : i.size = 1 := by simpa using h
    exact ⟨i, rfl, by omega⟩
/-- An error of errors.New's make. -/
abbrev errV (a : Addr) : Value := .iface 245 (.pointer (some a))
theorem eql_err_same (w : World) (a : Addr) : (binOp .eql 72 (errV a) (errV a)).run Tryz.prog w = .ok (.bool true) w := by
  obtain ⟨i, hi, hc⟩ := i245
  obtain ⟨j, hj, _⟩ := i247
  exact run_eql_iface_ptr_same w a Tryz.underlying72 Tryz.underlying245 hi hc hj
theorem eql_err_other (w : World) (a b : Addr) {ca cb : Array Value} {ta tb : TypeId} (hne : a ≠ b) (ha : w.heap[a.block]? = some (.cells ca ta (0, 0))) (hb : w.heap[b.block]? = some (.cells cb tb (0, 0))) :
    (binOp .eql 72 (errV a) (errV b)).run Tryz.prog w = .ok (.bool false) w := by
  obtain ⟨i, hi, hc⟩ := i245
  obtain ⟨j, hj, hz⟩ := i247
  exact run_eql_iface_ptr_other w Tryz.underlying72 Tryz.underlying245 hi hc hj hz hne ha hb
theorem eql_nil_err (w : World) (a : Addr) : (binOp .eql 72 .nilIface (errV a)).run Tryz.prog w = .ok (.bool false) w :=
  run_eql_iface_nil_left w 245 _ Tryz.underlying72
end Go.Proofs.YtkanmkcojlefbaaGreatDoor
