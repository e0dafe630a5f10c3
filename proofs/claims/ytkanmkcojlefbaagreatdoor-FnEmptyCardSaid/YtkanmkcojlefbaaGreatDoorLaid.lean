/-
  What the listed package-level variables give: the errors' cells. A world for the witness: the heap that the door's own run leaves, with the pinned table laid.
-/
import Derived.Test.YtkanmkcojlefbaaGreatDoorErrs
import Derived.Test.YtkanmkcojlefbaaGreatDoorRows
import Derived.Stop.LaidErr
import Derived.LaidMore
import Derived.LaidLaws
import Derived.MakeChecks
namespace Go.Proofs.YtkanmkcojlefbaaGreatDoor
open Go.ChangeShapes Go.WideShapes Go.ChangeAt Go.RowKit
theorem own : ownKnob Tryz.prog.godebug = none := by kernel_rfl
theorem star : "*" ++ "errors.errorString" = "*errors.errorString" := by decide
theorem row245 (u : TypeId) (h : Tryz.prog.typeName? 3 u = some "*errors.errorString") : u = 245 :=
  typeName_ptr_named (nm := "errors.errorString") (by rw [star]; kernel_rfl) (by kernel_rfl) (by decide) u (by rw [star]; exact h)
theorem cells247 : Tryz.prog.cellsOf 247 = 1 := by kernel_rfl
theorem cells9 : Tryz.prog.cellsOf 9 = 1 := by kernel_rfl
/-- A listed error: its variable's cell. -/
theorem sentinel {n : String} {text : List UInt8} {r : List (String × DataW Unit)} {W : World} {g : Nat} (h : laidMet Tryz.prog ((n, .iface "*errors.errorString" (.ptr (.agg [.lit (.string text)]))) :: r) W)
    (hg : Tryz.prog.globalNamed n = some g) (ht : (Tryz.prog.globals[g]?).map (·.type) = some 72) : ∃ a : Addr, W.cell? ⟨g, 0, none⟩ = some (errV a) := by
  obtain ⟨a, s, hv, _⟩ := laid_sentinel h hg ht Tryz.underlying72 row245 Tryz.underlying245 Tryz.underlying247 rfl rfl Tryz.underlying9 cells247 cells9
  exact ⟨a, by simpa using World.var?_cell hg hv 0⟩
/-- The pinned table's cells. -/
def pinCells : DataW Unit → Array Value
  | .agg ds => (ds.map fun | .lit (.int k n) => Value.int k n | _ => .nilIface).toArray
  | _ => #[]
noncomputable def laidWorld (os : Os) : World :=
  { World.doorLaid Tryz.prog 400 os with heap := (World.doorLaid Tryz.prog 400 os).heap.modify 16 fun
      | .cells _ t fz => .cells (pinCells Go.Pinned.utf8First) t fz
      | o => o }
end Go.Proofs.YtkanmkcojlefbaaGreatDoor
