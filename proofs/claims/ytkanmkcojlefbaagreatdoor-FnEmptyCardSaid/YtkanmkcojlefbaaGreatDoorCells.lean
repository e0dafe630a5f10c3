/-
  The Writer's and the Reader's blocks as lists of parts.
-/
import Derived.Test.YtkanmkcojlefbaaGreatDoorProg
import Derived.Test.YtkanmkcojlefbaaGreatDoorBase
namespace Go.Proofs.YtkanmkcojlefbaaGreatDoor
open Go.RowKit

/-- A Writer: w, pad, curr, the header (20 cells), the block (512), err. -/
def wcells (wv pad curr : Value) (hdr blk : List Value) (err : Value) : Array Value := (wv :: pad :: curr :: (hdr ++ (blk ++ [err]))).toArray
/-- A Reader: r, pad, curr, the block (512), err. -/
def rcells (rv pad curr : Value) (blk : List Value) (err : Value) : Array Value := (rv :: pad :: curr :: (blk ++ [err])).toArray

section
variable (wv pad curr err : Value) (hdr blk : List Value)
theorem wcells_0 : (wcells wv pad curr hdr blk err)[0]? = some wv := by simp [wcells]
theorem wcells_1 : (wcells wv pad curr hdr blk err)[1]? = some pad := by simp [wcells]
theorem wcells_2 : (wcells wv pad curr hdr blk err)[2]? = some curr := by simp [wcells]
theorem wcells_err (h : hdr.length = 20) (k : blk.length = 512) : (wcells wv pad curr hdr blk err)[535]? = some err := by
  simp [wcells, List.getElem?_append, h, k]
theorem wcells_hdr (h : hdr.length = 20) (j : Nat) (hj : j < 20) : (wcells wv pad curr hdr blk err)[3 + j]? = hdr[j]? := by
  simp [wcells, List.getElem?_append, h, hj, show 3 + j = j + 3 by omega]
theorem wcells_blk (h : hdr.length = 20) (k : blk.length = 512) (j : Nat) (hj : j < 512) : (wcells wv pad curr hdr blk err)[23 + j]? = blk[j]? := by
  simp [wcells, List.getElem?_append, h, k, show 23 + j = j + 20 + 3 by omega, hj]
theorem wcells_set1 (v : Value) : (wcells wv pad curr hdr blk err).setIfInBounds 1 v = wcells wv v curr hdr blk err := by simp [wcells]
theorem wcells_set2 (v : Value) : (wcells wv pad curr hdr blk err).setIfInBounds 2 v = wcells wv pad v hdr blk err := by simp [wcells]
theorem wcells_setErr (h : hdr.length = 20) (k : blk.length = 512) (v : Value) : (wcells wv pad curr hdr blk err).setIfInBounds 535 v = wcells wv pad curr hdr blk v := by
  simp [wcells, List.set_append, h, k]
theorem wcells_setHdr (h : hdr.length = 20) (j : Nat) (hj : j < 20) (v : Value) : (wcells wv pad curr hdr blk err).setIfInBounds (3 + j) v = wcells wv pad curr (hdr.set j v) blk err := by
  simp [wcells, List.set_append, h, hj, show 3 + j = j + 3 by omega]
theorem rcells_0 : (rcells wv pad curr blk err)[0]? = some wv := by simp [rcells]
theorem rcells_1 : (rcells wv pad curr blk err)[1]? = some pad := by simp [rcells]
theorem rcells_2 : (rcells wv pad curr blk err)[2]? = some curr := by simp [rcells]
theorem rcells_err (k : blk.length = 512) : (rcells wv pad curr blk err)[515]? = some err := by
  simp [rcells, List.getElem?_append, k]
theorem rcells_blk (k : blk.length = 512) (j : Nat) (hj : j < 512) : (rcells wv pad curr blk err)[3 + j]? = blk[j]? := by
  simp [rcells, List.getElem?_append, k, show 3 + j = j + 3 by omega, hj]
theorem rcells_set1 (v : Value) : (rcells wv pad curr blk err).setIfInBounds 1 v = rcells wv v curr blk err := by simp [rcells]
theorem rcells_set2 (v : Value) : (rcells wv pad curr blk err).setIfInBounds 2 v = rcells wv pad v blk err := by simp [rcells]
theorem rcells_setErr (k : blk.length = 512) (v : Value) : (rcells wv pad curr blk err).setIfInBounds 515 v = rcells wv pad curr blk v := by
  simp [rcells, List.set_append, k]
end
/-- The header's cells of a new Writer. -/
def hdr0 : List Value := [.int .u8 0, .string ⟨#[]⟩, .string ⟨#[]⟩, .int .i64 0, .int .i64 0, .int .i64 0, .int .i64 0, .string ⟨#[]⟩, .string ⟨#[]⟩, .int .u64 0, .int .i64 0, .int .u64 0, .int .i64 0, .int .u64 0, .int .i64 0, .int .i64 0, .int .i64 0, .map none, .map none, .int .i64 0]
theorem hdr0_length : hdr0.length = 20 := by kernel_rfl
/-- A block of bytes 0. -/
def blk0 : List Value := Lib.byteCells (List.replicate 512 0)
theorem blk0_length : blk0.length = 512 := by rw [blk0, Lib.byteCells_length, List.length_replicate]
theorem zero132 : Tryz.zeroCells132 = blk0.toArray := by kernel_rfl
theorem new_wcells (v c : Value) : (Tryz.zeroCells134.setIfInBounds 0 v).setIfInBounds 2 c = wcells v (.int .i64 0) c hdr0 blk0 .nilIface := by kernel_rfl
theorem new_rcells (v c : Value) : (Tryz.zeroCells152.setIfInBounds 0 v).setIfInBounds 2 c = rcells v (.int .i64 0) c blk0 .nilIface := by kernel_rfl
end Go.Proofs.YtkanmkcojlefbaaGreatDoor
