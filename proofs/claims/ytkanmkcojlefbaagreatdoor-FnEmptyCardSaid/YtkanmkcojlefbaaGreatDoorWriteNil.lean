/-
  impl.Write of no file.
-/
import Derived.Test.YtkanmkcojlefbaaGreatDoorClose
namespace Go.Proofs.YtkanmkcojlefbaaGreatDoor
open Go.RowKit
theorem end_nil (w : World) : Calls Tryz.prog 33 #[.nilIface] w fun e w' => e = .returned (.int .i64 0) ∧ w = w' := by
  go_enter Tryz.func33, Tryz.ntmps33
  go_wp2
  go_ret
  exact ⟨rfl, rfl⟩
/-- What a new Writer is. -/
def NewW (w : World) (b : Nat) (e : Ending) (w' : World) : Prop :=
  e = .returned (.pointer (some ⟨w.heap.size + 1, 0, none⟩)) ∧ FW w.heap.size b 0 w' ∧ TW (w.heap.size + 1) b w.heap.size 0 hdr0 blk0 .nilIface w' ∧ Fr w.heap.size [] w w' ∧ ∀ B b bs, Buf B b bs w → Buf B b bs w'
theorem newWriter (w : World) (b : Nat) : Calls Tryz.prog 29 #[.iface 75 (.pointer (some ⟨b, 0, none⟩))] w (NewW w b) := by
  go_enter Tryz.func29, Tryz.ntmps29
  go_wp2
  go_ret
  rw [new_wcells]
  refine ⟨rfl, ?_, ⟨?_, hdr0_length, blk0_length⟩, ((Fr.refl _ _ w).alloc _).alloc _, fun _ _ _ h => (h.alloc _).alloc _⟩
  · exact heap_alloc2_old w _ _
  · exact heap_alloc2_new w _ _
def WroteEmpty (w : World) (e : Ending) (w' : World) : Prop :=
  ∃ v, e = .returned (.tuple #[v, .int .i64 0]) ∧ w'.ownsRow w.heap.size 5 1 v 1024 (Lib.byteCells (List.replicate 1024 0)) ∧ Below w.heap.size w w'
set_option maxRecDepth 100000 in
theorem writeNil (w : World) (aC : Addr) (hC : w.cell? ⟨4, 0, none⟩ = some (.iface 245 (.pointer (some aC)))) : Calls Tryz.prog 13 #[.slice none 0 0] w (WroteEmpty w) := by
  have h4 := block_lt_of_cell hC
  go_enter Tryz.func13, Tryz.ntmps13
  go_wp2_with fail
  refine (newWriter _ _).mono ?_
  rintro e w1 ⟨rfl, hfw, htw, hfr, hbuf⟩
  have hB1 := hbuf w.heap.size w.heap.size [] (Lib.fresh_isBuffer 70 5 w)
  have e1 : (w.alloc (Obj.cells #[Value.slice none 0 0, Value.int IntKind.i64 0, Value.int IntKind.i8 0] 70)).heap.size = w.heap.size + 1 := Array.size_push ..
  rw [e1] at hfw htw hfr ⊢
  have hF1 : Fr w.heap.size [] w w1 := ((Fr.refl w.heap.size [] w).alloc _).trans (hfr.wide (Nat.le_succ _) (by simp))
  have hC1 := hF1.cell hC (by simp) h4
  have HC := Lib.hid hC1
  clear hbuf e1 hfr hC hC1
  go_wp2_with fail
  refine wp_loop_once ?_
  go_wp2_with fail
  refine (close w1 w.heap.size (w.heap.size + 1 + 1) w.heap.size (w.heap.size + 1) 0 (by omega) [] hdr0 blk0 aC hB1 hF1.size htw hfw (by simp) HC.out h4 (by omega)).mono ?_
  rintro e w2 ⟨rfl, hB2, hF2⟩
  go_wp2_with fail
  refine (bufBytes w.heap.size w.heap.size _ w2 hB2).mono ?_
  rintro e w3 ⟨v, rfl, hv, n, rfl⟩
  go_wp2_with fail
  refine (end_nil _).mono ?_
  rintro e w3 ⟨rfl, rfl⟩
  go_wp2_with fail
  go_ret2
  refine ⟨v, rfl, by simpa using hv, ?_⟩
  exact ((hF1.wide (Nat.le_refl _) (by simp)).trans hF2).drewN n |>.below (Nat.le_refl _) (by simp; omega)
end Go.Proofs.YtkanmkcojlefbaaGreatDoor
