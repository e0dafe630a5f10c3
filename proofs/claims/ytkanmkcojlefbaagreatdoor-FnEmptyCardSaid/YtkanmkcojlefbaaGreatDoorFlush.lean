/-
  The Writer: Flush (with nothing left of the file before).
-/
import Derived.Test.YtkanmkcojlefbaaGreatDoorBuf
import Derived.Deep.RegionHeld3
import Derived.BigQuiet
import Derived.BigRegion
namespace Go.Proofs.YtkanmkcojlefbaaGreatDoor
open Go.RowKit
theorem m_logical_w (w : World) (b : Nat) (v : Value) (n : Int) (f0 : w.cell? ⟨b, 0, none⟩ = some v) (f1 : w.cell? ⟨b, 1, none⟩ = some (.int .i64 n)) : (method 511 119 (.pointer (some ⟨b, 0, none⟩)) "tapearchives/pub/gotar.logicalRemaining").run Tryz.prog w =
   .ok (343, .agg #[v, .int .i64 n]) w := by
  have h : (method 511 119 (.pointer (some ⟨b, 0, none⟩)) "tapearchives/pub/gotar.logicalRemaining").run Tryz.prog w =
   ((loadVar 121 ⟨b, 0, none⟩).bind fun v => pure (343, v)).run Tryz.prog w := by kernel_rfl
  rw [h]
  have hl : (loadVar 121 ⟨b, 0, none⟩).run Tryz.prog w = .ok (.agg #[v, .int .i64 n]) w := by
    simp [loadVar, go_sem, f0, f1]
  exact (Sem.run_bind ..).trans (by rw [hl]; rfl)
theorem m_write (w : World) (a : Addr) : (method 511 75 (.pointer (some a)) "Write").run Tryz.prog w = .ok (284, .pointer (some a)) w := by kernel_rfl
theorem blk0_get (j : Nat) (v : Value) (n : Nat) (hn : n ≤ 512) (h : (Lib.byteCells (List.replicate n 0))[j]? = some v) : Tryz.zeroCells132[j]? = some v := by
  have hj : j < n := by
    have := (List.getElem?_eq_some_iff.1 h).1
    simpa [Lib.byteCells_length] using this
  rw [zero132, List.getElem?_toArray]
  have e : ∀ m, j < m → (Lib.byteCells (List.replicate m 0))[j]? = some (.int .u8 0) := fun m hm => by
    simp [Lib.byteCells, hm]
  rw [e n hj] at h
  rw [blk0, e 512 (by omega)]
  exact h
/-- Bytes 0 out of a new block are written. -/
theorem bufWriteNew (B b : Nat) (bs : List UInt8) (n : Nat) (w : World) (o : Obj) (h : Buf B b bs w) (hBw : B ≤ w.heap.size) (hn : n ≤ 512) (hlim : bs.length + n ≤ 140737488355328) :
    Calls Tryz.prog 284 #[.pointer (some ⟨b, 0, none⟩), .slice (some ⟨w.heap.size + 1, 0, none⟩) n 512] ((w.alloc o).alloc (.cells Tryz.zeroCells132 132)).drew fun e w' =>
      e = .returned (.tuple #[.int .i64 n, .nilIface]) ∧ Buf B b (bs ++ List.replicate n 0) w' ∧ Fr B [b] w w' := by
  have hs : (w.alloc o).heap.size = w.heap.size + 1 := Array.size_push ..
  have hs2 : ((w.alloc o).alloc (.cells Tryz.zeroCells132 132)).heap.size = w.heap.size + 1 + 1 := by rw [← hs]; exact Array.size_push ..
  refine (bufWrite B b bs (List.replicate n 0) _ 0 n 512 _ (((h.alloc _).alloc _).drew) ?_ ?_ ?_ ?_ hlim).mono ?_
  · show B ≤ ((w.alloc o).alloc (.cells Tryz.zeroCells132 132)).heap.size; omega
  · simp
  · have := h.lt; omega
  · refine At.of_heap (cur := Tryz.zeroCells132) (T := 132) (fz := (0, 0)) ?_ (fun j v hj => by rw [Nat.zero_add]; exact blk0_get j v n hn hj)
    exact heap_alloc2_new w _ _
  · rintro e w' ⟨rfl, h1, h2⟩
    exact ⟨rfl, h1, ((((Fr.refl B [b] w).alloc _).alloc _).drew).trans h2⟩
/-- A file writer of nothing left over the buffer b. -/
def FW (fw b : Nat) (nb : Int) (w : World) : Prop := w.heap[fw]? = some (.cells #[.iface 75 (.pointer (some ⟨b, 0, none⟩)), .int .i64 nb] 121 (0, 0))
/-- A Writer at block tw over the buffer b, with the file writer fw. -/
def TW (tw b fw : Nat) (pad : Int) (hdr blk : List Value) (err : Value) (w : World) : Prop :=
  w.heap[tw]? = some (.cells (wcells (.iface 75 (.pointer (some ⟨b, 0, none⟩))) (.int .i64 pad) (.iface 119 (.pointer (some ⟨fw, 0, none⟩))) hdr blk err) 134 (0, 0)) ∧ hdr.length = 20 ∧ blk.length = 512
theorem twCells {w : World} {tw : Nat} {wv pad curr err : Value} {hdr blk : List Value} (hh : hdr.length = 20) (hk : blk.length = 512) (hW : w.heap[tw]? = some (.cells (wcells wv pad curr hdr blk err) 134 (0, 0))) :
    w.cell? ⟨tw, 0, none⟩ = some wv ∧ w.cell? ⟨tw, 1, none⟩ = some pad ∧ w.cell? ⟨tw, 535, none⟩ = some err ∧ w.frozen? ⟨tw, 1, none⟩ = false ∧ w.frozen? ⟨tw, 535, none⟩ = false :=
  ⟨by rw [Lib.cell_of_heap hW]; exact wcells_0 .., by rw [Lib.cell_of_heap hW]; exact wcells_1 .., by rw [Lib.cell_of_heap hW]; exact wcells_err _ _ _ _ _ _ hh hk, Lib.frozen_of_heap hW 1, Lib.frozen_of_heap hW 535⟩
set_option maxRecDepth 100000 in
theorem flush (w : World) (B tw b fw pad : Nat) (hp2 : pad < 512) (bs : List UInt8) (hdr blk : List Value)
    (hB : Buf B b bs w) (hBw : B ≤ w.heap.size) (hW : TW tw b fw pad hdr blk .nilIface w) (hf : FW fw b 0 w) (hlim : bs.length + pad ≤ 140737488355328)
    : Calls Tryz.prog 62 #[.pointer (some ⟨tw, 0, none⟩)] w fun e w' => e = .returned (.nilIface) ∧ Buf B b (bs ++ List.replicate pad 0) w' ∧ TW tw b fw 0 hdr blk .nilIface w' ∧ Fr B [b, tw] w w' := by
  obtain ⟨hW, hh, hk⟩ := hW
  have c0 : w.cell? ⟨tw, 0, none⟩ = some (.iface 75 (.pointer (some ⟨b, 0, none⟩))) := by rw [Lib.cell_of_heap hW]; exact wcells_0 ..
  have c1 : w.cell? ⟨tw, 1, none⟩ = some (.int .i64 pad) := by rw [Lib.cell_of_heap hW]; exact wcells_1 ..
  have c2 : w.cell? ⟨tw, 2, none⟩ = some (.iface 119 (.pointer (some ⟨fw, 0, none⟩))) := by rw [Lib.cell_of_heap hW]; exact wcells_2 ..
  have c535 : w.cell? ⟨tw, 535, none⟩ = some .nilIface := by rw [Lib.cell_of_heap hW]; exact wcells_err _ _ _ _ _ _ hh hk
  have m1 := m_logical_w w fw (.iface 75 (.pointer (some ⟨b, 0, none⟩))) 0 (by rw [Lib.cell_of_heap hf]; rfl) (by rw [Lib.cell_of_heap hf]; rfl)
  have m2 := m_write
  have hp0 : (0 : Int) ≤ pad := by omega
  have hp3 : (pad : Int) ≤ 512 := by omega
  have hne : tw ≠ b := hB.ne hW (by decide)
  have hns : tw ∉ [b] := by simpa using hne
  have htw : tw < w.heap.size := lt_of_heap hW
  go_enter Tryz.func62, Tryz.ntmps62
  go_wp2
  go_region_held3 (fun w' => w'.cell? ⟨tw, 0, none⟩ = some (.iface 75 (.pointer (some ⟨b, 0, none⟩))) ∧ w'.cell? ⟨tw, 1, none⟩ = some (.int .i64 pad)) (first | go_keep | (refine And.intro ?_ ?_ <;> assumption))
    (first | (go_at_call 284; refine (bufWriteNew B b bs pad w _ hB hBw (by omega) hlim).mono ?_; rintro e w1 ⟨rfl, hB1, hF1⟩; have hW1 := hF1.cells hW hns (.inr (by decide)); obtain ⟨d0, d1, d535, z1, z535⟩ := twCells hh hk hW1; have hW2 := heap_set_same (i := 535) .nilIface hW1; rw [wcells_setErr _ _ _ _ _ _ hh hk] at hW2; obtain ⟨e0, e1, -, -, -⟩ := twCells hh hk hW2))
  go_wp2
  go_ret
  refine ⟨rfl, ?_, ⟨?_, hh, hk⟩, ?_⟩
  · exact ((hB1.setCell (p := ⟨tw, 535, none⟩) hW1 (by decide) (by decide) _).setCell (p := ⟨tw, 1, none⟩) (heap_set_same _ hW1) (by decide) (by decide) _)
  · have h2 := heap_set_same (i := 1) (.int .i64 0) (heap_set_same (i := 535) .nilIface hW1)
    rw [wcells_setErr _ _ _ _ _ _ hh hk, wcells_set1] at h2
    exact h2
  · exact ((hF1.wide (Nat.le_refl _) (by simp)).setCell (p := ⟨tw, 535, none⟩) (.inl (by simp)) _).setCell (p := ⟨tw, 1, none⟩) (.inl (by simp)) _
end Go.Proofs.YtkanmkcojlefbaaGreatDoor
