/-
  The Reader: next at the end of an archive.
-/
import Derived.Test.YtkanmkcojlefbaaGreatDoorHeadEnd
namespace Go.Proofs.YtkanmkcojlefbaaGreatDoor
open Go.RowKit
theorem m_phys (w : World) (b : Nat) (v : Value) (n : Int) (h : w.heap[b]? = some (.cells #[v, .int .i64 n] 148)) : (method 511 146 (.pointer (some ⟨b, 0, none⟩)) "tapearchives/pub/gotar.physicalRemaining").run Tryz.prog w =
   .ok (348, .agg #[v, .int .i64 n]) w := by
  have f0 : w.cell? ⟨b, 0, none⟩ = some v := by rw [Lib.cell_of_heap h]; rfl
  have f1 : w.cell? ⟨b, 1, none⟩ = some (.int .i64 n) := by rw [Lib.cell_of_heap h]; rfl
  have h : (method 511 146 (.pointer (some ⟨b, 0, none⟩)) "tapearchives/pub/gotar.physicalRemaining").run Tryz.prog w =
   ((loadVar 148 ⟨b, 0, none⟩).bind fun v => pure (348, v)).run Tryz.prog w := by kernel_rfl
  rw [h]
  have hl : (loadVar 148 ⟨b, 0, none⟩).run Tryz.prog w = .ok (.agg #[v, .int .i64 n]) w := by
    simp [loadVar, go_sem, f0, f1]
  exact (Sem.run_bind ..).trans (by rw [hl]; rfl)
theorem phys (w : World) (v : Value) (n : Int) : Calls Tryz.prog 348 #[.agg #[v, .int .i64 n]] w fun e w' => e = .returned (.int .i64 n) ∧ Below w.heap.size w w' := by
  go_enter Tryz.func348, Tryz.ntmps348
  go_wp2
  go_ret
  exact ⟨rfl, (Below.refl _ _).alloc (Nat.le_refl _) _⟩
/-- A file reader with nb bytes left. -/
def FRd (fr r : Nat) (nb : Int) (w : World) : Prop := w.heap[fr]? = some (.cells #[.iface 84 (.pointer (some ⟨r, 0, none⟩)), .int .i64 nb] 148)
set_option maxRecDepth 100000 in
theorem next_end (w : World) (tr r g n c i fr : Nat) (bs : List UInt8) (blk : List Value) (aE : Addr) (h : RD r g n c i w) (hf : FRd fr r 0 w) (ht : TR tr r 0 (.iface 146 (.pointer (some ⟨fr, 0, none⟩))) blk .nilIface w) (hi : i + 1024 ≤ n) (hbig : n < 4611686018427387904) (hnc : n ≤ c)
    (hb' : bs.length = n) (hsrc : At w g 0 (Lib.byteCells bs)) (hgS : g ∉ [r, tr]) (hz : (bs.drop i).take 1024 = List.replicate 1024 0) (hE : w.cell? ⟨0, 0, none⟩ = some (errV aE)) (hE0 : 0 ∉ [r, tr]) :
    Calls Tryz.prog 72 #[.pointer (some ⟨tr, 0, none⟩)] w fun e w' => e = .returned (.tuple #[.pointer none, errV aE]) ∧ Fr w.heap.size [r, tr] w w' ∧ ∃ blk2, TR tr r 0 (.iface 146 (.pointer (some ⟨fr, 0, none⟩))) blk2 .nilIface w' := by
  go_enter Tryz.func72, Tryz.ntmps72
  go_wp2_with fail
  refine wp_loop_once ?_
  go_wp2_with fail
  have hF1 : Fr w.heap.size [r, tr] w (w.alloc (Obj.cells #[Value.int IntKind.i64 14] 128)) := (Fr.refl _ _ w).alloc _
  have ht1 : TR tr r 0 (.iface 146 (.pointer (some ⟨fr, 0, none⟩))) blk .nilIface (w.alloc (Obj.cells #[Value.int IntKind.i64 14] 128)) := ⟨(Below.heap_alloc w _ tr (lt_of_heap ht.1)).trans ht.1, ht.2⟩
  have hf1 : (w.alloc (Obj.cells #[Value.int IntKind.i64 14] 128)).heap[fr]? = _ := (Below.heap_alloc w _ fr (lt_of_heap hf)).trans hf
  have hr1 := h.alloc (Obj.cells #[Value.int IntKind.i64 14] 128)
  have hs1 := hsrc.frame hF1 (Nat.le_refl _) hgS
  have hE1 := hF1.cell hE hE0 (block_lt_of_cell hE)
  generalize w.alloc (Obj.cells #[Value.int IntKind.i64 14] 128) = w1 at *
  obtain ⟨c0, c1, c2, c515, z1, z2, z515⟩ := trCells ht1.2 ht1.1
  have mp := m_phys w1.drew fr _ _ hf1
  have ltr := lt_of_heap ht1.1
  have l0 := block_lt_of_cell hE1
  have Hr1 := Lib.hid hr1
  have Ht1 := Lib.hid ht1
  have HE1 := Lib.hid hE1
  clear hr1 ht1 hf1 hE hE1 h hf ht hsrc
  go_region_held3 (fun w' => w'.cell? ⟨tr, 0, none⟩ = some (.iface 84 (.pointer (some ⟨r, 0, none⟩))) ∧ w'.cell? ⟨tr, 2, none⟩ = some (.iface 146 (.pointer (some ⟨fr, 0, none⟩)))) (first | go_keep | (refine And.intro ?_ ?_ <;> assumption))
    (first | (go_at_call 348; refine (phys _ _ _).mono ?_; rintro e w2 ⟨rfl, hb2⟩; have d0 := (hb2.cell (p := ⟨tr, 0, none⟩) ltr).trans c0; have d2 := (hb2.cell (p := ⟨tr, 2, none⟩) ltr).trans c2; have HE2 := Lib.hid ((hb2.cell (p := ⟨0, 0, none⟩) l0).trans HE1.out)) | (go_at_call 146; refine (discard_none _ r aE HE2.out).mono ?_; rintro e w3 ⟨rfl, hb3⟩; have e0 := (hb3.cell (p := ⟨tr, 0, none⟩) (Nat.lt_of_lt_of_le ltr hb2.size)).trans d0; have e2 := (hb3.cell (p := ⟨tr, 2, none⟩) (Nat.lt_of_lt_of_le ltr hb2.size)).trans d2))
  have hb : Below w1.heap.size w1 w3 := (((Below.refl _ _).drew).trans hb2).trans (hb3.mono (by have := hb2.size; simpa using this))
  have hF3 : Fr w.heap.size [r, tr] w w3 := hF1.trans (Fr.of_below hb _ _)
  have e1 := (hb.cell (p := ⟨tr, 1, none⟩) ltr).trans c1
  have y1 := (hb.frozen (p := ⟨tr, 1, none⟩) ltr).trans z1
  have HE3 := Lib.hid ((hb.cell (p := ⟨0, 0, none⟩) l0).trans HE1.out)
  have Ht3 : Hid (TR tr r 0 (.iface 146 (.pointer (some ⟨fr, 0, none⟩))) blk .nilIface w3) := ⟨(hb.block tr ltr).trans Ht1.out.1, Ht1.out.2⟩
  have Hr3 : Hid (RD r g n c i w3) := by
    obtain ⟨p, hr⟩ := Hr1.out
    exact ⟨p, (hb.block r (lt_of_heap hr)).trans hr⟩
  have hs3 := hs1.frame (Fr.of_below hb w1.heap.size []) (Nat.le_refl _) (by simp)
  clear mp hs1 z1 z2 z515 c0 c1 c2 c515 d0 d2 HE2 HE1 Hr1 Ht1 hb2 hb3 hb hF1 l0
  go_wp2_with fail
  go_region_held3 (fun w' => w'.cell? ⟨tr, 0, none⟩ = some (.iface 84 (.pointer (some ⟨r, 0, none⟩))) ∧ w'.cell? ⟨tr, 1, none⟩ = some (.int .i64 0)) (first | go_keep | (refine And.intro ?_ ?_ <;> assumption)) (first | (go_at_call 147; refine (tryReadFull_none w3.drew _ _ _ aE HE3.out).mono ?_; rintro e w4 ⟨rfl, rfl⟩))
  go_wp2_with fail
  have hF4 : Fr w.heap.size [r, tr] w (w3.setCell ⟨tr, 1, none⟩ (.int .i64 0)).drew := (hF3.setCell (p := ⟨tr, 1, none⟩) (.inl (by simp)) _).drew
  have hrt : r ≠ tr := by
    obtain ⟨p, hr⟩ := Hr3.out
    rintro rfl
    rw [Ht3.out.1] at hr
    cases hr
  have hr4 : RD r g n c i (w3.setCell ⟨tr, 1, none⟩ (.int .i64 0)).drew := by
    obtain ⟨p, hr⟩ := Hr3.out
    exact ⟨p, (heap_set_other (a := ⟨tr, 1, none⟩) _ hrt).trans hr⟩
  have ht4 : TR tr r 0 (.iface 146 (.pointer (some ⟨fr, 0, none⟩))) blk .nilIface (w3.setCell ⟨tr, 1, none⟩ (.int .i64 0)).drew := by
    have := heap_set_same (i := 1) (.int .i64 0) Ht3.out.1
    rw [rcells_set1] at this
    exact ⟨this, Ht3.out.2⟩
  have hs4 := hs3.frame (((Fr.refl w3.heap.size [r, tr] w3).setCell (p := ⟨tr, 1, none⟩) (.inl (by simp)) (.int .i64 0)).drew) (Nat.le_refl _) hgS
  have hE4 := (((Fr.refl w3.heap.size [r, tr] w3).setCell (p := ⟨tr, 1, none⟩) (.inl (by simp)) (.int .i64 0)).drew).cell HE3.out hE0 (block_lt_of_cell HE3.out)
  refine (readHeader_end _ tr r g n c i 0 _ _ bs blk aE hr4 ht4 hi hbig hnc hb' hs4 hgS hz hE4 hE0).mono ?_
  rintro e w5 ⟨rfl, hF5, blk2, ht5⟩
  have hF6 := hF4.trans (hF5.wide hF4.size (fun k hk _ => hk))
  clear hr4 ht4 hs4 hE4 e0 e1 e2 y1
  go_wp2_with fail
  go_ret2
  exact ⟨rfl, hF6, blk2, ht5⟩
end Go.Proofs.YtkanmkcojlefbaaGreatDoor
