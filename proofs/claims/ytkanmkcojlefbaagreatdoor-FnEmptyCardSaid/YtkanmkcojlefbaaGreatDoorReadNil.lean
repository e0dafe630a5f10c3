/-
  impl.Read of an archive of no file.
-/
import Derived.Test.YtkanmkcojlefbaaGreatDoorFilesEnd
namespace Go.Proofs.YtkanmkcojlefbaaGreatDoor
open Go.RowKit
def Cloned (w : World) (n : Nat) (bs : List UInt8) (e : Ending) (w' : World) : Prop :=
  ∃ g c, e = .returned (.slice (some ⟨g, 0, none⟩) n c) ∧ w.heap.size ≤ g ∧ n ≤ c ∧ At w' g 0 (Lib.byteCells bs) ∧ (∃ cur, w'.heap[g]? = some (.cells cur 5)) ∧ Below w.heap.size w w'
theorem clone (w : World) (g o n c : Nat) (bs : List UInt8) (hat : At w g o (Lib.byteCells bs)) (hn : bs.length = n) (hlim : n ≤ 140737488355328) :
    Calls Tryz.prog 36 #[.slice (some ⟨g, o, none⟩) n c] w (Cloned w n bs) := by
  refine (Tryz.bytes_Clone_at ⟨g, o, none⟩ n c (bs.map fun b => (b.toNat : Int)) w (by simpa using hn) hlim (fun i hi => ?_)).mono ?_
  · refine hat.src i _ ?_
    simp [Lib.byteCells, hn, hi]
  · rintro e w' ⟨v', rfl, hown, hne, hb⟩
    have hx : (bs.map fun b => (b.toNat : Int)).map (Value.int .u8) = Lib.byteCells bs := by simp [Lib.byteCells]
    rw [hx] at hown
    rcases hown.2 with ⟨h1, -⟩ | ⟨g', cap, cur, rfl, hg', hcur, hnc, -, -, htk⟩
    · exact absurd h1 hne
    · refine ⟨g', cap, rfl, hg', hnc, At.of_heap hcur (fun j v hj => ?_), ⟨cur, hcur⟩, hb⟩
      rw [← htk, List.getElem?_take] at hj
      split at hj
      · simpa using hj
      · cases hj
theorem newBytesReader (w : World) (g n c : Nat) : Calls Tryz.prog 35 #[.slice (some ⟨g, 0, none⟩) n c] w fun e w' => e = .returned (.pointer (some ⟨w.heap.size, 0, none⟩)) ∧ RD w.heap.size g n c 0 w' ∧ Below w.heap.size w w' := by
  go_enter Tryz.func35, Tryz.ntmps35
  go_wp2
  go_ret
  exact ⟨rfl, ⟨-1, heap_alloc_new w _⟩, (Below.refl _ _).alloc (Nat.le_refl _) _⟩
theorem newReader (w : World) (r : Nat) : Calls Tryz.prog 34 #[.iface 84 (.pointer (some ⟨r, 0, none⟩))] w fun e w' =>
    e = .returned (.pointer (some ⟨w.heap.size + 1, 0, none⟩)) ∧ FRd w.heap.size r 0 w' ∧ TR (w.heap.size + 1) r 0 (.iface 146 (.pointer (some ⟨w.heap.size, 0, none⟩))) blk0 .nilIface w' ∧ Below w.heap.size w w' := by
  go_enter Tryz.func34, Tryz.ntmps34
  go_wp2
  go_ret
  rw [new_rcells]
  exact ⟨rfl, heap_alloc2_old w _ _, ⟨heap_alloc2_new w _ _, blk0_length⟩, ((Below.refl _ _).alloc (Nat.le_refl _) _).alloc (by simp) _⟩
theorem read_nil (w : World) (g c : Nat) (limit : Int) (aE : Addr) (hat : At w g 0 (Lib.byteCells (List.replicate 1024 0))) (hE : w.cell? ⟨0, 0, none⟩ = some (errV aE)) :
    Calls Tryz.prog 15 #[.slice (some ⟨g, 0, none⟩) 1024 c, .int .i64 limit] w fun e w' => e = .returned (.tuple #[.slice none 0 0, .int .i64 1]) ∧ Below w.heap.size w w' := by
  have HC := Lib.hid (clone w g 0 1024 c _ hat (List.length_replicate ..) (by omega))
  have HE := Lib.hid hE
  have l0 := block_lt_of_cell hE
  clear hat hE
  go_enter Tryz.func15, Tryz.ntmps15
  go_wp2_with fail
  refine HC.out.mono ?_
  rintro e w1 ⟨g1, c1, rfl, hg1, hc1, hat1, hcur1, hb1⟩
  go_wp2_with fail
  refine (newBytesReader w1 g1 1024 c1).mono ?_
  rintro e w2 ⟨rfl, hr2, hb2⟩
  go_wp2_with fail
  refine (newReader w2 w1.heap.size).mono ?_
  rintro e w3 ⟨rfl, hf3, ht3, hb3⟩
  go_wp2_with fail
  have lg1 : g1 < w1.heap.size := lt_of_heap hcur1.choose_spec
  have lr2 : w1.heap.size < w2.heap.size := by obtain ⟨p, h⟩ := hr2; exact lt_of_heap h
  have hr3 : RD w1.heap.size g1 1024 c1 0 w3 := by obtain ⟨p, h⟩ := hr2; exact ⟨p, (hb3.block _ lr2).trans h⟩
  have hat3 : At w3 g1 0 _ := (hat1.carry (hb2.block g1 lg1)).carry (hb3.block g1 (by omega))
  have b13 : Below w.heap.size w w3 := (hb1.trans (hb2.mono hb1.size)).trans (hb3.mono (Nat.le_trans hb1.size hb2.size))
  have hE3 := (b13.cell (p := ⟨0, 0, none⟩) l0).trans HE.out
  have s1 := hb1.size
  have s2 := hb2.size
  refine (files_end w3 (w2.heap.size + 1) w1.heap.size g1 1024 c1 0 w2.heap.size (List.replicate 1024 0) blk0 aE limit hr3 hf3 ht3 (by omega) (by omega) hc1 (List.length_replicate ..) hat3 (by simp; omega) (by rw [List.drop_zero, List.take_replicate, Nat.min_self]) hE3 (by simp; omega)).mono ?_
  rintro e w4 ⟨rfl, hF4⟩
  go_wp2_with fail
  go_ret2
  refine ⟨rfl, ?_⟩
  refine b13.trans ?_
  refine ⟨hF4.os, hF4.tape, hF4.output, hF4.size, fun k hk => ?_⟩
  have h3 := hb3.size
  obtain ⟨o, ho⟩ : ∃ o, w3.heap[k]? = some o := ⟨_, Array.getElem?_eq_getElem (by omega)⟩
  rw [ho]
  exact hF4.same ho (by simp; omega) (.inl (by omega))
end Go.Proofs.YtkanmkcojlefbaaGreatDoor
