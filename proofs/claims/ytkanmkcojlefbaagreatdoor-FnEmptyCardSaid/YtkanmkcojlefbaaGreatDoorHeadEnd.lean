/-
  The Reader reads the end of an archive: two blocks of bytes 0.
-/
import Derived.Test.YtkanmkcojlefbaaGreatDoorFull
import Derived.Test.YtkanmkcojlefbaaGreatDoorShelf
import Derived.Test.YtkanmkcojlefbaaGreatDoorFlush
import Derived.Laws.IdiomStrings
namespace Go.Proofs.YtkanmkcojlefbaaGreatDoor
open Go.RowKit
theorem convBytes (w : World) (g o c : Nat) (l : List UInt8) (h : At w g o (Lib.byteCells l)) : (convert 35 9 (.slice (some ⟨g, o, none⟩) l.length c)).run Tryz.prog w = .ok (.string ⟨l.toArray⟩) w :=
  run_convert_bytes_back w 35 9 5 ⟨g, o, none⟩ c l Tryz.underlying35 Tryz.underlying5 Tryz.underlying9 (fun j hj => h.src j _ (by simp [Lib.byteCells, hj]))
theorem bytesEqual (w : World) (g1 o1 n1 c1 g2 o2 n2 c2 : Nat) (xs ys : List UInt8) (h1 : At w g1 o1 (Lib.byteCells xs)) (h2 : At w g2 o2 (Lib.byteCells ys)) (e1 : xs.length = n1) (e2 : ys.length = n2) :
    Calls Tryz.prog 197 #[.slice (some ⟨g1, o1, none⟩) n1 c1, .slice (some ⟨g2, o2, none⟩) n2 c2] w fun e w' => e = .returned (.bool (xs == ys)) ∧ w = w' := by
  subst e1; subst e2
  refine (Tryz.bytes_Equal_strs _ _ _ _ w (convBytes w g1 o1 c1 xs h1) (convBytes w g2 o2 c2 ys h2)).mono ?_
  rintro e w' ⟨rfl, rfl⟩
  simp
theorem rcells_splice (rv pad curr err : Value) (blk new : List Value) (k : blk.length = 512) (k2 : new.length = 512) :
    splice (rv :: pad :: curr :: (blk ++ [err])) 3 new = rv :: pad :: curr :: (new ++ [err]) := by
  simp [splice, k2, k]
/-- A Reader at block tr over the bytes.Reader r. -/
def TR (tr r : Nat) (pad : Int) (curr : Value) (blk : List Value) (err : Value) (w : World) : Prop :=
  w.heap[tr]? = some (.cells (rcells (.iface 84 (.pointer (some ⟨r, 0, none⟩))) (.int .i64 pad) curr blk err) 152 (0, 0)) ∧ blk.length = 512
theorem trCells {w : World} {tr : Nat} {rv pad curr err : Value} {blk : List Value} (hk : blk.length = 512) (hW : w.heap[tr]? = some (.cells (rcells rv pad curr blk err) 152 (0, 0))) :
    w.cell? ⟨tr, 0, none⟩ = some rv ∧ w.cell? ⟨tr, 1, none⟩ = some pad ∧ w.cell? ⟨tr, 2, none⟩ = some curr ∧ w.cell? ⟨tr, 515, none⟩ = some err ∧ w.frozen? ⟨tr, 1, none⟩ = false ∧ w.frozen? ⟨tr, 2, none⟩ = false ∧ w.frozen? ⟨tr, 515, none⟩ = false :=
  ⟨by rw [Lib.cell_of_heap hW]; exact rcells_0 .., by rw [Lib.cell_of_heap hW]; exact rcells_1 .., by rw [Lib.cell_of_heap hW]; exact rcells_2 .., by rw [Lib.cell_of_heap hW]; exact rcells_err _ _ _ _ _ hk, Lib.frozen_of_heap hW 1, Lib.frozen_of_heap hW 2, Lib.frozen_of_heap hW 515⟩
/-- The next block is read into the Reader's own. -/
def GotBlock (tr r g n c i : Nat) (pad : Int) (curr : Value) (bs : List UInt8) (err : Value) (w : World) (e : Ending) (w' : World) : Prop :=
  e = .returned (.tuple #[.int .i64 512, .nilIface]) ∧ RD r g n c (i + 512) w' ∧ TR tr r pad curr (Lib.byteCells ((bs.drop i).take 512)) err w' ∧ Fr w.heap.size [r, tr] w w'
theorem readBlock (w : World) (tr r g n c i : Nat) (pad : Int) (curr err : Value) (bs : List UInt8) (blk : List Value) (h : RD r g n c i w) (ht : TR tr r pad curr blk err w) (hi : i + 512 ≤ n) (hbig : n < 4611686018427387904) (hnc : n ≤ c)
    (hb : bs.length = n) (hsrc : At w g 0 (Lib.byteCells bs)) (hgr : g ≠ r) :
    Calls Tryz.prog 196 #[.iface 84 (.pointer (some ⟨r, 0, none⟩)), .slice (some ⟨tr, 3, none⟩) 512 512] w (GotBlock tr r g n c i pad curr bs err w) := by
  obtain ⟨ht, hk⟩ := ht
  have hne : tr ≠ r := by
    rintro rfl
    obtain ⟨p, hr⟩ := h
    rw [ht] at hr
    cases hr
  refine (readFull_full w r g n c i tr 3 512 512 bs _ 152 h (by omega) (by omega) (Nat.le_refl _) hbig hnc hb hsrc ht (by simp [hk]) hne hgr).mono ?_
  rintro e w' ⟨rfl, h2, h3, h4⟩
  have hl : (Lib.byteCells ((bs.drop i).take 512)).length = 512 := by rw [Lib.byteCells_length, List.length_take, List.length_drop, hb]; omega
  rw [rcells_splice _ _ _ _ _ _ hk hl] at h3
  exact ⟨rfl, h2, ⟨h3, hl⟩, h4⟩
theorem TR.at {tr r : Nat} {pad : Int} {curr err : Value} {l : List UInt8} {w : World} (h : TR tr r pad curr (Lib.byteCells l) err w) : At w tr 3 (Lib.byteCells l) :=
  At.of_heap h.1 (fun j v hj => by rw [rcells_blk _ _ _ _ _ h.2 j (by have := (List.getElem?_eq_some_iff.1 hj).1; rw [h.2] at this; exact this)]; exact hj)
theorem RD.alloc {r g n c i : Nat} {w : World} (h : RD r g n c i w) (o : Obj) : RD r g n c i (w.alloc o) := by
  obtain ⟨p, hr⟩ := h
  exact ⟨p, (Below.heap_alloc w o r (lt_of_heap hr)).trans hr⟩
theorem newBlock (w : World) : At (w.alloc (.cells Tryz.zeroCells132 132)).drew w.heap.size 0 (Lib.byteCells (List.replicate 512 0)) :=
  At.of_heap (T := 132) (fz := (0, 0)) (heap_alloc_new w _) (fun j v hj => by rw [Nat.zero_add]; exact blk0_get j v 512 (Nat.le_refl _) hj)
theorem At.frame {w w' : World} {g o : Nat} {cs : List Value} (h : At w g o cs) {B : Nat} {S : List Nat} (f : Fr B S w w') (hB : w.heap.size ≤ B) (hg : g ∉ S) : At w' g o cs := fun j v hj =>
  f.cell (h j v hj) hg (Nat.lt_of_lt_of_le (block_lt_of_cell (h j v hj)) hB)
set_option maxRecDepth 100000 in
theorem readHeader_end (w : World) (tr r g n c i : Nat) (pad : Int) (curr err : Value) (bs : List UInt8) (blk : List Value) (aE : Addr) (h : RD r g n c i w) (ht : TR tr r pad curr blk err w) (hi : i + 1024 ≤ n) (hbig : n < 4611686018427387904) (hnc : n ≤ c)
    (hb : bs.length = n) (hsrc : At w g 0 (Lib.byteCells bs)) (hgS : g ∉ [r, tr]) (hz : (bs.drop i).take 1024 = List.replicate 1024 0) (hE : w.cell? ⟨0, 0, none⟩ = some (errV aE)) (hE0 : 0 ∉ [r, tr]) :
    Calls Tryz.prog 148 #[.pointer (some ⟨tr, 0, none⟩)] w fun e w' => e = .returned (.tuple #[.pointer none, .pointer none, errV aE]) ∧ Fr w.heap.size [r, tr] w w' ∧ ∃ blk2, TR tr r pad curr blk2 err w' := by
  have hgr : g ≠ r := by simp at hgS; exact hgS.1
  have HC := Lib.hid (readBlock w.drew tr r g n c i pad curr err bs blk h ht (by omega) hbig hnc hb hsrc hgr)
  have hE1 := block_lt_of_cell hE
  obtain ⟨c0, -⟩ := trCells ht.2 ht.1
  have hz1 : (bs.drop i).take 512 = List.replicate 512 0 := by
    have := congrArg (List.take 512) hz
    simpa [List.take_take] using this
  have hz2 : (bs.drop (i + 512)).take 512 = List.replicate 512 0 := by
    have := congrArg (List.drop 512) hz
    simpa [List.drop_take, List.drop_drop] using this
  go_enter Tryz.func148, Tryz.ntmps148
  go_wp2_with fail
  go_region_held3 (fun w' => w'.cell? ⟨tr, 0, none⟩ = some (.iface 84 (.pointer (some ⟨r, 0, none⟩)))) (first | go_keep | assumption) (first | (go_at_call 196; refine HC.out.mono ?_; rintro e w1 ⟨rfl, h2, h3, h4⟩; obtain ⟨d0, -⟩ := trCells h3.2 h3.1))
  go_wp2_with fail
  have ha1 := h3.at
  rw [hz1] at ha1
  have hw1 : w.heap.size ≤ w1.heap.size := h4.size
  have HE := Lib.hid (bytesEqual (w1.alloc (.cells Tryz.zeroCells132 132)).drew tr 3 512 512 w1.heap.size 0 512 512 (List.replicate 512 0) (List.replicate 512 0) (ha1.carry (Below.heap_alloc w1 _ tr (lt_of_heap h3.1))) (newBlock w1) (by simp) (by simp))
  clear ha1
  go_region_held3 (fun _ => True) (trivial) (first | (go_at_call 197; refine HE.out.mono ?_; rintro e w2 ⟨rfl, rfl⟩))
  have hF2 : Fr w.heap.size [r, tr] w (w1.alloc (.cells Tryz.zeroCells132 132)).drew := (((Fr.refl _ _ w).drew.trans h4).alloc _).drew
  have ht2 : TR tr r pad curr (Lib.byteCells ((bs.drop i).take 512)) err (w1.alloc (.cells Tryz.zeroCells132 132)).drew := ⟨(Below.heap_alloc w1 _ tr (lt_of_heap h3.1)).trans h3.1, h3.2⟩
  have hr2 : RD r g n c (i + 512) (w1.alloc (.cells Tryz.zeroCells132 132)).drew := h2.alloc _
  generalize (w1.alloc (.cells Tryz.zeroCells132 132)).drew = w2 at *
  obtain ⟨e0, -⟩ := trCells ht2.2 ht2.1
  have hs2 : At w2 g 0 (Lib.byteCells bs) := hsrc.frame hF2 (Nat.le_refl _) hgS
  have HC2 := Lib.hid (readBlock w2.drew tr r g n c (i + 512) pad curr err bs _ hr2 ht2 (by omega) hbig hnc hb hs2 hgr)
  clear d0 h3 h2 h4
  go_wp2_with fail
  go_region_held3 (fun w' => w'.cell? ⟨tr, 0, none⟩ = some (.iface 84 (.pointer (some ⟨r, 0, none⟩)))) (first | go_keep | assumption) (first | (go_at_call 196; refine HC2.out.mono ?_; rintro e w3 ⟨rfl, h2, h3, h4⟩; obtain ⟨d0, -⟩ := trCells h3.2 h3.1))
  go_wp2_with fail
  have ha1 := h3.at
  rw [hz2] at ha1
  have HE2 := Lib.hid (bytesEqual (w3.alloc (.cells Tryz.zeroCells132 132)).drew tr 3 512 512 w3.heap.size 0 512 512 (List.replicate 512 0) (List.replicate 512 0) (ha1.carry (Below.heap_alloc w3 _ tr (lt_of_heap h3.1))) (newBlock w3) (by simp) (by simp))
  clear ha1
  go_region_held3 (fun _ => True) (trivial) (first | (go_at_call 197; refine HE2.out.mono ?_; rintro e w4 ⟨rfl, rfl⟩))
  have hF3 : Fr w.heap.size [r, tr] w (w3.alloc (.cells Tryz.zeroCells132 132)).drew := ((hF2.drew.trans (h4.wide hF2.size (fun k hk _ => hk))).alloc _).drew
  have ht4 : TR tr r pad curr (Lib.byteCells ((bs.drop (i + 512)).take 512)) err (w3.alloc (.cells Tryz.zeroCells132 132)).drew := ⟨(Below.heap_alloc w3 _ tr (lt_of_heap h3.1)).trans h3.1, h3.2⟩
  clear d0 h3 h2 h4
  generalize (w3.alloc (.cells Tryz.zeroCells132 132)).drew = w4 at *
  have hE4 := hF3.cell hE hE0 hE1
  clear hE
  go_wp2_with fail
  go_quiet (fail)
  go_wp2_with fail
  refine bodyPost_ret (results_tmp3 rfl _ _ _) rfl ?_
  exact ⟨rfl, hF3.drewN _, _, ht4⟩
end Go.Proofs.YtkanmkcojlefbaaGreatDoor
