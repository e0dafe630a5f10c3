/-
  (*bytes.Reader).Read.
-/
import Derived.Test.YtkanmkcojlefbaaGreatDoorBuf
import Derived.Deep.QuietTactic
import Derived.BigQuiet
import Derived.Deep.RegionHeld3
import Derived.BigRegion
namespace Go.Proofs.YtkanmkcojlefbaaGreatDoor
open Go.RowKit
/-- A bytes.Reader at block r over n bytes from place 0 of block g, with i of them read. -/
def RD (r g n c i : Nat) (w : World) : Prop := ∃ p : Int, w.heap[r]? = some (.cells #[.slice (some ⟨g, 0, none⟩) n c, .int .i64 i, .int .i64 p] 154 (0, 0))
def EofRead (ev : Value) (w : World) (e : Ending) (w' : World) : Prop := e = .returned (.tuple #[.int .i64 0, ev]) ∧ ∃ q, w' = w.drewN q
theorem read_eof (w : World) (r g n c i : Nat) (d : Value) (ev : Value) (h : RD r g n c i w) (hi : n ≤ i) (hE : w.cell? ⟨0, 0, none⟩ = some ev) :
    Calls Tryz.prog 340 #[.pointer (some ⟨r, 0, none⟩), d] w (EofRead ev w) := by
  obtain ⟨p, hr⟩ := h
  have c0 : w.cell? ⟨r, 0, none⟩ = some (.slice (some ⟨g, 0, none⟩) n c) := by rw [Lib.cell_of_heap hr]; rfl
  have c1 : w.cell? ⟨r, 1, none⟩ = some (.int .i64 i) := by rw [Lib.cell_of_heap hr]; rfl
  have hi2 : (n : Int) ≤ i := by omega
  clear hr hi
  go_enter Tryz.func340, Tryz.ntmps340
  go_wp2_with fail
  go_quiet (fail)
  go_wp2_with fail
  go_quiet (fail)
  go_wp2_with fail
  go_ret2
  refine ⟨rfl, ?_⟩
  exact ⟨_, World.drewN_drewN _ _ _⟩

def GotRead (r g n c i k d o : Nat) (bs : List UInt8) (cur : List Value) (t : TypeId) (w : World) (e : Ending) (w' : World) : Prop :=
  e = .returned (.tuple #[.int .i64 k, .nilIface]) ∧ RD r g n c (i + k) w' ∧ w'.heap[d]? = some (.cells (splice cur o (Lib.byteCells ((bs.drop i).take k))).toArray t (0, 0)) ∧ Fr w.heap.size [r, d] w w'
theorem run_copy_u8 (w : World) (g o dLen dCap : Nat) (a : Addr) (sLen sCap : Nat) (cur : List Value) (t : TypeId) (cs : List Value)
    (hg : w.heap[g]? = some (.cells cur.toArray t (0, 0))) (hn : cs.length = Nat.min sLen dLen)
    (hsrc : ∀ j v, cs[j]? = some v → w.cell? (a.add j) = some v) (hfit : o + cs.length ≤ cur.length) (h1 : ∀ v ∈ cs, v.oneCell' = true) :
    (Builtin.copy_ #[35, 35] 3 #[.slice (some ⟨g, o, none⟩) dLen dCap, .slice (some a) sLen sCap]).run Tryz.prog w = .ok (goInt cs.length) (w.setRow g (splice cur o cs).toArray) := by
  have h := run_copy_row (P := Tryz.prog) w 35 35 3 5 g o dLen dCap a sLen sCap cur.toArray t cs Tryz.underlying35 (by kernel_rfl) hg hn hsrc (by simpa using hfit) h1
  rw [h, splice, List.append_assoc]
set_option maxRecDepth 100000 in
theorem read_data (w : World) (r g n c i k d o m dc : Nat) (bs : List UInt8) (cur : List Value) (t : TypeId) (h : RD r g n c i w) (hi : i < n) (hk : k = min m (n - i)) (hm : m < 4611686018427387904) (hbig : n < 4611686018427387904) (hnc : n ≤ c)
    (hb : bs.length = n) (hsrc : At w g 0 (Lib.byteCells bs)) (hd : w.heap[d]? = some (.cells cur.toArray t (0, 0))) (hfit : o + m ≤ cur.length) (hdr : d ≠ r) (hgr : g ≠ r) :
    Calls Tryz.prog 340 #[.pointer (some ⟨r, 0, none⟩), .slice (some ⟨d, o, none⟩) m dc] w (GotRead r g n c i k d o bs cur t w) := by
  obtain ⟨p, hr⟩ := h
  have c0 : w.cell? ⟨r, 0, none⟩ = some (.slice (some ⟨g, 0, none⟩) n c) := by rw [Lib.cell_of_heap hr]; rfl
  have c1 : w.cell? ⟨r, 1, none⟩ = some (.int .i64 i) := by rw [Lib.cell_of_heap hr]; rfl
  have c2 : w.cell? ⟨r, 2, none⟩ = some (.int .i64 p) := by rw [Lib.cell_of_heap hr]; rfl
  have z1 : w.frozen? ⟨r, 1, none⟩ = false := Lib.frozen_of_heap hr 1
  have z2 : w.frozen? ⟨r, 2, none⟩ = false := Lib.frozen_of_heap hr 2
  have hi2 : (i : Int) < n := by omega
  have hnc2 : (n : Int) ≤ c := by omega
  have hni : ¬ c = i := by omega
  have Hr := Lib.hid hr
  have Hd := Lib.hid hd
  have Hk := Lib.hid hk
  clear hr hd hk
  go_enter Tryz.func340, Tryz.ntmps340
  go_wp2_with fail
  go_quiet (fail)
  go_wp2_with fail
  have hr1 := heap_set_same (w := w.drewN nq) (i := 2) (.int .i64 (-1)) Hr.out
  have hd1 : ((w.drewN nq).setCell ⟨r, 2, none⟩ (.int .i64 (-1))).heap[d]? = _ := (heap_set_other _ hdr).trans Hd.out
  have hs1 : At ((w.drewN nq).setCell ⟨r, 2, none⟩ (.int .i64 (-1))) g 0 (Lib.byteCells bs) := hsrc.carry (heap_set_other (w := w.drewN nq) (a := ⟨r, 2, none⟩) _ hgr)
  have hF1 : Fr w.heap.size [r, d] w ((w.drewN nq).setCell ⟨r, 2, none⟩ (.int .i64 (-1))) := ((Fr.refl _ _ w).drewN nq).setCell (p := ⟨r, 2, none⟩) (.inl (by simp)) _
  generalize (w.drewN nq).setCell ⟨r, 2, none⟩ (.int .i64 (-1)) = w1 at *
  have e0 : w1.cell? ⟨r, 0, none⟩ = some (.slice (some ⟨g, 0, none⟩) n c) := by rw [Lib.cell_of_heap hr1]; rfl
  have e1 : w1.cell? ⟨r, 1, none⟩ = some (.int .i64 i) := by rw [Lib.cell_of_heap hr1]; rfl
  have hkl : (Lib.byteCells ((bs.drop i).take k)).length = k := by rw [Lib.byteCells_length, List.length_take, List.length_drop, hb, Hk.out]; omega
  have hsi : At w1.drew g i (Lib.byteCells ((bs.drop i).take k)) := by
    have := (hs1.drop i).take k
    rw [Nat.zero_add] at this
    exact (show At w1 g i _ by simpa [Lib.byteCells] using this)
  have hcp := run_copy_u8 w1.drew d o m dc ⟨g, i, none⟩ (n - i) (c - i) cur t (Lib.byteCells ((bs.drop i).take k)) hd1 (by rw [hkl, Hk.out]; exact Nat.min_comm _ _) hsi.src (by rw [hkl, Hk.out]; omega) (Lib.byteCells_one _)
  rw [hkl] at hcp
  have Hd1 := Lib.hid hd1
  have Hr1 := Lib.hid hr1
  have Hkl := Lib.hid hkl
  clear hr1 hd1 hs1 hsi hkl c0 c1 c2 z1 z2 hsrc hb
  go_region
  have hr2 : (w1.drew.setRow d (splice cur o (Lib.byteCells ((bs.drop i).take k))).toArray).heap[r]? = _ := (setRow_other w1.drew d r _ (Ne.symm hdr)).trans Hr1.out
  have hd2 : (w1.drew.setRow d (splice cur o (Lib.byteCells ((bs.drop i).take k))).toArray).heap[d]? = _ := setRow_heap w1.drew d _ _ t _ Hd1.out
  have hF2 : Fr w.heap.size [r, d] w (w1.drew.setRow d (splice cur o (Lib.byteCells ((bs.drop i).take k))).toArray) := hF1.drew.setRow (.inl (by simp)) _
  clear hcp
  generalize w1.drew.setRow d (splice cur o (Lib.byteCells ((bs.drop i).take k))).toArray = w2 at *
  have e1 : w2.cell? ⟨r, 1, none⟩ = some (.int .i64 i) := by rw [Lib.cell_of_heap hr2]; rfl
  have z1 : w2.frozen? ⟨r, 1, none⟩ = false := Lib.frozen_of_heap hr2 1
  have hkn : k ≤ n - i := by rw [Hk.out]; exact Nat.min_le_right _ _
  have Hr2 := Lib.hid hr2
  have Hd2 := Lib.hid hd2
  clear hr2 hd2
  go_wp2_with fail
  go_ret2
  refine ⟨rfl, ⟨-1, ?_⟩, (heap_set_other _ hdr).trans Hd2.out, hF2.setCell (p := ⟨r, 1, none⟩) (.inl (by simp)) _⟩
  have := heap_set_same (i := 1) (.int .i64 (i + k)) Hr2.out
  rw [this]
  simp
end Go.Proofs.YtkanmkcojlefbaaGreatDoor
