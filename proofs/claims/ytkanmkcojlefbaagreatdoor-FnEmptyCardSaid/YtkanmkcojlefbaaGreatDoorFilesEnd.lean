/-
  The Reader: Next at the end of an archive; impl.files of an archive of no file.
-/
import Derived.Test.YtkanmkcojlefbaaGreatDoorNextEnd
import Derived.Test.YtkanmkcojlefbaaGreatDoorWriteNil
import Derived.Test.YtkanmkcojlefbaaGreatDoorDecodeNil
namespace Go.Proofs.YtkanmkcojlefbaaGreatDoor
open Go.RowKit
theorem Next_end (w : World) (tr r g n c i fr : Nat) (bs : List UInt8) (blk : List Value) (aE : Addr) (h : RD r g n c i w) (hf : FRd fr r 0 w) (ht : TR tr r 0 (.iface 146 (.pointer (some ⟨fr, 0, none⟩))) blk .nilIface w) (hi : i + 1024 ≤ n) (hbig : n < 4611686018427387904) (hnc : n ≤ c)
    (hb' : bs.length = n) (hsrc : At w g 0 (Lib.byteCells bs)) (hgS : g ∉ [r, tr]) (hz : (bs.drop i).take 1024 = List.replicate 1024 0) (hE : w.cell? ⟨0, 0, none⟩ = some (errV aE)) (hE0 : 0 ∉ [r, tr]) :
    Calls Tryz.prog 37 #[.pointer (some ⟨tr, 0, none⟩)] w fun e w' => e = .returned (.tuple #[.pointer none, errV aE]) ∧ Fr w.heap.size [r, tr] w w' := by
  have HC := Lib.hid (next_end w tr r g n c i fr bs blk aE h hf ht hi hbig hnc hb' hsrc hgS hz hE hE0)
  obtain ⟨c0, c1, c2, c515, z1, z2, z515⟩ := trCells ht.2 ht.1
  have HE := Lib.hid hE
  clear c0 c1 c2 z1 z2 hE
  go_enter Tryz.func37, Tryz.ntmps37
  go_wp2_with fail
  refine HC.out.mono ?_
  rintro e w1 ⟨rfl, hF, blk2, ht1⟩
  obtain ⟨-, -, -, d515, -, -, y515⟩ := trCells ht1.2 ht1.1
  clear c515 z515
  go_wp2_with fail
  go_ret2
  exact ⟨rfl, hF.setCell (p := ⟨tr, 515, none⟩) (.inl (by simp)) _⟩
theorem end_eof (w : World) (a : Addr) (h : w.cell? ⟨0, 0, none⟩ = some (errV a)) : Calls Tryz.prog 33 #[errV a] w fun e w' => e = .returned (.int .i64 1) ∧ w = w' := by
  have e0 := eql_err_same w a
  go_enter Tryz.func33, Tryz.ntmps33
  go_wp2
  go_ret
  exact ⟨rfl, rfl⟩
/-- No file is read. -/
theorem files_end (w : World) (tr r g n c i fr : Nat) (bs : List UInt8) (blk : List Value) (aE : Addr) (limit : Int) (h : RD r g n c i w) (hf : FRd fr r 0 w) (ht : TR tr r 0 (.iface 146 (.pointer (some ⟨fr, 0, none⟩))) blk .nilIface w) (hi : i + 1024 ≤ n) (hbig : n < 4611686018427387904) (hnc : n ≤ c)
    (hb' : bs.length = n) (hsrc : At w g 0 (Lib.byteCells bs)) (hgS : g ∉ [r, tr]) (hz : (bs.drop i).take 1024 = List.replicate 1024 0) (hE : w.cell? ⟨0, 0, none⟩ = some (errV aE)) (hE0 : 0 ∉ [r, tr]) :
    Calls Tryz.prog 46 #[.pointer (some ⟨tr, 0, none⟩), .int .i64 limit] w fun e w' => e = .returned (.tuple #[.slice none 0 0, .int .i64 1]) ∧ Fr w.heap.size [r, tr] w w' := by
  have HC := Lib.hid (Next_end w tr r g n c i fr bs blk aE h hf ht hi hbig hnc hb' hsrc hgS hz hE hE0)
  have HE := Lib.hid hE
  have l0 := block_lt_of_cell hE
  clear hE
  go_enter Tryz.func46, Tryz.ntmps46
  go_wp2_with fail
  refine wp_loop_once ?_
  go_wp2_with fail
  refine HC.out.mono ?_
  rintro e w1 ⟨rfl, hF⟩
  go_wp2_with fail
  refine (end_eof w1 aE (hF.cell HE.out hE0 l0)).mono ?_
  rintro e w2 ⟨rfl, rfl⟩
  go_wp2_with fail
  go_ret2
  exact ⟨rfl, hF⟩
end Go.Proofs.YtkanmkcojlefbaaGreatDoor
