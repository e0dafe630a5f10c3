/-
  laws.FnEmpty, walked: it returns true.
-/
import Derived.Test.YtkanmkcojlefbaaGreatDoorReadNil
namespace Go.Proofs.YtkanmkcojlefbaaGreatDoor
open Go.RowKit
theorem empty_walk (w : World) (x : Int) (aE aC : Addr) (h1 : -9223372036854775808 ≤ x) (h2 : x ≤ 9223372036854775807) (hE : w.cell? ⟨0, 0, none⟩ = some (errV aE)) (hC : w.cell? ⟨4, 0, none⟩ = some (errV aC)) :
    Calls Tryz.prog 4 #[.int .i64 x] w fun e w' => e = .returned (.bool true) ∧ Below w.heap.size w w' := by
  have HE := Lib.hid hE
  have HC := Lib.hid hC
  have l0 := block_lt_of_cell hE
  clear hE hC
  go_enter Tryz.func4, Tryz.ntmps4
  go_wp2_with fail
  refine (writeNil w aC HC.out).mono ?_
  rintro e w1 ⟨v, rfl, hv, hb1⟩
  have hex : ∃ g c, v = .slice (some ⟨g, 0, none⟩) 1024 c ∧ 1024 ≤ c ∧ At w1 g 0 (Lib.byteCells (List.replicate 1024 0)) := by
    rcases hv.2 with ⟨-, h⟩ | ⟨g', cap, cur, rfl, hg', hcur, hnc, -, -, htk⟩
    · omega
    · refine ⟨g', cap, rfl, hnc, At.of_heap hcur (fun j u hj => ?_)⟩
      rw [← htk, List.getElem?_take] at hj
      split at hj
      · simpa using hj
      · cases hj
  obtain ⟨g, c, hvv, hc, hat⟩ := hex
  clear hv
  rw [hvv]
  clear hvv
  have HA := Lib.hid hat
  clear hat
  go_wp2_with fail
  refine (decode_empty w1 g c hc (fun j hj => HA.out j _ ?_)).mono ?_
  · have e : ∀ m, j < m → (Lib.byteCells (List.replicate m 0))[j]? = some (.int .u8 0) := fun m hm => by simp [Lib.byteCells, hm]
    exact e 1024 hj
  rintro e w2 ⟨rfl, rfl⟩
  go_wp2_with fail
  refine (below_ok x w1 h1 h2).mono ?_
  rintro e w2 ⟨m, rfl, rfl⟩
  go_wp2_with fail
  refine (read_nil w1 g c m aE HA.out ((hb1.cell (p := ⟨0, 0, none⟩) l0).trans HE.out)).mono ?_
  rintro e w3 ⟨rfl, hb3⟩
  go_wp2_with fail
  go_ret
  exact ⟨rfl, hb1.trans (hb3.mono hb1.size)⟩
end Go.Proofs.YtkanmkcojlefbaaGreatDoor
