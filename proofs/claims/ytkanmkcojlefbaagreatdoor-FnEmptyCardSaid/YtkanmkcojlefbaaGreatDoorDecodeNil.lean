/-
  The reference reads an archive of two blocks of bytes 0 as one of no file.
-/
import Derived.Test.YtkanmkcojlefbaaGreatDoorBuf
import Derived.LoopTactic
namespace Go.Proofs.YtkanmkcojlefbaaGreatDoor
open Go.RowKit
theorem zero_true (w : World) (g o n c : Nat) (hn : n ≤ 4611686018427387904) (h : ∀ j, j < n → w.cell? ⟨g, o + j, none⟩ = some (.int .u8 0)) :
    Calls Tryz.prog 42 #[.slice (some ⟨g, o, none⟩) n c] w fun e w' => e = .returned (.bool true) ∧ w = w' := by
  have H := Lib.hid h
  clear h
  go_enter Tryz.func42, Tryz.ntmps42
  go_wp2_with fail
  go_loop [4, 7] (fun _ i => ∃ k : Nat, k ≤ n ∧ i = .int .i64 k) (fun _ i => n - (intOf i).toNat)
  case atStart => exact ⟨0, Nat.zero_le _, rfl⟩
  case round =>
    obtain ⟨k, hk, rfl⟩ := hrel
    by_cases hlt : k < n
    · have hc := H.out k hlt
      have hlt' : (k : Int) < n := by omega
      go_wp2
      go_round
      case rel => exact ⟨k + 1, by omega, by go_num⟩
      case measure => simp [intOf]; omega
    · have hlt' : ¬ (k : Int) < n := by omega
      go_wp2
      go_ret
      exact ⟨rfl, rfl⟩
def SomeInt (w : World) (e : Ending) (w' : World) : Prop := ∃ n : Int, e = .returned (.int .i64 n) ∧ w = w'
theorem below_ok (x : Int) (w : World) (h1 : -9223372036854775808 ≤ x) (h2 : x ≤ 9223372036854775807) :
    Calls Tryz.prog 16 #[.int .i64 x, .int .i64 4096] w (SomeInt w) := by
  go_enter Tryz.func16, Tryz.ntmps16
  go_wp2
  all_goals (go_ret; exact ⟨_, rfl, rfl⟩)
set_option maxRecDepth 100000 in
theorem decode_empty (w : World) (g c : Nat) (hc : 1024 ≤ c) (h : ∀ j, j < 1024 → w.cell? ⟨g, 0 + j, none⟩ = some (.int .u8 0)) :
    Calls Tryz.prog 14 #[.slice (some ⟨g, 0, none⟩) 1024 c] w fun e w' => e = .returned (.tuple #[.slice none 0 0, .bool true]) ∧ w = w' := by
  have H := Lib.hid h
  clear h
  have hc1 : ((512 : Nat) : Int) ≤ c := by omega
  have hc2 : ((1024 : Nat) : Int) ≤ c := by omega
  have hc3 : ¬ c = 512 := by omega
  go_enter Tryz.func14, Tryz.ntmps14
  go_wp2_with fail
  refine wp_loop_once ?_
  go_wp2_with fail
  refine (zero_true w g 0 512 c (by omega) (fun j hj => H.out j (by omega))).mono ?_
  rintro e w1 ⟨rfl, rfl⟩
  go_wp2_with fail
  refine (zero_true w g 512 512 (c - 512) (by omega) (fun j hj => by have := H.out (512 + j) (by omega); rwa [Nat.zero_add] at this)).mono ?_
  rintro e w1 ⟨rfl, rfl⟩
  go_wp2_with fail
  go_ret2
  exact ⟨rfl, rfl⟩
end Go.Proofs.YtkanmkcojlefbaaGreatDoor
