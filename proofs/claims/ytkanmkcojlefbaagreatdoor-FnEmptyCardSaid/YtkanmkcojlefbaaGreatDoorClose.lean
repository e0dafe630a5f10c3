/-
  The Writer: Close (with nothing left of the file before).
-/
import Derived.Test.YtkanmkcojlefbaaGreatDoorFlush
import Derived.LoopTactic
import Derived.Deep.RegionHeld3
import Derived.Deep.QuietTactic
import Derived.BigQuiet
namespace Go.Proofs.YtkanmkcojlefbaaGreatDoor
open Go.RowKit
/-- Bytes 0 of a block are written. -/
theorem bufWriteZ (B b : Nat) (bs : List UInt8) (g n : Nat) (w : World) (h : Buf B b bs w) (hBw : B ≤ w.heap.size) (hg : w.heap[g]? = some (.cells Tryz.zeroCells132 132)) (hn : n ≤ 512) (hlim : bs.length + n ≤ 140737488355328) :
    Calls Tryz.prog 284 #[.pointer (some ⟨b, 0, none⟩), .slice (some ⟨g, 0, none⟩) n 512] w fun e w' =>
      e = .returned (.tuple #[.int .i64 n, .nilIface]) ∧ Buf B b (bs ++ List.replicate n 0) w' ∧ Fr B [b] w w' :=
  bufWrite B b bs (List.replicate n 0) g 0 n 512 w h hBw (by simp) (h.ne hg (by decide)) (At.of_heap hg (fun j v hj => by rw [Nat.zero_add]; exact blk0_get j v n hn hj)) hlim
def CRel (B tw b fw : Nat) (bs : List UInt8) (hdr blk : List Value) (w : World) (e i : Value) (wr : World) : Prop :=
  ∃ k : Nat, k ≤ 2 ∧ e = .nilIface ∧ i = .int .i64 k ∧ Buf B b (bs ++ List.replicate (512 * k) 0) wr ∧ TW tw b fw 0 hdr blk .nilIface wr ∧ Fr B [b, tw] w wr
set_option maxRecDepth 100000 in
theorem close (w : World) (B tw b fw pad : Nat) (hp2 : pad < 512) (bs : List UInt8) (hdr blk : List Value) (aC : Addr)
    (hB : Buf B b bs w) (hBw : B ≤ w.heap.size) (hW : TW tw b fw pad hdr blk .nilIface w) (hf : FW fw b 0 w) (hlim : bs.length + pad + 1024 ≤ 140737488355328)
    (hC : w.cell? ⟨4, 0, none⟩ = some (.iface 245 (.pointer (some aC)))) (h4 : 4 < B) (hn4 : 4 ≠ tw)
    : Calls Tryz.prog 41 #[.pointer (some ⟨tw, 0, none⟩)] w fun e w' => e = .returned (.nilIface) ∧ Buf B b (bs ++ List.replicate pad 0 ++ List.replicate 1024 0) w' ∧ Fr B [b, tw] w w' := by
  obtain ⟨hW', hh, hk⟩ := id hW
  obtain ⟨c0, c1, c535, -, -⟩ := twCells hh hk hW'
  have hF := Lib.hid hW
  have hq := run_eql_iface_nil_left (P := Tryz.prog) (ti := 72) (ms := #[("Error", 214)])
  have hq2 := fun w' => hq w' 245 (.pointer (some aC)) Tryz.underlying72
  clear hW hW' c0 c1 hq
  go_enter Tryz.func41, Tryz.ntmps41
  go_wp2_with fail
  go_quiet (fail)
  go_wp2_with fail
  refine (flush (w.drewN nq) B tw b fw pad hp2 bs hdr blk (hB.drewN nq) hBw hF.out hf (by omega)).mono ?_
  rintro e w1 ⟨rfl, hB1, hW1, hF1⟩
  have hF2 := (Fr.refl B [b, tw] w).drewN nq |>.trans hF1
  have HW1 := Lib.hid hW1
  clear hF hF1 hW1
  go_wp2_with fail
  go_loopw [3, 4] (fun e i wr => CRel B tw b fw (bs ++ List.replicate pad 0) hdr blk w e i wr) (fun _ i _ => 2 - (intOf i).toNat)
  case atStart => exact ⟨0, by omega, rfl, rfl, by simpa using hB1, HW1.out, hF2⟩
  case round =>
    obtain ⟨k, hk2, rfl, rfl, hBk, hWk, hFk⟩ := hrel
    obtain ⟨hWk', hh', hk'⟩ := id hWk
    obtain ⟨c0, c1, c535', z1, z535⟩ := twCells hh' hk' hWk'
    have htb : tw ∉ [b] := by simpa using hBk.ne hWk' (by decide)
    have hsz : B ≤ wr.heap.size := Nat.le_trans hBw hFk.size
    have m2 := m_write
    by_cases hlt : k < 2
    · have hlt' : (k : Int) < 2 := by omega
      clear z1 z535 c1 c535' c535 hC
      have HWd : Hid ((wr.alloc (.cells Tryz.zeroCells132 132)).drew.heap[tw]? = _) := (Below.heap_alloc wr (.cells Tryz.zeroCells132 132) tw (lt_of_heap hWk')).trans hWk'
      have HC := Lib.hid (bufWriteZ B b (bs ++ List.replicate pad 0 ++ List.replicate (512 * k) 0) wr.heap.size 512 (wr.alloc (.cells Tryz.zeroCells132 132)).drew (hBk.alloc _).drew (Nat.le_trans hsz (Nat.le_of_lt (by exact (Array.size_push (xs := wr.heap) (v := _)) ▸ Nat.lt_succ_self _))) (heap_alloc_new wr _) (by omega) (by simp; omega))
      go_wp2_with fail
      go_region_held3 (fun w' => w'.cell? ⟨tw, 0, none⟩ = some (.iface 75 (.pointer (some ⟨b, 0, none⟩)))) (first | go_keep | assumption)
        (first | (go_at_call 284; refine HC.out.mono ?_; rintro e w2 ⟨rfl, hB2, hF3⟩; have hW2 := hF3.cells HWd.out htb (.inr (by decide)); obtain ⟨d0, -, -, -, -⟩ := twCells hh hk hW2))
      go_wp2_with fail
      go_roundw
      case rel =>
        refine ⟨k + 1, by omega, rfl, by go_num, ?_, ⟨hW2, hh, hk⟩, ?_⟩
        · rw [show 512 * (k + 1) = 512 * k + 512 by omega, ← List.replicate_append_replicate, ← List.append_assoc]
          exact hB2
        · exact hFk.trans ((((Fr.refl B [b, tw] wr).alloc _).drew).trans (hF3.wide (Nat.le_refl _) (by simp)))
      case measure => simp [intOf]; omega
    · obtain rfl : k = 2 := by omega
      have hC2 := hFk.cell hC (by simp; exact ⟨by have := hB.base; simp at *; omega, hn4⟩) h4
      clear hC c0 c1
      go_wp2_with fail
      go_ret
      refine ⟨rfl, hBk.setCell (p := ⟨tw, 535, none⟩) hWk' (by decide) (by decide) _, hFk.setCell (p := ⟨tw, 535, none⟩) (.inl (by simp)) _⟩
end Go.Proofs.YtkanmkcojlefbaaGreatDoor
