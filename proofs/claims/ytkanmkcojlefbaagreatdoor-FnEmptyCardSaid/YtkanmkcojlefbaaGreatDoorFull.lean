/-
  Reading in full out of a bytes.Reader; nothing asked for, nothing passed over.
-/
import Derived.Test.YtkanmkcojlefbaaGreatDoorRd
import Derived.LoopN
import Derived.Test.YtkanmkcojlefbaaGreatDoorErrs
namespace Go.Proofs.YtkanmkcojlefbaaGreatDoor
open Go.RowKit
theorem m_read84 (w : World) (a : Addr) : (method 511 84 (.pointer (some a)) "Read").run Tryz.prog w = .ok (340, .pointer (some a)) w := by kernel_rfl
theorem na_read84 (w : World) (a : Addr) : (nilAhead 511 84 (.pointer (some a)) "Read").run Tryz.prog w = .ok (some false) w := by kernel_rfl
set_option maxRecDepth 100000 in
theorem readAtLeast_full (w : World) (r g n c i d o m dc : Nat) (bs : List UInt8) (cur : List Value) (t : TypeId) (h : RD r g n c i w) (hm0 : 0 < m) (hmn : m ≤ n - i) (hdc : m ≤ dc) (hbig : n < 4611686018427387904) (hnc : n ≤ c)
    (hb : bs.length = n) (hsrc : At w g 0 (Lib.byteCells bs)) (hd : w.heap[d]? = some (.cells cur.toArray t (0, 0))) (hfit : o + m ≤ cur.length) (hdr : d ≠ r) (hgr : g ≠ r) :
    Calls Tryz.prog 236 #[.iface 84 (.pointer (some ⟨r, 0, none⟩)), .slice (some ⟨d, o, none⟩) m dc, .int .i64 m] w (GotRead r g n c i m d o bs cur t w) := by
  have HC := Lib.hid (read_data w.drew r g n c i m d o m dc bs cur t h (by omega) (by omega) (by omega) hbig hnc hb hsrc hd hfit hdr hgr)
  have hdc2 : (m : Int) ≤ dc := by omega
  have hm2 : (0 : Int) < m := by omega
  have hm3 : (m : Int) < 4611686018427387904 := by omega
  have hm4 : ¬ dc = 0 := by omega
  have mr := m_read84
  have nr := na_read84
  clear h hb hsrc hd
  go_enter Tryz.func236, Tryz.ntmps236
  go_wp2_with fail
  refine wp_loop_rounds 2 ?_
  rw [rounds_succ]
  go_wp2_with fail
  go_region_held3 (fun _ => True) (trivial) (first | (go_at_call 340; refine HC.out.mono ?_; rintro e w1 ⟨rfl, h2, h3, h4⟩))
  go_wp2_with fail
  rw [rounds_succ]
  go_wp2_with fail
  go_ret2
  exact ⟨rfl, h2, h3, (Fr.refl _ _ w).drew.trans h4⟩
set_option maxRecDepth 100000 in
theorem readFull_full (w : World) (r g n c i d o m dc : Nat) (bs : List UInt8) (cur : List Value) (t : TypeId) (h : RD r g n c i w) (hm0 : 0 < m) (hmn : m ≤ n - i) (hdc : m ≤ dc) (hbig : n < 4611686018427387904) (hnc : n ≤ c)
    (hb : bs.length = n) (hsrc : At w g 0 (Lib.byteCells bs)) (hd : w.heap[d]? = some (.cells cur.toArray t (0, 0))) (hfit : o + m ≤ cur.length) (hdr : d ≠ r) (hgr : g ≠ r) :
    Calls Tryz.prog 196 #[.iface 84 (.pointer (some ⟨r, 0, none⟩)), .slice (some ⟨d, o, none⟩) m dc] w (GotRead r g n c i m d o bs cur t w) := by
  have HC := Lib.hid (readAtLeast_full w r g n c i d o m dc bs cur t h hm0 hmn hdc hbig hnc hb hsrc hd hfit hdr hgr)
  clear h hb hsrc hd
  go_enter Tryz.func196, Tryz.ntmps196
  go_wp2_with fail
  refine HC.out.mono ?_
  rintro e w1 ⟨rfl, h2, h3, h4⟩
  go_wp2_with fail
  go_ret2
  exact ⟨rfl, h2, h3, h4⟩
/-- Nothing is asked for. -/
theorem tryReadFull_none (w : World) (rv : Value) (d : Option Addr) (dc : Nat) (aE : Addr) (hE : w.cell? ⟨0, 0, none⟩ = some (errV aE)) :
    Calls Tryz.prog 147 #[rv, .slice d 0 dc] w fun e w' => e = .returned (.tuple #[.int .i64 0, .nilIface]) ∧ w = w' := by
  have en := fun w' => eql_nil_err w' aE
  go_enter Tryz.func147, Tryz.ntmps147
  go_wp2_with fail
  refine wp_loop_once ?_
  go_wp2_with fail
  go_ret2
  exact ⟨rfl, rfl⟩
theorem ta_seeker (w : World) (a : Addr) : (Instr.typeAssert (.iface 84 (.pointer (some a))) 145 267 true).run Tryz.prog w = .ok (.tuple #[.iface 84 (.pointer (some a)), .bool true]) w := by kernel_rfl
theorem discardN_none (w : World) (rv : Value) :
    Calls Tryz.prog 195 #[rv, .int .i64 0] w fun e w' => e = .returned (.tuple #[.int .i64 0, .nilIface]) ∧ Below w.heap.size w w' := by
  go_enter Tryz.func195, Tryz.ntmps195
  go_wp2_with fail
  refine wp_loop_once ?_
  go_wp2_with fail
  go_ret2
  exact ⟨rfl, (Below.refl _ _).alloc (Nat.le_refl _) _⟩
set_option maxRecDepth 100000 in
/-- Nothing is passed over. -/
theorem discard_none (w : World) (r : Nat) (aE : Addr) (hE : w.cell? ⟨0, 0, none⟩ = some (errV aE)) :
    Calls Tryz.prog 146 #[.iface 84 (.pointer (some ⟨r, 0, none⟩)), .int .i64 0] w fun e w' => e = .returned (.nilIface) ∧ Below w.heap.size w w' := by
  have en := fun w' => eql_nil_err w' aE
  have ta := ta_seeker
  have h0 := block_lt_of_cell hE
  go_enter Tryz.func146, Tryz.ntmps146
  go_wp2_with fail
  refine (discardN_none _ _).mono ?_
  rintro e w1 ⟨rfl, hb⟩
  have hE1 : w1.cell? ⟨0, 0, none⟩ = some (errV aE) := (hb.cell h0).trans hE
  clear hE
  go_wp2_with fail
  go_ret
  exact ⟨rfl, hb⟩
end Go.Proofs.YtkanmkcojlefbaaGreatDoor
