/-
  The buffer that is written: its contract, with frames.
-/
import Derived.Test.YtkanmkcojlefbaaGreatDoorCells
import Derived.Test.YtkanmkcojlefbaaGreatDoorShelf
namespace Go.Proofs.YtkanmkcojlefbaaGreatDoor
open Go.RowKit

/-- Block b is a bytes.Buffer of the call's own (from B on) that holds the bytes bs. -/
def Buf (B b : Nat) (bs : List UInt8) (w : World) : Prop := Lib.IsBuffer 70 5 B b (Lib.byteCells bs) w

theorem Buf.lt {B b : Nat} {bs : List UInt8} {w : World} (h : Buf B b bs w) : b < w.heap.size := Lib.IsBuffer.lt h
theorem Buf.base {B b : Nat} {bs : List UInt8} {w : World} (h : Buf B b bs w) : B ≤ b := h.1
theorem Buf.drew {B b : Nat} {bs : List UInt8} {w : World} (h : Buf B b bs w) : Buf B b bs w.drew := h
theorem Buf.drewN {B b : Nat} {bs : List UInt8} {w : World} (h : Buf B b bs w) (n : Nat) : Buf B b bs (w.drewN n) := h
theorem Buf.alloc {B b : Nat} {bs : List UInt8} {w : World} (h : Buf B b bs w) (o : Obj) : Buf B b bs (w.alloc o) := Lib.IsBuffer.alloc h o
/-- The block itself is no other one. -/
theorem Buf.ne {B b : Nat} {bs : List UInt8} {w : World} (h : Buf B b bs w) {k : Nat} {c : Array Value} {T : TypeId} {fz : Nat × Nat} (hk : w.heap[k]? = some (.cells c T fz)) (hT : T ≠ 70) : k ≠ b := by
  obtain ⟨_, v, lr, hb, _⟩ := h
  intro e
  rw [e, hb] at hk
  cases hk
  exact hT rfl
/-- All blocks but those of S (none of which is the buffer's, or a row of bytes) are as they were: the buffer too. -/
theorem Buf.carry {B b : Nat} {bs : List UInt8} {w w' : World} (h : Buf B b bs w) {B' : Nat} {S : List Nat} (f : Fr B' S w w') (hB : w.heap.size ≤ B') (hb : b ∉ S) (hS : ∀ k ∈ S, ∀ c fz, w.heap[k]? ≠ some (.cells c 5 fz)) : Buf B b bs w' := by
  obtain ⟨h1, v, lr, hk, ho, hn⟩ := h
  refine ⟨h1, v, lr, f.same hk hb (.inl (Nat.lt_of_lt_of_le (lt_of_heap hk) hB)), ⟨ho.1, ?_⟩, hn⟩
  rcases ho.2 with hv | ⟨g, cap, cur, hv, hB2, hg, r⟩
  · exact .inl hv
  · exact .inr ⟨g, cap, cur, hv, hB2, f.same hg (fun hm => hS g hm _ _ hg) (.inl (Nat.lt_of_lt_of_le (lt_of_heap hg) hB)), r⟩
theorem Buf.setCell {B b : Nat} {bs : List UInt8} {w : World} (h : Buf B b bs w) {p : Addr} {c : Array Value} {T : TypeId} {fz : Nat × Nat} (hk : w.heap[p.block]? = some (.cells c T fz)) (hT : T ≠ 70) (h5 : T ≠ 5) (v : Value) : Buf B b bs (w.setCell p v) :=
  h.carry (B' := w.heap.size) ((Fr.refl w.heap.size [p.block] w).setCell (.inl (by simp)) v) (Nat.le_refl _) (by simpa using (Ne.symm (h.ne hk hT))) (fun k hm c' fz' e => by
    obtain rfl : k = p.block := by simpa using hm
    rw [hk] at e
    cases e
    exact h5 rfl)

/-- (*bytes.Buffer).Write. -/
theorem bufWrite (B b : Nat) (bs cs : List UInt8) (g o n c : Nat) (w : World) (h : Buf B b bs w) (hBw : B ≤ w.heap.size) (hn : cs.length = n) (hgb : g ≠ b) (hat : At w g o (Lib.byteCells cs)) (hlim : bs.length + n ≤ 140737488355328) :
    Calls Tryz.prog 284 #[.pointer (some ⟨b, 0, none⟩), .slice (some ⟨g, o, none⟩) n c] w fun e w' => e = .returned (.tuple #[.int .i64 n, .nilIface]) ∧ Buf B b (bs ++ cs) w' ∧ Fr B [b] w w' := by
  refine (Tryz.Buffer_Write_any B b (Lib.byteCells bs) (Lib.byteCells cs) ⟨g, o, none⟩ n c w h hBw (Lib.byteCells_one _) (by rw [Lib.byteCells_length, hn]) hgb hat.src (Lib.byteCells_one _) (by rw [Lib.byteCells_length]; exact hlim)).mono ?_
  rintro e w' ⟨rfl, hI, hb, hk⟩
  exact ⟨rfl, by unfold Buf; rw [Lib.byteCells_append]; exact hI, Fr.of_buffer hb hk⟩
/-- (*bytes.Buffer).Bytes. -/
theorem bufBytes (B b : Nat) (bs : List UInt8) (w : World) (h : Buf B b bs w) :
    Calls Tryz.prog 32 #[.pointer (some ⟨b, 0, none⟩)] w fun e w' => ∃ v, e = .returned v ∧ w'.ownsRow B 5 1 v bs.length (Lib.byteCells bs) ∧ ∃ n, w' = w.drewN n := by
  have := Tryz.Buffer_Bytes B b (Lib.byteCells bs) w h
  rwa [Lib.byteCells_length] at this
end Go.Proofs.YtkanmkcojlefbaaGreatDoor
