/-
  What of memory is kept over a call: frames. Lemmas on blocks of cells. No program in it.
-/
import Derived.WalkKit
import Derived.ProofKit
import Derived.Lib.BufferKept
import Derived.Lib.BufferWrite
import Derived.Laws.CopyOwn
import Derived.WalkLawsBesides
import Derived.WalkSpells
import Derived.LaidEql
import Derived.LaidEqlPtr
import Derived.KernelRfl
namespace Go.Proofs.YtkanmkcojlefbaaGreatDoor
open Go.RowKit

/-- From w to w' all blocks of w are kept, but those of S, and rows of bytes from block B on; streams as they were. -/
structure Fr (B : Nat) (S : List Nat) (w w' : World) : Prop where
  os : w'.os = w.os
  tape : w'.tape = w.tape
  output : w'.output = w.output
  size : w.heap.size ≤ w'.heap.size
  block : ∀ k o, w.heap[k]? = some o → k ∉ S → (B ≤ k → ∀ c fz, o ≠ .cells c 5 fz) → w'.heap[k]? = some o

theorem lt_of_heap {w : World} {k : Nat} {o : Obj} (h : w.heap[k]? = some o) : k < w.heap.size := (Array.getElem?_eq_some_iff.1 h).1

theorem Fr.refl (B : Nat) (S : List Nat) (w : World) : Fr B S w w := ⟨rfl, rfl, rfl, Nat.le_refl _, fun _ _ h _ _ => h⟩
theorem Fr.trans {B : Nat} {S : List Nat} {a b c : World} (h : Fr B S a b) (k : Fr B S b c) : Fr B S a c :=
  ⟨k.os.trans h.os, k.tape.trans h.tape, k.output.trans h.output, Nat.le_trans h.size k.size, fun i o hi hS hb => k.block i o (h.block i o hi hS hb) hS hb⟩
/-- A wider frame; what lies in new blocks need not be named. -/
theorem Fr.wide {B B' : Nat} {S S' : List Nat} {w w' : World} (h : Fr B S w w') (hB : B' ≤ B) (hS : ∀ k ∈ S, k < w.heap.size → k ∈ S') : Fr B' S' w w' :=
  ⟨h.os, h.tape, h.output, h.size, fun k o hk hn hb => h.block k o hk (fun hm => hn (hS k hm (lt_of_heap hk))) (fun hB2 => hb (Nat.le_trans hB hB2))⟩
theorem Fr.drew {B : Nat} {S : List Nat} {a w : World} (h : Fr B S a w) : Fr B S a w.drew := ⟨h.os, h.tape, h.output, h.size, h.block⟩
theorem Fr.drewN {B : Nat} {S : List Nat} {a w : World} (h : Fr B S a w) (n : Nat) : Fr B S a (w.drewN n) := ⟨h.os, h.tape, h.output, h.size, h.block⟩
theorem Fr.alloc {B : Nat} {S : List Nat} {a w : World} (h : Fr B S a w) (o : Obj) : Fr B S a (w.alloc o) :=
  ⟨h.os, h.tape, h.output, by have := h.size; have e : (w.alloc o).heap.size = w.heap.size + 1 := Array.size_push ..; omega, fun k x hk hn hb => by
    have h1 := h.block k x hk hn hb
    rw [Below.heap_alloc w o k (lt_of_heap h1)]; exact h1⟩
theorem Fr.setCell {B : Nat} {S : List Nat} {a w : World} (h : Fr B S a w) {p : Addr} (hp : p.block ∈ S ∨ a.heap.size ≤ p.block) (u : Value) : Fr B S a (w.setCell p u) :=
  ⟨h.os, h.tape, h.output, by have := h.size; simpa [World.setCell] using this, fun k x hk hn hb => by
    have h1 := h.block k x hk hn hb
    rw [Below.heap_setCell w p u k (fun e => by rcases hp with hp | hp
                                                · exact hn (e ▸ hp)
                                                · have := lt_of_heap hk; omega)]
    exact h1⟩
theorem Fr.setRow {B : Nat} {S : List Nat} {a w : World} (h : Fr B S a w) {g : Nat} (hp : g ∈ S ∨ a.heap.size ≤ g) (cs : Array Value) : Fr B S a (w.setRow g cs) :=
  ⟨h.os, h.tape, h.output, by have := h.size; simpa using this, fun k x hk hn hb => by
    have h1 := h.block k x hk hn hb
    rw [setRow_other w g k cs (fun e => by rcases hp with hp | hp
                                           · exact hn (e ▸ hp)
                                           · have := lt_of_heap hk; omega)]
    exact h1⟩
/-- All of w is kept. -/
theorem Fr.of_below {w w' : World} (h : Below w.heap.size w w') (B : Nat) (S : List Nat) : Fr B S w w' :=
  ⟨h.os, h.tape, h.output, h.size, fun k _ hk _ _ => (h.block k (lt_of_heap hk)).trans hk⟩
/-- Behind a writer of a buffer's contract. -/
theorem Fr.of_buffer {B b : Nat} {w w' : World} (h : Below B w w') (k : Lib.OthersKept 5 (some b) w w') : Fr B [b] w w' :=
  ⟨h.os, h.tape, h.output, h.size, fun i o hi hS hb => by
    rcases Nat.lt_or_ge i B with hlt | hge
    · exact (h.block i hlt).trans hi
    · exact k i o hi (fun e => hS (by simp [Option.some.inj e])) (hb hge)⟩
/-- What is new in w counts for nothing at the end. -/
theorem Fr.of_grown {B : Nat} {w w' : World} {row : Option Nat} (hg : w.grownBy w' row) (S : List Nat) (hr : ∀ k, row = some k → k ∈ S ∨ w.heap.size ≤ k) : Fr B S w w' :=
  ⟨hg.os, hg.tape, hg.output, hg.size, fun k _ hk hn _ => by
    rw [hg.block k (lt_of_heap hk) (fun e => by rcases hr k e.symm with h | h
                                                · exact hn h
                                                · have := lt_of_heap hk; omega)]
    exact hk⟩
/-- A frame in which no old block is named gives 'Below'. -/
theorem Fr.below {B : Nat} {S : List Nat} {w w' : World} (h : Fr B S w w') (hB : w.heap.size ≤ B) (hS : ∀ k ∈ S, w.heap.size ≤ k) : Below w.heap.size w w' :=
  ⟨h.os, h.tape, h.output, h.size, fun k hk => by
    obtain ⟨o, ho⟩ : ∃ o, w.heap[k]? = some o := ⟨_, Array.getElem?_eq_getElem hk⟩
    rw [ho]
    exact h.block k o ho (fun hm => by have := hS k hm; omega) (fun hB2 => by omega)⟩
/-- A block that is no row of bytes from B on, and is not named, is as it was. -/
theorem Fr.same {B : Nat} {S : List Nat} {w w' : World} (h : Fr B S w w') {k : Nat} {o : Obj} (hk : w.heap[k]? = some o) (hS : k ∉ S) (ho : k < B ∨ ∀ c fz, o ≠ .cells c 5 fz) : w'.heap[k]? = some o :=
  h.block k o hk hS (fun hB => by rcases ho with h | h
                                  · omega
                                  · exact h)
theorem Fr.cells {B : Nat} {S : List Nat} {w w' : World} (h : Fr B S w w') {k : Nat} {c : Array Value} {T : TypeId} {fz : Nat × Nat} (hk : w.heap[k]? = some (.cells c T fz)) (hS : k ∉ S) (ho : k < B ∨ T ≠ 5) : w'.heap[k]? = some (.cells c T fz) :=
  h.same hk hS (by rcases ho with h | h
                   · exact .inl h
                   · exact .inr fun c' fz' e => h (by cases e; rfl))
/-- A cell of a block below B that is not named. -/
theorem Fr.cell {B : Nat} {S : List Nat} {w w' : World} (h : Fr B S w w') {a : Addr} {v : Value} (hc : w.cell? a = some v) (hS : a.block ∉ S) (ho : a.block < B) : w'.cell? a = some v := by
  have hlt := block_lt_of_cell hc
  obtain ⟨o, hk⟩ : ∃ o, w.heap[a.block]? = some o := ⟨_, Array.getElem?_eq_getElem hlt⟩
  have h2 := h.same hk hS (.inl ho)
  rw [World.cell?_of_block (w := w) (h2.trans hk.symm)]
  exact hc

/-- From place o of block g on the cells are cs. -/
def At (w : World) (g o : Nat) (cs : List Value) : Prop := ∀ j v, cs[j]? = some v → w.cell? ⟨g, o + j, none⟩ = some v
theorem At.src {w : World} {g o : Nat} {cs : List Value} (h : At w g o cs) : ∀ j v, cs[j]? = some v → w.cell? ((⟨g, o, none⟩ : Addr).add j) = some v := fun j v hj => by
  rw [Lib.addr_add]; exact h j v hj
theorem At.of_heap {w : World} {g o : Nat} {cur : Array Value} {T : TypeId} {fz : Nat × Nat} {cs : List Value} (hg : w.heap[g]? = some (.cells cur T fz)) (h : ∀ j v, cs[j]? = some v → cur[o + j]? = some v) : At w g o cs := fun j v hj => by
  rw [Lib.cell_of_heap hg]; exact h j v hj
theorem At.carry {w w' : World} {g o : Nat} {cs : List Value} (h : At w g o cs) (hb : w'.heap[g]? = w.heap[g]?) : At w' g o cs := fun j v hj => by
  rw [World.cell?_of_block (w := w) (a := ⟨g, o + j, none⟩) hb]; exact h j v hj
theorem At.take {w : World} {g o : Nat} {cs : List Value} (h : At w g o cs) (n : Nat) : At w g o (cs.take n) := fun j v hj => by
  rw [List.getElem?_take] at hj
  split at hj
  · exact h j v hj
  · cases hj
theorem At.drop {w : World} {g o : Nat} {cs : List Value} (h : At w g o cs) (n : Nat) : At w g (o + n) (cs.drop n) := fun j v hj => by
  rw [List.getElem?_drop] at hj
  rw [Nat.add_assoc]; exact h _ v hj

theorem heap_set_same {w : World} {g i : Nat} {cs : Array Value} {t : TypeId} (v : Value) (hg : w.heap[g]? = some (.cells cs t (0, 0))) : (w.setCell ⟨g, i, none⟩ v).heap[g]? = some (.cells (cs.setIfInBounds i v) t (0, 0)) := Lib.heap_setCell_same hg v
theorem heap_set_other {w : World} {a : Addr} {k : Nat} (v : Value) (h : k ≠ a.block) : (w.setCell a v).heap[k]? = w.heap[k]? := heap_setCell_other w a k v h
end Go.Proofs.YtkanmkcojlefbaaGreatDoor
