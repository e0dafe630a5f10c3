/-
  Part of the proof; holds the texts Base, Cells, Errs, Laid, Shelf, Buf.
-/
import Derived.WalkKit
import Derived.ProofKit
import Derived.Lib.BufferKept
import Derived.Lib.BufferWrite
import Derived.Laws.CopyOwn
import Derived.WalkLawsBesides
import Derived.WalkSpells
import Derived.LaidEql
import Derived.LaidEqlPtr
import Derived.KernelRfl
import Derived.Test.YtkanmkcojlefbaaGreatDoorProg
import Derived.Test.YtkanmkcojlefbaaGreatDoorRows
import Derived.Stop.LaidErr
import Derived.LaidMore
import Derived.LaidLaws
import Derived.MakeChecks
import Derived.Shelf.LaysM
import Derived.Shelf.Bytes.Bytes
import Derived.Shelf.Bytes.WriteAny
import Derived.Shelf.Bytes.SlClone
import Derived.Shelf.Bytes.SlEqualAll
import Derived.Shelf.Bytes.SlSearch0
set_option maxRecDepth 100000
set_option linter.unusedSimpArgs false
set_option linter.unusedVariables false
namespace Go.Proofs.YtkanmkcojlefbaaGreatDoor
def bt (n k : Nat) : Array Bool := ((List.range n).map fun i => Nat.testBit k i).toArray
theorem ga1 {α : Type _} {xs : List α} {i : Nat} : xs.toArray[i]? = xs[i]? := List.getElem?_toArray
theorem ga2 {α : Type _} {a : α} {i : Nat} {l : List α} : (a :: l)[i + 1]? = l[i]? := List.getElem?_cons_succ
theorem ga3 {α : Type _} {a : α} {l : List α} : (a :: l)[0]? = some a := List.getElem?_cons_zero
theorem sa1 {α : Type _} (l : List α) (i : Nat) (a : α) : l.toArray.setIfInBounds i a = (l.set i a).toArray := List.setIfInBounds_toArray l i a
theorem sa2 {α : Type _} {x : α} {xs : List α} {a : α} : (x :: xs).set 0 a = a :: xs := List.set_cons_zero
theorem sa3 {α : Type _} {x : α} {xs : List α} {i : Nat} {a : α} : (x :: xs).set (i + 1) a = x :: xs.set i a := List.set_cons_succ
end Go.Proofs.YtkanmkcojlefbaaGreatDoor
namespace Go.Proofs.YtkanmkcojlefbaaGreatDoor
open Go.RowKit
structure Fr (B : Nat) (S : List Nat) (w w' : World) : Prop where
  os : w'.os = w.os
  tape : w'.tape = w.tape
  output : w'.output = w.output
  size : w.heap.size ≤ w'.heap.size
  block : ∀ k o,w.heap[k]? = some o → k ∉ S → (B ≤ k → ∀ c fz,o ≠ .cells c 5 fz) → w'.heap[k]? = some o
theorem lt_of_heap {w : World} {k : Nat} {o : Obj} (h : w.heap[k]? = some o) : k < w.heap.size := (Array.getElem?_eq_some_iff.1 h).1
theorem Fr.refl (B : Nat) (S : List Nat) (w : World) : Fr B S w w := ⟨rfl,rfl,rfl,Nat.le_refl _,fun _ _ h _ _ => h⟩
theorem Fr.trans {B : Nat} {S : List Nat} {a b c : World} (h : Fr B S a b) (k : Fr B S b c) : Fr B S a c :=
  ⟨k.os.trans h.os,k.tape.trans h.tape,k.output.trans h.output,Nat.le_trans h.size k.size,fun i o hi hS hb => k.block i o (h.block i o hi hS hb) hS hb⟩
theorem Fr.wide {B B' : Nat} {S S' : List Nat} {w w' : World} (h : Fr B S w w') (hB : B' ≤ B) (hS : ∀ k ∈ S,k < w.heap.size → k ∈ S') : Fr B' S' w w' :=
  ⟨h.os,h.tape,h.output,h.size,fun k o hk hn hb => h.block k o hk (fun hm => hn (hS k hm (lt_of_heap hk))) (fun hB2 => hb (Nat.le_trans hB hB2))⟩
theorem Fr.drew {B : Nat} {S : List Nat} {a w : World} (h : Fr B S a w) : Fr B S a w.drew := ⟨h.os,h.tape,h.output,h.size,h.block⟩
theorem Fr.drewN {B : Nat} {S : List Nat} {a w : World} (h : Fr B S a w) (n : Nat) : Fr B S a (w.drewN n) := ⟨h.os,h.tape,h.output,h.size,h.block⟩
theorem Fr.alloc {B : Nat} {S : List Nat} {a w : World} (h : Fr B S a w) (o : Obj) : Fr B S a (w.alloc o) :=
  ⟨h.os,h.tape,h.output,by have := h.size; have e : (w.alloc o).heap.size = w.heap.size + 1 := Array.size_push ..; omega,fun k x hk hn hb => by
    have h1 := h.block k x hk hn hb
    rw [Below.heap_alloc w o k (lt_of_heap h1)]; exact h1⟩
theorem Fr.setCell {B : Nat} {S : List Nat} {a w : World} (h : Fr B S a w) {p : Addr} (hp : p.block ∈ S ∨ a.heap.size ≤ p.block) (u : Value) : Fr B S a (w.setCell p u) :=
  ⟨h.os,h.tape,h.output,by have := h.size; simpa [World.setCell] using this,fun k x hk hn hb => by
    have h1 := h.block k x hk hn hb
    rw [Below.heap_setCell w p u k (fun e => by rcases hp with hp | hp
                                                · exact hn (e ▸ hp)
                                                · have := lt_of_heap hk; omega)]
    exact h1⟩
theorem Fr.setRow {B : Nat} {S : List Nat} {a w : World} (h : Fr B S a w) {g : Nat} (hp : g ∈ S ∨ a.heap.size ≤ g) (cs : Array Value) : Fr B S a (w.setRow g cs) :=
  ⟨h.os,h.tape,h.output,by have := h.size; simpa using this,fun k x hk hn hb => by
    have h1 := h.block k x hk hn hb
    rw [setRow_other w g k cs (fun e => by rcases hp with hp | hp
                                           · exact hn (e ▸ hp)
                                           · have := lt_of_heap hk; omega)]
    exact h1⟩
theorem Fr.of_below {w w' : World} (h : Below w.heap.size w w') (B : Nat) (S : List Nat) : Fr B S w w' :=
  ⟨h.os,h.tape,h.output,h.size,fun k _ hk _ _ => (h.block k (lt_of_heap hk)).trans hk⟩
theorem Fr.of_buffer {B b : Nat} {w w' : World} (h : Below B w w') (k : Lib.OthersKept 5 (some b) w w') : Fr B [b] w w' :=
  ⟨h.os,h.tape,h.output,h.size,fun i o hi hS hb => by
    rcases Nat.lt_or_ge i B with hlt | hge
    · exact (h.block i hlt).trans hi
    · exact k i o hi (fun e => hS (by simp [Option.some.inj e])) (hb hge)⟩
theorem Fr.of_grown {B : Nat} {w w' : World} {row : Option Nat} (hg : w.grownBy w' row) (S : List Nat) (hr : ∀ k,row = some k → k ∈ S ∨ w.heap.size ≤ k) : Fr B S w w' :=
  ⟨hg.os,hg.tape,hg.output,hg.size,fun k _ hk hn _ => by
    rw [hg.block k (lt_of_heap hk) (fun e => by rcases hr k e.symm with h | h
                                                · exact hn h
                                                · have := lt_of_heap hk; omega)]
    exact hk⟩
theorem Fr.below {B : Nat} {S : List Nat} {w w' : World} (h : Fr B S w w') (hB : w.heap.size ≤ B) (hS : ∀ k ∈ S,w.heap.size ≤ k) : Below w.heap.size w w' :=
  ⟨h.os,h.tape,h.output,h.size,fun k hk => by
    obtain ⟨o,ho⟩ : ∃ o,w.heap[k]? = some o := ⟨_,Array.getElem?_eq_getElem hk⟩
    rw [ho]
    exact h.block k o ho (fun hm => by have := hS k hm; omega) (fun hB2 => by omega)⟩
theorem Fr.same {B : Nat} {S : List Nat} {w w' : World} (h : Fr B S w w') {k : Nat} {o : Obj} (hk : w.heap[k]? = some o) (hS : k ∉ S) (ho : k < B ∨ ∀ c fz,o ≠ .cells c 5 fz) : w'.heap[k]? = some o :=
  h.block k o hk hS (fun hB => by rcases ho with h | h
                                  · omega
                                  · exact h)
theorem Fr.cells {B : Nat} {S : List Nat} {w w' : World} (h : Fr B S w w') {k : Nat} {c : Array Value} {T : TypeId} {fz : Nat × Nat} (hk : w.heap[k]? = some (.cells c T fz)) (hS : k ∉ S) (ho : k < B ∨ T ≠ 5) : w'.heap[k]? = some (.cells c T fz) :=
  h.same hk hS (by rcases ho with h | h
                   · exact .inl h
                   · exact .inr fun c' fz' e => h (by cases e; rfl))
theorem Fr.cell {B : Nat} {S : List Nat} {w w' : World} (h : Fr B S w w') {a : Addr} {v : Value} (hc : w.cell? a = some v) (hS : a.block ∉ S) (ho : a.block < B) : w'.cell? a = some v := by
  have hlt := block_lt_of_cell hc
  obtain ⟨o,hk⟩ : ∃ o,w.heap[a.block]? = some o := ⟨_,Array.getElem?_eq_getElem hlt⟩
  have h2 := h.same hk hS (.inl ho)
  rw [World.cell?_of_block (w := w) (h2.trans hk.symm)]
  exact hc
theorem Fr.below_of {B : Nat} {S : List Nat} {w w' : World} (f : Fr w.heap.size S w w') (hB : B ≤ w.heap.size) (hS : ∀ k ∈ S,B ≤ k) : Below B w w' :=
  ⟨f.os,f.tape,f.output,f.size,fun i hi => by
    obtain ⟨o,ho⟩ : ∃ o,w.heap[i]? = some o := ⟨_,Array.getElem?_eq_getElem (by omega)⟩
    rw [ho]; exact f.same ho (fun hm => by have := hS i hm; omega) (.inl (by omega))⟩
def At (w : World) (g o : Nat) (cs : List Value) : Prop := ∀ j v,cs[j]? = some v → w.cell? ⟨g,o + j,none⟩ = some v
theorem At.src {w : World} {g o : Nat} {cs : List Value} (h : At w g o cs) : ∀ j v,cs[j]? = some v → w.cell? ((⟨g,o,none⟩ : Addr).add j) = some v := fun j v hj => by
  rw [Lib.addr_add]; exact h j v hj
theorem At.of_heap {w : World} {g o : Nat} {cur : Array Value} {T : TypeId} {fz : Nat × Nat} {cs : List Value} (hg : w.heap[g]? = some (.cells cur T fz)) (h : ∀ j v,cs[j]? = some v → cur[o + j]? = some v) : At w g o cs := fun j v hj => by
  rw [Lib.cell_of_heap hg]; exact h j v hj
theorem At.carry {w w' : World} {g o : Nat} {cs : List Value} (h : At w g o cs) (hb : w'.heap[g]? = w.heap[g]?) : At w' g o cs := fun j v hj => by
  rw [World.cell?_of_block (w := w) (a := ⟨g,o + j,none⟩) hb]; exact h j v hj
theorem At.take {w : World} {g o : Nat} {cs : List Value} (h : At w g o cs) (n : Nat) : At w g o (cs.take n) := fun j v hj => by
  rw [List.getElem?_take] at hj
  split at hj
  · exact h j v hj
  · cases hj
theorem At.drop {w : World} {g o : Nat} {cs : List Value} (h : At w g o cs) (n : Nat) : At w g (o + n) (cs.drop n) := fun j v hj => by
  rw [List.getElem?_drop] at hj
  rw [Nat.add_assoc]; exact h _ v hj
theorem heap_set_same {w : World} {g i : Nat} {cs : Array Value} {t : TypeId} (v : Value) (hg : w.heap[g]? = some (.cells cs t (0,0))) : (w.setCell ⟨g,i,none⟩ v).heap[g]? = some (.cells (cs.setIfInBounds i v) t (0,0)) := Lib.heap_setCell_same hg v
theorem heap_set_other {w : World} {a : Addr} {k : Nat} (v : Value) (h : k ≠ a.block) : (w.setCell a v).heap[k]? = w.heap[k]? := heap_setCell_other w a k v h
def wcells (wv pad curr : Value) (hdr blk : List Value) (err : Value) : Array Value := (wv::pad::curr::(hdr ++ (blk ++ [err]))).toArray
def rcells (rv pad curr : Value) (blk : List Value) (err : Value) : Array Value := (rv::pad::curr::(blk ++ [err])).toArray
section
variable (wv pad curr err : Value) (hdr blk : List Value)
theorem wcells_0 : (wcells wv pad curr hdr blk err)[0]? = some wv := by simp [wcells]
theorem wcells_1 : (wcells wv pad curr hdr blk err)[1]? = some pad := by simp [wcells]
theorem wcells_2 : (wcells wv pad curr hdr blk err)[2]? = some curr := by simp [wcells]
theorem wcells_err (h : hdr.length = 20) (k : blk.length = 512) : (wcells wv pad curr hdr blk err)[535]? = some err := by
  simp [wcells,List.getElem?_append,h,k]
theorem wcells_hdr (h : hdr.length = 20) (j : Nat) (hj : j < 20) : (wcells wv pad curr hdr blk err)[3 + j]? = hdr[j]? := by
  simp [wcells,List.getElem?_append,h,hj,show 3 + j = j + 3 by omega]
theorem wcells_set1 (v : Value) : (wcells wv pad curr hdr blk err).setIfInBounds 1 v = wcells wv v curr hdr blk err := by simp [wcells]
theorem wcells_set2 (v : Value) : (wcells wv pad curr hdr blk err).setIfInBounds 2 v = wcells wv pad v hdr blk err := by simp [wcells]
theorem wcells_setErr (h : hdr.length = 20) (k : blk.length = 512) (v : Value) : (wcells wv pad curr hdr blk err).setIfInBounds 535 v = wcells wv pad curr hdr blk v := by
  simp [wcells,List.set_append,h,k]
theorem wcells_setHdr (h : hdr.length = 20) (j : Nat) (hj : j < 20) (v : Value) : (wcells wv pad curr hdr blk err).setIfInBounds (3 + j) v = wcells wv pad curr (hdr.set j v) blk err := by
  simp [wcells,List.set_append,h,hj,show 3 + j = j + 3 by omega]
theorem rcells_0 : (rcells wv pad curr blk err)[0]? = some wv := by simp [rcells]
theorem rcells_1 : (rcells wv pad curr blk err)[1]? = some pad := by simp [rcells]
theorem rcells_2 : (rcells wv pad curr blk err)[2]? = some curr := by simp [rcells]
theorem rcells_err (k : blk.length = 512) : (rcells wv pad curr blk err)[515]? = some err := by
  simp [rcells,List.getElem?_append,k]
theorem rcells_blk (k : blk.length = 512) (j : Nat) (hj : j < 512) : (rcells wv pad curr blk err)[3 + j]? = blk[j]? := by
  simp [rcells,List.getElem?_append,k,show 3 + j = j + 3 by omega,hj]
theorem rcells_set1 (v : Value) : (rcells wv pad curr blk err).setIfInBounds 1 v = rcells wv v curr blk err := by simp [rcells]
theorem rcells_set2 (v : Value) : (rcells wv pad curr blk err).setIfInBounds 2 v = rcells wv pad v blk err := by simp [rcells]
end
def hdr0 : List Value := [.int .u8 0,.string ⟨#[]⟩,.string ⟨#[]⟩,.int .i64 0,.int .i64 0,.int .i64 0,.int .i64 0,.string ⟨#[]⟩,.string ⟨#[]⟩,.int .u64 0,.int .i64 0,.int .u64 0,.int .i64 0,.int .u64 0,.int .i64 0,.int .i64 0,.int .i64 0,.map none,.map none,.int .i64 0]
theorem hdr0_length : hdr0.length = 20 := by kernel_rfl
def blk0 : List Value := Lib.byteCells (List.replicate 512 0)
theorem blk0_length : blk0.length = 512 := by rw [blk0,Lib.byteCells_length,List.length_replicate]
theorem zero132 : Tryz.zeroCells132 = blk0.toArray := by kernel_rfl
theorem new_wcells (v c : Value) : (Tryz.zeroCells134.setIfInBounds 0 v).setIfInBounds 2 c = wcells v (.int .i64 0) c hdr0 blk0 .nilIface := by kernel_rfl
theorem new_rcells (v c : Value) : (Tryz.zeroCells152.setIfInBounds 0 v).setIfInBounds 2 c = rcells v (.int .i64 0) c blk0 .nilIface := by kernel_rfl
theorem i245 : ∃ i, Tryz.prog.info? 245 = some i ∧ i.comparable = true := by
  have h : (Tryz.prog.info? 245).map (fun i => i.comparable) = some true := by kernel_rfl
  cases hi : Tryz.prog.info? 245 with
  | none => rw [hi] at h; cases h
  | some i => rw [hi] at h; exact ⟨i, rfl, by simpa using h⟩
theorem i247 : ∃ i, Tryz.prog.info? 247 = some i ∧ i.size ≠ 0 := by
  have h : (Tryz.prog.info? 247).map (fun i => i.size) = some 1 := by kernel_rfl
  cases hi : Tryz.prog.info? 247 with
  | none => rw [hi] at h; cases h
  | some i =>
    rw [hi] at h
    have h1 : i.size = 1 := by simpa using h
    exact ⟨i, rfl, by omega⟩
abbrev errV (a : Addr) : Value := .iface 245 (.pointer (some a))
theorem eql_err_same (w : World) (a : Addr) : (binOp .eql 72 (errV a) (errV a)).run Tryz.prog w = .ok (.bool true) w := by
  obtain ⟨i, hi, hc⟩ := i245
  obtain ⟨j, hj, _⟩ := i247
  exact run_eql_iface_ptr_same w a Tryz.underlying72 Tryz.underlying245 hi hc hj
theorem eql_nil_err (w : World) (a : Addr) : (binOp .eql 72 .nilIface (errV a)).run Tryz.prog w = .ok (.bool false) w :=
  run_eql_iface_nil_left w 245 _ Tryz.underlying72
end Go.Proofs.YtkanmkcojlefbaaGreatDoor
namespace Go.Proofs.YtkanmkcojlefbaaGreatDoor
open Go.ChangeShapes Go.WideShapes Go.ChangeAt Go.RowKit
theorem own : ownKnob Tryz.prog.godebug = none := by kernel_rfl
theorem star : "*" ++ "errors.errorString" = "*errors.errorString" := by decide
theorem row245 (u : TypeId) (h : Tryz.prog.typeName? 3 u = some "*errors.errorString") : u = 245 :=
  typeName_ptr_named (nm := "errors.errorString") (by rw [star]; kernel_rfl) (by kernel_rfl) (by decide) u (by rw [star]; exact h)
theorem cells247 : Tryz.prog.cellsOf 247 = 1 := by kernel_rfl
theorem cells9 : Tryz.prog.cellsOf 9 = 1 := by kernel_rfl
theorem sentinel {n : String} {text : List UInt8} {r : List (String × DataW Unit)} {W : World} {g : Nat} (h : laidMet Tryz.prog ((n, .iface "*errors.errorString" (.ptr (.agg [.lit (.string text)])))::r) W)
    (hg : Tryz.prog.globalNamed n = some g) (ht : (Tryz.prog.globals[g]?).map (·.type) = some 72) : ∃ a : Addr, W.cell? ⟨g, 0, none⟩ = some (errV a) := by
  obtain ⟨a, s, hv, _⟩ := laid_sentinel h hg ht Tryz.underlying72 row245 Tryz.underlying245 Tryz.underlying247 rfl rfl Tryz.underlying9 cells247 cells9
  exact ⟨a, by simpa using World.var?_cell hg hv 0⟩
def pinCells : DataW Unit → Array Value
  | .agg ds => (ds.map fun | .lit (.int k n) => Value.int k n | _ => .nilIface).toArray
  | _ => #[]
noncomputable def laidWorld (os : Os) : World :=
  { World.doorLaid Tryz.prog 400 os with heap := (World.doorLaid Tryz.prog 400 os).heap.modify 16 fun
      | .cells _ t fz => .cells (pinCells Go.Pinned.utf8First) t fz
      | o => o }
end Go.Proofs.YtkanmkcojlefbaaGreatDoor
namespace Go.Proofs
open Go.Shelf
def Tryz.laysM183_ren : Go.Shelf.Ren := ⟨fun | 183 => 32 | n => n,fun | 130 => 75 | 37 => 35 | 0 => 0 | 93 => 70 | 3 => 3 | 5 => 5 | 91 => 68 | n => n,fun | n => n⟩
theorem Tryz.laysM183 : Go.Proofs.LaysM.n183 Tryz.prog Tryz.laysM183_ren := {
  mixed := by kernel_rfl
  f183 := Tryz.func32.trans (congrArg some (by kernel_rfl))
  t0 := Tryz.underlying0
  a0 := Tryz.isAgg0
  z0 := Tryz.sizeOf0
  v0 := Tryz.zeroValue0
  t3 := Tryz.underlying3
  a3 := Tryz.isAgg3
  z3 := Tryz.sizeOf3
  v3 := Tryz.zeroValue3
  t37 := Tryz.underlying35
  a37 := Tryz.isAgg35
  z37 := Tryz.sizeOf35
  v37 := Tryz.zeroValue35
  t93 := Tryz.underlying70
  a93 := Tryz.isAgg70
  z93 := Tryz.sizeOf70
  v93 := Tryz.zeroValue70
  t130 := Tryz.underlying75
  a130 := Tryz.isAgg75
  z130 := Tryz.sizeOf75
  v130 := Tryz.zeroValue75
  t5 := Tryz.underlying5
  a5 := Tryz.isAgg5
  z5 := Tryz.sizeOf5
  v5 := Tryz.zeroValue5
  t91 := Tryz.underlying68
  a91 := Tryz.isAgg68
  z91 := Tryz.sizeOf68
  v91 := Tryz.zeroValue68
  i0 := by kernel_rfl
  i3 := by kernel_rfl
  i5 := by kernel_rfl
  i37 := by kernel_rfl
  i91 := by kernel_rfl
  i93 := by kernel_rfl
  i130 := by kernel_rfl }
open Go.RowKit in
theorem Tryz.Buffer_Bytes (B b : Nat) (bs : List Value) (w : World) (h : Lib.IsBuffer 70 5 B b bs w) :
    Calls Tryz.prog 32 #[.pointer (some ⟨b,0,none⟩)] w fun e w' => ∃ v,e = .returned v ∧ w'.ownsRow B 5 1 v bs.length bs ∧ ∃ n,w' = w.drewN n := Any.Buffer_Bytes Tryz.laysM183 B b bs w h
def Tryz.laysM180_ren : Go.Shelf.Ren := ⟨fun | 180 => 284 | 251 => 308 | 252 => 309 | 181 => 315 | 184 => 316 | 290 => 317 | 324 => 319 | n => n,fun | 130 => 75 | 37 => 35 | 3 => 3 | 75 => 72 | 0 => 0 | 93 => 70 | 91 => 68 | 131 => 346 | 4 => 4 | 20 => 20 | 5 => 5 | 80 => 214 | 9 => 9 | n => n,fun | 14 => 18 | n => n⟩
theorem Tryz.laysM180 : Go.Proofs.LaysM.n180 Tryz.prog Tryz.laysM180_ren := {
  mixed := by kernel_rfl
  f180 := Tryz.func284.trans (congrArg some (by kernel_rfl))
  f181 := Tryz.func315.trans (congrArg some (by kernel_rfl))
  f184 := Tryz.func316.trans (congrArg some (by kernel_rfl))
  f251 := Tryz.func308.trans (congrArg some (by kernel_rfl))
  f252 := Tryz.func309.trans (congrArg some (by kernel_rfl))
  f290 := Tryz.func317.trans (congrArg some (by kernel_rfl))
  f324 := Tryz.func319.trans (congrArg some (by kernel_rfl))
  t0 := Tryz.underlying0
  a0 := Tryz.isAgg0
  z0 := Tryz.sizeOf0
  v0 := Tryz.zeroValue0
  t3 := Tryz.underlying3
  a3 := Tryz.isAgg3
  z3 := Tryz.sizeOf3
  v3 := Tryz.zeroValue3
  t4 := Tryz.underlying4
  a4 := Tryz.isAgg4
  z4 := Tryz.sizeOf4
  v4 := Tryz.zeroValue4
  t20 := Tryz.underlying20
  a20 := Tryz.isAgg20
  z20 := Tryz.sizeOf20
  v20 := Tryz.zeroValue20
  t37 := Tryz.underlying35
  a37 := Tryz.isAgg35
  z37 := Tryz.sizeOf35
  v37 := Tryz.zeroValue35
  t75 := Tryz.underlying72
  a75 := Tryz.isAgg72
  z75 := Tryz.sizeOf72
  v75 := Tryz.zeroValue72
  t91 := Tryz.underlying68
  a91 := Tryz.isAgg68
  z91 := Tryz.sizeOf68
  v91 := Tryz.zeroValue68
  t93 := Tryz.underlying70
  a93 := Tryz.isAgg70
  z93 := Tryz.sizeOf70
  v93 := Tryz.zeroValue70
  t130 := Tryz.underlying75
  a130 := Tryz.isAgg75
  z130 := Tryz.sizeOf75
  v130 := Tryz.zeroValue75
  t131 := Tryz.underlying346
  a131 := Tryz.isAgg346
  z131 := Tryz.sizeOf346
  v131 := Tryz.zeroValue346
  g14 := by kernel_rfl
  t5 := Tryz.underlying5
  a5 := Tryz.isAgg5
  z5 := Tryz.sizeOf5
  v5 := Tryz.zeroValue5
  t9 := Tryz.underlying9
  a9 := Tryz.isAgg9
  z9 := Tryz.sizeOf9
  v9 := Tryz.zeroValue9
  t80 := Tryz.underlying214
  a80 := Tryz.isAgg214
  z80 := Tryz.sizeOf214
  v80 := Tryz.zeroValue214
  i0 := by kernel_rfl
  i3 := by kernel_rfl
  i4 := by kernel_rfl
  i5 := by kernel_rfl
  i9 := by kernel_rfl
  i20 := by kernel_rfl
  i37 := by kernel_rfl
  i75 := by kernel_rfl
  i80 := by kernel_rfl
  i91 := by kernel_rfl
  i93 := by kernel_rfl
  i130 := by kernel_rfl
  i131 := by kernel_rfl
  m14 := by kernel_rfl }
open Go.RowKit in
theorem Tryz.Buffer_Write_any (B b : Nat) (bs cs : List Value) (a : Addr) (n c : Nat) (w : World) (h : Lib.IsBuffer 70 5 B b bs w) (hBw : B ≤ w.heap.size) (h1 : ∀ v ∈ bs,v.oneCell' = true) (hn : cs.length = n) (hab : a.block ≠ b) (hsrc : ∀ j v,cs[j]? = some v → w.cell? (a.add j) = some v) (h1c : ∀ v ∈ cs,v.oneCell' = true) (hlim : bs.length + n ≤ 140737488355328) :
    Calls Tryz.prog 284 #[.pointer (some ⟨b,0,none⟩),.slice (some a) n c] w fun e w' => e = .returned (.tuple #[.int .i64 n,.nilIface]) ∧ Lib.IsBuffer 70 5 B b (bs ++ cs) w' ∧ Below B w w' ∧ Lib.OthersKept 5 (some b) w w' := Any.Buffer_Write_any Tryz.laysM180 B b bs cs a n c w h hBw h1 hn hab hsrc h1c hlim
def Tryz.lays115_ren : Go.Shelf.Ren := ⟨fun | 115 => 197 | n => n,fun | 37 => 35 | 4 => 4 | 9 => 9 | 5 => 5 | n => n,fun | n => n⟩
theorem Tryz.lays115 : Go.Proofs.Lays.n115 Tryz.prog Tryz.lays115_ren := {
  mixed := by kernel_rfl
  f115 := Tryz.func197.trans (congrArg some (by kernel_rfl))
  t4 := Tryz.underlying4
  a4 := Tryz.isAgg4
  z4 := Tryz.sizeOf4
  v4 := Tryz.zeroValue4
  t9 := Tryz.underlying9
  a9 := Tryz.isAgg9
  z9 := Tryz.sizeOf9
  v9 := Tryz.zeroValue9
  t37 := Tryz.underlying35
  a37 := Tryz.isAgg35
  z37 := Tryz.sizeOf35
  v37 := Tryz.zeroValue35 }
open Go.Proofs Go.RowKit Go.Lib in
theorem Tryz.bytes_Equal_strs (v1 v2 : Value) (t1 t2 : ByteArray) (w : World) (h1 : (convert 35 9 v1).run Tryz.prog w = .ok (.string t1) w) (h2 : (convert 35 9 v2).run Tryz.prog w = .ok (.string t2) w) :
    Calls Tryz.prog 197 #[v1,v2] w fun e w' => e = .returned (.bool (t1.toList == t2.toList)) ∧ w' = w := Any.bytes_Equal_strs Tryz.lays115 v1 v2 t1 t2 w h1 h2
def Tryz.laysSlK4_ren : Go.Shelf.Ren := ⟨fun | 4 => 36 | n => n,fun | 22 => 35 | 4 => 4 | 5 => 5 | n => n,fun | n => n⟩
theorem Tryz.laysSlK4 : Go.Proofs.SlLaysK.n4 Tryz.prog Tryz.laysSlK4_ren := {
  mixed := by kernel_rfl
  f4 := Tryz.func36.trans (congrArg some (by kernel_rfl))
  t4 := Tryz.underlying4
  a4 := Tryz.isAgg4
  z4 := Tryz.sizeOf4
  v4 := Tryz.zeroValue4
  t22 := Tryz.underlying35
  a22 := Tryz.isAgg35
  z22 := Tryz.sizeOf35
  v22 := Tryz.zeroValue35
  t5 := Tryz.underlying5
  i5 := by kernel_rfl }
open Go.RowKit Go.Lib in
theorem Tryz.bytes_Clone_at (a : Addr) (n c : Nat) (xs : List Int) (w : World) (hx : xs.length = n) (hbig : n ≤ 140737488355328) (hc : ∀ i,i < n → w.cell? (a.add i) = some (.int .u8 (xs.getD i 0))) :
    Calls Tryz.prog 36 #[.slice (some a) n c] w fun e w' => ∃ v',e = .returned v' ∧ w'.ownsRow w.heap.size 5 1 v' n (xs.map (Value.int .u8)) ∧ v' ≠ .slice none 0 0 ∧ Below w.heap.size w w' := Any.bytes_Clone_at Tryz.laysSlK4 a n c xs w hx hbig hc
end Go.Proofs
namespace Go.Proofs.YtkanmkcojlefbaaGreatDoor
open Go.RowKit
def Buf (B b : Nat) (bs : List UInt8) (w : World) : Prop := Lib.IsBuffer 70 5 B b (Lib.byteCells bs) w
theorem Buf.lt {B b : Nat} {bs : List UInt8} {w : World} (h : Buf B b bs w) : b < w.heap.size := Lib.IsBuffer.lt h
theorem Buf.base {B b : Nat} {bs : List UInt8} {w : World} (h : Buf B b bs w) : B ≤ b := h.1
theorem Buf.drew {B b : Nat} {bs : List UInt8} {w : World} (h : Buf B b bs w) : Buf B b bs w.drew := h
theorem Buf.alloc {B b : Nat} {bs : List UInt8} {w : World} (h : Buf B b bs w) (o : Obj) : Buf B b bs (w.alloc o) := Lib.IsBuffer.alloc h o
theorem Buf.ne {B b : Nat} {bs : List UInt8} {w : World} (h : Buf B b bs w) {k : Nat} {c : Array Value} {T : TypeId} {fz : Nat × Nat} (hk : w.heap[k]? = some (.cells c T fz)) (hT : T ≠ 70) : k ≠ b := by
  obtain ⟨_,v,lr,hb,_⟩ := h
  intro e
  rw [e,hb] at hk
  cases hk
  exact hT rfl
theorem Buf.carry {B b : Nat} {bs : List UInt8} {w w' : World} (h : Buf B b bs w) {B' : Nat} {S : List Nat} (f : Fr B' S w w') (hB : w.heap.size ≤ B') (hb : b ∉ S) (hS : ∀ k ∈ S,∀ c fz,w.heap[k]? ≠ some (.cells c 5 fz)) : Buf B b bs w' := by
  obtain ⟨h1,v,lr,hk,ho,hn⟩ := h
  refine ⟨h1,v,lr,f.same hk hb (.inl (Nat.lt_of_lt_of_le (lt_of_heap hk) hB)),⟨ho.1,?_⟩,hn⟩
  rcases ho.2 with hv | ⟨g,cap,cur,hv,hB2,hg,r⟩
  · exact .inl hv
  · exact .inr ⟨g,cap,cur,hv,hB2,f.same hg (fun hm => hS g hm _ _ hg) (.inl (Nat.lt_of_lt_of_le (lt_of_heap hg) hB)),r⟩
theorem Buf.setCell {B b : Nat} {bs : List UInt8} {w : World} (h : Buf B b bs w) {p : Addr} {c : Array Value} {T : TypeId} {fz : Nat × Nat} (hk : w.heap[p.block]? = some (.cells c T fz)) (hT : T ≠ 70) (h5 : T ≠ 5) (v : Value) : Buf B b bs (w.setCell p v) :=
  h.carry (B' := w.heap.size) ((Fr.refl w.heap.size [p.block] w).setCell (.inl (by simp)) v) (Nat.le_refl _) (by simpa using (Ne.symm (h.ne hk hT))) (fun k hm c' fz' e => by
    obtain rfl : k = p.block := by simpa using hm
    rw [hk] at e
    cases e
    exact h5 rfl)
theorem bufWrite (B b : Nat) (bs cs : List UInt8) (g o n c : Nat) (w : World) (h : Buf B b bs w) (hBw : B ≤ w.heap.size) (hn : cs.length = n) (hgb : g ≠ b) (hat : At w g o (Lib.byteCells cs)) (hlim : bs.length + n ≤ 140737488355328) :
    Calls Tryz.prog 284 #[.pointer (some ⟨b,0,none⟩),.slice (some ⟨g,o,none⟩) n c] w fun e w' => e = .returned (.tuple #[.int .i64 n,.nilIface]) ∧ Buf B b (bs ++ cs) w' ∧ Fr B [b] w w' := by
  refine (Tryz.Buffer_Write_any B b (Lib.byteCells bs) (Lib.byteCells cs) ⟨g,o,none⟩ n c w h hBw (Lib.byteCells_one _) (by rw [Lib.byteCells_length,hn]) hgb hat.src (Lib.byteCells_one _) (by rw [Lib.byteCells_length]; exact hlim)).mono ?_
  rintro e w' ⟨rfl,hI,hb,hk⟩
  exact ⟨rfl,by unfold Buf; rw [Lib.byteCells_append]; exact hI,Fr.of_buffer hb hk⟩
theorem bufBytes (B b : Nat) (bs : List UInt8) (w : World) (h : Buf B b bs w) :
    Calls Tryz.prog 32 #[.pointer (some ⟨b,0,none⟩)] w fun e w' => ∃ v,e = .returned v ∧ w'.ownsRow B 5 1 v bs.length (Lib.byteCells bs) ∧ ∃ n,w' = w.drewN n := by
  have := Tryz.Buffer_Bytes B b (Lib.byteCells bs) w h
  rwa [Lib.byteCells_length] at this
end Go.Proofs.YtkanmkcojlefbaaGreatDoor
