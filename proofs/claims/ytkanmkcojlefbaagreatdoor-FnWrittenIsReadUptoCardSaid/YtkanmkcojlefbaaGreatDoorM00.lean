/-
  Part of the proof; holds the texts Base, Cells, Errs, Laid, Shelf, Buf, Str, Ascii.
-/
import Derived.ProofKit
import Derived.Laws.CopyOwn
import Derived.WalkLawsBesides
import Derived.WalkSpells
import Derived.Test.YtkanmkcojlefbaaGreatDoorRows
import Derived.Stop.LaidErr
import Derived.LaidMore
import Derived.Shelf.Bytes.Bytes
import Derived.Shelf.Bytes.WriteAny
import Derived.Shelf.Bytes.SlClone
import Derived.Shelf.Bytes.SlEqualAll
import Derived.Shelf.Bytes.SlSearch0
import Derived.BigQuiet
import Derived.Deep.RegionHeld3
set_option maxRecDepth 100000
set_option linter.unusedSimpArgs false
set_option linter.unusedVariables false
namespace Go.Proofs.YtkanmkcojlefbaaGreatDoor
theorem zA:type_of% @Lib.cell_of_heap:=@Lib.cell_of_heap
theorem zB:type_of% @Nat.le_refl:=@Nat.le_refl
theorem zC:type_of% @block_lt_of_cell:=@block_lt_of_cell
theorem zD:type_of% @RowKit.Below.refl:=@RowKit.Below.refl
theorem zF:type_of% @List.getElem?_eq_getElem:=@List.getElem?_eq_getElem
theorem zI:type_of% @heap_alloc_new:=@heap_alloc_new
theorem zJ:type_of% @Lib.byteCells_length:=@Lib.byteCells_length
theorem zL:type_of% @Nat.lt_of_lt_of_le:=@Nat.lt_of_lt_of_le
theorem zM:type_of% @List.getElem?_eq_some_iff:=@List.getElem?_eq_some_iff
theorem zO:type_of% @RowKit.Below.heap_alloc:=@RowKit.Below.heap_alloc
theorem zP:type_of% @Nat.le_trans:=@Nat.le_trans
theorem zQ:type_of% @IntWalk.i64_in:=@IntWalk.i64_in
theorem zU:type_of% @List.take_succ_eq_append_getElem:=@List.take_succ_eq_append_getElem
theorem zV:type_of% @decide_eq_false:=@decide_eq_false
theorem zW:type_of% @Nat.zero_le:=@Nat.zero_le
theorem zY:type_of% @decide_eq_true:=@decide_eq_true
theorem zZ:type_of% @World.cell?_of_block:=@World.cell?_of_block
theorem z7:type_of% @List.length_replicate:=@List.length_replicate
theorem A0 {p:Prop} (h:p):Go.RowKit.Hid p:=Go.Lib.hid h
def bt (n k:Nat):Array Bool:=((List.range n).map λi=>Nat.testBit k i).toArray
theorem I8 {α:Type _} {xs:List α} {i:Nat}:xs.toArray[i]?=xs[i]?:=List.getElem?_toArray
theorem I9 {α:Type _} {a:α} {i:Nat} {l:List α}: (a::l)[i+1]?=l[i]?:=List.getElem?_cons_succ
theorem J0 {α:Type _} {a:α} {l:List α}: (a::l)[0]?=some a:=List.getElem?_cons_zero
theorem C5 {α:Type _} (l:List α) (i:Nat) (a:α):l.toArray.setIfInBounds i a=(l.set i a).toArray:=List.setIfInBounds_toArray l i a
theorem C6 {α:Type _} {x:α} {xs:List α} {a:α}: (x::xs).set 0 a=a::xs:=List.set_cons_zero
theorem C7 {α:Type _} {x:α} {xs:List α} {i:Nat} {a:α}: (x::xs).set (i+1) a=x::xs.set i a:=List.set_cons_succ
end Go.Proofs.YtkanmkcojlefbaaGreatDoor
namespace Go.Proofs.YtkanmkcojlefbaaGreatDoor
open Go.RowKit
structure Fr (B:Nat) (S:List Nat) (w w':World):Prop where
 os:w'.os=w.os
 tape:w'.tape=w.tape
 output:w'.output=w.output
 size:w.heap.size<=w'.heap.size
 block:∀k o,w.heap[k]?=some o->k∉S->(B<=k->∀c fz,o≠ .cells c 5 fz)->w'.heap[k]?=some o
theorem A8 {w:World} {k:Nat} {o:Obj} (h:w.heap[k]?=some o):k<w.heap.size:=(Array.getElem?_eq_some_iff.1 h).1
theorem Fr.refl (B:Nat) (S:List Nat) (w:World):Fr B S w w:=⟨rfl,rfl,rfl,zB _,λ_ _ h _ _=>h⟩
theorem Fr.trans {B:Nat} {S:List Nat} {a b c:World} (h:Fr B S a b) (k:Fr B S b c):Fr B S a c:=
 ⟨k.os.trans h.os,k.tape.trans h.tape,k.output.trans h.output,zP h.size k.size,λi o hi hS hb=>k.block i o (h.block i o hi hS hb) hS hb⟩
theorem Fr.wide {B B':Nat} {S S':List Nat} {w w':World} (h:Fr B S w w') (hB:B'<=B) (hS:∀k∈S,k<w.heap.size->k∈S'):Fr B' S' w w':=
 ⟨h.os,h.tape,h.output,h.size,λk o hk hn hb=>h.block k o hk (λhm=>hn (hS k hm (A8 hk))) (λAA=>hb (zP hB AA))⟩
theorem Fr.drew {B:Nat} {S:List Nat} {a w:World} (h:Fr B S a w):Fr B S a w.drew:=⟨h.os,h.tape,h.output,h.size,h.block⟩
theorem Fr.drewN {B:Nat} {S:List Nat} {a w:World} (h:Fr B S a w) (n:Nat):Fr B S a (w.drewN n):=⟨h.os,h.tape,h.output,h.size,h.block⟩
theorem Fr.alloc {B:Nat} {S:List Nat} {a w:World} (h:Fr B S a w) (o:Obj):Fr B S a (w.alloc o):=
 ⟨h.os,h.tape,h.output,by have:=h.size;have e: (w.alloc o).heap.size=w.heap.size+1:=Array.size_push ..;omega,λk x hk hn hb=>by
  have h1:=h.block k x hk hn hb;rw[zO w o k (A8 h1)];exact h1⟩
theorem Fr.setCell {B:Nat} {S:List Nat} {a w:World} (h:Fr B S a w) {p:Addr} (hp:p.block∈S\/a.heap.size<=p.block) (u:Value):Fr B S a (w.setCell p u):=
 ⟨h.os,h.tape,h.output,by have:=h.size;simpa[World.setCell] using this,λk x hk hn hb=>by
  have h1:=h.block k x hk hn hb
  rw[Below.heap_setCell w p u k (λe=>by
                        rcases hp with hp|hp
                        ·exact hn (e▸hp)
                        ·have:=A8 hk;omega)]
  exact h1⟩
theorem Fr.setRow {B:Nat} {S:List Nat} {a w:World} (h:Fr B S a w) {g:Nat} (hp:g∈S\/a.heap.size<=g) (cs:Array Value):Fr B S a (w.setRow g cs):=
 ⟨h.os,h.tape,h.output,by have:=h.size;simpa using this,λk x hk hn hb=>by
  have h1:=h.block k x hk hn hb
  rw[setRow_other w g k cs (λe=>by
                      rcases hp with hp|hp
                      ·exact hn (e▸hp)
                      ·have:=A8 hk;omega)]
  exact h1⟩
theorem Fr.of_below {w w':World} (h:Below w.heap.size w w') (B:Nat) (S:List Nat):Fr B S w w':=
 ⟨h.os,h.tape,h.output,h.size,λk _ hk _ _=>(h.block k (A8 hk)).trans hk⟩
theorem Fr.of_buffer {B b:Nat} {w w':World} (h:Below B w w') (k:Lib.OthersKept 5 (some b) w w'):Fr B [b] w w':=
 ⟨h.os,h.tape,h.output,h.size,λi o hi hS hb=>by
  rcases Nat.lt_or_ge i B with hlt|hge
  ·exact(h.block i hlt).trans hi
  ·exact k i o hi (λe=>hS (by simp[Option.some.inj e])) (hb hge)⟩
theorem Fr.of_grown {B:Nat} {w w':World} {row:Option Nat} (hg:w.grownBy w' row) (S:List Nat) (hr:∀k,row=some k->k∈S\/w.heap.size<=k):Fr B S w w':=
 ⟨hg.os,hg.tape,hg.output,hg.size,λk _ hk hn _=>by
  rw[hg.block k (A8 hk) (λe=>by
                        rcases hr k e.symm with h|h
                        ·exact hn h
                        ·have:=A8 hk;omega)]
  exact hk⟩
theorem Fr.below {B:Nat} {S:List Nat} {w w':World} (h:Fr B S w w') (hB:w.heap.size<=B) (hS:∀k∈S,w.heap.size<=k):Below w.heap.size w w':=
 ⟨h.os,h.tape,h.output,h.size,λk hk=>by
  obtain⟨o,ho⟩:∃o,w.heap[k]?=some o:=⟨_,Array.getElem?_eq_getElem hk⟩;rw[ho];exact h.block k o ho (λhm=>by have:=hS k hm;omega) (λAA=>by omega)⟩
theorem Fr.same {B:Nat} {S:List Nat} {w w':World} (h:Fr B S w w') {k:Nat} {o:Obj} (hk:w.heap[k]?=some o) (hS:k∉S) (ho:k<B\/∀c fz,o≠ .cells c 5 fz):w'.heap[k]?=some o:=
 h.block k o hk hS (λhB=>by
                 rcases ho with h|h
                 ·omega
                 ·exact h)
theorem Fr.cells {B:Nat} {S:List Nat} {w w':World} (h:Fr B S w w') {k:Nat} {c:Array Value} {T:TypeId} {fz:Nat×Nat} (hk:w.heap[k]?=some (.cells c T fz)) (hS:k∉S) (ho:k<B\/T≠5):w'.heap[k]?=some (.cells c T fz):=
 h.same hk hS (by
          rcases ho with h|h
          ·exact .inl h
          ·exact .inr λc' AA e=>h (by cases e;rfl))
theorem Fr.cell {B:Nat} {S:List Nat} {w w':World} (h:Fr B S w w') {a:Addr} {v:Value} (hc:w.cell? a=some v) (hS:a.block∉S) (ho:a.block<B):w'.cell? a=some v:=by
 have AA:=zC hc;obtain⟨o,hk⟩:∃o,w.heap[a.block]?=some o:=⟨_,Array.getElem?_eq_getElem AA⟩;have h2:=h.same hk hS (.inl ho);rw[zZ (w:=w) (h2.trans hk.symm)];exact hc
theorem Fr.below_of {B:Nat} {S:List Nat} {w w':World} (f:Fr w.heap.size S w w') (hB:B<=w.heap.size) (hS:∀k∈S,B<=k):Below B w w':=
 ⟨f.os,f.tape,f.output,f.size,λi hi=>by
  obtain⟨o,ho⟩:∃o,w.heap[i]?=some o:=⟨_,Array.getElem?_eq_getElem (by omega)⟩;rw[ho];exact f.same ho (λhm=>by have:=hS i hm;omega) (.inl (by omega))⟩
def At (w:World) (g o:Nat) (cs:List Value):Prop:=∀j v,cs[j]?=some v->w.cell? ⟨g,o+j,none⟩=some v
theorem At.src {w:World} {g o:Nat} {cs:List Value} (h:At w g o cs):∀j v,cs[j]?=some v->w.cell? ((⟨g,o,none⟩:Addr).add j)=some v:=λj v hj=>by
 rw[Lib.addr_add];exact h j v hj
theorem At.of_heap {w:World} {g o:Nat} {cur:Array Value} {T:TypeId} {fz:Nat×Nat} {cs:List Value} (hg:w.heap[g]?=some (.cells cur T fz)) (h:∀j v,cs[j]?=some v->cur[o+j]?=some v):At w g o cs:=λj v hj=>by
 rw[zA hg];exact h j v hj
theorem At.carry {w w':World} {g o:Nat} {cs:List Value} (h:At w g o cs) (hb:w'.heap[g]?=w.heap[g]?):At w' g o cs:=λj v hj=>by
 rw[zZ (w:=w) (a:=⟨g,o+j,none⟩) hb];exact h j v hj
theorem At.take {w:World} {g o:Nat} {cs:List Value} (h:At w g o cs) (n:Nat):At w g o (cs.take n):=λj v hj=>by
 rw[List.getElem?_take] at hj;split at hj
 ·exact h j v hj
 ·cases hj
theorem At.drop {w:World} {g o:Nat} {cs:List Value} (h:At w g o cs) (n:Nat):At w g (o+n) (cs.drop n):=λj v hj=>by
 rw[List.getElem?_drop] at hj;rw[Nat.add_assoc];exact h _ v hj
theorem B6 {w:World} {g i:Nat} {cs:Array Value} {t:TypeId} (v:Value) (hg:w.heap[g]?=some (.cells cs t (0,0))): (w.setCell ⟨g,i,none⟩ v).heap[g]?=some (.cells (cs.setIfInBounds i v) t (0,0)):=Lib.heap_setCell_same hg v
theorem C0 {w:World} {a:Addr} {k:Nat} (v:Value) (h:k≠a.block): (w.setCell a v).heap[k]?=w.heap[k]?:=heap_setCell_other w a k v h
def J3 (wv pad curr:Value) (hdr blk:List Value) (err:Value):Array Value:=(wv::pad::curr::(hdr++(blk++[err]))).toArray
def N8 (rv pad curr:Value) (blk:List Value) (err:Value):Array Value:=(rv::pad::curr::(blk++[err])).toArray
section
variable (wv pad curr err:Value) (hdr blk:List Value)
theorem A8Z: (J3 wv pad curr hdr blk err)[0]?=some wv:=by simp[J3]
theorem A8a: (J3 wv pad curr hdr blk err)[1]?=some pad:=by simp[J3]
theorem A3U: (J3 wv pad curr hdr blk err)[2]?=some curr:=by simp[J3]
theorem A5g (h:hdr.length=20) (k:blk.length=512): (J3 wv pad curr hdr blk err)[535]?=some err:=by
 simp[J3,List.getElem?_append,h,k]
theorem A2o (h:hdr.length=20) (j:Nat) (hj:j<20): (J3 wv pad curr hdr blk err)[3+j]?=hdr[j]?:=by
 simp[J3,List.getElem?_append,h,hj,show 3+j=j+3 by omega]
theorem A4M (v:Value): (J3 wv pad curr hdr blk err).setIfInBounds 1 v=J3 wv v curr hdr blk err:=by simp[J3]
theorem A8b (v:Value): (J3 wv pad curr hdr blk err).setIfInBounds 2 v=J3 wv pad v hdr blk err:=by simp[J3]
theorem A0r (h:hdr.length=20) (k:blk.length=512) (v:Value): (J3 wv pad curr hdr blk err).setIfInBounds 535 v=J3 wv pad curr hdr blk v:=by
 simp[J3,List.set_append,h,k]
theorem A5x (h:hdr.length=20) (j:Nat) (hj:j<20) (v:Value): (J3 wv pad curr hdr blk err).setIfInBounds (3+j) v=J3 wv pad curr (hdr.set j v) blk err:=by
 simp[J3,List.set_append,h,hj,show 3+j=j+3 by omega]
theorem B3C: (N8 wv pad curr blk err)[0]?=some wv:=by simp[N8]
theorem B3D: (N8 wv pad curr blk err)[1]?=some pad:=by simp[N8]
theorem B3E: (N8 wv pad curr blk err)[2]?=some curr:=by simp[N8]
theorem A5I (k:blk.length=512): (N8 wv pad curr blk err)[515]?=some err:=by
 simp[N8,List.getElem?_append,k]
theorem A9R (k:blk.length=512) (j:Nat) (hj:j<512): (N8 wv pad curr blk err)[3+j]?=blk[j]?:=by
 simp[N8,List.getElem?_append,k,show 3+j=j+3 by omega,hj]
theorem A1y (v:Value): (N8 wv pad curr blk err).setIfInBounds 1 v=N8 wv v curr blk err:=by simp[N8]
theorem A8D (v:Value): (N8 wv pad curr blk err).setIfInBounds 2 v=N8 wv pad v blk err:=by simp[N8]
end
def A5p:List Value:=[.int .u8 0,.string ⟨#[]⟩,.string ⟨#[]⟩,.int .i64 0,.int .i64 0,.int .i64 0,.int .i64 0,.string ⟨#[]⟩,.string ⟨#[]⟩,.int .u64 0,.int .i64 0,.int .u64 0,.int .i64 0,.int .u64 0,.int .i64 0,.int .i64 0,.int .i64 0,.map none,.map none,.int .i64 0]
theorem A7k:A5p.length=20:=by kernel_rfl
def A0d:List Value:=Lib.byteCells (List.replicate 512 0)
theorem A3y:A0d.length=512:=by rw[A0d,zJ,z7]
theorem B0N:Tryz.zeroCells132=A0d.toArray:=by kernel_rfl
theorem A9K (v c:Value): (Tryz.zeroCells134.setIfInBounds 0 v).setIfInBounds 2 c=J3 v (.int .i64 0) c A5p A0d .nilIface:=by kernel_rfl
theorem A9J (v c:Value): (Tryz.zeroCells152.setIfInBounds 0 v).setIfInBounds 2 c=N8 v (.int .i64 0) c A0d .nilIface:=by kernel_rfl
theorem B5Y:∃i,Tryz.prog.info? 245=some i/\i.comparable=true:=by
 have h: (Tryz.prog.info? 245).map (λi=>i.comparable)=some true:=by kernel_rfl
 cases hi:Tryz.prog.info? 245 with
 |none=>rw[hi] at h;cases h
 |some i=>rw[hi] at h;exact⟨i,rfl,by simpa using h⟩
theorem B5Z:∃i,Tryz.prog.info? 247=some i/\i.size≠0:=by
 have h: (Tryz.prog.info? 247).map (λi=>i.size)=some 1:=by kernel_rfl
 cases hi:Tryz.prog.info? 247 with
 |none=>rw[hi] at h;cases h
 |some i=>
  rw[hi] at h;have h1:i.size=1:=by simpa using h
  exact⟨i,rfl,by omega⟩
abbrev I7 (a:Addr):Value:= .iface 245 (.pointer (some a))
theorem A2y (w:World) (a:Addr): (binOp .eql 72 (I7 a) (I7 a)).run Tryz.prog w= .ok (.bool true) w:=by
 obtain⟨i,hi,hc⟩:=B5Y;obtain⟨j,hj,_⟩:=B5Z;exact run_eql_iface_ptr_same w a Tryz.underlying72 Tryz.underlying245 hi hc hj
theorem W5 (w:World) (a:Addr): (binOp .eql 72 .nilIface (I7 a)).run Tryz.prog w= .ok (.bool false) w:=
 run_eql_iface_nil_left w 245 _ Tryz.underlying72
end Go.Proofs.YtkanmkcojlefbaaGreatDoor
namespace Go.Proofs.YtkanmkcojlefbaaGreatDoor
open Go.ChangeShapes Go.WideShapes Go.ChangeAt Go.RowKit
theorem own:ownKnob Tryz.prog.godebug=none:=by kernel_rfl
theorem B7b: "*" ++ "errors.errorString" = "*errors.errorString" :=by decide
theorem B6A (u:TypeId) (h:Tryz.prog.typeName? 3 u=some "*errors.errorString"):u=245:=
 typeName_ptr_named (nm:= "errors.errorString") (by rw[B7b];kernel_rfl) (by kernel_rfl) (by decide) u (by rw[B7b];exact h)
theorem B2A:Tryz.prog.cellsOf 247=1:=by kernel_rfl
theorem B5K:Tryz.prog.cellsOf 9=1:=by kernel_rfl
theorem Z4 {n:String} {AA:List UInt8} {r:List (String×DataW Unit)} {W:World} {g:Nat} (h:laidMet Tryz.prog ((n,.iface "*errors.errorString" (.ptr (.agg [.lit (.string AA)])))::r) W)
  (hg:Tryz.prog.globalNamed n=some g) (ht: (Tryz.prog.globals[g]?).map (·.type)=some 72):∃a:Addr,W.cell? ⟨g,0,none⟩=some (I7 a):=by
 obtain⟨a,s,hv,_⟩:=laid_sentinel h hg ht Tryz.underlying72 B6A Tryz.underlying245 Tryz.underlying247 rfl rfl Tryz.underlying9 B2A B5K;exact⟨a,by simpa using World.var?_cell hg hv 0⟩
def B3B:DataW Unit->Array Value
 | .agg ds=>(ds.map fun| .lit (.int k n)=>Value.int k n|_=> .nilIface).toArray
 |_=>#[]
noncomputable def A3d (os:Os):World:=
 {World.doorLaid Tryz.prog 400 os with heap:=(World.doorLaid Tryz.prog 400 os).heap.modify 16 fun
   | .cells _ t fz=> .cells (B3B Go.Pinned.utf8First) t fz
   |o=>o}
end Go.Proofs.YtkanmkcojlefbaaGreatDoor
namespace Go.Proofs
open Go.Shelf
def Tryz.laysM183_ren:Go.Shelf.Ren:=⟨fun|183=>32|n=>n,fun|130=>75|37=>35|0=>0|93=>70|3=>3|5=>5|91=>68|n=>n,fun|n=>n⟩
theorem Tryz.laysM183:Go.Proofs.LaysM.n183 Tryz.prog Tryz.laysM183_ren:= {
 mixed:=by kernel_rfl
 f183:=Tryz.func32.trans (congrArg some (by kernel_rfl))
 t0:=Tryz.underlying0
 a0:=Tryz.isAgg0
 z0:=Tryz.sizeOf0
 v0:=Tryz.zeroValue0
 t3:=Tryz.underlying3
 a3:=Tryz.isAgg3
 z3:=Tryz.sizeOf3
 v3:=Tryz.zeroValue3
 t37:=Tryz.underlying35
 a37:=Tryz.isAgg35
 z37:=Tryz.sizeOf35
 v37:=Tryz.zeroValue35
 t93:=Tryz.underlying70
 a93:=Tryz.isAgg70
 z93:=Tryz.sizeOf70
 v93:=Tryz.zeroValue70
 t130:=Tryz.underlying75
 a130:=Tryz.isAgg75
 z130:=Tryz.sizeOf75
 v130:=Tryz.zeroValue75
 t5:=Tryz.underlying5
 a5:=Tryz.isAgg5
 z5:=Tryz.sizeOf5
 v5:=Tryz.zeroValue5
 t91:=Tryz.underlying68
 a91:=Tryz.isAgg68
 z91:=Tryz.sizeOf68
 v91:=Tryz.zeroValue68
 i0:=by kernel_rfl
 i3:=by kernel_rfl
 i5:=by kernel_rfl
 i37:=by kernel_rfl
 i91:=by kernel_rfl
 i93:=by kernel_rfl
 i130:=by kernel_rfl}
open Go.RowKit in
theorem Tryz.Buffer_Bytes (B b:Nat) (bs:List Value) (w:World) (h:Lib.IsBuffer 70 5 B b bs w):
  Calls Tryz.prog 32 #[.pointer (some ⟨b,0,none⟩)] w λe w'=>∃v,e= .returned v/\w'.ownsRow B 5 1 v bs.length bs/\∃n,w'=w.drewN n:=Any.Buffer_Bytes Tryz.laysM183 B b bs w h
def Tryz.laysM180_ren:Go.Shelf.Ren:=⟨fun|180=>284|251=>308|252=>309|181=>315|184=>316|290=>317|324=>319|n=>n,fun|130=>75|37=>35|3=>3|75=>72|0=>0|93=>70|91=>68|131=>346|4=>4|20=>20|5=>5|80=>214|9=>9|n=>n,fun|14=>18|n=>n⟩
theorem Tryz.laysM180:Go.Proofs.LaysM.n180 Tryz.prog Tryz.laysM180_ren:= {
 mixed:=by kernel_rfl
 f180:=Tryz.func284.trans (congrArg some (by kernel_rfl))
 f181:=Tryz.func315.trans (congrArg some (by kernel_rfl))
 f184:=Tryz.func316.trans (congrArg some (by kernel_rfl))
 f251:=Tryz.func308.trans (congrArg some (by kernel_rfl))
 f252:=Tryz.func309.trans (congrArg some (by kernel_rfl))
 f290:=Tryz.func317.trans (congrArg some (by kernel_rfl))
 f324:=Tryz.func319.trans (congrArg some (by kernel_rfl))
 t0:=Tryz.underlying0
 a0:=Tryz.isAgg0
 z0:=Tryz.sizeOf0
 v0:=Tryz.zeroValue0
 t3:=Tryz.underlying3
 a3:=Tryz.isAgg3
 z3:=Tryz.sizeOf3
 v3:=Tryz.zeroValue3
 t4:=Tryz.underlying4
 a4:=Tryz.isAgg4
 z4:=Tryz.sizeOf4
 v4:=Tryz.zeroValue4
 t20:=Tryz.underlying20
 a20:=Tryz.isAgg20
 z20:=Tryz.sizeOf20
 v20:=Tryz.zeroValue20
 t37:=Tryz.underlying35
 a37:=Tryz.isAgg35
 z37:=Tryz.sizeOf35
 v37:=Tryz.zeroValue35
 t75:=Tryz.underlying72
 a75:=Tryz.isAgg72
 z75:=Tryz.sizeOf72
 v75:=Tryz.zeroValue72
 t91:=Tryz.underlying68
 a91:=Tryz.isAgg68
 z91:=Tryz.sizeOf68
 v91:=Tryz.zeroValue68
 t93:=Tryz.underlying70
 a93:=Tryz.isAgg70
 z93:=Tryz.sizeOf70
 v93:=Tryz.zeroValue70
 t130:=Tryz.underlying75
 a130:=Tryz.isAgg75
 z130:=Tryz.sizeOf75
 v130:=Tryz.zeroValue75
 t131:=Tryz.underlying346
 a131:=Tryz.isAgg346
 z131:=Tryz.sizeOf346
 v131:=Tryz.zeroValue346
 g14:=by kernel_rfl
 t5:=Tryz.underlying5
 a5:=Tryz.isAgg5
 z5:=Tryz.sizeOf5
 v5:=Tryz.zeroValue5
 t9:=Tryz.underlying9
 a9:=Tryz.isAgg9
 z9:=Tryz.sizeOf9
 v9:=Tryz.zeroValue9
 t80:=Tryz.underlying214
 a80:=Tryz.isAgg214
 z80:=Tryz.sizeOf214
 v80:=Tryz.zeroValue214
 i0:=by kernel_rfl
 i3:=by kernel_rfl
 i4:=by kernel_rfl
 i5:=by kernel_rfl
 i9:=by kernel_rfl
 i20:=by kernel_rfl
 i37:=by kernel_rfl
 i75:=by kernel_rfl
 i80:=by kernel_rfl
 i91:=by kernel_rfl
 i93:=by kernel_rfl
 i130:=by kernel_rfl
 i131:=by kernel_rfl
 m14:=by kernel_rfl}
open Go.RowKit in
theorem Tryz.Buffer_Write_any (B b:Nat) (bs cs:List Value) (a:Addr) (n c:Nat) (w:World) (h:Lib.IsBuffer 70 5 B b bs w) (AD:B<=w.heap.size) (h1:∀v∈bs,v.oneCell'=true) (hn:cs.length=n) (AE:a.block≠b) (AB:∀j v,cs[j]?=some v->w.cell? (a.add j)=some v) (AC:∀v∈cs,v.oneCell'=true) (AA:bs.length+n<=140737488355328):
  Calls Tryz.prog 284 #[.pointer (some ⟨b,0,none⟩),.slice (some a) n c] w λe w'=>e= .returned (.tuple #[.int .i64 n,.nilIface])/\Lib.IsBuffer 70 5 B b (bs++cs) w'/\Below B w w'/\Lib.OthersKept 5 (some b) w w':=Any.Buffer_Write_any Tryz.laysM180 B b bs cs a n c w h AD h1 hn AE AB AC AA
def Tryz.lays115_ren:Go.Shelf.Ren:=⟨fun|115=>197|n=>n,fun|37=>35|4=>4|9=>9|5=>5|n=>n,fun|n=>n⟩
theorem Tryz.lays115:Go.Proofs.Lays.n115 Tryz.prog Tryz.lays115_ren:= {
 mixed:=by kernel_rfl
 f115:=Tryz.func197.trans (congrArg some (by kernel_rfl))
 t4:=Tryz.underlying4
 a4:=Tryz.isAgg4
 z4:=Tryz.sizeOf4
 v4:=Tryz.zeroValue4
 t9:=Tryz.underlying9
 a9:=Tryz.isAgg9
 z9:=Tryz.sizeOf9
 v9:=Tryz.zeroValue9
 t37:=Tryz.underlying35
 a37:=Tryz.isAgg35
 z37:=Tryz.sizeOf35
 v37:=Tryz.zeroValue35}
open Go.Proofs Go.RowKit Go.Lib in
theorem Tryz.bytes_Equal_strs (v1 v2:Value) (t1 t2:ByteArray) (w:World) (h1: (convert 35 9 v1).run Tryz.prog w= .ok (.string t1) w) (h2: (convert 35 9 v2).run Tryz.prog w= .ok (.string t2) w):
  Calls Tryz.prog 197 #[v1,v2] w λe w'=>e= .returned (.bool (t1.toList==t2.toList))/\w'=w:=Any.bytes_Equal_strs Tryz.lays115 v1 v2 t1 t2 w h1 h2
def Tryz.laysSlK4_ren:Go.Shelf.Ren:=⟨fun|4=>36|n=>n,fun|22=>35|4=>4|5=>5|n=>n,fun|n=>n⟩
theorem Tryz.laysSlK4:Go.Proofs.SlLaysK.n4 Tryz.prog Tryz.laysSlK4_ren:= {
 mixed:=by kernel_rfl
 f4:=Tryz.func36.trans (congrArg some (by kernel_rfl))
 t4:=Tryz.underlying4
 a4:=Tryz.isAgg4
 z4:=Tryz.sizeOf4
 v4:=Tryz.zeroValue4
 t22:=Tryz.underlying35
 a22:=Tryz.isAgg35
 z22:=Tryz.sizeOf35
 v22:=Tryz.zeroValue35
 t5:=Tryz.underlying5
 i5:=by kernel_rfl}
open Go.RowKit Go.Lib in
theorem Tryz.bytes_Clone_at (a:Addr) (n c:Nat) (xs:List Int) (w:World) (hx:xs.length=n) (AA:n<=140737488355328) (hc:∀i,i<n->w.cell? (a.add i)=some (.int .u8 (xs.getD i 0))):
  Calls Tryz.prog 36 #[.slice (some a) n c] w λe w'=>∃v',e= .returned v'/\w'.ownsRow w.heap.size 5 1 v' n (xs.map (Value.int .u8))/\v'≠ .slice none 0 0/\Below w.heap.size w w':=Any.bytes_Clone_at Tryz.laysSlK4 a n c xs w hx AA hc
end Go.Proofs
namespace Go.Proofs.YtkanmkcojlefbaaGreatDoor
open Go.RowKit
def W3 (B b:Nat) (bs:List UInt8) (w:World):Prop:=Lib.IsBuffer 70 5 B b (Lib.byteCells bs) w
theorem W3.lt {B b:Nat} {bs:List UInt8} {w:World} (h:W3 B b bs w):b<w.heap.size:=Lib.IsBuffer.lt h
theorem W3.base {B b:Nat} {bs:List UInt8} {w:World} (h:W3 B b bs w):B<=b:=h.1
theorem W3.drew {B b:Nat} {bs:List UInt8} {w:World} (h:W3 B b bs w):W3 B b bs w.drew:=h
theorem W3.drewN {B b:Nat} {bs:List UInt8} {w:World} (h:W3 B b bs w) (n:Nat):W3 B b bs (w.drewN n):=h
theorem W3.alloc {B b:Nat} {bs:List UInt8} {w:World} (h:W3 B b bs w) (o:Obj):W3 B b bs (w.alloc o):=Lib.IsBuffer.alloc h o
theorem W3.ne {B b:Nat} {bs:List UInt8} {w:World} (h:W3 B b bs w) {k:Nat} {c:Array Value} {T:TypeId} {fz:Nat×Nat} (hk:w.heap[k]?=some (.cells c T fz)) (hT:T≠70):k≠b:=by
 obtain⟨_,v,lr,hb,_⟩:=h;intro e;rw[e,hb] at hk;cases hk
 exact hT rfl
theorem W3.carry {B b:Nat} {bs:List UInt8} {w w':World} (h:W3 B b bs w) {B':Nat} {S:List Nat} (f:Fr B' S w w') (hB:w.heap.size<=B') (hb:b∉S) (hS:∀k∈S,∀c fz,w.heap[k]?≠some (.cells c 5 fz)):W3 B b bs w':=by
 obtain⟨h1,v,lr,hk,ho,hn⟩:=h;refine⟨h1,v,lr,f.same hk hb (.inl (zL (A8 hk) hB)),⟨ho.1,?_⟩,hn⟩;rcases ho.2 with hv|⟨g,cap,cur,hv,AA,hg,r⟩
 ·exact .inl hv
 ·exact .inr ⟨g,cap,cur,hv,AA,f.same hg (λhm=>hS g hm _ _ hg) (.inl (zL (A8 hg) hB)),r⟩
theorem W3.setCell {B b:Nat} {bs:List UInt8} {w:World} (h:W3 B b bs w) {p:Addr} {c:Array Value} {T:TypeId} {fz:Nat×Nat} (hk:w.heap[p.block]?=some (.cells c T fz)) (hT:T≠70) (h5:T≠5) (v:Value):W3 B b bs (w.setCell p v):=
 h.carry (B':=w.heap.size) ((Fr.refl w.heap.size [p.block] w).setCell (.inl (by simp)) v) (zB _) (by simpa using(Ne.symm (h.ne hk hT))) (λk hm c' AA e=>by
  obtain rfl:k=p.block:=by simpa using hm
  rw[hk] at e;cases e
  exact h5 rfl)
theorem A2u (B b:Nat) (bs cs:List UInt8) (g o n c:Nat) (w:World) (h:W3 B b bs w) (AB:B<=w.heap.size) (hn:cs.length=n) (AD:g≠b) (AC:At w g o (Lib.byteCells cs)) (AA:bs.length+n<=140737488355328):
  Calls Tryz.prog 284 #[.pointer (some ⟨b,0,none⟩),.slice (some ⟨g,o,none⟩) n c] w λe w'=>e= .returned (.tuple #[.int .i64 n,.nilIface])/\W3 B b (bs++cs) w'/\Fr B [b] w w':=by
 refine(Tryz.Buffer_Write_any B b (Lib.byteCells bs) (Lib.byteCells cs) ⟨g,o,none⟩ n c w h AB (Lib.byteCells_one _) (by rw[zJ,hn]) AD AC.src (Lib.byteCells_one _) (by rw[zJ];exact AA)).mono ?_;rintro e w' ⟨rfl,hI,hb,hk⟩;exact⟨rfl,by unfold W3;rw[Lib.byteCells_append];exact hI,Fr.of_buffer hb hk⟩
theorem A7W (B b:Nat) (bs:List UInt8) (w:World) (h:W3 B b bs w):
  Calls Tryz.prog 32 #[.pointer (some ⟨b,0,none⟩)] w λe w'=>∃v,e= .returned v/\w'.ownsRow B 5 1 v bs.length (Lib.byteCells bs)/\∃n,w'=w.drewN n:=by
 have:=Tryz.Buffer_Bytes B b (Lib.byteCells bs) w h;rwa [zJ] at this
abbrev str (l:List UInt8):Value:= .string ⟨l.toArray⟩
theorem L3 (l:List UInt8) (a b:Nat): (⟨l.toArray⟩:ByteArray).extract a b=⟨((l.drop a).take (b-a)).toArray⟩:=by
 rw[Lib.extract_eq]
theorem V5 (l m:List UInt8): (⟨l.toArray⟩:ByteArray)++⟨m.toArray⟩=⟨(l++m).toArray⟩:=by
 apply ByteArray.ext;simp[ByteArray.data_append]
theorem I6 (l:List UInt8): (⟨l.toArray⟩:ByteArray).size=l.length:=by simp[ByteArray.size]
theorem B3S (l:List UInt8): (⟨l.toArray⟩:ByteArray).toList=l:=by
 simp
theorem B6D (l m:List UInt8): ((⟨l.toArray⟩:ByteArray).toList==m)=decide (l=m):=by
 rw[B3S];by_cases h:l=m<;>simp[h]
theorem B4g (l:List UInt8) (k:Nat) (c:UInt8): (((⟨l.toArray⟩:ByteArray).extract k (k+1)).toList==[c])=decide (l[k]?=some c):=by
 rw[L3,B6D];rcases h:l[k]? with _|x
 ·have:=List.getElem?_eq_none_iff.1 h
  rw[List.drop_eq_nil_of_le this];simp
 ·rw[List.drop_eq_getElem?_toList_append,h];simp
def A1q (l:List UInt8) (c:UInt8):Int:=if c∈l then l.idxOf c else-1
theorem A7l {l:List UInt8} {c:UInt8} {k:Nat} (h:l[k]?=some c) (hb:∀j,j<k->l[j]?≠some c):A1q l c=k:=by
 have hm:c∈l:=List.mem_of_getElem? h;rw[A1q,if_pos hm];have h1:l.idxOf c<l.length:=List.idxOf_lt_length_iff.2 hm;have h2:l[l.idxOf c]?=some c:=by rw[zF h1,List.getElem_idxOf h1]
 have h3:k<=l.idxOf c:=Nat.le_of_not_lt λAA=>hb _ AA h2
 have h4:l.idxOf c<=k:=by
  refine Nat.le_of_not_lt λAA=> ?_;have:=List.not_of_lt_findIdx (show k<l.findIdx (·==c) from AA);obtain⟨hk,AB⟩:=zM.1 h;simp[AB] at this
 omega
theorem A6D {l:List UInt8} {c:UInt8} {k:Nat} (hk:l.length<=k) (hb:∀j,j<k->l[j]?≠some c):A1q l c= -1:=by
 rw[A1q,if_neg];intro hm;obtain⟨j,hj,e⟩:=List.getElem_of_mem hm;exact hb j (by omega) (by rw[zF hj,e])
def A1h (w w':World):Prop:=∃n,w'=w.drewN n
theorem A1h.refl (w:World):A1h w w:=⟨0,rfl⟩
theorem A1h.next {w w':World} (h:A1h w w') (n:Nat):A1h w (w'.drewN n):=by
 obtain⟨k,rfl⟩:=h;exact⟨_,World.drewN_drewN _ _ _⟩
theorem A5h (l:List UInt8) (c:UInt8) (w:World) (hl:l.length<4611686018427387904):
  Calls Tryz.prog 219 #[str l,str [c]] w λe w'=>e= .returned (.int .i64 (A1q l c))/\w=w':=by
 go_enter Tryz.func219,Tryz.ntmps219
 go_wp2_with fail
 go_loop [5] (λi=>∃k:Nat,k<=l.length/\(∀j,j<k->l[j]?≠some c)/\i= .int .i64 k) (λi=>l.length- (intOf i).toNat)
 case atStart=>exact⟨0,zW _,λj h=>by omega,rfl⟩
 case round=>
  obtain⟨k,hk,hb,rfl⟩:=hrel;by_cases AB:k<l.length
  ·have AA: (k:Int)+1<=l.length:=by omega
   have e1:=B4g l k c;have h0:=A0 hb;clear hb;by_cases hc:l[k]?=some c
   ·rw[zY hc] at e1
    go_wp2
    go_ret
    exact⟨by rw[A7l hc h0.out];rfl,rfl⟩
   ·rw[zV hc] at e1
    go_wp2
    go_round
    case rel=>exact⟨k+1,by omega,λj hj=>if h:j=k then h▸hc else h0.out j (by omega),by go_num⟩
    case measure=>simp[intOf];omega
  ·have AA:¬(k:Int)+1<=l.length:=by omega
   have h0:=A0 hb;clear hb;go_wp2
   go_ret
   exact⟨by rw[A6D (by omega) h0.out];rfl,rfl⟩
theorem A4N (l:List UInt8) (c:UInt8) (w:World) (hl:l.length<4611686018427387904):
  Calls Tryz.prog 166 #[str l,str [c]] w λe w'=>e= .returned (.bool (decide (c∈l)))/\w=w':=by
 have h:=A5h l c w hl;by_cases hc:c∈l
 ·have h2: (0:Int)<=A1q l c:=by rw[A1q,if_pos hc];omega
  rw[zY hc];go_enter Tryz.func166,Tryz.ntmps166
  go_wp2_with fail
  refine h.mono ?_;rintro e w1 ⟨rfl,rfl⟩;go_wp2_with fail
  go_ret
  exact⟨rfl,rfl⟩
 ·rw[A1q,if_neg hc] at h
  rw[zV hc];go_enter Tryz.func166,Tryz.ntmps166
  go_wp2_with fail
  refine h.mono ?_;rintro e w1 ⟨rfl,rfl⟩;go_wp2_with fail
  go_ret
  exact⟨rfl,rfl⟩
theorem P0 (l:List UInt8) (w:World) (hl:l.length<4611686018427387904):
  Calls Tryz.prog 94 #[str l] w λe w'=>e= .returned (.bool (decide (0∈l)))/\w=w':=by
 have h:=A4N l 0 w hl;go_enter Tryz.func94,Tryz.ntmps94
 go_wp2_with fail
 refine h.mono ?_;rintro e w1 ⟨rfl,rfl⟩;go_wp2_with fail
 go_ret
 exact⟨rfl,rfl⟩
theorem A9p (l:List UInt8) (c:UInt8) (w:World) (hl:l.length<4611686018427387904) (hc:c∈l):
  Calls Tryz.prog 239 #[str l,str [c]] w λe w'=>e= .returned (.tuple #[str (l.take (l.idxOf c)),str (l.drop (l.idxOf c+1)),.bool true])/\A1h w w':=by
 have h:=A5h l c w hl;have h2:A1q l c=(l.idxOf c:Nat):=by rw[A1q,if_pos hc]
 have h3:l.idxOf c<l.length:=List.idxOf_lt_length_iff.2 hc;rw[h2] at h;generalize l.idxOf c=k at*;have h4: (0:Int)<=k:=by omega
 have h6: (k:Int)<=l.length:=by omega
 have h7: (k:Int)+1<=l.length:=by omega
 have h8:IntKind.i64.wrap ((k:Int)+1)=(k:Int)+1:=by rw[zQ _ (by omega)]
 go_enter Tryz.func239,Tryz.ntmps239
 go_wp2_with fail
 refine h.mono ?_;rintro e w1 ⟨rfl,rfl⟩;go_wp2_with fail
 go_quiet (fail)
 go_wp2_with fail
 go_ret3
 refine⟨?_,(A1h.refl w).next _⟩;rw[L3,L3];have:List.take (l.length- (k+1)) (l.drop (k+1))=l.drop (k+1):=List.take_of_length_le (by simp);simp[this]
theorem B6T (l:List UInt8) (c:UInt8) (w:World) (hl:l.length<4611686018427387904) (hc:c∉l):
  Calls Tryz.prog 239 #[str l,str [c]] w λe w'=>e= .returned (.tuple #[str l,str [],.bool false])/\w=w':=by
 have h:=A5h l c w hl;rw[A1q,if_neg hc] at h;go_enter Tryz.func239,Tryz.ntmps239
 go_wp2_with fail
 refine h.mono ?_;rintro e w1 ⟨rfl,rfl⟩;go_wp2_with fail
 go_ret3
 exact⟨rfl,rfl⟩
def L5 (l:List UInt8) (c:UInt8):List UInt8:=(l.reverse.dropWhile (·==c)).reverse
theorem B1a {l:List UInt8} {c:UInt8} {m:Nat} (h:l[m]?=some c):L5 (l.take (m+1)) c=L5 (l.take m) c:=by
 obtain⟨hm,e⟩:=zM.1 h;rw[zU hm,e];simp[L5]
theorem B1Z {l:List UInt8} {c x:UInt8} (h:x≠c):L5 (l++[x]) c=l++[x]:=by simp[L5,h]
theorem A9j {l:List UInt8} {c:UInt8} {m:Nat} (hm:m<l.length) (h:l[m]?≠some c):L5 (l.take (m+1)) c=l.take (m+1):=by
 rw[zF hm] at h;rw[zU hm];exact B1Z λe=>h (by rw[e])
theorem B3u (l:List UInt8) (c:UInt8) (m:Nat) (h0:0< (⟨[c].toArray⟩:ByteArray).size) (hm:m< (⟨l.toArray⟩:ByteArray).size):
  (((((⟨[c].toArray⟩:ByteArray)[0]'h0).toNat:Int)==(((⟨l.toArray⟩:ByteArray)[m]'hm).toNat:Int)))=decide (l[m]?=some c):=by
 have AA:m<l.length:=by rwa [I6] at hm
 have e1: (⟨[c].toArray⟩:ByteArray)[0]'h0=c:=rfl
 have e2: (⟨l.toArray⟩:ByteArray)[m]'hm=l[m]:=by
  show(l.toArray)[m]'_=_
  simp
 rw[e1,e2,zF AA];by_cases h:l[m]=c
 ·rw[h];simp
 ·have h3:¬((c.toNat:Int)=(l[m].toNat:Int)):=λe=>h (UInt8.toNat_inj.1 (by omega)).symm
  simp[h,h3]
theorem A0O (l:List UInt8) (c:UInt8) (w:World) (hl:l.length<4611686018427387904):
  Calls Tryz.prog 170 #[str l,str [c]] w λe w'=>e= .returned (str (L5 l c))/\A1h w w':=by
 go_enter Tryz.func170,Tryz.ntmps170
 go_wp2_with fail
 go_loopw [5] (λi wr=>∃k:Nat,k<=l.length/\L5 l c=L5 (l.take k) c/\i= .int .i64 k/\A1h w wr) (λi _=>(intOf i).toNat)
 case atStart=>exact⟨l.length,zB _,by rw[List.take_length],rfl,A1h.refl w⟩
 case round=>
  obtain⟨k,hk,hb,rfl,hd⟩:=hrel;have h0:=A0 hb;have AB:=A0 hd;clear hb hd;by_cases AD:0<k
  ·obtain⟨m,rfl⟩:∃m,k=m+1:=⟨k-1,by omega⟩
   have AA: (0:Int)< ((m+1:Nat):Int):=by omega
   have AG:IntKind.i64.wrap (((m+1:Nat):Int)-1)=(m:Int):=by rw[zQ _ (by omega)];omega
   have hm:m< (⟨l.toArray⟩:ByteArray).size:=by rw[I6];omega
   have AC:m<l.length:=by omega
   have AE: (m:Int)<l.length:=by omega
   have e1:=B3u l c m (by show 0<1;omega) hm;by_cases hc:l[m]?=some c
   ·rw[zY hc] at e1
    go_wp2
    refine wp_loop_rounds 2 ?_;rw[rounds_succ];go_wp2
    go_quiet (fail)
    go_wp2
    rw[rounds_succ];go_wp2
    go_round
    case rel=>exact⟨m,by omega,by rw[h0.out,B1a hc],by go_num,AB.out.next _⟩
    case measure=>simp[intOf]
   ·rw[zV hc] at e1
    go_wp2
    refine wp_loop_rounds 2 ?_;rw[rounds_succ];go_wp2
    go_quiet (fail)
    go_wp2
    rw[rounds_succ];go_wp2
    go_ret
    refine⟨?_,AB.out.next _⟩;rw[h0.out,A9j AC hc];show Ending.returned (.string ((⟨l.toArray⟩:ByteArray).extract 0 (m+1)))=_
    rw[L3];rfl
  ·have AA:k=0:=by omega
   subst AA;go_wp2
   go_ret
   refine⟨?_,AB.out⟩;rw[h0.out];rfl
def A2a (b:UInt8):Bool:=decide (b.toNat<128)&&decide (b.toNat≠0)
def D6 (l:List UInt8):Bool:=l.all A2a
theorem A1J (l:List UInt8):D6 l=true↔∀ (k:Nat) (x:UInt8),l[k]?=some x->A2a x=true:=by
 simp only[D6,List.all_eq_true];constructor
 ·intro h k x hk;exact h x (List.mem_of_getElem? hk)
 ·intro h x hx
  obtain⟨k,hk,e⟩:=List.getElem_of_mem hx;exact h k x (by rw[zF hk,e])
theorem A2t {l:List UInt8} {k:Nat} {x:UInt8} (h:l[k]?=some x) (hx:A2a x=false):D6 l=false:=by
 rw[Bool.eq_false_iff];intro h2;have:=(A1J l).1 h2 k x h;rw[hx] at this;cases this
theorem A7F (l:List UInt8) (k:Nat) (x:UInt8) (h:k< (⟨l.toArray⟩:ByteArray).size) (h2:l[k]?=some x): (⟨l.toArray⟩:ByteArray)[k]'h=x:=by
 obtain⟨hk,rfl⟩:=zM.1 h2;show(l.toArray)[k]'_=_
 simp
theorem A2b (w:World) (s:ByteArray) (p:Nat):Below w.heap.size w (w.iter s p):=(zD _ w).alloc (zB _) _
theorem J8 (l:List UInt8) (w:World) (hl:l.length<4611686018427387904):
  Calls Tryz.prog 96 #[str l] w λe w'=>e= .returned (.bool (D6 l))/\Below w.heap.size w w':=by
 go_enter Tryz.func96,Tryz.ntmps96
 go_wp2
 go_loopw [] (λw'=>∃ (pos:Nat),w'=w.iter ⟨l.toArray⟩ pos/\(∀ (k:Nat) (x:UInt8),k<pos->l[k]?=some x->A2a x=true)) (λw'=>l.length-w'.iterPos w.heap.size)
 case atStart=>exact⟨0,rfl,λk x h=>by omega⟩
 case round=>
  obtain⟨pos,rfl,hb⟩:=hrel;have h0:=A0 hb;clear hb;by_cases hp:pos<l.length
  ·have AA:pos< (⟨l.toArray⟩:ByteArray).size:=by rw[I6];exact hp
   obtain⟨x,hg⟩:∃x,l[pos]?=some x:=⟨_,zF hp⟩;have hx:=A7F l pos x AA hg;have Hg:=A0 hg;clear hg;by_cases ha:x.toNat<128
   ·have AB:∀ty,(Instr.next (.pointer (some ⟨w.heap.size,0,none⟩)) true ty).run Tryz.prog (w.iter ⟨l.toArray⟩ pos)=_:=λty=>run_next_ascii w ⟨l.toArray⟩ pos ty AA (by rw[hx];exact ha)
    rw[hx] at AB;have AD:¬(128:Int)<=x.toNat:=by omega
    by_cases hz:x.toNat=0
    ·have hf:D6 l=false:=A2t Hg.out (by simp[A2a,hz])
     have Hf:=A0 hf;have AC: ((x.toNat:Int)==0)=true:=by rw[hz];rfl
     clear hx hf;go_wp2
     go_ret
     exact⟨by rw[Hf.out];rfl,A2b ..⟩
    ·have AC: ((x.toNat:Int)==0)=false:=by simp;omega
     clear hx;go_wp2
     go_roundw
     case rel=>exact⟨pos+1,rfl,λk y hk hy=>if e:k=pos then by subst e;rw[Hg.out] at hy;cases hy;simp[A2a,ha,hz] else h0.out k y (by omega) hy⟩
     case measure=>simp;omega
   ·obtain⟨hd,AE⟩:=decode_high ⟨l.toArray⟩ pos AA (by rw[hx];omega)
    have AB:∀ty,(Instr.next (.pointer (some ⟨w.heap.size,0,none⟩)) true ty).run Tryz.prog (w.iter ⟨l.toArray⟩ pos)=_:=λty=>run_next_any w ⟨l.toArray⟩ pos ty AA;have AG: (128:Int)<=(Utf8.decode ⟨l.toArray⟩ pos).1:=by omega
    have hf:D6 l=false:=A2t Hg.out (by simp[A2a,ha]);have Hf:=A0 hf;clear hx hf;go_wp2
    go_ret
    exact⟨by rw[Hf.out];rfl,A2b ..⟩
  ·have AB:∀ty,(Instr.next (.pointer (some ⟨w.heap.size,0,none⟩)) true ty).run Tryz.prog (w.iter ⟨l.toArray⟩ pos)=_:=λty=>run_next_end w ⟨l.toArray⟩ pos ty (by rw[I6];exact hp)
   have hf:D6 l=true:=(A1J l).2 λk x hk=>h0.out k x (by have:=(zM.1 hk).1;omega) hk;have Hf:=A0 hf;clear hf;go_wp2
   go_ret
   exact⟨by rw[Hf.out];rfl,A2b ..⟩
theorem B5c: (Tryz.prog.info? 5).map (λi=>(i.zero,i.size,i.bytes))=some (some (.int .u8 0),1,1):=by kernel_rfl
theorem Z8 (l:List UInt8) (w:World) (hl:l.length<=1048576):
  Calls Tryz.prog 143 #[str l] w λe w'=>(∃m,e= .returned (str m)/\(D6 l=true->m=l)/\D6 m=true/\m.length<=l.length)/\Below w.heap.size w w':=by
 by_cases ha:D6 l=true
 ·have h:=J8 l w (by omega)
  rw[ha] at h;go_enter Tryz.func143,Tryz.ntmps143
  go_wp2_with fail
  refine h.mono ?_;rintro e w1 ⟨rfl,hb⟩;go_wp2_with fail
  go_ret
  exact⟨⟨l,rfl,λ_=>rfl,ha,zB _⟩,hb⟩
 ·have hf:D6 l=false:=by simpa using ha
  have h:=J8 l w (by omega);rw[hf] at h;obtain⟨i,hi,Ag,Ac,AY⟩:=info_parts B5c;go_enter Tryz.func143,Tryz.ntmps143
  go_wp2_with fail
  refine h.mono ?_;rintro e w1 ⟨rfl,hb⟩;go_wp2_with (first|(at_make;refine wpList_make_own _ rfl _ _ 35 rfl w1.heap.size 5 i (.int .u8 0) 1 Tryz.underlying35 hi Ag Ac _ _ _ l.length rfl rfl rfl (by rw[AY];omega) (by unfold maxLen;omega) (zB _) ?_))
  intro w2 AM Aa;have AZ:Below w.heap.size w w2:=hb.grown Aa hb.size (λk hk=>by cases hk);have Af:w1.heap.size<w2.heap.size:=AM.2.elim (λh=>by cases h.1) fun⟨g,_,_,e,_,hg,_⟩=>by cases e;exact A8 hg
  clear Aa h;go_wp2_with fail
  go_loopw [3] (λv wr=>∃ (pos:Nat) (AA:List UInt8),wr.heap[w2.heap.size]?=some (.stringIter ⟨l.toArray⟩ pos)/\AA.length<=pos/\AA.length<=l.length/\D6 AA=true/\v= .slice (some ⟨w1.heap.size,0,none⟩) AA.length l.length/\wr.ownsRow w1.heap.size 5 1 (.slice (some ⟨w1.heap.size,0,none⟩) AA.length l.length) AA.length (Lib.byteCells AA)/\Below w.heap.size w wr)
   (λ_ wr=>l.length-wr.iterPos w2.heap.size)
  case atStart=>exact⟨0,[],zI _ _,by simp,by simp,rfl,rfl,AM.alloc _,AZ.alloc AZ.size _⟩
  case round=>
   obtain⟨pos,AA,AG,Ak,AX,has,rfl,AH,AT⟩:=hrel;have AL:wr.iterPos w2.heap.size=pos:=by simp[World.iterPos,AG]
   have Ab:w2.heap.size<wr.heap.size:=A8 AG;by_cases hp:pos<l.length
   ·have AR:pos< (⟨l.toArray⟩:ByteArray).size:=by rw[I6];exact hp
    obtain⟨x,hg⟩:∃x,l[pos]?=some x:=⟨_,zF hp⟩;have hx:=A7F l pos x AR hg;by_cases ha:x.toNat<128
    ·have AQ:∀ty,(Instr.next (.pointer (some ⟨w2.heap.size,0,none⟩)) true ty).run Tryz.prog wr=_:=λty=>Lib.run_next_ascii_at wr w2.heap.size ⟨l.toArray⟩ pos ty AG AR (by rw[hx];exact ha)
     rw[hx] at AQ;have Aj: (x.toNat:Int)<128:=by omega
     have AB:=Lib.iterAt_heap wr w2.heap.size ⟨l.toArray⟩ pos (pos+1) AG;have AD:=Lib.below_iterAt (k:=w2.heap.size) AT (by have:=hb.size;omega) ⟨l.toArray⟩ (pos+1)
     have AC: (wr.iterAt w2.heap.size ⟨l.toArray⟩ (pos+1)).ownsRow w1.heap.size 5 1 (.slice (some ⟨w1.heap.size,0,none⟩) AA.length l.length) AA.length (Lib.byteCells AA):=
      AH.kept (row:=some w2.heap.size) ⟨rfl,rfl,rfl,by rw[Lib.iterAt_size];exact zB _,λk hk AW=>Lib.iterAt_other wr w2.heap.size k _ _ (λe=>AW (by rw[e]))⟩ (.inr (by simp[Value.ownBlock];omega))
     have AV: (wr.iterAt w2.heap.size ⟨l.toArray⟩ (pos+1)).iterPos w2.heap.size=pos+1:=by simp[World.iterPos,AB]
     have Hx:=A0 hx;have Ai:=A0 AG;have AE:=A0 AB;have AP:=A0 AL;clear hx AG AB AL hg;generalize wr.iterAt w2.heap.size ⟨l.toArray⟩ (pos+1)=w3 at*;by_cases hz:x.toNat=0
     ·have AY: ((x.toNat:Int) !=0)=false:=by rw[hz];rfl
      go_wp2
      go_roundw
      case rel=>exact⟨pos+1,AA,AE.out,by omega,AX,has,rfl,AC,AD⟩
      case measure=>rw[AV,AP.out];omega
     ·have AY: ((x.toNat:Int) !=0)=true:=by simp;omega
      have Ae:w2.heap.size<w3.heap.size:=A8 AE.out;go_wp2_with (first|(at_builtin;refine wpList_append_fits _ rfl (.tmp 23) (.tmp 26) 35 rfl w1.heap.size 5 i 1 Tryz.underlying35 hi Ac w1.heap.size AA.length l.length _ rfl (AC.alloc _) ⟨w3.heap.size,0,none⟩ 1 1 [.int .u8 x.toNat] rfl rfl ?c1 ?c2 ?c3 ?_)|fail)
      case c1=>intro j u hj;match j,hj with|0,hj=>simp at hj;subst hj;simp[Addr.add]
      case c2=>intro u hu;simp at hu;subst hu;rfl
      case c3=>omega
      intro w4 AO AI
      have AJ:w4.heap[w2.heap.size]?=some (.stringIter ⟨l.toArray⟩ (pos+1)):=by
       rw[AI.block _ (by simp;omega) (λe=>by have:=Option.some.inj e;omega),heap_alloc_old _ _ Ae];exact AE.out
      have Ad:w4.iterPos w2.heap.size=pos+1:=by simp[World.iterPos,AJ]
      have AU:Below w.heap.size w w4:=(AD.alloc AD.size _).grown AI (by have:=AD.size;simp;omega) (λk hk=>by cases hk;exact hb.size);have AS:=A0 AJ;have Ah:=A0 AI;clear AJ AI AQ;go_wp2
      go_roundw
      case rel=>exact⟨pos+1,AA++[x],AS.out,by simp;omega,by simp;omega,by rw[D6,List.all_append,Bool.and_eq_true];exact⟨has,by simp[A2a,ha,hz]⟩,by simp,by simpa[Lib.byteCells] using AO,AU⟩
      case measure=>rw[Ad,AP.out];omega
    ·obtain⟨hd,Am⟩:=decode_high ⟨l.toArray⟩ pos AR (by rw[hx];omega)
     have AQ:∀ty,(Instr.next (.pointer (some ⟨w2.heap.size,0,none⟩)) true ty).run Tryz.prog wr=_:=λty=>Lib.run_next_any_at wr w2.heap.size ⟨l.toArray⟩ pos ty AG AR;have An:¬((Utf8.decode ⟨l.toArray⟩ pos).1:Int)<128:=by omega
     have AB:=Lib.iterAt_heap wr w2.heap.size ⟨l.toArray⟩ pos (pos+(Utf8.decode ⟨l.toArray⟩ pos).2) AG;have AD:=Lib.below_iterAt (k:=w2.heap.size) AT (by have:=hb.size;omega) ⟨l.toArray⟩ (pos+(Utf8.decode ⟨l.toArray⟩ pos).2)
     have AC: (wr.iterAt w2.heap.size ⟨l.toArray⟩ (pos+(Utf8.decode ⟨l.toArray⟩ pos).2)).ownsRow w1.heap.size 5 1 (.slice (some ⟨w1.heap.size,0,none⟩) AA.length l.length) AA.length (Lib.byteCells AA):=
      AH.kept (row:=some w2.heap.size) ⟨rfl,rfl,rfl,by rw[Lib.iterAt_size];exact zB _,λk hk AW=>Lib.iterAt_other wr w2.heap.size k _ _ (λe=>AW (by rw[e]))⟩ (.inr (by simp[Value.ownBlock];omega))
     have AV: (wr.iterAt w2.heap.size ⟨l.toArray⟩ (pos+(Utf8.decode ⟨l.toArray⟩ pos).2)).iterPos w2.heap.size=pos+(Utf8.decode ⟨l.toArray⟩ pos).2:=by simp[World.iterPos,AB]
     have AE:=A0 AB;have AP:=A0 AL;clear hx AG AB AL hg;generalize wr.iterAt w2.heap.size ⟨l.toArray⟩ (pos+(Utf8.decode ⟨l.toArray⟩ pos).2)=w3 at*;generalize Utf8.decode ⟨l.toArray⟩ pos=dd at*;go_wp2
     go_roundw
     case rel=>exact⟨_,AA,AE.out,by omega,AX,has,rfl,AC,AD⟩
     case measure=>rw[AV,AP.out];omega
   ·have AQ:∀ty,(Instr.next (.pointer (some ⟨w2.heap.size,0,none⟩)) true ty).run Tryz.prog wr=_:=λty=>Lib.run_next_end_at wr w2.heap.size ⟨l.toArray⟩ pos ty AG (by rw[I6];exact hp)
    have Al: (convert 35 9 (.slice (some ⟨w1.heap.size,0,none⟩) AA.length l.length)).run Tryz.prog wr= .ok (.string ⟨AA.toArray⟩) wr:=
     run_convert_bytes_back wr 35 9 5 ⟨w1.heap.size,0,none⟩ l.length AA Tryz.underlying35 Tryz.underlying5 Tryz.underlying9 (λj hj=>AH.cells (g:=w1.heap.size) rfl j _ (by simp[Lib.byteCells,hj]))
    clear AG AL;go_wp2
    go_ret
    exact⟨⟨AA,rfl,λh=>(ha h).elim,has,AX⟩,AT⟩
end Go.Proofs.YtkanmkcojlefbaaGreatDoor
