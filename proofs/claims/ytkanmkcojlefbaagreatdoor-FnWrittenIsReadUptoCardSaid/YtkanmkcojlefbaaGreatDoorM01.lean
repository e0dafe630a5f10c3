/-
  Part of the proof; holds the texts FmtS, Rd, Full, Flush, HeadEnd, Oct8.
-/
import Derived.Test.YtkanmkcojlefbaaGreatDoorM00
set_option maxRecDepth 100000
set_option linter.unusedSimpArgs false
set_option linter.unusedVariables false
namespace Go.Proofs.YtkanmkcojlefbaaGreatDoor
theorem zE:type_of% @Lib.frozen_of_heap:=@Lib.frozen_of_heap
theorem zH:type_of% @List.length_append:=@List.length_append
theorem zR:type_of% @List.length_take:=@List.length_take
theorem zT:type_of% @List.getElem?_append_right:=@List.getElem?_append_right
theorem zX:type_of% @List.getElem?_append_left:=@List.getElem?_append_left
theorem QG:type_of% @List.append_assoc:=@List.append_assoc
theorem QH:type_of% @List.append_nil:=@List.append_nil
open Go.RowKit
def E4 (w:World) (g:Nat) (T:TypeId) (AA:List Value) (bs:List UInt8) (post:List Value):Prop:=w.heap[g]?=some (.cells (AA++Lib.byteCells bs++post).toArray T (0,0))
theorem B0K {α:Type} (AB a post AA:List α) (h:AA.length<=a.length): (AB++(a++post)).take AB.length++(AA++(AB++(a++post)).drop (AB.length+AA.length))=AB++((AA++a.drop AA.length)++post):=by
 rw[List.take_left,<-List.drop_drop,List.drop_left,List.drop_append_of_le_length h];simp
theorem A0N (w:World) (g n c:Nat) (s:List UInt8) (T:TypeId) (AC:List Value) (AB:List UInt8) (post:List Value) (h:E4 w g T AC AB post) (hn:AB.length=n):
  (Builtin.copy_ #[35,9] 3 #[.slice (some ⟨g,AC.length,none⟩) n c,str s]).run Tryz.prog w=
   .ok (goInt (min s.length n)) (w.setRow g (AC++Lib.byteCells (s.take n++AB.drop s.length)++post).toArray):=by
 have AA: (Lib.byteCells (s.take n)).length=min s.length n:=by rw[zJ,zR,Nat.min_comm]
 have AD:=run_storeCells_at Tryz.prog g AC.length T (Lib.byteCells (s.take n)) 0 _ w h (by rw[AA];simp[Lib.byteCells_length,hn];omega) (Lib.byteCells_one _);rw[AA] at AD;simp only[Nat.add_zero] at AD
 obtain⟨i,hi,AH⟩:∃i,Tryz.prog.info? 5=some i/\i.size=1:=by
  have hs: (Tryz.prog.info? 5).map (·.size)=some 1:=by kernel_rfl
  obtain⟨i,hi,e⟩:=Option.map_eq_some_iff.1 hs;exact⟨i,hi,e⟩
 have AE:Nat.min s.length n=min s.length n:=rfl
 have e3:s.take (min s.length n)=s.take n:=by
  rcases Nat.le_total s.length n with h|h
  ·rw[Nat.min_eq_left h,List.take_length,List.take_of_length_le h]
  ·rw[Nat.min_eq_right h]
 have AG:List.take (min s.length n) (List.map (λb:UInt8=>Value.int IntKind.u8 (b.toNat:Int)) s)=Lib.byteCells (s.take n):=by
  rw[<-List.map_take,e3];rfl
 have e4: (Lib.byteCells AB).drop (Lib.byteCells (s.take n)).length=Lib.byteCells (AB.drop s.length):=by
  rw[AA,Lib.byteCells,<-List.map_drop]
  have e5:AB.drop (min s.length n)=AB.drop s.length:=by
   rcases Nat.le_total s.length n with h|h
   ·rw[Nat.min_eq_left h]
   ·rw[Nat.min_eq_right h,List.drop_eq_nil_of_le (by omega),List.drop_eq_nil_of_le (by omega)]
  rw[e5];rfl
 have e2:=B0K AC (Lib.byteCells AB) post (Lib.byteCells (s.take n)) (by rw[AA,zJ];omega);rw[e4,AA,<-Lib.byteCells_append] at e2;simp[Builtin.copy_,run_underlying Tryz.underlying35,Builtin.lenOf,Builtin.firstCells,sizeOf,typeInfo,hi,AE,I6];rw[AG];simp only[List.append_assoc] at AD e2⊢;rw[AD,e2];simp[Result.andThen];exact congrArg goInt (by omega)
theorem E4.cell {w:World} {g:Nat} {T:TypeId} {AA post:List Value} {bs:List UInt8} (h:E4 w g T AA bs post) (j:Nat) (x:UInt8) (hx:bs[j]?=some x):w.cell? ⟨g,AA.length+j,none⟩=some (.int .u8 x.toNat):=by
 have hj:=(zM.1 hx).1;rw[zA h,List.getElem?_toArray,QG,zT (by omega),zX (by simp[Lib.byteCells_length];omega)];simp[Lib.byteCells,hx]
theorem E4.frozen {w:World} {g:Nat} {T:TypeId} {AA post:List Value} {bs:List UInt8} (h:E4 w g T AA bs post) (j:Nat):w.frozen? ⟨g,AA.length+j,none⟩=false:=zE h _
theorem E4.set {w:World} {g:Nat} {T:TypeId} {AA post:List Value} {bs:List UInt8} (h:E4 w g T AA bs post) (j:Nat) (hj:j<bs.length) (x:UInt8):
  E4 (w.setCell ⟨g,AA.length+j,none⟩ (.int .u8 x.toNat)) g T AA (bs.set j x) post:=by
 have:=B6 (i:=AA.length+j) (.int .u8 x.toNat) h;rw[E4,this];congr 2
 simp only[List.setIfInBounds_toArray];rw[QG,List.set_append_right _ _ (by omega),List.set_append_left _ _ (by simp[Lib.byteCells_length];omega)];simp[Lib.byteCells,List.map_set]
theorem E4.row {w:World} {g:Nat} {T:TypeId} {AA post:List Value} {bs:List UInt8} (h:E4 w g T AA bs post) (AB:List UInt8):E4 (w.setRow g (AA++Lib.byteCells AB++post).toArray) g T AA AB post:=
 setRow_heap w g _ _ T _ h
theorem W8 (w:World) (fb g n c:Nat) (s:List UInt8) (T:TypeId) (AB:List Value) (AA:List UInt8) (post:List Value) (h:E4 w g T AB AA post) (hn:AA.length=n) (AI:n<=c) (AH:n<=512) (hs:s.length<n):
  Calls Tryz.prog 129 #[.pointer (some ⟨fb,0,none⟩),.slice (some ⟨g,AB.length,none⟩) n c,str s] w λe w'=>e= .returned (.tuple #[])/\E4 w' g T AB (s++0::AA.drop (s.length+1)) post/\Fr w.heap.size [g] w w':=by
 have AG:=A0N w g n c s T AB AA post h hn;have h1:=h.row (s.take n++AA.drop s.length);have AC:Fr w.heap.size [g] w (w.setRow g (AB++Lib.byteCells (s.take n++AA.drop s.length)++post).toArray):=(Fr.refl _ _ w).setRow (.inl (by simp)) _;generalize w.setRow g (AB++Lib.byteCells (s.take n++AA.drop s.length)++post).toArray=w1 at*;have e1:s.take n=s:=List.take_of_length_le (by omega);rw[e1] at h1;obtain⟨x,hx⟩:∃x,(s++AA.drop s.length)[s.length]?=some x:=⟨_,zF (by simp;omega)⟩;have c1:=h1.cell s.length x hx;have z1:=h1.frozen s.length;have h2:=h1.set s.length (by simp;omega) 0
 have e2: (s++AA.drop s.length).set s.length 0=s++0::AA.drop (s.length+1):=by
  rw[List.set_append_right _ _ (zB _),Nat.sub_self,List.drop_eq_getElem_cons (by omega)];rfl
 rw[e2] at h2;have AD:Fr w.heap.size [g] w (w1.setCell ⟨g,AB.length+s.length,none⟩ (.int .u8 (0:UInt8).toNat)):=AC.setCell (.inl (by simp)) _;have i1: (s.length:Int)<n:=by omega
 have i2:¬(n:Int)<s.length:=by omega
 have i3: ((n:Int))<=c:=by omega
 have H2:=A0 h2;have AE:=A0 AD;have H:=A0 h;clear h2 AD h h1 AC hx e1 e2;go_enter Tryz.func129,Tryz.ntmps129
 go_wp2_with fail
 go_end0
 exact⟨rfl,H2.out,AE.out⟩
theorem A3B (w:World) (fb g n c:Nat) (s:List UInt8) (T:TypeId) (AB:List Value) (AA:List UInt8) (post:List Value) (h:E4 w g T AB AA post) (hn:AA.length=n) (AH:n<=c) (AG:n<=512) (hs:s.length=n):
  Calls Tryz.prog 129 #[.pointer (some ⟨fb,0,none⟩),.slice (some ⟨g,AB.length,none⟩) n c,str s] w λe w'=>e= .returned (.tuple #[])/\E4 w' g T AB s post/\Fr w.heap.size [g] w w':=by
 have AE:=A0N w g n c s T AB AA post h hn;have h1:=h.row (s.take n++AA.drop s.length);have AC:Fr w.heap.size [g] w (w.setRow g (AB++Lib.byteCells (s.take n++AA.drop s.length)++post).toArray):=(Fr.refl _ _ w).setRow (.inl (by simp)) _;generalize w.setRow g (AB++Lib.byteCells (s.take n++AA.drop s.length)++post).toArray=w1 at*;have e1:s.take n++AA.drop s.length=s:=by rw[List.take_of_length_le (by omega),List.drop_eq_nil_of_le (by omega),QH]
 rw[e1] at h1;have i1:¬(s.length:Int)<n:=by omega
 have i2:¬(n:Int)<s.length:=by omega
 have i3: ((n:Int))<=c:=by omega
 have H2:=A0 h1;have AD:=A0 AC;have H:=A0 h;clear h h1 AC e1;go_enter Tryz.func129,Tryz.ntmps129
 go_wp2_with fail
 go_end0
 exact⟨rfl,H2.out,AD.out⟩
theorem A3C (w:World) (fb g n c:Nat) (s:List UInt8) (T:TypeId) (AA:List Value) (AB:List UInt8) (post:List Value) (AJ:Value) (aE:Addr) (h:E4 w g T AA AB post) (hn:AB.length=n) (AW:n<=c) (AU:0<n) (AV:n<=512) (hs:n<s.length) (hl:s.length<=1048576)
  (AE:w.heap[fb]?=some (.cells #[AJ] 196 (0,0))) (AG:fb≠g) (hE:w.cell? ⟨3,0,none⟩=some (I7 aE)):
  Calls Tryz.prog 129 #[.pointer (some ⟨fb,0,none⟩),.slice (some ⟨g,AA.length,none⟩) n c,str s] w λe w'=>e= .returned (.tuple #[])/\(∃AH:List UInt8,E4 w' g T AA AH post/\AH.length=n/\(∀b∈AH,b=0\/b∈s))/\w'.heap[fb]?=some (.cells #[I7 aE] 196 (0,0))/\Fr w.heap.size [g,fb] w w':=by
 have AT:w.cell? ⟨fb,0,none⟩=some AJ:=by rw[zA AE];rfl
 have AY:w.frozen? ⟨fb,0,none⟩=false:=zE AE 0;have AC:=B6 (i:=0) (I7 aE) AE;have h0:E4 (w.setCell ⟨fb,0,none⟩ (I7 aE)) g T AA AB post:=(C0 _ (Ne.symm AG)).trans h;have AL:Fr w.heap.size [g,fb] w (w.setCell ⟨fb,0,none⟩ (I7 aE)):=(Fr.refl _ _ w).setCell (.inl (by simp)) _;have AS:=A0N _ g n c s T AA AB post h0 hn;have h1:=h0.row (s.take n++AB.drop s.length);have AD:=(setRow_other (w.setCell ⟨fb,0,none⟩ (I7 aE)) g fb (AA++Lib.byteCells (s.take n++AB.drop s.length)++post).toArray AG).trans AC;have AM:Fr w.heap.size [g,fb] w ((w.setCell ⟨fb,0,none⟩ (I7 aE)).setRow g (AA++Lib.byteCells (s.take n++AB.drop s.length)++post).toArray):=AL.setRow (.inl (by simp)) _;generalize (w.setCell ⟨fb,0,none⟩ (I7 aE)).setRow g (AA++Lib.byteCells (s.take n++AB.drop s.length)++post).toArray=w1 at*;have e1:s.take n++AB.drop s.length=s.take n:=by rw[(List.drop_eq_nil_of_le (by omega):AB.drop s.length=[]),QH]
 rw[e1] at h1;obtain⟨m,rfl⟩:∃m,n=m+1:=⟨n-1,by omega⟩;obtain⟨x,hx⟩:∃x,(s.take (m+1))[m]?=some x:=⟨_,zF (by simp;omega)⟩;have c1:=h1.cell m x hx;have AX:IntKind.i64.wrap (((m+1:Nat):Int)-1)=(m:Int):=by rw[zQ _ (by omega)];omega
 have i1:¬(s.length:Int)< (m+1:Nat):=by omega
 have i2: ((m+1:Nat):Int)<s.length:=by omega
 have i3: (((m+1:Nat):Int))<=c:=by omega
 have i4: (m:Int)< (m+1:Nat):=by omega
 have i5: (m:Int)<=s.length:=by omega
 have e3: (⟨s.toArray⟩:ByteArray).extract 0 m=⟨(s.take m).toArray⟩:=by rw[L3];simp
 have AR:=λw2=>A0O (s.take m) 47 w2 (by simp;omega)
 have AO: (L5 (s.take m) 47).length<=m:=by
  have h3:=(List.dropWhile_sublist (·==(47:UInt8)) (l:=(s.take m).reverse)).length_le;simp only[L5,List.length_reverse] at h3⊢;simp at h3;omega
 obtain⟨y,hy⟩:∃y,(s.take (m+1))[(L5 (s.take m) 47).length]?=some y:=⟨_,zF (by simp;omega)⟩;have c2:=h1.cell _ y hy;have z2:=h1.frozen (L5 (s.take m) 47).length;have h2:=h1.set (L5 (s.take m) 47).length (by simp;omega) 0;generalize hk: (L5 (s.take m) 47).length=k at*;have i6: (k:Int)< (m+1:Nat):=by omega
 have H:=A0 h;have H1:=A0 h1;have H2:=A0 h2;have AI:=A0 AM;have Hb:=A0 AD;clear h h0 h1 h2 AM AL AE AC AD hx hy e1;by_cases AQ:x.toNat=47
 ·have AP: ((x.toNat:Int)==47)=true:=by rw[AQ];rfl
  go_enter Tryz.func129,Tryz.ntmps129
  go_wp2_with fail
  refine(AR _).mono ?_;rintro e w2 ⟨rfl,nd,rfl⟩;have c3: (w1.drewN nd).cell? ⟨g,AA.length+k,none⟩=some (.int .u8 y.toNat):=c2;have z3: (w1.drewN nd).frozen? ⟨g,AA.length+k,none⟩=false:=z2;go_wp2_with fail
  go_end0
  refine⟨rfl,⟨_,H2.out,by simp;omega,?_⟩,(C0 _ AG).trans Hb.out,?_⟩
  ·intro b hb
   rcases List.mem_or_eq_of_mem_set hb with hb|hb
   ·exact .inr (List.mem_of_mem_take hb)
   ·exact .inl hb
  ·exact(AI.out.drewN nd).setCell (p:=⟨g,AA.length+k,none⟩) (.inl (by simp)) _
 ·have AP: ((x.toNat:Int)==47)=false:=by simp;omega
  go_enter Tryz.func129,Tryz.ntmps129
  go_wp2_with fail
  go_end0
  exact⟨rfl,⟨_,H1.out,by simp;omega,λb hb=> .inr (List.mem_of_mem_take hb)⟩,Hb.out,AI.out⟩
structure V9 (old s new:List UInt8):Prop where
 len:new.length=old.length
 short:s.length<old.length->new=s++0::old.drop (s.length+1)
 full:s.length=old.length->new=s
 mem:∀b∈new,b=0\/b∈s\/b∈old
theorem R5 (w:World) (fb g n c:Nat) (s:List UInt8) (T:TypeId) (AC:List Value) (AB:List UInt8) (post:List Value) (AA:Value) (aE:Addr) (h:E4 w g T AC AB post) (hn:AB.length=n) (AI:n<=c) (AM:0<n) (AH:n<=512) (hl:s.length<=1048576)
  (AJ:w.heap[fb]?=some (.cells #[AA] 196 (0,0))) (AL:fb≠g) (hE:w.cell? ⟨3,0,none⟩=some (I7 aE)):
  Calls Tryz.prog 129 #[.pointer (some ⟨fb,0,none⟩),.slice (some ⟨g,AC.length,none⟩) n c,str s] w λe w'=>e= .returned (.tuple #[])/\∃AG AD,V9 AB s AG/\(s.length<=n->AD=AA)/\E4 w' g T AC AG post/\w'.heap[fb]?=some (.cells #[AD] 196 (0,0))/\Fr w.heap.size [g,fb] w w':=by
 have AE:∀w',Fr w.heap.size [g] w w'->w'.heap[fb]?=some (.cells #[AA] 196 (0,0)):=λw' f=>f.cells AJ (by simpa using AL) (.inr (by decide));rcases Nat.lt_trichotomy s.length n with hs|hs|hs
 ·refine(W8 w fb g n c s T AC AB post h hn AI AH hs).mono ?_
  rintro e w' ⟨rfl,h1,h2⟩;refine⟨rfl,_,AA,⟨?_,λ_=>rfl,λe=>by omega,?_⟩,λ_=>rfl,h1,AE _ h2,h2.wide (zB _) (by simp)⟩
  ·simp;omega
  ·intro b hb
   rcases List.mem_append.1 hb with hb|hb
   ·exact .inr (.inl hb)
   ·rcases List.mem_cons.1 hb with hb|hb
    ·exact .inl hb
    ·exact .inr (.inr (List.mem_of_mem_drop hb))
 ·refine(A3B w fb g n c s T AC AB post h hn AI AH hs).mono ?_
  rintro e w' ⟨rfl,h1,h2⟩;exact⟨rfl,s,AA,⟨by omega,λe=>by omega,λ_=>rfl,λb hb=> .inr (.inl hb)⟩,λ_=>rfl,h1,AE _ h2,h2.wide (zB _) (by simp)⟩
 ·refine(A3C w fb g n c s T AC AB post AA aE h hn AI AM AH hs hl AJ AL hE).mono ?_
  rintro e w' ⟨rfl,⟨AG,h1,h2,h3⟩,h4,h5⟩;exact⟨rfl,AG,I7 aE,⟨by omega,λe=>by omega,λe=>by omega,λb hb=>(h3 b hb).elim .inl (λh=> .inr (.inl h))⟩,λe=>by omega,h1,h4,h5⟩
def RD (r g n c i:Nat) (w:World):Prop:=∃p:Int,w.heap[r]?=some (.cells #[.slice (some ⟨g,0,none⟩) n c,.int .i64 i,.int .i64 p] 154 (0,0))
def A2q (r g n c i k d o:Nat) (bs:List UInt8) (cur:List Value) (t:TypeId) (w:World) (e:Ending) (w':World):Prop:=
 e= .returned (.tuple #[.int .i64 k,.nilIface])/\RD r g n c (i+k) w'/\w'.heap[d]?=some (.cells (splice cur o (Lib.byteCells ((bs.drop i).take k))).toArray t (0,0))/\Fr w.heap.size [r,d] w w'
theorem A8O (w:World) (g o AA AC:Nat) (a:Addr) (AB AD:Nat) (cur:List Value) (t:TypeId) (cs:List Value)
  (hg:w.heap[g]?=some (.cells cur.toArray t (0,0))) (hn:cs.length=Nat.min AB AA)
  (AG:∀j v,cs[j]?=some v->w.cell? (a.add j)=some v) (AE:o+cs.length<=cur.length) (h1:∀v∈cs,v.oneCell'=true):
  (Builtin.copy_ #[35,35] 3 #[.slice (some ⟨g,o,none⟩) AA AC,.slice (some a) AB AD]).run Tryz.prog w= .ok (goInt cs.length) (w.setRow g (splice cur o cs).toArray):=by
 have h:=run_copy_row (P:=Tryz.prog) w 35 35 3 5 g o AA AC a AB AD cur.toArray t cs Tryz.underlying35 (by kernel_rfl) hg hn AG (by simpa using AE) h1;rw[h,splice,QG]
theorem A3k (w:World) (r g n c i k d o m dc:Nat) (bs:List UInt8) (cur:List Value) (t:TypeId) (h:RD r g n c i w) (hi:i<n) (hk:k=min m (n-i)) (hm:m<4611686018427387904) (AT:n<4611686018427387904) (Aa:n<=c)
  (hb:bs.length=n) (AB:At w g 0 (Lib.byteCells bs)) (hd:w.heap[d]?=some (.cells cur.toArray t (0,0))) (AU:o+m<=cur.length) (AG:d≠r) (AV:g≠r):
  Calls Tryz.prog 340 #[.pointer (some ⟨r,0,none⟩),.slice (some ⟨d,o,none⟩) m dc] w (A2q r g n c i k d o bs cur t w):=by
 obtain⟨p,hr⟩:=h;have c0:w.cell? ⟨r,0,none⟩=some (.slice (some ⟨g,0,none⟩) n c):=by rw[zA hr];rfl
 have c1:w.cell? ⟨r,1,none⟩=some (.int .i64 i):=by rw[zA hr];rfl
 have c2:w.cell? ⟨r,2,none⟩=some (.int .i64 p):=by rw[zA hr];rfl
 have z1:w.frozen? ⟨r,1,none⟩=false:=zE hr 1;have z2:w.frozen? ⟨r,2,none⟩=false:=zE hr 2;have AY: (i:Int)<n:=by omega
 have AW: (n:Int)<=c:=by omega
 have Ab:¬c=i:=by omega
 have Hr:=A0 hr;have Hd:=A0 hd;have Hk:=A0 hk;clear hr hd hk;go_enter Tryz.func340,Tryz.ntmps340
 go_wp2_with fail
 go_quiet (fail)
 go_wp2_with fail
 have AC:=B6 (w:=w.drewN nq) (i:=2) (.int .i64 (-1)) Hr.out;have AE: ((w.drewN nq).setCell ⟨r,2,none⟩ (.int .i64 (-1))).heap[d]?=_:=(C0 _ AG).trans Hd.out;have AJ:At ((w.drewN nq).setCell ⟨r,2,none⟩ (.int .i64 (-1))) g 0 (Lib.byteCells bs):=AB.carry (C0 (w:=w.drewN nq) (a:=⟨r,2,none⟩) _ AV);have AR:Fr w.heap.size [r,d] w ((w.drewN nq).setCell ⟨r,2,none⟩ (.int .i64 (-1))):=((Fr.refl _ _ w).drewN nq).setCell (p:=⟨r,2,none⟩) (.inl (by simp)) _;generalize (w.drewN nq).setCell ⟨r,2,none⟩ (.int .i64 (-1))=w1 at*;have e0:w1.cell? ⟨r,0,none⟩=some (.slice (some ⟨g,0,none⟩) n c):=by rw[zA AC];rfl
 have e1:w1.cell? ⟨r,1,none⟩=some (.int .i64 i):=by rw[zA AC];rfl
 have AA: (Lib.byteCells ((bs.drop i).take k)).length=k:=by rw[zJ,zR,List.length_drop,hb,Hk.out];omega
 have AL:At w1.drew g i (Lib.byteCells ((bs.drop i).take k)):=by
  have:=(AJ.drop i).take k;rw[Nat.zero_add] at this;exact(show At w1 g i _ by simpa[Lib.byteCells] using this)
 have AH:=A8O w1.drew d o m dc ⟨g,i,none⟩ (n-i) (c-i) cur t (Lib.byteCells ((bs.drop i).take k)) AE (by rw[AA,Hk.out];exact Nat.min_comm _ _) AL.src (by rw[AA,Hk.out];omega) (Lib.byteCells_one _);rw[AA] at AH;have AM:=A0 AE;have AP:=A0 AC;have AX:=A0 AA;clear AC AE AJ AL AA c0 c1 c2 z1 z2 AB hb;go_region
 have AD: (w1.drew.setRow d (splice cur o (Lib.byteCells ((bs.drop i).take k))).toArray).heap[r]?=_:=(setRow_other w1.drew d r _ (Ne.symm AG)).trans AP.out;have AI: (w1.drew.setRow d (splice cur o (Lib.byteCells ((bs.drop i).take k))).toArray).heap[d]?=_:=setRow_heap w1.drew d _ _ t _ AM.out;have AS:Fr w.heap.size [r,d] w (w1.drew.setRow d (splice cur o (Lib.byteCells ((bs.drop i).take k))).toArray):=AR.drew.setRow (.inl (by simp)) _;clear AH;generalize w1.drew.setRow d (splice cur o (Lib.byteCells ((bs.drop i).take k))).toArray=w2 at*;have e1:w2.cell? ⟨r,1,none⟩=some (.int .i64 i):=by rw[zA AD];rfl
 have z1:w2.frozen? ⟨r,1,none⟩=false:=zE AD 1;have AZ:k<=n-i:=by rw[Hk.out];exact Nat.min_le_right _ _
 have AQ:=A0 AD;have AO:=A0 AI;clear AD AI;go_wp2_with fail
 go_ret2
 refine⟨rfl,⟨-1,?_⟩,(C0 _ AG).trans AO.out,AS.setCell (p:=⟨r,1,none⟩) (.inl (by simp)) _⟩;have:=B6 (i:=1) (.int .i64 (i+k)) AQ.out;rw[this];simp
theorem A4z (w:World) (a:Addr): (method 511 84 (.pointer (some a)) "Read").run Tryz.prog w= .ok (340,.pointer (some a)) w:=by kernel_rfl
theorem A3f (w:World) (a:Addr): (nilAhead 511 84 (.pointer (some a)) "Read").run Tryz.prog w= .ok (some false) w:=by kernel_rfl
theorem A3j (w:World) (r g n c i d o m dc:Nat) (bs:List UInt8) (cur:List Value) (t:TypeId) (h:RD r g n c i w) (AJ:0<m) (AP:m<=n-i) (AI:m<=dc) (AB:n<4611686018427387904) (AH:n<=c)
  (hb:bs.length=n) (AA:At w g 0 (Lib.byteCells bs)) (hd:w.heap[d]?=some (.cells cur.toArray t (0,0))) (AC:o+m<=cur.length) (AE:d≠r) (AG:g≠r):
  Calls Tryz.prog 236 #[.iface 84 (.pointer (some ⟨r,0,none⟩)),.slice (some ⟨d,o,none⟩) m dc,.int .i64 m] w (A2q r g n c i m d o bs cur t w):=by
 have HC:=A0 (A3k w.drew r g n c i m d o m dc bs cur t h (by omega) (by omega) (by omega) AB AH hb AA hd AC AE AG);have AD: (m:Int)<=dc:=by omega
 have AL: (0:Int)<m:=by omega
 have AM: (m:Int)<4611686018427387904:=by omega
 have AO:¬dc=0:=by omega
 have mr:=A4z;have nr:=A3f;clear h hb AA hd;go_enter Tryz.func236,Tryz.ntmps236
 go_wp2_with fail
 refine wp_loop_rounds 2 ?_;rw[rounds_succ];go_wp2_with fail
 go_region_held3 (λ_=>True) (trivial) (first|(go_at_call 340;refine HC.out.mono ?_;rintro e w1 ⟨rfl,h2,h3,h4⟩))
 go_wp2_with fail
 rw[rounds_succ];go_wp2_with fail
 go_ret2
 exact⟨rfl,h2,h3,(Fr.refl _ _ w).drew.trans h4⟩
theorem A5v (w:World) (r g n c i d o m dc:Nat) (bs:List UInt8) (cur:List Value) (t:TypeId) (h:RD r g n c i w) (AH:0<m) (AI:m<=n-i) (AD:m<=dc) (AB:n<4611686018427387904) (AJ:n<=c)
  (hb:bs.length=n) (AA:At w g 0 (Lib.byteCells bs)) (hd:w.heap[d]?=some (.cells cur.toArray t (0,0))) (AC:o+m<=cur.length) (AE:d≠r) (AG:g≠r):
  Calls Tryz.prog 196 #[.iface 84 (.pointer (some ⟨r,0,none⟩)),.slice (some ⟨d,o,none⟩) m dc] w (A2q r g n c i m d o bs cur t w):=by
 have HC:=A0 (A3j w r g n c i d o m dc bs cur t h AH AI AD AB AJ hb AA hd AC AE AG);clear h hb AA hd;go_enter Tryz.func196,Tryz.ntmps196
 go_wp2_with fail
 refine HC.out.mono ?_;rintro e w1 ⟨rfl,h2,h3,h4⟩;go_wp2_with fail
 go_ret2
 exact⟨rfl,h2,h3,h4⟩
theorem A1H (w:World) (rv:Value) (d:Option Addr) (dc:Nat) (aE:Addr) (hE:w.cell? ⟨0,0,none⟩=some (I7 aE)):
  Calls Tryz.prog 147 #[rv,.slice d 0 dc] w λe w'=>e= .returned (.tuple #[.int .i64 0,.nilIface])/\w=w':=by
 have en:=λw'=>W5 w' aE;go_enter Tryz.func147,Tryz.ntmps147
 go_wp2_with fail
 refine wp_loop_once ?_;go_wp2_with fail
 go_ret2
 exact⟨rfl,rfl⟩
theorem B1W (w:World) (a:Addr): (Instr.typeAssert (.iface 84 (.pointer (some a))) 145 267 true).run Tryz.prog w= .ok (.tuple #[.iface 84 (.pointer (some a)),.bool true]) w:=by kernel_rfl
theorem A5l (w:World) (rv:Value):
  Calls Tryz.prog 195 #[rv,.int .i64 0] w λe w'=>e= .returned (.tuple #[.int .i64 0,.nilIface])/\Below w.heap.size w w':=by
 go_enter Tryz.func195,Tryz.ntmps195
 go_wp2_with fail
 refine wp_loop_once ?_;go_wp2_with fail
 go_ret2
 exact⟨rfl,(zD _ _).alloc (zB _) _⟩
theorem A2x (w:World) (r:Nat) (aE:Addr) (hE:w.cell? ⟨0,0,none⟩=some (I7 aE)):
  Calls Tryz.prog 146 #[.iface 84 (.pointer (some ⟨r,0,none⟩)),.int .i64 0] w λe w'=>e= .returned (.nilIface)/\Below w.heap.size w w':=by
 have en:=λw'=>W5 w' aE;have ta:=B1W;have h0:=zC hE;go_enter Tryz.func146,Tryz.ntmps146
 go_wp2_with fail
 refine(A5l _ _).mono ?_;rintro e w1 ⟨rfl,hb⟩;have AA:w1.cell? ⟨0,0,none⟩=some (I7 aE):=(hb.cell h0).trans hE;clear hE;go_wp2_with fail
 go_ret
 exact⟨rfl,hb⟩
theorem A7o (w:World) (b:Nat) (v:Value) (n:Int) (f0:w.cell? ⟨b,0,none⟩=some v) (f1:w.cell? ⟨b,1,none⟩=some (.int .i64 n)): (method 511 119 (.pointer (some ⟨b,0,none⟩)) "tapearchives/pub/gotar.logicalRemaining").run Tryz.prog w=
  .ok (343,.agg #[v,.int .i64 n]) w:=by
 have h: (method 511 119 (.pointer (some ⟨b,0,none⟩)) "tapearchives/pub/gotar.logicalRemaining").run Tryz.prog w=
  ((loadVar 121 ⟨b,0,none⟩).bind λv=>pure (343,v)).run Tryz.prog w:=by kernel_rfl
 rw[h]
 have hl: (loadVar 121 ⟨b,0,none⟩).run Tryz.prog w= .ok (.agg #[v,.int .i64 n]) w:=by
  simp[loadVar,go_sem,f0,f1]
 exact(Sem.run_bind ..).trans (by rw[hl];rfl)
theorem A4Y (w:World) (a:Addr): (method 511 75 (.pointer (some a)) "Write").run Tryz.prog w= .ok (284,.pointer (some a)) w:=by kernel_rfl
theorem A4m (j:Nat) (v:Value) (n:Nat) (hn:n<=512) (h: (Lib.byteCells (List.replicate n 0))[j]?=some v):Tryz.zeroCells132[j]?=some v:=by
 have hj:j<n:=by
  have:=(zM.1 h).1;simpa[Lib.byteCells_length] using this
 rw[B0N,List.getElem?_toArray]
 have e:∀m,j<m->(Lib.byteCells (List.replicate m 0))[j]?=some (.int .u8 0):=λm hm=>by
  simp[Lib.byteCells,hm]
 rw[e n hj] at h;rw[A0d,e 512 (by omega)];exact h
theorem A7X (B b:Nat) (bs:List UInt8) (n:Nat) (w:World) (o:Obj) (h:W3 B b bs w) (AB:B<=w.heap.size) (hn:n<=512) (AA:bs.length+n<=140737488355328):
  Calls Tryz.prog 284 #[.pointer (some ⟨b,0,none⟩),.slice (some ⟨w.heap.size+1,0,none⟩) n 512] ((w.alloc o).alloc (.cells Tryz.zeroCells132 132)).drew λe w'=>
   e= .returned (.tuple #[.int .i64 n,.nilIface])/\W3 B b (bs++List.replicate n 0) w'/\Fr B [b] w w':=by
 have hs: (w.alloc o).heap.size=w.heap.size+1:=Array.size_push ..;have AC: ((w.alloc o).alloc (.cells Tryz.zeroCells132 132)).heap.size=w.heap.size+1+1:=by rw[<-hs];exact Array.size_push ..
 refine(A2u B b bs (List.replicate n 0) _ 0 n 512 _ (((h.alloc _).alloc _).drew) ?_ ?_ ?_ ?_ AA).mono ?_
 ·show B<=((w.alloc o).alloc (.cells Tryz.zeroCells132 132)).heap.size;omega
 ·simp
 ·have:=h.lt;omega
 ·refine At.of_heap (cur:=Tryz.zeroCells132) (T:=132) (fz:=(0,0)) ?_ (λj v hj=>by rw[Nat.zero_add];exact A4m j v n hn hj)
  exact heap_alloc2_new w _ _
 ·rintro e w' ⟨rfl,h1,h2⟩
  exact⟨rfl,h1,((((Fr.refl B [b] w).alloc _).alloc _).drew).trans h2⟩
def FW (fw b:Nat) (nb:Int) (w:World):Prop:=w.heap[fw]?=some (.cells #[.iface 75 (.pointer (some ⟨b,0,none⟩)),.int .i64 nb] 121 (0,0))
def TW (tw b fw:Nat) (AD:Int) (AB AA:List Value) (AC:Value) (w:World):Prop:=
 w.heap[tw]?=some (.cells (J3 (.iface 75 (.pointer (some ⟨b,0,none⟩))) (.int .i64 AD) (.iface 119 (.pointer (some ⟨fw,0,none⟩))) AB AA AC) 134 (0,0))/\AB.length=20/\AA.length=512
theorem V7 {w:World} {tw:Nat} {wv AE AA AC:Value} {AD AB:List Value} (hh:AD.length=20) (hk:AB.length=512) (hW:w.heap[tw]?=some (.cells (J3 wv AE AA AD AB AC) 134 (0,0))):
  w.cell? ⟨tw,0,none⟩=some wv/\w.cell? ⟨tw,1,none⟩=some AE/\w.cell? ⟨tw,535,none⟩=some AC/\w.frozen? ⟨tw,1,none⟩=false/\w.frozen? ⟨tw,535,none⟩=false:=
 ⟨by rw[zA hW];exact A8Z ..,by rw[zA hW];exact A8a ..,by rw[zA hW];exact A5g _ _ _ _ _ _ hh hk,zE hW 1,zE hW 535⟩
theorem B2J (w:World) (B tw b fw AA:Nat) (AQ:AA<512) (bs:List UInt8) (AH AD:List Value)
  (hB:W3 B b bs w) (AJ:B<=w.heap.size) (hW:TW tw b fw AA AH AD .nilIface w) (hf:FW fw b 0 w) (AC:bs.length+AA<=140737488355328)
  :Calls Tryz.prog 62 #[.pointer (some ⟨tw,0,none⟩)] w λe w'=>e= .returned (.nilIface)/\W3 B b (bs++List.replicate AA 0) w'/\TW tw b fw 0 AH AD .nilIface w'/\Fr B [b,tw] w w':=by
 obtain⟨hW,hh,hk⟩:=hW;have c0:w.cell? ⟨tw,0,none⟩=some (.iface 75 (.pointer (some ⟨b,0,none⟩))):=by rw[zA hW];exact A8Z ..
 have c1:w.cell? ⟨tw,1,none⟩=some (.int .i64 AA):=by rw[zA hW];exact A8a ..
 have c2:w.cell? ⟨tw,2,none⟩=some (.iface 119 (.pointer (some ⟨fw,0,none⟩))):=by rw[zA hW];exact A3U ..
 have aA:w.cell? ⟨tw,535,none⟩=some .nilIface:=by rw[zA hW];exact A5g _ _ _ _ _ _ hh hk
 have m1:=A7o w fw (.iface 75 (.pointer (some ⟨b,0,none⟩))) 0 (by rw[zA hf];rfl) (by rw[zA hf];rfl);have m2:=A4Y;have AP: (0:Int)<=AA:=by omega
 have AR: (AA:Int)<=512:=by omega
 have AL:tw≠b:=hB.ne hW (by decide);have AM:tw∉[b]:=by simpa using AL
 have AS:tw<w.heap.size:=A8 hW;go_enter Tryz.func62,Tryz.ntmps62
 go_wp2
 go_region_held3 (λw'=>w'.cell? ⟨tw,0,none⟩=some (.iface 75 (.pointer (some ⟨b,0,none⟩)))/\w'.cell? ⟨tw,1,none⟩=some (.int .i64 AA)) (first|go_keep|(refine And.intro ?_ ?_<;>assumption))
  (first|(go_at_call 284;refine(A7X B b bs AA w _ hB AJ (by omega) AC).mono ?_;rintro e w1 ⟨rfl,AI,AE⟩;have AB:=AE.cells hW AM (.inr (by decide));obtain⟨d0,d1,aB,z1,AO⟩:=V7 hh hk AB;have AG:=B6 (i:=535) .nilIface AB;rw[A0r _ _ _ _ _ _ hh hk] at AG;obtain⟨e0,e1,-,-,-⟩:=V7 hh hk AG))
 go_wp2
 go_ret
 refine⟨rfl,?_,⟨?_,hh,hk⟩,?_⟩
 ·exact((AI.setCell (p:=⟨tw,535,none⟩) AB (by decide) (by decide) _).setCell (p:=⟨tw,1,none⟩) (B6 _ AB) (by decide) (by decide) _)
 ·have h2:=B6 (i:=1) (.int .i64 0) (B6 (i:=535) .nilIface AB)
  rw[A0r _ _ _ _ _ _ hh hk,A4M] at h2;exact h2
 ·exact((AE.wide (zB _) (by simp)).setCell (p:=⟨tw,535,none⟩) (.inl (by simp)) _).setCell (p:=⟨tw,1,none⟩) (.inl (by simp)) _
theorem O1 (w:World) (g o c:Nat) (l:List UInt8) (h:At w g o (Lib.byteCells l)): (convert 35 9 (.slice (some ⟨g,o,none⟩) l.length c)).run Tryz.prog w= .ok (.string ⟨l.toArray⟩) w:=
 run_convert_bytes_back w 35 9 5 ⟨g,o,none⟩ c l Tryz.underlying35 Tryz.underlying5 Tryz.underlying9 (λj hj=>h.src j _ (by simp[Lib.byteCells,hj]))
theorem A1K (w:World) (g1 o1 n1 c1 g2 o2 n2 c2:Nat) (xs ys:List UInt8) (h1:At w g1 o1 (Lib.byteCells xs)) (h2:At w g2 o2 (Lib.byteCells ys)) (e1:xs.length=n1) (e2:ys.length=n2):
  Calls Tryz.prog 197 #[.slice (some ⟨g1,o1,none⟩) n1 c1,.slice (some ⟨g2,o2,none⟩) n2 c2] w λe w'=>e= .returned (.bool (xs==ys))/\w=w':=by
 subst e1;subst e2;refine(Tryz.bytes_Equal_strs _ _ _ _ w (O1 w g1 o1 c1 xs h1) (O1 w g2 o2 c2 ys h2)).mono ?_;rintro e w' ⟨rfl,rfl⟩;simp
theorem A5u (rv AE AA AD:Value) (AC AB:List Value) (k:AC.length=512) (k2:AB.length=512):
  splice (rv::AE::AA::(AC++[AD])) 3 AB=rv::AE::AA::(AB++[AD]):=by
 simp[splice,k2,k]
def TR (tr r:Nat) (AD:Int) (AA:Value) (AB:List Value) (AC:Value) (w:World):Prop:=
 w.heap[tr]?=some (.cells (N8 (.iface 84 (.pointer (some ⟨r,0,none⟩))) (.int .i64 AD) AA AB AC) 152 (0,0))/\AB.length=512
theorem O4 {w:World} {tr:Nat} {rv AD AA AC:Value} {AB:List Value} (hk:AB.length=512) (hW:w.heap[tr]?=some (.cells (N8 rv AD AA AB AC) 152 (0,0))):
  w.cell? ⟨tr,0,none⟩=some rv/\w.cell? ⟨tr,1,none⟩=some AD/\w.cell? ⟨tr,2,none⟩=some AA/\w.cell? ⟨tr,515,none⟩=some AC/\w.frozen? ⟨tr,1,none⟩=false/\w.frozen? ⟨tr,2,none⟩=false/\w.frozen? ⟨tr,515,none⟩=false:=
 ⟨by rw[zA hW];exact B3C ..,by rw[zA hW];exact B3D ..,by rw[zA hW];exact B3E ..,by rw[zA hW];exact A5I _ _ _ _ _ hk,zE hW 1,zE hW 2,zE hW 515⟩
def A4h (tr r g n c i:Nat) (AC:Int) (AA:Value) (bs:List UInt8) (AB:Value) (w:World) (e:Ending) (w':World):Prop:=
 e= .returned (.tuple #[.int .i64 512,.nilIface])/\RD r g n c (i+512) w'/\TR tr r AC AA (Lib.byteCells ((bs.drop i).take 512)) AB w'/\Fr w.heap.size [r,tr] w w'
theorem A2I (w:World) (tr r g n c i:Nat) (AE:Int) (AA AD:Value) (bs:List UInt8) (AG:List Value) (h:RD r g n c i w) (ht:TR tr r AE AA AG AD w) (hi:i+512<=n) (AB:n<4611686018427387904) (AI:n<=c)
  (hb:bs.length=n) (AC:At w g 0 (Lib.byteCells bs)) (AH:g≠r):
  Calls Tryz.prog 196 #[.iface 84 (.pointer (some ⟨r,0,none⟩)),.slice (some ⟨tr,3,none⟩) 512 512] w (A4h tr r g n c i AE AA bs AD w):=by
 obtain⟨ht,hk⟩:=ht
 have AJ:tr≠r:=by
  rintro rfl;obtain⟨p,hr⟩:=h;rw[ht] at hr;cases hr
 refine(A5v w r g n c i tr 3 512 512 bs _ 152 h (by omega) (by omega) (zB _) AB AI hb AC ht (by simp[hk]) AJ AH).mono ?_;rintro e w' ⟨rfl,h2,h3,h4⟩;have hl: (Lib.byteCells ((bs.drop i).take 512)).length=512:=by rw[zJ,zR,List.length_drop,hb];omega
 rw[A5u _ _ _ _ _ _ hk hl] at h3;exact⟨rfl,h2,⟨h3,hl⟩,h4⟩
theorem TR.at {tr r:Nat} {AC:Int} {AA AB:Value} {l:List UInt8} {w:World} (h:TR tr r AC AA (Lib.byteCells l) AB w):At w tr 3 (Lib.byteCells l):=
 At.of_heap h.1 (λj v hj=>by rw[A9R _ _ _ _ _ h.2 j (by have:=(zM.1 hj).1;rw[h.2] at this;exact this)];exact hj)
theorem RD.alloc {r g n c i:Nat} {w:World} (h:RD r g n c i w) (o:Obj):RD r g n c i (w.alloc o):=by
 obtain⟨p,hr⟩:=h;exact⟨p,(zO w o r (A8 hr)).trans hr⟩
theorem A3F (w:World):At (w.alloc (.cells Tryz.zeroCells132 132)).drew w.heap.size 0 (Lib.byteCells (List.replicate 512 0)):=
 At.of_heap (T:=132) (fz:=(0,0)) (zI w _) (λj v hj=>by rw[Nat.zero_add];exact A4m j v 512 (zB _) hj)
theorem At.frame {w w':World} {g o:Nat} {cs:List Value} (h:At w g o cs) {B:Nat} {S:List Nat} (f:Fr B S w w') (hB:w.heap.size<=B) (hg:g∉S):At w' g o cs:=λj v hj=>
 f.cell (h j v hj) hg (zL (zC (h j v hj)) hB)
theorem A5K (w:World) (tr r g n c i:Nat) (AD:Int) (AA AC:Value) (bs:List UInt8) (AM:List Value) (aE:Addr) (h:RD r g n c i w) (ht:TR tr r AD AA AM AC w) (hi:i+1024<=n) (AE:n<4611686018427387904) (AQ:n<=c)
  (hb:bs.length=n) (AG:At w g 0 (Lib.byteCells bs)) (AJ:g∉[r,tr]) (hz: (bs.drop i).take 1024=List.replicate 1024 0) (hE:w.cell? ⟨0,0,none⟩=some (I7 aE)) (AT:0∉[r,tr]):
  Calls Tryz.prog 148 #[.pointer (some ⟨tr,0,none⟩)] w λe w'=>e= .returned (.tuple #[.pointer none,.pointer none,I7 aE])/\Fr w.heap.size [r,tr] w w'/\∃AH,TR tr r AD AA AH AC w':=by
 have AP:g≠r:=by simp at AJ;exact AJ.1
 have HC:=A0 (A2I w.drew tr r g n c i AD AA AC bs AM h ht (by omega) AE AQ hb AG AP);have AU:=zC hE;obtain⟨c0,-⟩:=O4 ht.2 ht.1
 have AY: (bs.drop i).take 512=List.replicate 512 0:=by
  have:=congrArg (List.take 512) hz;simpa[List.take_take] using this
 have AZ: (bs.drop (i+512)).take 512=List.replicate 512 0:=by
  have:=congrArg (List.drop 512) hz;simpa[List.drop_take,List.drop_drop] using this
 go_enter Tryz.func148,Tryz.ntmps148
 go_wp2_with fail
 go_region_held3 (λw'=>w'.cell? ⟨tr,0,none⟩=some (.iface 84 (.pointer (some ⟨r,0,none⟩)))) (first|go_keep|assumption) (first|(go_at_call 196;refine HC.out.mono ?_;rintro e w1 ⟨rfl,h2,h3,h4⟩;obtain⟨d0,-⟩:=O4 h3.2 h3.1))
 go_wp2_with fail
 have AB:=h3.at;rw[AY] at AB;have Ab:w.heap.size<=w1.heap.size:=h4.size;have HE:=A0 (A1K (w1.alloc (.cells Tryz.zeroCells132 132)).drew tr 3 512 512 w1.heap.size 0 512 512 (List.replicate 512 0) (List.replicate 512 0) (AB.carry (zO w1 _ tr (A8 h3.1))) (A3F w1) (by simp) (by simp));clear AB;go_region_held3 (λ_=>True) (trivial) (first|(go_at_call 197;refine HE.out.mono ?_;rintro e w2 ⟨rfl,rfl⟩))
 have AI:Fr w.heap.size [r,tr] w (w1.alloc (.cells Tryz.zeroCells132 132)).drew:=(((Fr.refl _ _ w).drew.trans h4).alloc _).drew;have AL:TR tr r AD AA (Lib.byteCells ((bs.drop i).take 512)) AC (w1.alloc (.cells Tryz.zeroCells132 132)).drew:=⟨(zO w1 _ tr (A8 h3.1)).trans h3.1,h3.2⟩;have AV:RD r g n c (i+512) (w1.alloc (.cells Tryz.zeroCells132 132)).drew:=h2.alloc _;generalize (w1.alloc (.cells Tryz.zeroCells132 132)).drew=w2 at*;obtain⟨e0,-⟩:=O4 AL.2 AL.1;have AW:At w2 g 0 (Lib.byteCells bs):=AG.frame AI (zB _) AJ;have AR:=A0 (A2I w2.drew tr r g n c (i+512) AD AA AC bs _ AV AL (by omega) AE AQ hb AW AP);clear d0 h3 h2 h4;go_wp2_with fail
 go_region_held3 (λw'=>w'.cell? ⟨tr,0,none⟩=some (.iface 84 (.pointer (some ⟨r,0,none⟩)))) (first|go_keep|assumption) (first|(go_at_call 196;refine AR.out.mono ?_;rintro e w3 ⟨rfl,h2,h3,h4⟩;obtain⟨d0,-⟩:=O4 h3.2 h3.1))
 go_wp2_with fail
 have AB:=h3.at;rw[AZ] at AB;have AS:=A0 (A1K (w3.alloc (.cells Tryz.zeroCells132 132)).drew tr 3 512 512 w3.heap.size 0 512 512 (List.replicate 512 0) (List.replicate 512 0) (AB.carry (zO w3 _ tr (A8 h3.1))) (A3F w3) (by simp) (by simp));clear AB;go_region_held3 (λ_=>True) (trivial) (first|(go_at_call 197;refine AS.out.mono ?_;rintro e w4 ⟨rfl,rfl⟩))
 have AO:Fr w.heap.size [r,tr] w (w3.alloc (.cells Tryz.zeroCells132 132)).drew:=((AI.drew.trans (h4.wide AI.size (λk hk _=>hk))).alloc _).drew;have AX:TR tr r AD AA (Lib.byteCells ((bs.drop (i+512)).take 512)) AC (w3.alloc (.cells Tryz.zeroCells132 132)).drew:=⟨(zO w3 _ tr (A8 h3.1)).trans h3.1,h3.2⟩;clear d0 h3 h2 h4;generalize (w3.alloc (.cells Tryz.zeroCells132 132)).drew=w4 at*;have Aa:=AO.cell hE AT AU;clear hE;go_wp2_with fail
 go_quiet (fail)
 go_wp2_with fail
 refine bodyPost_ret (results_tmp3 rfl _ _ _) rfl ?_;exact⟨rfl,AO.drewN _,_,AX⟩
theorem B5e (w:World):Calls Tryz.prog 260 #[.int .i64 8] w λe w'=>e= .returned (.bool true)/\w=w':=by
 go_enter Tryz.func260,Tryz.ntmps260
 go_wp2
 go_ret
 exact⟨rfl,rfl⟩
theorem tz8 (w:World) (AA:w.cell? ⟨15,7,none⟩=some (.int .u8 3)):Calls Tryz.prog 289 #[.int .u64 8] w λe w'=>e= .returned (.int .i64 3)/\w=w':=by
 have hv:IntKind.u64.wrap (bits BinOp.and IntKind.u64 8 (IntKind.u64.wrap (-8))*285870213051353865)/288230376151711744=7:=by kernel_rfl
 go_enter Tryz.func289,Tryz.ntmps289
 go_wp2
 go_ret
 exact⟨rfl,rfl⟩
theorem B8s (w:World) (AA:w.cell? ⟨15,7,none⟩=some (.int .u8 3)):Calls Tryz.prog 261 #[.int .u64 8] w λe w'=>e= .returned (.int .i64 3)/\w=w':=by
 have h:=tz8 w AA;go_enter Tryz.func261,Tryz.ntmps261
 go_wp2_with fail
 refine h.mono ?_;rintro e w1 ⟨rfl,rfl⟩;go_wp2_with fail
 go_ret
 exact⟨rfl,rfl⟩
def od (k:Nat):UInt8:=UInt8.ofNat (48+k)
def E3 (u:Nat):List UInt8:=if u<8 then [od u] else E3 (u/8)++[od (u% 8)]
termination_by u
decreasing_by omega
theorem U4 {u:Nat} (h:u<8):E3 u=[od u]:=by rw[E3,if_pos h]
theorem A0L {u:Nat} (h:8<=u):E3 u=E3 (u/8)++[od (u% 8)]:=by rw[E3,if_neg (by omega)]
theorem A1T:∀ (k u:Nat),u<8^ (k+1)->(E3 u).length<=k+1:=by
 intro k;induction k with
 |zero=>intro u h;rw[U4 (by omega)];simp
 |succ k ih=>
  intro u h;by_cases h8:u<8
  ·rw[U4 h8];simp
  ·rw[A0L (by omega),zH]
   have:u/8<8^ (k+1):=by rw[Nat.div_lt_iff_lt_mul (by omega),<-Nat.pow_succ];exact h
   have:=ih _ this;simp;omega
def A7e:ByteArray:=⟨#[48,49,50,51,52,53,54,55,56,57,97,98,99,100,101,102,103,104,105,106,107,108,109,110,111,112,113,114,115,116,117,118,119,120,121,122]⟩
theorem B0A (k:Nat) (h:k<8) (h2:k<A7e.size):A7e[k]'h2=od k:=by
 match k,h with
 |0,_=>rfl
 |1,_=>rfl
 |2,_=>rfl
 |3,_=>rfl
 |4,_=>rfl
 |5,_=>rfl
 |6,_=>rfl
 |7,_=>rfl
theorem B8C (v:Nat) (h:v<9223372036854775808):bits .and .u64 (v:Int) 7=((v% 8:Nat):Int):=by
 rw[show(7:Int)=((7:Nat):Int) from rfl,u64_and_nat v 7 (by omega) (by omega)];rw[show 7=2^3-1 from rfl,Nat.and_two_pow_sub_one_eq_mod]
theorem B4m:Tryz.zeroCells336=([]++Lib.byteCells (List.replicate 65 0)++[]).toArray:=by kernel_rfl
theorem A0n (u:Nat):1<=(E3 u).length:=by rw[E3];split<;>simp
theorem B5N (z:Int) (k:Nat) (hz:z.toNat=k) (hk:k<8) (h2:z.toNat< (⟨#[48,49,50,51,52,53,54,55,56,57,97,98,99,100,101,102,103,104,105,106,107,108,109,110,111,112,113,114,115,116,117,118,119,120,121,122]⟩:ByteArray).size): (⟨#[48,49,50,51,52,53,54,55,56,57,97,98,99,100,101,102,103,104,105,106,107,108,109,110,111,112,113,114,115,116,117,118,119,120,121,122]⟩:ByteArray)[z.toNat]'h2=od k:=by subst hz;exact B0A _ hk h2
theorem A7g (u:Nat) (w:World) (hu:u<9223372036854775808) (AD:w.cell? ⟨15,7,none⟩=some (.int .u8 3)):
  Calls Tryz.prog 224 #[.slice none 0 0,.int .u64 u,.int .i64 8,.bool false,.bool false] w λe w'=>e= .returned (.tuple #[.slice none 0 0,str (E3 u)])/\Below w.heap.size w w':=by
 have hp:=λw=>B5e w;have AC: (w.alloc (.cells (Tryz.zeroCells336) 336)).cell? ⟨15,7,none⟩=some (.int .u8 3):=((zD w.heap.size w).alloc (zB _) _).cell (zC AD)|>.trans AD;have ht:=B8s _ AC;have hS:E4 (w.alloc (.cells (Tryz.zeroCells336) 336)) w.heap.size 336 [] (List.replicate 65 0) []:=by rw[E4,<-B4m];exact zI w _
 have AI:=(zD w.heap.size w).alloc (zB _) (.cells (Tryz.zeroCells336) 336);have AL:=A1T 20 u (by omega);go_enter Tryz.func224,Tryz.ntmps224
 go_wp2_with fail
 refine(hp _).mono ?_;rintro e w1 ⟨rfl,rfl⟩;go_wp2_with fail
 refine ht.mono ?_;rintro e w1 ⟨rfl,rfl⟩;go_wp2_with fail
 generalize w.alloc (.cells (Tryz.zeroCells336) 336)=w1 at*;go_loopw [1,13] (λa b wr=>∃ (v i:Nat) (AA:List UInt8),a= .int .u64 v/\b= .int .i64 i/\E3 u=E3 v++AA/\i+AA.length=65/\v<9223372036854775808/\E4 wr w.heap.size 336 [] (List.replicate i 0++AA) []/\Below w.heap.size w wr) (λa _ _=>(intOf a).toNat)
 case atStart=>exact⟨u,65,[],rfl,rfl,by simp,rfl,hu,by simpa using hS,AI⟩
 case round=>
  obtain⟨v,i,AA,rfl,rfl,he,hi,hv,hs,hb⟩:=hrel;have AT:=A0n v;have hl: (E3 u).length=(E3 v).length+AA.length:=by rw[he,zH]
  obtain⟨m,rfl⟩:∃m,i=m+1:=⟨i-1,by omega⟩;have hm:m<65:=by omega
  have hx: (List.replicate (m+1) (0:UInt8)++AA)[m]?=some 0:=by rw[zX (by simp)];simp
  have c1:=hs.cell m 0 hx;have z1:=hs.frozen m;simp only[List.length_nil,Nat.zero_add] at c1 z1
  have AB:∀d,(List.replicate (m+1) (0:UInt8)++AA).set m d=List.replicate m 0++d::AA:=λd=>by
   rw[List.replicate_succ',QG,List.set_append_right _ _ (by simp)];simp
  have h7:=B8C v hv;have AU:IntKind.i64.wrap (((m+1:Nat):Int)-1)=(m:Int):=by rw[zQ _ (by omega)];omega
  have AP: (m:Int)<65:=by omega
  have Hs:=A0 hs;have He:=A0 he;clear hs he hx hl;by_cases h8:8<=v
  ·have AH: (8:Int)<=v:=by omega
   have hd:=B5N (v% 8:Int) (v% 8) (by omega) (by omega);go_wp2
   go_roundw
   case rel=>
    refine⟨v/8,m,od (v% 8)::AA,by go_num,rfl,by rw[He.out,A0L h8,QG];rfl,by simp;omega,by omega,?_,hb.setCell (zB _) _⟩;have h2:=Hs.out.set m (by simp;omega) (od (v% 8));rw[AB] at h2;simp only[List.length_nil,Nat.zero_add] at h2;exact h2
   case measure=>simp[intOf];omega
  ·have AH:¬(8:Int)<=v:=by omega
   have AM: (v:Int)<36:=by omega
   have hd:∀h2:v< (⟨#[48,49,50,51,52,53,54,55,56,57,97,98,99,100,101,102,103,104,105,106,107,108,109,110,111,112,113,114,115,116,117,118,119,120,121,122]⟩:ByteArray).size,(⟨#[48,49,50,51,52,53,54,55,56,57,97,98,99,100,101,102,103,104,105,106,107,108,109,110,111,112,113,114,115,116,117,118,119,120,121,122]⟩:ByteArray)[v]'h2=od v:=λh2=>B0A v (by omega) h2;have AO:Tryz.prog.arrayLen 336=65:=by kernel_rfl
   have AQ: (m:Int)<=65:=by omega
   have AR:¬m=65:=by omega
   have AS:¬65=m:=by omega
   have h2:=Hs.out.set m (by simp;omega) (od v);rw[AB] at h2;simp only[List.length_nil,Nat.zero_add] at h2;have AE:Below w.heap.size w (wr.setCell ⟨w.heap.size,m,none⟩ (.int .u8 (od v).toNat)):=hb.setCell (zB _) _;have e1:E3 u=od v::AA:=by rw[He.out,U4 (by omega)];rfl
   have e2:65-m=(od v::AA).length:=by simp;omega
   have ha:At (wr.setCell ⟨w.heap.size,m,none⟩ (.int .u8 (od v).toNat)) w.heap.size m (Lib.byteCells (od v::AA)):=by
    refine At.of_heap h2 λj x hj=> ?_;rw[List.getElem?_toArray,List.nil_append,QH,Lib.byteCells_append,zT (by simp[Lib.byteCells_length])];simpa[Lib.byteCells_length] using hj
   have AJ:=O1 _ w.heap.size m (65-m) (od v::AA) ha;rw[<-e2,<-e1] at AJ;have AG:=A0 AE;clear AE ha h2 e1 e2 hb h7;go_wp2
   go_ret2
   exact⟨rfl,AG.out⟩
theorem A7h (x:Int) (w:World) (h0:0<=x) (hu:x<9223372036854775808) (AA:w.cell? ⟨15,7,none⟩=some (.int .u8 3)):
  Calls Tryz.prog 168 #[.int .i64 x,.int .i64 8] w λe w'=>e= .returned (str (E3 x.toNat))/\Below w.heap.size w w':=by
 obtain⟨u,rfl⟩:∃u:Nat,x=u:=⟨x.toNat,by omega⟩;have h:=A7g u w (by omega) AA;have h1:¬(u:Int)<0:=by omega
 go_enter Tryz.func168,Tryz.ntmps168
 go_wp2_with fail
 refine h.mono ?_;rintro e w1 ⟨rfl,hb⟩;go_wp2_with fail
 go_ret
 exact⟨rfl,hb⟩
theorem A4t (x:Int) (w:World) (h0:0<=x) (hu:x<9223372036854775808) (AA:w.cell? ⟨15,7,none⟩=some (.int .u8 3)):
  Calls Tryz.prog 101 #[.int .i64 x,.int .i64 8] w λe w'=>e= .returned (str (E3 x.toNat))/\Below w.heap.size w w':=by
 have h:=A7h x w h0 hu AA;go_enter Tryz.func101,Tryz.ntmps101
 go_wp2_with fail
 refine h.mono ?_;rintro e w1 ⟨rfl,hb⟩;go_wp2_with fail
 go_ret
 exact⟨rfl,hb⟩
end Go.Proofs.YtkanmkcojlefbaaGreatDoor
