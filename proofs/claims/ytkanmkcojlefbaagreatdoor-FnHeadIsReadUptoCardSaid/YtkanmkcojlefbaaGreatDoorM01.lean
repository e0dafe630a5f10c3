/-
  Part of the proof; holds the texts PlainTime, SMap, PlainRec, Glob, Ascii.
-/
import Derived.Test.YtkanmkcojlefbaaGreatDoorM00
import Derived.Maps.Ext
import Derived.Lib.LaidTab
set_option maxRecDepth 100000
set_option linter.unusedSimpArgs false
set_option linter.unusedVariables false
namespace Go.Proofs.YtkanmkcojlefbaaGreatDoor
open Go.Lib
def C9 (s n:Int):List UInt8:=
 if n=0 then itoa s else if s<0 then L5 (45::(itoa (-(s+1))++46::R7 (1000000000-n).toNat)) 48 else L5 (itoa s++46::R7 n.toNat) 48
theorem A2n (a b:List UInt8) (x c:UInt8) (h:x≠c):L5 (a++x::b) c=a++x::L5 b c:=by
 have e: (a++x::b).reverse=b.reverse++(x::a.reverse):=by simp
 rw[L5,e,List.dropWhile_append];have e2:List.dropWhile (·==c) (x::a.reverse)=x::a.reverse:=by rw[List.dropWhile_cons_of_neg (by simp[h])]
 split
 ·rename_i hh
  have:List.dropWhile (·==c) b.reverse=[]:=List.isEmpty_iff.1 hh;rw[e2,L5,this];simp
 ·simp[L5]
theorem A5m (l:List UInt8) (c:UInt8):List.replicate (l.length- (l.dropWhile (·==c)).length) c++l.dropWhile (·==c)=l:=by
 induction l with
 |nil=>rfl
 |cons x r ih=>
  by_cases h:x=c
  ·subst h
   rw[List.dropWhile_cons_of_pos (by simp)];have AA: (r.dropWhile (·==x)).length<=r.length:=(List.dropWhile_sublist _).length_le;rw[show(x::r).length- (r.dropWhile (·==x)).length=(r.length- (r.dropWhile (·==x)).length)+1 by rw[List.length_cons];omega,List.replicate_succ,List.cons_append,ih]
  ·rw[List.dropWhile_cons_of_neg (by simp[h])];simp
theorem A2Q (l:List UInt8) (c:UInt8):L5 l c++List.replicate (l.length- (L5 l c).length) c=l:=by
 have:=congrArg List.reverse (A5m l.reverse c);rw[List.reverse_append,List.reverse_reverse,List.reverse_replicate,List.length_reverse] at this;simpa[L5] using this
theorem A3p (l:List UInt8) (c:UInt8): (L5 l c).length<=l.length:=by
 have:=congrArg List.length (A2Q l c);rw[List.length_append] at this;omega
theorem B1b {l:List UInt8} {c x:UInt8} (h:x∈L5 l c):x∈l:=by
 rw[<-A2Q l c];exact List.mem_append_left _ h
theorem A7q (n:Nat):∀c∈R7 n,48<=c.toNat/\c.toNat<=57:=by
 intro c hc;rcases List.mem_append.1 hc with hc|hc
 ·rw[List.eq_of_mem_replicate hc];decide
 ·exact Y1 n c hc
theorem A6x (n:Nat) (h:n<1000000000) (h0:n≠0):L5 (R7 n) 48≠ []:=by
 intro e;have h1:=A2Q (R7 n) 48;rw[e,List.nil_append] at h1;have h2:=A0T n h;have h3:=A0T 0 (by omega);have e0:R7 0=List.replicate 9 48:=by rw[R7,decDigits_one (by omega)];rfl
 rw[P6 n h,List.length_nil] at h1;rw[<-h1,<-e0,h3] at h2;injection h2 with h2
 omega
structure A9v (l ss p:List UInt8) (x y:Int):Prop where
 eq:l=ss++46::p
 nodot: (46:UInt8)∉ss
 whole:parseIntB 64 ss= .ok x
 ne:p≠ []
 len:p.length<=9
 dig:∀c∈p,48<=c.toNat/\c.toNat<=57
 part:parseIntB 64 (p++List.replicate (9-p.length) 48)= .ok y
 y0:0<y
 y1:y<1000000000
theorem A2H (s:Int) (h:0<=s):itoa s=decDigits s.toNat:=by rw[itoa,if_neg (by omega)]
theorem A6H (u:Nat): (46:UInt8)∉decDigits u:=λh=>by
 have:=(Y1 u _ h).1;revert this;decide
theorem A2f (s:Int): (46:UInt8)∉itoa s:=by
 rw[itoa];split
 ·rw[List.mem_cons];rintro(h|h)
  ·revert h;decide
  ·exact A6H _ h
 ·exact A6H _
theorem A3J (ss:List UInt8) (n:Nat) (x:Int) (hn:n<1000000000) (h0:n≠0) (hd: (46:UInt8)∉ss) (hw:parseIntB 64 ss= .ok x):
  A9v (L5 (ss++46::R7 n) 48) ss (L5 (R7 n) 48) x n:=by
 refine⟨A2n _ _ _ _ (by decide),hd,hw,A6x n hn h0,?_,λc hc=>A7q n c (B1b hc),?_,by omega,by omega⟩
 ·have:=A3p (R7 n) 48;rw[P6 n hn] at this;exact this
 ·have h1:=A2Q (R7 n) 48
  rw[P6 n hn] at h1;rw[h1];exact A0T n hn
theorem A7y (s n:Int) (AD:0<=s) (AA:s<=9223372036854775807) (AB:0<n) (AC:n<1000000000):∃p,A9v (C9 s n) (itoa s) p s n:=by
 have h:=A3J (itoa s) n.toNat s (by omega) (by omega) (A2f s) (T0 s (by omega) AA);rw[C9,if_neg (by omega),if_neg (by omega)];rw[show((n.toNat:Nat):Int)=n by omega] at h;exact⟨_,h⟩
theorem A7x (s n:Int) (AA:s<0) (AD: -9223372036854775808<=s) (AB:0<n) (AC:n<1000000000):∃p,A9v (C9 s n) (45::itoa (-(s+1))) p (s+1) (1000000000-n):=by
 have hw:parseIntB 64 (45::itoa (-(s+1)))= .ok (s+1):=by
  rw[A2H _ (by omega),A1c _ (-(s+1)).toNat (X0 _ (by omega)) (by omega)];congr 1;omega
 have hd: (46:UInt8)∉(45::itoa (-(s+1)):List UInt8):=by
  rw[List.mem_cons];rintro(h|h)
  ·revert h;decide
  ·exact A2f _ h
 have h:=A3J (45::itoa (-(s+1))) (1000000000-n).toNat (s+1) (by omega) (by omega) hd hw;rw[C9,if_neg (by omega),if_pos AA];rw[show(((1000000000-n).toNat:Nat):Int)=1000000000-n by omega] at h;exact⟨_,h⟩
end Go.Proofs.YtkanmkcojlefbaaGreatDoor
namespace Go.Proofs.YtkanmkcojlefbaaGreatDoor
open Go.RowKit Go.Maps Go.WideMaps Go.ChangeMaps
theorem A4x:Keyed Tryz.prog 9:=string_keyed Tryz.underlying9
theorem A4y (k:List UInt8) (h:k.length<=9223372036854775807):keyOf Tryz.prog 9 (str k)=some (.string k):=by
 have:=keyOf_string_mk (P:=Tryz.prog) (k:=9) Tryz.underlying9 (s:=⟨k.toArray⟩) (by rw[I6];unfold maxLen;omega);simpa using this
theorem B2H (v:List UInt8) (h:v.length<=9223372036854775807):plainElem (H:=Unit) Tryz.prog 9 (str v)=some (.lit (.string v),[]):=by
 have:=plainElem_string (H:=Unit) (P:=Tryz.prog) (e:=9) Tryz.underlying9 (s:=⟨v.toArray⟩) (by rw[I6];unfold maxLen;omega);simpa using this
def A4i (D:DataW Unit) (m:List UInt8->Option (List UInt8)):Prop:=∀k,match m k with
 |some v=>has D (.string k)=true/\∀z,D.atKey (.string k) z= .lit (.string v)
 |none=>has D (.string k)=false
def M9 (w:World) (b n:Nat) (m:List UInt8->Option (List UInt8)):Prop:=∃D:DataW Unit,w.ownsMap Tryz.prog 9 (plainElem Tryz.prog 9) b n D/\A4i D m
theorem M9.lt {w:World} {b n:Nat} {m:List UInt8->Option (List UInt8)} (h:M9 w b n m):b<w.heap.size:=by
 obtain⟨D,h,_⟩:=h;exact h.lt
theorem M9.block {w w':World} {b n:Nat} {m:List UInt8->Option (List UInt8)} (h:M9 w b n m) (hb:w'.heap[b]?=w.heap[b]?):M9 w' b n m:=by
 obtain⟨D,⟨es,AA,h1,h2⟩,h3⟩:=h;exact⟨D,⟨es,AA,hb.trans h1,h2⟩,h3⟩
theorem M9.fr {w w':World} {b n:Nat} {m:List UInt8->Option (List UInt8)} (h:M9 w b n m) {B:Nat} {S:List Nat} (f:Fr B S w w') (hS:b∉S):M9 w' b n m:=by
 obtain⟨D,⟨es,AA,h1,h2⟩,h3⟩:=h;exact⟨D,⟨es,AA,f.same h1 hS (.inr λc fz e=>by cases e),h2⟩,h3⟩
theorem M9.below {w w':World} {b n:Nat} {m:List UInt8->Option (List UInt8)} (h:M9 w b n m) (f:Below w.heap.size w w'):M9 w' b n m:=h.block (f.block b h.lt)
theorem M9.mono {w:World} {b n n':Nat} {m:List UInt8->Option (List UInt8)} (h:M9 w b n m) (hn:n<=n'):M9 w b n' m:=by
 obtain⟨D,h1,h2⟩:=h;exact⟨D,h1.mono hn,h2⟩
theorem A8F:A4i (.map []) (λ_=>none):=λ_=>rfl
theorem M9.made (w:World):M9 (w.alloc (.map #[] 0)) w.heap.size 0 (λ_=>none):=⟨_,World.ownsMap_made ..,A8F⟩
def O2 (m:List UInt8->Option (List UInt8)) (k v:List UInt8):List UInt8->Option (List UInt8):=λx=>if x=k then some v else m x
theorem U6 (m:List UInt8->Option (List UInt8)) (k v:List UInt8):O2 m k v k=some v:=by simp[O2]
theorem R9 (m:List UInt8->Option (List UInt8)) (k v x:List UInt8) (h:x≠k):O2 m k v x=m x:=by simp[O2,h]
theorem A4i.put {D:DataW Unit} {m:List UInt8->Option (List UInt8)} (h:A4i D m) (hm:IsMap D) (k v:List UInt8):A4i (D.put (.string k) (.lit (.string v))) (O2 m k v):=by
 intro x;by_cases hx:x=k
 ·subst hx
  rw[U6];exact⟨has_put_same hm (show WideAt.IsKeyLit (.string x) by simp[WideAt.IsKeyLit]) _,λz=>atKey_put_same hm (show WideAt.IsKeyLit (.string x) by simp[WideAt.IsKeyLit]) _ z⟩
 ·have AA: (Lit.string x)≠Lit.string k:=λe=>hx (by injection e)
  have h0:=h x;rw[R9 _ _ _ _ hx];cases AB:m x with
  |none=>rw[AB] at h0;simp only at h0⊢;rw[has_put_other AA];exact h0
  |some u=>rw[AB] at h0;simp only at h0⊢;exact⟨by rw[has_put_other AA];exact h0.1,λz=>by rw[atKey_put_other AA];exact h0.2 z⟩
theorem A0w {w w':World} {b:Nat} (h:w.grownBy w' (some b)) (B:Nat):Fr B [b] w w':=Fr.of_grown h [b] (λk e=> .inl (by cases e;simp))
theorem M9.update {w:World} {b n t:Nat} {m:List UInt8->Option (List UInt8)} (h:M9 w b n m) (ht:Tryz.prog.underlying t=some (.map 9 9)) (hn:n<1099511627776) (k v:List UInt8) (hk:k.length<=9223372036854775807) (hv:v.length<=9223372036854775807):
  ∃w',(Instr.mapUpdate t (.map (some b)) (str k) (str v)).run Tryz.prog w= .ok () w'/\M9 w' b (n+1) (O2 m k v)/\Fr w.heap.size [b] w w':=by
 obtain⟨D,h1,h2⟩:=h;obtain⟨w',hr,ho,hg⟩:=h1.update A4x ht (by unfold maxLen;omega) (A4y k hk) (B2H v hv);exact⟨w',hr,⟨_,ho,h2.put h1.isMap k v⟩,A0w hg _⟩
theorem B0O (w:World): (zeroValue 9).run Tryz.prog w= .ok (str []) w:=by kernel_rfl
theorem M9.look2 {w:World} {b n t:Nat} {m:List UInt8->Option (List UInt8)} (h:M9 w b n m) (ht:Tryz.prog.underlying t=some (.map 9 9)) (k:List UInt8) (hk:k.length<=9223372036854775807):
  (Instr.lookup t (.map (some b)) (str k) true).run Tryz.prog w= .ok (.tuple #[str ((m k).getD []),.bool (m k).isSome]) w:=by
 obtain⟨D,h1,h2⟩:=h;obtain⟨v,ps,hr,hv⟩:=h1.look_ok A4x ht (B0O w) (B2H [] (by simp)) (A4y k hk);obtain⟨s,rfl,hz,-⟩:=plainElem_string_inv Tryz.underlying9 hv;have hk:=h2 k;rw[hr];cases hm:m k with
 |none=>
  rw[hm] at hk;simp only at hk;rw[atKey_of_not_has hk] at hz;simp only[Prod.mk.injEq,DataW.lit.injEq,Lit.string.injEq] at hz
  have:s=⟨#[]⟩:=by
   apply ByteArray.ext;apply Array.ext';simpa using hz.1.symm
  rw[this,hk];rfl
 |some u=>
  rw[hm] at hk;simp only at hk;rw[hk.2] at hz;simp only[Prod.mk.injEq,DataW.lit.injEq,Lit.string.injEq] at hz
  have:s=⟨u.toArray⟩:=by
   apply ByteArray.ext;apply Array.ext';simpa using hz.1.symm
  rw[this,hk.1];rfl
theorem M9.look1 {w:World} {b n t:Nat} {m:List UInt8->Option (List UInt8)} (h:M9 w b n m) (ht:Tryz.prog.underlying t=some (.map 9 9)) (k:List UInt8) (hk:k.length<=9223372036854775807):
  (Instr.lookup t (.map (some b)) (str k) false).run Tryz.prog w= .ok (str ((m k).getD [])) w:=by
 obtain⟨D,h1,h2⟩:=h;obtain⟨v,ps,hr,hv⟩:=h1.lookup A4x ht (B0O w) (B2H [] (by simp)) (A4y k hk);obtain⟨s,rfl,hz,-⟩:=plainElem_string_inv Tryz.underlying9 hv;have hk:=h2 k;rw[hr];cases hm:m k with
 |none=>
  rw[hm] at hk;simp only at hk;rw[atKey_of_not_has hk] at hz;simp only[Prod.mk.injEq,DataW.lit.injEq,Lit.string.injEq] at hz
  have:s=⟨#[]⟩:=by
   apply ByteArray.ext;apply Array.ext';simpa using hz.1.symm
  rw[this];rfl
 |some u=>
  rw[hm] at hk;simp only at hk;rw[hk.2] at hz;simp only[Prod.mk.injEq,DataW.lit.injEq,Lit.string.injEq] at hz
  have:s=⟨u.toArray⟩:=by
   apply ByteArray.ext;apply Array.ext';simpa using hz.1.symm
  rw[this];rfl
theorem B0w (w:World) (t:Nat) (ht:Tryz.prog.underlying t=some (.map 9 9)) (k:List UInt8) (hk:k.length<=9223372036854775807): (Instr.lookup t (.map none) (str k) true).run Tryz.prog w= .ok (.tuple #[str [],.bool false]) w:=by
 have:=Maps.look_nil (P:=Tryz.prog) true A4x ht (B0O w) (A4y k hk);simpa using this
theorem B0v (w:World) (t:Nat) (ht:Tryz.prog.underlying t=some (.map 9 9)) (k:List UInt8) (hk:k.length<=9223372036854775807): (Instr.lookup t (.map none) (str k) false).run Tryz.prog w= .ok (str []) w:=by
 have:=Maps.look_nil (P:=Tryz.prog) false A4x ht (B0O w) (A4y k hk);simpa using this
end Go.Proofs.YtkanmkcojlefbaaGreatDoor
namespace Go.Proofs.YtkanmkcojlefbaaGreatDoor
open Go.Lib
abbrev KV:=List UInt8->Option (List UInt8)
theorem B2G (a b:List UInt8) (c:UInt8) (h:c∉a): (a++c::b).idxOf c=a.length:=by
 rw[List.idxOf_append,if_neg h,List.idxOf_cons_self];omega
theorem A1o (a b:List UInt8) (c:UInt8) (h:c∉a): (a++c::b).take ((a++c::b).idxOf c)=a:=by
 rw[B2G a b c h,List.take_left]
theorem A4r (a b:List UInt8) (c:UInt8) (h:c∉a): (a++c::b).drop ((a++c::b).idxOf c+1)=b:=by
 rw[B2G a b c h,<-List.drop_drop,List.drop_left];rfl
theorem A6u (a b:List UInt8) (c:UInt8):c∈a++c::b:=by simp
theorem A7r (u:Nat): (32:UInt8)∉decDigits u:=λh=>by
 have:=(Y1 u _ h).1;revert this;decide
def H0:List UInt8:=[112,97,116,104]
def I3:List UInt8:=[108,105,110,107,112,97,116,104]
def N9:List UInt8:=[115,105,122,101]
def V2:List UInt8:=[117,105,100]
def V1:List UInt8:=[103,105,100]
def F8:List UInt8:=[117,110,97,109,101]
def F7:List UInt8:=[103,110,97,109,101]
def H6:List UInt8:=[109,116,105,109,101]
def J5:List UInt8:=[97,116,105,109,101]
def J6:List UInt8:=[99,116,105,109,101]
def F6:List (List UInt8):=[H0,I3,N9,V2,V1,F8,F7,H6,J5,J6]
def F0 (k v:List UInt8):Bool:= !(k==[])&& !(decide ((61:UInt8)∈k))&& (if k=H0\/k=I3\/k=F8\/k=F7 then !(decide ((0:UInt8)∈v)) else !(decide ((0:UInt8)∈k)))
theorem M7 {k v:List UInt8} (h:F0 k v=true):k≠ []/\(61:UInt8)∉k:=by
 simp only[F0,Bool.and_eq_true,Bool.not_eq_true',beq_eq_false_iff_ne,decide_eq_false_iff_not] at h;exact⟨h.1.1,h.1.2⟩
def D7 (L:List (List UInt8×List UInt8)):List UInt8:=(L.map λp=>X6 p.1 p.2).flatten
theorem T7 (p:List UInt8×List UInt8) (L:List (List UInt8×List UInt8)):D7 (p::L)=X6 p.1 p.2++D7 L:=rfl
theorem A6Q (L M:List (List UInt8×List UInt8)):D7 (L++M)=D7 L++D7 M:=by simp[D7]
def E0 (m:KV):List (List UInt8×List UInt8)->KV
 | []=>m
 |p::L=>E0 (O2 m p.1 p.2) L
theorem A5H (m:KV) (L M:List (List UInt8×List UInt8)):E0 m (L++M)=E0 (E0 m L) M:=by
 induction L generalizing m with
 |nil=>rfl
 |cons p L ih=>exact ih _
theorem B1D (m:KV) (L:List (List UInt8×List UInt8)) (h:∀p∈L,m p.1=some p.2):∀ (m0:KV) (k:List UInt8),E0 m0 L k=if k∈L.map (·.1) then m k else m0 k:=by
 induction L with
 |nil=>intro m0 k;simp[E0]
 |cons p L ih=>
  intro m0 k;rw[E0,ih (λq hq=>h q (by simp[hq]))];by_cases hk:k∈L.map (·.1)
  ·rw[if_pos hk,if_pos (by rw[List.map_cons];exact List.mem_cons_of_mem _ hk)]
  ·rw[if_neg hk]
   by_cases hp:k=p.1
   ·subst hp;rw[U6,if_pos (by simp),h p (by simp)]
   ·rw[R9 _ _ _ _ hp,if_neg (by
     intro hm;rcases List.mem_cons.1 (by simpa using hm:k∈p.1::L.map (·.1)) with e|e
     ·exact hp e
     ·exact hk e)]
theorem A9P (m:KV) (L:List (List UInt8×List UInt8)) (h:∀p∈L,m p.1=some p.2) (hk:∀k,m k≠none->k∈L.map (·.1)):E0 (λ_=>none) L=m:=by
 funext k
 rw[B1D m L h];split
 ·rfl
 ·rename_i hn
  cases hm:m k with
  |none=>rfl
  |some v=>exact absurd (hk k (by rw[hm];simp)) hn
structure Pax where
 path:Option (List UInt8)
 link:Option (List UInt8)
 uname:Option (List UInt8)
 gname:Option (List UInt8)
 uid:Option Int
 gid:Option Int
 size:Option Int
 mtime:Option (Int×Int)
 atime:Option (Int×Int)
 ctime:Option (Int×Int)
def tIn (t:Int×Int):Prop:=0<=t.1/\t.1<1000000000/\-100000000000000000<=t.2/\t.2<=100000000000000000
def nIn (n:Int):Prop:= -9223372036854775808<=n/\n<=9223372036854775807
structure B4p (m:KV) (P:Pax):Prop where
 path:m H0=P.path
 link:m I3=P.link
 uname:m F8=P.uname
 gname:m F7=P.gname
 uid:m V2=P.uid.map itoa
 gid:m V1=P.gid.map itoa
 size:m N9=P.size.map itoa
 mtime:m H6=P.mtime.map λt=>C9 t.2 t.1
 atime:m J5=P.atime.map λt=>C9 t.2 t.1
 ctime:m J6=P.ctime.map λt=>C9 t.2 t.1
 uidIn:∀n∈P.uid,nIn n
 gidIn:∀n∈P.gid,nIn n
 sizeIn:∀n∈P.size,nIn n
 mtimeIn:∀t∈P.mtime,tIn t
 atimeIn:∀t∈P.atime,tIn t
 ctimeIn:∀t∈P.ctime,tIn t
end Go.Proofs.YtkanmkcojlefbaaGreatDoor
namespace Go.Proofs.YtkanmkcojlefbaaGreatDoor
open Go.RowKit Go.Maps
def A2Z (w:World) (mb:Nat):Prop:=∃ (D:DataW Unit) (n:Nat),w.ownsMap Tryz.prog 9 (plainElem Tryz.prog 4) mb n D/\∀k,D.atKey (.string k) (.lit (.bool false))= .lit (.bool (decide (k∈F6)))
structure Gl (G0:Nat) (E:Nat->Addr) (w:World):Prop where
 le:G0<=w.heap.size
 g19:19<=G0
 err:∀i,i<7->w.cell? ⟨i,0,none⟩=some (I7 (E i))
 db:w.cell? ⟨15,7,none⟩=some (.int .u8 3)
 pow:Lib.TabIs Tryz.prog w "internal/strconv.uint64pow10" .u64 Lib.pow10Tab
 keys:∃mb,mb<G0/\w.cell? ⟨7,0,none⟩=some (.map (some mb))/\A2Z w mb
theorem B5T:Tryz.prog.globalNamed "internal/strconv.uint64pow10" =some 10:=by kernel_rfl
theorem Gl.same {G0:Nat} {E:Nat->Addr} {w w':World} (h:Gl G0 E w) (AB:w.heap.size<=w'.heap.size) (hb:∀k,k<G0->w'.heap[k]?=w.heap[k]?):Gl G0 E w':=by
 have hc:∀k o,k<G0->w'.cell? ⟨k,o,none⟩=w.cell? ⟨k,o,none⟩:=λk o hk=>World.cell?_of_block (w:=w) (a:=⟨k,o,none⟩) (hb k hk);have g:=h.g19;refine⟨Nat.le_trans h.le AB,g,λi hi=>by rw[hc i 0 (by omega)];exact h.err i hi,by rw[hc 15 7 (by omega)];exact h.db, ?_, ?_⟩
 ·have:=h.pow
  unfold Lib.TabIs World.var? at this⊢;simp only[B5T,Option.bind_some] at this⊢;rw[hb 10 (by omega)];exact this
 ·obtain⟨mb,hm,h1,D,n,⟨es,AA,h2,h3⟩,h4⟩:=h.keys
  exact⟨mb,hm,by rw[hc 7 0 (by omega)];exact h1,D,n,⟨es,AA,(hb mb hm).trans h2,h3⟩,h4⟩
theorem Gl.fr {G0:Nat} {E:Nat->Addr} {w w':World} (h:Gl G0 E w) {B:Nat} {S:List Nat} (f:Fr B S w w') (hB:G0<=B) (hS:∀k∈S,G0<=k):Gl G0 E w':=
 h.same f.size λk hk=>by
  obtain⟨o,ho⟩:∃o,w.heap[k]?=some o:=⟨_,Array.getElem?_eq_getElem (by have:=h.le;omega)⟩;rw[ho];exact f.same ho (λhm=>by have:=hS k hm;omega) (.inl (by omega))
theorem Gl.below {G0:Nat} {E:Nat->Addr} {w w':World} (h:Gl G0 E w) (f:Below w.heap.size w w'):Gl G0 E w':=
 h.same f.size λk hk=>f.block k (by have:=h.le;omega)
theorem Gl.alloc {G0:Nat} {E:Nat->Addr} {w:World} (h:Gl G0 E w) (o:Obj):Gl G0 E (w.alloc o):=h.below ((Below.refl _ w).alloc (Nat.le_refl _) _)
theorem Gl.drew {G0:Nat} {E:Nat->Addr} {w:World} (h:Gl G0 E w):Gl G0 E w.drew:=h.same (Nat.le_refl _) λ_ _=>rfl
theorem Gl.set {G0:Nat} {E:Nat->Addr} {w:World} (h:Gl G0 E w) (p:Addr) (hp:G0<=p.block) (v:Value):Gl G0 E (w.setCell p v):=
 h.fr (B:=G0) (S:=[p.block]) ((Fr.refl _ _ w).setCell (.inl (by simp)) v) (Nat.le_refl _) (by simpa using hp)
end Go.Proofs.YtkanmkcojlefbaaGreatDoor
namespace Go.Proofs.YtkanmkcojlefbaaGreatDoor
open Go.RowKit
def A2a (b:UInt8):Bool:=decide (b.toNat<128)&&decide (b.toNat≠0)
def D6 (l:List UInt8):Bool:=l.all A2a
theorem A1J (l:List UInt8):D6 l=true↔∀ (k:Nat) (x:UInt8),l[k]?=some x->A2a x=true:=by
 simp only[D6,List.all_eq_true];constructor
 ·intro h k x hk;exact h x (List.mem_of_getElem? hk)
 ·intro h x hx
  obtain⟨k,hk,e⟩:=List.getElem_of_mem hx;exact h k x (by rw[List.getElem?_eq_getElem hk,e])
theorem A2t {l:List UInt8} {k:Nat} {x:UInt8} (h:l[k]?=some x) (hx:A2a x=false):D6 l=false:=by
 rw[Bool.eq_false_iff];intro h2;have:=(A1J l).1 h2 k x h;rw[hx] at this;cases this
theorem A7F (l:List UInt8) (k:Nat) (x:UInt8) (h:k< (⟨l.toArray⟩:ByteArray).size) (h2:l[k]?=some x): (⟨l.toArray⟩:ByteArray)[k]'h=x:=by
 obtain⟨hk,rfl⟩:=List.getElem?_eq_some_iff.1 h2;show(l.toArray)[k]'_=_
 simp
theorem A2b (w:World) (s:ByteArray) (p:Nat):Below w.heap.size w (w.iter s p):=(Below.refl _ w).alloc (Nat.le_refl _) _
theorem J8 (l:List UInt8) (w:World) (hl:l.length<4611686018427387904):
  Calls Tryz.prog 96 #[str l] w λe w'=>e= .returned (.bool (D6 l))/\Below w.heap.size w w':=by
 go_enter Tryz.func96,Tryz.ntmps96
 go_wp2
 go_loopw [] (λw'=>∃ (AA:Nat),w'=w.iter ⟨l.toArray⟩ AA/\(∀ (k:Nat) (x:UInt8),k<AA->l[k]?=some x->A2a x=true)) (λw'=>l.length-w'.iterPos w.heap.size)
 case atStart=>exact⟨0,rfl,λk x h=>by omega⟩
 case round=>
  obtain⟨AA,rfl,hb⟩:=hrel;have h0:=A0 hb;clear hb;by_cases hp:AA<l.length
  ·have AB:AA< (⟨l.toArray⟩:ByteArray).size:=by rw[I6];exact hp
   obtain⟨x,hg⟩:∃x,l[AA]?=some x:=⟨_,List.getElem?_eq_getElem hp⟩;have hx:=A7F l AA x AB hg;have Hg:=A0 hg;clear hg;by_cases ha:x.toNat<128
   ·have AC:∀ty,(Instr.next (.pointer (some ⟨w.heap.size,0,none⟩)) true ty).run Tryz.prog (w.iter ⟨l.toArray⟩ AA)=_:=λty=>run_next_ascii w ⟨l.toArray⟩ AA ty AB (by rw[hx];exact ha)
    rw[hx] at AC;have ha2:¬(128:Int)<=x.toNat:=by omega
    by_cases hz:x.toNat=0
    ·have hf:D6 l=false:=A2t Hg.out (by simp[A2a,hz])
     have Hf:=A0 hf;have AD: ((x.toNat:Int)==0)=true:=by rw[hz];rfl
     clear hx hf;go_wp2
     go_ret
     exact⟨by rw[Hf.out];rfl,A2b ..⟩
    ·have AD: ((x.toNat:Int)==0)=false:=by simp;omega
     clear hx;go_wp2
     go_roundw
     case rel=>exact⟨AA+1,rfl,λk y hk hy=>if e:k=AA then by subst e;rw[Hg.out] at hy;cases hy;simp[A2a,ha,hz] else h0.out k y (by omega) hy⟩
     case measure=>simp;omega
   ·obtain⟨hd,AE⟩:=decode_high ⟨l.toArray⟩ AA AB (by rw[hx];omega)
    have AC:∀ty,(Instr.next (.pointer (some ⟨w.heap.size,0,none⟩)) true ty).run Tryz.prog (w.iter ⟨l.toArray⟩ AA)=_:=λty=>run_next_any w ⟨l.toArray⟩ AA ty AB;have AG: (128:Int)<=(Utf8.decode ⟨l.toArray⟩ AA).1:=by omega
    have hf:D6 l=false:=A2t Hg.out (by simp[A2a,ha]);have Hf:=A0 hf;clear hx hf;go_wp2
    go_ret
    exact⟨by rw[Hf.out];rfl,A2b ..⟩
  ·have AC:∀ty,(Instr.next (.pointer (some ⟨w.heap.size,0,none⟩)) true ty).run Tryz.prog (w.iter ⟨l.toArray⟩ AA)=_:=λty=>run_next_end w ⟨l.toArray⟩ AA ty (by rw[I6];exact hp)
   have hf:D6 l=true:=(A1J l).2 λk x hk=>h0.out k x (by have:=(List.getElem?_eq_some_iff.1 hk).1;omega) hk;have Hf:=A0 hf;clear hf;go_wp2
   go_ret
   exact⟨by rw[Hf.out];rfl,A2b ..⟩
theorem B5c: (Tryz.prog.info? 5).map (λi=>(i.zero,i.size,i.bytes))=some (some (.int .u8 0),1,1):=by kernel_rfl
theorem Z8 (l:List UInt8) (w:World) (hl:l.length<=1048576):
  Calls Tryz.prog 143 #[str l] w λe w'=>(∃m,e= .returned (str m)/\(D6 l=true->m=l)/\D6 m=true/\m.length<=l.length)/\Below w.heap.size w w':=by
 by_cases ha:D6 l=true
 ·have h:=J8 l w (by omega)
  rw[ha] at h;go_enter Tryz.func143,Tryz.ntmps143
  go_wp2_with fail
  refine h.mono ?_;rintro e w1 ⟨rfl,hb⟩;go_wp2_with fail
  go_ret
  exact⟨⟨l,rfl,λ_=>rfl,ha,Nat.le_refl _⟩,hb⟩
 ·have hf:D6 l=false:=by simpa using ha
  have h:=J8 l w (by omega);rw[hf] at h;obtain⟨i,hi,Ah,Ad,AZ⟩:=info_parts B5c;go_enter Tryz.func143,Tryz.ntmps143
  go_wp2_with fail
  refine h.mono ?_;rintro e w1 ⟨rfl,hb⟩;go_wp2_with (first|(at_make;refine wpList_make_own _ rfl _ _ 35 rfl w1.heap.size 5 i (.int .u8 0) 1 Tryz.underlying35 hi Ah Ad _ _ _ l.length rfl rfl rfl (by rw[AZ];omega) (by unfold maxLen;omega) (Nat.le_refl _) ?_))
  intro w2 AO Ab;have Aa:Below w.heap.size w w2:=hb.grown Ab hb.size (λk hk=>by cases hk);have Ag:w1.heap.size<w2.heap.size:=AO.2.elim (λh=>by cases h.1) fun⟨g,_,_,e,_,hg,_⟩=>by cases e;exact A8 hg
  clear Ab h;go_wp2_with fail
  go_loopw [3] (λv wr=>∃ (AA:Nat) (AB:List UInt8),wr.heap[w2.heap.size]?=some (.stringIter ⟨l.toArray⟩ AA)/\AB.length<=AA/\AB.length<=l.length/\D6 AB=true/\v= .slice (some ⟨w1.heap.size,0,none⟩) AB.length l.length/\wr.ownsRow w1.heap.size 5 1 (.slice (some ⟨w1.heap.size,0,none⟩) AB.length l.length) AB.length (Lib.byteCells AB)/\Below w.heap.size w wr)
   (λ_ wr=>l.length-wr.iterPos w2.heap.size)
  case atStart=>exact⟨0,[],heap_alloc_new _ _,by simp,by simp,rfl,rfl,AO.alloc _,Aa.alloc Aa.size _⟩
  case round=>
   obtain⟨AA,AB,AH,Ak,AY,has,rfl,AI,AU⟩:=hrel;have AM:wr.iterPos w2.heap.size=AA:=by simp[World.iterPos,AH]
   have Ac:w2.heap.size<wr.heap.size:=A8 AH;by_cases hp:AA<l.length
   ·have AS:AA< (⟨l.toArray⟩:ByteArray).size:=by rw[I6];exact hp
    obtain⟨x,hg⟩:∃x,l[AA]?=some x:=⟨_,List.getElem?_eq_getElem hp⟩;have hx:=A7F l AA x AS hg;by_cases ha:x.toNat<128
    ·have AR:∀ty,(Instr.next (.pointer (some ⟨w2.heap.size,0,none⟩)) true ty).run Tryz.prog wr=_:=λty=>Lib.run_next_ascii_at wr w2.heap.size ⟨l.toArray⟩ AA ty AH AS (by rw[hx];exact ha)
     rw[hx] at AR;have ha2: (x.toNat:Int)<128:=by omega
     have AC:=Lib.iterAt_heap wr w2.heap.size ⟨l.toArray⟩ AA (AA+1) AH;have AE:=Lib.below_iterAt (k:=w2.heap.size) AU (by have:=hb.size;omega) ⟨l.toArray⟩ (AA+1)
     have AD: (wr.iterAt w2.heap.size ⟨l.toArray⟩ (AA+1)).ownsRow w1.heap.size 5 1 (.slice (some ⟨w1.heap.size,0,none⟩) AB.length l.length) AB.length (Lib.byteCells AB):=
      AI.kept (row:=some w2.heap.size) ⟨rfl,rfl,rfl,by rw[Lib.iterAt_size];exact Nat.le_refl _,λk hk AX=>Lib.iterAt_other wr w2.heap.size k _ _ (λe=>AX (by rw[e]))⟩ (.inr (by simp[Value.ownBlock];omega))
     have AW: (wr.iterAt w2.heap.size ⟨l.toArray⟩ (AA+1)).iterPos w2.heap.size=AA+1:=by simp[World.iterPos,AC]
     have Hx:=A0 hx;have Aj:=A0 AH;have AG:=A0 AC;have AQ:=A0 AM;clear hx AH AC AM hg;generalize wr.iterAt w2.heap.size ⟨l.toArray⟩ (AA+1)=w3 at*;by_cases hz:x.toNat=0
     ·have AZ: ((x.toNat:Int) !=0)=false:=by rw[hz];rfl
      go_wp2
      go_roundw
      case rel=>exact⟨AA+1,AB,AG.out,by omega,AY,has,rfl,AD,AE⟩
      case measure=>rw[AW,AQ.out];omega
     ·have AZ: ((x.toNat:Int) !=0)=true:=by simp;omega
      have Af:w2.heap.size<w3.heap.size:=A8 AG.out;go_wp2_with (first|(at_builtin;refine wpList_append_fits _ rfl (.tmp 23) (.tmp 26) 35 rfl w1.heap.size 5 i 1 Tryz.underlying35 hi Ad w1.heap.size AB.length l.length _ rfl (AD.alloc _) ⟨w3.heap.size,0,none⟩ 1 1 [.int .u8 x.toNat] rfl rfl ?c1 ?c2 ?c3 ?_)|fail)
      case c1=>intro j u hj;match j,hj with|0,hj=>simp at hj;subst hj;simp[Addr.add]
      case c2=>intro u hu;simp at hu;subst hu;rfl
      case c3=>omega
      intro w4 AP AJ
      have AL:w4.heap[w2.heap.size]?=some (.stringIter ⟨l.toArray⟩ (AA+1)):=by
       rw[AJ.block _ (by simp;omega) (λe=>by have:=Option.some.inj e;omega),heap_alloc_old _ _ Af];exact AG.out
      have Ae:w4.iterPos w2.heap.size=AA+1:=by simp[World.iterPos,AL]
      have AV:Below w.heap.size w w4:=(AE.alloc AE.size _).grown AJ (by have:=AE.size;simp;omega) (λk hk=>by cases hk;exact hb.size);have AT:=A0 AL;have Ai:=A0 AJ;clear AL AJ AR;go_wp2
      go_roundw
      case rel=>exact⟨AA+1,AB++[x],AT.out,by simp;omega,by simp;omega,by rw[D6,List.all_append,Bool.and_eq_true];exact⟨has,by simp[A2a,ha,hz]⟩,by simp,by simpa[Lib.byteCells] using AP,AV⟩
      case measure=>rw[Ae,AQ.out];omega
    ·obtain⟨hd,Am⟩:=decode_high ⟨l.toArray⟩ AA AS (by rw[hx];omega)
     have AR:∀ty,(Instr.next (.pointer (some ⟨w2.heap.size,0,none⟩)) true ty).run Tryz.prog wr=_:=λty=>Lib.run_next_any_at wr w2.heap.size ⟨l.toArray⟩ AA ty AH AS;have An:¬((Utf8.decode ⟨l.toArray⟩ AA).1:Int)<128:=by omega
     have AC:=Lib.iterAt_heap wr w2.heap.size ⟨l.toArray⟩ AA (AA+(Utf8.decode ⟨l.toArray⟩ AA).2) AH;have AE:=Lib.below_iterAt (k:=w2.heap.size) AU (by have:=hb.size;omega) ⟨l.toArray⟩ (AA+(Utf8.decode ⟨l.toArray⟩ AA).2)
     have AD: (wr.iterAt w2.heap.size ⟨l.toArray⟩ (AA+(Utf8.decode ⟨l.toArray⟩ AA).2)).ownsRow w1.heap.size 5 1 (.slice (some ⟨w1.heap.size,0,none⟩) AB.length l.length) AB.length (Lib.byteCells AB):=
      AI.kept (row:=some w2.heap.size) ⟨rfl,rfl,rfl,by rw[Lib.iterAt_size];exact Nat.le_refl _,λk hk AX=>Lib.iterAt_other wr w2.heap.size k _ _ (λe=>AX (by rw[e]))⟩ (.inr (by simp[Value.ownBlock];omega))
     have AW: (wr.iterAt w2.heap.size ⟨l.toArray⟩ (AA+(Utf8.decode ⟨l.toArray⟩ AA).2)).iterPos w2.heap.size=AA+(Utf8.decode ⟨l.toArray⟩ AA).2:=by simp[World.iterPos,AC]
     have AG:=A0 AC;have AQ:=A0 AM;clear hx AH AC AM hg;generalize wr.iterAt w2.heap.size ⟨l.toArray⟩ (AA+(Utf8.decode ⟨l.toArray⟩ AA).2)=w3 at*;generalize Utf8.decode ⟨l.toArray⟩ AA=dd at*;go_wp2
     go_roundw
     case rel=>exact⟨_,AB,AG.out,by omega,AY,has,rfl,AD,AE⟩
     case measure=>rw[AW,AQ.out];omega
   ·have AR:∀ty,(Instr.next (.pointer (some ⟨w2.heap.size,0,none⟩)) true ty).run Tryz.prog wr=_:=λty=>Lib.run_next_end_at wr w2.heap.size ⟨l.toArray⟩ AA ty AH (by rw[I6];exact hp)
    have Al: (convert 35 9 (.slice (some ⟨w1.heap.size,0,none⟩) AB.length l.length)).run Tryz.prog wr= .ok (.string ⟨AB.toArray⟩) wr:=
     run_convert_bytes_back wr 35 9 5 ⟨w1.heap.size,0,none⟩ l.length AB Tryz.underlying35 Tryz.underlying5 Tryz.underlying9 (λj hj=>AI.cells (g:=w1.heap.size) rfl j _ (by simp[Lib.byteCells,hj]))
    clear AH AM;go_wp2
    go_ret
    exact⟨⟨AB,rfl,λh=>(ha h).elim,has,AY⟩,AU⟩
end Go.Proofs.YtkanmkcojlefbaaGreatDoor
