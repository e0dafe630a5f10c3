/-
  Part of the proof; holds the texts PlainNum, PlainTime, SMap, PlainRec, Glob, AF.
-/
import Derived.Maps.Ext
import Derived.Test.YtkanmkcojlefbaaGreatDoorM02
set_option maxRecDepth 100000
set_option linter.unusedSimpArgs false
set_option linter.unusedVariables false
namespace Go.Proofs.YtkanmkcojlefbaaGreatDoor
open Go.Lib
theorem A2R (k:Nat) (h:k<10): (UInt8.ofNat (48+k)).toNat=48+k:=by
 rw[UInt8.toNat_ofNat'];omega
theorem Y1 (u:Nat):∀c∈decDigits u,48<=c.toNat/\c.toNat<=57:=by
 induction u using Nat.strongRecOn with
 |_ u ih=>
  intro c hc;rw[decDigits] at hc;split at hc
  ·rename_i h
   obtain rfl:=List.mem_singleton.1 hc;rw[A2R u h];omega
  ·rename_i h
   rcases List.mem_append.1 hc with hc|hc
   ·exact ih (u/10) (by omega) c hc
   ·obtain rfl:=List.mem_singleton.1 hc
    rw[A2R _ (Nat.mod_lt _ (by omega))];omega
theorem A8s (u:Nat):decDigits u≠ []:=by
 rw[decDigits];split<;>simp
theorem A1w (M u:Nat) (r:List UInt8) (hM:M<18446744073709551616) (hu:u<=M):parseUintM M 0 (decDigits u++r)=parseUintM M u r:=by
 induction u using Nat.strongRecOn generalizing r with
 |_ u ih=>
  rw[decDigits];split
  ·rename_i h
   show parseUintM M 0 (UInt8.ofNat (48+u)::r)=_
   rw[parseUintM,A2R u h,if_pos (by omega),if_neg (by omega),if_neg (by omega)];congr 1;omega
  ·rename_i h
   rw[QG,ih (u/10) (by omega) _ (by omega)];show parseUintM M (u/10) (UInt8.ofNat (48+u% 10)::r)=_
   rw[parseUintM,A2R _ (Nat.mod_lt _ (by omega)),if_pos (by omega),if_neg (by omega),if_neg (by omega)];congr 1;omega
theorem X0 (u:Nat) (hu:u<18446744073709551616):parseUintB 64 (decDigits u)= .ok u:=by
 rw[parseUintB,if_neg (A8s u)];have:=A1w (2^64-1) u [] (by omega) (by omega);rw[QH] at this;rw[this];rfl
theorem A0o (l:List UInt8) (u:Nat) (hl:parseUintB 64 l= .ok u) (hu:u<9223372036854775808) (hd:∀c∈l,48<=c.toNat/\c.toNat<=57):parseIntB 64 l= .ok (u:Int):=by
 cases l with
 |nil=>simp[parseUintB] at hl
 |cons c r=>
  have hc:=hd c (by simp);have h1:¬(c.toNat=43\/c.toNat=45):=by omega
  have h2:¬c.toNat=45:=by omega
  simp only[parseIntB,if_neg h1,hl];rw[if_neg (by intro h;have:=h.2;omega),if_neg (by intro h;exact h2 h.1),if_neg h2]
theorem A1c (r:List UInt8) (u:Nat) (h:parseUintB 64 r= .ok u) (hu:u<=9223372036854775808):parseIntB 64 (45::r)= .ok (-(u:Int)):=by
 have e: (if(45:UInt8).toNat=43\/(45:UInt8).toNat=45 then r else 45::r)=r:=if_pos (.inr rfl);unfold parseIntB;simp only;rw[e,h];simp only;rw[if_neg (by intro hh;exact hh.1 rfl),if_neg (by intro hh;have:=hh.2;omega)];exact congrArg NumEnd.ok (if_pos rfl)
theorem T0 (n:Int) (h0: -9223372036854775808<=n) (h1:n<=9223372036854775807):parseIntB 64 (itoa n)= .ok n:=by
 by_cases hn:n<0
 ·have e:itoa n=45::decDigits n.natAbs:=by rw[itoa,if_pos hn]
  rw[e,A1c _ n.natAbs (X0 _ (by omega)) (by omega)];congr 1;omega
 ·have e:itoa n=decDigits n.toNat:=by rw[itoa,if_neg hn]
  rw[e,A0o _ n.toNat (X0 _ (by omega)) (by omega) (Y1 _)];congr 1;omega
def K8 (k v:List UInt8):Nat:=
 if k.length+v.length+3+nDigits (k.length+v.length+3+nDigits (k.length+v.length+3))=k.length+v.length+3+nDigits (k.length+v.length+3) then k.length+v.length+3+nDigits (k.length+v.length+3)
 else k.length+v.length+3+nDigits (k.length+v.length+3+nDigits (k.length+v.length+3))
theorem A1r (d:Nat):d<10^d:=by
 induction d with
 |zero=>decide
 |succ d ih=>rw[Nat.pow_succ];omega
theorem A1x (u:Nat) (h:1<=u):10^ (nDigits u-1)<=u:=by
 induction u using Nat.strongRecOn with
 |_ u ih=>
  by_cases AA:u<10
  ·rw[nDigits_small AA];simpa using h
  ·rw[nDigits_big AA,Nat.add_sub_cancel]
   have h1:=ih (u/10) (by omega) (by omega);have h2:=nDigits_pos (u/10);obtain⟨m,hm⟩:∃m,nDigits (u/10)=m+1:=⟨_,(Nat.sub_add_cancel h2).symm⟩;rw[hm] at h1⊢;rw[Nat.add_sub_cancel] at h1;rw[Nat.pow_succ];omega
theorem A6v (n:Nat) (h:1<=n):nDigits (n+nDigits n)=nDigits n\/nDigits (n+nDigits n)=nDigits n+1:=by
 have h1:=lt_pow_nDigits n;have h2:=A1r (nDigits n);have h4:=A1x n h;have h5:=nDigits_pos n;generalize hd:nDigits n=d at*;obtain⟨m,rfl⟩:∃m,d=m+1:=⟨d-1,by omega⟩;by_cases h3:n+(m+1)<10^ (m+1)
 ·left
  rw[Nat.add_sub_cancel] at h4;exact nDigits_unique m _ (by omega) h3
 ·right
  refine nDigits_unique (m+1) _ (by omega) ?_;rw[Nat.pow_succ];omega
theorem A2J (k v:List UInt8):K8 k v=k.length+v.length+3+nDigits (K8 k v):=by
 unfold K8;generalize hn:k.length+v.length+3=n;have h1:1<=n:=by omega
 split
 ·rename_i h;omega
 ·rename_i h
  rcases A6v n h1 with h2|h2
  ·exact absurd (by rw[h2]) h
  ·rw[h2]
   have q1:=lt_pow_nDigits n;have q2:=A1r (nDigits n);have q3:=lt_pow_nDigits (n+nDigits n);have q4:=A1x (n+nDigits n) (by omega);rw[h2] at q3 q4;have q5:=nDigits_pos n;generalize nDigits n=d at*
   have:nDigits (n+(d+1))=d+1:=by
    refine nDigits_unique d _ ?_ ?_
    ·rw[Nat.add_sub_cancel] at q4;omega
    ·rw[Nat.pow_succ] at q3⊢;omega
   omega
def X6 (k v:List UInt8):List UInt8:=decDigits (K8 k v)++(32::(k++(61::(v++[10]))))
theorem P7 (k v:List UInt8): (X6 k v).length=K8 k v:=by
 have:=A2J k v;simp[X6,decDigits_length];omega
theorem I4 (u k:Nat) (h:u<10^ (k+1)):nDigits u<=k+1:=by
 induction k generalizing u with
 |zero=>rw[nDigits_small (by simpa using h)];omega
 |succ k ih=>
  by_cases AA:u<10
  ·rw[nDigits_small AA];omega
  ·rw[nDigits_big AA]
   have:=ih (u/10) (by rw[Nat.pow_succ] at h;omega);omega
theorem A3l (k v:List UInt8) (h:k.length+v.length<=4294967296):K8 k v<=k.length+v.length+14:=by
 unfold K8;have h1:=I4 (k.length+v.length+3) 10 (by omega);have h2:=I4 (k.length+v.length+3+nDigits (k.length+v.length+3)) 10 (by omega);split<;>omega
theorem A0y (k v:List UInt8) (h:1<=k.length):5<=K8 k v:=by
 have h1:=A2J k v;have h2:=nDigits_pos (K8 k v);omega
def R7 (n:Nat):List UInt8:=List.replicate (9- (decDigits n).length) 48++decDigits n
theorem P6 (n:Nat) (h:n<1000000000): (R7 n).length=9:=by
 have h1:=I4 n 8 (by omega);simp[R7,decDigits_length];omega
theorem A3i (M z:Nat) (r:List UInt8):parseUintM M 0 (List.replicate z 48++r)=parseUintM M 0 r:=by
 induction z with
 |zero=>rfl
 |succ z ih=>
  rw[List.replicate_succ,List.cons_append,parseUintM,if_pos (by decide),if_neg (by decide)];rw[if_neg (by show¬M<0*10+0;omega)];exact ih
theorem A0T (n:Nat) (h:n<1000000000):parseIntB 64 (R7 n)= .ok (n:Int):=by
 refine A0o _ n ?_ (by omega) ?_
 ·have hl:=P6 n h
  rw[parseUintB,if_neg (by intro e;rw[e] at hl;simp at hl),R7,A3i];have:=A1w (2^64-1) n [] (by omega) (by omega);rw[QH] at this;rw[this];rfl
 ·intro c hc
  rcases List.mem_append.1 hc with hc|hc
  ·rw[List.eq_of_mem_replicate hc];decide
  ·exact Y1 n c hc
def C9 (s n:Int):List UInt8:=
 if n=0 then itoa s else if s<0 then L5 (45::(itoa (-(s+1))++46::R7 (1000000000-n).toNat)) 48 else L5 (itoa s++46::R7 n.toNat) 48
theorem A2n (a b:List UInt8) (x c:UInt8) (h:x≠c):L5 (a++x::b) c=a++x::L5 b c:=by
 have e: (a++x::b).reverse=b.reverse++(x::a.reverse):=by simp
 rw[L5,e,List.dropWhile_append];have e2:List.dropWhile (·==c) (x::a.reverse)=x::a.reverse:=by rw[List.dropWhile_cons_of_neg (by simp[h])]
 split
 ·rename_i hh
  have:List.dropWhile (·==c) b.reverse=[]:=List.isEmpty_iff.1 hh;rw[e2,L5,this];simp
 ·simp[L5]
theorem A5m (l:List UInt8) (c:UInt8):List.replicate (l.length- (l.dropWhile (·==c)).length) c++l.dropWhile (·==c)=l:=by
 induction l with
 |nil=>rfl
 |cons x r ih=>
  by_cases h:x=c
  ·subst h
   rw[List.dropWhile_cons_of_pos (by simp)];have AA: (r.dropWhile (·==x)).length<=r.length:=(List.dropWhile_sublist _).length_le;rw[show(x::r).length- (r.dropWhile (·==x)).length=(r.length- (r.dropWhile (·==x)).length)+1 by rw[List.length_cons];omega,List.replicate_succ,List.cons_append,ih]
  ·rw[List.dropWhile_cons_of_neg (by simp[h])];simp
theorem A2Q (l:List UInt8) (c:UInt8):L5 l c++List.replicate (l.length- (L5 l c).length) c=l:=by
 have:=congrArg List.reverse (A5m l.reverse c);rw[List.reverse_append,List.reverse_reverse,List.reverse_replicate,List.length_reverse] at this;simpa[L5] using this
theorem A3p (l:List UInt8) (c:UInt8): (L5 l c).length<=l.length:=by
 have:=congrArg List.length (A2Q l c);rw[zH] at this;omega
theorem B1b {l:List UInt8} {c x:UInt8} (h:x∈L5 l c):x∈l:=by
 rw[<-A2Q l c];exact List.mem_append_left _ h
theorem A7q (n:Nat):∀c∈R7 n,48<=c.toNat/\c.toNat<=57:=by
 intro c hc;rcases List.mem_append.1 hc with hc|hc
 ·rw[List.eq_of_mem_replicate hc];decide
 ·exact Y1 n c hc
theorem A6x (n:Nat) (h:n<1000000000) (h0:n≠0):L5 (R7 n) 48≠ []:=by
 intro e;have h1:=A2Q (R7 n) 48;rw[e,List.nil_append] at h1;have h2:=A0T n h;have h3:=A0T 0 (by omega);have e0:R7 0=List.replicate 9 48:=by rw[R7,decDigits_one (by omega)];rfl
 rw[P6 n h,List.length_nil] at h1;rw[<-h1,<-e0,h3] at h2;injection h2 with h2
 omega
structure A9v (l ss p:List UInt8) (x y:Int):Prop where
 eq:l=ss++46::p
 nodot: (46:UInt8)∉ss
 whole:parseIntB 64 ss= .ok x
 ne:p≠ []
 len:p.length<=9
 dig:∀c∈p,48<=c.toNat/\c.toNat<=57
 part:parseIntB 64 (p++List.replicate (9-p.length) 48)= .ok y
 y0:0<y
 y1:y<1000000000
theorem A2H (s:Int) (h:0<=s):itoa s=decDigits s.toNat:=by rw[itoa,if_neg (by omega)]
theorem A6H (u:Nat): (46:UInt8)∉decDigits u:=λh=>by
 have:=(Y1 u _ h).1;revert this;decide
theorem A2f (s:Int): (46:UInt8)∉itoa s:=by
 rw[itoa];split
 ·rw[List.mem_cons];rintro(h|h)
  ·revert h;decide
  ·exact A6H _ h
 ·exact A6H _
theorem A3J (ss:List UInt8) (n:Nat) (x:Int) (hn:n<1000000000) (h0:n≠0) (hd: (46:UInt8)∉ss) (hw:parseIntB 64 ss= .ok x):
  A9v (L5 (ss++46::R7 n) 48) ss (L5 (R7 n) 48) x n:=by
 refine⟨A2n _ _ _ _ (by decide),hd,hw,A6x n hn h0,?_,λc hc=>A7q n c (B1b hc),?_,by omega,by omega⟩
 ·have:=A3p (R7 n) 48;rw[P6 n hn] at this;exact this
 ·have h1:=A2Q (R7 n) 48
  rw[P6 n hn] at h1;rw[h1];exact A0T n hn
theorem A7y (s n:Int) (AD:0<=s) (AA:s<=9223372036854775807) (AB:0<n) (AC:n<1000000000):∃p,A9v (C9 s n) (itoa s) p s n:=by
 have h:=A3J (itoa s) n.toNat s (by omega) (by omega) (A2f s) (T0 s (by omega) AA);rw[C9,if_neg (by omega),if_neg (by omega)];rw[show((n.toNat:Nat):Int)=n by omega] at h;exact⟨_,h⟩
theorem A7x (s n:Int) (AA:s<0) (AD: -9223372036854775808<=s) (AB:0<n) (AC:n<1000000000):∃p,A9v (C9 s n) (45::itoa (-(s+1))) p (s+1) (1000000000-n):=by
 have hw:parseIntB 64 (45::itoa (-(s+1)))= .ok (s+1):=by
  rw[A2H _ (by omega),A1c _ (-(s+1)).toNat (X0 _ (by omega)) (by omega)];congr 1;omega
 have hd: (46:UInt8)∉(45::itoa (-(s+1)):List UInt8):=by
  rw[List.mem_cons];rintro(h|h)
  ·revert h;decide
  ·exact A2f _ h
 have h:=A3J (45::itoa (-(s+1))) (1000000000-n).toNat (s+1) (by omega) (by omega) hd hw;rw[C9,if_neg (by omega),if_pos AA];rw[show(((1000000000-n).toNat:Nat):Int)=1000000000-n by omega] at h;exact⟨_,h⟩
end Go.Proofs.YtkanmkcojlefbaaGreatDoor
namespace Go.Proofs.YtkanmkcojlefbaaGreatDoor
open Go.RowKit Go.Maps Go.WideMaps Go.ChangeMaps
theorem A4x:Keyed Tryz.prog 9:=string_keyed Tryz.underlying9
theorem A4y (k:List UInt8) (h:k.length<=9223372036854775807):keyOf Tryz.prog 9 (str k)=some (.string k):=by
 have:=keyOf_string_mk (P:=Tryz.prog) (k:=9) Tryz.underlying9 (s:=⟨k.toArray⟩) (by rw[I6];unfold maxLen;omega);simpa using this
theorem B2H (v:List UInt8) (h:v.length<=9223372036854775807):plainElem (H:=Unit) Tryz.prog 9 (str v)=some (.lit (.string v),[]):=by
 have:=plainElem_string (H:=Unit) (P:=Tryz.prog) (e:=9) Tryz.underlying9 (s:=⟨v.toArray⟩) (by rw[I6];unfold maxLen;omega);simpa using this
def A4i (D:DataW Unit) (m:List UInt8->Option (List UInt8)):Prop:=∀k,match m k with
 |some v=>has D (.string k)=true/\∀z,D.atKey (.string k) z= .lit (.string v)
 |none=>has D (.string k)=false
def M9 (w:World) (b n:Nat) (m:List UInt8->Option (List UInt8)):Prop:=∃D:DataW Unit,w.ownsMap Tryz.prog 9 (plainElem Tryz.prog 9) b n D/\A4i D m
theorem M9.lt {w:World} {b n:Nat} {m:List UInt8->Option (List UInt8)} (h:M9 w b n m):b<w.heap.size:=by
 obtain⟨D,h,_⟩:=h;exact h.lt
theorem M9.block {w w':World} {b n:Nat} {m:List UInt8->Option (List UInt8)} (h:M9 w b n m) (hb:w'.heap[b]?=w.heap[b]?):M9 w' b n m:=by
 obtain⟨D,⟨es,AA,h1,h2⟩,h3⟩:=h;exact⟨D,⟨es,AA,hb.trans h1,h2⟩,h3⟩
theorem M9.fr {w w':World} {b n:Nat} {m:List UInt8->Option (List UInt8)} (h:M9 w b n m) {B:Nat} {S:List Nat} (f:Fr B S w w') (hS:b∉S):M9 w' b n m:=by
 obtain⟨D,⟨es,AA,h1,h2⟩,h3⟩:=h;exact⟨D,⟨es,AA,f.same h1 hS (.inr λc fz e=>by cases e),h2⟩,h3⟩
theorem M9.below {w w':World} {b n:Nat} {m:List UInt8->Option (List UInt8)} (h:M9 w b n m) (f:Below w.heap.size w w'):M9 w' b n m:=h.block (f.block b h.lt)
theorem M9.mono {w:World} {b n n':Nat} {m:List UInt8->Option (List UInt8)} (h:M9 w b n m) (hn:n<=n'):M9 w b n' m:=by
 obtain⟨D,h1,h2⟩:=h;exact⟨D,h1.mono hn,h2⟩
theorem A8F:A4i (.map []) (λ_=>none):=λ_=>rfl
theorem M9.made (w:World):M9 (w.alloc (.map #[] 0)) w.heap.size 0 (λ_=>none):=⟨_,World.ownsMap_made ..,A8F⟩
def O2 (m:List UInt8->Option (List UInt8)) (k v:List UInt8):List UInt8->Option (List UInt8):=λx=>if x=k then some v else m x
theorem U6 (m:List UInt8->Option (List UInt8)) (k v:List UInt8):O2 m k v k=some v:=by simp[O2]
theorem R9 (m:List UInt8->Option (List UInt8)) (k v x:List UInt8) (h:x≠k):O2 m k v x=m x:=by simp[O2,h]
theorem A4i.put {D:DataW Unit} {m:List UInt8->Option (List UInt8)} (h:A4i D m) (hm:IsMap D) (k v:List UInt8):A4i (D.put (.string k) (.lit (.string v))) (O2 m k v):=by
 intro x;by_cases hx:x=k
 ·subst hx
  rw[U6];exact⟨has_put_same hm (show WideAt.IsKeyLit (.string x) by simp[WideAt.IsKeyLit]) _,λz=>atKey_put_same hm (show WideAt.IsKeyLit (.string x) by simp[WideAt.IsKeyLit]) _ z⟩
 ·have AA: (Lit.string x)≠Lit.string k:=λe=>hx (by injection e)
  have h0:=h x;rw[R9 _ _ _ _ hx];cases AB:m x with
  |none=>rw[AB] at h0;simp only at h0⊢;rw[has_put_other AA];exact h0
  |some u=>rw[AB] at h0;simp only at h0⊢;exact⟨by rw[has_put_other AA];exact h0.1,λz=>by rw[atKey_put_other AA];exact h0.2 z⟩
theorem A0w {w w':World} {b:Nat} (h:w.grownBy w' (some b)) (B:Nat):Fr B [b] w w':=Fr.of_grown h [b] (λk e=> .inl (by cases e;simp))
theorem M9.update {w:World} {b n t:Nat} {m:List UInt8->Option (List UInt8)} (h:M9 w b n m) (ht:Tryz.prog.underlying t=some (.map 9 9)) (hn:n<1099511627776) (k v:List UInt8) (hk:k.length<=9223372036854775807) (hv:v.length<=9223372036854775807):
  ∃w',(Instr.mapUpdate t (.map (some b)) (str k) (str v)).run Tryz.prog w= .ok () w'/\M9 w' b (n+1) (O2 m k v)/\Fr w.heap.size [b] w w':=by
 obtain⟨D,h1,h2⟩:=h;obtain⟨w',hr,ho,hg⟩:=h1.update A4x ht (by unfold maxLen;omega) (A4y k hk) (B2H v hv);exact⟨w',hr,⟨_,ho,h2.put h1.isMap k v⟩,A0w hg _⟩
theorem B0O (w:World): (zeroValue 9).run Tryz.prog w= .ok (str []) w:=by kernel_rfl
theorem M9.look2 {w:World} {b n t:Nat} {m:List UInt8->Option (List UInt8)} (h:M9 w b n m) (ht:Tryz.prog.underlying t=some (.map 9 9)) (k:List UInt8) (hk:k.length<=9223372036854775807):
  (Instr.lookup t (.map (some b)) (str k) true).run Tryz.prog w= .ok (.tuple #[str ((m k).getD []),.bool (m k).isSome]) w:=by
 obtain⟨D,h1,h2⟩:=h;obtain⟨v,ps,hr,hv⟩:=h1.look_ok A4x ht (B0O w) (B2H [] (by simp)) (A4y k hk);obtain⟨s,rfl,hz,-⟩:=plainElem_string_inv Tryz.underlying9 hv;have hk:=h2 k;rw[hr];cases hm:m k with
 |none=>
  rw[hm] at hk;simp only at hk;rw[atKey_of_not_has hk] at hz;simp only[Prod.mk.injEq,DataW.lit.injEq,Lit.string.injEq] at hz
  have:s=⟨#[]⟩:=by
   apply ByteArray.ext;apply Array.ext';simpa using hz.1.symm
  rw[this,hk];rfl
 |some u=>
  rw[hm] at hk;simp only at hk;rw[hk.2] at hz;simp only[Prod.mk.injEq,DataW.lit.injEq,Lit.string.injEq] at hz
  have:s=⟨u.toArray⟩:=by
   apply ByteArray.ext;apply Array.ext';simpa using hz.1.symm
  rw[this,hk.1];rfl
theorem M9.look1 {w:World} {b n t:Nat} {m:List UInt8->Option (List UInt8)} (h:M9 w b n m) (ht:Tryz.prog.underlying t=some (.map 9 9)) (k:List UInt8) (hk:k.length<=9223372036854775807):
  (Instr.lookup t (.map (some b)) (str k) false).run Tryz.prog w= .ok (str ((m k).getD [])) w:=by
 obtain⟨D,h1,h2⟩:=h;obtain⟨v,ps,hr,hv⟩:=h1.lookup A4x ht (B0O w) (B2H [] (by simp)) (A4y k hk);obtain⟨s,rfl,hz,-⟩:=plainElem_string_inv Tryz.underlying9 hv;have hk:=h2 k;rw[hr];cases hm:m k with
 |none=>
  rw[hm] at hk;simp only at hk;rw[atKey_of_not_has hk] at hz;simp only[Prod.mk.injEq,DataW.lit.injEq,Lit.string.injEq] at hz
  have:s=⟨#[]⟩:=by
   apply ByteArray.ext;apply Array.ext';simpa using hz.1.symm
  rw[this];rfl
 |some u=>
  rw[hm] at hk;simp only at hk;rw[hk.2] at hz;simp only[Prod.mk.injEq,DataW.lit.injEq,Lit.string.injEq] at hz
  have:s=⟨u.toArray⟩:=by
   apply ByteArray.ext;apply Array.ext';simpa using hz.1.symm
  rw[this];rfl
theorem B0w (w:World) (t:Nat) (ht:Tryz.prog.underlying t=some (.map 9 9)) (k:List UInt8) (hk:k.length<=9223372036854775807): (Instr.lookup t (.map none) (str k) true).run Tryz.prog w= .ok (.tuple #[str [],.bool false]) w:=by
 have:=Maps.look_nil (P:=Tryz.prog) true A4x ht (B0O w) (A4y k hk);simpa using this
theorem B0v (w:World) (t:Nat) (ht:Tryz.prog.underlying t=some (.map 9 9)) (k:List UInt8) (hk:k.length<=9223372036854775807): (Instr.lookup t (.map none) (str k) false).run Tryz.prog w= .ok (str []) w:=by
 have:=Maps.look_nil (P:=Tryz.prog) false A4x ht (B0O w) (A4y k hk);simpa using this
end Go.Proofs.YtkanmkcojlefbaaGreatDoor
namespace Go.Proofs.YtkanmkcojlefbaaGreatDoor
open Go.Lib
abbrev KV:=List UInt8->Option (List UInt8)
theorem B2G (a b:List UInt8) (c:UInt8) (h:c∉a): (a++c::b).idxOf c=a.length:=by
 rw[List.idxOf_append,if_neg h,List.idxOf_cons_self];omega
theorem A1o (a b:List UInt8) (c:UInt8) (h:c∉a): (a++c::b).take ((a++c::b).idxOf c)=a:=by
 rw[B2G a b c h,List.take_left]
theorem A4r (a b:List UInt8) (c:UInt8) (h:c∉a): (a++c::b).drop ((a++c::b).idxOf c+1)=b:=by
 rw[B2G a b c h,<-List.drop_drop,List.drop_left];rfl
theorem A6u (a b:List UInt8) (c:UInt8):c∈a++c::b:=by simp
theorem A7r (u:Nat): (32:UInt8)∉decDigits u:=λh=>by
 have:=(Y1 u _ h).1;revert this;decide
def H0:List UInt8:=[112,97,116,104]
def I3:List UInt8:=[108,105,110,107,112,97,116,104]
def N9:List UInt8:=[115,105,122,101]
def V2:List UInt8:=[117,105,100]
def V1:List UInt8:=[103,105,100]
def F8:List UInt8:=[117,110,97,109,101]
def F7:List UInt8:=[103,110,97,109,101]
def H6:List UInt8:=[109,116,105,109,101]
def J5:List UInt8:=[97,116,105,109,101]
def J6:List UInt8:=[99,116,105,109,101]
def F6:List (List UInt8):=[H0,I3,N9,V2,V1,F8,F7,H6,J5,J6]
def F0 (k v:List UInt8):Bool:= !(k==[])&& !(decide ((61:UInt8)∈k))&& (if k=H0\/k=I3\/k=F8\/k=F7 then !(decide ((0:UInt8)∈v)) else !(decide ((0:UInt8)∈k)))
theorem M7 {k v:List UInt8} (h:F0 k v=true):k≠ []/\(61:UInt8)∉k:=by
 simp only[F0,Bool.and_eq_true,Bool.not_eq_true',beq_eq_false_iff_ne,decide_eq_false_iff_not] at h;exact⟨h.1.1,h.1.2⟩
def D7 (L:List (List UInt8×List UInt8)):List UInt8:=(L.map λp=>X6 p.1 p.2).flatten
theorem T7 (p:List UInt8×List UInt8) (L:List (List UInt8×List UInt8)):D7 (p::L)=X6 p.1 p.2++D7 L:=rfl
theorem A6Q (L M:List (List UInt8×List UInt8)):D7 (L++M)=D7 L++D7 M:=by simp[D7]
def E0 (m:KV):List (List UInt8×List UInt8)->KV
 | []=>m
 |p::L=>E0 (O2 m p.1 p.2) L
theorem A5H (m:KV) (L M:List (List UInt8×List UInt8)):E0 m (L++M)=E0 (E0 m L) M:=by
 induction L generalizing m with
 |nil=>rfl
 |cons p L ih=>exact ih _
theorem B1D (m:KV) (L:List (List UInt8×List UInt8)) (h:∀p∈L,m p.1=some p.2):∀ (m0:KV) (k:List UInt8),E0 m0 L k=if k∈L.map (·.1) then m k else m0 k:=by
 induction L with
 |nil=>intro m0 k;simp[E0]
 |cons p L ih=>
  intro m0 k;rw[E0,ih (λq hq=>h q (by simp[hq]))];by_cases hk:k∈L.map (·.1)
  ·rw[if_pos hk,if_pos (by rw[List.map_cons];exact List.mem_cons_of_mem _ hk)]
  ·rw[if_neg hk]
   by_cases hp:k=p.1
   ·subst hp;rw[U6,if_pos (by simp),h p (by simp)]
   ·rw[R9 _ _ _ _ hp,if_neg (by
     intro hm;rcases List.mem_cons.1 (by simpa using hm:k∈p.1::L.map (·.1)) with e|e
     ·exact hp e
     ·exact hk e)]
theorem A9P (m:KV) (L:List (List UInt8×List UInt8)) (h:∀p∈L,m p.1=some p.2) (hk:∀k,m k≠none->k∈L.map (·.1)):E0 (λ_=>none) L=m:=by
 funext k
 rw[B1D m L h];split
 ·rfl
 ·rename_i hn
  cases hm:m k with
  |none=>rfl
  |some v=>exact absurd (hk k (by rw[hm];simp)) hn
structure Pax where
 path:Option (List UInt8)
 link:Option (List UInt8)
 uname:Option (List UInt8)
 gname:Option (List UInt8)
 uid:Option Int
 gid:Option Int
 size:Option Int
 mtime:Option (Int×Int)
 atime:Option (Int×Int)
 ctime:Option (Int×Int)
def tIn (t:Int×Int):Prop:=0<=t.1/\t.1<1000000000/\-100000000000000000<=t.2/\t.2<=100000000000000000
def nIn (n:Int):Prop:= -9223372036854775808<=n/\n<=9223372036854775807
structure B4p (m:KV) (P:Pax):Prop where
 path:m H0=P.path
 link:m I3=P.link
 uname:m F8=P.uname
 gname:m F7=P.gname
 uid:m V2=P.uid.map itoa
 gid:m V1=P.gid.map itoa
 size:m N9=P.size.map itoa
 mtime:m H6=P.mtime.map λt=>C9 t.2 t.1
 atime:m J5=P.atime.map λt=>C9 t.2 t.1
 ctime:m J6=P.ctime.map λt=>C9 t.2 t.1
 uidIn:∀n∈P.uid,nIn n
 gidIn:∀n∈P.gid,nIn n
 sizeIn:∀n∈P.size,nIn n
 mtimeIn:∀t∈P.mtime,tIn t
 atimeIn:∀t∈P.atime,tIn t
 ctimeIn:∀t∈P.ctime,tIn t
end Go.Proofs.YtkanmkcojlefbaaGreatDoor
namespace Go.Proofs.YtkanmkcojlefbaaGreatDoor
open Go.RowKit Go.Maps
def A2Z (w:World) (mb:Nat):Prop:=∃ (D:DataW Unit) (n:Nat),w.ownsMap Tryz.prog 9 (plainElem Tryz.prog 4) mb n D/\∀k,D.atKey (.string k) (.lit (.bool false))= .lit (.bool (decide (k∈F6)))
structure Gl (G0:Nat) (E:Nat->Addr) (w:World):Prop where
 le:G0<=w.heap.size
 g19:19<=G0
 err:∀i,i<7->w.cell? ⟨i,0,none⟩=some (I7 (E i))
 db:w.cell? ⟨15,7,none⟩=some (.int .u8 3)
 pow:Lib.TabIs Tryz.prog w "internal/strconv.uint64pow10" .u64 Lib.pow10Tab
 keys:∃mb,mb<G0/\w.cell? ⟨7,0,none⟩=some (.map (some mb))/\A2Z w mb
theorem B5T:Tryz.prog.globalNamed "internal/strconv.uint64pow10" =some 10:=by kernel_rfl
theorem Gl.same {G0:Nat} {E:Nat->Addr} {w w':World} (h:Gl G0 E w) (AB:w.heap.size<=w'.heap.size) (hb:∀k,k<G0->w'.heap[k]?=w.heap[k]?):Gl G0 E w':=by
 have hc:∀k o,k<G0->w'.cell? ⟨k,o,none⟩=w.cell? ⟨k,o,none⟩:=λk o hk=>zZ (w:=w) (a:=⟨k,o,none⟩) (hb k hk);have g:=h.g19;refine⟨zP h.le AB,g,λi hi=>by rw[hc i 0 (by omega)];exact h.err i hi,by rw[hc 15 7 (by omega)];exact h.db, ?_, ?_⟩
 ·have:=h.pow
  unfold Lib.TabIs World.var? at this⊢;simp only[B5T,Option.bind_some] at this⊢;rw[hb 10 (by omega)];exact this
 ·obtain⟨mb,hm,h1,D,n,⟨es,AA,h2,h3⟩,h4⟩:=h.keys
  exact⟨mb,hm,by rw[hc 7 0 (by omega)];exact h1,D,n,⟨es,AA,(hb mb hm).trans h2,h3⟩,h4⟩
theorem Gl.fr {G0:Nat} {E:Nat->Addr} {w w':World} (h:Gl G0 E w) {B:Nat} {S:List Nat} (f:Fr B S w w') (hB:G0<=B) (hS:∀k∈S,G0<=k):Gl G0 E w':=
 h.same f.size λk hk=>by
  obtain⟨o,ho⟩:∃o,w.heap[k]?=some o:=⟨_,Array.getElem?_eq_getElem (by have:=h.le;omega)⟩;rw[ho];exact f.same ho (λhm=>by have:=hS k hm;omega) (.inl (by omega))
theorem Gl.below {G0:Nat} {E:Nat->Addr} {w w':World} (h:Gl G0 E w) (f:Below w.heap.size w w'):Gl G0 E w':=
 h.same f.size λk hk=>f.block k (by have:=h.le;omega)
theorem Gl.alloc {G0:Nat} {E:Nat->Addr} {w:World} (h:Gl G0 E w) (o:Obj):Gl G0 E (w.alloc o):=h.below ((zD _ w).alloc (zB _) _)
theorem Gl.drew {G0:Nat} {E:Nat->Addr} {w:World} (h:Gl G0 E w):Gl G0 E w.drew:=h.same (zB _) λ_ _=>rfl
theorem Gl.set {G0:Nat} {E:Nat->Addr} {w:World} (h:Gl G0 E w) (p:Addr) (hp:G0<=p.block) (v:Value):Gl G0 E (w.setCell p v):=
 h.fr (B:=G0) (S:=[p.block]) ((Fr.refl _ _ w).setCell (.inl (by simp)) v) (zB _) (by simpa using hp)
end Go.Proofs.YtkanmkcojlefbaaGreatDoor
namespace Go.Proofs.YtkanmkcojlefbaaGreatDoor
open Go.RowKit
def fm (u p g:Bool):Int:=(if u then 2 else 0)+(if p then 4 else 0)+(if g then 8 else 0)
theorem I5 (w:World) (a:Nat) (u p g:Bool) (h:w.heap[a]?=some (.cells #[.int .i64 (fm u p g)] 128 (0,0))) (k:Int) (u2 p2 g2:Bool)
  (hk: (k=2/\u2=false/\p2=p/\g2=g)\/(k=4/\u2=u/\p2=false/\g2=g)\/(k=8/\u2=u/\p2=p/\g2=false)):
  Calls Tryz.prog 95 #[.pointer (some ⟨a,0,none⟩),.int .i64 k] w (C4 (w.setCell ⟨a,0,none⟩ (.int .i64 (fm u2 p2 g2))) (.tuple #[])):=by
 have c0:w.cell? ⟨a,0,none⟩=some (.int .i64 (fm u p g)):=by rw[zA h];rfl
 have z0:w.frozen? ⟨a,0,none⟩=false:=zE h 0
 have e:bits .andNot .i64 (fm u p g) k=fm u2 p2 g2:=by
  rcases hk with ⟨rfl,rfl,rfl,rfl⟩|⟨rfl,rfl,rfl,rfl⟩|⟨rfl,rfl,rfl,rfl⟩
  ·cases u<;>cases p2<;>cases g2<;>kernel_rfl
  ·cases u2<;>cases p<;>cases g2<;>kernel_rfl
  ·cases u2<;>cases p2<;>cases g<;>kernel_rfl
 generalize fm u p g=f at*;generalize fm u2 p2 g2=f2 at*;clear hk h;go_enter Tryz.func95,Tryz.ntmps95
 go_wp2_with fail
 go_end0
 exact⟨rfl,rfl⟩
def J4 (w:World) (v:Value) (R:KV) (b0:Nat):Prop:=(v= .map none/\∀k,R k=none)\/∃rb n,v= .map (some rb)/\rb<b0/\M9 w rb n R/\n<=4294967296
theorem A0p:Tryz.prog.underlying 127=some (.map 9 9):=Tryz.underlying127
theorem J4.look2 {w:World} {v:Value} {R:KV} {b0:Nat} (h:J4 w v R b0) (k:List UInt8) (hk:k.length<=9223372036854775807):
  (Instr.lookup 127 v (str k) true).run Tryz.prog w= .ok (.tuple #[str ((R k).getD []),.bool (R k).isSome]) w:=by
 rcases h with ⟨rfl,h⟩|⟨rb,n,rfl,-,h,-⟩
 ·rw[h k];exact B0w w 127 A0p k hk
 ·exact h.look2 A0p k hk
structure AF (G0:Nat) (E:Nat->Addr) (b0:Nat) (H:Hd) (R:KV) (u p g q:Bool) (m:KV) (n:Nat) (w:World):Prop where
 gl:Gl G0 E w
 le:G0<=b0
 hH:w.heap[b0]?=some (.cells H.cells.toArray 130 (0,0))
 fF:w.heap[b0+1]?=some (.cells #[.int .i64 (fm u p g)] 128 (0,0))
 fM:w.heap[b0+2]?=some (.cells #[.map (some (b0+3))] 127 (0,0))
 mp:M9 w (b0+3) n m
 s1:∃s,w.heap[b0+4]?=some (.cells #[.string s] 9 (0,0))
 s2:∃s,w.heap[b0+5]?=some (.cells #[.string s] 9 (0,0))
 s3:∃s,w.heap[b0+6]?=some (.cells #[.string s] 9 (0,0))
 pr:w.heap[b0+7]?=some (.cells #[.bool q] 4 (0,0))
 rm:J4 w H.recs R b0
section
variable {G0:Nat} {E:Nat->Addr} {b0:Nat} {H:Hd} {R:KV} {u p g q:Bool} {m:KV} {n:Nat} {w w':World}
theorem AF.lt (h:AF G0 E b0 H R u p g q m n w):b0+7<w.heap.size:=A8 h.pr
theorem AF.kept (h:AF G0 E b0 H R u p g q m n w) {j:Nat} (f:Fr w.heap.size [j] w w') (hj:b0<j):
  Gl G0 E w'/\w'.heap[b0]?=some (.cells H.cells.toArray 130 (0,0))/\(j≠b0+1->w'.heap[b0+1]?=some (.cells #[.int .i64 (fm u p g)] 128 (0,0)))/\(j≠b0+2->w'.heap[b0+2]?=some (.cells #[.map (some (b0+3))] 127 (0,0)))/\
  (j≠b0+3->M9 w' (b0+3) n m)/\(j≠b0+4->∃s,w'.heap[b0+4]?=some (.cells #[.string s] 9 (0,0)))/\(j≠b0+5->∃s,w'.heap[b0+5]?=some (.cells #[.string s] 9 (0,0)))/\(j≠b0+6->∃s,w'.heap[b0+6]?=some (.cells #[.string s] 9 (0,0)))/\
  (j≠b0+7->w'.heap[b0+7]?=some (.cells #[.bool q] 4 (0,0)))/\J4 w' H.recs R b0:=by
 have hb:∀k o,w.heap[k]?=some o->k≠j->w'.heap[k]?=some o:=λk o hk AA=>f.same hk (by simpa using AA) (.inl (A8 hk));have le:=h.le;obtain⟨x1,h1⟩:=h.s1;obtain⟨x2,h2⟩:=h.s2;obtain⟨x3,h3⟩:=h.s3;refine⟨h.gl.fr f h.gl.le (by simp;omega),hb _ _ h.hH (by omega),λe=>hb _ _ h.fF (Ne.symm e),λe=>hb _ _ h.fM (Ne.symm e),λe=>h.mp.fr f (by simpa using Ne.symm e),λe=>⟨x1,hb _ _ h1 (Ne.symm e)⟩,λe=>⟨x2,hb _ _ h2 (Ne.symm e)⟩,λe=>⟨x3,hb _ _ h3 (Ne.symm e)⟩,λe=>hb _ _ h.pr (Ne.symm e),?_⟩;rcases h.rm with h|⟨rb,n',h1,h2,h3,h4⟩
 ·exact .inl h
 ·exact .inr ⟨rb,n',h1,h2,h3.fr f (by simp;omega),h4⟩
theorem AF.setF (h:AF G0 E b0 H R u p g q m n w) (u2 p2 g2:Bool):AF G0 E b0 H R u2 p2 g2 q m n (w.setCell ⟨b0+1,0,none⟩ (.int .i64 (fm u2 p2 g2))):=by
 obtain⟨k0,k1,k2,k3,k4,k5,k6,k7,k8,k9⟩:=h.kept (j:=b0+1) ((Fr.refl _ _ w).setCell (p:=⟨b0+1,0,none⟩) (.inl (by simp)) (.int .i64 (fm u2 p2 g2))) (by omega);exact⟨k0,h.le,k1,B6 _ h.fF,k3 (by omega),k4 (by omega),k5 (by omega),k6 (by omega),k7 (by omega),k8 (by omega),k9⟩
theorem AF.setS1 (h:AF G0 E b0 H R u p g q m n w) (x:ByteArray):AF G0 E b0 H R u p g q m n (w.setCell ⟨b0+4,0,none⟩ (.string x)):=by
 obtain⟨k0,k1,k2,k3,k4,k5,k6,k7,k8,k9⟩:=h.kept (j:=b0+4) ((Fr.refl _ _ w).setCell (p:=⟨b0+4,0,none⟩) (.inl (by simp)) (.string x)) (by omega);obtain⟨s,hs⟩:=h.s1;exact⟨k0,h.le,k1,k2 (by omega),k3 (by omega),k4 (by omega),⟨x,B6 _ hs⟩,k6 (by omega),k7 (by omega),k8 (by omega),k9⟩
theorem AF.setS2 (h:AF G0 E b0 H R u p g q m n w) (x:ByteArray):AF G0 E b0 H R u p g q m n (w.setCell ⟨b0+5,0,none⟩ (.string x)):=by
 obtain⟨k0,k1,k2,k3,k4,k5,k6,k7,k8,k9⟩:=h.kept (j:=b0+5) ((Fr.refl _ _ w).setCell (p:=⟨b0+5,0,none⟩) (.inl (by simp)) (.string x)) (by omega);obtain⟨s,hs⟩:=h.s2;exact⟨k0,h.le,k1,k2 (by omega),k3 (by omega),k4 (by omega),k5 (by omega),⟨x,B6 _ hs⟩,k7 (by omega),k8 (by omega),k9⟩
theorem AF.setS3 (h:AF G0 E b0 H R u p g q m n w) (x:ByteArray):AF G0 E b0 H R u p g q m n (w.setCell ⟨b0+6,0,none⟩ (.string x)):=by
 obtain⟨k0,k1,k2,k3,k4,k5,k6,k7,k8,k9⟩:=h.kept (j:=b0+6) ((Fr.refl _ _ w).setCell (p:=⟨b0+6,0,none⟩) (.inl (by simp)) (.string x)) (by omega);obtain⟨s,hs⟩:=h.s3;exact⟨k0,h.le,k1,k2 (by omega),k3 (by omega),k4 (by omega),k5 (by omega),k6 (by omega),⟨x,B6 _ hs⟩,k8 (by omega),k9⟩
theorem AF.setQ (h:AF G0 E b0 H R u p g q m n w) (q2:Bool):AF G0 E b0 H R u p g q2 m n (w.setCell ⟨b0+7,0,none⟩ (.bool q2)):=by
 obtain⟨k0,k1,k2,k3,k4,k5,k6,k7,k8,k9⟩:=h.kept (j:=b0+7) ((Fr.refl _ _ w).setCell (p:=⟨b0+7,0,none⟩) (.inl (by simp)) (.bool q2)) (by omega);exact⟨k0,h.le,k1,k2 (by omega),k3 (by omega),k4 (by omega),k5 (by omega),k6 (by omega),k7 (by omega),B6 _ h.pr,k9⟩
theorem AF.below (h:AF G0 E b0 H R u p g q m n w) (f:Below w.heap.size w w'):AF G0 E b0 H R u p g q m n w':=by
 obtain⟨k0,k1,k2,k3,k4,k5,k6,k7,k8,k9⟩:=h.kept (j:=w.heap.size) (Fr.of_below f _ _) (by have:=h.lt;omega);have:=h.lt;exact⟨k0,h.le,k1,k2 (by omega),k3 (by omega),k4 (by omega),k5 (by omega),k6 (by omega),k7 (by omega),k8 (by omega),k9⟩
theorem AF.put (h:AF G0 E b0 H R u p g q m n w) (hn:n<1099511627776) (k v:List UInt8) (hk:k.length<=9223372036854775807) (hv:v.length<=9223372036854775807):
  ∃w',(Instr.mapUpdate 127 (.map (some (b0+3))) (str k) (str v)).run Tryz.prog w= .ok () w'/\AF G0 E b0 H R u p g q (O2 m k v) (n+1) w'/\Below b0 w w':=by
 obtain⟨w',hr,hm,f⟩:=h.mp.update A0p hn k v hk hv;obtain⟨k0,k1,k2,k3,k4,k5,k6,k7,k8,k9⟩:=h.kept f (by omega);refine⟨w',hr,⟨k0,h.le,k1,k2 (by omega),k3 (by omega),hm,k5 (by omega),k6 (by omega),k7 (by omega),k8 (by omega),k9⟩,?_⟩;have:=(Fr.below (f.wide (B':=w.heap.size) (S':=[b0+3]) (zB _) (λk hk _=>hk)))
 exact⟨f.os,f.tape,f.output,f.size,λi hi=>by
  have hl:=h.lt;obtain⟨o,ho⟩:∃o,w.heap[i]?=some o:=⟨_,Array.getElem?_eq_getElem (by omega)⟩;rw[ho];exact f.same ho (by simp;omega) (.inl (by omega))⟩
theorem AF.lookR (h:AF G0 E b0 H R u p g q m n w) (k:List UInt8) (hk:k.length<=9223372036854775807): (Instr.lookup 127 H.recs (str k) true).run Tryz.prog w= .ok (.tuple #[str ((R k).getD []),.bool (R k).isSome]) w:=h.rm.look2 k hk
end
end Go.Proofs.YtkanmkcojlefbaaGreatDoor
