/-
  Part of the proof; holds the texts Brg.
-/
import Derived.Test.YtkanmkcojlefbaaGreatDoorM25
set_option maxRecDepth 100000
set_option linter.unusedSimpArgs false
set_option linter.unusedVariables false
namespace Go.Proofs.YtkanmkcojlefbaaGreatDoor
open Go.Lib
theorem B1v {b:UInt8} (h:A2a b=true):b.toNat<128:=by
 simp only[A2a,Bool.and_eq_true,decide_eq_true_eq] at h;exact h.1
theorem A8m {l:List UInt8} (h:D6 l=true):∀b∈l,b.toNat<128:=λb hb=>by
 simp only[D6,List.all_eq_true] at h;exact B1v (h b hb)
theorem A0P {l:List UInt8} (h:D6 l=true): (0:UInt8)∉l:=λhm=>by
 simp only[D6,List.all_eq_true] at h;have:=h 0 hm;revert this;decide
theorem U9 {n:Nat} {s fld:List UInt8} (h:V9 (List.replicate n 0) s fld) (hz: (0:UInt8)∉s) (hl:s.length<=n):D4 fld=s:=by
 rcases Nat.lt_or_eq_of_le hl with hl|hl
 ·rw[h.short (by rw[z7];exact hl)]
  exact A1o _ _ _ hz
 ·have:=h.full (by rw[z7];exact hl)
  subst this;rw[D4,List.idxOf_eq_length hz,List.take_length]
theorem V9.low {n:Nat} {s fld:List UInt8} (h:V9 (List.replicate n 0) s fld) (hs:D6 s=true):∀b∈fld,b.toNat<128:=λb hb=>by
 rcases h.mem b hb with rfl|h|h
 ·decide
 ·exact A8m hs b h
 ·rw[List.eq_of_mem_replicate h];decide
theorem A8r (n:Nat):D4 (List.replicate n 0)=[]:=by
 cases n with
 |zero=>rfl
 |succ n=>rw[D4,List.replicate_succ,List.idxOf_cons_self];rfl
theorem A5R (l:List UInt8):∀b∈U7 l,b∈l:=λb hb=>by
 unfold U7 at hb;split at hb
 ·exact List.mem_of_mem_take hb
 ·cases hb
theorem A5Q (l:List UInt8):∀b∈M5 l,b∈l:=λb hb=>by
 unfold M5 at hb;split at hb
 ·exact List.mem_of_mem_drop hb
 ·exact hb
theorem A9L {s:List UInt8} {c:UInt8} {i:Nat} (h:occAt s [c] i=true):s[i]?=some c:=by
 unfold occAt at h;cases hd:s.drop i with
 |nil=>rw[hd] at h;cases h
 |cons x r=>
  rw[hd] at h;have:c=x:=by simpa[List.isPrefixOf] using h
  have h2: (s.drop i)[0]?=some x:=by rw[hd];rfl
  rw[List.getElem?_drop] at h2;rw[this];simpa using h2
theorem A7d {l:List UInt8} (h:0<M4 l):l[(M4 l).toNat]?=some 47:=by
 unfold M4 at h⊢;unfold lastIndex at h⊢;split at h
 ·rename_i hl
  rw[if_pos hl];rcases lastOcc_spec (l.take (N6 l)) [47] ((l.take (N6 l)).length- [(47:UInt8)].length+1) with ⟨e,-⟩|⟨i,-,e,ho,-⟩
  ·omega
  ·rw[e]
   have:=A9L ho;rw[List.getElem?_take] at this;split at this
   ·simpa using this
   ·cases this
 ·omega
theorem A9d (l:List UInt8): (if U7 l=[] then M5 l else U7 l++47::M5 l)=l:=by
 unfold U7 M5;by_cases hs:J2 l=true
 ·rw[if_pos hs,if_pos hs]
  have h2:=hs;simp only[J2,Bool.and_eq_true,decide_eq_true_eq] at h2;obtain⟨⟨AA,ha⟩,h0,h3,h4,h5⟩:=h2;have AC:=A7d h0;obtain⟨AB,he⟩:=zM.1 AC
  rw[if_neg (λe=>by
   have:=congrArg List.length e;rw[zR,List.length_nil] at this;omega)]
  conv=>rhs;rw[<-List.take_append_drop (M4 l).toNat l]
  rw[List.drop_eq_getElem_cons AB,he]
 ·rw[if_neg hs,if_neg hs,if_pos rfl]
theorem typ_back (x:Int) (h:0<=x/\x<256): (([UInt8.ofNat x.toNat]:List UInt8)[0]?.getD 0).toNat=x:=by
 simp only[List.getElem?_cons_zero,Option.getD_some,UInt8.toNat_ofNat'];omega
theorem R1 (n u:Nat) (hn:2<=n) (h:u<8^ (n-1)): (C2 n u)[n-1]?=some 0:=by
 have hl:=D2 n u hn h;rw[V3] at hl⊢;rw[zH,List.length_singleton] at hl;rw[zT (by omega),show n-1- (Y9 n u).length=0 by omega];rfl
theorem W6 {n:Nat} {x:Int} (h:B8 n x=true):0<=x/\x.toNat<8^ (n-1):=by
 simp only[B8,decide_eq_true_eq] at h;refine⟨h.1,?_⟩
 have: ((x.toNat:Nat):Int)< ((8^ (n-1):Nat):Int):=by
  rw[Int.toNat_of_nonneg h.1];push_cast;exact h.2
 exact_mod_cast this
theorem B4J (n:Nat) (x:Int): (if B8 n x then x.toNat else 0)<8^ (n-1):=by
 split
 ·rename_i h;exact(W6 h).2
 ·exact Nat.pow_pos (by omega)
theorem C1.mem {B:C1} {b:UInt8} (h:b∈B.bytes):b∈B.name\/b∈B.mode\/b∈B.uid\/b∈B.gid\/b∈B.size\/b∈B.mtime\/b∈B.chk\/b∈B.typ\/b∈B.link\/b∈B.magic\/b∈B.ver\/b∈B.user\/b∈B.group\/b∈B.maj\/b∈B.mnr\/b∈B.rest:=by
 simpa only[C1.bytes,List.mem_append] using h
theorem A9G {B:C1} (V:RdV) (ok:B.Ok) (t:Int) (ht:0<=t/\t<128) (typ:B.typ=[UInt8.ofNat t.toNat]) (AC:∀b∈B.name,b.toNat<128) (AB:∀b∈B.link,b.toNat<128) (AE:∀b∈B.user,b.toNat<128) (AA:∀b∈B.group,b.toNat<128) (AD:∀b∈B.rest,b.toNat<128)
  (mode:B.mode=C2 8 V.mode/\V.mode<8^ (8-1)) (uid:B.uid=C2 8 V.uid/\V.uid<8^ (8-1)) (gid:B.gid=C2 8 V.gid/\V.gid<8^ (8-1)) (size:B.size=C2 12 V.size/\V.size<8^ (12-1)) (mtime:B.mtime=C2 12 V.mtime/\V.mtime<8^ (12-1))
  (maj:P8 B.maj V.maj/\B.maj[7]?=some 0) (mnr:P8 B.mnr V.mnr/\B.mnr[7]?=some 0) (magic:B.magic=[117,115,116,97,114,0]) (ver:B.ver=[48,48]) (chk:B.chk=C2 7 (X8 B.bytes 512)++[32]) (rest:B.rest.drop 163=[0,0,0,0]):RdF B V where
 ok:=ok
 magic:=magic
 chk:=chk
 end4:=rest
 low:=λb hb=>by
  have n1:∀ (n u:Nat),2<=n->n<=12->u<8^ (n-1)->∀b∈C2 n u,b.toNat<128:=λn u h1 h2 h3=>(P8.field n u h1 h2 h3).low;rcases C1.mem hb with h|h|h|h|h|h|h|h|h|h|h|h|h|h|h|h
  ·exact AC b h
  ·rw[mode.1] at h;exact n1 8 _ (by omega) (by omega) mode.2 b h
  ·rw[uid.1] at h;exact n1 8 _ (by omega) (by omega) uid.2 b h
  ·rw[gid.1] at h;exact n1 8 _ (by omega) (by omega) gid.2 b h
  ·rw[size.1] at h;exact n1 12 _ (by omega) (by omega) size.2 b h
  ·rw[mtime.1] at h;exact n1 12 _ (by omega) (by omega) mtime.2 b h
  ·rw[chk] at h;exact(P8.chk _ (A3Z _)).low b h
  ·rw[typ,List.mem_singleton] at h;subst h;rw[UInt8.toNat_ofNat'];omega
  ·exact AB b h
  ·rw[magic] at h;exact(by decide:∀b∈([117,115,116,97,114,0]:List UInt8),b.toNat<128) b h
  ·rw[ver] at h;exact(by decide:∀b∈([48,48]:List UInt8),b.toNat<128) b h
  ·exact AE b h
  ·exact AA b h
  ·exact maj.1.low b h
  ·exact mnr.1.low b h
  ·exact AD b h
 mode:=by rw[mode.1];exact P8.field 8 _ (by omega) (by omega) mode.2
 uid:=by rw[uid.1];exact P8.field 8 _ (by omega) (by omega) uid.2
 gid:=by rw[gid.1];exact P8.field 8 _ (by omega) (by omega) gid.2
 size:=by rw[size.1];exact P8.field 12 _ (by omega) (by omega) size.2
 mtime:=by rw[mtime.1];exact P8.field 12 _ (by omega) (by omega) mtime.2
 maj:=maj.1
 mnr:=mnr.1
 zmode:=by rw[mode.1];exact R1 8 _ (by omega) mode.2
 zuid:=by rw[uid.1];exact R1 8 _ (by omega) uid.2
 zgid:=by rw[gid.1];exact R1 8 _ (by omega) gid.2
 zsize:=by rw[size.1];exact R1 12 _ (by omega) size.2
 zmtime:=by rw[mtime.1];exact R1 12 _ (by omega) mtime.2
 zmaj:=maj.2
 zmnr:=mnr.2
def uV (H:Hd):RdV:=⟨H.mode.toNat,H.uid.toNat,H.gid.toNat,H.size.toNat,H.sec.toNat,H.maj.toNat,H.mnr.toNat⟩
structure B3i (H:Hd):Prop where
 name:D6 H.name=true
 link:D6 H.link=true
 user:D6 H.user=true
 group:D6 H.group=true
theorem A7P.rdf {H:Hd} {B:C1} (h:A7P H B) (hf:A6B H) (ha:B3i H) (ht:0<=H.typ/\H.typ<128):RdF B (uV H):=by
 obtain⟨pf,hp,hr⟩:=h.rest;have oc:∀ {n:Nat} {x:Int} {f:List UInt8},B8 n x=true->f=C2 n x.toNat->f=C2 n x.toNat/\x.toNat<8^ (n-1):=λh1 h2=>⟨h2,(W6 h1).2⟩
 have on:∀ {x:Int} {f:List UInt8},B8 8 x=true->f=C2 8 x.toNat->P8 f x.toNat/\f[7]?=some 0:=λh1 h2=>by
  have h3:=(W6 h1).2;rw[h2];exact⟨P8.field 8 _ (by omega) (by omega) h3,R1 8 _ (by omega) h3⟩
 have AA:pf.length=155:=by rw[hp.len,z7]
 refine A9G (uV H) h.ok H.typ ht h.typ (h.name.low (Y0 ha.name (A5Q _))) (h.link.low ha.link) (h.user.low ha.user) (h.group.low ha.group) ?_ (oc hf.mode h.mode) (oc hf.uid h.uid) (oc hf.gid h.gid) (oc hf.size h.size) (oc hf.mtime h.mtime) (on hf.maj h.maj) (on hf.mnr h.mnr) h.magic h.ver h.chk ?_
 ·intro b hb
  rw[hr] at hb;rcases List.mem_append.1 hb with hb|hb
  ·exact hp.low (Y0 ha.name (A5R _)) b hb
  ·rw[List.eq_of_mem_replicate hb];decide
 ·rw[hr,List.drop_append,AA,List.drop_eq_nil_of_le (by omega)];decide
theorem A7P.name_back {H:Hd} {B:C1} (h:A7P H B) (hf:A6B H) (ha:B3i H):A0U B=H.name:=by
 obtain⟨pf,hp,hr⟩:=h.rest;have AA:pf.length=155:=by rw[hp.len,z7]
 have h1:A0x B=U7 H.name:=by
  rw[A0x,hr,List.take_left' AA];exact U9 hp (A0P (Y0 ha.name (A5R _))) hf.pre
 have h2:D4 B.name=M5 H.name:=U9 h.name (A0P (Y0 ha.name (A5Q _))) hf.name;rw[A0U,h1,h2];exact A9d H.name
theorem A7P.back {H:Hd} {B:C1} (h:A7P H B) (hf:A6B H) (ha:B3i H) (ht:0<=H.typ/\H.typ<128) (hz:E5 H.mw H.mx=false):
  O7 B (uV H)= {H with mw:=0,aw:=0,ax:=0,cw:=0,cx:=0,xattr:= .map none,recs:= .map none,fmt:=6}:=by
 have e1:J9 B=H.typ:=by rw[J9,h.typ];exact typ_back _ (by omega)
 have hm: ((H.sec.toNat:Nat):Int)+62135596800=H.mx:=by
  have h1:=(W6 hf.mtime).1;rw[Int.toNat_of_nonneg h1,Hd.sec,hz];simp
 have cn:∀ {n:Nat} {x:Int},B8 n x=true->((x.toNat:Nat):Int)=x:=λh1=>Int.toNat_of_nonneg (W6 h1).1;rw[O7,A2V,e1,h.name_back hf ha,U9 h.link (A0P ha.link) hf.link,U9 h.user (A0P ha.user) hf.user,U9 h.group (A0P ha.group) hf.group];simp only[uV,Hd.nil,cn hf.mode,cn hf.uid,cn hf.gid,cn hf.size,cn hf.maj,cn hf.mnr,hm]
def R8 (R:KV) (s:List UInt8) (sz:Nat) (key:List UInt8):Bool:=(!D6 s||decide (sz<s.length))||decide (R key=some s)
def A0H (R:KV) (x:Int) (n:Nat) (key:List UInt8):Bool:= !B8 n x||decide (R key=some (itoa x))
def V4 (R:KV) (n x:Int) (key:List UInt8):Bool:= !E5 n x&& (R4 n x key||decide (R key=some (C9 (x-62135596800) n)))
theorem A2N (m R:KV) (s:List UInt8) (sz:Nat) (key:List UInt8):X7 m R s sz key key=if R8 R s sz key then some s else m key:=by
 unfold X7 R8;split<;>simp_all[U6]
theorem K0 (m R:KV) (s:List UInt8) (sz:Nat) (key x:List UInt8) (h:x≠key):X7 m R s sz key x=m x:=by
 unfold X7;split
 ·exact R9 _ _ _ _ h
 ·rfl
theorem A3g (m R:KV) (y:Int) (n:Nat) (key:List UInt8):A2S m R y n key key=if A0H R y n key then some (itoa y) else m key:=by
 unfold A2S A0H;split<;>simp_all[U6]
theorem I0 (m R:KV) (y:Int) (n:Nat) (key x:List UInt8) (h:x≠key):A2S m R y n key x=m x:=by
 unfold A2S;split
 ·exact R9 _ _ _ _ h
 ·rfl
theorem A3o (m R:KV) (n y:Int) (key:List UInt8):A1F m R n y key key=if V4 R n y key then some (C9 (y-62135596800) n) else m key:=by
 unfold A1F V4;split
 ·simp_all
 ·split<;>simp_all[U6]
theorem D8 (m R:KV) (n y:Int) (key x:List UInt8) (h:x≠key):A1F m R n y key x=m x:=by
 unfold A1F;split
 ·rfl
 ·split
  ·exact R9 _ _ _ _ h
  ·rfl
section
variable (H:Hd) (R:KV)
theorem A5S: (H.st R).m=A1F (A1F (A1F (A2S (A2S (A2S (X7 (X7 (X7 (X7 (λ_=>none) R H.name 100 H0) R H.link 100 I3) R H.user 32 F8) R H.group 32 F7) R H.uid 8 V2) R H.gid 8 V1) R H.size 12 N9) R H.mw H.mx H6) R H.aw H.ax J5) R H.cw H.cx J6:=rfl
theorem A4e: (H.st R).m H0=if R8 R H.name 100 H0 then some H.name else none:=by
 rw[A5S,D8 _ _ _ _ _ _ (by decide),D8 _ _ _ _ _ _ (by decide),D8 _ _ _ _ _ _ (by decide),I0 _ _ _ _ _ _ (by decide),I0 _ _ _ _ _ _ (by decide),I0 _ _ _ _ _ _ (by decide),K0 _ _ _ _ _ _ (by decide),K0 _ _ _ _ _ _ (by decide),K0 _ _ _ _ _ _ (by decide),A2N]
theorem A4c: (H.st R).m I3=if R8 R H.link 100 I3 then some H.link else none:=by
 rw[A5S,D8 _ _ _ _ _ _ (by decide),D8 _ _ _ _ _ _ (by decide),D8 _ _ _ _ _ _ (by decide),I0 _ _ _ _ _ _ (by decide),I0 _ _ _ _ _ _ (by decide),I0 _ _ _ _ _ _ (by decide),K0 _ _ _ _ _ _ (by decide),K0 _ _ _ _ _ _ (by decide),A2N,K0 _ _ _ _ _ _ (by decide)]
theorem A3Q: (H.st R).m F8=if R8 R H.user 32 F8 then some H.user else none:=by
 rw[A5S,D8 _ _ _ _ _ _ (by decide),D8 _ _ _ _ _ _ (by decide),D8 _ _ _ _ _ _ (by decide),I0 _ _ _ _ _ _ (by decide),I0 _ _ _ _ _ _ (by decide),I0 _ _ _ _ _ _ (by decide),K0 _ _ _ _ _ _ (by decide),A2N,K0 _ _ _ _ _ _ (by decide),K0 _ _ _ _ _ _ (by decide)]
theorem A3O: (H.st R).m F7=if R8 R H.group 32 F7 then some H.group else none:=by
 rw[A5S,D8 _ _ _ _ _ _ (by decide),D8 _ _ _ _ _ _ (by decide),D8 _ _ _ _ _ _ (by decide),I0 _ _ _ _ _ _ (by decide),I0 _ _ _ _ _ _ (by decide),I0 _ _ _ _ _ _ (by decide),A2N,K0 _ _ _ _ _ _ (by decide),K0 _ _ _ _ _ _ (by decide),K0 _ _ _ _ _ _ (by decide)]
theorem B4f (x:List UInt8) (h1:x≠H0) (h2:x≠I3) (h3:x≠F8) (h4:x≠F7):X7 (X7 (X7 (X7 (λ_=>none) R H.name 100 H0) R H.link 100 I3) R H.user 32 F8) R H.group 32 F7 x=none:=by
 rw[K0 _ _ _ _ _ _ h4,K0 _ _ _ _ _ _ h3,K0 _ _ _ _ _ _ h2,K0 _ _ _ _ _ _ h1]
theorem A7E: (H.st R).m V2=if A0H R H.uid 8 V2 then some (itoa H.uid) else none:=by
 rw[A5S,D8 _ _ _ _ _ _ (by decide),D8 _ _ _ _ _ _ (by decide),D8 _ _ _ _ _ _ (by decide),I0 _ _ _ _ _ _ (by decide),I0 _ _ _ _ _ _ (by decide),A3g,B4f _ _ _ (by decide) (by decide) (by decide) (by decide)]
theorem A7D: (H.st R).m V1=if A0H R H.gid 8 V1 then some (itoa H.gid) else none:=by
 rw[A5S,D8 _ _ _ _ _ _ (by decide),D8 _ _ _ _ _ _ (by decide),D8 _ _ _ _ _ _ (by decide),I0 _ _ _ _ _ _ (by decide),A3g,I0 _ _ _ _ _ _ (by decide),B4f _ _ _ (by decide) (by decide) (by decide) (by decide)]
theorem A4f: (H.st R).m N9=if A0H R H.size 12 N9 then some (itoa H.size) else none:=by
 rw[A5S,D8 _ _ _ _ _ _ (by decide),D8 _ _ _ _ _ _ (by decide),D8 _ _ _ _ _ _ (by decide),A3g,I0 _ _ _ _ _ _ (by decide),I0 _ _ _ _ _ _ (by decide),B4f _ _ _ (by decide) (by decide) (by decide) (by decide)]
theorem B4I (x:List UInt8) (h1:x≠H0) (h2:x≠I3) (h3:x≠F8) (h4:x≠F7) (h5:x≠V2) (h6:x≠V1) (h7:x≠N9): (A2S (A2S (A2S (X7 (X7 (X7 (X7 (λ_=>none) R H.name 100 H0) R H.link 100 I3) R H.user 32 F8) R H.group 32 F7) R H.uid 8 V2) R H.gid 8 V1) R H.size 12 N9) x=none:=by
 rw[I0 _ _ _ _ _ _ h7,I0 _ _ _ _ _ _ h6,I0 _ _ _ _ _ _ h5,B4f _ _ _ h1 h2 h3 h4]
theorem A3P: (H.st R).m H6=if V4 R H.mw H.mx H6 then some (C9 (H.mx-62135596800) H.mw) else none:=by
 rw[A5S,D8 _ _ _ _ _ _ (by decide),D8 _ _ _ _ _ _ (by decide),A3o,B4I _ _ _ (by decide) (by decide) (by decide) (by decide) (by decide) (by decide) (by decide)]
theorem A3M: (H.st R).m J5=if V4 R H.aw H.ax J5 then some (C9 (H.ax-62135596800) H.aw) else none:=by
 rw[A5S,D8 _ _ _ _ _ _ (by decide),A3o,D8 _ _ _ _ _ _ (by decide),B4I _ _ _ (by decide) (by decide) (by decide) (by decide) (by decide) (by decide) (by decide)]
theorem A3N: (H.st R).m J6=if V4 R H.cw H.cx J6 then some (C9 (H.cx-62135596800) H.cw) else none:=by
 rw[A5S,A3o,D8 _ _ _ _ _ _ (by decide),D8 _ _ _ _ _ _ (by decide),B4I _ _ _ (by decide) (by decide) (by decide) (by decide) (by decide) (by decide) (by decide)]
theorem A8X {x:List UInt8} (h:x∉F6):x≠H0/\x≠I3/\x≠N9/\x≠V2/\x≠V1/\x≠F8/\x≠F7/\x≠H6/\x≠J5/\x≠J6:=by
 refine⟨?_,?_,?_,?_,?_,?_,?_,?_,?_,?_⟩<;>(intro e;subst e;exact h (by decide))
theorem A4d {x:List UInt8} (h:x∉F6): (H.st R).m x=none:=by
 obtain⟨h1,h2,h3,h4,h5,h6,h7,h8,h9,h0⟩:=A8X h;rw[A5S,D8 _ _ _ _ _ _ h0,D8 _ _ _ _ _ _ h9,D8 _ _ _ _ _ _ h8,B4I _ _ _ h1 h2 h6 h7 h4 h5 h3]
def A3I:Pax:=
 ⟨if R8 R H.name 100 H0 then some H.name else none,if R8 R H.link 100 I3 then some H.link else none,if R8 R H.user 32 F8 then some H.user else none,if R8 R H.group 32 F7 then some H.group else none,
  if A0H R H.uid 8 V2 then some H.uid else none,if A0H R H.gid 8 V1 then some H.gid else none,if A0H R H.size 12 N9 then some H.size else none,
  if V4 R H.mw H.mx H6 then some (H.mw,H.mx-62135596800) else none,if V4 R H.aw H.ax J5 then some (H.aw,H.ax-62135596800) else none,if V4 R H.cw H.cx J6 then some (H.cw,H.cx-62135596800) else none⟩
theorem A3c {α:Type} {c:Bool} {v:α} {p:α->Prop} (h:p v):∀n∈(if c then some v else none),p n:=by
 intro n hn;cases c with
 |false=>cases hn
 |true=>cases hn;exact h
theorem T6 {m R:KV} {typ:Int} (ht:typ≠103) {k:List UInt8} (hk:k∈F6):R3 m R typ k=m k:=by
 unfold R3;cases hm:m k with
 |some v=>rfl
 |none=>simp only;rw[if_neg (by rintro(h|⟨h,-⟩);exact ht h;exact h hk)]
theorem B5p (AA:H.InT) (ht:H.typ≠103):B4p (R3 (H.st R).m R H.typ) (A3I H R) where
 path:=by rw[T6 ht (by decide),A4e];rfl
 link:=by rw[T6 ht (by decide),A4c];rfl
 uname:=by rw[T6 ht (by decide),A3Q];rfl
 gname:=by rw[T6 ht (by decide),A3O];rfl
 uid:=by rw[T6 ht (by decide),A7E];simp only[A3I];split<;>rfl
 gid:=by rw[T6 ht (by decide),A7D];simp only[A3I];split<;>rfl
 size:=by rw[T6 ht (by decide),A4f];simp only[A3I];split<;>rfl
 mtime:=by rw[T6 ht (by decide),A3P];simp only[A3I];split<;>rfl
 atime:=by rw[T6 ht (by decide),A3M];simp only[A3I];split<;>rfl
 ctime:=by rw[T6 ht (by decide),A3N];simp only[A3I];split<;>rfl
 uidIn:=A3c AA.uid
 gidIn:=A3c AA.gid
 sizeIn:=A3c AA.size
 mtimeIn:=A3c (show tIn _ from⟨AA.mw.1,AA.mw.2,AA.mx.1,AA.mx.2⟩)
 atimeIn:=A3c (show tIn _ from⟨AA.aw.1,AA.aw.2,AA.ax.1,AA.ax.2⟩)
 ctimeIn:=A3c (show tIn _ from⟨AA.cw.1,AA.cw.2,AA.cx.1,AA.cx.2⟩)
end
def oP (n:Nat) (x:Int):Nat:=if B8 n x then x.toNat else 0
def pV (H:Hd):RdV:=⟨oP 8 H.mode,oP 8 H.uid,oP 8 H.gid,oP 12 H.size,oP 12 H.sec,oP 8 H.maj,oP 8 H.mnr⟩
theorem A5C (n:Nat) (x:Int):oP n x<8^ (n-1):=B4J n x
theorem A1S {n:Nat} {x:Int} (h:B8 n x=true): ((oP n x:Nat):Int)=x:=by
 rw[oP,if_pos h,Int.toNat_of_nonneg (W6 h).1]
theorem A7N.low {n:Nat} {s f:List UInt8} (h:A7N n s f):∀b∈f,b.toNat<128:=by
 obtain⟨s2,ha,hf⟩:=h;exact hf.low ha.2
theorem A7N.back {n:Nat} {s f:List UInt8} (h:A7N n s f) (ha:D6 s=true) (hl:s.length<=n):D4 f=s:=by
 obtain⟨s2,h2,hf⟩:=h;rw[h2.1 ha] at hf;exact U9 hf (A0P ha) hl
theorem A5i.rdf {H:Hd} {B:C1} (h:A5i H B) (ht:0<=H.typ/\H.typ<128):RdF B (pV H):=by
 have on:∀ {x:Int} {f:List UInt8},f=A7s 8 x->P8 f (oP 8 x)/\f[7]?=some 0:=λh2=>by
  have h3:=A5C 8;rw[h2];exact⟨P8.field 8 _ (by omega) (by omega) (h3 _),R1 8 _ (by omega) (h3 _)⟩
 refine A9G (pV H) h.ok H.typ ht h.typ h.name.low h.link.low h.user.low h.group.low ?_ ⟨h.mode,A5C 8 _⟩ ⟨h.uid,A5C 8 _⟩ ⟨h.gid,A5C 8 _⟩ ⟨h.size,A5C 12 _⟩ ⟨h.mtime,A5C 12 _⟩ (on h.maj) (on h.mnr) h.magic h.ver h.chk ?_
 ·intro b hb
  rw[h.rest] at hb;rw[List.eq_of_mem_replicate hb];decide
 ·rw[h.rest];decide
theorem A5i.rdname {H:Hd} {B:C1} (h:A5i H B):A0U B=D4 B.name:=by
 have:A0x B=[]:=by rw[A0x,h.rest,List.take_replicate];exact A8r _
 rw[A0U,this,if_pos rfl]
theorem T8 {R:KV} {s:List UInt8} {sz:Nat} {key:List UInt8} (h:R8 R s sz key=false):D6 s=true/\s.length<=sz:=by
 simp only[R8,Bool.or_eq_false_iff,Bool.not_eq_false',decide_eq_false_iff_not] at h;exact⟨h.1.1,by omega⟩
theorem A1s {R:KV} {x:Int} {n:Nat} {key:List UInt8} (h:A0H R x n key=false):B8 n x=true:=by
 simp only[A0H,Bool.or_eq_false_iff,Bool.not_eq_false'] at h;exact h.1
theorem A2O {n x:Int} (h:E5 n x=true):n=0/\x=0:=by simpa[E5] using h
theorem A0j {R:KV} {n x:Int} {key:List UInt8} (h:V4 R n x key=false) (hk:key≠H6):n=0/\x=0:=by
 simp only[V4,R4,decide_eq_false hk,Bool.not_false,Bool.true_or,Bool.and_true,Bool.not_eq_false'] at h;exact A2O h
theorem A4K {R:KV} {n x:Int} (h:V4 R n x H6=false) (hz:E5 n x=false):n=0/\B8 12 (x-62135596800)=true:=by
 simp only[V4,R4,hz,Bool.not_false,Bool.true_and,Bool.or_eq_false_iff,decide_true,Bool.not_true,Bool.false_or,Bool.not_eq_false',decide_eq_true_eq] at h;exact⟨h.1.2,h.1.1⟩
theorem A3L (c:Bool) (s a b:List UInt8) (h:c=false->a=b) (hs:s=b): (if(if c then some s else none:Option (List UInt8)).isSome then(if c then some s else none:Option (List UInt8)).getD a else a)=b:=by
 cases c with
 |false=>simpa using h rfl
 |true=>simpa using hs
theorem A5N (c:Bool) (x a b:Int) (s:List UInt8) (h:c=false->a=b) (hs:x=b): (if(if c then some s else none:Option (List UInt8)).isSome then(if c then some x else none:Option Int).getD a else a)=b:=by
 cases c with
 |false=>simpa using h rfl
 |true=>simpa using hs
theorem A1A (c:Bool) (t:Int×Int) (f:Int×Int->Int) (a b:Int) (s:List UInt8) (h:c=false->a=b) (hs:f t=b): (if(if c then some s else none:Option (List UInt8)).isSome then((if c then some t else none:Option (Int×Int)).map f).getD a else a)=b:=by
 cases c with
 |false=>simpa using h rfl
 |true=>simpa using hs
theorem A5i.back {H:Hd} {B:C1} (h:A5i H B) (R:KV) (ht:48<=H.typ/\H.typ<=55) (AC:B8 8 H.mode=true) (AD:B8 8 H.maj=true) (AE:B8 8 H.mnr=true) (hz:E5 H.mw H.mx=false):
  mrg (O7 B (pV H)) (A3I H R) (λk=>(R3 (H.st R).m R H.typ k).isSome)= {H with xattr:= .map none,recs:= .map none,fmt:=6}:=by
 have AA:H.typ≠103:=by omega
 have e1:J9 B=H.typ:=by rw[J9,h.typ];exact typ_back _ (by omega)
 rw[A4Z (O7 B (pV H)) (A3I H R) (λk=>((H.st R).m k).isSome) _ (λk hk=>by rw[T6 AA hk])]
 have a1:=A3L (R8 R H.name 100 H0) H.name (A0U B) H.name (λe=>by
  have:=T8 e;rw[h.rdname];exact h.name.back this.1 this.2) rfl
 have a2:=A3L (R8 R H.link 100 I3) H.link (D4 B.link) H.link (λe=>h.link.back (T8 e).1 (T8 e).2) rfl;have a3:=A3L (R8 R H.user 32 F8) H.user (D4 B.user) H.user (λe=>h.user.back (T8 e).1 (T8 e).2) rfl;have a4:=A3L (R8 R H.group 32 F7) H.group (D4 B.group) H.group (λe=>h.group.back (T8 e).1 (T8 e).2) rfl;have a5:=A5N (A0H R H.uid 8 V2) H.uid (oP 8 H.uid) H.uid (itoa H.uid) (λe=>A1S (A1s e)) rfl;have a6:=A5N (A0H R H.gid 8 V1) H.gid (oP 8 H.gid) H.gid (itoa H.gid) (λe=>A1S (A1s e)) rfl;have a7:=A5N (A0H R H.size 12 N9) H.size (oP 12 H.size) H.size (itoa H.size) (λe=>A1S (A1s e)) rfl;have AB:H.sec=H.mx-62135596800:=by rw[Hd.sec,hz];rfl
 have a8:=A1A (V4 R H.mw H.mx H6) (H.mw,H.mx-62135596800) (·.1) 0 H.mw (C9 (H.mx-62135596800) H.mw) (λe=>(A4K e hz).1.symm) rfl
 have a9:=A1A (V4 R H.mw H.mx H6) (H.mw,H.mx-62135596800) (λt=>t.2+62135596800) ((oP 12 H.sec:Nat)+62135596800) H.mx (C9 (H.mx-62135596800) H.mw) (λe=>by
  rw[AB,A1S (A4K e hz).2];omega) (by show H.mx-62135596800+62135596800=H.mx;omega)
 have b8:=A1A (V4 R H.aw H.ax J5) (H.aw,H.ax-62135596800) (·.1) 0 H.aw (C9 (H.ax-62135596800) H.aw) (λe=>(A0j e (by decide)).1.symm) rfl;have b9:=A1A (V4 R H.aw H.ax J5) (H.aw,H.ax-62135596800) (λt=>t.2+62135596800) 0 H.ax (C9 (H.ax-62135596800) H.aw) (λe=>(A0j e (by decide)).2.symm) (by show H.ax-62135596800+62135596800=H.ax;omega);have c8:=A1A (V4 R H.cw H.cx J6) (H.cw,H.cx-62135596800) (·.1) 0 H.cw (C9 (H.cx-62135596800) H.cw) (λe=>(A0j e (by decide)).1.symm) rfl;have c9:=A1A (V4 R H.cw H.cx J6) (H.cw,H.cx-62135596800) (λt=>t.2+62135596800) 0 H.cx (C9 (H.cx-62135596800) H.cw) (λe=>(A0j e (by decide)).2.symm) (by show H.cx-62135596800+62135596800=H.cx;omega);simp only[mrg,O7,A2V,Hd.nil,pV,A4e,A4c,A3Q,A3O,A7E,A7D,A4f,A3P,A3M,A3N,A3I];simp only[a1,a2,a3,a4,a5,a6,a7,a8,a9,b8,b9,c8,c9,e1,A1S AC,A1S AD,A1S AE]
theorem B0Q.rdf {AA:Int} {n:Nat} {B:C1} (h:B0Q AA n B) (ht:0<=AA/\AA<128) (hn:n<8^11):RdF B ⟨0,0,0,n,0,0,0⟩:=by
 obtain⟨nm,ha,hf⟩:=h.name;have z:∀ (k:Nat),∀b∈(List.replicate k 0:List UInt8),b.toNat<128:=λk b hb=>by rw[List.eq_of_mem_replicate hb];decide
 refine A9G ⟨0,0,0,n,0,0,0⟩ h.ok AA ht h.typ (hf.low ha) ?_ ?_ ?_ ?_ ⟨h.mode,Nat.pow_pos (by omega)⟩ ⟨h.uid,Nat.pow_pos (by omega)⟩ ⟨h.gid,Nat.pow_pos (by omega)⟩ ⟨h.size,hn⟩ ⟨h.mtime,Nat.pow_pos (by omega)⟩ ⟨?_,?_⟩ ⟨?_,?_⟩ h.magic h.ver h.chk ?_
 ·rw[h.link];exact z _
 ·rw[h.user];exact z _
 ·rw[h.group];exact z _
 ·rw[h.rest];exact z _
 ·rw[h.maj];exact P8.zero 8
 ·rw[h.maj];rfl
 ·rw[h.mnr];exact P8.zero 8
 ·rw[h.mnr];rfl
 ·rw[h.rest];decide
theorem B0Q.typ_back {AA:Int} {n:Nat} {B:C1} (h:B0Q AA n B) (ht:0<=AA/\AA<128):J9 B=AA:=by
 rw[J9,h.typ];exact Go.Proofs.YtkanmkcojlefbaaGreatDoor.typ_back _ (by omega)
theorem A3n {u:Bool} {s:List UInt8} {sz:Nat} {key:List UInt8} (h:M6 u s sz key=true) (hk:key≠H0):u=true/\D6 s=true/\s.length<=sz:=by
 unfold M6 at h;rw[zV hk] at h;cases ha:D6 s<;>by_cases hl:sz<s.length<;>simp_all<;>omega
theorem B1V {u:Bool} {s:List UInt8} {sz:Nat} (h:M6 u s sz H0=true):u=true/\D6 s=true/\(s.length<=sz\/J2 s=true):=by
 unfold M6 at h;rw[zY (rfl:H0=H0)] at h
 have AA:J2 s=true->D6 s=true:=λe=>by
  simp only[J2,Bool.and_eq_true] at e;exact e.1.2
 cases ha:D6 s<;>by_cases hl:sz<s.length<;>cases hs:J2 s<;>simp_all<;>omega
theorem A5Y {u:Bool} {n x:Int} {key:List UInt8} (h:A0E u n x key=true) (hk:key≠H6):u=true/\n=0/\x=0:=by
 unfold A0E at h;rw[zV hk] at h;split at h
 ·rename_i hz;exact⟨h,A2O hz⟩
 ·simp at h
theorem A9h {u:Bool} {n x:Int} (h:A0E u n x H6=true):u=true/\(E5 n x=true\/B8 12 (x-62135596800)=true):=by
 unfold A0E at h;split at h
 ·rename_i hz;exact⟨h,.inl hz⟩
 ·simp only[Bool.and_eq_true] at h;exact⟨h.1,.inr h.2.2⟩
section
variable (H:Hd) (R:KV)
theorem st_u: (H.st R).u=A0E (A0E (A0E ((((((M6 (M6 (M6 (M6 true H.name 100 H0) H.link 100 I3) H.user 32 F8) H.group 32 F7&&B8 8 H.mode)&&B8 8 H.uid)&&B8 8 H.gid)&&B8 12 H.size)&&B8 8 H.maj)&&B8 8 H.mnr) H.mw H.mx H6) H.aw H.ax J5) H.cw H.cx J6:=rfl
theorem st_p: (H.st R).p=((B8 8 H.mode&&B8 8 H.maj)&&B8 8 H.mnr):=by
 show(((true&&B8 8 H.mode)&&B8 8 H.maj)&&B8 8 H.mnr)=_
 rw[Bool.true_and]
theorem B8o: (H.st R).q=A0b (A0b (A0b false H.mw H.mx H6) H.aw H.ax J5) H.cw H.cx J6:=rfl
theorem B3a (h: (H.st R).u=true):A6B H/\B3i H/\H.aw=0/\H.ax=0/\H.cw=0/\H.cx=0:=by
 rw[st_u] at h;obtain⟨h,c1,c2⟩:=A5Y h (by decide);obtain⟨h,a1,a2⟩:=A5Y h (by decide);obtain⟨h,hm⟩:=A9h h;simp only[Bool.and_eq_true] at h;obtain⟨⟨⟨⟨⟨⟨h,n1⟩,n2⟩,n3⟩,n4⟩,n5⟩,n6⟩:=h;obtain⟨h,g1,g2⟩:=A3n h (by decide);obtain⟨h,u1,u2⟩:=A3n h (by decide);obtain⟨h,l1,l2⟩:=A3n h (by decide);obtain⟨-,p1,p2⟩:=B1V h;refine⟨⟨?_,?_,l2,u2,g2,n1,n2,n3,n4,?_,n5,n6⟩,⟨p1,l1,u1,g1⟩,a1,a2,c1,c2⟩
 ·unfold M5
  split
  ·rename_i hs
   simp only[J2,Bool.and_eq_true,decide_eq_true_eq] at hs;rw[List.length_drop];omega
  ·rename_i hs
   rcases p2 with h|h
   ·exact h
   ·exact absurd h hs
 ·unfold U7
  split
  ·rename_i hs
   simp only[J2,Bool.and_eq_true,decide_eq_true_eq] at hs;rw[zR];omega
  ·simp
 ·unfold Hd.sec
  rcases hm with h|h
  ·rw[h,if_pos rfl];decide
  ·split
   ·decide
   ·exact h
theorem B4M (h: (H.st R).q=false) (hz:E5 H.mw H.mx=false):H.mw=0:=by
 rw[B8o] at h
 have t:∀ {q n x key},A0b q n x key=false->q=false:=λ{q n x key} h=>by
  unfold A0b at h;split at h
  ·exact h
  ·simp only[Bool.or_eq_false_iff] at h;exact h.1
 have h:=t (t h);simp only[A0b,hz,Bool.false_or,R4,decide_true,Bool.not_true] at h;simp at h;exact h.2
end
structure HG (H:Hd) (R:KV):Prop where
 inT:H.InT
 ty:48<=H.typ/\H.typ<=55
 sl:T9 H.name=true->H.typ=53
 size:0<=H.size
 xa:H.xattr= .map none
 zn: (0:UInt8)∉H.name
 zl: (0:UInt8)∉H.link
 zu: (0:UInt8)∉H.user
 zg: (0:UInt8)∉H.group
 fmt:H.fmt=0\/H.fmt=2\/H.fmt=4\/H.fmt=8
 tz:E5 H.mw H.mx=false
 mw:H.fmt≠4->H.mw=0
 ac:H.fmt≠4->H.aw=0/\H.cw=0
 r0:R []=none
 rne:∀k v,R k=some v->v≠ []
 rval:∀k v,R k=some v->k∉F6->F0 k v=true/\k.length<=1048576/\v.length<=1048576/\hasPrefix k [83,67,72,73,76,89,46,120,97,116,116,114,46]=false/\hasPrefix k [71,78,85,46,115,112,97,114,115,101,46]=false
 sum:∀L:List (List UInt8×List UInt8),(L.map (·.1)).Nodup->(∀p∈L,R p.1=some p.2/\p.1∉F6)->(D7 L).length+H.name.length+H.link.length+H.user.length+H.group.length<=524288
theorem B0H (n:Int):itoa n≠ []:=by
 unfold itoa;split
 ·exact List.cons_ne_nil _ _
 ·exact A8s _
theorem A9O (s n:Int):C9 s n≠ []:=by
 unfold C9;split
 ·exact B0H s
 ·split
  ·intro e
   have:=A2n [] (itoa (-(s+1))++46::R7 (1000000000-n).toNat) 45 48 (by decide);rw[List.nil_append] at this;rw[this] at e;cases e
  ·intro e
   have:=A2n (itoa s) (R7 n.toNat) 46 48 (by decide);rw[this] at e;exact absurd e (by simp)
section
variable {H:Hd} {R:KV}
theorem A9f {k v:List UInt8} (h: (H.st R).m k=some v): (k=H0/\v=H.name/\R8 R H.name 100 H0=true)\/(k=I3/\v=H.link/\R8 R H.link 100 I3=true)\/(k=F8/\v=H.user/\R8 R H.user 32 F8=true)\/(k=F7/\v=H.group/\R8 R H.group 32 F7=true)\/
  (k=V2/\v=itoa H.uid)\/(k=V1/\v=itoa H.gid)\/(k=N9/\v=itoa H.size)\/(k=H6/\v=C9 (H.mx-62135596800) H.mw)\/(k=J5/\v=C9 (H.ax-62135596800) H.aw)\/(k=J6/\v=C9 (H.cx-62135596800) H.cw):=by
 have hk:k∈F6:=by
  by_cases hk:k∈F6
  ·exact hk
  ·rw[A4d H R hk] at h;cases h
 have tk:∀ {c:Bool} {s v:List UInt8},(if c then some s else none)=some v->v=s/\c=true:=λ{c s v} e=>by
  cases c with
  |false=>cases e
  |true=>cases e;exact⟨rfl,rfl⟩
 simp only[F6,List.mem_cons,List.not_mem_nil,or_false] at hk;rcases hk with rfl|rfl|rfl|rfl|rfl|rfl|rfl|rfl|rfl|rfl
 ·rw[A4e] at h;exact .inl ⟨rfl,tk h⟩
 ·rw[A4c] at h;exact .inr (.inl ⟨rfl,tk h⟩)
 ·rw[A4f] at h;have:=tk h;simp[this.1]
 ·rw[A7E] at h;have:=tk h;simp[this.1]
 ·rw[A7D] at h;have:=tk h;simp[this.1]
 ·rw[A3Q] at h;exact .inr (.inr (.inl ⟨rfl,tk h⟩))
 ·rw[A3O] at h;exact .inr (.inr (.inr (.inl ⟨rfl,tk h⟩)))
 ·rw[A3P] at h;have:=tk h;simp[this.1]
 ·rw[A3M] at h;have:=tk h;simp[this.1]
 ·rw[A3N] at h;have:=tk h;simp[this.1]
theorem A3K {s:List UInt8} {sz:Nat} {key:List UInt8} (h:R8 R s sz key=true) (hr:∀k v,R k=some v->v≠ []):s≠ []:=by
 rintro rfl;have ha:D6 ([]:List UInt8)=true:=rfl;simp only[R8,ha,Bool.not_true,Bool.false_or,List.length_nil,Nat.not_lt_zero,decide_false,decide_eq_true_eq] at h;exact hr _ _ h rfl
theorem A0z {m R:KV} {typ:Int} {k v:List UInt8} (ht:typ≠103) (h:R3 m R typ k=some v):m k=some v\/(m k=none/\k∉F6/\R k=some v):=by
 unfold R3 at h;cases hm:m k with
 |some u=>rw[hm] at h;exact .inl h
 |none=>
  rw[hm] at h;simp only at h;split at h
  ·rename_i hc
   rcases hc with hc|⟨hc,-⟩
   ·exact absurd hc ht
   ·exact .inr ⟨rfl,hc,h⟩
  ·cases h
theorem HG.val (g:HG H R) (k v:List UInt8) (h:R3 (H.st R).m R H.typ k=some v):F0 k v=true/\k.length<=1048576/\v.length<=1048576:=by
 have ht:H.typ≠103:=by have:=g.ty;omega
 have hi:=g.inT;rcases A0z ht h with h|⟨-,hk,h⟩
 ·have z:∀ {s:List UInt8},(0:UInt8)∉s->(!decide ((0:UInt8)∈s))=true:=λh=>by simp[h]
  have d1:∀s:List UInt8,(0:UInt8)∉s->F0 H0 s=true/\F0 I3 s=true/\F0 F8 s=true/\F0 F7 s=true:=λs hs=>by
   refine⟨?_,?_,?_,?_⟩<;>(unfold F0;rw[if_pos (by decide),z hs];decide)
  have d2:∀s:List UInt8,F0 V2 s=true/\F0 V1 s=true/\F0 N9 s=true/\F0 H6 s=true/\F0 J5 s=true/\F0 J6 s=true:=λs=>by
   refine⟨?_,?_,?_,?_,?_,?_⟩<;>(unfold F0;rw[if_neg (by decide)];decide)
  have i1:=V0 H.uid hi.uid;have i2:=V0 H.gid hi.gid;have i3:=V0 H.size hi.size;have t1:=O0 (H.mx-62135596800) H.mw hi.mw.1 hi.mw.2 hi.mx;have t2:=O0 (H.ax-62135596800) H.aw hi.aw.1 hi.aw.2 hi.ax;have t3:=O0 (H.cx-62135596800) H.cw hi.cw.1 hi.cw.2 hi.cx;rcases A9f h with ⟨rfl,rfl,-⟩|⟨rfl,rfl,-⟩|⟨rfl,rfl,-⟩|⟨rfl,rfl,-⟩|⟨rfl,rfl⟩|⟨rfl,rfl⟩|⟨rfl,rfl⟩|⟨rfl,rfl⟩|⟨rfl,rfl⟩|⟨rfl,rfl⟩
  ·exact⟨(d1 _ g.zn).1,by decide,hi.name⟩
  ·exact⟨(d1 _ g.zl).2.1,by decide,hi.link⟩
  ·exact⟨(d1 _ g.zu).2.2.1,by decide,hi.user⟩
  ·exact⟨(d1 _ g.zg).2.2.2,by decide,hi.group⟩
  ·exact⟨(d2 _).1,by decide,by omega⟩
  ·exact⟨(d2 _).2.1,by decide,by omega⟩
  ·exact⟨(d2 _).2.2.1,by decide,by omega⟩
  ·exact⟨(d2 _).2.2.2.1,by decide,by omega⟩
  ·exact⟨(d2 _).2.2.2.2.1,by decide,by omega⟩
  ·exact⟨(d2 _).2.2.2.2.2,by decide,by omega⟩
 ·have:=g.rval k v h hk
  exact⟨this.1,this.2.1,this.2.2.1⟩
theorem HG.mok (g:HG H R):MOk (R3 (H.st R).m R H.typ) (A3I H R) where
 toB4p:=B5p H R g.inT (by have:=g.ty;omega)
 ne:=λk v h=>by
  rcases A0z (by have:=g.ty;omega) h with h|⟨-,hk,h⟩
  ·rcases A9f h with ⟨rfl,rfl,hn⟩|⟨rfl,rfl,hn⟩|⟨rfl,rfl,hn⟩|⟨rfl,rfl,hn⟩|⟨rfl,rfl⟩|⟨rfl,rfl⟩|⟨rfl,rfl⟩|⟨rfl,rfl⟩|⟨rfl,rfl⟩|⟨rfl,rfl⟩
   ·exact A3K hn g.rne
   ·exact A3K hn g.rne
   ·exact A3K hn g.rne
   ·exact A3K hn g.rne
   all_goals first|exact B0H _|exact A9O _ _
  ·exact g.rne k v h
 sch:=λk v h=>by
  rcases A0z (by have:=g.ty;omega) h with h|⟨-,hk,h⟩
  ·rcases A9f h with ⟨rfl,-⟩|⟨rfl,-⟩|⟨rfl,-⟩|⟨rfl,-⟩|⟨rfl,-⟩|⟨rfl,-⟩|⟨rfl,-⟩|⟨rfl,-⟩|⟨rfl,-⟩|⟨rfl,-⟩<;>decide
  ·exact(g.rval k v h hk).2.2.2.1
 len:=λk v h=>(g.val k v h).2.2
theorem B1J (F:List UInt8->Nat):∀ (L:List (List UInt8×List UInt8)) (K:List (List UInt8)),(L.map (·.1)).Nodup->(∀p∈L,p.1∈K/\K8 p.1 p.2<=F p.1)->(D7 L).length<=(K.map F).sum:=by
 intro L;induction L with
 |nil=>intro K _ _;exact zW _
 |cons p L ih=>
  intro K hn h;rw[List.map_cons,List.nodup_cons] at hn;have hp:=h p (by simp);have:=ih (K.erase p.1) hn.2 (λq hq=>⟨(List.mem_erase_of_ne (λe=>hn.1 (by rw[<-e];exact List.mem_map.2 ⟨q,hq,rfl⟩))).2 (h q (by simp[hq])).1,(h q (by simp[hq])).2⟩);have hs:=((List.perm_cons_erase hp.1).map F).sum_nat;rw[List.map_cons,List.sum_cons] at hs;rw[T7,zH,P7];omega
theorem A9W (p:List UInt8×List UInt8->Bool) (L:List (List UInt8×List UInt8)): (D7 L).length=(D7 (L.filter p)).length+(D7 (L.filter λq=> !p q)).length:=by
 induction L with
 |nil=>rfl
 |cons q L ih=>
  rw[T7,zH,ih];cases hp:p q<;>simp[hp,T7]<;>omega
theorem HG.total (g:HG H R) (L:List (List UInt8×List UInt8)) (hn: (L.map (·.1)).Nodup) (h:∀p∈L,R3 (H.st R).m R H.typ p.1=some p.2): (D7 L).length<=1048576:=by
 have hi:=g.inT;have ht:H.typ≠103:=by have:=g.ty;omega
 rw[A9W (λp=>decide (p.1∈F6)) L]
 have h2:=g.sum (L.filter λq=> !decide (q.1∈F6)) ((List.filter_sublist.map _).nodup hn) (λp hp=>by
  obtain⟨hp,hk⟩:=List.mem_filter.1 hp;have hk:p.1∉F6:=by simpa using hk
  rcases A0z ht (h p hp) with h|⟨-,-,h⟩
  ·rw[A4d H R hk] at h;cases h
  ·exact⟨h,hk⟩)
 have h0:=g.sum [] (by simp) (by simp)
 have h1:=B1J (λk=>K8 k (((H.st R).m k).getD [])) (L.filter λp=>decide (p.1∈F6)) F6 ((List.filter_sublist.map _).nodup hn) (λp hp=>by
  obtain⟨hp,hk⟩:=List.mem_filter.1 hp;have hk:p.1∈F6:=by simpa using hk
  rcases A0z ht (h p hp) with h|⟨-,AA,-⟩
  ·exact⟨hk,by rw[h];exact zB _⟩
  ·exact absurd hk AA)
 have i1:=V0 H.uid hi.uid;have i2:=V0 H.gid hi.gid;have i3:=V0 H.size hi.size;have t1:=O0 (H.mx-62135596800) H.mw hi.mw.1 hi.mw.2 hi.mx;have t2:=O0 (H.ax-62135596800) H.aw hi.aw.1 hi.aw.2 hi.ax;have t3:=O0 (H.cx-62135596800) H.cw hi.cw.1 hi.cw.2 hi.cx;generalize (D7 (List.filter (λp=>decide (p.1∈F6)) L)).length=y at h1⊢
 have gd:∀ (c:Bool) (s:List UInt8) (k:List UInt8) (b:Nat),s.length<=b->b<=1000000->k.length<=8->K8 k ((if c then some s else none:Option (List UInt8)).getD [])<=b+22:=λc s k b hs hb hk=>by
  have h1: ((if c then some s else none:Option (List UInt8)).getD []).length<=b:=by
   cases c with
   |false=>exact zW _
   |true=>exact hs
  have:=A3l k ((if c then some s else none:Option (List UInt8)).getD []) (by omega);omega
 simp only[F6,List.map_cons,List.map_nil,List.sum_cons,List.sum_nil,A4e,A4c,A4f,A7E,A7D,A3Q,A3O,A3P,A3M,A3N] at h1;have hz: (D7 ([]:List (List UInt8×List UInt8))).length=0:=rfl;have g1:=gd (R8 R H.name 100 H0) H.name H0 _ (zB _) (by omega) (by decide);have g2:=gd (R8 R H.link 100 I3) H.link I3 _ (zB _) (by omega) (by decide);have g3:=gd (A0H R H.size 12 N9) (itoa H.size) N9 _ i3 (by omega) (by decide);have g4:=gd (A0H R H.uid 8 V2) (itoa H.uid) V2 _ i1 (by omega) (by decide);have g5:=gd (A0H R H.gid 8 V1) (itoa H.gid) V1 _ i2 (by omega) (by decide);have g6:=gd (R8 R H.user 32 F8) H.user F8 _ (zB _) (by omega) (by decide);have g7:=gd (R8 R H.group 32 F7) H.group F7 _ (zB _) (by omega) (by decide);have g8:=gd (V4 R H.mw H.mx H6) (C9 (H.mx-62135596800) H.mw) H6 _ t1 (by omega) (by decide);have g9:=gd (V4 R H.aw H.ax J5) (C9 (H.ax-62135596800) H.aw) J5 _ t2 (by omega) (by decide);have g0:=gd (V4 R H.cw H.cx J6) (C9 (H.cx-62135596800) H.cw) J6 _ t3 (by omega) (by decide);omega
def fOf (H:Hd) (R:KV) (AA:Bool):Bool×Bool×Bool:=S8 ((H.st R).u&& !AA) (H.st R).p ((H.st R).g&& !AA) (H.st R).q H.fmt
theorem B4w (g:HG H R) (AA:Bool) (h: (fOf H R AA).1=true): (H.st R).u=true/\AA=false/\H.mw=0:=by
 unfold fOf S8 at h;split at h
 ·rename_i hf
  simp only[Bool.and_eq_true,Bool.not_eq_true'] at h;exact⟨h.1,h.2,g.mw (by omega)⟩
 ·split at h
  ·rename_i hf
   simp only[Bool.and_eq_true,Bool.not_eq_true'] at h;exact⟨h.1,h.2,g.mw (by omega)⟩
  ·split at h
   ·simp only[Bool.and_eq_true,Bool.not_eq_true'] at h
    exact⟨h.1.1,h.1.2,B4M H R h.2 g.tz⟩
   ·cases h
theorem st_g: (H.st R).g=((((((I1 (I1 (I1 (I1 true H.name 100 H0) H.link 100 I3) H.user 32 F8) H.group 32 F7&&M2 8 H.mode)&&M2 8 H.uid)&&M2 8 H.gid)&&M2 12 H.size)&&M2 8 H.maj)&&M2 8 H.mnr):=rfl
theorem A6Z {u:Bool} {s:List UInt8} {sz:Nat} {key:List UInt8} (h:I1 u s sz key=true):u=true/\(s.length<=sz\/key=H0\/key=I3):=by
 unfold I1 at h;split at h
 ·cases h
 ·rename_i hc
  refine⟨h,?_⟩;by_cases h1:s.length<=sz
  ·exact .inl h1
  ·right
   have h2:sz<s.length:=by omega
   by_cases h3:key=H0<;>by_cases h4:key=I3<;>simp_all
theorem B2O (AA:H.In) (h: (H.st R).g=true):A5z H/\H.user.length<=32/\H.group.length<=32:=by
 rw[st_g] at h;simp only[Bool.and_eq_true] at h;obtain⟨⟨⟨⟨⟨⟨h,n1⟩,n2⟩,n3⟩,n4⟩,n5⟩,n6⟩:=h;obtain⟨h,g1⟩:=A6Z h;obtain⟨h,g2⟩:=A6Z h;exact⟨⟨⟨.inr n1,AA.mode⟩,⟨.inr n2,AA.uid⟩,⟨.inr n3,AA.gid⟩,⟨.inr n4,AA.size⟩,⟨.inr n5,AA.maj⟩,⟨.inr n6,AA.mnr⟩⟩,g2.resolve_right (by decide),g1.resolve_right (by decide)⟩
theorem B4v {H:Hd} {R:KV} (g:HG H R) (AA:Bool) (h: (fOf H R AA).2.2=true): (H.st R).g=true/\AA=false:=by
 unfold fOf S8 at h;have hf:=g.fmt;split at h
 ·simpa using h
 ·split at h
  ·cases h
  ·split at h
   ·cases h
   ·simpa using h
theorem B6z (AA:Bool) (h: (fOf H R AA).2.1=true):B8 8 H.mode=true/\B8 8 H.maj=true/\B8 8 H.mnr=true:=by
 have: (H.st R).p=true:=by
  unfold fOf S8 at h;split at h
  ·exact h
  ·split at h
   ·cases h
   ·split at h
    ·exact h
    ·cases h
 rw[st_p] at this;simp only[Bool.and_eq_true] at this;exact⟨this.1.1,this.1.2,this.2⟩
theorem B5O (AA:Bool) (h: (fOf H R AA).2.2=true):H.fmt≠4:=by
 intro e;unfold fOf S8 at h;rw[e] at h;simp at h
theorem HG.hok (g:HG H R) (AA:Bool) (h0:AA=false->∀k,R k=none) (h1:AA=true->∃k,R k≠none) (AB: (fOf H R AA).1=true\/(fOf H R AA).2.1=true\/(fOf H R AA).2.2=true):HOk H R AA (fOf H R AA) (R3 (H.st R).m R H.typ) where
 inT:=g.inT
 r0:=g.r0
 ty:= .inl g.ty
 gf4:=λe=>by have:=g.ty;omega
 sl:=λh=> .inr (.inr (.inl (g.sl h)))
 sz:= .inr g.size
 xa:=g.xa
 h0:=h0
 h1:=h1
 fmt:=by have:=g.fmt;omega
 fe:=rfl
 me:=rfl
 up:=AB
 uf:=λh=>(B3a H R (B4w g AA h).1).1
 gf:=λh1 h2=>(B2O g.inT.toIn (B4v g AA (by rcases AB with h|h|h;rw[h1] at h;cases h;rw[h2] at h;cases h;exact h)).1).1
 nl:=by have:=g.sum [] (by simp) (by simp);omega
 ll:=by have:=g.sum [] (by simp) (by simp);omega
 val:=g.val
 sum:=g.total
end
end Go.Proofs.YtkanmkcojlefbaaGreatDoor
