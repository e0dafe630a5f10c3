/-
  Part of the proof; holds the texts BrgG, IHd, HOf0, RH2.
-/
import Derived.Test.YtkanmkcojlefbaaGreatDoorM26
set_option maxHeartbeats 8000000
set_option maxRecDepth 100000
set_option linter.unusedSimpArgs false
set_option linter.unusedVariables false
namespace Go.Proofs.YtkanmkcojlefbaaGreatDoor
open Go.RowKit
theorem A5D (u:Nat):∃d t,E3 u=d::t/\d≠0:=by
 have h1:E3 u≠ []:=by
  intro e;rw[E3] at e;split at e
  ·cases e
  ·simp at e
 obtain⟨d,t,e⟩:=List.exists_cons_of_ne_nil h1;refine⟨d,t,e,λhd=> ?_⟩;have:=A0m 2 u d (by rw[Y9];exact List.mem_append_right _ (by rw[e];exact List.mem_cons_self));rw[hd] at this;exact absurd this.1 (by decide)
theorem A5s (n u:Nat): (C2 n u).getD 0 0≠0:=by
 obtain⟨d,t,e,hd⟩:=A5D u;rw[C2,e];cases hk:n-1- (d::t).length with
 |zero=>simpa using hd
 |succ k=>simp[List.replicate_succ]
theorem A5r (n:Nat) (x:Int) (hn:n=8\/n=12) (hx:X5 n x): (D9 n x).getD 0 0≠0:=by
 unfold D9;split
 ·exact A5s _ _
 ·rename_i h
  intro e;have:=(A4s n x hn (hx.1.resolve_left h) hx.2.1 hx.2.2).1;rw[e] at this;split at this<;>exact absurd this (by decide)
theorem A6C (n x:Int) (hb: -100000000000000000<=x-62135596800/\x-62135596800<=100000000000000000):B3q (S3 n x) (if E5 n x then 0 else x):=by
 refine⟨A0J n x,?_⟩;unfold S3;split
 ·exact .inl ⟨rfl,rfl⟩
 ·have hx:X5 12 (x-62135596800):=X5.w12 (by omega) (by omega)
  exact .inr ⟨A5r 12 _ (.inr rfl) hx,A1i.num (.inr rfl) hx,hb.1,hb.2⟩
def gV (H:Hd):RdW:=⟨H.mode,H.uid,H.gid,H.size,H.sec,H.maj,H.mnr,if E5 H.aw H.ax then 0 else H.ax,if E5 H.cw H.cx then 0 else H.cx⟩
theorem A6f.rdg {H:Hd} {B:C1} (h:A6f H B) (hf:A5z H) (ht:H.InT):RdG B (gV H):=by
 have l1:=A0J H.aw H.ax;have l2:=A0J H.cw H.cx
 have e4:B.rest.drop 163=[0,0,0,0]:=by
  rw[h.rest,List.drop_append,List.drop_append,l1,List.drop_eq_nil_of_le (by omega),List.drop_eq_nil_of_le (by omega),l2];decide
 have ea:B.rest.take 12=S3 H.aw H.ax:=by rw[h.rest,List.take_left' l1]
 have ec: (B.rest.drop 12).take 12=S3 H.cw H.cx:=by rw[h.rest,List.drop_left' l1,List.take_left' l2]
 have hs: -100000000000000000<=H.sec/\H.sec<=100000000000000000:=by
  have:=ht.mx;unfold Hd.sec;split<;>omega
 have n8:∀ {f:List UInt8} {x:Int},f=D9 8 x->X5 8 x->A1i 8 f x:=λe hx=>by rw[e];exact A1i.num (.inl rfl) hx
 have AA:∀ {f:List UInt8} {x:Int},f=D9 12 x->X5 12 x->A1i 12 f x:=λe hx=>by rw[e];exact A1i.num (.inr rfl) hx
 exact⟨⟨h.ok,h.magic,h.ver,h.chk,e4⟩,n8 h.mode hf.mode,n8 h.uid hf.uid,n8 h.gid hf.gid,AA h.size hf.size,AA h.mtime (show X5 12 H.sec from X5.w12 (by omega) (by omega)),n8 h.maj hf.maj,n8 h.mnr hf.mnr,hs,by rw[ea];exact A6C _ _ ht.ax,by rw[ec];exact A6C _ _ ht.cx⟩
theorem A6A.rdg {AA:Int} {n:Nat} {B:C1} (h:A6A [117,115,116,97,114,32] [32,0] AA n B) (hn:n<8^11):RdG B ⟨0,0,0,n,0,0,0,0,0⟩:=by
 have z8:A1i 8 (C2 8 0) 0:= .inl ⟨Int.le_refl _,P8.field 8 0 (by decide) (by decide) (by decide)⟩;have AB:A1i 8 (List.replicate 8 0) 0:= .inl ⟨Int.le_refl _,P8.zero 8⟩;have t0:B3q (List.replicate 12 0) 0:=⟨rfl,.inl ⟨rfl,rfl⟩⟩;refine⟨⟨h.ok,h.magic,h.ver,h.chk,by rw[h.rest];decide⟩,by rw[h.mode];exact z8,by rw[h.uid];exact z8,by rw[h.gid];exact z8,?_,?_,by rw[h.maj];exact AB,by rw[h.mnr];exact AB,⟨by show-100000000000000000<=(0:Int);omega,by show(0:Int)<=100000000000000000;omega⟩,by rw[h.rest];exact t0,by rw[h.rest];exact t0⟩
 ·rw[h.size];exact .inl ⟨Int.natCast_nonneg _,P8.field 12 n (by decide) (by decide) hn⟩
 ·rw[h.mtime];exact .inl ⟨Int.le_refl _,P8.field 12 0 (by decide) (by decide) (by decide)⟩
theorem B2F (s:List UInt8) (hz: (0:UInt8)∉s):D4 (s++[0])=s:=A1o s [] 0 hz
theorem A6f.back {H:Hd} {B:C1} (h:A6f H B) (ht:0<=H.typ/\H.typ<256) (hz:E5 H.mw H.mx=false) (zn: (0:UInt8)∉H.name) (zl: (0:UInt8)∉H.link) (zu: (0:UInt8)∉H.user) (zg: (0:UInt8)∉H.group) (hu:H.user.length<=32) (hg:H.group.length<=32) (m0:H.mw=0) (a0:H.aw=0) (c0:H.cw=0)
  (nm lk:List UInt8) (hn: (H.name.length<=100/\nm=[])\/(100<H.name.length/\nm=H.name)) (hl: (H.link.length<=100/\lk=[])\/(100<H.link.length/\lk=H.link)):
  ({rdG B (gV H) with name:=if nm=[] then(rdG B (gV H)).name else nm,link:=if lk=[] then(rdG B (gV H)).link else lk}:Hd)= {H with xattr:= .map none,recs:= .map none,fmt:=8}:=by
 have e1:J9 B=H.typ:=by rw[J9,h.typ];exact typ_back _ ht
 have hm:H.sec+62135596800=H.mx:=by rw[Hd.sec,hz];simp
 have ha: (if E5 H.aw H.ax then 0 else H.ax)=H.ax:=by
  split
  ·rename_i e;exact(A2O e).2.symm
  ·rfl
 have hc: (if E5 H.cw H.cx then 0 else H.cx)=H.cx:=by
  split
  ·rename_i e;exact(A2O e).2.symm
  ·rfl
 have en: (if nm=[] then(rdG B (gV H)).name else nm)=H.name:=by
  rcases hn with ⟨h1,h2⟩|⟨h1,h2⟩
  ·rw[if_pos h2];exact U9 h.name zn h1
  ·rw[if_neg (by rw[h2];intro e;rw[e] at h1;simp at h1),h2]
 have el: (if lk=[] then(rdG B (gV H)).link else lk)=H.link:=by
  rcases hl with ⟨h1,h2⟩|⟨h1,h2⟩
  ·rw[if_pos h2];exact U9 h.link zl h1
  ·rw[if_neg (by rw[h2];intro e;rw[e] at h1;simp at h1),h2]
 rw[en,el];simp only[rdG,A2l,e1,U9 h.user zu hu,U9 h.group zg hg,gV,hm,ha,hc,Hd.nil];cases H
 simp_all
theorem M9.isMap2 {w:World} {b n:Nat} {m:List UInt8->Option (List UInt8)} (h:M9 w b n m):∃es cl,w.heap[b]?=some (.map es cl):=by
 obtain⟨D,⟨es,AA,h1,h2⟩,h3⟩:=h;exact⟨es,AA,h1⟩
structure IH where
 typ:Int
 name:List UInt8
 link:List UInt8
 size:Int
 mode:Int
 uid:Int
 gid:Int
 user:List UInt8
 group:List UInt8
 ms:Int
 mn:Int
 hasA:Bool
 ats:Int
 atn:Int
 hasC:Bool
 cts:Int
 ctn:Int
 maj:Int
 mnr:Int
 recs:Value
 fmt:Int
def IH.cells (h:IH):List Value:=[.int .u8 h.typ,str h.name,str h.link,.int .i64 h.size,.int .i64 h.mode,.int .i64 h.uid,.int .i64 h.gid,str h.user,str h.group,.int .i64 h.ms,.int .i64 h.mn,.bool h.hasA,.int .i64 h.ats,.int .i64 h.atn,.bool h.hasC,.int .i64 h.cts,.int .i64 h.ctn,.int .i64 h.maj,.int .i64 h.mnr,h.recs,.int .i64 h.fmt]
def X9 (n:Int):Int:=if n=1 then 2 else if n=2 then 4 else if n=3 then 8 else 0
theorem A6q (w:World) (n:Int):Calls Tryz.prog 71 #[.int .i64 n] w (C4 w (.int .i64 (X9 n))):=by
 by_cases h1:n=1
 ·subst h1
  go_enter Tryz.func71,Tryz.ntmps71
  go_wp2
  go_ret
  exact⟨rfl,rfl⟩
 by_cases h2:n=2
 ·subst h2
  go_enter Tryz.func71,Tryz.ntmps71
  go_wp2
  go_ret
  exact⟨rfl,rfl⟩
 by_cases h3:n=3
 ·subst h3
  go_enter Tryz.func71,Tryz.ntmps71
  go_wp2
  go_ret
  exact⟨rfl,rfl⟩
 have e:X9 n=0:=by unfold X9;rw[if_neg h1,if_neg h2,if_neg h3]
 have q1: (n==1)=false:=by rw[zG];exact h1
 have q2: (n==2)=false:=by rw[zG];exact h2
 have q3: (n==3)=false:=by rw[zG];exact h3
 rw[e];clear h1 h2 h3 e;go_enter Tryz.func71,Tryz.ntmps71
 go_wp2
 go_ret
 exact⟨rfl,rfl⟩
def tx (s:Int):Int:=wrap64 (s+62135596800)
theorem B3Z {s:Int} (h: -200000000000000000<=s/\s<=200000000000000000):tx s=s+62135596800:=by unfold tx wrap64;omega
theorem A9g (w:World) (s n:Int) (h0:0<=n) (h1:n<1000000000):
  Calls Tryz.prog 145 #[.int .i64 s,.int .i32 n] w λe w'=>e= .returned (tmV n (tx s))/\Below w.heap.size w w':=by
 have e:IntKind.i64.wrap (s+62135596800)=tx s:=by rw[IntKind.wrap_i64];unfold tx wrap64;omega
 go_enter Tryz.func145,Tryz.ntmps145
 go_wp2
 exact A0M w.heap.size n (tx s) _ rfl rfl rfl (zI w _) ⟨rfl,(zD _ w).alloc (zB _) _⟩
theorem B6G (w:World) (s n:Int) (h0:0<=n) (h1:n<1000000000):
  Calls Tryz.prog 70 #[.int .i64 s,.int .i64 n] w λe w'=>e= .returned (tmV n (tx s))/\Below w.heap.size w w':=by
 have h:=λw'=>A9g w' s n h0 h1;have h2:¬n<0:=by omega
 have h3:¬(1000000000:Int)<=n:=by omega
 go_enter Tryz.func70,Tryz.ntmps70
 go_wp2_with fail
 refine(h _).mono ?_;rintro e w1 ⟨rfl,hb⟩;have a1:=(hb.block w.heap.size (by simp)).trans (zI w (.cells #[.int .u64 0,.int .i64 0] 126));have AA:Below w.heap.size w w1:=((zD _ w).alloc (zB _) _).trans (hb.mono (by simp));have z0:=zE a1 0;have z1:=zE a1 1;have d0:w1.cell? ⟨w.heap.size,0,none⟩=some (.int .u64 0):=by rw[zA a1];rfl
 have d1:w1.cell? ⟨w.heap.size,1,none⟩=some (.int .i64 0):=by rw[zA a1];rfl
 have a2:=B6 (i:=1) (.int .i64 (tx s)) (B6 (i:=0) (.int .u64 n) a1);have AB:=(AA.setCell (p:=⟨w.heap.size,0,none⟩) (zB _) (.int .u64 n)).setCell (p:=⟨w.heap.size,1,none⟩) (zB _) (.int .i64 (tx s));have A2:=A0 a2;have HB:=A0 AB;clear a1 a2 AB hb AA h;go_wp2_with fail
 exact A0M w.heap.size n (tx s) _ rfl rfl rfl A2.out ⟨rfl,HB.out⟩
theorem B8q (w:World) (s n:Int) (h0:0<=n) (h1:n<1000000000) (hs: -200000000000000000<=s/\s<=200000000000000000):
  Calls Tryz.prog 70 #[.int .i64 s,.int .i64 n] w λe w'=>e= .returned (tmV n (s+62135596800))/\Below w.heap.size w w':=by
 have:=B6G w s n h0 h1;rwa [B3Z hs] at this
structure IH.In (h:IH):Prop where
 mn:0<=h.mn/\h.mn<1000000000
 ms: -200000000000000000<=h.ms/\h.ms<=200000000000000000
 atn:h.hasA=true->0<=h.atn/\h.atn<1000000000
 ctn:h.hasC=true->0<=h.ctn/\h.ctn<1000000000
theorem L6 {w:World} {g:Nat} {h:IH} (hh:w.heap[g]?=some (.cells h.cells.toArray 26 (0,0))) (k:Nat) (v:Value) (hv:h.cells[k]?=some v):w.cell? ⟨g,k,none⟩=some v:=by
 rw[zA hh,List.getElem?_toArray];exact hv
def IHC (g:Nat) (h:IH) (w:World):Prop:=w.heap[g]?=some (.cells h.cells.toArray 26 (0,0))
def IH.hd0 (h:IH):Hd:=⟨h.typ,h.name,h.link,h.size,h.mode,h.uid,h.gid,h.user,h.group,h.mn,h.ms+62135596800,0,0,0,0,h.maj,h.mnr,.map none,.map none,X9 h.fmt⟩
def IH.hd1 (h:IH):Hd:= {h.hd0 with aw:=if h.hasA then h.atn else 0,ax:=if h.hasA then tx h.ats else 0}
def IH.hd2 (h:IH):Hd:= {h.hd1 with cw:=if h.hasC then h.ctn else 0,cx:=if h.hasC then tx h.cts else 0}
def HS (g oh:Nat) (h:IH) (H:Hd) (w wx:World):Prop:=wx.heap[g]?=some (.cells h.cells.toArray 26 (0,0))/\wx.heap[oh]?=some (.cells H.cells.toArray 130 (0,0))/\Below g w wx/\g<oh
def N5 (w:World) (v:Value) (L:List (List UInt8×List UInt8)):Prop:=∃p c,v= .slice p L.length c/\∀ (j:Nat) (hj:j<L.length),∃rg ro,p=some ⟨rg,ro,none⟩/\rg<w.heap.size/\w.cell? ⟨rg,ro+j*2,none⟩=some (str L[j].1)/\w.cell? ⟨rg,ro+j*2+1,none⟩=some (str L[j].2)
def B5G (g oh mb:Nat) (h:IH) (L:List (List UInt8×List UInt8)) (i:Nat) (w wr:World):Prop:=
 i<=L.length/\wr.heap[g]?=some (.cells h.cells.toArray 26 (0,0))/\wr.heap[oh]?=some (.cells ({h.hd2 with recs:= .map (some mb)}:Hd).cells.toArray 130 (0,0))/\M9 wr mb i (E0 (λ_=>none) (L.take i))/\Below g w wr/\g<oh
theorem A9B (w:World) (h:IH) (Aj:h.In) (L:List (List UInt8×List UInt8)) (hL:N5 w h.recs L) (BO:L.length<=1048576) (Ae:∀p∈L,p.1.length<=9223372036854775807/\p.2.length<=9223372036854775807):
  Calls Tryz.prog 31 #[.agg h.cells.toArray] w λe w'=>∃oh rv,e= .returned (.pointer (some ⟨oh,0,none⟩))/\w'.heap[oh]?=some (.cells ({h.hd2 with recs:=rv}:Hd).cells.toArray 130 (0,0))/\J4 w' rv (E0 (λ_=>none) L) w'.heap.size/\Below w.heap.size w w'/\w.heap.size<=oh/\rv.oneCell'=true:=by
 have AA:=zI w (.cells h.cells.toArray 26);have AL:=A0 Aj;have HL:=A0 hL;have As:=A0 Ae;clear Aj hL Ae;go_enter Tryz.func31,Tryz.ntmps31
 go_upto_region 1 with fail
 generalize Am:w.alloc (.cells h.cells.toArray 26)=w0 at*;generalize hg:w.heap.size=g at*;have d0:=L6 AA 0 (.int .u8 h.typ) rfl;have d1:=L6 AA 1 (str h.name) rfl;have d2:=L6 AA 2 (str h.link) rfl;have d3:=L6 AA 3 (.int .i64 h.size) rfl;have d4:=L6 AA 4 (.int .i64 h.mode) rfl;have d5:=L6 AA 5 (.int .i64 h.uid) rfl;have d6:=L6 AA 6 (.int .i64 h.gid) rfl;have d7:=L6 AA 7 (str h.user) rfl;have d8:=L6 AA 8 (str h.group) rfl;have d9:=L6 AA 9 (.int .i64 h.ms) rfl;have kM:=L6 AA 10 (.int .i64 h.mn) rfl;have kO:=L6 AA 17 (.int .i64 h.maj) rfl;have kP:=L6 AA 18 (.int .i64 h.mnr) rfl;have kQ:=L6 AA 20 (.int .i64 h.fmt) rfl;have HN:=A0 AA;have HT:=A0 (B8q w0.drew h.ms h.mn AL.out.mn.1 AL.out.mn.2 AL.out.ms);have Aq:=A0 A6q;have AB:=zC d0;have Ab:Below g w w0:=by rw[<-Am,<-hg];exact(zD _ w).alloc (zB _) _
 have Ao:=A0 Ab;have HG:=A0 hg;clear AA Am Ab hg
 go_region_held3 (λw'=>w'.cell? ⟨g,0,none⟩=some (.int .u8 h.typ)/\w'.cell? ⟨g,1,none⟩=some (str h.name)/\w'.cell? ⟨g,2,none⟩=some (str h.link)/\w'.cell? ⟨g,3,none⟩=some (.int .i64 h.size)/\w'.cell? ⟨g,4,none⟩=some (.int .i64 h.mode)/\w'.cell? ⟨g,5,none⟩=some (.int .i64 h.uid)/\w'.cell? ⟨g,6,none⟩=some (.int .i64 h.gid)/\w'.cell? ⟨g,7,none⟩=some (str h.user)/\w'.cell? ⟨g,8,none⟩=some (str h.group)/\w'.cell? ⟨g,9,none⟩=some (.int .i64 h.ms)/\w'.cell? ⟨g,10,none⟩=some (.int .i64 h.mn)/\w'.cell? ⟨g,17,none⟩=some (.int .i64 h.maj)/\w'.cell? ⟨g,18,none⟩=some (.int .i64 h.mnr)/\w'.cell? ⟨g,20,none⟩=some (.int .i64 h.fmt)) (first|go_keep|(refine⟨?_,?_,?_,?_,?_,?_,?_,?_,?_,?_,?_,?_,?_,?_⟩<;>assumption)) (first|(go_at_call 70;refine HT.out.mono ?_;rintro e w1 ⟨rfl,AC⟩;have e0:=(AC.cell (p:=⟨g,0,none⟩) AB).trans d0;have e1:=(AC.cell (p:=⟨g,1,none⟩) AB).trans d1;have e2:=(AC.cell (p:=⟨g,2,none⟩) AB).trans d2;have e3:=(AC.cell (p:=⟨g,3,none⟩) AB).trans d3;have e4:=(AC.cell (p:=⟨g,4,none⟩) AB).trans d4;have e5:=(AC.cell (p:=⟨g,5,none⟩) AB).trans d5;have e6:=(AC.cell (p:=⟨g,6,none⟩) AB).trans d6;have e7:=(AC.cell (p:=⟨g,7,none⟩) AB).trans d7;have e8:=(AC.cell (p:=⟨g,8,none⟩) AB).trans d8;have e9:=(AC.cell (p:=⟨g,9,none⟩) AB).trans d9;have Au:=(AC.cell (p:=⟨g,10,none⟩) AB).trans kM;have Av:=(AC.cell (p:=⟨g,17,none⟩) AB).trans kO;have Aw:=(AC.cell (p:=⟨g,18,none⟩) AB).trans kP;have Ax:=(AC.cell (p:=⟨g,20,none⟩) AB).trans kQ)|(go_at_call 71;refine(Aq.out _ _).mono ?_;rintro e wx ⟨rfl,rfl⟩))
 have Ai:g<w1.heap.size:=by have:=AC.size;have:w0.drew.heap.size=w0.heap.size:=rfl;omega
 have AQ:HS g w1.heap.size h h.hd0 w (w1.alloc (.cells h.hd0.cells.toArray 130)):=by
  refine⟨?_,zI w1 _,?_,Ai⟩
  ·exact(zO w1 _ g Ai).trans ((AC.block g AB).trans HN.out)
  ·exact(Ao.out.drew.trans (AC.mono (show g<=w0.drew.heap.size by show g<=w0.heap.size;omega))).alloc (by omega) _
 have AH:=(AC.cell (p:=⟨g,11,none⟩) AB).trans (L6 HN.out 11 (.bool h.hasA) rfl);have AJ:=A0 AQ;clear AQ d0 d1 d2 d3 d4 d5 d6 d7 d8 d9 kM kO kP kQ e0 e1 e2 e3 e4 e5 e6 e7 e8 e9 Au Av Aw Ax HT;generalize BF:w1.heap.size=oh at*;have An: (w1.alloc (.cells #[.int .u8 h.typ,str h.name,str h.link,.int .i64 h.size,.int .i64 h.mode,.int .i64 h.uid,.int .i64 h.gid,str h.user,str h.group,.int .u64 h.mn,.int .i64 (h.ms+62135596800),.int .u64 0,.int .i64 0,.int .u64 0,.int .i64 0,.int .i64 h.maj,.int .i64 h.mnr,.map none,.map none,.int .i64 (X9 h.fmt)] 130))=w1.alloc (.cells h.hd0.cells.toArray 130):=rfl;rw[An];clear An;generalize BI:w1.alloc (.cells h.hd0.cells.toArray 130)=v0 at*;have AH:=L6 AJ.out.1 11 (.bool h.hasA) rfl;clear AC BI BF;have AD:=AJ;clear AJ;obtain⟨vv,BL⟩:∃vv,vv=v0:=⟨_,rfl⟩;subst BL;go_upto_if 41 with fail
 go_cut [] (λwx=>HS g oh h h.hd1 w wx)
 case first=>
  cases hA:h.hasA
  ·rw[hA] at AH
   go_wp2_with fail
   go_meet
   have e:h.hd1=h.hd0:=by unfold IH.hd1;rw[hA];rfl
   rw[e];exact AD.out
  ·rw[hA] at AH
   have AT:=L6 AD.out.1 12 (.int .i64 h.ats) rfl;have AU:=L6 AD.out.1 13 (.int .i64 h.atn) rfl;have HT:=A0 (B6G vv h.ats h.atn (AL.out.atn hA).1 (AL.out.atn hA).2);go_wp2_with fail
   refine HT.out.mono ?_;rintro e w2 ⟨rfl,AO⟩;obtain⟨p1,p2,p3,p4⟩:=AD.out;have q1:=(AO.block g (A8 p1)).trans p1;have q2:=(AO.block oh (A8 p2)).trans p2;have q3:Below g w w2:=p3.trans (AO.mono (QA (A8 p1)));have c1:w2.cell? ⟨oh,11,none⟩=some (.int .u64 0):=by rw[zA q2];rfl
   have c2:w2.cell? ⟨oh,12,none⟩=some (.int .i64 0):=by rw[zA q2];rfl
   have z1:w2.frozen? ⟨oh,11,none⟩=false:=zE q2 11;have z2:w2.frozen? ⟨oh,12,none⟩=false:=zE q2 12;have r1:=B6 (i:=11) (.int .u64 h.atn) q2;have r2:=B6 (i:=12) (.int .i64 (tx h.ats)) r1;have t1:=(C0 (w:=w2.setCell ⟨oh,11,none⟩ (.int .u64 h.atn)) (a:=⟨oh,12,none⟩) (k:=g) (.int .i64 (tx h.ats)) (by show g≠oh;omega)).trans ((C0 (w:=w2) (a:=⟨oh,11,none⟩) (k:=g) (.int .u64 h.atn) (by show g≠oh;omega)).trans q1)
   have AE:HS g oh h h.hd1 w ((w2.setCell ⟨oh,11,none⟩ (.int .u64 h.atn)).setCell ⟨oh,12,none⟩ (.int .i64 (tx h.ats))):=by
    have e:h.hd1.cells=(h.hd0.cells.set 11 (.int .u64 h.atn)).set 12 (.int .i64 (tx h.ats)):=by unfold IH.hd1;rw[hA];rfl
    refine⟨t1,?_,(q3.setCell (p:=⟨oh,11,none⟩) (QA p4) _).setCell (p:=⟨oh,12,none⟩) (QA p4) _,p4⟩;rw[r2,e];rfl
   have AI:=A0 AE;clear p1 p2 p3 q1 q2 q3 r1 r2 t1 AE AT AU;go_wp2_with fail
   go_meet
   exact AI.out
 case rest=>
  have AD:=A0 hcut;clear AH hcut;obtain⟨v1,rfl⟩:∃v1:World,v1=wc:=⟨_,rfl⟩;have AH:=L6 AD.out.1 14 (.bool h.hasC) rfl;go_upto_if 53 with fail
  go_cut [] (λwx=>HS g oh h h.hd2 w wx)
  case first=>
   cases hA:h.hasC
   ·rw[hA] at AH
    go_wp2_with fail
    go_meet
    have e:h.hd2=h.hd1:=by unfold IH.hd2;rw[hA];rfl
    rw[e];exact AD.out
   ·rw[hA] at AH
    have AT:=L6 AD.out.1 15 (.int .i64 h.cts) rfl;have AU:=L6 AD.out.1 16 (.int .i64 h.ctn) rfl;have HT:=A0 (B6G v1 h.cts h.ctn (AL.out.ctn hA).1 (AL.out.ctn hA).2);go_wp2_with fail
    refine HT.out.mono ?_;rintro e w2 ⟨rfl,AO⟩;obtain⟨p1,p2,p3,p4⟩:=AD.out;have q1:=(AO.block g (A8 p1)).trans p1;have q2:=(AO.block oh (A8 p2)).trans p2;have q3:Below g w w2:=p3.trans (AO.mono (QA (A8 p1)));have c1:w2.cell? ⟨oh,13,none⟩=some (.int .u64 0):=by rw[zA q2];rfl
    have c2:w2.cell? ⟨oh,14,none⟩=some (.int .i64 0):=by rw[zA q2];rfl
    have z1:w2.frozen? ⟨oh,13,none⟩=false:=zE q2 13;have z2:w2.frozen? ⟨oh,14,none⟩=false:=zE q2 14;have r1:=B6 (i:=13) (.int .u64 h.ctn) q2;have r2:=B6 (i:=14) (.int .i64 (tx h.cts)) r1;have t1:=(C0 (w:=w2.setCell ⟨oh,13,none⟩ (.int .u64 h.ctn)) (a:=⟨oh,14,none⟩) (k:=g) (.int .i64 (tx h.cts)) (by show g≠oh;omega)).trans ((C0 (w:=w2) (a:=⟨oh,13,none⟩) (k:=g) (.int .u64 h.ctn) (by show g≠oh;omega)).trans q1)
    have AE:HS g oh h h.hd2 w ((w2.setCell ⟨oh,13,none⟩ (.int .u64 h.ctn)).setCell ⟨oh,14,none⟩ (.int .i64 (tx h.cts))):=by
     have e:h.hd2.cells=(h.hd1.cells.set 13 (.int .u64 h.ctn)).set 14 (.int .i64 (tx h.cts)):=by unfold IH.hd2;rw[hA];rfl
     refine⟨t1,?_,(q3.setCell (p:=⟨oh,13,none⟩) (QA p4) _).setCell (p:=⟨oh,14,none⟩) (QA p4) _,p4⟩;rw[r2,e];rfl
    have AI:=A0 AE;clear p1 p2 p3 q1 q2 q3 r1 r2 t1 AE AT AU;go_wp2_with fail
    go_meet
    exact AI.out
  case rest=>
   have AD:=A0 hcut;clear AH hcut;obtain⟨v2,rfl⟩:∃v2:World,v2=wc:=⟨_,rfl⟩;obtain⟨p,c,hv,Ah⟩:=HL.out;have AV:=L6 AD.out.1 19 h.recs rfl;rw[hv] at AV;have Aa:=A0 Ah;have BJ:=hv;have Ap:=Aa;clear Ah hv;by_cases Ad:L.length=0
   ·rw[Ad] at AV
    go_wp2_with fail
    go_ret
    have Ay:L=[]:=List.eq_nil_of_length_eq_zero Ad;obtain⟨p1,p2,p3,p4⟩:=AD.out;refine⟨oh,.map none,rfl,p2,.inl ⟨rfl,λk=>by rw[Ay];rfl⟩,by rw[HG.out];exact p3,by rw[HG.out];omega,rfl⟩
   ·have BM: (0:Int)< (L.length:Int):=by omega
    have BE:v2.cell? ⟨oh,18,none⟩=some (.map none):=by rw[zA AD.out.2.1];rfl
    have BH:v2.frozen? ⟨oh,18,none⟩=false:=zE AD.out.2.1 18;have BC:=@run_makeMap Tryz.prog;have BQ:oh<v2.heap.size:=A8 AD.out.2.1;have BP:g<v2.heap.size:=A8 AD.out.1;go_upto_region 8 with fail
    have AM:B5G g oh v2.heap.size h L 0 w ((v2.setCell ⟨oh,18,none⟩ (.map (some v2.heap.size))).alloc (.map #[] 0)):=by
     obtain⟨p1,p2,p3,p4⟩:=AD.out;have Al: (v2.setCell ⟨oh,18,none⟩ (.map (some v2.heap.size))).heap.size=v2.heap.size:=by simp[World.setCell]
     have q2:=B6 (i:=18) (.map (some v2.heap.size)) p2;have q1:=(C0 (w:=v2) (a:=⟨oh,18,none⟩) (k:=g) (.map (some v2.heap.size)) (by show g≠oh;omega)).trans p1;have q3:=p3.setCell (p:=⟨oh,18,none⟩) (QA p4) (.map (some v2.heap.size));have hm:=M9.made (v2.setCell ⟨oh,18,none⟩ (.map (some v2.heap.size)));rw[Al] at hm;have hx:∀k o,(v2.setCell ⟨oh,18,none⟩ (.map (some v2.heap.size))).heap[k]?=some o->((v2.setCell ⟨oh,18,none⟩ (.map (some v2.heap.size))).alloc (.map #[] 0)).heap[k]?=some o:=λk o hk=>(zO _ _ k (A8 hk)).trans hk;refine⟨zW _,hx _ _ q1,?_,hm,q3.alloc (by rw[Al];omega) _,p4⟩;exact(hx _ _ q2).trans rfl
    have AG:=A0 AM
    have AP: ((v2.setCell ⟨oh,18,none⟩ (.map (some v2.heap.size))).alloc (.map #[] 0)).cell? ⟨g,19,none⟩=some (.slice p L.length c):=by
     rw[zA AM.2.1,<-BJ];rfl
    clear AM BE BH BC AV;go_wp2_with fail
    obtain⟨mb,AX⟩:∃mb,mb=v2.heap.size:=⟨_,rfl⟩;have Az:g<=mb:=by rw[AX];omega
    rw[<-AX] at AG⊢;clear AX;go_loopw [75] (λs75 wr=>∃i:Nat,s75= .int .i64 i/\Hid (B5G g oh mb h L i w wr)) (λs75 _=>L.length- (intOf s75).toNat)
    case atStart=>exact⟨0,rfl,AG⟩
    case round=>
     obtain⟨i,rfl,hrel⟩:=hrel;obtain⟨hi,p1,p2,p3,p4,p5⟩:=hrel.out;by_cases AB:i<L.length
     ·obtain⟨rg,ro,rfl,BS,k1,k2⟩:=Aa.out i AB
      have ck:wr.cell? ⟨rg,ro+i*2,none⟩=some (str L[i].1):=(p4.cell (p:=⟨rg,ro+i*2,none⟩) (by have:=HG.out;show rg<g;omega)).trans k1;have cv:wr.cell? ⟨rg,ro+i*2+1,none⟩=some (str L[i].2):=(p4.cell (p:=⟨rg,ro+i*2+1,none⟩) (by have:=HG.out;show rg<g;omega)).trans k2;have kL:wr.cell? ⟨oh,18,none⟩=some (.map (some mb)):=by rw[zA p2];rfl
      have BR:oh<wr.heap.size:=A8 p2;clear hrel k1 k2 AG AP;generalize Af:L[i].1=kk at*;generalize Ag:L[i].2=AZ at*;have HP:=A0 (And.intro p1 (And.intro p2 (And.intro p3 (And.intro p4 p5))));clear p1 p2 p3 p4 p5;go_upto_region 11 with fail
      have AR:Below wr.heap.size wr ((wr.alloc (.cells #[.string ⟨kk.toArray⟩,.string ⟨AZ.toArray⟩] 59)).drew):=((zD _ wr).alloc (zB _) _).drew;obtain⟨AW,AY⟩:=As.out _ (List.getElem_mem AB);rw[Af] at AW;rw[Ag] at AY;obtain⟨w9,BT,Ak,AS⟩:=(HP.out.2.2.1.below AR).update A0p (by omega) kk AZ AW AY
      have Ac:B5G g oh mb h L (i+1) w w9:=by
       obtain⟨p1,p2,p3,p4,p5⟩:=HP.out;obtain⟨es,cl,he⟩:=p3.isMap2;have BA:g≠mb:=by rintro rfl;rw[p1] at he;cases he
       have BD:oh≠mb:=by rintro rfl;rw[p2] at he;cases he
       have q1:=(AR.block g (A8 p1)).trans p1;have q2:=(AR.block oh (A8 p2)).trans p2
       have e:E0 (λ_=>none) (L.take (i+1))=O2 (E0 (λ_=>none) (L.take i)) kk AZ:=by
        rw[zU AB,A5H];show O2 _ L[i].1 L[i].2=_
        rw[Af,Ag]
       refine⟨by omega,AS.same q1 (by simpa using BA) (.inl (A8 q1)),AS.same q2 (by simpa using BD) (.inl (A8 q2)),by rw[e];exact Ak,(p4.trans (AR.mono (QA (A8 p1)))).trans (Fr.below_of AS (QA (A8 q1)) ?_),p5⟩;intro k hk;rw[List.mem_singleton.1 hk];exact Az
      have Ar:=A0 Ac;clear AR Ak AS Ac AW AY;go_region
      go_wp2_with fail
      go_roundw
      case rel=>exact⟨i+1,by go_num,Ar⟩
      case measure=>simp[intOf];omega
     ·obtain rfl:i=L.length:=by omega
      clear hrel AG AP;have HP:=A0 (And.intro p1 (And.intro p2 (And.intro p3 (And.intro p4 p5))));clear p1 p2 p3 p4 p5;go_wp2_with fail
      go_ret
      obtain⟨p1,p2,p3,p4,p5⟩:=HP.out;rw[List.take_length] at p3;exact⟨oh,rfl,.map (some mb),p2,.inr ⟨mb,L.length,rfl,p3.lt,p3,by omega⟩,by rw[HG.out];exact p4,by rw[HG.out];omega,rfl⟩
theorem B7X {R:Ending->World->Prop} {fn:Func} {t:Tmp} {a:Act} (g:Nat) (x y:Value) (w:World) (hr:fn.results=#[.cell t 23]) (hp:a.tmps.getD t undef= .pointer (some ⟨g,0,none⟩)) (hd:a.defers=[])
  (hg:w.heap[g]?=some (.cells #[x,y] 23 (0,0))) (hR:R (.returned (.agg #[x,y])) w):bodyPost Tryz.prog fn R .ret a w:=
 bodyPost_ret (results_cell_row hr _ _ g 23 #[x,y] (0,0) _ hp hg Tryz.underlying23 rfl (by kernel_rfl)) hd hR
theorem A9i (w:World) (n x:Int) (h0:0<=n) (h1:n<1000000000) (hx: -100000000000000000<=x-62135596800/\x-62135596800<=100000000000000000):
  Calls Tryz.prog 73 #[tmV n x] w λe w'=>e= .returned (.agg #[.int .i64 (x-62135596800),.int .i64 n])/\Below w.heap.size w w':=by
 have hU:=λwx=>A0k wx n x h0 h1 hx;have hN:=λwx=>A6a wx n x h0 h1;have HU:=A0 hU;have HN:=A0 hN;clear hU hN;go_enter Tryz.func73,Tryz.ntmps73
 go_upto_region 1 with fail
 have a1: ((w.alloc (.cells #[.int .u64 n,.int .i64 x] 126)).alloc (.cells #[.int .i64 0,.int .i64 0] 23)).heap[w.heap.size]?=some (.cells #[.int .u64 n,.int .i64 x] 126 (0,0)):=heap_alloc2_old w _ _;have a2: ((w.alloc (.cells #[.int .u64 n,.int .i64 x] 126)).alloc (.cells #[.int .i64 0,.int .i64 0] 23)).heap[w.heap.size+1]?=some (.cells #[.int .i64 0,.int .i64 0] 23 (0,0)):=heap_alloc2_new w _ _;have hb:Below w.heap.size w ((w.alloc (.cells #[.int .u64 n,.int .i64 x] 126)).alloc (.cells #[.int .i64 0,.int .i64 0] 23)):=((zD _ _).alloc (zB _) _).alloc (by simp) _;generalize (w.alloc (.cells #[.int .u64 n,.int .i64 x] 126)).alloc (.cells #[.int .i64 0,.int .i64 0] 23)=w1 at*;have c0:w1.cell? ⟨w.heap.size,0,none⟩=some (.int .u64 n):=by rw[zA a1];rfl
 have c1:w1.cell? ⟨w.heap.size,1,none⟩=some (.int .i64 x):=by rw[zA a1];rfl
 have AC:=A0 a2;have HB:=A0 hb;have l1:=A8 a1;have l2:=A8 a2;clear a1 a2 hb
 go_region_held3 (λw'=>w'.cell? ⟨w.heap.size,0,none⟩=some (.int .u64 n)/\w'.cell? ⟨w.heap.size,1,none⟩=some (.int .i64 x)) (first|go_keep|(refine And.intro ?_ ?_<;>assumption))
  (first|(go_at_call 103;refine(HU.out _).mono ?_;rintro e w2 ⟨rfl,AD⟩;have AA:=A0 AD;have d0:=(AD.cell (p:=⟨w.heap.size,0,none⟩) l1).trans c0;have d1:=(AD.cell (p:=⟨w.heap.size,1,none⟩) l1).trans c1;clear AD)|(go_at_call 104;refine(HN.out _).mono ?_;rintro e w3 ⟨rfl,AB⟩;have AE:=A0 AB;have e0:=(AB.cell (p:=⟨w.heap.size,0,none⟩) (zL l1 AA.out.size)).trans d0;have e1:=(AB.cell (p:=⟨w.heap.size,1,none⟩) (zL l1 AA.out.size)).trans d1;have z0:w3.frozen? ⟨w.heap.size+1,0,none⟩=false:=zE ((AB.block (w.heap.size+1) (zL l2 AA.out.size)).trans ((AA.out.block (w.heap.size+1) l2).trans AC.out)) 0;have z1:w3.frozen? ⟨w.heap.size+1,1,none⟩=false:=zE ((AB.block (w.heap.size+1) (zL l2 AA.out.size)).trans ((AA.out.block (w.heap.size+1) l2).trans AC.out)) 1;have y0:w3.cell? ⟨w.heap.size+1,0,none⟩=some (.int .i64 0):=(by rw[zA ((AB.block (w.heap.size+1) (zL l2 AA.out.size)).trans ((AA.out.block (w.heap.size+1) l2).trans AC.out))];rfl);have y1:w3.cell? ⟨w.heap.size+1,1,none⟩=some (.int .i64 0):=(by rw[zA ((AB.block (w.heap.size+1) (zL l2 AA.out.size)).trans ((AA.out.block (w.heap.size+1) l2).trans AC.out))];rfl)))
 have AG:Below w.heap.size w w3:=HB.out.drew.trans ((AA.out.mono (QA l1)).trans (AE.out.mono (QA (zL l1 AA.out.size))));have h3:=(AE.out.block (w.heap.size+1) (zL l2 AA.out.size)).trans ((AA.out.block (w.heap.size+1) l2).trans AC.out);have h4:=B6 (i:=0) (.int .i64 (x-62135596800)) h3;have h5:=B6 (i:=1) (.int .i64 n) h4;go_wp2_with fail
 refine B7X (w.heap.size+1) (.int .i64 (x-62135596800)) (.int .i64 n) _ rfl rfl rfl h5 ⟨rfl,(AG.setCell (p:=⟨w.heap.size+1,0,none⟩) (Nat.le_succ _) _).setCell (p:=⟨w.heap.size+1,1,none⟩) (Nat.le_succ _) _⟩
theorem B0e (w:World):Calls Tryz.prog 75 #[.int .i64 2] w (C4 w (.int .i64 1)):=by
 go_enter Tryz.func75,Tryz.ntmps75
 go_wp2
 go_ret
 exact⟨rfl,rfl⟩
theorem B0f (w:World):Calls Tryz.prog 75 #[.int .i64 4] w (C4 w (.int .i64 2)):=by
 go_enter Tryz.func75,Tryz.ntmps75
 go_wp2
 go_ret
 exact⟨rfl,rfl⟩
theorem B0g (w:World):Calls Tryz.prog 75 #[.int .i64 8] w (C4 w (.int .i64 3)):=by
 go_enter Tryz.func75,Tryz.ntmps75
 go_wp2
 go_ret
 exact⟨rfl,rfl⟩
def A6p (f:Int):Int:=if f=2 then 1 else if f=4 then 2 else 3
theorem B2K (w:World) (f:Int) (h:f=2\/f=4\/f=8):Calls Tryz.prog 75 #[.int .i64 f] w (C4 w (.int .i64 (A6p f))):=by
 rcases h with rfl|rfl|rfl
 ·exact B0e w
 ·exact B0f w
 ·exact B0g w
theorem B7B (w:World):Calls Tryz.prog 66 #[.int .i64 6,.int .i64 6] w (C4 w (.bool true)):=by
 have e:bits .and .i64 6 6=6:=by decide
 go_enter Tryz.func66,Tryz.ntmps66
 go_wp2_with fail
 go_ret
 exact⟨rfl,rfl⟩
theorem rh2 (tr r:Nat) (AI:Int) (AA AH:Value) (B:C1) (V:RdV) (pb hb:Nat) (v0 u0:World) (hR:RdF B V) (h:Z9 tr r AI AA AH B pb hb (A2V B V) v0 u0)
  (R:Ending->World->Prop) (hK:∀w',Z9 tr r AI AA AH B pb hb (O7 B V) v0 w'->R (.returned (.tuple #[.pointer (some ⟨hb,0,none⟩),.pointer (some ⟨tr,3,none⟩),.nilIface])) w') {c1 c2 c3 c4 c5 c6 c7 c8 kR kS kT kU kV kL kW c20 c21 kX kY kZ lA lB lC lD lE lF lG lH lI lJ lL lM c37 lO lP lQ lR lS lT lU lV c46 lW lX lY lZ c51 mA c53 mB mC mD mE mF mG mH mI mJ mL mM mO mP mQ mR mS mT mU mV mW mX c75 mY mZ nA nB c80 nC nD nE nF c85 nG nH nI nJ nL nM nO nP nQ nS nT nU nV nW aA aB aD aF aG aH aI aJ aK aL aM aN aO aP aQ aR aS aT aU aV aW aX aY aZ bA bB bC c127 bD bE bF bG bH bI bJ bK bL bM bN bO bP bQ bR c143 bS c145 bT bU bV bW bX bY bZ cA cB cC cD cE cF cG cH cI cJ cL cM cO cP c167 c168 cQ cS c171 cT c173 cU c175 cV cW cX cY cZ dA dB dC dD dE dF dG dH dI dJ dL dM dO dP dQ dR dS dT dU dV dW dX dY dZ eA eC eD eH eJ c210 eK c212 c213 eO eR eS eV eW eX eY eZ fA fB fC fD fE fH fI fJ fK fL c232 c233 fN fO fP fQ fR fS fT fU fV fW fX fY fZ gA gB gC gD gE gF gG gH gI gJ gK gL gM gN gO gP gQ gR gT gU gW gX gY gZ hJ hZ iA iB iC iD iE iF iG iH iI iJ iK iL iM iN iO iP iQ iR iS iT iU iV iW iX iY iZ jA jB jC jD jE jF jG jH jI jJ jK jL jM jN jO jP jQ jR jS jT jU jV jW jX jY jZ kA kB kC kD kE kF kG kH kI kJ:Value}:
  Code.wp Tryz.prog B3I (bodyPost Tryz.prog Tryz.f148 R) ⟨(.pointer (some ⟨tr,0,none⟩)::c1::c2::c3::c4::c5::c6::c7::c8::.int .i64 6::.pointer (some ⟨pb,0,none⟩)::.pointer (some ⟨hb,0,none⟩)::.pointer (some ⟨tr,3,none⟩)::kR::kS::kT::kU::kV::kL::kW::c20::c21::kX::kY::kZ::lA::lB::lC::lD::lE::lF::lG::lH::lI::lJ::lL::lM::c37::lO::lP::lQ::lR::lS::lT::lU::lV::c46::lW::lX::lY::lZ::c51::mA::c53::mB::mC::mD::mE::mF::mG::mH::mI::mJ::mL::mM::mO::mP::mQ::mR::mS::mT::mU::mV::mW::mX::c75::mY::mZ::nA::nB::c80::nC::nD::nE::nF::c85::nG::nH::nI::nJ::nL::nM::nO::nP::nQ::nS::nT::nU::nV::nW::aA::aB::aD::aF::aG::aH::aI::aJ::aK::aL::aM::aN::aO::aP::aQ::aR::aS::aT::aU::aV::aW::aX::aY::aZ::bA::bB::bC::c127::bD::bE::bF::bG::bH::bI::bJ::bK::bL::bM::bN::bO::bP::bQ::bR::c143::bS::c145::bT::bU::bV::bW::bX::bY::bZ::cA::cB::cC::cD::cE::cF::cG::cH::cI::cJ::cL::cM::cO::cP::c167::c168::cQ::cS::c171::cT::c173::cU::c175::cV::cW::cX::cY::cZ::dA::dB::dC::dD::dE::dF::dG::dH::dI::dJ::dL::dM::dO::dP::dQ::dR::dS::dT::dU::dV::dW::dX::dY::dZ::eA::eC::eD::eH::eJ::c210::eK::c212::c213::eO::eR::eS::eV::eW::eX::eY::eZ::fA::fB::fC::fD::fE::fH::fI::fJ::fK::fL::c232::c233::fN::fO::fP::fQ::fR::fS::fT::fU::fV::fW::fX::fY::fZ::gA::gB::gC::gD::gE::gF::gG::gH::gI::gJ::gK::gL::gM::gN::gO::gP::gQ::gR::gT::gU::gW::gX::gY::gZ::hJ::hZ::iA::iB::iC::iD::iE::iF::iG::iH::iI::iJ::iK::iL::iM::iN::iO::iP::iQ::iR::iS::iT::iU::iV::iW::iX::iY::iZ::jA::jB::jC::jD::jE::jF::jG::jH::jI::jJ::jK::jL::jM::jN::jO::jP::jQ::jR::jS::jT::jU::jV::jW::jX::jY::jZ::kA::kB::kC::kD::kE::kF::kG::kH::kI::kJ::[]).toArray,[]⟩ u0:=by
 conv=>arg 2;whnf
 obtain⟨u1,AW⟩:∃u1,u1=u0:=⟨_,rfl⟩;rw[<-AW] at h⊢;clear AW u0;have HS:=A0 h;have HR:=A0 hR;have HK:=A0 hK;have vu:=A0 Z0;have va:=A0 A3T;have vb:=A0 A1Z;have vc:=A0 A7I;have vd:=A0 A7J;have ve:=A0 A7K;have vs:=A0 A0G;have vm:=A0 A0F;have vi:=A0 A1g;have vg:=A0 A1f;have vt:=A0 V8;have AZ:=A0 B7B;clear h hR hK;go_wp2_with fail
 refine(vu.out _ _).mono ?_;rintro e wx ⟨rfl,rfl⟩;go_wp2_with fail
 refine(va.out _ _ _).mono ?_;rintro e wx ⟨rfl,rfl⟩;have AB:=A0 (L4 u1 (.pointer (some ⟨pb,0,none⟩)) tr 268 32 247 _ (At.get_user HR.out.ok HS.out.at) HR.out.ok.user (by omega));have z:=HS.out.hz 7;have hc:=HS.out.hc 7 _ rfl;go_wp2_with fail
 refine AB.out.mono ?_;rintro e wx ⟨rfl,rfl⟩;go_wp2_with fail
 have AC:Hid (Z9 tr r AI AA AH B pb hb ({A2V B V with user:=D4 B.user}:Hd) v0 (u1.setCell ⟨hb,7,none⟩ (str (D4 B.user)))):=A0 (HS.out.set 7 _ _ rfl);clear AB HS z hc;have HS:=AC;clear AC;generalize (u1.setCell ⟨hb,7,none⟩ (str (D4 B.user)))=u2 at*;refine(vb.out _ _ _).mono ?_;rintro e wx ⟨rfl,rfl⟩;have AB:=A0 (L4 u2 (.pointer (some ⟨pb,0,none⟩)) tr 300 32 215 _ (At.get_group HR.out.ok HS.out.at) HR.out.ok.group (by omega));have z:=HS.out.hz 8;have hc:=HS.out.hc 8 _ rfl;go_wp2_with fail
 refine AB.out.mono ?_;rintro e wx ⟨rfl,rfl⟩;go_wp2_with fail
 have AC:Hid (Z9 tr r AI AA AH B pb hb ({A2V B V with user:=D4 B.user,group:=D4 B.group}:Hd) v0 (u2.setCell ⟨hb,8,none⟩ (str (D4 B.group)))):=A0 (HS.out.set 8 _ _ rfl);clear AB HS z hc;have HS:=AC;clear AC;generalize (u2.setCell ⟨hb,8,none⟩ (str (D4 B.group)))=u3 at*;refine(vc.out _ _ _).mono ?_;rintro e wx ⟨rfl,rfl⟩;have AB:=A0 (N7 u3 (.pointer (some ⟨pb,0,none⟩)) tr 332 8 183 _ _ HR.out.maj (At.get_maj HR.out.ok HS.out.at) HR.out.ok.maj (by omega) (by omega) (by omega));go_wp2_with fail
 refine AB.out.mono ?_;rintro e q ⟨rfl,AO⟩;have HQ:=A0 (HS.out.below AO);clear AO HS;have HS:=HQ;clear HQ;have z:=HS.out.hz 15;have hc:=HS.out.hc 15 _ rfl;go_wp2_with fail
 have AC:Hid (Z9 tr r AI AA AH B pb hb ({A2V B V with user:=D4 B.user,group:=D4 B.group,maj:=V.maj}:Hd) v0 (q.setCell ⟨hb,15,none⟩ (.int .i64 V.maj))):=A0 (HS.out.set 15 _ _ rfl);clear AB HS z hc;have HS:=AC;clear AC;generalize (q.setCell ⟨hb,15,none⟩ (.int .i64 V.maj))=u4 at*;refine(vd.out _ _ _).mono ?_;rintro e wx ⟨rfl,rfl⟩;have AB:=A0 (N7 u4 (.pointer (some ⟨pb,0,none⟩)) tr 340 8 175 _ _ HR.out.mnr (At.get_mnr HR.out.ok HS.out.at) HR.out.ok.mnr (by omega) (by omega) (by omega));go_wp2_with fail
 refine AB.out.mono ?_;rintro e q ⟨rfl,AO⟩;have HQ:=A0 (HS.out.below AO);clear AO HS;have HS:=HQ;clear HQ;have z:=HS.out.hz 16;have hc:=HS.out.hc 16 _ rfl;go_wp2_with fail
 have AC:Hid (Z9 tr r AI AA AH B pb hb ({A2V B V with user:=D4 B.user,group:=D4 B.group,maj:=V.maj,mnr:=V.mnr}:Hd) v0 (q.setCell ⟨hb,16,none⟩ (.int .i64 V.mnr))):=A0 (HS.out.set 16 _ _ rfl);clear AB HS z hc;have HS:=AC;clear AC;generalize (q.setCell ⟨hb,16,none⟩ (.int .i64 V.mnr))=u5 at*;refine(AZ.out _).mono ?_;rintro e wx ⟨rfl,rfl⟩;have z:=HS.out.hz 19;have hc:=HS.out.hc 19 _ rfl;go_wp2_with fail
 have AC:Hid (Z9 tr r AI AA AH B pb hb ({A2V B V with user:=D4 B.user,group:=D4 B.group,maj:=V.maj,mnr:=V.mnr,fmt:=6}:Hd) v0 (u5.setCell ⟨hb,19,none⟩ (.int .i64 6))):=A0 (HS.out.set 19 _ _ rfl);clear HS z hc;have HS:=AC;clear AC;generalize (u5.setCell ⟨hb,19,none⟩ (.int .i64 6))=q at*;refine(vu.out _ _).mono ?_;rintro e wx ⟨rfl,rfl⟩;go_wp2_with fail
 refine(ve.out _ _ _).mono ?_;rintro e wx ⟨rfl,rfl⟩;have AB:=A0 (L4 q (.pointer (some ⟨pb,0,none⟩)) tr 348 155 167 _ (At.get_pre HR.out.ok HS.out.at) (by rw[zR,HR.out.ok.rest];rfl) (by omega));go_wp2_with fail
 refine AB.out.mono ?_;rintro e wx ⟨rfl,rfl⟩;clear AB;have AU:=A0 (B0j q tr 3 512 512 B.bytes HS.out.at HR.out.ok.len (by omega) HR.out.low (by omega));go_wp2_with fail
 refine AU.out.mono ?_;rintro e wx ⟨rfl,rfl⟩;clear AU;have AL:=A0 (A1M q tr 127 11 388 _ (At.get_size HR.out.ok HS.out.at) HR.out.ok.size HR.out.zsize (by omega));have AJ:=A0 (A1M q tr 103 7 412 _ (At.get_mode HR.out.ok HS.out.at) HR.out.ok.mode HR.out.zmode (by omega));have AT:=A0 (A1M q tr 111 7 404 _ (At.get_uid HR.out.ok HS.out.at) HR.out.ok.uid HR.out.zuid (by omega));have AQ:=A0 (A1M q tr 119 7 396 _ (At.get_gid HR.out.ok HS.out.at) HR.out.ok.gid HR.out.zgid (by omega));have AE:=A0 (A1M q tr 139 11 376 _ (At.get_mtime HR.out.ok HS.out.at) HR.out.ok.mtime HR.out.zmtime (by omega));have AR:=A0 (A1M q tr 332 7 183 _ (At.get_maj HR.out.ok HS.out.at) HR.out.ok.maj HR.out.zmaj (by omega));have AS:=A0 (A1M q tr 340 7 175 _ (At.get_mnr HR.out.ok HS.out.at) HR.out.ok.mnr HR.out.zmnr (by omega));have AP:D4 (B.rest.take 155)=A0x B:=rfl;rw[AP];clear AP;go_wp2_with fail
 refine(vs.out _ _ _).mono ?_;rintro e wx ⟨rfl,rfl⟩;go_wp2_with fail
 refine AL.out.mono ?_;rintro e wx ⟨rfl,rfl⟩;clear AL;go_wp2_with fail
 refine(vm.out _ _ _).mono ?_;rintro e wx ⟨rfl,rfl⟩;go_wp2_with fail
 refine AJ.out.mono ?_;rintro e wx ⟨rfl,rfl⟩;clear AJ;go_wp2_with fail
 refine(vi.out _ _ _).mono ?_;rintro e wx ⟨rfl,rfl⟩;go_wp2_with fail
 refine AT.out.mono ?_;rintro e wx ⟨rfl,rfl⟩;clear AT;go_wp2_with fail
 refine(vg.out _ _ _).mono ?_;rintro e wx ⟨rfl,rfl⟩;go_wp2_with fail
 refine AQ.out.mono ?_;rintro e wx ⟨rfl,rfl⟩;clear AQ;go_wp2_with fail
 refine(vt.out _ _ _).mono ?_;rintro e wx ⟨rfl,rfl⟩;go_wp2_with fail
 refine AE.out.mono ?_;rintro e wx ⟨rfl,rfl⟩;clear AE;go_wp2_with fail
 refine(vc.out _ _ _).mono ?_;rintro e wx ⟨rfl,rfl⟩;go_wp2_with fail
 refine AR.out.mono ?_;rintro e wx ⟨rfl,rfl⟩;clear AR;go_wp2_with fail
 refine(vd.out _ _ _).mono ?_;rintro e wx ⟨rfl,rfl⟩;go_wp2_with fail
 refine AS.out.mono ?_;rintro e wx ⟨rfl,rfl⟩;clear AS;have h1:=HS.out.hc 1 (str (D4 B.name)) rfl;have z1:=HS.out.hz 1;by_cases AM:A0x B=[]
 ·rw[AM]
  have AD:Z9 tr r AI AA AH B pb hb (O7 B V) v0 q:=by
   have e:O7 B V=({A2V B V with user:=D4 B.user,group:=D4 B.group,maj:=V.maj,mnr:=V.mnr,fmt:=6}:Hd):=by unfold O7 A0U;rw[if_pos AM];rfl
   rw[e];exact HS.out
  have AG:=A0 AD;have hP:=HS.out.P;clear AD h1 z1 HS AM;go_wp2_with fail
  go_quiet (fail)
  go_wp2_with fail
  refine bodyPost_ret (results_tmp3 rfl _ _ _) rfl ?_;exact HK.out _ (AG.out.below (bdn (zD _ _) _))
 ·have AY: (0:Int)< (A0x B).length:=by have:=List.length_pos_iff.2 AM;omega
  have AD:Z9 tr r AI AA AH B pb hb (O7 B V) v0 (q.setCell ⟨hb,1,none⟩ (str (A0U B))):=HS.out.set 1 (str (A0U B)) (O7 B V) rfl
  have AV:Value.string ({data:=(A0x B).toArray}++ {data:=#[47]}++ {data:=(D4 B.name).toArray})=str (A0U B):=by
   unfold A0U;rw[if_neg AM];show Value.string _=Value.string _
   congr 1
   apply ByteArray.ext;simp[ByteArray.data_append]
  have Ab: (A0x B).length<=155:=by unfold A0x D4;rw[zR,zR];omega
  have Aa: (D4 B.name).length<=100:=by unfold D4;rw[zR,HR.out.ok.name];omega
  have AG:=A0 AD;have hP:=AG.out.P;have AX:=A0 AV;clear AD HS AM AV;generalize A0x B=Ac at*;go_wp2_with fail
  rw[AX.out];go_quiet (fail)
  go_wp2_with fail
  refine bodyPost_ret (results_tmp3 rfl _ _ _) rfl ?_;exact HK.out _ (AG.out.below (bdn (zD _ _) _))
end Go.Proofs.YtkanmkcojlefbaaGreatDoor
