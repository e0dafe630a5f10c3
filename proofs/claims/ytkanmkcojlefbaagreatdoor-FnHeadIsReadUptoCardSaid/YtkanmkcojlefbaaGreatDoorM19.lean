/-
  Part of the proof; holds the texts WUstar, Agg, HOf2, HOf17.
-/
import Derived.Test.YtkanmkcojlefbaaGreatDoorM18
set_option maxHeartbeats 8000000
set_option maxRecDepth 100000
set_option linter.unusedSimpArgs false
set_option linter.unusedVariables false
namespace Go.Proofs.YtkanmkcojlefbaaGreatDoor
open Go.RowKit
def U7 (l:List UInt8):List UInt8:=if J2 l then l.take (M4 l).toNat else []
def M5 (l:List UInt8):List UInt8:=if J2 l then l.drop ((M4 l).toNat+1) else l
structure A7P (h:Hd) (B:C1):Prop where
 ok:B.Ok
 typ:B.typ=[UInt8.ofNat h.typ.toNat]
 name:V9 (List.replicate 100 0) (M5 h.name) B.name
 link:V9 (List.replicate 100 0) h.link B.link
 user:V9 (List.replicate 32 0) h.user B.user
 group:V9 (List.replicate 32 0) h.group B.group
 mode:B.mode=C2 8 h.mode.toNat
 uid:B.uid=C2 8 h.uid.toNat
 gid:B.gid=C2 8 h.gid.toNat
 size:B.size=C2 12 h.size.toNat
 mtime:B.mtime=C2 12 h.sec.toNat
 maj:B.maj=C2 8 h.maj.toNat
 mnr:B.mnr=C2 8 h.mnr.toNat
 magic:B.magic=[117,115,116,97,114,0]
 ver:B.ver=[48,48]
 chk:B.chk=C2 7 (X8 B.bytes 512)++[32]
 rest:∃pf,V9 (List.replicate 155 0) (U7 h.name) pf/\B.rest=pf++List.replicate 12 0
structure WS (G0:Nat) (E:Nat->Addr) (B tw b fw:Nat) (pad:Nat) (H:Hd) (blk bs:List UInt8) (err:Value) (w:World):Prop where
 W:TW tw b fw pad H.cells (Lib.byteCells blk) err w
 buf:W3 B b bs w
 F:FW fw b 0 w
 gl:Gl G0 E w
 BG:G0<=B
 tG:G0<=tw
 fG:G0<=fw
 Bw:B<=w.heap.size
 blk512:blk.length=512
theorem WS.tb {G0:Nat} {E:Nat->Addr} {B tw b fw AC:Nat} {H:Hd} {AA bs:List UInt8} {AB:Value} {w:World} (h:WS G0 E B tw b fw AC H AA bs AB w):tw≠b:=h.buf.ne h.W.1 (by decide)
theorem WS.tf {G0:Nat} {E:Nat->Addr} {B tw b fw AC:Nat} {H:Hd} {AA bs:List UInt8} {AB:Value} {w:World} (h:WS G0 E B tw b fw AC H AA bs AB w):fw≠tw:=by
 rintro rfl;have:=h.F;rw[FW,h.W.1] at this;cases this
theorem WS.bG {G0:Nat} {E:Nat->Addr} {B tw b fw AC:Nat} {H:Hd} {AA bs:List UInt8} {AB:Value} {w:World} (h:WS G0 E B tw b fw AC H AA bs AB w):G0<=b:=Nat.le_trans h.BG h.buf.base
theorem WS.below {G0:Nat} {E:Nat->Addr} {B tw b fw AC:Nat} {H:Hd} {AA bs:List UInt8} {AB:Value} {w w':World} (h:WS G0 E B tw b fw AC H AA bs AB w) (f:Below w.heap.size w w'):WS G0 E B tw b fw AC H AA bs AB w':=
 ⟨⟨(f.block tw (A8 h.W.1)).trans h.W.1,h.W.2⟩,h.buf.carry (B':=w.heap.size) (S:=[]) (Fr.of_below f _ _) (Nat.le_refl _) (by simp) (by simp),(f.block fw (A8 h.F)).trans h.F,h.gl.below f,h.BG,h.tG,h.fG,Nat.le_trans h.Bw f.size,h.blk512⟩
theorem WS.drew {G0:Nat} {E:Nat->Addr} {B tw b fw AC:Nat} {H:Hd} {AA bs:List UInt8} {AB:Value} {w:World} (h:WS G0 E B tw b fw AC H AA bs AB w):WS G0 E B tw b fw AC H AA bs AB w.drew:=h.below (Below.refl _ w).drew
theorem WS.hdr {G0:Nat} {E:Nat->Addr} {B tw b fw AC:Nat} {H:Hd} {AA bs:List UInt8} {AB:Value} {w:World} (h:WS G0 E B tw b fw AC H AA bs AB w) (k:Nat) (v:Value) (hv:H.cells[k]?=some v):w.cell? ⟨tw,3+k,none⟩=some v:=by
 have hk:k<20:=by have:=(List.getElem?_eq_some_iff.1 hv).1;have:=h.W.2.1;omega
 rw[Lib.cell_of_heap h.W.1,A2o _ _ _ _ _ _ h.W.2.1 k hk,hv]
theorem WS.setHdr {G0:Nat} {E:Nat->Addr} {B tw b fw AC:Nat} {H:Hd} {AA bs:List UInt8} {AB:Value} {w:World} (h:WS G0 E B tw b fw AC H AA bs AB w) (k:Nat) (hk:k<20) (v:Value) (H2:Hd) (he:H.cells.set k v=H2.cells):
  WS G0 E B tw b fw AC H2 AA bs AB (w.setCell ⟨tw,3+k,none⟩ v):=by
 have q:=B6 (i:=3+k) v h.W.1;rw[A5x _ _ _ _ _ _ h.W.2.1 k hk,he] at q;exact⟨⟨q,rfl,h.W.2.2⟩,h.buf.setCell (p:=⟨tw,3+k,none⟩) h.W.1 (by decide) (by decide) v,(C0 _ h.tf).trans h.F,h.gl.set _ h.tG v,h.BG,h.tG,h.fG,by simpa[World.setCell] using h.Bw,h.blk512⟩
theorem WS.next {G0:Nat} {E:Nat->Addr} {B tw b fw AD fb:Nat} {H:Hd} {AE AA bs:List UInt8} {AB v:Value} {w w':World} (h:WS G0 E B tw b fw AD H AE bs AB w) (f:Fr w.heap.size [tw,fb] w w') (AC:w.heap[fb]?=some (.cells #[v] 196 (0,0))) (hG:G0<=fb)
  (hW:TW tw b fw AD H.cells (Lib.byteCells AA) AB w') (h2:AA.length=512):WS G0 E B tw b fw AD H AA bs AB w':=by
 have AG:fb≠b:=h.buf.ne AC (by decide);have AH:fb≠fw:=by rintro rfl;have:=h.F;rw[FW,AC] at this;cases this
 refine⟨hW,h.buf.carry (B':=w.heap.size) (S:=[tw,fb]) f (Nat.le_refl _) (by simp;exact⟨Ne.symm h.tb,Ne.symm AG⟩) ?_,f.cells h.F (by simp;exact⟨h.tf,Ne.symm AH⟩) (.inr (by decide)),h.gl.fr f h.gl.le (by simp;exact⟨h.tG,hG⟩),h.BG,h.tG,h.fG,Nat.le_trans h.Bw f.size,h2⟩;intro k hk c fz e;rcases List.mem_cons.1 hk with rfl|hk
 ·rw[h.W.1] at e;cases e
 ·obtain rfl:=List.mem_singleton.1 hk
  rw[AC] at e;cases e
theorem A0S {tw b fw:Nat} {AD:Int} {AA AB:List Value} {AC:Value} {w:World} (h:TW tw b fw AD AA AB AC w) (k:Nat) (v:Value) (hv:AA[k]?=some v):w.cell? ⟨tw,3+k,none⟩=some v:=by
 have hk:k<20:=by have:=(List.getElem?_eq_some_iff.1 hv).1;have:=h.2.1;omega
 rw[Lib.cell_of_heap h.1,A2o _ _ _ _ _ _ h.2.1 k hk,hv]
theorem A2F (b:C1) (hb:b.Ok) (x:List UInt8) (hx:x.length=8):X8 ({b with chk:=x}:C1).bytes 512=X8 b.bytes 512:=by
 have h:∀k,A4q ({b with chk:=x}:C1).bytes k=A4q b.bytes k:=by
  intro k;unfold A4q;split
  ·rfl
  ·rename_i hk
   have e1: ({b with chk:=x}:C1).bytes=b.bef_chk++(x++b.aft_chk):=C1.put_chk b x;have e2:b.bytes=b.bef_chk++(b.chk++b.aft_chk):=C1.at_chk b;have l1:=hb.bef_chk;have l2:=hb.chk;rw[e1,e2];congr 1
   rw[List.getD_eq_getElem?_getD,List.getD_eq_getElem?_getD];congr 1
   by_cases h1:k<148
   ·rw[List.getElem?_append_left (by omega),List.getElem?_append_left (by omega)]
   ·rw[List.getElem?_append_right (by omega),List.getElem?_append_right (by omega),List.getElem?_append_right (by omega),List.getElem?_append_right (by omega),hx,l2]
 have:∀n,X8 ({b with chk:=x}:C1).bytes n=X8 b.bytes n:=by
  intro n;induction n with
  |zero=>rfl
  |succ n ih=>rw[X8,X8,ih,h n]
 exact this 512
def A4n (l:List UInt8):C1:=⟨(l.drop 0).take 100,(l.drop 100).take 8,(l.drop 108).take 8,(l.drop 116).take 8,(l.drop 124).take 12,(l.drop 136).take 12,(l.drop 148).take 8,(l.drop 156).take 1,(l.drop 157).take 100,(l.drop 257).take 6,(l.drop 263).take 2,(l.drop 265).take 32,(l.drop 297).take 32,(l.drop 329).take 8,(l.drop 337).take 8,(l.drop 345).take 167⟩
theorem A4o (l:List UInt8) (h:l.length=512): (A4n l).Ok:=by
 constructor<;>(simp only[A4n,List.length_take,List.length_drop,h];omega)
theorem E9 (l:List UInt8) (a n:Nat) (r:List UInt8) (h:r=l.drop (a+n)): (l.drop a).take n++r=l.drop a:=by
 rw[h,<-List.drop_drop,List.take_append_drop]
theorem A1n (l:List UInt8) (h:l.length=512): (A4n l).bytes=l:=by
 unfold C1.bytes A4n;have e: (l.drop 345).take 167=l.drop 345:=List.take_of_length_le (by rw[List.length_drop,h];omega);simp only[e];rw[E9 l 337 8 _ rfl];rw[E9 l 329 8 _ rfl];rw[E9 l 297 32 _ rfl];rw[E9 l 265 32 _ rfl];rw[E9 l 263 2 _ rfl];rw[E9 l 257 6 _ rfl];rw[E9 l 157 100 _ rfl];rw[E9 l 156 1 _ rfl];rw[E9 l 148 8 _ rfl];rw[E9 l 136 12 _ rfl];rw[E9 l 124 12 _ rfl];rw[E9 l 116 8 _ rfl];rw[E9 l 108 8 _ rfl];rw[E9 l 100 8 _ rfl];rw[E9 l 0 100 _ rfl];rfl
def B8A (G0:Nat) (E:Nat->Addr) (B tw b fw AB:Nat) (H:Hd) (AA bs:List UInt8) (w wx:World):Prop:=WS G0 E B tw b fw AB {H with name:=M5 H.name} AA bs .nilIface wx/\Fr B [b,tw] w wx
def B8B (G0:Nat) (E:Nat->Addr) (B tw b AB:Nat) (H:Hd) (bs:List UInt8) (sz:Int) (w:World) (e:Ending) (w':World):Prop:=
 e= .returned .nilIface/\∃AA B2,A7P H B2/\W3 B b (bs++List.replicate AB 0++B2.bytes) w'/\TW tw b AA (E7 sz) ({H with name:=M5 H.name}:Hd).cells (Lib.byteCells B2.bytes) .nilIface w'/\FW AA b sz w'/\w.heap.size<=AA/\AA<w'.heap.size/\Fr B [b,tw] w w'
structure A6B (H:Hd):Prop where
 name: (M5 H.name).length<=100
 pre: (U7 H.name).length<=155
 link:H.link.length<=100
 user:H.user.length<=32
 group:H.group.length<=32
 mode:B8 8 H.mode=true
 uid:B8 8 H.uid=true
 gid:B8 8 H.gid=true
 size:B8 12 H.size=true
 mtime:B8 12 H.sec=true
 maj:B8 8 H.maj=true
 mnr:B8 8 H.mnr=true
theorem A9n (G0:Nat) (E:Nat->Addr) (B tw b fw AD:Nat) (H:Hd) (BA bs:List UInt8) (w:World) (h:WS G0 E B tw b fw AD H BA bs .nilIface w) (hp:AD<512) (BH:H.In) (hf:A6B H) (sz:Int) (Bb:sz=if D1 H.typ then 0 else H.size) (BI:bs.length+AD+512<=140737488355328):
  Calls Tryz.prog 67 #[.pointer (some ⟨tw,0,none⟩),.pointer (some ⟨tw,3,none⟩)] w (B8B G0 E B tw b AD H bs sz w):=by
 have cn:=h.hdr 1 (str H.name) rfl;have zn:w.frozen? ⟨tw,4,none⟩=false:=Lib.frozen_of_heap h.W.1 4;have Bp:=A8 h.W.1;have Ba:=A6U w H.name BH.name;have HH:=A0 h;have AB:=A0 BH;have HF:=A0 hf;have BQ:=A0 Bb;clear h BH hf Bb;go_enter Tryz.func67,Tryz.ntmps67
 go_upto_region 2 with fail
 go_cut [5,8,6,7] (λs5 s8 s6 s7 wx=>s5= .string ⟨#[]⟩/\s8= .bool (J2 H.name)/\(J2 H.name=true->s6=str (U7 H.name)/\s7=str (M5 H.name))/\Below w.heap.size w wx)
 case first=>
  go_wp2_with (go_at_call 97;refine Ba.mono ?_;rintro e w1 ⟨rfl,AV⟩;cases AJ:J2 H.name)
  ·go_meet
   exact⟨rfl,by simp[AJ],(λh=>by rw[AJ] at h;cases h),AV⟩
  ·go_meet
   exact⟨rfl,by simp[AJ],(λh=>⟨by simp[U7,AJ],by simp[M5,AJ]⟩),AV⟩
 case rest=>
  obtain⟨rfl,rfl,AI,AV⟩:=hcut;have AY:=A0 (HH.out.below AV);have Av:=A0 (Fr.of_below AV B [b,tw]);have cn:=AY.out.hdr 1 (str H.name) rfl;have zn:wc.frozen? ⟨tw,4,none⟩=false:=Lib.frozen_of_heap AY.out.W.1 4;clear Ba AV;go_upto_if 20 with fail
  go_cut [5,6,7,8] (λs5 _ _ _ wx=>s5=str (U7 H.name)/\B8A G0 E B tw b fw AD H BA bs w wx)
  case first=>
   cases AJ:J2 H.name
   ·clear AI
    go_wp2_with fail
    go_meet
    have eP:U7 H.name=[]:=by simp[U7,AJ]
    have eN:M5 H.name=H.name:=by simp[M5,AJ]
    refine⟨by rw[eP],?_,Av.out⟩;rw[eN];exact AY.out
   ·obtain⟨rfl,rfl⟩:=AI AJ
    have Al:=AY.out.setHdr 1 (by decide) (str (M5 H.name)) {H with name:=M5 H.name} rfl;have Bj:=A0 Al;clear Al AI;go_wp2_with fail
    go_meet
    refine⟨rfl,Bj.out,Av.out.setCell (p:=⟨tw,4,none⟩) (.inl (by simp)) _⟩
  case rest=>
   obtain⟨rfl,HM,Aw⟩:=hcut;obtain⟨w2,rfl⟩:∃w2:World,w2=wc:=⟨_,rfl⟩;have AE:=HM.below ((Below.refl _ w2).alloc (Nat.le_refl _) (.cells #[.nilIface] 196));have BF:=heap_alloc_new w2 (.cells #[.nilIface] 196)
   have BT:TB tw b fw AD ({H with name:=M5 H.name}:Hd).cells w2.heap.size .nilIface (E 3) (A4n BA) (w2.alloc (.cells #[.nilIface] 196)):=
    ⟨by rw[A1n _ AE.blk512];exact AE.W,A4o _ AE.blk512,BF,AE.gl.db,AE.gl.err 3 (by decide),by have:=AE.tG;have:=AE.gl.g19;omega,by have:=AE.tG;have:=AE.gl.g19;omega,by have:=HM.gl.le;have:=HM.gl.g19;omega,by have:=HM.gl.le;have:=HM.gl.g19;omega⟩
   have hT:=B3V (w2.alloc (.cells #[.nilIface] 196)) tw b fw w2.heap.size AD {H with name:=M5 H.name} ⟨AB.out.mode,AB.out.uid,AB.out.gid,AB.out.size,AB.out.maj,AB.out.mnr,AB.out.mw,AB.out.mx,AB.out.typ,by have:=HF.out.name;show(M5 H.name).length<=_;omega,AB.out.link,AB.out.user,AB.out.group⟩ .nilIface (E 3) _ BT;have HT:=A0 hT;have Ay:=A0 AE;have Ax:=A0 (Aw.alloc (.cells #[.nilIface] 196));have Bv:w2.heap.size≠b:=by have:=HM.buf.lt;omega
   have BV:w2.heap.size≠tw:=by have:=A8 HM.W.1;omega
   have Bu:w2.heap.size≠fw:=by have:=A8 HM.F;omega
   have Bt:w.heap.size<=w2.heap.size:=Aw.size;have BO:=A0 BF;clear HM Aw AE BF BT hT cn zn AY Av AI;generalize Br:w2.alloc (.cells #[.nilIface] 196)=wa at*;have By:w2.heap.size<wa.heap.size:=A8 BO.out;generalize Ai:w2.heap.size=fb at*;have AG:=A0 Ai;go_wp2_with fail
   refine HT.out.mono ?_;clear Ai Br;rintro e w3 ⟨rfl,B2,ferr2,AM,BD,Af,BC⟩;have Aj:ferr2= .nilIface:=Af HF.out.name HF.out.link HF.out.user HF.out.group HF.out.mode HF.out.uid HF.out.gid HF.out.size HF.out.mtime HF.out.maj HF.out.mnr;subst Aj;have AQ:=Ay.out.next BC BO.out (by have:=Ay.out.gl.le;have:=AG.out;have:=HH.out.gl.le;omega) AM.W AM.ok.len;have BM:=AM.seg.get_rest;rw[BD.rest,show List.replicate 167 (0:UInt8)=List.replicate 155 0++List.replicate 12 0 by rw[List.replicate_append_replicate]] at BM;have Am:=E4.first.1 BM
   have BW:=AM.pre;have Bn:=AQ.gl.err 3 (by decide);have Bo: (U7 H.name).length<=1048576:=Nat.le_trans HF.out.pre (by decide);have BE:=R5 w3 fb tw 155 167 (U7 H.name) 134 (A3S b fw AD ({H with name:=M5 H.name}:Hd).cells++Lib.byteCells B2.bef_rest) (List.replicate 155 0) (Lib.byteCells (List.replicate 12 0)++(Lib.byteCells B2.aft_rest++[.nilIface])) .nilIface (E 3) Am List.length_replicate (by decide) (by decide) (by decide) Bo AM.F BV Bn;rw[AM.ok.off_rest,BW] at BE;have vu:=A0 Z0;have vp:=A0 A7K;have Ap:=A0 AQ;have AH:=A0 AM;have Bk:=A0 BD;have Be:=A0 BC;have BP:=A0 BE;clear BM Am AQ AM BD BC BE Af BW HT;go_wp2_with fail
   refine(vu.out _ _).mono ?_;rintro e wx ⟨rfl,rfl⟩;go_wp2_with fail
   refine(vp.out _ _ _).mono ?_;rintro e wx ⟨rfl,rfl⟩;go_wp2_with fail
   refine BP.out.mono ?_;rintro e w4 ⟨rfl,pf,Bl,BJ,AO,BY,Ag,Aq⟩;obtain rfl:=AO HF.out.pre;have AS:=BJ.len;rw[List.length_replicate] at AS;have AT:=(E4.first.2 BY).put_rest;have An:=AH.out.ok.put_rest (pf++List.replicate 12 0) (by rw[List.length_append,AS,List.length_replicate]);have AP:=fun(o:Nat) (ho: (A3S b fw AD ({H with name:=M5 H.name}:Hd).cells).length=o)=>A0D w4 tw 134 _ _ _ 2 (.inl rfl) An AT AH.out.tw15 (Aq.cell AH.out.db (by simp;exact⟨Ne.symm AH.out.tw15,Ne.symm AH.out.f15⟩) (block_lt_of_cell AH.out.db));have BL:=AP 23 AH.out.pre;rw[AH.out.pre] at BL;have Ac:TW tw b fw AD ({H with name:=M5 H.name}:Hd).cells (Lib.byteCells ({B2 with rest:=pf++List.replicate 12 0}:C1).bytes) .nilIface w4:=TW.of_seg AT rfl An.len;have Ae:=Ap.out.next Aq AH.out.F (by have:=Ap.out.gl.le;have:=AG.out;have:=HH.out.gl.le;omega) Ac An.len;have Bi:=A0 BL;have BR:=A0 Ae;have AX:=A0 Ag;have Bf:=A0 Aq;have Bg:=A0 BJ;have AZ:=A0 An;clear BL AP Ac Ae Ag Aq BJ An AT BY AS AO BP;generalize BS: ({B2 with rest:=pf++List.replicate 12 0}:C1)=B4 at*;have Bd:=A0 BS;clear BS;go_wp2_with fail
   refine Bi.out.mono ?_;rintro e w5 ⟨rfl,BZ,Ar⟩;have Bc:=AZ.out.put_magic [117,115,116,97,114,0] rfl;have Ao:B4.ustar.Ok:=Bc.put_ver [48,48] rfl;have BU:=A0l B4.ustar.bytes 512;have As: (C2 7 (X8 B4.ustar.bytes 512)).length=7:=D2 7 _ (by omega) (by omega);have Au:B4.ustar.summed.Ok:=Ao.put_chk _ (by rw[List.length_append,As];rfl);have Ad:TW tw b fw AD ({H with name:=M5 H.name}:Hd).cells (Lib.byteCells B4.ustar.summed.bytes) .nilIface w5:=TW.of_seg BZ rfl Au.len;have Ab:Fr w4.heap.size [tw,fb] w4 w5:=Ar.wide (Nat.le_refl _) (by simp);have AA:=BR.out.next Ab AX.out (by have:=Ap.out.gl.le;have:=AG.out;have:=HH.out.gl.le;omega) Ad Au.len;have Ah:=Ar.cells AX.out (by simpa using BV) (.inr (by decide));have c5:w5.cell? ⟨fb,0,none⟩=some .nilIface:=by rw[Lib.cell_of_heap Ah];rfl
   have cs:=AA.hdr 3 (.int .i64 H.size) rfl;have ct:=AA.hdr 0 (.int .u8 H.typ) rfl
   have AU:0<=sz/\sz<=9223372036854775807:=by
    have h1:=BQ.out;have h2:=HF.out.size;have h3:=AB.out.size;simp only[B8,decide_eq_true_eq] at h2;split at h1
    ·omega
    ·omega
   have BX:=X4 w5.drew B tw b fw AD hp bs B4.ustar.summed.bytes ({H with name:=M5 H.name}:Hd).cells H.size sz H.typ AA.drew.buf AA.drew.Bw AA.drew.W AA.drew.F BI AU.1 AU.2 BQ.out;have Bh:=A0 BX;have AR:∀k∈[tw,fb],k∈[b,tw,fb]:=λk hk=>List.mem_cons_of_mem _ hk
   have Ak:∀k∈[b,tw],k∈[b,tw,fb]:=λk hk=>by
    rcases List.mem_cons.1 hk with h|h
    ·subst h;exact List.mem_cons_self
    ·rw[List.mem_singleton.1 h];exact List.mem_cons_of_mem _ List.mem_cons_self
   have AL:Fr B [b,tw,fb] w w5.drew:=((((Ax.out.wide (Nat.le_refl _) (λk hk _=>Ak k hk)).trans (Be.out.wide (B':=B) (S':=[b,tw,fb]) Ay.out.Bw (λk hk _=>AR k hk))).trans (Bf.out.wide Ap.out.Bw (λk hk _=>AR k hk))).trans (Ar.wide BR.out.Bw (by simp))).drew
   have Aa:Fr B [b,tw] w w5.drew:=AL.wide (Nat.le_refl _) (λk hk Bp=>by
    rcases List.mem_cons.1 hk with h|hk
    ·rw[h];simp
    ·rcases List.mem_cons.1 hk with h|hk
     ·rw[h];simp
     ·have:=List.mem_singleton.1 hk;have:=AG.out;omega)
   clear AL AR Ak;have AW:=A0 Aa;have Az:=A0 Au;clear BZ Ar Bc Ao BU As Au Ad Ab AA Ah BX Aa AU;go_wp2_with fail
   go_region_held3 (λw'=>w'.cell? ⟨tw,6,none⟩=some (.int .i64 H.size)/\w'.cell? ⟨tw,3,none⟩=some (.int .u8 H.typ)) (first|go_keep|(refine And.intro ?_ ?_<;>assumption)) (first|(go_at_call 133;refine Bh.out.mono ?_;rintro e w6 ⟨rfl,Bm,r1,r2,r3,r4,r5,r6⟩;have d0:=(A0S r2 3 (.int .i64 H.size) rfl);have d1:=(A0S r2 0 (.int .u8 H.typ) rfl)))
   go_wp2_with fail
   go_ret
   have Bs:w.heap.size<=w5.drew.heap.size:=AW.out.size;refine⟨rfl,Bm,B4.ustar.summed,?_,r1,r2,r3,Nat.le_trans Bs r4,r5,AW.out.trans (r6.wide (Nat.le_refl _) (λk hk _=>hk))⟩;have AC:=Bk.out;have eB:=Bd.out;refine⟨Az.out,?_,?_,?_,?_,?_,?_,?_,?_,?_,?_,?_,?_,rfl,rfl,?_,⟨pf,Bg.out,?_⟩⟩
   ·rw[<-eB];exact AC.typ
   ·rw[<-eB];exact AC.name
   ·rw[<-eB];exact AC.link
   ·rw[<-eB];exact AC.user
   ·rw[<-eB];exact AC.group
   ·rw[<-eB];have:=AC.mode;rw[if_pos (show B8 8 H.mode=true from HF.out.mode)] at this;exact this
   ·rw[<-eB];have:=AC.uid;rw[if_pos (show B8 8 H.uid=true from HF.out.uid)] at this;exact this
   ·rw[<-eB];have:=AC.gid;rw[if_pos (show B8 8 H.gid=true from HF.out.gid)] at this;exact this
   ·rw[<-eB];have:=AC.size;rw[if_pos (show B8 12 H.size=true from HF.out.size)] at this;exact this
   ·rw[<-eB];have:=AC.mtime;rw[if_pos (show B8 12 ({H with name:=M5 H.name}:Hd).sec=true from HF.out.mtime)] at this;exact this
   ·rw[<-eB];have:=AC.maj;rw[if_pos (show B8 8 H.maj=true from HF.out.maj)] at this;exact this
   ·rw[<-eB];have:=AC.mnr;rw[if_pos (show B8 8 H.mnr=true from HF.out.mnr)] at this;exact this
   ·show C2 7 (X8 B4.ustar.bytes 512)++[32]=C2 7 (X8 B4.ustar.summed.bytes 512)++[32]
    have Bq:B4.ustar.Ok:=(AZ.out.put_magic [117,115,116,97,114,0] rfl).put_ver [48,48] rfl;have BU:=A0l B4.ustar.bytes 512;have As: (C2 7 (X8 B4.ustar.bytes 512)).length=7:=D2 7 _ (by omega) (by omega);rw[show X8 B4.ustar.summed.bytes 512=X8 B4.ustar.bytes 512 from A2F B4.ustar Bq (C2 7 (X8 B4.ustar.bytes 512)++[32]) (by rw[List.length_append,As];rfl)]
   ·rw[<-eB];rfl
section
variable {ops:Array Oper} {rest:List Oper} {o:Oper} {a:Act} {w:World} {Q:Exit->Act->World->Prop}
theorem D3 (hg:o.guard=none) (t:TypeId) (x:Operand) (AB:o.op=Op.load t x) (p:Addr) (hx:a.eval x= .pointer (some p)) (v:Value) (AA: (loadVar t p).run Tryz.prog w= .ok v w)
  (h:wpList Tryz.prog ops Q rest (a.put o.dst v) w):wpList Tryz.prog ops Q (o::rest) a w:=
 wpList_plain hg λ_ hK=>by
  unfold Oper.wp execOp;simp only[AB,hx,Instr.loadAt,Instr.sureAddr,Sem.run_bind,Sem.run_pure,Result.andThen_ok,AA];exact hK _ _ h
theorem E6 (hg:o.guard=none) (t:TypeId) (x y:Operand) (AB:o.op=Op.store t x y) (p:Addr) (hx:a.eval x= .pointer (some p)) (v:Value) (hy:a.eval y=v) (w':World) (AA: (storeVar t p v).run Tryz.prog w= .ok () w')
  (h:wpList Tryz.prog ops Q rest (a.put o.dst undef) w'):wpList Tryz.prog ops Q (o::rest) a w:=
 wpList_plain hg λ_ hK=>by
  unfold Oper.wp execOp;simp only[AB,hx,hy,Instr.storeAt,Instr.sureAddr,Sem.run_bind,Sem.run_pure,Result.andThen_ok,AA];exact hK _ _ h
end
def B1s:TypeDesc->Bool
 | .struct _=>true
 | .array _ _=>true
 |_=>false
theorem A2A (w:World) (g o:Nat) (ty:TypeId) (cs:Array Value) (AB:At w g o cs.toList) (d:TypeDesc)
  (hu:Tryz.prog.underlying ty=some d) (hd:B1s d=true) (hi: (Tryz.prog.info? ty).map (·.size)=some cs.size):
  (loadVar ty ⟨g,o,none⟩).run Tryz.prog w= .ok (.agg cs) w:=by
 have hl: (loadCells ⟨g,o,none⟩ cs.toList.length).run Tryz.prog w= .ok cs.toList.toArray w:=
  run_loadCells_list (P:=Tryz.prog) w ⟨g,o,none⟩ cs.toList AB.src
 cases hq:Tryz.prog.info? ty with
 |none=>simp[hq] at hi
 |some i=>
  have hs:i.size=cs.size:=by simpa[hq] using hi
  have AA: (isAgg ty).run Tryz.prog w= .ok true w:=by
   unfold isAgg;rw[Sem.run_bind,run_underlying hu w];cases d<;>simp_all[B1s]
  simp only[Array.length_toList,Array.toArray_toList] at hl;simp[loadVar,Sem.run_bind,AA,sizeOf,typeInfo,hq,hs,hl]
theorem A1V (w:World) (g o:Nat) (t ty:TypeId) (cur cells:Array Value) (hg:w.heap[g]?=some (.cells cur t (0,0))) (hi: (Tryz.prog.info? ty).map (·.size)=some cells.size)
  (ho:o+cells.size<=cur.size) (h1:∀v∈cells.toList,v.oneCell'=true):
  (storeVar ty ⟨g,o,none⟩ (.agg cells)).run Tryz.prog w= .ok () (w.setRow g (cur.toList.take o++cells.toList++cur.toList.drop (o+cells.size)).toArray):=by
 have:=run_storeCells_at Tryz.prog g o t cells.toList 0 cur w hg (by simp;omega) h1;simp only[Nat.add_zero,Array.length_toList] at this;cases hq:Tryz.prog.info? ty with
 |none=>simp[hq] at hi
 |some i=>
  have hs:cells.size=i.size:=by simp[hq] at hi;omega
  simp[storeVar,sizeOf,typeInfo,hq,Value.cells,hs] at this⊢;exact this
theorem B6K:∃d,Tryz.prog.underlying 130=some d/\B1s d=true:=⟨_,Tryz.underlying130,rfl⟩
theorem B0G: (Tryz.prog.info? 130).map (·.size)=some 20:=by kernel_rfl
theorem B0E (w:World) (g o:Nat) (H:Hd) (AA:At w g o H.cells): (loadVar 130 ⟨g,o,none⟩).run Tryz.prog w= .ok (.agg H.cells.toArray) w:=by
 obtain⟨d,h1,h2⟩:=B6K;exact A2A w g o 130 H.cells.toArray (by simpa using AA) d h1 h2 B0G
theorem B1e {w:World} {tw b fw:Nat} {AD:Int} {AA AB:List Value} {AC:Value} (h:TW tw b fw AD AA AB AC w):At w tw 3 AA:=λj v hj=>A0S h j v hj
theorem A9m (wv p AA:Value) (AD AE AB:List Value) (AC:Value) (h:AD.length=20) (h2:AE.length=20):
  ((J3 wv p AA AD AB AC).toList.take 3++AE++(J3 wv p AA AD AB AC).toList.drop (3+20)).toArray=J3 wv p AA AE AB AC:=by
 have e: (J3 wv p AA AD AB AC).toList=wv::p::AA::(AD++(AB++[AC])):=by simp[J3]
 rw[e]
 have e2: (wv::p::AA::(AD++(AB++[AC]))).drop (3+20)=AB++[AC]:=by
  show(AD++(AB++[AC])).drop 20=_
  rw[<-h,List.drop_left]
 rw[e2];simp[J3]
theorem B5V (H:Hd) (h1:H.xattr.oneCell'=true) (h2:H.recs.oneCell'=true):∀v∈H.cells,v.oneCell'=true:=by
 intro v hv;simp only[Hd.cells,List.mem_cons,List.mem_nil_iff,or_false] at hv;rcases hv with rfl|rfl|rfl|rfl|rfl|rfl|rfl|rfl|rfl|rfl|rfl|rfl|rfl|rfl|rfl|rfl|rfl|rfl|rfl|rfl<;>first|exact h1|exact h2|rfl
theorem B2Q {w:World} {tw b fw:Nat} {AC:Int} {AD AA:List Value} {AB:Value} (h:TW tw b fw AC AD AA AB w) (H:Hd) (h1:H.xattr.oneCell'=true) (h2:H.recs.oneCell'=true):
  ∃w',(storeVar 130 ⟨tw,3,none⟩ (.agg H.cells.toArray)).run Tryz.prog w= .ok () w'/\TW tw b fw AC H.cells AA AB w'/\Fr w.heap.size [tw] w w':=by
 have hs:=A1V w tw 3 134 130 _ H.cells.toArray h.1 B0G (by have:=h.2.1;have:=h.2.2;simp[J3,Hd.cells];omega) (by simpa using B5V H h1 h2);have e:=A9m (.iface 75 (.pointer (some ⟨b,0,none⟩))) (.int .i64 AC) (.iface 119 (.pointer (some ⟨fw,0,none⟩))) AD H.cells AA AB h.2.1 rfl;have e3:H.cells.toArray.size=20:=rfl;rw[e3] at hs;rw[show H.cells.toArray.toList=H.cells from rfl] at hs;rw[e] at hs;exact⟨_,hs,⟨setRow_heap w tw _ _ 134 (0,0) h.1,rfl,h.2.2⟩,(Fr.refl _ _ w).setRow (.inl (by simp)) _⟩
theorem L7 {w:World} {g:Nat} {H:Hd} (hh:w.heap[g]?=some (.cells H.cells.toArray 130 (0,0))) (k:Nat) (v:Value) (hv:H.cells[k]?=some v):w.cell? ⟨g,k,none⟩=some v:=by
 rw[Lib.cell_of_heap hh,List.getElem?_toArray];exact hv
theorem ld5 {w:World} {p:Addr} {v:Value} (h:w.cell? p=some v): (loadVar 5 p).run Tryz.prog w= .ok v w:=by simp[loadVar,go_sem,h]
theorem ld9 {w:World} {p:Addr} {v:Value} (h:w.cell? p=some v): (loadVar 9 p).run Tryz.prog w= .ok v w:=by simp[loadVar,go_sem,h]
theorem ld2 {w:World} {p:Addr} {v:Value} (h:w.cell? p=some v): (loadVar 2 p).run Tryz.prog w= .ok v w:=by simp[loadVar,go_sem,h]
theorem ld3 {w:World} {p:Addr} {v:Value} (h:w.cell? p=some v): (loadVar 3 p).run Tryz.prog w= .ok v w:=by simp[loadVar,go_sem,h]
theorem ld4 {w:World} {p:Addr} {v:Value} (h:w.cell? p=some v): (loadVar 4 p).run Tryz.prog w= .ok v w:=by simp[loadVar,go_sem,h]
theorem B7G {w:World} {p:Addr} {v:Value} (h:w.cell? p=some v): (loadVar 128 p).run Tryz.prog w= .ok v w:=by simp[loadVar,go_sem,h]
theorem B2e {w:World} {g k:Nat} {u v:Value} (h0:w.cell? ⟨g,k,none⟩=some u) (h1:w.cell? ⟨g,k+1,none⟩=some v): (loadVar 126 ⟨g,k,none⟩).run Tryz.prog w= .ok (.agg #[u,v]) w:=by simp[loadVar,go_sem,h0,h1]
section
variable {ops:Array Oper} {S:World->Prop} {op:Oper} {a:Act} {w:World} {K:Act->World->Prop} {Q:Exit->Act->World->Prop}
theorem C3 (hw:Region.wanted op (yielded ops a.tmps)=true) (ty:TypeId) (x:Operand) (ho:op.op= .load ty x) (p:Addr) (hx:a.eval x= .pointer (some p)) (v:Value) (hS:∀w,S w->(loadVar ty p).run Tryz.prog w= .ok v w):YieldsIf Tryz.prog ops S op v a:=
 .inl ⟨hw,λw AA=>by
  unfold execOp;simp only[ho,hx,Instr.loadAt,Instr.sureAddr,Sem.run_bind,Sem.run_pure,Result.andThen_ok,hS w AA]⟩
theorem O3 {E:Prop} (hg:op.guard=none) (t:TypeId) (x y:Operand) (AB:op.op=Op.store t x y) (p:Addr) (hx:a.eval x= .pointer (some p)) (v:Value) (hy:a.eval y=v) (w':World) (AA: (storeVar t p v).run Tryz.prog w= .ok () w') (hK:K (a.put op.dst undef) w'):
  if Region.wanted op (yielded ops a.tmps)=true then Oper.wp Tryz.prog op a w K Q else E:=by
 have hw:Region.wanted op (yielded ops a.tmps)=true:=by simp[Region.wanted,hg]
 rw[if_pos hw];unfold Oper.wp execOp;simp only[AB,hx,hy,Instr.storeAt,Instr.sureAddr,Sem.run_bind,Sem.run_pure,Result.andThen_ok,AA];exact hK
end
section
variable {ops ops0:Array Oper} {Q:Exit->Act->World->Prop} {S:World->Prop}
theorem J1 {id n:Nat} {l0:Array Bool} {a:Act} {w:World} (hm:Tryz.prog.follows .mixedOrders=true) (hn:ops0.size=n) (hl:Array.replicate n false=l0) (hS:S w.drew)
  (h:∀ops,Hid (ops=ops0)->S w.drew->wpAnyH Tryz.prog .any ops Q S n l0 a w.drew): (Code.region id ops0 true).wp Tryz.prog Q a w:=by
 subst hn;subst hl;exact wp_region_held_drew hm hS (h ops0 (A0 rfl))
theorem B7 {md:Region.Mode} (AC:ops=ops0) {i:Nat} {oi:Oper} {v:Value} {AB:Nat} {AA l':Array Bool} {a a':Act} {w:World} {d:Option Tmp} (hi:ops0[i]?=some oi)
  (hs:Region.noSelect ops0=true) (hf:Region.free md ops0 AA i=true) (hr: (Region.ready md ops0 AA).contains i=true)
  (hQ:∀c a w,Q (.panic c) (a.put d v) w->Q (.panic c) a w) (hy:YieldsIf Tryz.prog ops S oi v a) (hS:S w) (hd:oi.dst=d) (ha:a.put d v=a') (hl:AA.setIfInBounds i true=l')
  (h:wpAnyH Tryz.prog md ops Q S AB l' a' w):wpAnyH Tryz.prog md ops Q S (AB+1) AA a w:=by
 subst AC;subst hd;subst ha;subst hl;exact wpAnyH_take hi hs hf hr hQ hy hS h
theorem D5 {md:Region.Mode} (AC:ops=ops0) {i:Nat} {o:Oper} {AB:Nat} {AA l':Array Bool} {a:Act} {w:World} {rs:List Nat} (ho:ops0[i]?=some o) (hl:AA.setIfInBounds i true=l')
  (h:∀K':Act->World->Prop,Hid (∀a w,S w->(S w->wpAnyH Tryz.prog md ops Q S AB l' a w)->K' a w)->if Region.wanted o (yielded ops a.tmps)=true then Oper.wp Tryz.prog o a w K' Q else K' (a.put o.dst undef) w)
  (hs:AllReadyH Tryz.prog md ops Q S AB AA a w rs):AllReadyH Tryz.prog md ops Q S AB AA a w (i::rs):=by
 subst AC;subst hl;exact AllReadyH.cons ho h hs
end
theorem B5a (h:IH) (hr:h.recs.oneCell'=true):∀v∈h.cells,v.oneCell'=true:=by
 intro v hv;simp only[IH.cells,List.mem_cons,List.not_mem_nil,or_false] at hv;rcases hv with rfl|rfl|rfl|rfl|rfl|rfl|rfl|rfl|rfl|rfl|rfl|rfl|rfl|rfl|rfl|rfl|rfl|rfl|rfl|rfl|rfl<;>first|rfl|exact hr
theorem B2W: (Tryz.prog.info? 26).map (·.size)=some 21:=by kernel_rfl
theorem A0i {w:World} {g:Nat} {z:Array Value} (h:IH) (hr:h.recs.oneCell'=true) (hz:z.size=21) (hg:w.heap[g]?=some (.cells z 26 (0,0))):
  ∃w',(storeVar 26 ⟨g,0,none⟩ (.agg h.cells.toArray)).run Tryz.prog w= .ok () w'/\w'.heap[g]?=some (.cells h.cells.toArray 26 (0,0))/\(∀k,k≠g->w'.heap[k]?=w.heap[k]?)/\(∀ (B:Nat) (w0:World),Below B w0 w->B<=g->Below B w0 w'):=by
 have hs:=A1V w g 0 26 26 z h.cells.toArray hg (by rw[B2W];rfl) (by rw[hz];exact Nat.le_refl 21) (by simpa using B5a h hr)
 have e:z.toList.take 0++h.cells.toArray.toList++z.toList.drop (0+h.cells.toArray.size)=h.cells:=by
  rw[List.take_zero,List.nil_append,List.drop_eq_nil_of_le (by rw[Array.length_toList,hz];exact Nat.le_refl 21),List.append_nil]
 rw[e] at hs;refine⟨_,hs,setRow_heap w g z _ 26 _ hg,λk hk=>setRow_other w g k _ hk,λB w0 hb hB=> ?_⟩;exact⟨hb.os,hb.tape,hb.output,by simpa using hb.size,λk hk=>(setRow_other w g k _ (by omega)).trans (hb.block k hk)⟩
structure Hd.InO (H:Hd):Prop where
 mw:0<=H.mw/\H.mw<1000000000
 mx: -100000000000000000<=H.mx-62135596800/\H.mx-62135596800<=100000000000000000
 aw:0<=H.aw/\H.aw<1000000000
 ax: -100000000000000000<=H.ax-62135596800/\H.ax-62135596800<=100000000000000000
 cw:0<=H.cw/\H.cw<1000000000
 cx: -100000000000000000<=H.cx-62135596800/\H.cx-62135596800<=100000000000000000
 fmt:H.fmt=2\/H.fmt=4\/H.fmt=8
def ih0 (H:Hd):IH:=⟨H.typ,H.name,H.link,H.size,H.mode,H.uid,H.gid,H.user,H.group,H.mx-62135596800,H.mw,!E5 H.aw H.ax,0,0,!E5 H.cw H.cx,0,0,H.maj,H.mnr,.slice none 0 0,A6p H.fmt⟩
def ih1 (H:Hd):IH:= {ih0 H with ats:=if E5 H.aw H.ax then 0 else H.ax-62135596800,atn:=if E5 H.aw H.ax then 0 else H.aw}
def A0e (H:Hd):IH:= {ih1 H with cts:=if E5 H.cw H.cx then 0 else H.cx-62135596800,ctn:=if E5 H.cw H.cx then 0 else H.cw}
structure A8j (R:KV) (L:List (List UInt8×List UInt8)):Prop where
 nd: (L.map (·.1)).Nodup
 mem:∀p∈L,R p.1=some p.2
 all:∀k v,R k=some v->(k,v)∈L
def A3v (H:Hd) (R:KV) (w:World) (e:Ending) (w':World):Prop:=
 ∃rv L,e= .returned (.agg ({A0e H with recs:=rv}:IH).cells.toArray)/\N5 w' rv L/\(∀p n c,rv= .slice (some p) n c->w.heap.size<=p.block/\∃cur fz,w'.heap[p.block]?=some (.cells cur 59 fz))/\A8j R L/\Below w.heap.size w w'
theorem B0h (w:World) (f:Int) (h:f=2\/f=4\/f=8):Calls Tryz.prog 75 #[.int .i64 f] w λe w'=>e= .returned (.int .i64 (A6p f))/\Below w.heap.size w w':=by
 refine(B2K w f h).mono ?_;rintro e w' ⟨rfl,rfl⟩;exact⟨rfl,Below.refl _ _⟩
noncomputable def B5v:Code:=I2 4 (Tryz.f38.body.getD .skip)
noncomputable def A9X:Code:=I2 8 (Tryz.f38.body.getD .skip)
noncomputable def B4X:Code:=I2 17 (Tryz.f38.body.getD .skip)
theorem B7h:∃d,Tryz.prog.underlying 26=some d/\B1s d=true:=⟨_,Tryz.underlying26,rfl⟩
theorem B7Y {R:Ending->World->Prop} {fn:Func} {t:Tmp} {a:Act} (g:Nat) (cs:Array Value) (AA:cs.size=21) (w:World) (hr:fn.results=#[.cell t 26]) (hp:a.tmps.getD t undef= .pointer (some ⟨g,0,none⟩)) (hd:a.defers=[])
  (hg:w.heap[g]?=some (.cells cs 26 (0,0))) (hR:R (.returned (.agg cs)) w):bodyPost Tryz.prog fn R .ret a w:=
 bodyPost_ret (results_cell_row hr _ _ g 26 cs (0,0) _ hp hg Tryz.underlying26 rfl (by rw[AA];kernel_rfl)) hd hR
theorem B7C (g2 g3:Nat) (X:IH) (hX:X.recs.oneCell'=true) (w w0:World) (hB:Below w0.heap.size w0 w) (h2:w0.heap.size<=g2) (AL:g2≠g3) (AB:w.heap[g3]?=some (.cells X.cells.toArray 26 (0,0))) (z:Array Value) (hz:z.size=21) (AA:w.heap[g2]?=some (.cells z 26 (0,0)))
  (Rr:Ending->World->Prop) (hR:∀w',Below w0.heap.size w0 w'->(∀k,k≠g2->w'.heap[k]?=w.heap[k]?)->w.heap.size<=w'.heap.size->Rr (.returned (.agg X.cells.toArray)) w') {c0 c1 c4 c5 c6 c7 c8 c9 bV bW bX bY bZ cA cB cC bU cD c20 c21 cE cF cG cH cI cJ cL cM cO cP cQ cS cT cU cV c37 cW cX cY cZ dA dB dC dD c46 dE dF dG dH c51 dI c53 dJ dL dM dO dP dQ dR dS dT dU dV dW dX dY dZ eA eC eD eH eJ eK c75 eO eR eS eV c80 eW eX eY eZ c85 fA fB fC fD fE fH fI fJ fK fL fN fO fP fQ aA aB aC aD aF aG aH aI aJ aK aL aM aN aO aP aQ aR aS aT aU aV aW aX aY aZ bB bC c127 bD bE bF bH bI bJ bK bL bM bN bO bP bQ bR bS c143 bT:Value}:
  Code.wp Tryz.prog B4X (bodyPost Tryz.prog Tryz.f38 Rr) ⟨(c0::c1::.pointer (some ⟨g2,0,none⟩)::.pointer (some ⟨g3,0,none⟩)::c4::c5::c6::c7::c8::c9::bV::bW::bX::bY::bZ::cA::cB::cC::bU::cD::c20::c21::cE::cF::cG::cH::cI::cJ::cL::cM::cO::cP::cQ::cS::cT::cU::cV::c37::cW::cX::cY::cZ::dA::dB::dC::dD::c46::dE::dF::dG::dH::c51::dI::c53::dJ::dL::dM::dO::dP::dQ::dR::dS::dT::dU::dV::dW::dX::dY::dZ::eA::eC::eD::eH::eJ::eK::c75::eO::eR::eS::eV::c80::eW::eX::eY::eZ::c85::fA::fB::fC::fD::fE::fH::fI::fJ::fK::fL::fN::fO::fP::fQ::aA::aB::aC::aD::aF::aG::aH::aI::aJ::aK::aL::aM::aN::aO::aP::aQ::aR::aS::aT::aU::aV::aW::aX::aY::aZ::bB::bC::c127::bD::bE::bF::bH::bI::bJ::bK::bL::bM::bN::bO::bP::bQ::bR::bS::c143::bT::[]).toArray,[]⟩ w:=by
 conv=>arg 2;whnf
 obtain⟨d,u1,u2⟩:=B7h;have AE:=A2A w g3 0 26 X.cells.toArray (At.of_heap AB (λj v hj=>by rw[Nat.zero_add];simpa using hj)) d u1 u2 (by rw[B2W];rfl);obtain⟨w2,AG,hg,ho,AD⟩:=A0i X hX hz AA;have AC:=AD _ _ hB h2
 have AH:w.heap.size<=w2.heap.size:=by
  rcases Nat.lt_or_ge w2.heap.size w.heap.size with h|h
  ·exfalso
   have l2:=A8 AA;have l3:=A8 hg;have:=ho w2.heap.size (by omega);rw[Array.getElem?_eq_none (Nat.le_refl _),Array.getElem?_eq_getElem h] at this;cases this
  ·exact h
 have AI:=A0 AE;have AJ:=A0 AG;have HG:=A0 hg;have HR:=A0 (hR w2 AC ho AH);clear AE AG hg ho AD hR AB AA AC hB u1 u2 AH hz hX;go_wp2_with (first|(refine D3 rfl 26 _ rfl ⟨g3,0,none⟩ rfl _ AI.out ?_)|(refine E6 rfl 26 _ _ rfl ⟨g2,0,none⟩ rfl _ rfl w2 AJ.out ?_)|fail)
 refine B7Y g2 X.cells.toArray rfl w2 rfl rfl rfl HG.out HR.out
theorem B8F (w0:World) (hb g2 g3:Nat) (H:Hd) (R:KV) (AR:hb<w0.heap.size) (AJ:H.recs= .map none) (hn:∀k,R k=none) (AP:H.InO) (w:World) (hH:w.heap[hb]?=some (.cells H.cells.toArray 130 (0,0))) (hB:Below w0.heap.size w0 w) (h2:w0.heap.size<=g2) (h3:w0.heap.size<=g3) (AM:g2≠g3) (AG:w.heap[g3]?=some (.cells (A0e H).cells.toArray 26 (0,0))) (z:Array Value) (hz:z.size=21) (AE:w.heap[g2]?=some (.cells z 26 (0,0)))
  (Rr:Ending->World->Prop) (hR:∀e w',A3v H R w0 e w'->Rr e w') {c1 c4 c5 c6 c7 c8 c9 bV bW bX bY bZ cA cB cC bU cD c20 c21 cE cF cG cH cI cJ cL cM cO cP cQ cS cT cU cV c37 cW cX cY cZ dA dB dC dD c46 dE dF dG dH c51 dI c53 dJ dL dM dO dP dQ dR dS dT dU dV dW dX dY dZ eA eC eD eH eJ eK c75 eO eR eS eV c80 eW eX eY eZ c85 fA fB fC fD fE fH fI fJ fK fL fN fO fP fQ aA aB aC aD aF aG aH aI aJ aK aL aM aN aO aP aQ aR aS aT aU aV aW aX aY aZ bB bC c127 bD bE bF bH bI bJ bK bL bM bN bO bP bQ bR bS c143 bT:Value}:
  Code.wp Tryz.prog A9X (bodyPost Tryz.prog Tryz.f38 Rr) ⟨(.pointer (some ⟨hb,0,none⟩)::c1::.pointer (some ⟨g2,0,none⟩)::.pointer (some ⟨g3,0,none⟩)::c4::c5::c6::c7::c8::c9::bV::bW::bX::bY::bZ::cA::cB::cC::bU::cD::c20::c21::cE::cF::cG::cH::cI::cJ::cL::cM::cO::cP::cQ::cS::cT::cU::cV::c37::cW::cX::cY::cZ::dA::dB::dC::dD::c46::dE::dF::dG::dH::c51::dI::c53::dJ::dL::dM::dO::dP::dQ::dR::dS::dT::dU::dV::dW::dX::dY::dZ::eA::eC::eD::eH::eJ::eK::c75::eO::eR::eS::eV::c80::eW::eX::eY::eZ::c85::fA::fB::fC::fD::fE::fH::fI::fJ::fK::fL::fN::fO::fP::fQ::aA::aB::aC::aD::aF::aG::aH::aI::aJ::aK::aL::aM::aN::aO::aP::aQ::aR::aS::aT::aU::aV::aW::aX::aY::aZ::bB::bC::c127::bD::bE::bF::bH::bI::bJ::bK::bL::bM::bN::bO::bP::bQ::bR::bS::c143::bT::[]).toArray,[]⟩ w:=by
 conv=>arg 2;whnf
 have hr:=run_range_nilMap (P:=Tryz.prog) w 127 9 9 Tryz.underlying127;have AS:=λty=>run_next_nilMap (P:=Tryz.prog) w ty 0 0 #[];have bU:w.cell? ⟨hb,18,none⟩=some (.map none):=by rw[Lib.cell_of_heap hH,<-AJ];rfl
 have AH:Below w0.heap.size w0 (w.alloc (.mapIter none 0 #[] 0)):=hB.alloc hB.size _;have AB:=(Below.heap_alloc w (.mapIter none 0 #[] 0) g3 (A8 AG)).trans AG;have AA:=(Below.heap_alloc w (.mapIter none 0 #[] 0) g2 (A8 AE)).trans AE;have HR:=A0 hR;have HN:=A0 hn;have AL:=A0 AH;have AD:=A0 AB;have AC:=A0 AA;clear hH AG AE AH AB AA hR hn AJ AP;go_upto_region 8 with fail
 rename_i K1 AI K2 AQ;have HK:=A0 AI;clear AI;go_wp2_with fail
 refine wp_loop_once ?_;go_wp2_with fail
 refine HK.out _ _ ?_;refine B7C g2 g3 (A0e H) rfl _ w0 AL.out h2 AM AD.out z hz AC.out Rr (λw' AO hk hs=>HR.out _ _ ?_);exact⟨.slice none 0 0,[],rfl,⟨none,0,rfl,λj hj=>absurd hj (Nat.not_lt_zero _)⟩,(by intro p n c e;cases e),⟨List.nodup_nil,λp hp=>(by cases hp),λk v e=>by rw[HN.out k] at e;cases e⟩,AO⟩
end Go.Proofs.YtkanmkcojlefbaaGreatDoor
