/-
  Part of the proof; holds the texts WData, WRaw, WGnuT.
-/
import Derived.Test.YtkanmkcojlefbaaGreatDoorM13
import Derived.Stop.Asserts
import Derived.Test.YtkanmkcojlefbaaGreatDoorM10
import Derived.Test.YtkanmkcojlefbaaGreatDoorM11
set_option maxHeartbeats 4000000
set_option maxRecDepth 100000
set_option linter.unusedSimpArgs false
set_option linter.unusedVariables false
namespace Go.Proofs.YtkanmkcojlefbaaGreatDoor
open Go.RowKit
theorem A7n (w:World) (a:Addr): (method 511 119 (.pointer (some a)) "Write").run Tryz.prog w= .ok (342,.pointer (some a)) w:=by kernel_rfl
theorem B2k (w:World) (a:Addr): (method 511 73 (.pointer (some a)) "Write").run Tryz.prog w= .ok (40,.pointer (some a)) w:=by kernel_rfl
theorem B3y (w:World) (B b fw:Nat) (bs ds:List UInt8) (g o n c:Nat) (nb:Int) (hB:W3 B b bs w) (AJ:B<=w.heap.size) (hf:FW fw b nb w) (hn:ds.length=n) (h0:n≠0) (AM: (n:Int)<=nb) (AO:nb<=9223372036854775807) (AL:g≠b) (AG:At w g o (Lib.byteCells ds)) (AC:bs.length+n<=140737488355328):
  Calls Tryz.prog 342 #[.pointer (some ⟨fw,0,none⟩),.slice (some ⟨g,o,none⟩) n c] w λe w'=>e= .returned (.tuple #[.int .i64 n,.nilIface])/\W3 B b (bs++ds) w'/\FW fw b (nb-n) w'/\Fr B [b,fw] w w':=by
 have HC:=A0 (A2u B b bs ds g o n c w hB AJ hn AL AG AC);have m2:=A4Y;have c0:w.cell? ⟨fw,0,none⟩=some (.iface 75 (.pointer (some ⟨b,0,none⟩))):=by rw[zA hf];rfl
 have c1:w.cell? ⟨fw,1,none⟩=some (.int .i64 nb):=by rw[zA hf];rfl
 have hb:=hB.ne hf (by decide);have h1:¬nb< (n:Int):=by omega
 have h2: (0:Int)< (n:Int):=by omega
 have HF:=A0 hf;clear AG hn hB hf AM;go_enter Tryz.func342,Tryz.ntmps342
 go_wp2_with fail
 refine HC.out.mono ?_;rintro e w2 ⟨rfl,AE,AB⟩;have AA:FW fw b nb w2:=AB.cells HF.out (by simpa using hb) (.inr (by decide));have AP:w2.cell? ⟨fw,1,none⟩=some (.int .i64 nb):=by rw[zA AA];rfl
 have AQ:w2.frozen? ⟨fw,1,none⟩=false:=zE AA 1;have AH:=A0 AE;have AI:=A0 AB;have AD:=A0 AA;clear AE AB AA c0 c1 HC;go_wp2_with fail
 go_ret2
 have q:=B6 (i:=1) (.int .i64 (nb-n)) AD.out;refine⟨rfl,AH.out.setCell (p:=⟨fw,1,none⟩) AD.out (by decide) (by decide) _,q,(AI.out.wide (zB _) (by simp)).setCell (p:=⟨fw,1,none⟩) (.inl (by simp)) _⟩
theorem B2M (w:World) (b fw:Nat) (p:Option Addr) (c:Nat) (nb:Int) (hf:FW fw b nb w) (AA:0<=nb):
  Calls Tryz.prog 342 #[.pointer (some ⟨fw,0,none⟩),.slice p 0 c] w (C4 w (.tuple #[.int .i64 0,.nilIface])):=by
 have c1:w.cell? ⟨fw,1,none⟩=some (.int .i64 nb):=by rw[zA hf];rfl
 have h1:¬nb< (0:Int):=by omega
 clear hf;go_enter Tryz.func342,Tryz.ntmps342
 go_wp2_with fail
 go_ret2
 exact⟨rfl,rfl⟩
theorem B4j (w:World) (B b tw fw:Nat) (pad:Int) (hdr AD:List Value) (bs ds:List UInt8) (g o n c:Nat) (nb:Int) (hW:TW tw b fw pad hdr AD .nilIface w) (hB:W3 B b bs w) (AO:B<=w.heap.size) (hf:FW fw b nb w) (hn:ds.length=n) (h0:n≠0) (AJ: (n:Int)<=nb) (AB:nb<=9223372036854775807) (AP:g≠b) (AH:At w g o (Lib.byteCells ds)) (AA:bs.length+n<=140737488355328):
  Calls Tryz.prog 40 #[.pointer (some ⟨tw,0,none⟩),.slice (some ⟨g,o,none⟩) n c] w λe w'=>e= .returned (.tuple #[.int .i64 n,.nilIface])/\TW tw b fw pad hdr AD .nilIface w'/\W3 B b (bs++ds) w'/\FW fw b (nb-n) w'/\Fr B [b,fw] w w':=by
 have HC:=A0 (B3y w B b fw bs ds g o n c nb hB AO hf hn h0 AJ AB AP AH AA);have m2:=A7n;have c2:w.cell? ⟨tw,2,none⟩=some (.iface 119 (.pointer (some ⟨fw,0,none⟩))):=by rw[zA hW.1];exact A3U ..
 obtain⟨-,-,aA,-,-⟩:=V7 hW.2.1 hW.2.2 hW.1;have AQ:tw≠b:=hB.ne hW.1 (by decide);have AR:tw≠fw:=by rintro rfl;have:=hW.1;rw[hf] at this;cases this
 have HW:=A0 hW;clear AH hn hB hf AJ hW;go_enter Tryz.func40,Tryz.ntmps40
 go_wp2_with fail
 refine HC.out.mono ?_;rintro e w2 ⟨rfl,AE,AI,AG⟩;have AL:=A0 AE;have AC:=A0 AG;have AM:=A0 AI;clear AE AG AI c2 aA HC;go_wp2_with fail
 go_ret2
 exact⟨rfl,⟨AC.out.cells HW.out.1 (by simp;exact⟨AQ,AR⟩) (.inr (by decide)),HW.out.2⟩,AL.out,AM.out,AC.out⟩
theorem B3Y (w:World) (b tw fw:Nat) (pad:Int) (hdr AA:List Value) (p:Option Addr) (c:Nat) (nb:Int) (hW:TW tw b fw pad hdr AA .nilIface w) (hf:FW fw b nb w) (AB:0<=nb):
  Calls Tryz.prog 40 #[.pointer (some ⟨tw,0,none⟩),.slice p 0 c] w (C4 w (.tuple #[.int .i64 0,.nilIface])):=by
 have HC:=A0 (B2M w b fw p c nb hf AB);have m2:=A7n;have c2:w.cell? ⟨tw,2,none⟩=some (.iface 119 (.pointer (some ⟨fw,0,none⟩))):=by rw[zA hW.1];exact A3U ..
 obtain⟨-,-,aA,-,-⟩:=V7 hW.2.1 hW.2.2 hW.1;clear hf hW;go_enter Tryz.func40,Tryz.ntmps40
 go_wp2_with fail
 refine HC.out.mono ?_;rintro e w2 ⟨rfl,rfl⟩;go_wp2_with fail
 go_ret2
 exact⟨rfl,rfl⟩
theorem B7g (w:World) (a:Addr): (Instr.typeAssert (.iface 73 (.pointer (some a))) 118 312 true).run Tryz.prog w= .ok (.tuple #[.nilIface,.bool false]) w:=run_typeAssert_lacksB Tryz.underlying312 (by kernel_rfl) (by kernel_rfl) _ 118 w
theorem A8q (w:World) (l:List UInt8):∃cap w',(convert 9 35 (str l)).run Tryz.prog w= .ok (.slice (some ⟨w.heap.size,0,none⟩) l.length cap) w'/\Below w.heap.size w w'/\At w' w.heap.size 0 (Lib.byteCells l)/\(∃c fz,w'.heap[w.heap.size]?=some (.cells c 5 fz)):=by
 have h:=run_bytes_of_string (P:=Tryz.prog) w 9 35 5 ⟨l.toArray⟩ Tryz.underlying9 Tryz.underlying35 Tryz.underlying5;rw[I6] at h;generalize AB:grownCap w l.length 0 5=cap at h;have AA: (w.drew.alloc (.cells (bytesRow ⟨l.toArray⟩ cap) 5 ((bytesRow ⟨l.toArray⟩ cap).size,(bytesRow ⟨l.toArray⟩ cap).size+1))).heap[w.heap.size]?=some (.cells (bytesRow ⟨l.toArray⟩ cap) 5 ((bytesRow ⟨l.toArray⟩ cap).size,(bytesRow ⟨l.toArray⟩ cap).size+1)):=zI w.drew _;refine⟨cap,_,h,(zD _ w).drew.alloc (zB _) _,At.of_heap AA (λj v hj=> ?_),_,_,AA⟩;rw[Nat.zero_add,bytesRow]
 have AC:j<l.length:=by
  have:=(zM.1 hj).1;rwa [zJ] at this
 rw[Array.getElem?_append_left (by simpa using AC)];simpa[Lib.byteCells] using hj
theorem B3c (w:World) (B b tw fw:Nat) (pad:Int) (hdr AC:List Value) (bs ds:List UInt8) (nb:Int) (hW:TW tw b fw pad hdr AC .nilIface w) (hB:W3 B b bs w) (AJ:B<=w.heap.size) (hf:FW fw b nb w) (AQ: (ds.length:Int)<=nb) (AH:nb<=9223372036854775807) (AG:bs.length+ds.length<=140737488355328):
  Calls Tryz.prog 194 #[.iface 73 (.pointer (some ⟨tw,0,none⟩)),str ds] w λe w'=>e= .returned (.tuple #[.int .i64 ds.length,.nilIface])/\TW tw b fw pad hdr AC .nilIface w'/\W3 B b (bs++ds) w'/\FW fw b (nb-ds.length) w'/\Fr B [b,fw] w w':=by
 have m2:=B2k;have ta:=B7g;obtain⟨cap,w1,AL,AA,AD,c,fz,AB⟩:=A8q w ds;have AP:=A8 hW.1;have AO:=A8 hf;have W1:TW tw b fw pad hdr AC .nilIface w1:=⟨(AA.block tw AP).trans hW.1,hW.2⟩;have B1:W3 B b bs w1:=hB.carry (B':=w.heap.size) (S:=[]) (Fr.of_below AA _ _) (zB _) (by simp) (by simp);have F1:FW fw b nb w1:=(AA.block fw AO).trans hf;have AM:w.heap.size≠b:=B1.ne AB (by decide);have AE:Fr B [b,fw] w w1:=(Fr.of_below AA w.heap.size [b,fw]).wide AJ (λk hk _=>hk);have AI:=A0 AE;have HW:=A0 W1;cases hz:ds with
 |nil=>
  subst hz;have HC:=A0 (B3Y w1 b tw fw pad hdr AC (some ⟨w.heap.size,0,none⟩) cap nb W1 F1 (by omega));have HB:=A0 B1;have HF:=A0 F1;clear hW hB hf AD AB AA W1 B1 F1 AE;rw[List.length_nil] at AL;go_enter Tryz.func194,Tryz.ntmps194
  go_wp2_with fail
  refine HC.out.mono ?_;rintro e w2 ⟨rfl,rfl⟩;go_wp2_with fail
  go_ret2
  refine⟨rfl,HW.out,by rw[QH];exact HB.out,?_,AI.out⟩;show FW fw b (nb- ((([]:List UInt8).length:Nat):Int)) _
  rw[List.length_nil,Int.natCast_zero,Int.sub_zero];exact HF.out
 |cons d0 dr=>
  have h0:ds.length≠0:=by rw[hz];simp
  rw[<-hz];clear hz;have HC:=A0 (B4j w1 B b tw fw pad hdr AC bs ds w.heap.size 0 ds.length cap nb W1 B1 (zP AJ AA.size) F1 rfl h0 AQ AH AM AD AG);clear hW hB hf AD AB AA W1 B1 F1 AE;go_enter Tryz.func194,Tryz.ntmps194
  go_wp2_with fail
  refine HC.out.mono ?_;rintro e w2 ⟨rfl,r1,r2,r3,r4⟩;have HR:=A0 (And.intro r1 (And.intro r2 (And.intro r3 r4)));clear r1 r2 r3 r4;go_wp2_with fail
  go_ret2
  obtain⟨r1,r2,r3,r4⟩:=HR.out;exact⟨rfl,r1,r2,r3,AI.out.trans r4⟩
theorem WS.next1 {G0:Nat} {E:Nat->Addr} {B tw b fw pad:Nat} {H:Hd} {AC AA bs:List UInt8} {AB:Value} {w w':World} (h:WS G0 E B tw b fw pad H AC bs AB w) (f:Fr w.heap.size [tw] w w')
  (hW:TW tw b fw pad H.cells (Lib.byteCells AA) AB w') (h2:AA.length=512):WS G0 E B tw b fw pad H AA bs AB w':=by
 refine⟨hW,h.buf.carry (B':=w.heap.size) (S:=[tw]) f (zB _) (by simp;exact Ne.symm h.tb) ?_,f.cells h.F (by simpa using h.tf) (.inr (by decide)),h.gl.fr f h.gl.le (by simpa using h.tG),h.BG,h.tG,h.fG,zP h.Bw f.size,h2⟩;intro k hk c fz e;obtain rfl:=List.mem_singleton.1 hk;rw[h.W.1] at e;cases e
structure A6A (mg vr:List UInt8) (flag:Int) (n:Nat) (B:C1):Prop where
 ok:B.Ok
 typ:B.typ=[UInt8.ofNat flag.toNat]
 name:∃nm,D6 nm=true/\V9 (List.replicate 100 0) nm B.name
 link:B.link=List.replicate 100 0
 user:B.user=List.replicate 32 0
 group:B.group=List.replicate 32 0
 mode:B.mode=C2 8 0
 uid:B.uid=C2 8 0
 gid:B.gid=C2 8 0
 size:B.size=C2 12 n
 mtime:B.mtime=C2 12 0
 maj:B.maj=List.replicate 8 0
 mnr:B.mnr=List.replicate 8 0
 magic:B.magic=mg
 ver:B.ver=vr
 chk:B.chk=C2 7 (X8 B.bytes 512)++[32]
 rest:B.rest=List.replicate 167 0
abbrev B0Q:=A6A [117,115,116,97,114,0] [48,48]
theorem Y0 {l m:List UInt8} (h:D6 l=true) (hs:∀b∈m,b∈l):D6 m=true:=by
 simp only[D6,List.all_eq_true] at h⊢;exact λb hb=>h b (hs b hb)
theorem A6k {l:List UInt8} (h:D6 l=true) (c:UInt8):D6 (L5 l c)=true:=by
 refine Y0 h λb hb=> ?_;rw[L5,List.mem_reverse] at hb;exact List.mem_reverse.1 ((List.dropWhile_suffix (p:=(·==c)) (l:=l.reverse)).subset hb)
theorem B3X (l:List UInt8) (c:UInt8): (L5 l c).length<=l.length:=by
 unfold L5;rw[List.length_reverse];have h:=(List.dropWhile_suffix (p:=(·==c)) (l:=l.reverse)).length_le;rwa [List.length_reverse] at h
theorem A2Y (f:Int) (mg vr:List UInt8) (AO:SF f mg vr) (G0:Nat) (E:Nat->Addr) (B tw b fw pad:Nat) (H:Hd) (Bc bs nm ds:List UInt8) (AA:Int) (w:World) (h:WS G0 E B tw b fw pad H Bc bs .nilIface w) (hp:pad<512) (Bm:nm.length<=1048576) (Bz:ds.length<=1048576) (CA:0<=AA/\AA<256) (BM:D1 AA=false) (Bi:bs.length+pad+512+ds.length<=140737488355328):
  Calls Tryz.prog 141 #[.pointer (some ⟨tw,0,none⟩),str nm,str ds,.int .u8 AA,.int .i64 f] w λe w'=>e= .returned .nilIface/\∃AG B2,A6A mg vr AA ds.length B2/\WS G0 E B tw b AG (E7 ds.length).toNat H B2.bytes (bs++List.replicate pad 0++B2.bytes++ds) .nilIface w'/\w.heap.size<=AG/\Fr B [b,tw] w w':=by
 have hr:=A0h w tw 134 _ _ _ h.W.seg h.blk512 23 (by simp[h.W.2.1]);have HH:=A0 h;have BY:=A0 BM;have Ak:=A0 AO;clear h BM AO;go_enter Tryz.func141,Tryz.ntmps141
 go_wp2_with fail
 refine hr.mono ?_;rintro e w1 ⟨rfl,s1,F1⟩;rw[<-C1.zero_bytes] at s1;have AV:WS G0 E B tw b fw pad H C1.zero.bytes bs .nilIface w1:=HH.out.next1 F1 (TW.of_seg s1 HH.out.W.2.1 C1.zero_ok.len) C1.zero_ok.len;have AQ:=A0 AV;have Ah:=A0 (F1.wide (B':=w.heap.size) (S':=[tw]) (zB _) (λk hk _=>hk));have BR:=Z8 nm w1 Bm;clear hr s1 F1 AV;go_wp2_with fail
 refine BR.mono ?_;rintro e w2 ⟨⟨m,rfl,Bk,Ad,Bl⟩,Am⟩;have AW:=AQ.out.below Am;have AR:=A0 AW;have As:=A0 Am;have Ap:m.length<=1048576:=by omega
 have HA:=A0 Ad;clear BR Bk Ad Bl AW Am;go_upto_if 24 with fail
 go_cut [1] (λs1 wx=>(∃m2:List UInt8,(m2.length<=100/\D6 m2=true)/\s1=str m2)/\wx=w2)
 case first=>
  by_cases Ac:m.length<=100
  ·go_wp2_with fail
   go_meet
   exact⟨⟨m,⟨Ac,HA.out⟩,rfl⟩,rfl⟩
  ·have he:=L3 m 0 100
   have Bh: ((m.drop 0).take (100-0)).length<=100:=by rw[zR];omega
   go_wp2_with fail
   go_meet
   refine⟨⟨(m.drop 0).take (100-0),⟨Bh,Y0 HA.out (λb hb=>List.mem_of_mem_drop (List.mem_of_mem_take hb))⟩,?_⟩,rfl⟩;first|rfl|(rw[<-he])
 case rest=>
  obtain⟨⟨m2,⟨Ad,BI⟩,rfl⟩,rfl⟩:=hcut;have BV:=A0 (A6k BI 47);clear BI;have BS:=A0O m2 47 wc (by omega);clear Ap;go_wp2_with fail
  refine BS.mono ?_;rintro e w3 ⟨rfl,AZ⟩;have Ap: (L5 m2 47).length<=100:=zP (B3X _ _) Ad
  have An:∀B,Below B wc w3:=by
   obtain⟨k,rfl⟩:=AZ;intro B;exact⟨rfl,rfl,rfl,zB _,λ_ _=>rfl⟩
  have AX:=AR.out.below (An _);have AD:=A0 AX;have Aj:=A0 (As.out.trans (An _));clear BS Ad AZ AX An;generalize L5 m2 47=m3 at*;have AH:=AD.out.below ((zD _ w3).alloc (zB _) (.cells #[.nilIface] 196));have Ao:=zI w3 (.cells #[.nilIface] 196)
  have BH:TB tw b fw pad H.cells w3.heap.size .nilIface (E 3) C1.zero (w3.alloc (.cells #[.nilIface] 196)):=
   ⟨AH.W,C1.zero_ok,Ao,AH.gl.db,AH.gl.err 3 (by decide),by have:=AH.tG;have:=AH.gl.g19;omega,by have:=AH.tG;have:=AH.gl.g19;omega,by have:=AD.out.gl.le;have:=AD.out.gl.g19;omega,by have:=AD.out.gl.le;have:=AD.out.gl.g19;omega⟩
  have BJ:w3.heap.size≠tw:=by have:=A8 AD.out.W.1;omega
  have Be:G0<=w3.heap.size:=AD.out.gl.le;have Bq:w.heap.size<=w3.heap.size:=zP Ah.out.size Aj.out.size;have BD:Fr B [tw] w (w3.alloc (.cells #[.nilIface] 196)):=((Ah.out.wide (S':=[tw]) HH.out.Bw (λk hk _=>hk)).trans ((Fr.of_below Aj.out w1.heap.size [tw]).wide (B':=B) (S':=[tw]) (zP HH.out.Bw Ah.out.size) (λk hk _=>hk))).alloc _;have Ax:=A0 AH;have HT:=A0 BH;have Av:=A0 Ao;have BW:=A0 BD;clear AH BH Ao BD AD AR AQ As Aj Ah;generalize Bo:w3.alloc (.cells #[.nilIface] 196)=wa at*;generalize Ab:w3.heap.size=fb at*;have Bv:=A0 Ab;have v7:=A0 A5Z;have vt:=A0 A3t;have s0:=HT.out.seg.get_typ;have AU:C1.zero.typ=[0]:=rfl;have tc:=s0.cell 0 0 (by rw[AU];rfl);have tz:=s0.frozen 0;rw[HT.out.ok.off_typ,HT.out.pre] at tc tz;clear s0 AU;have Bt:wa.cell? ⟨tw,179,none⟩=some (.int .u8 0):=tc;have Bu:wa.frozen? ⟨tw,179,none⟩=false:=tz;clear tc tz;go_wp2_with fail
  refine(v7.out _ _).mono ?_;rintro e wx ⟨rfl,rfl⟩;clear Ab Bo;go_wp2_with fail
  refine(vt.out _ _ _).mono ?_;rintro e wx ⟨rfl,rfl⟩;have va:=A0 A0q;go_wp2_with fail
  refine(va.out _ _ _).mono ?_;rintro e wx ⟨rfl,rfl⟩;have Bg:wa.heap[fb]?=some (.cells #[.nilIface] 196):=Av.out
  have BF:=(HT.out.next (w':=wa.setCell ⟨tw,179,none⟩ (.int .u8 AA)) (ferr2:= .nilIface) (B2:= {C1.zero with typ:=[UInt8.ofNat AA.toNat]}) (by
   have q:=HT.out.seg.get_typ.set 0 (by show 0<1;omega) (UInt8.ofNat AA.toNat);rw[HT.out.ok.off_typ,HT.out.pre] at q;have e3: ((UInt8.ofNat AA.toNat).toNat:Int)=AA:=by rw[UInt8.toNat_ofNat'];omega
   rw[e3] at q;exact q.put_typ) (C1.zero_ok.put_typ _ rfl) ((C0 _ BJ).trans HT.out.F) ((Fr.refl _ _ wa).setCell (.inl (by simp)) _))
  have BC:Fr wa.heap.size [tw,fb] wa (wa.setCell ⟨tw,179,none⟩ (.int .u8 AA)):=(Fr.refl _ _ wa).setCell (.inl (by simp)) _;have AB:=A0 BF;have Ar:=A0 BC;clear BF BC Bt Bu HT va;have HT:=AB;clear AB;generalize (wa.setCell ⟨tw,179,none⟩ (.int .u8 AA))=v0 at*;have HC:=A0 (Y4 HT.out m3 (by omega));go_wp2_with fail
  refine HC.out.mono ?_;rintro e v1 ⟨rfl,Br,r1,BT,q1,T4,F4⟩;obtain rfl:r1= .nilIface:=q1 Ap;have G1:=A0 (Ar.out.trans (F4.wide (B':=wa.heap.size) (S':=[tw,fb]) Ar.out.size (λk hk _=>hk)));have AB:=A0 T4;have KK:=A0 BT;clear BT q1;clear T4 F4 HC HT;have HT:=AB;clear AB;have va:=A0 A0F;go_wp2_with fail
  refine(va.out _ _ _).mono ?_;rintro e wx ⟨rfl,rfl⟩;have HC:=A0 (A0X HT.out 0 (by omega) (by omega));go_wp2_with fail
  refine HC.out.mono ?_;rintro e v2 ⟨rfl,r2,q2,T4,F4⟩;obtain rfl:r2= .nilIface:=q2 (by decide);have G2:=A0 (G1.out.trans (F4.wide (B':=wa.heap.size) (S':=[tw,fb]) G1.out.size (λk hk _=>hk)));have AB:=A0 T4;clear q2;clear T4 F4 HC HT va;have HT:=AB;clear AB;have va:=A0 A1g;go_wp2_with fail
  refine(va.out _ _ _).mono ?_;rintro e wx ⟨rfl,rfl⟩;have HC:=A0 (A1D HT.out 0 (by omega) (by omega));go_wp2_with fail
  refine HC.out.mono ?_;rintro e v3 ⟨rfl,r3,q3,T4,F4⟩;obtain rfl:r3= .nilIface:=q3 (by decide);have G3:=A0 (G2.out.trans (F4.wide (B':=wa.heap.size) (S':=[tw,fb]) G2.out.size (λk hk _=>hk)));have AB:=A0 T4;clear q3;clear T4 F4 HC HT va;have HT:=AB;clear AB;have va:=A0 A1f;go_wp2_with fail
  refine(va.out _ _ _).mono ?_;rintro e wx ⟨rfl,rfl⟩;have HC:=A0 (A1C HT.out 0 (by omega) (by omega));go_wp2_with fail
  refine HC.out.mono ?_;rintro e v4 ⟨rfl,r4,q4,T4,F4⟩;obtain rfl:r4= .nilIface:=q4 (by decide);have G4:=A0 (G3.out.trans (F4.wide (B':=wa.heap.size) (S':=[tw,fb]) G3.out.size (λk hk _=>hk)));have AB:=A0 T4;clear q4;clear T4 F4 HC HT va;have HT:=AB;clear AB;have va:=A0 A0G;go_wp2_with fail
  refine(va.out _ _ _).mono ?_;rintro e wx ⟨rfl,rfl⟩;have HC:=A0 (A0Y HT.out ds.length (by omega) (by omega));go_wp2_with fail
  refine HC.out.mono ?_;rintro e v5 ⟨rfl,r5,q5,T4,F4⟩;obtain rfl:r5= .nilIface:=q5 (by simp[B8];omega);have G5:=A0 (G4.out.trans (F4.wide (B':=wa.heap.size) (S':=[tw,fb]) G4.out.size (λk hk _=>hk)));have AB:=A0 T4;clear q5;clear T4 F4 HC HT va;have HT:=AB;clear AB;have va:=A0 V8;go_wp2_with fail
  refine(va.out _ _ _).mono ?_;rintro e wx ⟨rfl,rfl⟩;have HC:=A0 (Z6 HT.out 0 (by omega) (by omega));go_wp2_with fail
  refine HC.out.mono ?_;rintro e v6 ⟨rfl,r6,q6,T4,F4⟩;obtain rfl:r6= .nilIface:=q6 (by decide);have G6:=A0 (G5.out.trans (F4.wide (B':=wa.heap.size) (S':=[tw,fb]) G5.out.size (λk hk _=>hk)));have AB:=A0 T4;clear q6;clear T4 F4 HC HT va;have HT:=AB;clear AB;have AJ:=fun(o:Nat) (ho: (A3S b fw pad H.cells).length=o)=>Ak.out.2.2 v6 tw 134 _ _ _ HT.out.ok HT.out.seg HT.out.tw15 HT.out.db;have AO:=AJ 23 HT.out.pre;rw[HT.out.pre] at AO;have Ae:=HT.out.ok;generalize BA: ({({({({({({({C1.zero with typ:=[UInt8.ofNat AA.toNat]}:C1) with name:=Br}:C1) with mode:=C2 8 (if B8 8 0 then(0:Int).toNat else 0)}:C1) with uid:=C2 8 (if B8 8 0 then(0:Int).toNat else 0)}:C1) with gid:=C2 8 (if B8 8 0 then(0:Int).toNat else 0)}:C1) with size:=C2 12 (if B8 12 ds.length then(ds.length:Int).toNat else 0)}:C1) with mtime:=C2 12 (if B8 12 0 then(0:Int).toNat else 0)}:C1)=B4 at*;have Au:=A0 BA;have Az:=A0 AO;have AP:=A0 Ae;clear AJ AO Ae BA;go_wp2_with fail
  refine Az.out.mono ?_;rintro e w5 ⟨rfl,BQ,Al⟩;have BU:=AP.out.put_magic mg Ak.out.1;have AM: (B4.mag mg vr).Ok:=BU.put_ver vr Ak.out.2.1;have Bd:=A0l (B4.mag mg vr).bytes 512;have Aq: (C2 7 (X8 (B4.mag mg vr).bytes 512)).length=7:=D2 7 _ (by omega) (by omega);have Ag: (B4.mag mg vr).summed.Ok:=AM.put_chk _ (by rw[zH,Aq];rfl);have AT:TW tw b fw pad H.cells (Lib.byteCells (B4.mag mg vr).summed.bytes) .nilIface w5:=TW.of_seg BQ HT.out.W.2.1 Ag.len;have Ai:Fr wa.heap.size [tw,fb] wa w5:=G6.out.trans (Al.wide G6.out.size (by simp));have AE:=Ax.out.next Ai Av.out Be AT Ag.len;have Aa:=Al.cells HT.out.F (by simpa using BJ) (.inr (by decide));have c5:w5.cell? ⟨fb,0,none⟩=some .nilIface:=by rw[zA Aa];rfl
  have AY: (B4.mag mg vr).summed.chk=C2 7 (X8 (B4.mag mg vr).summed.bytes 512)++[32]:=by
   show C2 7 (X8 (B4.mag mg vr).bytes 512)++[32]=C2 7 (X8 (B4.mag mg vr).summed.bytes 512)++[32]
   rw[show X8 (B4.mag mg vr).summed.bytes 512=X8 (B4.mag mg vr).bytes 512 from A2F (B4.mag mg vr) AM (C2 7 (X8 (B4.mag mg vr).bytes 512)++[32]) (by rw[zH,Aq];rfl)]
  have hR:A6A mg vr AA ds.length (B4.mag mg vr).summed:=by
   have e:=Au.out;have Bs:B8 12 (ds.length:Int)=true:=by simp[B8];omega
   refine⟨Ag,?_,⟨m3,BV.out,?_⟩,?_,?_,?_,?_,?_,?_,?_,?_,?_,?_,rfl,rfl,AY,?_⟩
   ·rw[<-e];rfl
   ·rw[<-e];exact KK.out
   ·rw[<-e];rfl
   ·rw[<-e];rfl
   ·rw[<-e];rfl
   ·rw[<-e];rfl
   ·rw[<-e];rfl
   ·rw[<-e];rfl
   ·rw[<-e]
    show C2 12 (if B8 12 (ds.length:Int)=true then(ds.length:Int).toNat else 0)=_
    rw[if_pos Bs];rfl
   ·rw[<-e];rfl
   ·rw[<-e];rfl
   ·rw[<-e];rfl
   ·rw[<-e];rfl
  have BP:=X4 w5 B tw b fw pad hp bs (B4.mag mg vr).summed.bytes H.cells ds.length ds.length AA AE.buf AE.Bw AE.W AE.F (by omega) (by omega) (by omega) (by rw[BY.out];rfl)
  have BE:Fr B [b,tw] w w5:=((BW.out.wide (S':=[b,tw,fb]) (zB _) (λk hk _=>by rw[List.mem_singleton.1 hk];simp)).trans (Ai.wide (B':=B) (S':=[b,tw,fb]) Ax.out.Bw (λk hk _=>List.mem_cons_of_mem _ hk))).wide (zB _) (λk hk Bj=>by
   rcases List.mem_cons.1 hk with h|hk
   ·rw[h];simp
   ·rcases List.mem_cons.1 hk with h|hk
    ·rw[h];simp
    ·have:=List.mem_singleton.1 hk;omega)
  have Ba:=A0 BP;have HR:=A0 hR;have AC:=A0 AE;have Aw:=A0 BE;clear BQ Al BU AM Bd Aq AT Ai Aa AY BP hR AE BE HT Au AP Az;have AL:=Ag.len;generalize (B4.mag mg vr).summed=B5 at*;have Ay:=A0 AL;clear Ag AL;go_wp2_with fail
  refine Ba.out.mono ?_;rintro e w6 ⟨rfl,AG,r1,r2,r3,r4,r5,r6⟩;have BO: (bs++List.replicate pad 0++B5.bytes).length=bs.length+pad+512:=by simp[Ay.out];omega
  have AS:B<=w6.heap.size:=zP AC.out.Bw r6.size;have Af:=B3c w6 B b tw AG (E7 ds.length) H.cells (Lib.byteCells B5.bytes) _ ds ds.length r2 r1 AS r3 (by omega) (by omega) (by rw[BO];omega);have BL:=AC.out.gl.fr r6 AC.out.BG (by simp;exact⟨AC.out.bG,AC.out.tG⟩);have Bb:=A0 Af;have BX:=A0 BL;have BZ:=A0 r6;have By:=A0 r2;have Bp:w.heap.size<=AG:=zP Aw.out.size r4;clear Af BL r6 r1 r2 r3 BO c5;go_wp2_with fail
  refine Bb.out.mono ?_;rintro e w7 ⟨rfl,s1,s2,s3,s4⟩;have HS:=A0 (And.intro s1 (And.intro s2 (And.intro s3 s4)));clear s1 s2 s3 s4;go_wp2_with fail
  go_ret
  obtain⟨s1,s2,s3,s4⟩:=HS.out;have Bn: ((E7 ds.length).toNat:Int)=E7 ds.length:=Int.toNat_of_nonneg (by unfold E7;omega);have AI:G0<=AG:=by have:=HH.out.gl.le;omega
  refine⟨rfl,AG,B5,HR.out,⟨by rw[Bn];exact s1,s2,?_,BX.out.fr s4 AC.out.BG (by simp;exact⟨AC.out.bG,AI⟩),AC.out.BG,AC.out.tG,AI,zP AS s4.size,Ay.out⟩,Bp,?_⟩
  ·rw[Int.sub_self] at s3;exact s3
  ·exact((Aw.out.trans BZ.out).wide (S':=[b,tw,AG]) (zB _) (λk hk _=>by
    rcases List.mem_cons.1 hk with h|hk
    ·rw[h];simp
    ·rw[List.mem_singleton.1 hk];simp)).trans (s4.wide (S':=[b,tw,AG]) (zB _) (λk hk _=>by
    rcases List.mem_cons.1 hk with h|hk
    ·rw[h];simp
    ·rw[List.mem_singleton.1 hk];simp))|>.wide (zB _) (λk hk Bj=>by
    rcases List.mem_cons.1 hk with h|hk
    ·rw[h];simp
    ·rcases List.mem_cons.1 hk with h|hk
     ·rw[h];simp
     ·have:=List.mem_singleton.1 hk;omega)
theorem A7L (G0:Nat) (E:Nat->Addr) (B tw b fw pad:Nat) (H:Hd) (AC bs nm ds:List UInt8) (AA:Int) (w:World) (h:WS G0 E B tw b fw pad H AC bs .nilIface w) (hp:pad<512) (AI:nm.length<=1048576) (AE:ds.length<=1048576) (AG:0<=AA/\AA<256) (AH:D1 AA=false) (AB:bs.length+pad+512+ds.length<=140737488355328):
  Calls Tryz.prog 141 #[.pointer (some ⟨tw,0,none⟩),str nm,str ds,.int .u8 AA,.int .i64 4] w λe w'=>e= .returned .nilIface/\∃AD B2,B0Q AA ds.length B2/\WS G0 E B tw b AD (E7 ds.length).toNat H B2.bytes (bs++List.replicate pad 0++B2.bytes++ds) .nilIface w'/\w.heap.size<=AD/\Fr B [b,tw] w w':=
 A2Y 4 _ _ B3K G0 E B tw b fw pad H AC bs nm ds AA w h hp AI AE AG AH AB
noncomputable def B7U:Code:=I2 11 (Tryz.f69.body.getD .skip)
def S3 (n x:Int):List UInt8:=if E5 n x then List.replicate 12 0 else D9 12 (x-62135596800)
theorem A0J (n x:Int): (S3 n x).length=12:=by
 unfold S3;split
 ·rfl
 ·exact K7 12 _ (by decide)
theorem B0D {n x:Int} (h:E5 n x=true):S3 n x=List.replicate 12 0:=by rw[S3,if_pos h]
theorem A7i {n x:Int} (h:E5 n x=false):S3 n x=D9 12 (x-62135596800):=by rw[S3,if_neg (by rw[h];exact Bool.false_ne_true)]
structure A6f (h:Hd) (B:C1):Prop where
 ok:B.Ok
 typ:B.typ=[UInt8.ofNat h.typ.toNat]
 name:V9 (List.replicate 100 0) h.name B.name
 link:V9 (List.replicate 100 0) h.link B.link
 user:V9 (List.replicate 32 0) h.user B.user
 group:V9 (List.replicate 32 0) h.group B.group
 mode:B.mode=D9 8 h.mode
 uid:B.uid=D9 8 h.uid
 gid:B.gid=D9 8 h.gid
 size:B.size=D9 12 h.size
 mtime:B.mtime=D9 12 h.sec
 maj:B.maj=D9 8 h.maj
 mnr:B.mnr=D9 8 h.mnr
 magic:B.magic=[117,115,116,97,114,32]
 ver:B.ver=[32,0]
 chk:B.chk=C2 7 (X8 B.bytes 512)++[32]
 rest:B.rest=S3 h.aw h.ax++(S3 h.cw h.cx++List.replicate 143 0)
def B6n (B tw b pad:Nat) (H:Hd) (bs:List UInt8) (sz:Int) (w w':World):Prop:=
 ∃AA B2,A6f H B2/\W3 B b (bs++List.replicate pad 0++B2.bytes) w'/\TW tw b AA (E7 sz) H.cells (Lib.byteCells B2.bytes) .nilIface w'/\FW AA b sz w'/\w.heap.size<=AA/\AA<w'.heap.size/\Fr B [b,tw] w w'
def B0P (tw b fw:Nat) (pad:Int) (H:Hd) (fb:Nat) (aE:Addr) (B2:C1) (wa wx:World):Prop:=∃ferr,TB tw b fw pad H.cells fb ferr aE B2 wx/\Fr wa.heap.size [tw,fb] wa wx
section
variable {tw b fw:Nat} {pad:Int} {hdr:List Value} {fb:Nat} {ferr:Value} {aE:Addr} {B:C1} {w:World}
theorem A8W (h:TB tw b fw pad hdr fb ferr aE B w) (a f c:List UInt8) (k o cap:Nat) (hr:B.rest=a++(f++c)) (hf:f.length=12) (ha:a.length=k) (ho:368+k=o) (hc:12<=cap) (x:Int) (hx:X5 12 x):
  Calls Tryz.prog 144 #[.pointer (some ⟨fb,0,none⟩),.slice (some ⟨tw,o,none⟩) 12 cap,.int .i64 x] w λe w'=>e= .returned (.tuple #[])/\TB tw b fw pad hdr fb ferr aE {B with rest:=a++(D9 12 x++c)} w'/\Fr w.heap.size [tw,fb] w w':=by
 have hs:=h.seg.get_rest;rw[hr] at hs
 have hl: (a++(D9 12 x++c)).length=167:=by
  have:=h.ok.rest;rw[hr] at this;simp only[List.length_append,hf] at this⊢;rw[K7 12 x (by decide)];exact this
 refine A4H h 12 cap o x _ _ f {B with rest:=a++(D9 12 x++c)} (E4.split.1 hs) hf (.inr rfl) hc ?_ hx (λw' k=>(E4.split.2 k).put_rest) (h.ok.put_rest _ hl);rw[zH,h.ok.off_rest,h.pre,zJ,ha];omega
end
theorem B2P (G0:Nat) (E:Nat->Addr) (B tw b fw pad:Nat) (H:Hd) (As bs:List UInt8) (w:World) (h:WS G0 E B tw b fw pad H As bs .nilIface w) (hp:pad<512) (Ai:H.InT) (BC:A5z H) (sz:Int) (BF:sz=if D1 H.typ then 0 else H.size) (AX:0<=sz) (Aj:bs.length+pad+512<=140737488355328)
  (R:Ending->World->Prop) (hR:∀w',B6n B tw b pad H bs sz w w'->R (.returned .nilIface) w') {c2 c3 c4 c5 c6 c7 c8 c9 bE bF bH bI bJ bK bL bM bN bO c20 c21 bP bQ bR bS bT bU bV bW bX bY bZ cA cB cC cD c37 cE cF cG cH cI cJ cL cM c46 cO cP cQ cS c51 cT c53 cU cV cW cX cY cZ dA dB dC dD dE dF dG dH dI dJ dL dM dO dP dQ c75 dR dS dT dU c80 dV dW dX dY c85 dZ eA eC eD eH eJ eK eO eR eS eV eW eX eY aB aD aF aG aH aI aJ aK aL aM aN aO aP aQ aR aS aT aU aV aW aX aY aZ bA bB bC bD:Value}:
  Code.wp Tryz.prog B7U (bodyPost Tryz.prog Tryz.f69 R) ⟨(.pointer (some ⟨tw,0,none⟩)::.pointer (some ⟨tw,3,none⟩)::c2::c3::c4::c5::c6::c7::c8::c9::bE::bF::bH::bI::bJ::bK::bL::bM::bN::bO::c20::c21::bP::bQ::bR::bS::bT::bU::bV::bW::bX::bY::bZ::cA::cB::cC::cD::c37::cE::cF::cG::cH::cI::cJ::cL::cM::c46::cO::cP::cQ::cS::c51::cT::c53::cU::cV::cW::cX::cY::cZ::dA::dB::dC::dD::dE::dF::dG::dH::dI::dJ::dL::dM::dO::dP::dQ::c75::dR::dS::dT::dU::c80::dV::dW::dX::dY::c85::dZ::eA::eC::eD::eH::eJ::eK::eO::eR::eS::eV::eW::eX::eY::aB::aD::aF::aG::aH::aI::aJ::aK::aL::aM::aN::aO::aP::aQ::aR::aS::aT::aU::aV::aW::aX::aY::aZ::bA::bB::bC::bD::[]).toArray,[]⟩ w:=by
 conv=>arg 2;whnf
 have AE:=h.below ((zD _ w).alloc (zB _) (.cells #[.nilIface] 196));have Ah:=zI w (.cells #[.nilIface] 196)
 have Az:TB tw b fw pad H.cells w.heap.size .nilIface (E 3) (A4n As) (w.alloc (.cells #[.nilIface] 196)):=
  ⟨by rw[A1n _ AE.blk512];exact AE.W,A4o _ AE.blk512,Ah,AE.gl.db,AE.gl.err 3 (by decide),by have:=AE.tG;have:=AE.gl.g19;omega,by have:=AE.tG;have:=AE.gl.g19;omega,by have:=h.gl.le;have:=h.gl.g19;omega,by have:=h.gl.le;have:=h.gl.g19;omega⟩
 have hT:=B1X (w.alloc (.cells #[.nilIface] 196)) tw b fw w.heap.size pad H Ai.toIn BC .nilIface (E 3) _ Az;have BW:w.heap.size≠tw:=by have:=A8 h.W.1;omega
 have BA:G0<=w.heap.size:=h.gl.le;have Aw:Fr B [tw] w (w.alloc (.cells #[.nilIface] 196)):=(Fr.refl _ _ w).alloc _;have HT:=A0 hT;have Ad:=A0 AE;have An:=A0 Ah;have BL:=A0 Aw;have AD:=A0 Ai;have Aq:=A0 BF;have BO:=A0 hR;have BU:=A0 (And.intro h.BG (And.intro h.tG h.bG));have Af:=A0 AX;clear hT AE Ah Aw Ai BF hR Az h AX BC;generalize BS:w.alloc (.cells #[.nilIface] 196)=wa at*;generalize AV:w.heap.size=fb at*;have BJ:=A0 AV;go_wp2_with fail
 refine HT.out.mono ?_;clear AV BS;rintro e w3 ⟨rfl,B2,ferr2,AI,Ag,AH⟩;have Al:B2.rest=[]++(List.replicate 12 0++(List.replicate 12 0++List.replicate 143 0)):=by rw[Ag.rest];decide
 have BV:=A0 Al
 have AR:TB tw b fw pad H.cells fb ferr2 (E 3) {B2 with rest:=List.replicate 12 0++(List.replicate 12 0++List.replicate 143 0)} w3:=by
  have e: ({B2 with rest:=List.replicate 12 0++(List.replicate 12 0++List.replicate 143 0)}:C1)=B2:=by
   have:List.replicate 12 0++(List.replicate 12 0++List.replicate 143 0)=B2.rest:=Al.symm;rw[this]
  rw[e];exact AI
 have AA:=A0 AR;have Ar:=A0 Ag;have AJ:=A0 AH;clear AI AR Ag AH HT Al;have c0:=AA.out.hdr 11 (.int .u64 H.aw) rfl;have c1:=AA.out.hdr 12 (.int .i64 H.ax) rfl;go_wp2_with fail
 refine(V6 _ _ _).mono ?_;rintro e w4 ⟨rfl,AO⟩;have AB:=A0 (AA.out.below AO);have AL:=A0 (AJ.out.trans (Fr.of_below AO wa.heap.size [tw,fb]));clear AO c0 c1 AA AJ;go_upto_if 60 with fail
 go_cut [] (λwx=>B0P tw b fw pad H fb (E 3) {B2 with rest:=S3 H.aw H.ax++(List.replicate 12 0++List.replicate 143 0)} wa wx)
 case first=>
  cases hz:E5 H.aw H.ax
  ·have d0:=AB.out.hdr 11 (.int .u64 H.aw) rfl
   have d1:=AB.out.hdr 12 (.int .i64 H.ax) rfl;have vg:=A0 A8Y;have va:=A0 A6r;have HZ:=A0 hz;clear hz;have Ae:=A0 (fun(wx:World) (hx:TB tw b fw pad H.cells fb ferr2 (E 3) {B2 with rest:=List.replicate 12 0++(List.replicate 12 0++List.replicate 143 0)} wx)=>A8W hx [] (List.replicate 12 0) (List.replicate 12 0++List.replicate 143 0) 0 368 167 rfl rfl rfl rfl (by decide) (H.ax-62135596800) (X5.w12 (by have:=AD.out.ax;omega) (by have:=AD.out.ax;omega)));go_wp2_with fail
   go_region_held3 (λw'=>w'.cell? ⟨tw,14,none⟩=some (.int .u64 H.aw)/\w'.cell? ⟨tw,15,none⟩=some (.int .i64 H.ax)) (first|go_keep|(refine And.intro ?_ ?_<;>assumption)) (first|(go_at_call 108;refine(vg.out _ _).mono ?_;rintro e wx ⟨rfl,rfl⟩)|(go_at_call 120;refine(va.out _ _ _).mono ?_;rintro e wx ⟨rfl,rfl⟩)|(go_at_call 103;refine(A0k w4.drew H.aw H.ax AD.out.aw.1 AD.out.aw.2 AD.out.ax).mono ?_;rintro e wu ⟨rfl,AG⟩;have m3:=(AB.out.drew.below AG).hdr 11 (.int .u64 H.aw) rfl;have m4:=(AB.out.drew.below AG).hdr 12 (.int .i64 H.ax) rfl;have HC:=A0 (Ae.out _ (AB.out.drew.below AG));have HB:=A0 AG;clear AG)|(go_at_call 144;refine HC.out.mono ?_;rintro e w5 ⟨rfl,T5,F5⟩;have m5:=T5.hdr 11 (.int .u64 H.aw) rfl;have m6:=T5.hdr 12 (.int .i64 H.ax) rfl))
   have G5:Fr wa.heap.size [tw,fb] wa w5:=(AL.out.drew.trans (Fr.of_below HB.out wa.heap.size [tw,fb])).trans (F5.wide (zP AL.out.drew.size HB.out.size) (λk hk _=>hk));have HM:Hid (B0P tw b fw pad H fb (E 3) {B2 with rest:=S3 H.aw H.ax++(List.replicate 12 0++List.replicate 143 0)} wa w5):=A0 ⟨_,by rw[A7i HZ.out];exact T5,G5⟩;clear m3 m4 m5 m6 T5 F5 G5 HC;go_wp2_with fail
   go_meet
   exact HM.out
  ·have HM:Hid (B0P tw b fw pad H fb (E 3) {B2 with rest:=S3 H.aw H.ax++(List.replicate 12 0++List.replicate 143 0)} wa w4):=A0 ⟨_,by rw[B0D hz];exact AB.out,AL.out⟩
   go_wp2_with fail
   go_meet
   exact HM.out
 case rest=>
 obtain⟨AM,AI,AH⟩:=hcut;clear AB AL;obtain⟨w3,AZ⟩:∃w3:World,w3=wc:=⟨_,rfl⟩;rw[<-AZ] at AI AH⊢;clear AZ wc;have AA:=A0 AI;have AJ:=A0 AH;clear AI AH;have c0:=AA.out.hdr 13 (.int .u64 H.cw) rfl;have c1:=AA.out.hdr 14 (.int .i64 H.cx) rfl;go_wp2_with fail
 refine(V6 _ _ _).mono ?_;rintro e w4 ⟨rfl,AO⟩;have AB:=A0 (AA.out.below AO);have AL:=A0 (AJ.out.trans (Fr.of_below AO wa.heap.size [tw,fb]));clear AO c0 c1 AA AJ;go_upto_if 75 with fail
 go_cut [] (λwx=>B0P tw b fw pad H fb (E 3) {B2 with rest:=S3 H.aw H.ax++(S3 H.cw H.cx++List.replicate 143 0)} wa wx)
 case first=>
  cases hz:E5 H.cw H.cx
  ·have d0:=AB.out.hdr 13 (.int .u64 H.cw) rfl
   have d1:=AB.out.hdr 14 (.int .i64 H.cx) rfl;have vg:=A0 A8Y;have va:=A0 A6s;have HZ:=A0 hz;clear hz;have Ae:=A0 (fun(wx:World) (hx:TB tw b fw pad H.cells fb AM (E 3) {B2 with rest:=S3 H.aw H.ax++(List.replicate 12 0++List.replicate 143 0)} wx)=>A8W hx (S3 H.aw H.ax) (List.replicate 12 0) (List.replicate 143 0) 12 380 155 rfl rfl (A0J _ _) rfl (by decide) (H.cx-62135596800) (X5.w12 (by have:=AD.out.cx;omega) (by have:=AD.out.cx;omega)));go_wp2_with fail
   go_region_held3 (λw'=>w'.cell? ⟨tw,16,none⟩=some (.int .u64 H.cw)/\w'.cell? ⟨tw,17,none⟩=some (.int .i64 H.cx)) (first|go_keep|(refine And.intro ?_ ?_<;>assumption)) (first|(go_at_call 108;refine(vg.out _ _).mono ?_;rintro e wx ⟨rfl,rfl⟩)|(go_at_call 121;refine(va.out _ _ _).mono ?_;rintro e wx ⟨rfl,rfl⟩)|(go_at_call 103;refine(A0k w4.drew H.cw H.cx AD.out.cw.1 AD.out.cw.2 AD.out.cx).mono ?_;rintro e wu ⟨rfl,AG⟩;have m3:=(AB.out.drew.below AG).hdr 13 (.int .u64 H.cw) rfl;have m4:=(AB.out.drew.below AG).hdr 14 (.int .i64 H.cx) rfl;have HC:=A0 (Ae.out _ (AB.out.drew.below AG));have HB:=A0 AG;clear AG)|(go_at_call 144;refine HC.out.mono ?_;rintro e w5 ⟨rfl,T5,F5⟩;have m5:=T5.hdr 13 (.int .u64 H.cw) rfl;have m6:=T5.hdr 14 (.int .i64 H.cx) rfl))
   have G5:Fr wa.heap.size [tw,fb] wa w5:=(AL.out.drew.trans (Fr.of_below HB.out wa.heap.size [tw,fb])).trans (F5.wide (zP AL.out.drew.size HB.out.size) (λk hk _=>hk));have HM:Hid (B0P tw b fw pad H fb (E 3) {B2 with rest:=S3 H.aw H.ax++(S3 H.cw H.cx++List.replicate 143 0)} wa w5):=A0 ⟨_,by rw[A7i HZ.out];exact T5,G5⟩;clear m3 m4 m5 m6 T5 F5 G5 HC;go_wp2_with fail
   go_meet
   exact HM.out
  ·have HM:Hid (B0P tw b fw pad H fb (E 3) {B2 with rest:=S3 H.aw H.ax++(S3 H.cw H.cx++List.replicate 143 0)} wa w4):=A0 ⟨_,by rw[B0D hz];exact AB.out,AL.out⟩
   go_wp2_with fail
   go_meet
   exact HM.out
 case rest=>
 obtain⟨AM,AI,AH⟩:=hcut;clear AB AL;obtain⟨w3,AZ⟩:∃w3:World,w3=wc:=⟨_,rfl⟩;rw[<-AZ] at AI AH⊢;clear AZ wc;have AA:=A0 AI;have AJ:=A0 AH;clear AI AH;generalize Au: ({B2 with rest:=S3 H.aw H.ax++(S3 H.cw H.cx++List.replicate 143 0)}:C1)=B9 at*;have BI:=A0 Au;clear Au;have AT:=Ad.out.next AJ.out An.out BA AA.out.W AA.out.ok.len;have Am:=A2X w3 tw 134 _ _ _ AA.out.ok AA.out.seg AA.out.tw15 AA.out.db;rw[AA.out.pre] at Am;have Ap:=A0 Am;have BP:=A0 AT;have AQ:=A0 AA.out.ok;clear Am AT AA;go_wp2_with fail
 refine Ap.out.mono ?_;rintro e w5 ⟨rfl,BE,Av⟩;have BH:=AQ.out.put_magic [117,115,116,97,114,32] rfl;have AP:B9.gnu.Ok:=BH.put_ver [32,0] rfl;have BR:=A0l B9.gnu.bytes 512;have Ak: (C2 7 (X8 B9.gnu.bytes 512)).length=7:=D2 7 _ (by omega) (by omega);have Aa:B9.gnu.summed.Ok:=AP.put_chk _ (by rw[zH,Ak];rfl);have AS:TW tw b fw pad H.cells (Lib.byteCells B9.gnu.summed.bytes) .nilIface w5:=TW.of_seg BE rfl Aa.len;have Ab:Fr wa.heap.size [tw,fb] wa w5:=AJ.out.trans (Av.wide AJ.out.size (by simp));have AC:=Ad.out.next Ab An.out BA AS Aa.len
 have AU:B9.gnu.summed.chk=C2 7 (X8 B9.gnu.summed.bytes 512)++[32]:=by
  show C2 7 (X8 B9.gnu.bytes 512)++[32]=C2 7 (X8 B9.gnu.summed.bytes 512)++[32]
  rw[show X8 B9.gnu.summed.bytes 512=X8 B9.gnu.bytes 512 from A2F B9.gnu AP (C2 7 (X8 B9.gnu.bytes 512)++[32]) (by rw[zH,Ak];rfl)]
 have Ay:A6f H B9.gnu.summed:=by
  have t:=Ar.out;have e:=BI.out;subst e;exact⟨Aa,t.typ,t.name,t.link,t.user,t.group,t.mode,t.uid,t.gid,t.size,t.mtime,t.maj,t.mnr,rfl,rfl,AU,rfl⟩
 have cs:=AC.hdr 3 (.int .i64 H.size) rfl;have ct:=AC.hdr 0 (.int .u8 H.typ) rfl
 have AY:sz<=9223372036854775807:=by
  have h1:=Aq.out;have h3:=AD.out.size;split at h1<;>omega
 have BD:=X4 w5.drew B tw b fw pad hp bs B9.gnu.summed.bytes H.cells H.size sz H.typ AC.drew.buf AC.drew.Bw AC.drew.W AC.drew.F Aj Af.out AY Aq.out
 have Ax:Fr B [b,tw] w w5.drew:=(((BL.out.wide (S':=[b,tw,fb]) (zB _) (λk hk _=>by rw[List.mem_singleton.1 hk];simp)).trans (Ab.wide (B':=B) (S':=[b,tw,fb]) Ad.out.Bw (λk hk _=>List.mem_cons_of_mem _ hk))).wide (zB _) (λk hk BX=>by
   rcases List.mem_cons.1 hk with h|hk
   ·rw[h];simp
   ·rcases List.mem_cons.1 hk with h|hk
    ·rw[h];simp
    ·have:=List.mem_singleton.1 hk;have:=BJ.out;omega)).drew
 have BM:=A0 BD;have HP:=A0 Ay;have Ao:=A0 Ax;clear BE Av BH AP BR Ak AS Ab AU BD Ay Ax Ar AQ Ap BP Aa AY AC;go_wp2_with fail
 go_region_held3 (λw'=>w'.cell? ⟨tw,6,none⟩=some (.int .i64 H.size)/\w'.cell? ⟨tw,3,none⟩=some (.int .u8 H.typ)) (first|go_keep|(refine And.intro ?_ ?_<;>assumption)) (first|(go_at_call 133;refine BM.out.mono ?_;rintro e w6 ⟨rfl,BQ,r1,r2,r3,r4,r5,r6⟩;have d0:=(A0S r2 3 (.int .i64 H.size) rfl);have d1:=(A0S r2 0 (.int .u8 H.typ) rfl)))
 have BT:w.heap.size<=w5.drew.heap.size:=Ao.out.size;have AW:=BO.out _ ⟨BQ,B9.gnu.summed,HP.out,r1,r2,r3,zP BT r4,r5,Ao.out.trans (r6.wide (zB _) (λk hk _=>hk))⟩;have Ac:=A0 AW;clear AW r1 r2 r3 r4 r5 r6;go_wp2_with fail
 exact Ac.out
end Go.Proofs.YtkanmkcojlefbaaGreatDoor
