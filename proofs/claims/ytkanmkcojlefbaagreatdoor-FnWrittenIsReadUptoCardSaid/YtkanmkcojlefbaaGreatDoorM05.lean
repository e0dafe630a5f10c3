/-
  Part of the proof; holds the texts Tmpl.
-/
import Derived.Test.YtkanmkcojlefbaaGreatDoorM04
set_option maxHeartbeats 4000000
set_option maxRecDepth 100000
set_option linter.unusedSimpArgs false
set_option linter.unusedVariables false
namespace Go.Proofs.YtkanmkcojlefbaaGreatDoor
theorem QD:type_of% @World.cell?_setCell_other:=@World.cell?_setCell_other
open Go.RowKit
theorem TB.hdr {tw b fw:Nat} {AC:Int} {AB:List Value} {fb:Nat} {AA:Value} {aE:Addr} {B:C1} {w:World} (h:TB tw b fw AC AB fb AA aE B w) (k:Nat) (v:Value) (hv:AB[k]?=some v):w.cell? ⟨tw,3+k,none⟩=some v:=by
 have hk:k<20:=by have:=(zM.1 hv).1;have:=h.W.2.1;omega
 rw[zA h.W.1,A2o _ _ _ _ _ _ h.W.2.1 k hk,hv]
theorem W4 (w:World) (g i j:Nat) (v:Value) (h:i≠j): (w.setCell ⟨g,j,none⟩ v).cell? ⟨g,i,none⟩=w.cell? ⟨g,i,none⟩:=by
 exact QD w _ _ _ (λe=>h (by cases e;rfl))
theorem TB.drew {tw b fw:Nat} {AC:Int} {AB:List Value} {fb:Nat} {AA:Value} {aE:Addr} {B:C1} {w:World} (h:TB tw b fw AC AB fb AA aE B w):TB tw b fw AC AB fb AA aE B w.drew:=⟨h.W,h.ok,h.F,h.db,h.e3,h.tw15,h.tw3,h.f15,h.f3⟩
theorem TB.below {tw b fw:Nat} {AC:Int} {AB:List Value} {fb:Nat} {AA:Value} {aE:Addr} {B:C1} {w w':World} (h:TB tw b fw AC AB fb AA aE B w) (k:Below w.heap.size w w'):TB tw b fw AC AB fb AA aE B w':=
 ⟨⟨(k.block tw (A8 h.W.1)).trans h.W.1,h.W.2⟩,h.ok,(k.block fb (A8 h.F)).trans h.F,(k.cell (zC h.db)).trans h.db,(k.cell (zC h.e3)).trans h.e3,h.tw15,h.tw3,h.f15,h.f3⟩
def Hd.sec (h:Hd):Int:=if E5 h.mw h.mx then 0 else h.mx-62135596800
structure Hd.In (h:Hd):Prop where
 mode: -9223372036854775808<=h.mode/\h.mode<=9223372036854775807
 uid: -9223372036854775808<=h.uid/\h.uid<=9223372036854775807
 gid: -9223372036854775808<=h.gid/\h.gid<=9223372036854775807
 size: -9223372036854775808<=h.size/\h.size<=9223372036854775807
 maj: -9223372036854775808<=h.maj/\h.maj<=9223372036854775807
 mnr: -9223372036854775808<=h.mnr/\h.mnr<=9223372036854775807
 mw:0<=h.mw/\h.mw<1000000000
 mx: -100000000000000000<=h.mx-62135596800/\h.mx-62135596800<=100000000000000000
 typ:0<=h.typ/\h.typ<256
 name:h.name.length<=1048576
 link:h.link.length<=1048576
 user:h.user.length<=1048576
 group:h.group.length<=1048576
structure B6s (h:Hd) (n l u g:List UInt8) (B:C1):Prop where
 typ:B.typ=[UInt8.ofNat h.typ.toNat]
 name:V9 (List.replicate 100 0) n B.name
 link:V9 (List.replicate 100 0) l B.link
 user:V9 (List.replicate 32 0) u B.user
 group:V9 (List.replicate 32 0) g B.group
 mode:B.mode=C2 8 (if B8 8 h.mode then h.mode.toNat else 0)
 uid:B.uid=C2 8 (if B8 8 h.uid then h.uid.toNat else 0)
 gid:B.gid=C2 8 (if B8 8 h.gid then h.gid.toNat else 0)
 size:B.size=C2 12 (if B8 12 h.size then h.size.toNat else 0)
 mtime:B.mtime=C2 12 (if B8 12 h.sec then h.sec.toNat else 0)
 maj:B.maj=C2 8 (if B8 8 h.maj then h.maj.toNat else 0)
 mnr:B.mnr=C2 8 (if B8 8 h.mnr then h.mnr.toNat else 0)
 rest:B.rest=List.replicate 167 0
theorem B3V (w:World) (tw b fw fb:Nat) (Ar:Int) (H:Hd) (AD:H.In) (AP:Value) (aE:Addr) (B:C1) (h:TB tw b fw Ar H.cells fb AP aE B w):
  Calls Tryz.prog 128 #[.pointer (some ⟨tw,0,none⟩),.pointer (some ⟨tw,3,none⟩),.func (.func 129) #[.pointer (some ⟨fb,0,none⟩)] #[],.func (.func 130) #[.pointer (some ⟨fb,0,none⟩)] #[]] w λe w'=>
   e= .returned (.pointer (some ⟨tw,23,none⟩))/\∃B2 ferr2,TB tw b fw Ar H.cells fb ferr2 aE B2 w'/\B6s H H.name H.link H.user H.group B2/\
    (H.name.length<=100->H.link.length<=100->H.user.length<=32->H.group.length<=32->B8 8 H.mode=true->B8 8 H.uid=true->B8 8 H.gid=true->B8 12 H.size=true->B8 12 H.sec=true->B8 8 H.maj=true->B8 8 H.mnr=true->ferr2=AP)/\Fr w.heap.size [tw,fb] w w':=by
 have hr:=A0h w tw 134 _ _ _ h.seg h.ok.len 23 h.pre;have An:=h.ne;have h0:=A0 h;have v7:=A0 A5Z;have vu:=A0 Z0;have vt:=A0 A3t;clear h;go_enter Tryz.func128,Tryz.ntmps128
 go_wp2_with fail
 refine hr.mono ?_;rintro e w1 ⟨rfl,s1,F1⟩;rw[<-C1.zero_bytes] at s1;have T1:=h0.out.next s1 C1.zero_ok (F1.cells h0.out.F (by simpa using An) (.inr (by decide))) (F1.wide (zB _) (by simp));have BA:=T1.hdr 9 (.int .u64 H.mw) rfl;have BC:=T1.hdr 10 (.int .i64 H.mx) rfl;have AZ:=A0 T1;have AY:=A0 F1;clear T1 F1 s1 hr;go_wp2_with fail
 refine(V6 _ _ _).mono ?_;rintro e w2 ⟨rfl,Ag⟩;have Ab:=(Ag.block w1.heap.size (by simp)).trans (zI w1 (.cells #[.int .u64 H.mw,.int .i64 H.mx] 126));have B2:Below w1.heap.size w1 w2:=((zD _ w1).alloc (zB _) _).trans (Ag.mono (by simp));have T2:=AZ.out.below B2;clear BA BC Ag;have e0:w2.cell? ⟨w1.heap.size,0,none⟩=some (.int .u64 H.mw):=by rw[zA Ab];rfl
 have e1:w2.cell? ⟨w1.heap.size,1,none⟩=some (.int .i64 H.mx):=by rw[zA Ab];rfl
 have t0:=T2.hdr 0 (.int .u8 H.typ) rfl;have Aa:=A0 Ab;have AS:=A0 B2;have AA:=A0 T2;clear Ab B2 T2
 have AW:∃n1 x1:Int,0<=n1/\n1<1000000000/\(-100000000000000000<=x1-62135596800/\x1-62135596800<=100000000000000000)/\x1-62135596800=H.sec/\(E5 H.mw H.mx=false->n1=H.mw/\x1=H.mx)/\(E5 H.mw H.mx=true->n1=0/\x1=62135596800):=by
  cases hz:E5 H.mw H.mx
  ·exact⟨H.mw,H.mx,AD.mw.1,AD.mw.2,AD.mx,by rw[Hd.sec,hz];rfl,λ_=>⟨rfl,rfl⟩,λh=>by cases h⟩
  ·exact⟨0,62135596800,by omega,by omega,by omega,by rw[Hd.sec,hz];rfl,λh=>(by cases h),λ_=>⟨rfl,rfl⟩⟩
 obtain⟨n1,x1,BD,BE,Ao,AX,Ap,Aq⟩:=AW;have AC:w1.heap.size∉[tw,fb]:=by have:=A8 AZ.out.W.1;have:=A8 AZ.out.F;simp;omega
 have Ae:=A0 Ap;have Af:=A0 Aq;have AT:=A0 AX;have Ad:=A0 Ao;clear Ap Aq AX Ao;cases hz:E5 H.mw H.mx
 case' false=>
  have AQ:=Ae.out hz;clear Ae Af hz;go_wp2_with fail
  rename World=>w4
  have HF:=A0 ((AY.out.wide (S':=[tw,fb]) (zB _) (by simp)).trans (Fr.of_below AS.out w.heap.size [tw,fb]));have HM:Hid (w4.cell? ⟨w1.heap.size,0,none⟩=some (.int .u64 n1)/\w4.cell? ⟨w1.heap.size,1,none⟩=some (.int .i64 x1)):=by rw[AQ.1,AQ.2];exact A0 ⟨e0,e1⟩
  have HT:=AA;clear AS Aa AA AY e0 e1;clear AQ
 case' true=>
  have AQ:=Af.out hz;clear Ae Af hz;go_wp2_with fail
  refine(tOf _ 0 0 (by omega) (by omega) (by omega)).mono ?_;rintro e w3 ⟨rfl,Ah⟩;have AR:=(Ah.block w1.heap.size (A8 Aa.out)).trans Aa.out;have f0:w3.cell? ⟨w1.heap.size,0,none⟩=some (.int .u64 H.mw):=by rw[zA AR];rfl
  have f1:w3.cell? ⟨w1.heap.size,1,none⟩=some (.int .i64 H.mx):=by rw[zA AR];rfl
  have z0:=zE AR 0;have z1:=zE AR 1;have Ai:=B6 (i:=1) (.int .i64 62135596800) (B6 (i:=0) (.int .u64 0) AR);have B4:Below w1.heap.size w1 ((w3.setCell ⟨w1.heap.size,0,none⟩ (.int .u64 0)).setCell ⟨w1.heap.size,1,none⟩ (.int .i64 62135596800)):=(((AS.out.trans (Ah.mono AS.out.size))).setCell (p:=⟨w1.heap.size,0,none⟩) (zB _) _).setCell (p:=⟨w1.heap.size,1,none⟩) (zB _) _;have HT:=A0 (AZ.out.below B4);have HF:=A0 ((AY.out.wide (S':=[tw,fb]) (zB _) (by simp)).trans (Fr.of_below B4 w.heap.size [tw,fb]));have t0:=HT.out.hdr 0 (.int .u8 H.typ) rfl;have HM:Hid (((w3.setCell ⟨w1.heap.size,0,none⟩ (.int .u64 0)).setCell ⟨w1.heap.size,1,none⟩ (.int .i64 62135596800)).cell? ⟨w1.heap.size,0,none⟩=some (.int .u64 n1)/\((w3.setCell ⟨w1.heap.size,0,none⟩ (.int .u64 0)).setCell ⟨w1.heap.size,1,none⟩ (.int .i64 62135596800)).cell? ⟨w1.heap.size,1,none⟩=some (.int .i64 x1)):=by rw[AQ.1,AQ.2];exact A0 ⟨by rw[zA Ai];rfl,by rw[zA Ai];rfl⟩
  clear AR Ai B4 AS Aa AA AY Ah e0 e1;go_wp2_with fail
  generalize (w3.setCell ⟨w1.heap.size,0,none⟩ (.int .u64 0)).setCell ⟨w1.heap.size,1,none⟩ (.int .i64 62135596800)=w4 at*;clear f0 f1 z0 z1;clear AQ
 all_goals
  refine(v7.out _ _).mono ?_;rintro e wx ⟨rfl,rfl⟩;have s0:=HT.out.seg.get_typ;have AU:C1.zero.typ=[0]:=rfl;have tc:=s0.cell 0 0 (by rw[AU];rfl);have tz:=s0.frozen 0;rw[HT.out.ok.off_typ,HT.out.pre] at tc tz;clear s0 AU;go_wp2_with fail
  have BF: (w4.setCell ⟨tw,179,none⟩ (.int .u8 H.typ)).drew.cell? ⟨tw,3,none⟩=some (.int .u8 H.typ):=(W4 w4 tw 3 179 (.int .u8 H.typ) (by omega)).trans t0;go_region_held3 (λw'=>w'.cell? ⟨tw,3,none⟩=some (.int .u8 H.typ)) (first|go_keep|assumption) (first|(go_at_call 174;refine(vt.out _ _ _).mono ?_;rintro e wx ⟨rfl,rfl⟩))
  have T3:=(HT.out.next (w':=w4.setCell ⟨tw,179,none⟩ (.int .u8 H.typ)) (ferr2:=AP) (B2:= {C1.zero with typ:=[UInt8.ofNat H.typ.toNat]}) (by
   have q:=HT.out.seg.get_typ.set 0 (by show 0<1;omega) (UInt8.ofNat H.typ.toNat);rw[HT.out.ok.off_typ,HT.out.pre] at q;have e3: ((UInt8.ofNat H.typ.toNat).toNat:Int)=H.typ:=by have:=AD.typ;rw[UInt8.toNat_ofNat'];omega
   rw[e3] at q;exact q.put_typ) (C1.zero_ok.put_typ _ rfl) ((C0 _ An).trans HT.out.F) ((Fr.refl _ _ w4).setCell (.inl (by simp)) _)).drew
  have F3:=(HF.out.setCell (p:=⟨tw,179,none⟩) (.inl (by simp)) (.int .u8 H.typ)).drew;have M3:Hid ((w4.setCell ⟨tw,179,none⟩ (.int .u8 H.typ)).drew.cell? ⟨w1.heap.size,0,none⟩=some (.int .u64 _)/\(w4.setCell ⟨tw,179,none⟩ (.int .u8 H.typ)).drew.cell? ⟨w1.heap.size,1,none⟩=some (.int .i64 _)):=A0 ⟨(QD w4 ⟨tw,179,none⟩ ⟨w1.heap.size,0,none⟩ _ (λe=>by cases e)).trans HM.out.1,(QD w4 ⟨tw,179,none⟩ ⟨w1.heap.size,1,none⟩ _ (λe=>by cases e)).trans HM.out.2⟩;have G0:=A0 F3;clear BF F3 t0 tc tz HT HF HM;generalize (w4.setCell ⟨tw,179,none⟩ (.int .u8 H.typ)).drew=v0 at*;have HT:=A0 T3;have HM:=M3;clear T3 M3;have c:=HT.out.hdr 1 (str H.name) rfl;have HC:=A0 (Y4 HT.out.drew H.name AD.name);have va:=A0 A0q;go_wp2_with fail
  go_region_held3 (λw'=>w'.cell? ⟨tw,4,none⟩=some (str H.name)) (first|go_keep|assumption) (first|(go_at_call 109;refine(va.out _ _ _).mono ?_;rintro e wx ⟨rfl,rfl⟩)|(go_at_call 129;refine HC.out.mono ?_;rintro e v1 ⟨rfl,Ak,r1,AH,q1,T4,F4⟩;have c4:=T4.hdr 1 (str H.name) rfl))
  have G1:=A0 (G0.out.drew.trans (F4.wide (B':=w.heap.size) (S':=[tw,fb]) G0.out.size (λk hk _=>hk)));have AB:=A0 (And.intro (F4.cell HM.out.1 AC (zC HM.out.1)) (F4.cell HM.out.2 AC (zC HM.out.2)));have AA:=A0 T4;have AM:=A0 AH;have Q1:=A0 q1;clear AH q1;clear c c4 T4 F4 HC HM HT va;have HM:=AB;have HT:=AA;clear AB AA;have c:=HT.out.hdr 2 (str H.link) rfl;have HC:=A0 (A0Z HT.out.drew H.link AD.link);have va:=A0 A1a;go_wp2_with fail
  go_region_held3 (λw'=>w'.cell? ⟨tw,5,none⟩=some (str H.link)) (first|go_keep|assumption) (first|(go_at_call 110;refine(va.out _ _ _).mono ?_;rintro e wx ⟨rfl,rfl⟩)|(go_at_call 129;refine HC.out.mono ?_;rintro e v2 ⟨rfl,Aj,r2,AG,q2,T4,F4⟩;have c4:=T4.hdr 2 (str H.link) rfl))
  have G2:=A0 (G1.out.drew.trans (F4.wide (B':=w.heap.size) (S':=[tw,fb]) G1.out.size (λk hk _=>hk)));have AB:=A0 (And.intro (F4.cell HM.out.1 AC (zC HM.out.1)) (F4.cell HM.out.2 AC (zC HM.out.2)));have AA:=A0 T4;have AL:=A0 AG;have Q2:=A0 q2;clear AG q2;clear c c4 T4 F4 HC HM HT va;have HM:=AB;have HT:=AA;clear AB AA;have c:=HT.out.hdr 4 (.int .i64 H.mode) rfl;have HC:=A0 (A0X HT.out.drew H.mode AD.mode.1 AD.mode.2);have va:=A0 A0F;go_wp2_with fail
  go_region_held3 (λw'=>w'.cell? ⟨tw,7,none⟩=some (.int .i64 H.mode)) (first|go_keep|assumption) (first|(go_at_call 113;refine(va.out _ _ _).mono ?_;rintro e wx ⟨rfl,rfl⟩)|(go_at_call 130;refine HC.out.mono ?_;rintro e v3 ⟨rfl,r3,q3,T4,F4⟩;have c4:=T4.hdr 4 (.int .i64 H.mode) rfl))
  have G3:=A0 (G2.out.drew.trans (F4.wide (B':=w.heap.size) (S':=[tw,fb]) G2.out.size (λk hk _=>hk)));have AB:=A0 (And.intro (F4.cell HM.out.1 AC (zC HM.out.1)) (F4.cell HM.out.2 AC (zC HM.out.2)));have AA:=A0 T4;have Q3:=A0 q3;clear q3;clear c c4 T4 F4 HC HM HT va;have HM:=AB;have HT:=AA;clear AB AA;have c:=HT.out.hdr 5 (.int .i64 H.uid) rfl;have HC:=A0 (A1D HT.out.drew H.uid AD.uid.1 AD.uid.2);have va:=A0 A1g;go_wp2_with fail
  go_region_held3 (λw'=>w'.cell? ⟨tw,8,none⟩=some (.int .i64 H.uid)) (first|go_keep|assumption) (first|(go_at_call 114;refine(va.out _ _ _).mono ?_;rintro e wx ⟨rfl,rfl⟩)|(go_at_call 130;refine HC.out.mono ?_;rintro e v4 ⟨rfl,r4,q4,T4,F4⟩;have c4:=T4.hdr 5 (.int .i64 H.uid) rfl))
  have G4:=A0 (G3.out.drew.trans (F4.wide (B':=w.heap.size) (S':=[tw,fb]) G3.out.size (λk hk _=>hk)));have AB:=A0 (And.intro (F4.cell HM.out.1 AC (zC HM.out.1)) (F4.cell HM.out.2 AC (zC HM.out.2)));have AA:=A0 T4;have Q4:=A0 q4;clear q4;clear c c4 T4 F4 HC HM HT va;have HM:=AB;have HT:=AA;clear AB AA;have c:=HT.out.hdr 6 (.int .i64 H.gid) rfl;have HC:=A0 (A1C HT.out.drew H.gid AD.gid.1 AD.gid.2);have va:=A0 A1f;go_wp2_with fail
  go_region_held3 (λw'=>w'.cell? ⟨tw,9,none⟩=some (.int .i64 H.gid)) (first|go_keep|assumption) (first|(go_at_call 115;refine(va.out _ _ _).mono ?_;rintro e wx ⟨rfl,rfl⟩)|(go_at_call 130;refine HC.out.mono ?_;rintro e v5 ⟨rfl,r5,q5,T4,F4⟩;have c4:=T4.hdr 6 (.int .i64 H.gid) rfl))
  have G5:=A0 (G4.out.drew.trans (F4.wide (B':=w.heap.size) (S':=[tw,fb]) G4.out.size (λk hk _=>hk)));have AB:=A0 (And.intro (F4.cell HM.out.1 AC (zC HM.out.1)) (F4.cell HM.out.2 AC (zC HM.out.2)));have AA:=A0 T4;have Q5:=A0 q5;clear q5;clear c c4 T4 F4 HC HM HT va;have HM:=AB;have HT:=AA;clear AB AA;have c:=HT.out.hdr 3 (.int .i64 H.size) rfl;have HC:=A0 (A0Y HT.out.drew H.size AD.size.1 AD.size.2);have va:=A0 A0G;go_wp2_with fail
  go_region_held3 (λw'=>w'.cell? ⟨tw,6,none⟩=some (.int .i64 H.size)) (first|go_keep|assumption) (first|(go_at_call 116;refine(va.out _ _ _).mono ?_;rintro e wx ⟨rfl,rfl⟩)|(go_at_call 130;refine HC.out.mono ?_;rintro e v6 ⟨rfl,r6,q6,T4,F4⟩;have c4:=T4.hdr 3 (.int .i64 H.size) rfl))
  have G6:=A0 (G5.out.drew.trans (F4.wide (B':=w.heap.size) (S':=[tw,fb]) G5.out.size (λk hk _=>hk)));have AB:=A0 (And.intro (F4.cell HM.out.1 AC (zC HM.out.1)) (F4.cell HM.out.2 AC (zC HM.out.2)));have AA:=A0 T4;have Q6:=A0 q6;clear q6;clear c c4 T4 F4 HC HM HT va;have HM:=AB;have HT:=AA;clear AB AA;have va:=A0 V8;obtain⟨m1,m2⟩:=HM.out;have g1:=zC m1;go_wp2_with fail
  go_region_held3 (λw'=>w'.cell? ⟨w1.heap.size,0,none⟩=some (.int .u64 n1)/\w'.cell? ⟨w1.heap.size,1,none⟩=some (.int .i64 x1)) (first|go_keep|(refine And.intro ?_ ?_<;>assumption)) (first|(go_at_call 119;refine(va.out _ _ _).mono ?_;rintro e wx ⟨rfl,rfl⟩)|(go_at_call 103;refine(A0k v6.drew n1 x1 BD BE Ad.out).mono ?_;rintro e wu ⟨rfl,AV⟩;have m3:=(AV.cell (p:=⟨w1.heap.size,0,none⟩) g1).trans m1;have m4:=(AV.cell (p:=⟨w1.heap.size,1,none⟩) g1).trans m2;have HC:=A0 (λx=>Z6 (HT.out.drew.below AV) x);have HB:=A0 AV;clear AV)|(go_at_call 130;refine(HC.out _ (by have:=Ad.out;omega) (by have:=Ad.out;omega)).mono ?_;rintro e v7 ⟨rfl,r7,q7,T4,F4⟩;have m5:=(F4.cell m3 AC (zC m3));have m6:=(F4.cell m4 AC (zC m4))))
  have G7:=A0 ((G6.out.drew.trans (Fr.of_below HB.out w.heap.size [tw,fb])).trans (F4.wide (B':=w.heap.size) (S':=[tw,fb]) (zP G6.out.size HB.out.size) (λk hk _=>hk)));have AB:=A0 (And.intro m5 m6);have AA:=A0 T4;have Q7:=A0 q7;clear m1 m2 m3 m4 m5 m6 g1 q7 T4 F4 HC HB HM HT va;have HM:=AB;have HT:=AA;clear AB AA;go_wp2_with fail
  refine(vu.out _ _).mono ?_;rintro e wx ⟨rfl,rfl⟩;have c:=HT.out.hdr 7 (str H.user) rfl;have HC:=A0 (A0a HT.out.drew H.user AD.user);have va:=A0 A3T;go_wp2_with fail
  go_region_held3 (λw'=>w'.cell? ⟨tw,10,none⟩=some (str H.user)) (first|go_keep|assumption) (first|(go_at_call 111;refine(va.out _ _ _).mono ?_;rintro e wx ⟨rfl,rfl⟩)|(go_at_call 129;refine HC.out.mono ?_;rintro e v8 ⟨rfl,Al,r8,AI,q8,T4,F4⟩;have c4:=T4.hdr 7 (str H.user) rfl))
  have G8:=A0 (G7.out.drew.trans (F4.wide (B':=w.heap.size) (S':=[tw,fb]) G7.out.size (λk hk _=>hk)));have AB:=A0 (And.intro (F4.cell HM.out.1 AC (zC HM.out.1)) (F4.cell HM.out.2 AC (zC HM.out.2)));have AA:=A0 T4;have AO:=A0 AI;have Q8:=A0 q8;clear AI q8;clear c c4 T4 F4 HC HM HT va;have HM:=AB;have HT:=AA;clear AB AA;have c:=HT.out.hdr 8 (str H.group) rfl;have HC:=A0 (Z7 HT.out.drew H.group AD.group);have va:=A0 A1Z;go_wp2_with fail
  go_region_held3 (λw'=>w'.cell? ⟨tw,11,none⟩=some (str H.group)) (first|go_keep|assumption) (first|(go_at_call 112;refine(va.out _ _ _).mono ?_;rintro e wx ⟨rfl,rfl⟩)|(go_at_call 129;refine HC.out.mono ?_;rintro e v9 ⟨rfl,Ac,r9,AE,q9,T4,F4⟩;have c4:=T4.hdr 8 (str H.group) rfl))
  have G9:=A0 (G8.out.drew.trans (F4.wide (B':=w.heap.size) (S':=[tw,fb]) G8.out.size (λk hk _=>hk)));have AB:=A0 (And.intro (F4.cell HM.out.1 AC (zC HM.out.1)) (F4.cell HM.out.2 AC (zC HM.out.2)));have AA:=A0 T4;have AJ:=A0 AE;have Q9:=A0 q9;clear AE q9;clear c c4 T4 F4 HC HM HT va;have HM:=AB;have HT:=AA;clear AB AA;have c:=HT.out.hdr 15 (.int .i64 H.maj) rfl;have HC:=A0 (A2L HT.out.drew H.maj AD.maj.1 AD.maj.2);have va:=A0 A7I;go_wp2_with fail
  go_region_held3 (λw'=>w'.cell? ⟨tw,18,none⟩=some (.int .i64 H.maj)) (first|go_keep|assumption) (first|(go_at_call 117;refine(va.out _ _ _).mono ?_;rintro e wx ⟨rfl,rfl⟩)|(go_at_call 130;refine HC.out.mono ?_;rintro e BJ ⟨rfl,BH,As,T4,F4⟩;have c4:=T4.hdr 15 (.int .i64 H.maj) rfl))
  have Am:=A0 (G9.out.drew.trans (F4.wide (B':=w.heap.size) (S':=[tw,fb]) G9.out.size (λk hk _=>hk)));have AB:=A0 (And.intro (F4.cell HM.out.1 AC (zC HM.out.1)) (F4.cell HM.out.2 AC (zC HM.out.2)));have AA:=A0 T4;have Aw:=A0 As;clear As;clear c c4 T4 F4 HC HM HT va;have HM:=AB;have HT:=AA;clear AB AA;have c:=HT.out.hdr 16 (.int .i64 H.mnr) rfl;have HC:=A0 (A2M HT.out.drew H.mnr AD.mnr.1 AD.mnr.2);have va:=A0 A7J;go_wp2_with fail
  go_region_held3 (λw'=>w'.cell? ⟨tw,19,none⟩=some (.int .i64 H.mnr)) (first|go_keep|assumption) (first|(go_at_call 118;refine(va.out _ _ _).mono ?_;rintro e wx ⟨rfl,rfl⟩)|(go_at_call 130;refine HC.out.mono ?_;rintro e BL ⟨rfl,BI,Au,T4,F4⟩;have c4:=T4.hdr 16 (.int .i64 H.mnr) rfl))
  have Av:=A0 (Am.out.drew.trans (F4.wide (B':=w.heap.size) (S':=[tw,fb]) Am.out.size (λk hk _=>hk)));have AB:=A0 (And.intro (F4.cell HM.out.1 AC (zC HM.out.1)) (F4.cell HM.out.2 AC (zC HM.out.2)));have AA:=A0 T4;have Ax:=A0 Au;clear Au;clear c c4 T4 F4 HC HM HT va;have HM:=AB;have HT:=AA;clear AB AA;go_wp2_with fail
  go_ret
  refine⟨rfl,_,_,HT.out,⟨rfl,AM.out,AL.out,AO.out,AJ.out,rfl,rfl,rfl,rfl,?_,rfl,rfl,rfl⟩,?_,Av.out⟩
  ·rw[<-AT.out];try rfl
  ·intro a1 a2 a3 a4 a5 a6 a7 a8 a9 Ay Az
   exact(Ax.out Az).trans ((Aw.out Ay).trans ((Q9.out a4).trans ((Q8.out a3).trans ((Q7.out (by rw[<-AT.out] at a9;exact a9)).trans ((Q6.out a8).trans ((Q5.out a7).trans ((Q4.out a6).trans ((Q3.out a5).trans ((Q2.out a2).trans (Q1.out a1))))))))))
end Go.Proofs.YtkanmkcojlefbaaGreatDoor
