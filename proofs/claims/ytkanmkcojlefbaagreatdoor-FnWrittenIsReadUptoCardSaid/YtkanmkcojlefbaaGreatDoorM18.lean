/-
  Part of the proof; holds the texts Allow.
-/
import Derived.Test.YtkanmkcojlefbaaGreatDoorM17
set_option maxHeartbeats 8000000
set_option maxRecDepth 100000
set_option linter.unusedSimpArgs false
set_option linter.unusedVariables false
namespace Go.Proofs.YtkanmkcojlefbaaGreatDoor
open Go.RowKit
theorem B3r (G0:Nat) (E:Nat->Addr) (H:Hd) (R:KV) (AD:H.InT) (AP:R []=none) (w:World) (hg:Gl G0 E w) (hr:J4 w H.recs R w.heap.size) (AC:Bool) (Ay: (48<=H.typ/\H.typ<=55)\/(AC=true/\H=gHd H.recs H.fmt))
  (Av:T9 H.name=true->H.typ=49\/H.typ=50\/H.typ=53\/H.typ=55) (Ax:D1 H.typ=true\/0<=H.size) (Az:H.xattr= .map none)
  (AO:∀k v,R3 (H.st R).m R H.typ k=some v->F0 k v=true/\k.length<=2305843009213693952/\v.length<=2305843009213693952)
  (Aq:AC=false->∀k,R k=none) (Ar:AC=true->∃k,R k≠none) (AL:H.fmt=0\/H.fmt=2\/H.fmt=4\/H.fmt=8)
  (As:fm (S8 ((H.st R).u&& !AC) (H.st R).p ((H.st R).g&& !AC) (H.st R).q H.fmt).1 (S8 ((H.st R).u&& !AC) (H.st R).p ((H.st R).g&& !AC) (H.st R).q H.fmt).2.1 (S8 ((H.st R).u&& !AC) (H.st R).p ((H.st R).g&& !AC) (H.st R).q H.fmt).2.2≠0):
  Calls Tryz.prog 65 #[.agg H.cells.toArray] w (A1l G0 E (S8 ((H.st R).u&& !AC) (H.st R).p ((H.st R).g&& !AC) (H.st R).q H.fmt) (R3 (H.st R).m R H.typ) w):=by
 have Ak:=A0 Ay;have Ag:=A0 Av;have Ai:=A0 Ax;have Al:=A0 Az;have AG:=A0 AO;have Ac:=A0 Aq;have AS:=A0 Ar;have Ab:=A0 AL;have Af:=A0 As;clear Ay Av Ax Az AO Aq Ar AL As;have BH:=@run_makeMap Tryz.prog;have v7:=A0 A5Z;have vu:=A0 Z0;have vg:=A0 A8Y;have Am:=B0S w H R hg hr;have AI:=A2s w H;have Aj:=A0 Am;have AY:=A0 AI;clear Am AI hg hr;go_enter Tryz.func65,Tryz.ntmps65
 go_wp2_with fail
 refine(v7.out _ _).mono ?_;rintro e wx ⟨rfl,rfl⟩;go_wp2_with fail
 refine(vu.out _ _).mono ?_;rintro e wx ⟨rfl,rfl⟩;go_wp2_with fail
 refine(vg.out _ _).mono ?_;rintro e wx ⟨rfl,rfl⟩;go_wp2_with fail
 clear BH;change Code.wp _ _ _ _ (A1m w H)
 generalize A1m w H=w1 at*;simp only[Nat.add_assoc,Nat.reduceAdd];generalize An:w.heap.size=b0 at*;have BC:=A0 An;clear An;have HT:=Aj;have HB:=AY;clear Aj AY;have c:=HT.out.hd 1 (str H.name) rfl;have HC:=A0 (B4k _ E _ H R _ _ _ _ _ 0 _ HT.out.drew H.name [78,97,109,101] H0 100 AD.name (by decide) (by decide) (.inl rfl));have va:=A0 A0q;go_region_held3 (λw'=>w'.cell? ⟨b0,1,none⟩=some (str H.name)) (first|go_keep|assumption) (first|(go_at_call 109;refine(va.out _ _ _).mono ?_;rintro e wx ⟨rfl,rfl⟩)|(go_at_call 93;refine HC.out.mono ?_;rintro e v1 ⟨rfl,hA,hB⟩;have c4:=hA.hd 1 (str H.name) rfl))
 have AB:=A0 hA;have AA:=A0 (HB.out.trans ((zD _ _).drew.trans hB));clear c c4 hA hB HC va HT HB;have HT:=AB;have HB:=AA;clear AB AA;have c:=HT.out.hd 2 (str H.link) rfl;have HC:=A0 (B4k _ E _ H R _ _ _ _ _ 2 _ HT.out.drew H.link [76,105,110,107,110,97,109,101] I3 100 AD.link (by decide) (by decide) (.inr (.inl rfl)));have va:=A0 A1a;go_wp2_with fail
 go_region_held3 (λw'=>w'.cell? ⟨b0,2,none⟩=some (str H.link)) (first|go_keep|assumption) (first|(go_at_call 110;refine(va.out _ _ _).mono ?_;rintro e wx ⟨rfl,rfl⟩)|(go_at_call 93;refine HC.out.mono ?_;rintro e v2 ⟨rfl,hA,hB⟩;have c4:=hA.hd 2 (str H.link) rfl))
 have AB:=A0 hA;have AA:=A0 (HB.out.trans ((zD _ _).drew.trans hB));clear c c4 hA hB HC va HT HB;have HT:=AB;have HB:=AA;clear AB AA;have c:=HT.out.hd 7 (str H.user) rfl;have HC:=A0 (B4k _ E _ H R _ _ _ _ _ 4 _ HT.out.drew H.user [85,110,97,109,101] F8 32 AD.user (by decide) (by decide) (.inr (.inr (.inl rfl))));have va:=A0 A3T;go_wp2_with fail
 go_region_held3 (λw'=>w'.cell? ⟨b0,7,none⟩=some (str H.user)) (first|go_keep|assumption) (first|(go_at_call 111;refine(va.out _ _ _).mono ?_;rintro e wx ⟨rfl,rfl⟩)|(go_at_call 93;refine HC.out.mono ?_;rintro e v3 ⟨rfl,hA,hB⟩;have c4:=hA.hd 7 (str H.user) rfl))
 have AB:=A0 hA;have AA:=A0 (HB.out.trans ((zD _ _).drew.trans hB));clear c c4 hA hB HC va HT HB;have HT:=AB;have HB:=AA;clear AB AA;have c:=HT.out.hd 8 (str H.group) rfl;have HC:=A0 (B4k _ E _ H R _ _ _ _ _ 6 _ HT.out.drew H.group [71,110,97,109,101] F7 32 AD.group (by decide) (by decide) (.inr (.inr (.inr rfl))));have va:=A0 A1Z;go_wp2_with fail
 go_region_held3 (λw'=>w'.cell? ⟨b0,8,none⟩=some (str H.group)) (first|go_keep|assumption) (first|(go_at_call 112;refine(va.out _ _ _).mono ?_;rintro e wx ⟨rfl,rfl⟩)|(go_at_call 93;refine HC.out.mono ?_;rintro e v4 ⟨rfl,hA,hB⟩;have c4:=hA.hd 8 (str H.group) rfl))
 have AB:=A0 hA;have AA:=A0 (HB.out.trans ((zD _ _).drew.trans hB));clear c c4 hA hB HC va HT HB;have HT:=AB;have HB:=AA;clear AB AA;have c:=HT.out.hd 4 (.int .i64 H.mode) rfl;have HC:=A0 (A3u _ E _ H R _ _ _ _ _ 8 _ HT.out.drew H.mode 8 [77,111,100,101] AD.mode (.inl rfl) (by decide) (by decide) AP);have va:=A0 A0F;go_wp2_with fail
 go_region_held3 (λw'=>w'.cell? ⟨b0,4,none⟩=some (.int .i64 H.mode)) (first|go_keep|assumption) (first|(go_at_call 113;refine(va.out _ _ _).mono ?_;rintro e wx ⟨rfl,rfl⟩)|(go_at_call 98;refine HC.out.mono ?_;rintro e v5 ⟨rfl,hA,hB⟩;have c4:=hA.hd 4 (.int .i64 H.mode) rfl))
 have AB:=A0 hA;have AA:=A0 (HB.out.trans ((zD _ _).drew.trans hB));clear c c4 hA hB HC va HT HB;have HT:=AB;have HB:=AA;clear AB AA;have c:=HT.out.hd 5 (.int .i64 H.uid) rfl;have HC:=A0 (A5b _ E _ H R _ _ _ _ _ 10 _ HT.out.drew H.uid 8 [85,105,100] AD.uid (.inl rfl) (by decide) (by decide) V2 (by decide) rfl);have va:=A0 A1g;go_wp2_with fail
 go_region_held3 (λw'=>w'.cell? ⟨b0,5,none⟩=some (.int .i64 H.uid)) (first|go_keep|assumption) (first|(go_at_call 114;refine(va.out _ _ _).mono ?_;rintro e wx ⟨rfl,rfl⟩)|(go_at_call 98;refine HC.out.mono ?_;rintro e v6 ⟨rfl,hA,hB⟩;have c4:=hA.hd 5 (.int .i64 H.uid) rfl))
 have AB:=A0 hA;have AA:=A0 (HB.out.trans ((zD _ _).drew.trans hB));clear c c4 hA hB HC va HT HB;have HT:=AB;have HB:=AA;clear AB AA;have c:=HT.out.hd 6 (.int .i64 H.gid) rfl;have HC:=A0 (A5b _ E _ H R _ _ _ _ _ 12 _ HT.out.drew H.gid 8 [71,105,100] AD.gid (.inl rfl) (by decide) (by decide) V1 (by decide) rfl);have va:=A0 A1f;go_wp2_with fail
 go_region_held3 (λw'=>w'.cell? ⟨b0,6,none⟩=some (.int .i64 H.gid)) (first|go_keep|assumption) (first|(go_at_call 115;refine(va.out _ _ _).mono ?_;rintro e wx ⟨rfl,rfl⟩)|(go_at_call 98;refine HC.out.mono ?_;rintro e v7 ⟨rfl,hA,hB⟩;have c4:=hA.hd 6 (.int .i64 H.gid) rfl))
 have AB:=A0 hA;have AA:=A0 (HB.out.trans ((zD _ _).drew.trans hB));clear c c4 hA hB HC va HT HB;have HT:=AB;have HB:=AA;clear AB AA;have c:=HT.out.hd 3 (.int .i64 H.size) rfl;have HC:=A0 (A5b _ E _ H R _ _ _ _ _ 14 _ HT.out.drew H.size 12 [83,105,122,101] AD.size (.inr rfl) (by decide) (by decide) N9 (by decide) rfl);have va:=A0 A0G;go_wp2_with fail
 go_region_held3 (λw'=>w'.cell? ⟨b0,3,none⟩=some (.int .i64 H.size)) (first|go_keep|assumption) (first|(go_at_call 116;refine(va.out _ _ _).mono ?_;rintro e wx ⟨rfl,rfl⟩)|(go_at_call 98;refine HC.out.mono ?_;rintro e v8 ⟨rfl,hA,hB⟩;have c4:=hA.hd 3 (.int .i64 H.size) rfl))
 have AB:=A0 hA;have AA:=A0 (HB.out.trans ((zD _ _).drew.trans hB));clear c c4 hA hB HC va HT HB;have HT:=AB;have HB:=AA;clear AB AA;have c:=HT.out.hd 15 (.int .i64 H.maj) rfl;have HC:=A0 (A3u _ E _ H R _ _ _ _ _ 16 _ HT.out.drew H.maj 8 [68,101,118,109,97,106,111,114] AD.maj (.inl rfl) (by decide) (by decide) AP);have va:=A0 A7I;go_wp2_with fail
 go_region_held3 (λw'=>w'.cell? ⟨b0,15,none⟩=some (.int .i64 H.maj)) (first|go_keep|assumption) (first|(go_at_call 117;refine(va.out _ _ _).mono ?_;rintro e wx ⟨rfl,rfl⟩)|(go_at_call 98;refine HC.out.mono ?_;rintro e v9 ⟨rfl,hA,hB⟩;have c4:=hA.hd 15 (.int .i64 H.maj) rfl))
 have AB:=A0 hA;have AA:=A0 (HB.out.trans ((zD _ _).drew.trans hB));clear c c4 hA hB HC va HT HB;have HT:=AB;have HB:=AA;clear AB AA;have c:=HT.out.hd 16 (.int .i64 H.mnr) rfl;have HC:=A0 (A3u _ E _ H R _ _ _ _ _ 18 _ HT.out.drew H.mnr 8 [68,101,118,109,105,110,111,114] AD.mnr (.inl rfl) (by decide) (by decide) AP);have va:=A0 A7J;go_wp2_with fail
 go_region_held3 (λw'=>w'.cell? ⟨b0,16,none⟩=some (.int .i64 H.mnr)) (first|go_keep|assumption) (first|(go_at_call 118;refine(va.out _ _ _).mono ?_;rintro e wx ⟨rfl,rfl⟩)|(go_at_call 98;refine HC.out.mono ?_;rintro e BP ⟨rfl,hA,hB⟩;have c4:=hA.hd 16 (.int .i64 H.mnr) rfl))
 have AB:=A0 hA;have AA:=A0 (HB.out.trans ((zD _ _).drew.trans hB));clear c c4 hA hB HC va HT HB;have HT:=AB;have HB:=AA;clear AB AA;have c:=HT.out.hd 9 (.int .u64 H.mw) rfl;have cc:=HT.out.hd 10 (.int .i64 H.mx) rfl;have HC:=A0 (B6M _ E _ H R _ _ _ _ _ 20 _ HT.out.drew H.mw H.mx [77,111,100,84,105,109,101] H6 (by decide) (by decide) AD.mw.1 AD.mw.2 AD.mx (.inl rfl));have va:=A0 V8;go_wp2_with fail
 go_region_held3 (λw'=>w'.cell? ⟨b0,9,none⟩=some (.int .u64 H.mw)/\w'.cell? ⟨b0,10,none⟩=some (.int .i64 H.mx)) (first|go_keep|(refine And.intro ?_ ?_<;>assumption)) (first|(go_at_call 119;refine(va.out _ _ _).mono ?_;rintro e wx ⟨rfl,rfl⟩)|(go_at_call 102;refine HC.out.mono ?_;rintro e BQ ⟨rfl,hA,hB⟩;have c4:=hA.hd 9 (.int .u64 H.mw) rfl;have c5:=hA.hd 10 (.int .i64 H.mx) rfl))
 have AB:=A0 hA;have AA:=A0 (HB.out.trans ((zD _ _).drew.trans hB));clear c c4 hA hB HC va HT HB cc c5;have HT:=AB;have HB:=AA;clear AB AA;have c:=HT.out.hd 11 (.int .u64 H.aw) rfl;have cc:=HT.out.hd 12 (.int .i64 H.ax) rfl;have HC:=A0 (B6M _ E _ H R _ _ _ _ _ 22 _ HT.out.drew H.aw H.ax [65,99,99,101,115,115,84,105,109,101] J5 (by decide) (by decide) AD.aw.1 AD.aw.2 AD.ax (.inr (.inl rfl)));have va:=A0 A6r;go_wp2_with fail
 go_region_held3 (λw'=>w'.cell? ⟨b0,11,none⟩=some (.int .u64 H.aw)/\w'.cell? ⟨b0,12,none⟩=some (.int .i64 H.ax)) (first|go_keep|(refine And.intro ?_ ?_<;>assumption)) (first|(go_at_call 120;refine(va.out _ _ _).mono ?_;rintro e wx ⟨rfl,rfl⟩)|(go_at_call 102;refine HC.out.mono ?_;rintro e BR ⟨rfl,hA,hB⟩;have c4:=hA.hd 11 (.int .u64 H.aw) rfl;have c5:=hA.hd 12 (.int .i64 H.ax) rfl))
 have AB:=A0 hA;have AA:=A0 (HB.out.trans ((zD _ _).drew.trans hB));clear c c4 hA hB HC va HT HB cc c5;have HT:=AB;have HB:=AA;clear AB AA;have c:=HT.out.hd 13 (.int .u64 H.cw) rfl;have cc:=HT.out.hd 14 (.int .i64 H.cx) rfl;have HC:=A0 (B6M _ E _ H R _ _ _ _ _ 24 _ HT.out.drew H.cw H.cx [67,104,97,110,103,101,84,105,109,101] J6 (by decide) (by decide) AD.cw.1 AD.cw.2 AD.cx (.inr (.inr rfl)));have va:=A0 A6s;go_wp2_with fail
 go_region_held3 (λw'=>w'.cell? ⟨b0,13,none⟩=some (.int .u64 H.cw)/\w'.cell? ⟨b0,14,none⟩=some (.int .i64 H.cx)) (first|go_keep|(refine And.intro ?_ ?_<;>assumption)) (first|(go_at_call 121;refine(va.out _ _ _).mono ?_;rintro e wx ⟨rfl,rfl⟩)|(go_at_call 102;refine HC.out.mono ?_;rintro e AE ⟨rfl,hA,hB⟩;have c4:=hA.hd 13 (.int .u64 H.cw) rfl;have c5:=hA.hd 14 (.int .i64 H.cx) rfl))
 have AB:=A0 hA;have AA:=A0 (HB.out.trans ((zD _ _).drew.trans hB));clear c c4 hA hB HC va HT HB cc c5;have HT:=AB;have HB:=AA;clear AB AA;have hA:AFS G0 E b0 H R (H.st R) 26 AE:=HT.out;have HA:=A0 hA;have BI:=AD.name;generalize BE:H.st R=S at*;clear hA HT BE AP AD v7 vu vg;have ht:=HA.out.hd 0 (.int .u8 H.typ) rfl;have AQ:=HA.out.hd 1 (str H.name) rfl;have AM:=A4w AE H.name (by omega);go_upto_block 0 with fail
 go_cut [4] (λs4 wx=>s4= .nilIface/\∃S2:St,AFS G0 E b0 H R S2 26 wx/\Below b0 w wx/\S.m=S2.m/\S.p=S2.p/\S.q=S2.q/\(S.u&& !AC)=(S2.u&& !AC)/\(S.g&& !AC)=(S2.g&& !AC))
 case first=>
  rcases Ak.out with ⟨BL,BM⟩|⟨AW,hH⟩
  ·cases hs:T9 H.name
   ·rw[hs] at AM
    go_wp2_with (go_at_call 63;refine AM.mono ?_;rintro e w' ⟨rfl,rfl⟩)
    all_goals (go_meet;exact⟨rfl,S,HA.out,HB.out,rfl,rfl,rfl,rfl,rfl⟩)
   ·have BJ:=Ag.out hs
    have q1: (H.typ==48)=false:=by rw[zG];omega
    have q2: (H.typ==51)=false:=by rw[zG];omega
    have q3: (H.typ==52)=false:=by rw[zG];omega
    have q4: (H.typ==54)=false:=by rw[zG];omega
    clear AM BJ;go_wp2_with fail
    all_goals (go_meet;exact⟨rfl,S,HA.out,HB.out,rfl,rfl,rfl,rfl,rfl⟩)
  ·clear ht AQ AM
   obtain⟨rv,Au⟩:∃rv,rv=H.recs:=⟨_,rfl⟩;obtain⟨f,hf⟩:∃f,f=H.fmt:=⟨_,rfl⟩;rw[<-Au,<-hf] at hH;have BO:=A0 (HA.out.gl);clear Au hf Ak Ag Ai Al AG Ac Ab Af BI
   obtain⟨rb,rfl⟩:∃rb,rv= .map (some rb):=by
    have hv:H.recs=rv:=by rw[hH];rfl
    rcases HA.out.rm with ⟨h,hR⟩|⟨rb,n,h,-⟩
    ·obtain⟨k,hk⟩:=AS.out AW
     exact absurd (hR k) hk
    ·exact⟨rb,hv.symm.trans h⟩
   clear AS;subst hH;have e3: (gHd (.map (some rb)) f).typ=103:=rfl;have ht:=HA.out.hd 0 (.int .u8 103) rfl;have AQ:=HA.out.hd 1 (str []) rfl;have hx:=HA.out.hd 17 (.map none) rfl;have hr:=HA.out.hd 18 (.map (some rb)) rfl;have BF:=HA.out.hd 19 (.int .i64 f) rfl;have Ao:Below AE.heap.size AE (AE.alloc (.cells Hd0.cells.toArray 130)):=(zD _ _).alloc (zB _) _;obtain⟨w1,Aw,Ap,AJ⟩:=B9s (gHd (.map (some rb)) f) rfl rfl rfl (zI AE (.cells Hd0.cells.toArray 130));have AU:Below AE.heap.size AE w1:=AJ _ _ Ao (zB _);have AT:=AF.below HA.out AU;have Ah:=A0 Aw;have AZ:=A0 (B9T rb f);have Ad:=A0 (B0E w1 b0 0 (gHd (.map (some rb)) f) (At.of_heap AT.hH (λj u hj=>by rw[Nat.zero_add,List.getElem?_toArray];exact hj)));have Ae:=A0 (B0E w1 AE.heap.size 0 (gHd (.map (some rb)) f) (At.of_heap Ap (λj u hj=>by rw[Nat.zero_add,List.getElem?_toArray];exact hj)));have Aa:=A0 (C1E (.map (some rb)) f w1);have AX:=A0 AT;have AR:=A0 AU;clear Ao Aw Ap AJ AU AT;go_wp2_with (first|(refine A1k rfl 130 _ rfl _ rfl _ AZ.out ?_)|(refine E6 rfl 130 _ _ rfl ⟨AE.heap.size,0,none⟩ rfl _ rfl w1 Ah.out ?_)|(refine D3 rfl 130 _ rfl ⟨b0,0,none⟩ rfl _ Ad.out ?_)|(refine D3 rfl 130 _ rfl ⟨AE.heap.size,0,none⟩ rfl _ Ae.out ?_)|fail)
   refine Aa.out.mono ?_;rintro e w2 ⟨rfl,AV⟩;have AH:=AF.below AX.out AV;have HM:=A0 (R6 w2 (b0+1) S.u S.p S.g false true false AH.fF);have BA:=A0 AH;have AA:=A0 (AR.out.trans (AV.mono AR.out.size));clear AH AV ht AQ hx hr BF Ah AZ Ad Ae Aa AX AR;go_wp2_with fail
   refine HM.out.mono ?_;rintro e w3 ⟨rfl,rfl⟩;go_wp2_with fail
   go_meet
   have hl:=HA.out.lt;exact⟨rfl,⟨false,S.p,false,S.q,S.m⟩,BA.out.setF false S.p false,HB.out.trans ((AA.out.mono (by omega)).setCell (p:=⟨b0+1,0,none⟩) (by simp) _),rfl,by simp,rfl,by rw[AW];simp,by rw[AW];simp⟩
 case rest=>
  obtain⟨rfl,S2,AH,BD,e1,e2,e3,e4,e5⟩:=hcut;clear AQ AM ht;rename_i K hK;refine hK _ _ ?_;have HV:=AG.out;have HN:=Af.out;rw[e1] at HV;rw[e2,e3,e4,e5] at HN;rw[e1,e2,e3,e4,e5];exact A7R G0 E b0 H R S2 AC w wc BC.out Ai.out Al.out HV Ac.out AS.out Ab.out HN AH BD
end Go.Proofs.YtkanmkcojlefbaaGreatDoor
