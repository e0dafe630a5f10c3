/-
  Part of the proof; holds the texts VStr.
-/
import Derived.Test.YtkanmkcojlefbaaGreatDoorM06
import Derived.Test.YtkanmkcojlefbaaGreatDoorM07
set_option maxRecDepth 100000
set_option linter.unusedSimpArgs false
set_option linter.unusedVariables false
namespace Go.Proofs.YtkanmkcojlefbaaGreatDoor
open Go.RowKit
def I1 (g:Bool) (s:List UInt8) (sz:Nat) (key:List UInt8):Bool:=if decide (0∈s)||(decide (sz<s.length)&& !(decide (key=H0)||decide (key=I3))) then false else g
def M6 (u:Bool) (s:List UInt8) (sz:Nat) (key:List UInt8):Bool:=if !D6 s||decide (sz<s.length) then(if decide (key=H0)&&J2 s then u else false) else u
def L8 (m:KV) (s:List UInt8) (sz:Nat) (key:List UInt8):KV:=if !D6 s||decide (sz<s.length) then O2 m key s else m
def X7 (m R:KV) (s:List UInt8) (sz:Nat) (key:List UInt8):KV:=if(!D6 s||decide (sz<s.length))||decide (R key=some s) then O2 m key s else m
theorem A2k (m:KV) (k v:List UInt8):O2 (O2 m k v) k v=O2 m k v:=by
 funext x;unfold O2;split<;>rfl
theorem A1E (m R:KV) (s:List UInt8) (sz:Nat) (key:List UInt8) (h:R key=some s):O2 (L8 m s sz key) key s=X7 m R s sz key:=by
 unfold X7 L8;rw[zY h,Bool.or_true,if_pos rfl];split
 ·exact A2k ..
 ·rfl
theorem A0Q (m R:KV) (s:List UInt8) (sz:Nat) (key:List UInt8) (h:R key≠some s):L8 m s sz key=X7 m R s sz key:=by
 unfold X7 L8;rw[zV h,Bool.or_false]
def S5 (G0:Nat) (E:Nat->Addr) (b0:Nat) (H:Hd) (R:KV) (u p g q:Bool) (m:KV) (n:Nat) (w wx:World):Prop:=AF G0 E b0 H R u p g q m n wx/\Below b0 w wx
theorem AF.mono {G0:Nat} {E:Nat->Addr} {b0:Nat} {H:Hd} {R:KV} {u p g q:Bool} {m:KV} {n n':Nat} {w:World} (h:AF G0 E b0 H R u p g q m n w) (hn:n<=n'):AF G0 E b0 H R u p g q m n' w:= {h with mp:=h.mp.mono hn}
theorem AF.cells {G0:Nat} {E:Nat->Addr} {b0:Nat} {H:Hd} {R:KV} {u p g q:Bool} {m:KV} {n:Nat} {w:World} (h:AF G0 E b0 H R u p g q m n w):
  (∃x,w.cell? ⟨b0+4,0,none⟩=some (.string x))/\(∃x,w.cell? ⟨b0+5,0,none⟩=some (.string x))/\(∃x,w.cell? ⟨b0+6,0,none⟩=some (.string x))/\w.frozen? ⟨b0+4,0,none⟩=false/\w.frozen? ⟨b0+5,0,none⟩=false/\w.frozen? ⟨b0+6,0,none⟩=false/\
  w.cell? ⟨b0+2,0,none⟩=some (.map (some (b0+3)))/\w.cell? ⟨b0,18,none⟩=some H.recs:=by
 obtain⟨x1,h1⟩:=h.s1;obtain⟨x2,h2⟩:=h.s2;obtain⟨x3,h3⟩:=h.s3;exact⟨⟨x1,by rw[zA h1];rfl⟩,⟨x2,by rw[zA h2];rfl⟩,⟨x3,by rw[zA h3];rfl⟩,zE h1 0,zE h2 0,zE h3 0,by rw[zA h.fM];rfl,by rw[zA h.hH];rfl⟩
theorem C8 (b0:Nat) (w:World) (j:Nat) (v:Value):Below b0 w (w.setCell ⟨b0+j,0,none⟩ v):=(zD _ w).setCell (p:=⟨b0+j,0,none⟩) (by simp) v
def A0R (G0:Nat) (E:Nat->Addr) (b0:Nat) (H:Hd) (R:KV) (u p g q:Bool) (m:KV) (n:Nat) (w:World) (e:Ending) (w':World):Prop:=e= .returned (.tuple #[])/\S5 G0 E b0 H R u p g q m n w w'
theorem A5f (G0:Nat) (E:Nat->Addr) (b0:Nat) (H:Hd) (R:KV) (u p g q:Bool) (m:KV) (n:Nat) (w:World) (h:AF G0 E b0 H R u p g q m n w) (s nm:List UInt8) (sz:Nat) (hs:s.length<=1048576) (Ab:nm.length<=20) (hn:n<1000) (ht:sz<s.length) (AY:∀w',Calls Tryz.prog 97 #[str s] w' (U8 s w')):
  Calls Tryz.prog 93 #[str s,.int .i64 sz,str nm,str [112,97,116,104],.pointer (some ⟨b0+6,0,none⟩),.pointer (some ⟨b0+1,0,none⟩),.pointer (some ⟨b0+4,0,none⟩),.pointer (some ⟨b0+5,0,none⟩),.pointer (some ⟨b0+2,0,none⟩),.pointer (some ⟨b0,0,none⟩)] w
   (A0R G0 E b0 H R (M6 u s sz [112,97,116,104]) p (I1 g s sz [112,97,116,104]) q (X7 m R s sz [112,97,116,104]) (n+2) w):=by
 have AS:=P0 s w (by omega);have i1: (sz:Int)<s.length:=by omega
 have eP:decide ([112,97,116,104]=H0)=true:=zY rfl;have eL:decide ([112,97,116,104]=I3)=false:=zV (by decide);have eT:decide (sz<s.length)=true:=by simp;omega
 have eG:I1 g s sz [112,97,116,104]=if decide (0∈s) then false else g:=by unfold I1;rw[eP,eL,eT];simp
 have eU:M6 u s sz [112,97,116,104]=if true then(if J2 s then u else false) else u:=by unfold M6;rw[eP,eT];simp
 have eM:L8 m s sz [112,97,116,104]=if true then O2 m [112,97,116,104] s else m:=by unfold L8;rw[eT];simp
 have EG:=A0 eG;have EU:=A0 eU;have EM:=A0 eM;have HH:=A0 h;have HS:=A0 AY;clear h AY eP eL eT eG eU eM;go_enter Tryz.func93,Tryz.ntmps93
 go_upto_region 2 with fail
 go_cut [40] (λs40 wx=>s40= .bool (decide (0∈s))/\wx=w)
 case first=>
  go_wp2_with (go_at_call 94;refine AS.mono ?_;rintro e w' ⟨rfl,rfl⟩)
  all_goals (go_meet;exact⟨by simp[*],rfl⟩)
 case rest=>
  obtain⟨rfl,rfl⟩:=hcut;have ⟨⟨x4,c4⟩,⟨x5,c5⟩,⟨x6,c6⟩,z4,z5,z6,c2,cR⟩:=HH.out.cells;have h1:=HH.out.setS3 ((⟨#[71,78,85,32,99,97,110,110,111,116,32,101,110,99,111,100,101,32]⟩:ByteArray)++⟨nm.toArray⟩);have hm:=I5 _ (b0+1) u p g h1.fF 8 u p false (.inr (.inr ⟨rfl,rfl,rfl,rfl⟩));have H1:=A0 h1;clear h1;go_upto_if 40 with fail
  go_cut [] (λwx=>S5 G0 E b0 H R u p (I1 g s sz [112,97,116,104]) q m n wc wx)
  case first=>
   go_wp2_with fail
   ·refine hm.mono ?_
    rintro e w' ⟨rfl,rfl⟩;go_wp2_with fail
    go_meet
    refine⟨?_,(C8 b0 _ 6 _).trans (C8 b0 _ 1 _)⟩;have q0:I1 g s sz [112,97,116,104]=false:=by rw[EG.out];simp[*]
    rw[q0];exact H1.out.setF u p false
   ·go_meet
    refine⟨?_,zD _ _⟩;have q0:I1 g s sz [112,97,116,104]=g:=by rw[EG.out];simp[*]
    rw[q0];exact HH.out
  case rest=>
   obtain⟨HA,HB⟩:=hcut;obtain⟨wo,rfl⟩:∃wo:World,wo=wc:=⟨_,rfl⟩;have AQ:=A0 HA;have AV:=A0 HB;have AO:=J8 s wo (by omega);clear HA HB c4 c5 c6 z4 z5 z6 c2 cR hm H1;go_upto_region 5 with fail
   go_cut [49] (λs49 wx=>s49= .bool (true)/\S5 G0 E b0 H R u p (I1 g s sz [112,97,116,104]) q m n wo wx)
   case first=>
    go_wp2_with (go_at_call 96;refine AO.mono ?_;rintro e w' ⟨rfl,hb⟩)
    all_goals (go_meet;exact⟨by simp[*],AQ.out.below hb,hb.mono (by have:=AQ.out.lt;omega)⟩)
   case rest=>
    obtain⟨rfl,HA,HB⟩:=hcut;have AL:=A0 HA;have AR:=A0 (AV.out.trans HB);clear HA HB AO AQ AV;have AA:=HS.out wc;go_upto_if 49 with fail
    go_cut [] (λwx=>S5 G0 E b0 H R (M6 u s sz [112,97,116,104]) p (I1 g s sz [112,97,116,104]) q (L8 m s sz [112,97,116,104]) (n+1) wc wx)
    case first=>
     go_wp2_with fail
     refine AA.mono ?_;rintro e w3 ⟨rfl,AP⟩;have AG:=AL.out.below AP;have ⟨⟨x4,c4⟩,⟨x5,c5⟩,⟨x6,c6⟩,z4,z5,z6,c2,cR⟩:=AG.cells;have AU:=A0 (AP.mono (show b0<=wc.heap.size by have:=AL.out.lt;omega));have AD:=A0 AG;by_cases AX:J2 s=true
     ·rw[if_pos AX]
      obtain⟨w5,AW,AB,AC⟩:=AG.put (by omega) [112,97,116,104] s (by decide) (by omega);have AI:=A0 AB;have AJ:=A0 AC;clear AG AB AC AA AP;go_wp2_with fail
      go_meet
      refine⟨?_,AU.out.trans AJ.out⟩;have q1:M6 u s sz [112,97,116,104]=u:=by rw[EU.out];simp[*]
      have q2:L8 m s sz [112,97,116,104]=O2 m [112,97,116,104] s:=by rw[EM.out];simp[*]
      rw[q1,q2];exact AI.out
     ·rw[if_neg AX]
      have h4:=AG.setS1 ((⟨#[85,83,84,65,82,32,99,97,110,110,111,116,32,101,110,99,111,100,101,32]⟩:ByteArray)++⟨nm.toArray⟩);have hm:=I5 _ (b0+1) u p (I1 g s sz [112,97,116,104]) h4.fF 2 false p (I1 g s sz [112,97,116,104]) (.inl ⟨rfl,rfl,rfl,rfl⟩);have h5:=h4.setF false p (I1 g s sz [112,97,116,104]);have AZ:=h5.cells.2.2.2.2.2.2.1;obtain⟨w5,AW,AB,AC⟩:=h5.put (by omega) [112,97,116,104] s (by decide) (by omega);have AI:=A0 AB;have AJ:=A0 AC;clear AG h4 h5 AB AC AA AP;go_wp2_with fail
      refine hm.mono ?_;rintro e w6 ⟨rfl,rfl⟩;go_wp2_with fail
      go_meet
      refine⟨?_,AU.out.trans (((C8 b0 _ 4 _).trans (C8 b0 _ 1 _)).trans AJ.out)⟩;have q1:M6 u s sz [112,97,116,104]=false:=by rw[EU.out];simp[*]
      have q2:L8 m s sz [112,97,116,104]=O2 m [112,97,116,104] s:=by rw[EM.out];simp[*]
      rw[q1,q2];exact AI.out
    case rest=>
     obtain⟨HA,HB⟩:=hcut;obtain⟨wp,rfl⟩:∃wp:World,wp=wc:=⟨_,rfl⟩;have AD:=A0 HA;have AE:=A0 (AR.out.trans HB);have ⟨⟨x4,c4⟩,⟨x5,c5⟩,⟨x6,c6⟩,z4,z5,z6,c2,cR⟩:=HA.cells;have AH:=HA.lookR [112,97,116,104] (by decide);clear c4 c5 c6 z4 z5 z6 HB AA;by_cases hR:R [112,97,116,104]=some s
     ·rw[hR] at AH
      simp only[Option.getD_some,Option.isSome_some] at AH;obtain⟨w5,AW,AB,AC⟩:=HA.put (by omega) [112,97,116,104] s (by decide) (by omega);have AI:=A0 AB;have AJ:=A0 AC;have ER:=A0 hR;clear HA AB AC hR;go_wp2_with fail
      go_end0
      refine⟨rfl,?_,AE.out.trans AJ.out⟩;have:=AI.out;rw[A1E m R s sz [112,97,116,104] ER.out] at this;exact this
     ·have AT:=A0 (A0Q m R s sz [112,97,116,104] hR)
      clear HA;cases AM:R [112,97,116,104] with
      |none=>
       rw[AM] at AH;simp only[Option.getD_none,Option.isSome_none] at AH;clear hR AM;go_wp2_with fail
       go_end0
       refine⟨rfl,?_,AE.out⟩;rw[<-AT.out];exact AD.out.mono (by omega)
      |some v=>
       rw[AM] at AH;simp only[Option.getD_some,Option.isSome_some] at AH;have Aa: (v==s)=false:=by rw[zG];exact λe=>hR (by rw[AM,e])
       clear hR AM;go_wp2_with fail
       go_end0
       refine⟨rfl,?_,AE.out⟩;rw[<-AT.out];exact AD.out.mono (by omega)
theorem A5e (G0:Nat) (E:Nat->Addr) (b0:Nat) (H:Hd) (R:KV) (u p g q:Bool) (m:KV) (n:Nat) (w:World) (h:AF G0 E b0 H R u p g q m n w) (s nm:List UInt8) (sz:Nat) (hs:s.length<=1048576) (Ab:nm.length<=20) (hn:n<1000) (ht:¬sz<s.length) (AY:∀w',Calls Tryz.prog 97 #[str s] w' (U8 s w')):
  Calls Tryz.prog 93 #[str s,.int .i64 sz,str nm,str [112,97,116,104],.pointer (some ⟨b0+6,0,none⟩),.pointer (some ⟨b0+1,0,none⟩),.pointer (some ⟨b0+4,0,none⟩),.pointer (some ⟨b0+5,0,none⟩),.pointer (some ⟨b0+2,0,none⟩),.pointer (some ⟨b0,0,none⟩)] w
   (A0R G0 E b0 H R (M6 u s sz [112,97,116,104]) p (I1 g s sz [112,97,116,104]) q (X7 m R s sz [112,97,116,104]) (n+2) w):=by
 have AS:=P0 s w (by omega);have i1:¬(sz:Int)<s.length:=by omega
 have eP:decide ([112,97,116,104]=H0)=true:=zY rfl;have eL:decide ([112,97,116,104]=I3)=false:=zV (by decide);have eT:decide (sz<s.length)=false:=by simp;omega
 have eG:I1 g s sz [112,97,116,104]=if decide (0∈s) then false else g:=by unfold I1;rw[eP,eL,eT];simp
 have eU:M6 u s sz [112,97,116,104]=if !D6 s then(if J2 s then u else false) else u:=by unfold M6;rw[eP,eT];simp
 have eM:L8 m s sz [112,97,116,104]=if !D6 s then O2 m [112,97,116,104] s else m:=by unfold L8;rw[eT];simp
 have EG:=A0 eG;have EU:=A0 eU;have EM:=A0 eM;have HH:=A0 h;have HS:=A0 AY;clear h AY eP eL eT eG eU eM;go_enter Tryz.func93,Tryz.ntmps93
 go_upto_region 2 with fail
 go_cut [40] (λs40 wx=>s40= .bool (decide (0∈s))/\wx=w)
 case first=>
  go_wp2_with (go_at_call 94;refine AS.mono ?_;rintro e w' ⟨rfl,rfl⟩)
  all_goals (go_meet;exact⟨by simp[*],rfl⟩)
 case rest=>
  obtain⟨rfl,rfl⟩:=hcut;have ⟨⟨x4,c4⟩,⟨x5,c5⟩,⟨x6,c6⟩,z4,z5,z6,c2,cR⟩:=HH.out.cells;have h1:=HH.out.setS3 ((⟨#[71,78,85,32,99,97,110,110,111,116,32,101,110,99,111,100,101,32]⟩:ByteArray)++⟨nm.toArray⟩);have hm:=I5 _ (b0+1) u p g h1.fF 8 u p false (.inr (.inr ⟨rfl,rfl,rfl,rfl⟩));have H1:=A0 h1;clear h1;go_upto_if 40 with fail
  go_cut [] (λwx=>S5 G0 E b0 H R u p (I1 g s sz [112,97,116,104]) q m n wc wx)
  case first=>
   go_wp2_with fail
   ·refine hm.mono ?_
    rintro e w' ⟨rfl,rfl⟩;go_wp2_with fail
    go_meet
    refine⟨?_,(C8 b0 _ 6 _).trans (C8 b0 _ 1 _)⟩;have q0:I1 g s sz [112,97,116,104]=false:=by rw[EG.out];simp[*]
    rw[q0];exact H1.out.setF u p false
   ·go_meet
    refine⟨?_,zD _ _⟩;have q0:I1 g s sz [112,97,116,104]=g:=by rw[EG.out];simp[*]
    rw[q0];exact HH.out
  case rest=>
   obtain⟨HA,HB⟩:=hcut;obtain⟨wo,rfl⟩:∃wo:World,wo=wc:=⟨_,rfl⟩;have AQ:=A0 HA;have AV:=A0 HB;have AO:=J8 s wo (by omega);clear HA HB c4 c5 c6 z4 z5 z6 c2 cR hm H1;go_upto_region 5 with fail
   go_cut [49] (λs49 wx=>s49= .bool (!D6 s)/\S5 G0 E b0 H R u p (I1 g s sz [112,97,116,104]) q m n wo wx)
   case first=>
    go_wp2_with (go_at_call 96;refine AO.mono ?_;rintro e w' ⟨rfl,hb⟩)
    all_goals (go_meet;exact⟨by simp[*],AQ.out.below hb,hb.mono (by have:=AQ.out.lt;omega)⟩)
   case rest=>
    obtain⟨rfl,HA,HB⟩:=hcut;have AD:=A0 HA;have AR:=A0 (AV.out.trans HB);clear HA HB AO AQ AV;have AA:=HS.out wc;go_upto_if 49 with fail
    go_cut [] (λwx=>S5 G0 E b0 H R (M6 u s sz [112,97,116,104]) p (I1 g s sz [112,97,116,104]) q (L8 m s sz [112,97,116,104]) (n+1) wc wx)
    case first=>
     go_wp2_with fail
     ·refine AA.mono ?_
      rintro e w3 ⟨rfl,AP⟩;have AH:=AD.out.below AP;have ⟨⟨x4,c4⟩,⟨x5,c5⟩,⟨x6,c6⟩,z4,z5,z6,c2,cR⟩:=AH.cells;have AU:=A0 (AP.mono (show b0<=wc.heap.size by have:=AD.out.lt;omega));have AE:=A0 AH;by_cases AX:J2 s=true
      ·rw[if_pos AX]
       obtain⟨w5,AW,AB,AC⟩:=AH.put (by omega) [112,97,116,104] s (by decide) (by omega);have AJ:=A0 AB;have AL:=A0 AC;clear AH AB AC AA AP;go_wp2_with fail
       go_meet
       refine⟨?_,AU.out.trans AL.out⟩;have q1:M6 u s sz [112,97,116,104]=u:=by rw[EU.out];simp[*]
       have q2:L8 m s sz [112,97,116,104]=O2 m [112,97,116,104] s:=by rw[EM.out];simp[*]
       rw[q1,q2];exact AJ.out
      ·rw[if_neg AX]
       have h4:=AH.setS1 ((⟨#[85,83,84,65,82,32,99,97,110,110,111,116,32,101,110,99,111,100,101,32]⟩:ByteArray)++⟨nm.toArray⟩);have hm:=I5 _ (b0+1) u p (I1 g s sz [112,97,116,104]) h4.fF 2 false p (I1 g s sz [112,97,116,104]) (.inl ⟨rfl,rfl,rfl,rfl⟩);have h5:=h4.setF false p (I1 g s sz [112,97,116,104]);have AZ:=h5.cells.2.2.2.2.2.2.1;obtain⟨w5,AW,AB,AC⟩:=h5.put (by omega) [112,97,116,104] s (by decide) (by omega);have AJ:=A0 AB;have AL:=A0 AC;clear AH h4 h5 AB AC AA AP;go_wp2_with fail
       refine hm.mono ?_;rintro e w6 ⟨rfl,rfl⟩;go_wp2_with fail
       go_meet
       refine⟨?_,AU.out.trans (((C8 b0 _ 4 _).trans (C8 b0 _ 1 _)).trans AL.out)⟩;have q1:M6 u s sz [112,97,116,104]=false:=by rw[EU.out];simp[*]
       have q2:L8 m s sz [112,97,116,104]=O2 m [112,97,116,104] s:=by rw[EM.out];simp[*]
       rw[q1,q2];exact AJ.out
     ·go_meet
      refine⟨?_,zD _ _⟩;have q1:M6 u s sz [112,97,116,104]=u:=by rw[EU.out];simp[*]
      have q2:L8 m s sz [112,97,116,104]=m:=by rw[EM.out];simp[*]
      rw[q1,q2];exact AD.out.mono (by omega)
    case rest=>
     obtain⟨HA,HB⟩:=hcut;obtain⟨wp,rfl⟩:∃wp:World,wp=wc:=⟨_,rfl⟩;have AE:=A0 HA;have AG:=A0 (AR.out.trans HB);have ⟨⟨x4,c4⟩,⟨x5,c5⟩,⟨x6,c6⟩,z4,z5,z6,c2,cR⟩:=HA.cells;have AI:=HA.lookR [112,97,116,104] (by decide);clear c4 c5 c6 z4 z5 z6 HB AA;by_cases hR:R [112,97,116,104]=some s
     ·rw[hR] at AI
      simp only[Option.getD_some,Option.isSome_some] at AI;obtain⟨w5,AW,AB,AC⟩:=HA.put (by omega) [112,97,116,104] s (by decide) (by omega);have AJ:=A0 AB;have AL:=A0 AC;have ER:=A0 hR;clear HA AB AC hR;go_wp2_with fail
      go_end0
      refine⟨rfl,?_,AG.out.trans AL.out⟩;have:=AJ.out;rw[A1E m R s sz [112,97,116,104] ER.out] at this;exact this
     ·have AT:=A0 (A0Q m R s sz [112,97,116,104] hR)
      clear HA;cases AM:R [112,97,116,104] with
      |none=>
       rw[AM] at AI;simp only[Option.getD_none,Option.isSome_none] at AI;clear hR AM;go_wp2_with fail
       go_end0
       refine⟨rfl,?_,AG.out⟩;rw[<-AT.out];exact AE.out.mono (by omega)
      |some v=>
       rw[AM] at AI;simp only[Option.getD_some,Option.isSome_some] at AI;have Aa: (v==s)=false:=by rw[zG];exact λe=>hR (by rw[AM,e])
       clear hR AM;go_wp2_with fail
       go_end0
       refine⟨rfl,?_,AG.out⟩;rw[<-AT.out];exact AE.out.mono (by omega)
theorem A5d (G0:Nat) (E:Nat->Addr) (b0:Nat) (H:Hd) (R:KV) (u p g q:Bool) (m:KV) (n:Nat) (w:World) (h:AF G0 E b0 H R u p g q m n w) (s nm:List UInt8) (sz:Nat) (hs:s.length<=1048576) (Ab:nm.length<=20) (hn:n<1000) (ht:sz<s.length) (AY:∀w',Calls Tryz.prog 97 #[str s] w' (U8 s w')):
  Calls Tryz.prog 93 #[str s,.int .i64 sz,str nm,str [108,105,110,107,112,97,116,104],.pointer (some ⟨b0+6,0,none⟩),.pointer (some ⟨b0+1,0,none⟩),.pointer (some ⟨b0+4,0,none⟩),.pointer (some ⟨b0+5,0,none⟩),.pointer (some ⟨b0+2,0,none⟩),.pointer (some ⟨b0,0,none⟩)] w
   (A0R G0 E b0 H R (M6 u s sz [108,105,110,107,112,97,116,104]) p (I1 g s sz [108,105,110,107,112,97,116,104]) q (X7 m R s sz [108,105,110,107,112,97,116,104]) (n+2) w):=by
 have AS:=P0 s w (by omega);have i1: (sz:Int)<s.length:=by omega
 have eP:decide ([108,105,110,107,112,97,116,104]=H0)=false:=zV (by decide);have eL:decide ([108,105,110,107,112,97,116,104]=I3)=true:=zY rfl;have eT:decide (sz<s.length)=true:=by simp;omega
 have eG:I1 g s sz [108,105,110,107,112,97,116,104]=if decide (0∈s) then false else g:=by unfold I1;rw[eP,eL,eT];simp
 have eU:M6 u s sz [108,105,110,107,112,97,116,104]=if true then(if false then u else false) else u:=by unfold M6;rw[eP,eT];simp
 have eM:L8 m s sz [108,105,110,107,112,97,116,104]=if true then O2 m [108,105,110,107,112,97,116,104] s else m:=by unfold L8;rw[eT];simp
 have EG:=A0 eG;have EU:=A0 eU;have EM:=A0 eM;have HH:=A0 h;have HS:=A0 AY;clear h AY eP eL eT eG eU eM;go_enter Tryz.func93,Tryz.ntmps93
 go_upto_region 2 with fail
 go_cut [40] (λs40 wx=>s40= .bool (decide (0∈s))/\wx=w)
 case first=>
  go_wp2_with (go_at_call 94;refine AS.mono ?_;rintro e w' ⟨rfl,rfl⟩)
  all_goals (go_meet;exact⟨by simp[*],rfl⟩)
 case rest=>
  obtain⟨rfl,rfl⟩:=hcut;have ⟨⟨x4,c4⟩,⟨x5,c5⟩,⟨x6,c6⟩,z4,z5,z6,c2,cR⟩:=HH.out.cells;have h1:=HH.out.setS3 ((⟨#[71,78,85,32,99,97,110,110,111,116,32,101,110,99,111,100,101,32]⟩:ByteArray)++⟨nm.toArray⟩);have hm:=I5 _ (b0+1) u p g h1.fF 8 u p false (.inr (.inr ⟨rfl,rfl,rfl,rfl⟩));have H1:=A0 h1;clear h1;go_upto_if 40 with fail
  go_cut [] (λwx=>S5 G0 E b0 H R u p (I1 g s sz [108,105,110,107,112,97,116,104]) q m n wc wx)
  case first=>
   go_wp2_with fail
   ·refine hm.mono ?_
    rintro e w' ⟨rfl,rfl⟩;go_wp2_with fail
    go_meet
    refine⟨?_,(C8 b0 _ 6 _).trans (C8 b0 _ 1 _)⟩;have q0:I1 g s sz [108,105,110,107,112,97,116,104]=false:=by rw[EG.out];simp[*]
    rw[q0];exact H1.out.setF u p false
   ·go_meet
    refine⟨?_,zD _ _⟩;have q0:I1 g s sz [108,105,110,107,112,97,116,104]=g:=by rw[EG.out];simp[*]
    rw[q0];exact HH.out
  case rest=>
   obtain⟨HA,HB⟩:=hcut;obtain⟨wo,rfl⟩:∃wo:World,wo=wc:=⟨_,rfl⟩;have AQ:=A0 HA;have AV:=A0 HB;have AO:=J8 s wo (by omega);clear HA HB c4 c5 c6 z4 z5 z6 c2 cR hm H1;go_upto_region 5 with fail
   go_cut [49] (λs49 wx=>s49= .bool (true)/\S5 G0 E b0 H R u p (I1 g s sz [108,105,110,107,112,97,116,104]) q m n wo wx)
   case first=>
    go_wp2_with (go_at_call 96;refine AO.mono ?_;rintro e w' ⟨rfl,hb⟩)
    all_goals (go_meet;exact⟨by simp[*],AQ.out.below hb,hb.mono (by have:=AQ.out.lt;omega)⟩)
   case rest=>
    obtain⟨rfl,HA,HB⟩:=hcut;have AL:=A0 HA;have AR:=A0 (AV.out.trans HB);clear HA HB AO AQ AV;have AA:=HS.out wc;go_upto_if 49 with fail
    go_cut [] (λwx=>S5 G0 E b0 H R (M6 u s sz [108,105,110,107,112,97,116,104]) p (I1 g s sz [108,105,110,107,112,97,116,104]) q (L8 m s sz [108,105,110,107,112,97,116,104]) (n+1) wc wx)
    case first=>
     go_wp2_with fail
     refine AA.mono ?_;rintro e w3 ⟨rfl,AP⟩;have AG:=AL.out.below AP;have ⟨⟨x4,c4⟩,⟨x5,c5⟩,⟨x6,c6⟩,z4,z5,z6,c2,cR⟩:=AG.cells;have AU:=A0 (AP.mono (show b0<=wc.heap.size by have:=AL.out.lt;omega));have AD:=A0 AG;by_cases AX:J2 s=true
     ·rw[if_pos AX]
      have h4:=AG.setS1 ((⟨#[85,83,84,65,82,32,99,97,110,110,111,116,32,101,110,99,111,100,101,32]⟩:ByteArray)++⟨nm.toArray⟩);have hm:=I5 _ (b0+1) u p (I1 g s sz [108,105,110,107,112,97,116,104]) h4.fF 2 false p (I1 g s sz [108,105,110,107,112,97,116,104]) (.inl ⟨rfl,rfl,rfl,rfl⟩);have h5:=h4.setF false p (I1 g s sz [108,105,110,107,112,97,116,104]);have AZ:=h5.cells.2.2.2.2.2.2.1;obtain⟨w5,AW,AB,AC⟩:=h5.put (by omega) [108,105,110,107,112,97,116,104] s (by decide) (by omega);have AI:=A0 AB;have AJ:=A0 AC;clear AG h4 h5 AB AC AA AP;go_wp2_with fail
      refine hm.mono ?_;rintro e w6 ⟨rfl,rfl⟩;go_wp2_with fail
      go_meet
      refine⟨?_,AU.out.trans (((C8 b0 _ 4 _).trans (C8 b0 _ 1 _)).trans AJ.out)⟩;have q1:M6 u s sz [108,105,110,107,112,97,116,104]=false:=by rw[EU.out];simp[*]
      have q2:L8 m s sz [108,105,110,107,112,97,116,104]=O2 m [108,105,110,107,112,97,116,104] s:=by rw[EM.out];simp[*]
      rw[q1,q2];exact AI.out
     ·rw[if_neg AX]
      have h4:=AG.setS1 ((⟨#[85,83,84,65,82,32,99,97,110,110,111,116,32,101,110,99,111,100,101,32]⟩:ByteArray)++⟨nm.toArray⟩);have hm:=I5 _ (b0+1) u p (I1 g s sz [108,105,110,107,112,97,116,104]) h4.fF 2 false p (I1 g s sz [108,105,110,107,112,97,116,104]) (.inl ⟨rfl,rfl,rfl,rfl⟩);have h5:=h4.setF false p (I1 g s sz [108,105,110,107,112,97,116,104]);have AZ:=h5.cells.2.2.2.2.2.2.1;obtain⟨w5,AW,AB,AC⟩:=h5.put (by omega) [108,105,110,107,112,97,116,104] s (by decide) (by omega);have AI:=A0 AB;have AJ:=A0 AC;clear AG h4 h5 AB AC AA AP;go_wp2_with fail
      refine hm.mono ?_;rintro e w6 ⟨rfl,rfl⟩;go_wp2_with fail
      go_meet
      refine⟨?_,AU.out.trans (((C8 b0 _ 4 _).trans (C8 b0 _ 1 _)).trans AJ.out)⟩;have q1:M6 u s sz [108,105,110,107,112,97,116,104]=false:=by rw[EU.out];simp[*]
      have q2:L8 m s sz [108,105,110,107,112,97,116,104]=O2 m [108,105,110,107,112,97,116,104] s:=by rw[EM.out];simp[*]
      rw[q1,q2];exact AI.out
    case rest=>
     obtain⟨HA,HB⟩:=hcut;obtain⟨wp,rfl⟩:∃wp:World,wp=wc:=⟨_,rfl⟩;have AD:=A0 HA;have AE:=A0 (AR.out.trans HB);have ⟨⟨x4,c4⟩,⟨x5,c5⟩,⟨x6,c6⟩,z4,z5,z6,c2,cR⟩:=HA.cells;have AH:=HA.lookR [108,105,110,107,112,97,116,104] (by decide);clear c4 c5 c6 z4 z5 z6 HB AA;by_cases hR:R [108,105,110,107,112,97,116,104]=some s
     ·rw[hR] at AH
      simp only[Option.getD_some,Option.isSome_some] at AH;obtain⟨w5,AW,AB,AC⟩:=HA.put (by omega) [108,105,110,107,112,97,116,104] s (by decide) (by omega);have AI:=A0 AB;have AJ:=A0 AC;have ER:=A0 hR;clear HA AB AC hR;go_wp2_with fail
      go_end0
      refine⟨rfl,?_,AE.out.trans AJ.out⟩;have:=AI.out;rw[A1E m R s sz [108,105,110,107,112,97,116,104] ER.out] at this;exact this
     ·have AT:=A0 (A0Q m R s sz [108,105,110,107,112,97,116,104] hR)
      clear HA;cases AM:R [108,105,110,107,112,97,116,104] with
      |none=>
       rw[AM] at AH;simp only[Option.getD_none,Option.isSome_none] at AH;clear hR AM;go_wp2_with fail
       go_end0
       refine⟨rfl,?_,AE.out⟩;rw[<-AT.out];exact AD.out.mono (by omega)
      |some v=>
       rw[AM] at AH;simp only[Option.getD_some,Option.isSome_some] at AH;have Aa: (v==s)=false:=by rw[zG];exact λe=>hR (by rw[AM,e])
       clear hR AM;go_wp2_with fail
       go_end0
       refine⟨rfl,?_,AE.out⟩;rw[<-AT.out];exact AD.out.mono (by omega)
theorem A5c (G0:Nat) (E:Nat->Addr) (b0:Nat) (H:Hd) (R:KV) (u p g q:Bool) (m:KV) (n:Nat) (w:World) (h:AF G0 E b0 H R u p g q m n w) (s nm:List UInt8) (sz:Nat) (hs:s.length<=1048576) (Ab:nm.length<=20) (hn:n<1000) (ht:¬sz<s.length) (AY:∀w',Calls Tryz.prog 97 #[str s] w' (U8 s w')):
  Calls Tryz.prog 93 #[str s,.int .i64 sz,str nm,str [108,105,110,107,112,97,116,104],.pointer (some ⟨b0+6,0,none⟩),.pointer (some ⟨b0+1,0,none⟩),.pointer (some ⟨b0+4,0,none⟩),.pointer (some ⟨b0+5,0,none⟩),.pointer (some ⟨b0+2,0,none⟩),.pointer (some ⟨b0,0,none⟩)] w
   (A0R G0 E b0 H R (M6 u s sz [108,105,110,107,112,97,116,104]) p (I1 g s sz [108,105,110,107,112,97,116,104]) q (X7 m R s sz [108,105,110,107,112,97,116,104]) (n+2) w):=by
 have AS:=P0 s w (by omega);have i1:¬(sz:Int)<s.length:=by omega
 have eP:decide ([108,105,110,107,112,97,116,104]=H0)=false:=zV (by decide);have eL:decide ([108,105,110,107,112,97,116,104]=I3)=true:=zY rfl;have eT:decide (sz<s.length)=false:=by simp;omega
 have eG:I1 g s sz [108,105,110,107,112,97,116,104]=if decide (0∈s) then false else g:=by unfold I1;rw[eP,eL,eT];simp
 have eU:M6 u s sz [108,105,110,107,112,97,116,104]=if !D6 s then(if false then u else false) else u:=by unfold M6;rw[eP,eT];simp
 have eM:L8 m s sz [108,105,110,107,112,97,116,104]=if !D6 s then O2 m [108,105,110,107,112,97,116,104] s else m:=by unfold L8;rw[eT];simp
 have EG:=A0 eG;have EU:=A0 eU;have EM:=A0 eM;have HH:=A0 h;have HS:=A0 AY;clear h AY eP eL eT eG eU eM;go_enter Tryz.func93,Tryz.ntmps93
 go_upto_region 2 with fail
 go_cut [40] (λs40 wx=>s40= .bool (decide (0∈s))/\wx=w)
 case first=>
  go_wp2_with (go_at_call 94;refine AS.mono ?_;rintro e w' ⟨rfl,rfl⟩)
  all_goals (go_meet;exact⟨by simp[*],rfl⟩)
 case rest=>
  obtain⟨rfl,rfl⟩:=hcut;have ⟨⟨x4,c4⟩,⟨x5,c5⟩,⟨x6,c6⟩,z4,z5,z6,c2,cR⟩:=HH.out.cells;have h1:=HH.out.setS3 ((⟨#[71,78,85,32,99,97,110,110,111,116,32,101,110,99,111,100,101,32]⟩:ByteArray)++⟨nm.toArray⟩);have hm:=I5 _ (b0+1) u p g h1.fF 8 u p false (.inr (.inr ⟨rfl,rfl,rfl,rfl⟩));have H1:=A0 h1;clear h1;go_upto_if 40 with fail
  go_cut [] (λwx=>S5 G0 E b0 H R u p (I1 g s sz [108,105,110,107,112,97,116,104]) q m n wc wx)
  case first=>
   go_wp2_with fail
   ·refine hm.mono ?_
    rintro e w' ⟨rfl,rfl⟩;go_wp2_with fail
    go_meet
    refine⟨?_,(C8 b0 _ 6 _).trans (C8 b0 _ 1 _)⟩;have q0:I1 g s sz [108,105,110,107,112,97,116,104]=false:=by rw[EG.out];simp[*]
    rw[q0];exact H1.out.setF u p false
   ·go_meet
    refine⟨?_,zD _ _⟩;have q0:I1 g s sz [108,105,110,107,112,97,116,104]=g:=by rw[EG.out];simp[*]
    rw[q0];exact HH.out
  case rest=>
   obtain⟨HA,HB⟩:=hcut;obtain⟨wo,rfl⟩:∃wo:World,wo=wc:=⟨_,rfl⟩;have AQ:=A0 HA;have AV:=A0 HB;have AO:=J8 s wo (by omega);clear HA HB c4 c5 c6 z4 z5 z6 c2 cR hm H1;go_upto_region 5 with fail
   go_cut [49] (λs49 wx=>s49= .bool (!D6 s)/\S5 G0 E b0 H R u p (I1 g s sz [108,105,110,107,112,97,116,104]) q m n wo wx)
   case first=>
    go_wp2_with (go_at_call 96;refine AO.mono ?_;rintro e w' ⟨rfl,hb⟩)
    all_goals (go_meet;exact⟨by simp[*],AQ.out.below hb,hb.mono (by have:=AQ.out.lt;omega)⟩)
   case rest=>
    obtain⟨rfl,HA,HB⟩:=hcut;have AD:=A0 HA;have AR:=A0 (AV.out.trans HB);clear HA HB AO AQ AV;have AA:=HS.out wc;go_upto_if 49 with fail
    go_cut [] (λwx=>S5 G0 E b0 H R (M6 u s sz [108,105,110,107,112,97,116,104]) p (I1 g s sz [108,105,110,107,112,97,116,104]) q (L8 m s sz [108,105,110,107,112,97,116,104]) (n+1) wc wx)
    case first=>
     go_wp2_with fail
     ·refine AA.mono ?_
      rintro e w3 ⟨rfl,AP⟩;have AH:=AD.out.below AP;have ⟨⟨x4,c4⟩,⟨x5,c5⟩,⟨x6,c6⟩,z4,z5,z6,c2,cR⟩:=AH.cells;have AU:=A0 (AP.mono (show b0<=wc.heap.size by have:=AD.out.lt;omega));have AE:=A0 AH;by_cases AX:J2 s=true
      ·rw[if_pos AX]
       have h4:=AH.setS1 ((⟨#[85,83,84,65,82,32,99,97,110,110,111,116,32,101,110,99,111,100,101,32]⟩:ByteArray)++⟨nm.toArray⟩);have hm:=I5 _ (b0+1) u p (I1 g s sz [108,105,110,107,112,97,116,104]) h4.fF 2 false p (I1 g s sz [108,105,110,107,112,97,116,104]) (.inl ⟨rfl,rfl,rfl,rfl⟩);have h5:=h4.setF false p (I1 g s sz [108,105,110,107,112,97,116,104]);have AZ:=h5.cells.2.2.2.2.2.2.1;obtain⟨w5,AW,AB,AC⟩:=h5.put (by omega) [108,105,110,107,112,97,116,104] s (by decide) (by omega);have AJ:=A0 AB;have AL:=A0 AC;clear AH h4 h5 AB AC AA AP;go_wp2_with fail
       refine hm.mono ?_;rintro e w6 ⟨rfl,rfl⟩;go_wp2_with fail
       go_meet
       refine⟨?_,AU.out.trans (((C8 b0 _ 4 _).trans (C8 b0 _ 1 _)).trans AL.out)⟩;have q1:M6 u s sz [108,105,110,107,112,97,116,104]=false:=by rw[EU.out];simp[*]
       have q2:L8 m s sz [108,105,110,107,112,97,116,104]=O2 m [108,105,110,107,112,97,116,104] s:=by rw[EM.out];simp[*]
       rw[q1,q2];exact AJ.out
      ·rw[if_neg AX]
       have h4:=AH.setS1 ((⟨#[85,83,84,65,82,32,99,97,110,110,111,116,32,101,110,99,111,100,101,32]⟩:ByteArray)++⟨nm.toArray⟩);have hm:=I5 _ (b0+1) u p (I1 g s sz [108,105,110,107,112,97,116,104]) h4.fF 2 false p (I1 g s sz [108,105,110,107,112,97,116,104]) (.inl ⟨rfl,rfl,rfl,rfl⟩);have h5:=h4.setF false p (I1 g s sz [108,105,110,107,112,97,116,104]);have AZ:=h5.cells.2.2.2.2.2.2.1;obtain⟨w5,AW,AB,AC⟩:=h5.put (by omega) [108,105,110,107,112,97,116,104] s (by decide) (by omega);have AJ:=A0 AB;have AL:=A0 AC;clear AH h4 h5 AB AC AA AP;go_wp2_with fail
       refine hm.mono ?_;rintro e w6 ⟨rfl,rfl⟩;go_wp2_with fail
       go_meet
       refine⟨?_,AU.out.trans (((C8 b0 _ 4 _).trans (C8 b0 _ 1 _)).trans AL.out)⟩;have q1:M6 u s sz [108,105,110,107,112,97,116,104]=false:=by rw[EU.out];simp[*]
       have q2:L8 m s sz [108,105,110,107,112,97,116,104]=O2 m [108,105,110,107,112,97,116,104] s:=by rw[EM.out];simp[*]
       rw[q1,q2];exact AJ.out
     ·go_meet
      refine⟨?_,zD _ _⟩;have q1:M6 u s sz [108,105,110,107,112,97,116,104]=u:=by rw[EU.out];simp[*]
      have q2:L8 m s sz [108,105,110,107,112,97,116,104]=m:=by rw[EM.out];simp[*]
      rw[q1,q2];exact AD.out.mono (by omega)
    case rest=>
     obtain⟨HA,HB⟩:=hcut;obtain⟨wp,rfl⟩:∃wp:World,wp=wc:=⟨_,rfl⟩;have AE:=A0 HA;have AG:=A0 (AR.out.trans HB);have ⟨⟨x4,c4⟩,⟨x5,c5⟩,⟨x6,c6⟩,z4,z5,z6,c2,cR⟩:=HA.cells;have AI:=HA.lookR [108,105,110,107,112,97,116,104] (by decide);clear c4 c5 c6 z4 z5 z6 HB AA;by_cases hR:R [108,105,110,107,112,97,116,104]=some s
     ·rw[hR] at AI
      simp only[Option.getD_some,Option.isSome_some] at AI;obtain⟨w5,AW,AB,AC⟩:=HA.put (by omega) [108,105,110,107,112,97,116,104] s (by decide) (by omega);have AJ:=A0 AB;have AL:=A0 AC;have ER:=A0 hR;clear HA AB AC hR;go_wp2_with fail
      go_end0
      refine⟨rfl,?_,AG.out.trans AL.out⟩;have:=AJ.out;rw[A1E m R s sz [108,105,110,107,112,97,116,104] ER.out] at this;exact this
     ·have AT:=A0 (A0Q m R s sz [108,105,110,107,112,97,116,104] hR)
      clear HA;cases AM:R [108,105,110,107,112,97,116,104] with
      |none=>
       rw[AM] at AI;simp only[Option.getD_none,Option.isSome_none] at AI;clear hR AM;go_wp2_with fail
       go_end0
       refine⟨rfl,?_,AG.out⟩;rw[<-AT.out];exact AE.out.mono (by omega)
      |some v=>
       rw[AM] at AI;simp only[Option.getD_some,Option.isSome_some] at AI;have Aa: (v==s)=false:=by rw[zG];exact λe=>hR (by rw[AM,e])
       clear hR AM;go_wp2_with fail
       go_end0
       refine⟨rfl,?_,AG.out⟩;rw[<-AT.out];exact AE.out.mono (by omega)
theorem A4U (G0:Nat) (E:Nat->Addr) (b0:Nat) (H:Hd) (R:KV) (u p g q:Bool) (m:KV) (n:Nat) (w:World) (h:AF G0 E b0 H R u p g q m n w) (s nm key:List UInt8) (sz:Nat) (hs:s.length<=1048576) (Af:nm.length<=20) (hn:n<1000) (Ad:key.length<=20) (Aa:¬key=[112,97,116,104]) (Ab:¬key=[108,105,110,107,112,97,116,104]) (Ac:key.isEmpty=false) (ht:sz<s.length) (AY:∀w',Calls Tryz.prog 97 #[str s] w' (U8 s w')):
  Calls Tryz.prog 93 #[str s,.int .i64 sz,str nm,str key,.pointer (some ⟨b0+6,0,none⟩),.pointer (some ⟨b0+1,0,none⟩),.pointer (some ⟨b0+4,0,none⟩),.pointer (some ⟨b0+5,0,none⟩),.pointer (some ⟨b0+2,0,none⟩),.pointer (some ⟨b0,0,none⟩)] w
   (A0R G0 E b0 H R (M6 u s sz key) p (I1 g s sz key) q (X7 m R s sz key) (n+2) w):=by
 have AS:=P0 s w (by omega);have i1: (sz:Int)<s.length:=by omega
 have eP:decide (key=H0)=false:=zV Aa;have eL:decide (key=I3)=false:=zV Ab;have eT:decide (sz<s.length)=true:=by simp;omega
 have eG:I1 g s sz key=if true then false else g:=by unfold I1;rw[eP,eL,eT];simp
 have eU:M6 u s sz key=if true then(if false then u else false) else u:=by unfold M6;rw[eP,eT];simp
 have eM:L8 m s sz key=if true then O2 m key s else m:=by unfold L8;rw[eT];simp
 have EG:=A0 eG;have EU:=A0 eU;have EM:=A0 eM;have HH:=A0 h;have HS:=A0 AY;clear h AY eP eL eT eG eU eM;go_enter Tryz.func93,Tryz.ntmps93
 go_upto_region 2 with fail
 go_cut [40] (λs40 wx=>s40= .bool (true)/\wx=w)
 case first=>
  go_wp2_with (go_at_call 94;refine AS.mono ?_;rintro e w' ⟨rfl,rfl⟩)
  all_goals (go_meet;exact⟨by simp[*],rfl⟩)
 case rest=>
  obtain⟨rfl,rfl⟩:=hcut;have ⟨⟨x4,c4⟩,⟨x5,c5⟩,⟨x6,c6⟩,z4,z5,z6,c2,cR⟩:=HH.out.cells;have h1:=HH.out.setS3 ((⟨#[71,78,85,32,99,97,110,110,111,116,32,101,110,99,111,100,101,32]⟩:ByteArray)++⟨nm.toArray⟩);have hm:=I5 _ (b0+1) u p g h1.fF 8 u p false (.inr (.inr ⟨rfl,rfl,rfl,rfl⟩));have H1:=A0 h1;clear h1;go_upto_if 40 with fail
  go_cut [] (λwx=>S5 G0 E b0 H R u p (I1 g s sz key) q m n wc wx)
  case first=>
   go_wp2_with fail
   refine hm.mono ?_;rintro e w' ⟨rfl,rfl⟩;go_wp2_with fail
   go_meet
   refine⟨?_,(C8 b0 _ 6 _).trans (C8 b0 _ 1 _)⟩;have q0:I1 g s sz key=false:=by rw[EG.out];simp
   rw[q0];exact H1.out.setF u p false
  case rest=>
   obtain⟨HA,HB⟩:=hcut;obtain⟨wo,rfl⟩:∃wo:World,wo=wc:=⟨_,rfl⟩;have AQ:=A0 HA;have AV:=A0 HB;have AO:=J8 s wo (by omega);clear HA HB c4 c5 c6 z4 z5 z6 c2 cR hm H1;go_upto_region 5 with fail
   go_cut [49] (λs49 wx=>s49= .bool (true)/\S5 G0 E b0 H R u p (I1 g s sz key) q m n wo wx)
   case first=>
    go_wp2_with (go_at_call 96;refine AO.mono ?_;rintro e w' ⟨rfl,hb⟩)
    all_goals (go_meet;exact⟨by simp[*],AQ.out.below hb,hb.mono (by have:=AQ.out.lt;omega)⟩)
   case rest=>
    obtain⟨rfl,HA,HB⟩:=hcut;have AL:=A0 HA;have AR:=A0 (AV.out.trans HB);clear HA HB AO AQ AV;have AA:=HS.out wc;go_upto_if 49 with fail
    go_cut [] (λwx=>S5 G0 E b0 H R (M6 u s sz key) p (I1 g s sz key) q (L8 m s sz key) (n+1) wc wx)
    case first=>
     go_wp2_with fail
     refine AA.mono ?_;rintro e w3 ⟨rfl,AP⟩;have AG:=AL.out.below AP;have ⟨⟨x4,c4⟩,⟨x5,c5⟩,⟨x6,c6⟩,z4,z5,z6,c2,cR⟩:=AG.cells;have AU:=A0 (AP.mono (show b0<=wc.heap.size by have:=AL.out.lt;omega));have AD:=A0 AG;by_cases AX:J2 s=true
     ·rw[if_pos AX]
      have h4:=AG.setS1 ((⟨#[85,83,84,65,82,32,99,97,110,110,111,116,32,101,110,99,111,100,101,32]⟩:ByteArray)++⟨nm.toArray⟩);have hm:=I5 _ (b0+1) u p (I1 g s sz key) h4.fF 2 false p (I1 g s sz key) (.inl ⟨rfl,rfl,rfl,rfl⟩);have h5:=h4.setF false p (I1 g s sz key);have AZ:=h5.cells.2.2.2.2.2.2.1;obtain⟨w5,AW,AB,AC⟩:=h5.put (by omega) key s (by omega) (by omega);have AI:=A0 AB;have AJ:=A0 AC;clear AG h4 h5 AB AC AA AP;go_wp2_with fail
      refine hm.mono ?_;rintro e w6 ⟨rfl,rfl⟩;go_wp2_with fail
      go_meet
      refine⟨?_,AU.out.trans (((C8 b0 _ 4 _).trans (C8 b0 _ 1 _)).trans AJ.out)⟩;have q1:M6 u s sz key=false:=by rw[EU.out];simp[*]
      have q2:L8 m s sz key=O2 m key s:=by rw[EM.out];simp[*]
      rw[q1,q2];exact AI.out
     ·rw[if_neg AX]
      have h4:=AG.setS1 ((⟨#[85,83,84,65,82,32,99,97,110,110,111,116,32,101,110,99,111,100,101,32]⟩:ByteArray)++⟨nm.toArray⟩);have hm:=I5 _ (b0+1) u p (I1 g s sz key) h4.fF 2 false p (I1 g s sz key) (.inl ⟨rfl,rfl,rfl,rfl⟩);have h5:=h4.setF false p (I1 g s sz key);have AZ:=h5.cells.2.2.2.2.2.2.1;obtain⟨w5,AW,AB,AC⟩:=h5.put (by omega) key s (by omega) (by omega);have AI:=A0 AB;have AJ:=A0 AC;clear AG h4 h5 AB AC AA AP;go_wp2_with fail
      refine hm.mono ?_;rintro e w6 ⟨rfl,rfl⟩;go_wp2_with fail
      go_meet
      refine⟨?_,AU.out.trans (((C8 b0 _ 4 _).trans (C8 b0 _ 1 _)).trans AJ.out)⟩;have q1:M6 u s sz key=false:=by rw[EU.out];simp[*]
      have q2:L8 m s sz key=O2 m key s:=by rw[EM.out];simp[*]
      rw[q1,q2];exact AI.out
    case rest=>
     obtain⟨HA,HB⟩:=hcut;obtain⟨wp,rfl⟩:∃wp:World,wp=wc:=⟨_,rfl⟩;have AD:=A0 HA;have AE:=A0 (AR.out.trans HB);have ⟨⟨x4,c4⟩,⟨x5,c5⟩,⟨x6,c6⟩,z4,z5,z6,c2,cR⟩:=HA.cells;have AH:=HA.lookR key (by omega);clear c4 c5 c6 z4 z5 z6 HB AA;by_cases hR:R key=some s
     ·rw[hR] at AH
      simp only[Option.getD_some,Option.isSome_some] at AH;obtain⟨w5,AW,AB,AC⟩:=HA.put (by omega) key s (by omega) (by omega);have AI:=A0 AB;have AJ:=A0 AC;have ER:=A0 hR;clear HA AB AC hR;go_wp2_with fail
      go_end0
      refine⟨rfl,?_,AE.out.trans AJ.out⟩;have:=AI.out;rw[A1E m R s sz key ER.out] at this;exact this
     ·have AT:=A0 (A0Q m R s sz key hR)
      clear HA;cases AM:R key with
      |none=>
       rw[AM] at AH;simp only[Option.getD_none,Option.isSome_none] at AH;clear hR AM;go_wp2_with fail
       go_end0
       refine⟨rfl,?_,AE.out⟩;rw[<-AT.out];exact AD.out.mono (by omega)
      |some v=>
       rw[AM] at AH;simp only[Option.getD_some,Option.isSome_some] at AH;have Ae: (v==s)=false:=by rw[zG];exact λe=>hR (by rw[AM,e])
       clear hR AM;go_wp2_with fail
       go_end0
       refine⟨rfl,?_,AE.out⟩;rw[<-AT.out];exact AD.out.mono (by omega)
theorem A4T (G0:Nat) (E:Nat->Addr) (b0:Nat) (H:Hd) (R:KV) (u p g q:Bool) (m:KV) (n:Nat) (w:World) (h:AF G0 E b0 H R u p g q m n w) (s nm key:List UInt8) (sz:Nat) (hs:s.length<=1048576) (Af:nm.length<=20) (hn:n<1000) (Ad:key.length<=20) (Aa:¬key=[112,97,116,104]) (Ab:¬key=[108,105,110,107,112,97,116,104]) (Ac:key.isEmpty=false) (ht:¬sz<s.length) (AY:∀w',Calls Tryz.prog 97 #[str s] w' (U8 s w')):
  Calls Tryz.prog 93 #[str s,.int .i64 sz,str nm,str key,.pointer (some ⟨b0+6,0,none⟩),.pointer (some ⟨b0+1,0,none⟩),.pointer (some ⟨b0+4,0,none⟩),.pointer (some ⟨b0+5,0,none⟩),.pointer (some ⟨b0+2,0,none⟩),.pointer (some ⟨b0,0,none⟩)] w
   (A0R G0 E b0 H R (M6 u s sz key) p (I1 g s sz key) q (X7 m R s sz key) (n+2) w):=by
 have AS:=P0 s w (by omega);have i1:¬(sz:Int)<s.length:=by omega
 have eP:decide (key=H0)=false:=zV Aa;have eL:decide (key=I3)=false:=zV Ab;have eT:decide (sz<s.length)=false:=by simp;omega
 have eG:I1 g s sz key=if decide (0∈s) then false else g:=by unfold I1;rw[eP,eL,eT];simp
 have eU:M6 u s sz key=if !D6 s then(if false then u else false) else u:=by unfold M6;rw[eP,eT];simp
 have eM:L8 m s sz key=if !D6 s then O2 m key s else m:=by unfold L8;rw[eT];simp
 have EG:=A0 eG;have EU:=A0 eU;have EM:=A0 eM;have HH:=A0 h;have HS:=A0 AY;clear h AY eP eL eT eG eU eM;go_enter Tryz.func93,Tryz.ntmps93
 go_upto_region 2 with fail
 go_cut [40] (λs40 wx=>s40= .bool (decide (0∈s))/\wx=w)
 case first=>
  go_wp2_with (go_at_call 94;refine AS.mono ?_;rintro e w' ⟨rfl,rfl⟩)
  all_goals (go_meet;exact⟨by simp[*],rfl⟩)
 case rest=>
  obtain⟨rfl,rfl⟩:=hcut;have ⟨⟨x4,c4⟩,⟨x5,c5⟩,⟨x6,c6⟩,z4,z5,z6,c2,cR⟩:=HH.out.cells;have h1:=HH.out.setS3 ((⟨#[71,78,85,32,99,97,110,110,111,116,32,101,110,99,111,100,101,32]⟩:ByteArray)++⟨nm.toArray⟩);have hm:=I5 _ (b0+1) u p g h1.fF 8 u p false (.inr (.inr ⟨rfl,rfl,rfl,rfl⟩));have H1:=A0 h1;clear h1;go_upto_if 40 with fail
  go_cut [] (λwx=>S5 G0 E b0 H R u p (I1 g s sz key) q m n wc wx)
  case first=>
   go_wp2_with fail
   ·refine hm.mono ?_
    rintro e w' ⟨rfl,rfl⟩;go_wp2_with fail
    go_meet
    refine⟨?_,(C8 b0 _ 6 _).trans (C8 b0 _ 1 _)⟩;have q0:I1 g s sz key=false:=by rw[EG.out];simp[*]
    rw[q0];exact H1.out.setF u p false
   ·go_meet
    refine⟨?_,zD _ _⟩;have q0:I1 g s sz key=g:=by rw[EG.out];simp[*]
    rw[q0];exact HH.out
  case rest=>
   obtain⟨HA,HB⟩:=hcut;obtain⟨wo,rfl⟩:∃wo:World,wo=wc:=⟨_,rfl⟩;have AQ:=A0 HA;have AV:=A0 HB;have AO:=J8 s wo (by omega);clear HA HB c4 c5 c6 z4 z5 z6 c2 cR hm H1;go_upto_region 5 with fail
   go_cut [49] (λs49 wx=>s49= .bool (!D6 s)/\S5 G0 E b0 H R u p (I1 g s sz key) q m n wo wx)
   case first=>
    go_wp2_with (go_at_call 96;refine AO.mono ?_;rintro e w' ⟨rfl,hb⟩)
    all_goals (go_meet;exact⟨by simp[*],AQ.out.below hb,hb.mono (by have:=AQ.out.lt;omega)⟩)
   case rest=>
    obtain⟨rfl,HA,HB⟩:=hcut;have AD:=A0 HA;have AR:=A0 (AV.out.trans HB);clear HA HB AO AQ AV;have AA:=HS.out wc;go_upto_if 49 with fail
    go_cut [] (λwx=>S5 G0 E b0 H R (M6 u s sz key) p (I1 g s sz key) q (L8 m s sz key) (n+1) wc wx)
    case first=>
     go_wp2_with fail
     ·refine AA.mono ?_
      rintro e w3 ⟨rfl,AP⟩;have AH:=AD.out.below AP;have ⟨⟨x4,c4⟩,⟨x5,c5⟩,⟨x6,c6⟩,z4,z5,z6,c2,cR⟩:=AH.cells;have AU:=A0 (AP.mono (show b0<=wc.heap.size by have:=AD.out.lt;omega));have AE:=A0 AH;by_cases AX:J2 s=true
      ·rw[if_pos AX]
       have h4:=AH.setS1 ((⟨#[85,83,84,65,82,32,99,97,110,110,111,116,32,101,110,99,111,100,101,32]⟩:ByteArray)++⟨nm.toArray⟩);have hm:=I5 _ (b0+1) u p (I1 g s sz key) h4.fF 2 false p (I1 g s sz key) (.inl ⟨rfl,rfl,rfl,rfl⟩);have h5:=h4.setF false p (I1 g s sz key);have AZ:=h5.cells.2.2.2.2.2.2.1;obtain⟨w5,AW,AB,AC⟩:=h5.put (by omega) key s (by omega) (by omega);have AJ:=A0 AB;have AL:=A0 AC;clear AH h4 h5 AB AC AA AP;go_wp2_with fail
       refine hm.mono ?_;rintro e w6 ⟨rfl,rfl⟩;go_wp2_with fail
       go_meet
       refine⟨?_,AU.out.trans (((C8 b0 _ 4 _).trans (C8 b0 _ 1 _)).trans AL.out)⟩;have q1:M6 u s sz key=false:=by rw[EU.out];simp[*]
       have q2:L8 m s sz key=O2 m key s:=by rw[EM.out];simp[*]
       rw[q1,q2];exact AJ.out
      ·rw[if_neg AX]
       have h4:=AH.setS1 ((⟨#[85,83,84,65,82,32,99,97,110,110,111,116,32,101,110,99,111,100,101,32]⟩:ByteArray)++⟨nm.toArray⟩);have hm:=I5 _ (b0+1) u p (I1 g s sz key) h4.fF 2 false p (I1 g s sz key) (.inl ⟨rfl,rfl,rfl,rfl⟩);have h5:=h4.setF false p (I1 g s sz key);have AZ:=h5.cells.2.2.2.2.2.2.1;obtain⟨w5,AW,AB,AC⟩:=h5.put (by omega) key s (by omega) (by omega);have AJ:=A0 AB;have AL:=A0 AC;clear AH h4 h5 AB AC AA AP;go_wp2_with fail
       refine hm.mono ?_;rintro e w6 ⟨rfl,rfl⟩;go_wp2_with fail
       go_meet
       refine⟨?_,AU.out.trans (((C8 b0 _ 4 _).trans (C8 b0 _ 1 _)).trans AL.out)⟩;have q1:M6 u s sz key=false:=by rw[EU.out];simp[*]
       have q2:L8 m s sz key=O2 m key s:=by rw[EM.out];simp[*]
       rw[q1,q2];exact AJ.out
     ·go_meet
      refine⟨?_,zD _ _⟩;have q1:M6 u s sz key=u:=by rw[EU.out];simp[*]
      have q2:L8 m s sz key=m:=by rw[EM.out];simp[*]
      rw[q1,q2];exact AD.out.mono (by omega)
    case rest=>
     obtain⟨HA,HB⟩:=hcut;obtain⟨wp,rfl⟩:∃wp:World,wp=wc:=⟨_,rfl⟩;have AE:=A0 HA;have AG:=A0 (AR.out.trans HB);have ⟨⟨x4,c4⟩,⟨x5,c5⟩,⟨x6,c6⟩,z4,z5,z6,c2,cR⟩:=HA.cells;have AI:=HA.lookR key (by omega);clear c4 c5 c6 z4 z5 z6 HB AA;by_cases hR:R key=some s
     ·rw[hR] at AI
      simp only[Option.getD_some,Option.isSome_some] at AI;obtain⟨w5,AW,AB,AC⟩:=HA.put (by omega) key s (by omega) (by omega);have AJ:=A0 AB;have AL:=A0 AC;have ER:=A0 hR;clear HA AB AC hR;go_wp2_with fail
      go_end0
      refine⟨rfl,?_,AG.out.trans AL.out⟩;have:=AJ.out;rw[A1E m R s sz key ER.out] at this;exact this
     ·have AT:=A0 (A0Q m R s sz key hR)
      clear HA;cases AM:R key with
      |none=>
       rw[AM] at AI;simp only[Option.getD_none,Option.isSome_none] at AI;clear hR AM;go_wp2_with fail
       go_end0
       refine⟨rfl,?_,AG.out⟩;rw[<-AT.out];exact AE.out.mono (by omega)
      |some v=>
       rw[AM] at AI;simp only[Option.getD_some,Option.isSome_some] at AI;have Ae: (v==s)=false:=by rw[zG];exact λe=>hR (by rw[AM,e])
       clear hR AM;go_wp2_with fail
       go_end0
       refine⟨rfl,?_,AG.out⟩;rw[<-AT.out];exact AE.out.mono (by omega)
theorem B4k (G0:Nat) (E:Nat->Addr) (b0:Nat) (H:Hd) (R:KV) (u p g q:Bool) (m:KV) (n:Nat) (w:World) (h:AF G0 E b0 H R u p g q m n w) (s nm key:List UInt8) (sz:Nat) (hs:s.length<=1048576) (AA:nm.length<=20) (hn:n<1000) (AC:key=H0\/key=I3\/key=F8\/key=F7):
  Calls Tryz.prog 93 #[str s,.int .i64 sz,str nm,str key,.pointer (some ⟨b0+6,0,none⟩),.pointer (some ⟨b0+1,0,none⟩),.pointer (some ⟨b0+4,0,none⟩),.pointer (some ⟨b0+5,0,none⟩),.pointer (some ⟨b0+2,0,none⟩),.pointer (some ⟨b0,0,none⟩)] w
   (A0R G0 E b0 H R (M6 u s sz key) p (I1 g s sz key) q (X7 m R s sz key) (n+2) w):=by
 have AB:=λw'=>A6U w' s hs
 have ho:key=F8\/key=F7->(¬key=[112,97,116,104])/\(¬key=[108,105,110,107,112,97,116,104])/\(key.isEmpty=false)/\key.length<=20:=by
  rintro(rfl|rfl)<;>decide
 by_cases ht:sz<s.length
 ·rcases AC with rfl|rfl|hk
  ·exact A5f G0 E b0 H R u p g q m n w h s nm sz hs AA hn ht AB
  ·exact A5d G0 E b0 H R u p g q m n w h s nm sz hs AA hn ht AB
  ·obtain⟨k1,k2,k3,k4⟩:=ho hk
   exact A4U G0 E b0 H R u p g q m n w h s nm key sz hs AA hn k4 k1 k2 k3 ht AB
 ·rcases AC with rfl|rfl|hk
  ·exact A5e G0 E b0 H R u p g q m n w h s nm sz hs AA hn ht AB
  ·exact A5c G0 E b0 H R u p g q m n w h s nm sz hs AA hn ht AB
  ·obtain⟨k1,k2,k3,k4⟩:=ho hk
   exact A4T G0 E b0 H R u p g q m n w h s nm key sz hs AA hn k4 k1 k2 k3 ht AB
end Go.Proofs.YtkanmkcojlefbaaGreatDoor
