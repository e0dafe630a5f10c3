/-
  Part of the proof; holds the texts Glb.
-/
import Derived.Test.YtkanmkcojlefbaaGreatDoorM45
set_option maxHeartbeats 4000000
set_option maxRecDepth 100000
set_option linter.unusedSimpArgs false
set_option linter.unusedVariables false
namespace Go.Proofs.YtkanmkcojlefbaaGreatDoor
open Go.RowKit
def gx (rv:Value):IH:=⟨48,[120],[],0,0,0,0,[],[],0,0,false,0,0,false,0,0,0,0,rv,0⟩
structure B6W (h:IH) (L:List (List UInt8×List UInt8)):Prop where
 name:h.name=[]
 link:h.link=[]
 size:h.size=0
 mode:h.mode=0
 uid:h.uid=0
 gid:h.gid=0
 user:h.user=[]
 group:h.group=[]
 ms:h.ms= -62135596800
 mn:h.mn=0
 hasA:h.hasA=false
 hasC:h.hasC=false
 maj:h.maj=0
 mnr:h.mnr=0
 ne:L≠ []
 fmt:h.fmt=0\/h.fmt=2
 can:∃rv,A4g (gx rv) L 2
theorem C0E (p:Option Addr) (n c:Nat):Tryz.prog.built 31 [(0,.int .u8 48),(1,str [120]),(16,.slice p n c)]=some (gx (.slice p n c)).scells.toArray:=by kernel_rfl
theorem B9E (h:IH) (L:List (List UInt8×List UInt8)) (w:World) (hR:N5 w h.recs L) (Ad:L.length<=4294967296) (Ae:L1 L<=1152921504606846976):Calls Tryz.prog 48 #[.agg h.cells.toArray] w (P9 (B6W h L) w):=by
 have Ac:Hid (∀r∈L,r.1.length<4611686018427387904/\r.2.length<4611686018427387904):=A0 λr hr=>by have:=A2K hr;omega
 obtain⟨typ,name,link,size,mode,uid,gid,user,group,ms,mn,hasA,ats,atn,hasC,cts,ctn,maj,mnr,recs,fmt⟩:=h;obtain⟨rp,rc,AQ,-⟩:=id hR;have AQ:recs= .slice rp L.length rc:=AQ;subst AQ;have hb:Below w.heap.size w (w.alloc (.cells (IH.cells ⟨typ,name,link,size,mode,uid,gid,user,group,ms,mn,hasA,ats,atn,hasC,cts,ctn,maj,mnr,.slice rp L.length rc,fmt⟩).toArray 26)):=(zD _ _).alloc (zB _) _;have hg: (w.alloc (.cells (IH.cells ⟨typ,name,link,size,mode,uid,gid,user,group,ms,mn,hasA,ats,atn,hasC,cts,ctn,maj,mnr,.slice rp L.length rc,fmt⟩).toArray 26)).heap[w.heap.size]?=some (.cells (IH.cells ⟨typ,name,link,size,mode,uid,gid,user,group,ms,mn,hasA,ats,atn,hasC,cts,ctn,maj,mnr,.slice rp L.length rc,fmt⟩).toArray 26 (0,0)):=zI _ _;have HR:=A0 (N5.up hR hb);have HB:=A0 hb;have c1:=L6 hg 1 (str name) rfl;have c2:=L6 hg 2 (str link) rfl;have c3:=L6 hg 3 (.int .i64 size) rfl;have c4:=L6 hg 4 (.int .i64 mode) rfl;have c5:=L6 hg 5 (.int .i64 uid) rfl;have c6:=L6 hg 6 (.int .i64 gid) rfl;have c7:=L6 hg 7 (str user) rfl;have c8:=L6 hg 8 (str group) rfl;have c9:=L6 hg 9 (.int .i64 ms) rfl;have aA:=L6 hg 10 (.int .i64 mn) rfl;have aB:=L6 hg 11 (.bool hasA) rfl;have aD:=L6 hg 14 (.bool hasC) rfl;have aF:=L6 hg 17 (.int .i64 maj) rfl;have aG:=L6 hg 18 (.int .i64 mnr) rfl
 have aH: (w.alloc (.cells (IH.cells ⟨typ,name,link,size,mode,uid,gid,user,group,ms,mn,hasA,ats,atn,hasC,cts,ctn,maj,mnr,.slice rp L.length rc,fmt⟩).toArray 26)).cell? ⟨w.heap.size,19,none⟩=some (.slice rp L.length rc):=L6 hg 19 _ rfl;have c20:=L6 hg 20 (.int .i64 fmt) rfl;clear hb hg hR;by_cases AI:name=[]
 case neg=>obtain⟨a9,l9,rfl⟩:=List.exists_cons_of_ne_nil AI;go_enter Tryz.func48,Tryz.ntmps48;go_wp2_with fail;all_goals (go_ret;exact⟨0,rfl,HB.out,.inl rfl,λe=>absurd e (by decide)⟩)
 subst AI;by_cases AE:link=[]
 case neg=>obtain⟨a9,l9,rfl⟩:=List.exists_cons_of_ne_nil AE;go_enter Tryz.func48,Tryz.ntmps48;go_wp2_with fail;all_goals (go_ret;exact⟨0,rfl,HB.out,.inl rfl,λe=>absurd e (by decide)⟩)
 subst AE;by_cases AB:size=0
 case neg=>
       have b1: (size==0)=false:=by simpa using AB
       have b2: (size !=0)=true:=by simpa using AB
       go_enter Tryz.func48,Tryz.ntmps48;go_wp2_with fail;all_goals (go_ret;exact⟨0,rfl,HB.out,.inl rfl,λe=>absurd e (by decide)⟩)
 subst AB;by_cases AA:mode=0
 case neg=>
       have b1: (mode==0)=false:=by simpa using AA
       have b2: (mode !=0)=true:=by simpa using AA
       go_enter Tryz.func48,Tryz.ntmps48;go_wp2_with fail;all_goals (go_ret;exact⟨0,rfl,HB.out,.inl rfl,λe=>absurd e (by decide)⟩)
 subst AA;by_cases AJ:uid=0
 case neg=>
       have b1: (uid==0)=false:=by simpa using AJ
       have b2: (uid !=0)=true:=by simpa using AJ
       go_enter Tryz.func48,Tryz.ntmps48;go_wp2_with fail;all_goals (go_ret;exact⟨0,rfl,HB.out,.inl rfl,λe=>absurd e (by decide)⟩)
 subst AJ;by_cases AD:gid=0
 case neg=>
       have b1: (gid==0)=false:=by simpa using AD
       have b2: (gid !=0)=true:=by simpa using AD
       go_enter Tryz.func48,Tryz.ntmps48;go_wp2_with fail;all_goals (go_ret;exact⟨0,rfl,HB.out,.inl rfl,λe=>absurd e (by decide)⟩)
 subst AD;by_cases AL:user=[]
 case neg=>obtain⟨a9,l9,rfl⟩:=List.exists_cons_of_ne_nil AL;go_enter Tryz.func48,Tryz.ntmps48;go_wp2_with fail;all_goals (go_ret;exact⟨0,rfl,HB.out,.inl rfl,λe=>absurd e (by decide)⟩)
 subst AL;by_cases AC:group=[]
 case neg=>obtain⟨a9,l9,rfl⟩:=List.exists_cons_of_ne_nil AC;go_enter Tryz.func48,Tryz.ntmps48;go_wp2_with fail;all_goals (go_ret;exact⟨0,rfl,HB.out,.inl rfl,λe=>absurd e (by decide)⟩)
 subst AC;by_cases AO:ms= -62135596800
 case neg=>
       have b1: (ms== -62135596800)=false:=by simpa using AO
       have b2: (ms != -62135596800)=true:=by simpa using AO
       go_enter Tryz.func48,Tryz.ntmps48;go_wp2_with fail;all_goals (go_ret;exact⟨0,rfl,HB.out,.inl rfl,λe=>absurd e (by decide)⟩)
 subst AO;by_cases AM:mn=0
 case neg=>
       have b1: (mn==0)=false:=by simpa using AM
       have b2: (mn !=0)=true:=by simpa using AM
       go_enter Tryz.func48,Tryz.ntmps48;go_wp2_with fail;all_goals (go_ret;exact⟨0,rfl,HB.out,.inl rfl,λe=>absurd e (by decide)⟩)
 subst AM;cases hasA
 case true=>go_enter Tryz.func48,Tryz.ntmps48;go_wp2_with fail;all_goals (go_ret;exact⟨0,rfl,HB.out,.inl rfl,λe=>absurd e (by decide)⟩)
 cases hasC
 case true=>go_enter Tryz.func48,Tryz.ntmps48;go_wp2_with fail;all_goals (go_ret;exact⟨0,rfl,HB.out,.inl rfl,λe=>absurd e (by decide)⟩)
 by_cases AG:maj=0
 case neg=>
       have b1: (maj==0)=false:=by simpa using AG
       have b2: (maj !=0)=true:=by simpa using AG
       go_enter Tryz.func48,Tryz.ntmps48;go_wp2_with fail;all_goals (go_ret;exact⟨0,rfl,HB.out,.inl rfl,λe=>absurd e (by decide)⟩)
 subst AG;by_cases AH:mnr=0
 case neg=>
       have b1: (mnr==0)=false:=by simpa using AH
       have b2: (mnr !=0)=true:=by simpa using AH
       go_enter Tryz.func48,Tryz.ntmps48;go_wp2_with fail;all_goals (go_ret;exact⟨0,rfl,HB.out,.inl rfl,λe=>absurd e (by decide)⟩)
 subst AH;by_cases AP:L=[]
 case pos=>
       have b1: ((L.length:Int)==0)=true:=by rw[AP];rfl
       clear AP;go_enter Tryz.func48,Tryz.ntmps48;go_wp2_with fail;all_goals (go_ret;exact⟨0,rfl,HB.out,.inl rfl,λe=>absurd e (by decide)⟩)
 have b1: ((L.length:Int)==0)=false:=by rw[zG];have:=List.length_pos_iff.2 AP;omega
 by_cases Af:fmt=0\/fmt=2
 case neg=>
       have f1: (fmt==0)=false:=by rw[zG];omega
       have f2: (fmt !=0)=true:=by simp only[bne,f1];rfl
       have f3: (fmt==2)=false:=by rw[zG];omega
       have f4: (fmt !=2)=true:=by simp only[bne,f3];rfl
       go_enter Tryz.func48,Tryz.ntmps48;go_wp2_with fail;all_goals (go_ret;exact⟨0,rfl,HB.out,.inl rfl,λe=>absurd e (by decide)⟩)
 have Aa:=A0 AP;have Ab:=A0 (A8S _ L _ HR.out Ad);clear AP;go_enter Tryz.func48,Tryz.ntmps48
 rcases Af with rfl|rfl
 all_goals
  go_wp2_with fail
  refine Ab.out.mono ?_;rintro e w1 ⟨rv,rfl,AR,-,-,AT⟩;obtain⟨AW,AV,rfl,-⟩:=id AR;have AZ:=A0 (B0J 2 (gx (.slice AW L.length AV)) L w1 AR (by show 1+0+0+0+L1 L<=_;omega) Ac.out (by omega) (by show(1:Nat)<=2147483647;decide) (by show(0:Nat)<=2147483647;decide) (by show(0:Nat)<=2147483647;decide) (by show(0:Nat)<=2147483647;decide));have AS:=A0 (HB.out.trans (AT.mono HB.out.size));have AY:=A0 (C0E AW L.length AV);clear AR AT;go_wp2_with (first|(refine A1k rfl 31 _ rfl _ rfl _ AY.out ?_)|fail)
  refine AZ.out.mono ?_;rintro e w2 ⟨v,rfl,AU,hv,hp⟩;have AX:=A0 (AS.out.trans (AU.mono AS.out.size));have HP:=A0 hp;have HV:=A0 hv;clear hp hv AU;go_wp2_with fail
  go_ret
  exact⟨v,rfl,AX.out,HV.out,λe=>⟨rfl,rfl,rfl,rfl,rfl,rfl,rfl,rfl,rfl,rfl,rfl,rfl,rfl,rfl,Aa.out,by first|exact .inl rfl|exact .inr rfl,_,HP.out e⟩⟩
theorem C0V {w:World} {v:Value} {bs:List UInt8} (h:A4W w v bs): (convert 35 9 v).run Tryz.prog w= .ok (str bs) w:=by
 obtain⟨p,c,rfl,-,-,h|⟨g,o,rfl,-,AA⟩⟩:=h
 ·subst h
  cases p with
  |none=>simp[convert,go_sem,Conv.bytesToString];rfl
  |some a=>exact run_convert_bytes_back w 35 9 5 a c [] Tryz.underlying35 Tryz.underlying5 Tryz.underlying9 (λj hj=>absurd hj (Nat.not_lt_zero _))
 ·exact O1 w g o c bs AA
theorem B9F (a b:Value) (bs:List UInt8) (w:World) (h1:A4W w a bs) (h2:A4W w b bs):Calls Tryz.prog 49 #[a,b] w (C4 w (.bool true)):=by
 have h3:=C0V h1;have h4:=C0V h2;clear h1 h2;go_enter Tryz.func49,Tryz.ntmps49
 go_wp2_with fail
 go_ret
 exact⟨rfl,rfl⟩
end Go.Proofs.YtkanmkcojlefbaaGreatDoor
