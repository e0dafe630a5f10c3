/-
  Part of the proof; holds the texts RMerge, Rfmt, Nm.
-/
import Derived.Test.YtkanmkcojlefbaaGreatDoorM08
set_option maxHeartbeats 8000000
set_option maxRecDepth 100000
set_option linter.unusedSimpArgs false
set_option linter.unusedVariables false
namespace Go.Proofs.YtkanmkcojlefbaaGreatDoor
open Go.RowKit Go.Lib
def mrg (H:Hd) (P:Pax) (dn:List UInt8->Bool):Hd:=
 {H with name:=if dn H0 then P.path.getD H.name else H.name,link:=if dn I3 then P.link.getD H.link else H.link,user:=if dn F8 then P.uname.getD H.user else H.user,group:=if dn F7 then P.gname.getD H.group else H.group,uid:=if dn V2 then P.uid.getD H.uid else H.uid,gid:=if dn V1 then P.gid.getD H.gid else H.gid,size:=if dn N9 then P.size.getD H.size else H.size,mw:=if dn H6 then(P.mtime.map (·.1)).getD H.mw else H.mw,mx:=if dn H6 then(P.mtime.map λt=>t.2+62135596800).getD H.mx else H.mx,aw:=if dn J5 then(P.atime.map (·.1)).getD H.aw else H.aw,ax:=if dn J5 then(P.atime.map λt=>t.2+62135596800).getD H.ax else H.ax,cw:=if dn J6 then(P.ctime.map (·.1)).getD H.cw else H.cw,cx:=if dn J6 then(P.ctime.map λt=>t.2+62135596800).getD H.cx else H.cx}
theorem B2p (H:Hd) (P:Pax):mrg H P (λ_=>false)=H:=rfl
theorem A4Z (H:Hd) (P:Pax) (d d':List UInt8->Bool) (h:∀k∈F6,d' k=d k):mrg H P d'=mrg H P d:=by
 have h1:=h H0 (by decide);have h2:=h I3 (by decide);have h3:=h F8 (by decide);have h4:=h F7 (by decide);have h5:=h V2 (by decide);have h6:=h V1 (by decide);have h7:=h N9 (by decide);have h8:=h H6 (by decide);have h9:=h J5 (by decide);have h0:=h J6 (by decide);simp only[mrg,h1,h2,h3,h4,h5,h6,h7,h8,h9,h0]
theorem B2q (H:Hd) (P:Pax) (d d':List UInt8->Bool) (v:List UInt8) (hv:P.path=some v) (h1:d' H0=true) (hz:∀z,z≠H0->d' z=d z): (mrg H P d).cells.set 1 (str v)=(mrg H P d').cells:=by
 have o0:=hz I3 (by decide);have o1:=hz N9 (by decide);have o2:=hz V2 (by decide);have o3:=hz V1 (by decide);have o4:=hz F8 (by decide);have o5:=hz F7 (by decide);have o6:=hz H6 (by decide);have o7:=hz J5 (by decide);have o8:=hz J6 (by decide);simp[mrg,Hd.cells,hv,h1,o0,o1,o2,o3,o4,o5,o6,o7,o8]
theorem B2o (H:Hd) (P:Pax) (d d':List UInt8->Bool) (v:List UInt8) (hv:P.link=some v) (h1:d' I3=true) (hz:∀z,z≠I3->d' z=d z): (mrg H P d).cells.set 2 (str v)=(mrg H P d').cells:=by
 have o0:=hz H0 (by decide);have o1:=hz N9 (by decide);have o2:=hz V2 (by decide);have o3:=hz V1 (by decide);have o4:=hz F8 (by decide);have o5:=hz F7 (by decide);have o6:=hz H6 (by decide);have o7:=hz J5 (by decide);have o8:=hz J6 (by decide);simp[mrg,Hd.cells,hv,h1,o0,o1,o2,o3,o4,o5,o6,o7,o8]
theorem B2r (H:Hd) (P:Pax) (d d':List UInt8->Bool) (v:Int) (hv:P.size=some v) (h1:d' N9=true) (hz:∀z,z≠N9->d' z=d z): (mrg H P d).cells.set 3 (.int .i64 v)=(mrg H P d').cells:=by
 have o0:=hz H0 (by decide);have o1:=hz I3 (by decide);have o2:=hz V2 (by decide);have o3:=hz V1 (by decide);have o4:=hz F8 (by decide);have o5:=hz F7 (by decide);have o6:=hz H6 (by decide);have o7:=hz J5 (by decide);have o8:=hz J6 (by decide);simp[mrg,Hd.cells,hv,h1,o0,o1,o2,o3,o4,o5,o6,o7,o8]
theorem B4G (H:Hd) (P:Pax) (d d':List UInt8->Bool) (v:Int) (hv:P.uid=some v) (h1:d' V2=true) (hz:∀z,z≠V2->d' z=d z): (mrg H P d).cells.set 5 (.int .i64 v)=(mrg H P d').cells:=by
 have o0:=hz H0 (by decide);have o1:=hz I3 (by decide);have o2:=hz N9 (by decide);have o3:=hz V1 (by decide);have o4:=hz F8 (by decide);have o5:=hz F7 (by decide);have o6:=hz H6 (by decide);have o7:=hz J5 (by decide);have o8:=hz J6 (by decide);simp[mrg,Hd.cells,hv,h1,o0,o1,o2,o3,o4,o5,o6,o7,o8]
theorem B4F (H:Hd) (P:Pax) (d d':List UInt8->Bool) (v:Int) (hv:P.gid=some v) (h1:d' V1=true) (hz:∀z,z≠V1->d' z=d z): (mrg H P d).cells.set 6 (.int .i64 v)=(mrg H P d').cells:=by
 have o0:=hz H0 (by decide);have o1:=hz I3 (by decide);have o2:=hz N9 (by decide);have o3:=hz V2 (by decide);have o4:=hz F8 (by decide);have o5:=hz F7 (by decide);have o6:=hz H6 (by decide);have o7:=hz J5 (by decide);have o8:=hz J6 (by decide);simp[mrg,Hd.cells,hv,h1,o0,o1,o2,o3,o4,o5,o6,o7,o8]
theorem B0t (H:Hd) (P:Pax) (d d':List UInt8->Bool) (v:List UInt8) (hv:P.uname=some v) (h1:d' F8=true) (hz:∀z,z≠F8->d' z=d z): (mrg H P d).cells.set 7 (str v)=(mrg H P d').cells:=by
 have o0:=hz H0 (by decide);have o1:=hz I3 (by decide);have o2:=hz N9 (by decide);have o3:=hz V2 (by decide);have o4:=hz V1 (by decide);have o5:=hz F7 (by decide);have o6:=hz H6 (by decide);have o7:=hz J5 (by decide);have o8:=hz J6 (by decide);simp[mrg,Hd.cells,hv,h1,o0,o1,o2,o3,o4,o5,o6,o7,o8]
theorem B0r (H:Hd) (P:Pax) (d d':List UInt8->Bool) (v:List UInt8) (hv:P.gname=some v) (h1:d' F7=true) (hz:∀z,z≠F7->d' z=d z): (mrg H P d).cells.set 8 (str v)=(mrg H P d').cells:=by
 have o0:=hz H0 (by decide);have o1:=hz I3 (by decide);have o2:=hz N9 (by decide);have o3:=hz V2 (by decide);have o4:=hz V1 (by decide);have o5:=hz F8 (by decide);have o6:=hz H6 (by decide);have o7:=hz J5 (by decide);have o8:=hz J6 (by decide);simp[mrg,Hd.cells,hv,h1,o0,o1,o2,o3,o4,o5,o6,o7,o8]
theorem B0s (H:Hd) (P:Pax) (d d':List UInt8->Bool) (t:Int×Int) (hv:P.mtime=some t) (h1:d' H6=true) (hz:∀z,z≠H6->d' z=d z): ((mrg H P d).cells.set 9 (.int .u64 t.1)).set 10 (.int .i64 (t.2+62135596800))=(mrg H P d').cells:=by
 have o0:=hz H0 (by decide);have o1:=hz I3 (by decide);have o2:=hz N9 (by decide);have o3:=hz V2 (by decide);have o4:=hz V1 (by decide);have o5:=hz F8 (by decide);have o6:=hz F7 (by decide);have o7:=hz J5 (by decide);have o8:=hz J6 (by decide);simp[mrg,Hd.cells,hv,h1,o0,o1,o2,o3,o4,o5,o6,o7,o8]
theorem B0p (H:Hd) (P:Pax) (d d':List UInt8->Bool) (t:Int×Int) (hv:P.atime=some t) (h1:d' J5=true) (hz:∀z,z≠J5->d' z=d z): ((mrg H P d).cells.set 11 (.int .u64 t.1)).set 12 (.int .i64 (t.2+62135596800))=(mrg H P d').cells:=by
 have o0:=hz H0 (by decide);have o1:=hz I3 (by decide);have o2:=hz N9 (by decide);have o3:=hz V2 (by decide);have o4:=hz V1 (by decide);have o5:=hz F8 (by decide);have o6:=hz F7 (by decide);have o7:=hz H6 (by decide);have o8:=hz J6 (by decide);simp[mrg,Hd.cells,hv,h1,o0,o1,o2,o3,o4,o5,o6,o7,o8]
theorem B0q (H:Hd) (P:Pax) (d d':List UInt8->Bool) (t:Int×Int) (hv:P.ctime=some t) (h1:d' J6=true) (hz:∀z,z≠J6->d' z=d z): ((mrg H P d).cells.set 13 (.int .u64 t.1)).set 14 (.int .i64 (t.2+62135596800))=(mrg H P d').cells:=by
 have o0:=hz H0 (by decide);have o1:=hz I3 (by decide);have o2:=hz N9 (by decide);have o3:=hz V2 (by decide);have o4:=hz V1 (by decide);have o5:=hz F8 (by decide);have o6:=hz F7 (by decide);have o7:=hz H6 (by decide);have o8:=hz J5 (by decide);simp[mrg,Hd.cells,hv,h1,o0,o1,o2,o3,o4,o5,o6,o7,o8]
def A4Q (m:KV) (AA:List UInt8->Bool):List UInt8->Bool:=λk=>(m k).isSome&& !AA k
theorem S7 (m:KV) (AA:List UInt8->Bool) (k z:List UInt8) (h:z≠k):A4Q m (λz=>AA z&& !decide (z=k)) z=A4Q m AA z:=by simp[A4Q,h]
theorem Y8 (m:KV) (AA:List UInt8->Bool) (k v:List UInt8) (h:m k=some v):A4Q m (λz=>AA z&& !decide (z=k)) k=true:=by simp[A4Q,h]
structure MOk (m:KV) (P:Pax):Prop extends B4p m P where
 ne:∀k v,m k=some v->v≠ []
 sch:∀k v,m k=some v->Lib.hasPrefix k [83,67,72,73,76,89,46,120,97,116,116,114,46]=false
 len:∀k v,m k=some v->v.length<=1048576
def MRS (H:Hd) (m:KV) (P:Pax) (hb rb nR r0:Nat) (w0 w:World):Prop:=
 ∃AA AB,K9 w rb r0 nR m AA AB/\w.heap[hb]?=some (.cells (mrg H P (A4Q m AA)).cells.toArray 130 (0,0))/\Fr w0.heap.size [hb,r0] w0 w
theorem U3 {m:KV} {hb rb nR r0:Nat} {w0 w:World} {AA:List UInt8->Bool} {AB:Nat} (h1:K9 w rb r0 nR m AA AB) {cs:List Value} (h2:w.heap[hb]?=some (.cells cs.toArray 130 (0,0))) (h3:Fr w0.heap.size [hb,r0] w0 w) (i:Nat) (v:Value) (AC:rb≠hb) (AD:r0≠hb):
  K9 (w.setCell ⟨hb,i,none⟩ v) rb r0 nR m AA AB/\(w.setCell ⟨hb,i,none⟩ v).heap[hb]?=some (.cells (cs.set i v).toArray 130 (0,0))/\Fr w0.heap.size [hb,r0] w0 (w.setCell ⟨hb,i,none⟩ v):=by
 refine⟨h1.block (C0 _ AC) (C0 _ AD),?_,h3.setCell (p:=⟨hb,i,none⟩) (.inl (by simp)) _⟩;have:=B6 (i:=i) v h2;rw[this,List.setIfInBounds_toArray]
def A8i (H:Hd) (m:KV) (P:Pax) (hb:Nat) (mv:Value) (w:World) (e:Ending) (w':World):Prop:=
 e= .returned .nilIface/\w'.heap[hb]?=some (.cells ({mrg H P (λk=>(m k).isSome) with recs:=mv}:Hd).cells.toArray 130 (0,0))/\Fr w.heap.size [hb] w w'
theorem A7p (w:World) (hb:Nat) (H:Hd) (P:Pax) (hh:w.heap[hb]?=some (.cells H.cells.toArray 130 (0,0))):
  Calls Tryz.prog 151 #[.pointer (some ⟨hb,0,none⟩),.map none] w (A8i H (λ_=>none) P hb (.map none) w):=by
 have hr:=run_range_nilMap (P:=Tryz.prog) w 127 9 9 Tryz.underlying127;have hn:=λty=>run_next_nilMap (P:=Tryz.prog) w ty 0 0 #[];have AD:=A8 hh;have AC:=(Below.heap_alloc w (.mapIter none 0 #[] 0) hb AD).trans hh;have aA: (w.alloc (.mapIter none 0 #[] 0)).cell? ⟨hb,18,none⟩=some H.recs:=by rw[Lib.cell_of_heap AC];rfl
 have AE: (w.alloc (.mapIter none 0 #[] 0)).frozen? ⟨hb,18,none⟩=false:=Lib.frozen_of_heap AC 18;have hs: (w.setCell ⟨hb,18,none⟩ (.map none)).heap.size=w.heap.size:=by simp[World.setCell]
 have AA:A8i H (λ_=>none) P hb (.map none) w (.returned .nilIface) ((w.setCell ⟨hb,18,none⟩ (.map none)).alloc (.mapIter none 0 #[] 0)):=
  ⟨rfl,(Below.heap_alloc _ _ hb (by rw[hs];exact AD)).trans (B6 (i:=18) (.map none) hh),((Fr.refl _ _ w).setCell (p:=⟨hb,18,none⟩) (.inl (by simp)) _).alloc _⟩
 have AB:=A0 AA;clear hh AC hs AA;go_enter Tryz.func151,Tryz.ntmps151
 go_wp2_with fail
 refine wp_loop_once ?_;go_wp2_with fail
 go_ret
 exact AB.out
theorem B2n (w:World) (hb rb nR:Nat) (H:Hd) (m:KV) (P:Pax) (hh:w.heap[hb]?=some (.cells H.cells.toArray 130 (0,0))) (hm:M9 w rb nR m) (Au:MOk m P):
  Calls Tryz.prog 151 #[.pointer (some ⟨hb,0,none⟩),.map (some rb)] w (A8i H m P hb (.map (some rb)) w):=by
 have BE:=A8 hh
 have AU:rb≠hb:=by
  rintro rfl;obtain⟨D,⟨es,Ap,h1,h2⟩,h3⟩:=hm;rw[h1] at hh;cases hh
 have HH:=A0 hh;have AP:=A0 Au;clear hh Au;go_enter Tryz.func151,Tryz.ntmps151
 go_wp2_with (at_range;refine X3 _ rfl _ rfl rb nR m rfl hm ?_;intro w0 Am Af BD An BF)
 go_frame
 have AT:w.heap.size≠hb:=by omega
 have Al:Hid (MRS H m P hb rb nR w.heap.size w w0):=A0 ⟨_,Am,Af,by
  have e:mrg H P (A4Q m (λk=>(m k).isSome))=H:=by
   rw[A4Z H P (λ_=>false) _ (λk _=>by simp[A4Q]),B2p]
  rw[e];exact(An.block hb BE (by simp)).trans HH.out,Fr.of_grown An _ (λk hk=>by cases hk)⟩
 clear Af BD An BF hm;obtain⟨r0,Ac⟩:∃r0,r0=w.heap.size:=⟨_,rfl⟩;rw[<-Ac] at Al AT⊢;have Ak:=A0 Ac;clear Ac;go_loopw [4] (λs4 wr=>s4= .nilIface/\Hid (MRS H m P hb rb nR r0 w wr)) (λ_ wr=>wr.rangeLeft rb r0)
 case atStart=>exact⟨rfl,Al⟩
 case round=>
  obtain⟨rfl,hrel⟩:=hrel;obtain⟨AC,Az,Aj,Aa,Ar⟩:=hrel.out;have HC:=A0 Aa;have HF:=A0 Ar;have AY:=A0 Aj;clear hrel Aa Ar Al;go_wp2_with (at_next;refine Z1 _ rfl _ rfl rb r0 nR m AC Az rfl Aj ?_ ?_)
  ·intro BC Av
   have aA:wr.cell? ⟨hb,18,none⟩=some H.recs:=by rw[Lib.cell_of_heap HC.out];rfl
   have BP:wr.frozen? ⟨hb,18,none⟩=false:=Lib.frozen_of_heap HC.out 18;have Ay:=A0 Av;clear Aj Av BC;go_wp2_with fail
   go_ret
   have e:mrg H P (A4Q m AC)=mrg H P (λk=>(m k).isSome):=A4Z H P _ _ (λk _=>by simp[A4Q,Ay.out k]);have Aq:=HC.out;rw[e] at Aq;refine⟨rfl,B6 (i:=18) (.map (some rb)) Aq,(HF.out.setCell (p:=⟨hb,18,none⟩) (.inl (by simp)) _).wide (Nat.le_refl _) (λk hk BJ=>by have:=Ak.out;simp at hk⊢;omega)⟩
  ·intro k v w1 AM BL BO BI Ai Ag Ae Ab BH AS
   have AZ:w1.heap[hb]?=some (.cells (mrg H P (A4Q m AC)).cells.toArray 130 (0,0)):=Ab.cells HC.out (by simpa using Ne.symm AT) (.inr (by decide));have Ad:Fr w.heap.size [hb,r0] w w1:=HF.out.trans ⟨Ab.os,Ab.tape,Ab.output,Ab.size,λq o hq hS hB=>Ab.block q o hq (by simp at hS⊢;exact hS.2) (λBA=>hB (Nat.le_trans HF.out.size BA))⟩;have As:=AP.out.ne k v Ai
   have BM:v.isEmpty=false:=by cases v with
    |nil=>exact absurd rfl As
    |cons a b=>rfl
   have Aw:=AP.out.len k v Ai;have AL:=A0 Ag;have AJ:=A0 AZ;have AV:=A0 Ad;have AW:=A0 Ae;have AO:=A0 Ai;clear Aj Ag AZ Ad Ab Ae As BH BI Ai;by_cases AH:k∈F6
   ·simp only[F6,List.mem_cons,List.not_mem_nil,or_false] at AH
    rcases AH with rfl|rfl|rfl|rfl|rfl|rfl|rfl|rfl|rfl|rfl
    ·
     have hv:P.path=some v:=by rw[<-AP.out.path];exact AO.out
     have AB:=U3 AL.out AJ.out AV.out 1 (str v) AU AT;rw[B2q H P _ _ v hv (Y8 m AC H0 v AO.out) (λz hz=>S7 m AC H0 z hz)] at AB;have AA:=A0 AB;have c1:∃u,w1.cell? ⟨hb,1,none⟩=some u:=⟨_,by rw[Lib.cell_of_heap AJ.out];rfl⟩;obtain⟨u,c1⟩:=c1;have z1:w1.frozen? ⟨hb,1,none⟩=false:=Lib.frozen_of_heap AJ.out 1;unfold H0 at AS⊢;clear AB hv;go_wp2_with fail
     go_roundw
     case rel=>exact⟨rfl,A0 ⟨_,AM,AA.out.1,AA.out.2.1,AA.out.2.2⟩⟩
     case measure=>rw[AA.out.1.left_eq,AY.out.left_eq];exact AW.out
    ·
     have hv:P.link=some v:=by rw[<-AP.out.link];exact AO.out
     have AB:=U3 AL.out AJ.out AV.out 2 (str v) AU AT;rw[B2o H P _ _ v hv (Y8 m AC I3 v AO.out) (λz hz=>S7 m AC I3 z hz)] at AB;have AA:=A0 AB;have c1:∃u,w1.cell? ⟨hb,2,none⟩=some u:=⟨_,by rw[Lib.cell_of_heap AJ.out];rfl⟩;obtain⟨u,c1⟩:=c1;have z1:w1.frozen? ⟨hb,2,none⟩=false:=Lib.frozen_of_heap AJ.out 2;unfold I3 at AS⊢;clear AB hv;go_wp2_with fail
     go_roundw
     case rel=>exact⟨rfl,A0 ⟨_,AM,AA.out.1,AA.out.2.1,AA.out.2.2⟩⟩
     case measure=>rw[AA.out.1.left_eq,AY.out.left_eq];exact AW.out
    ·
     obtain⟨n,hv,AR⟩:∃n,P.size=some n/\v=itoa n:=by
      have:=AP.out.size;rw[AO.out] at this;cases hp:P.size with
      |none=>rw[hp] at this;cases this
      |some n=>rw[hp] at this;exact⟨n,rfl,by simpa using this⟩
     have AI:=AP.out.sizeIn n (by rw[hv];rfl);have AX:=A0 (λwx=>Y3 wx v (by omega) n (by rw[AR];exact T0 n AI.1 AI.2));unfold N9 at AS⊢;have HV:=A0 hv;clear hv AR AI;go_wp2_with fail
     refine(AX.out _).mono ?_;rintro e w2 ⟨rfl,AG⟩;have AE:=(AG.block hb (A8 AJ.out)).trans AJ.out;have AB:=U3 (AL.out.below AG) AE (AV.out.trans (Fr.of_below AG _ _)) 3 (.int .i64 n) AU AT;have AQ:=AO.out;rw[B2r H P _ _ n HV.out (Y8 m AC _ v AQ) (λz hz=>S7 m AC _ z hz)] at AB;have AA:=A0 AB;have c1:∃u,w2.cell? ⟨hb,3,none⟩=some u:=⟨_,by rw[Lib.cell_of_heap AE];rfl⟩;obtain⟨u,c1⟩:=c1;have z1:w2.frozen? ⟨hb,3,none⟩=false:=Lib.frozen_of_heap AE 3;clear AB AE AG AQ AS;go_wp2_with fail
     go_roundw
     case rel=>exact⟨rfl,A0 ⟨_,AM,AA.out.1,AA.out.2.1,AA.out.2.2⟩⟩
     case measure=>rw[AA.out.1.left_eq,AY.out.left_eq];exact AW.out
    ·
     obtain⟨n,hv,AR⟩:∃n,P.uid=some n/\v=itoa n:=by
      have:=AP.out.uid;rw[AO.out] at this;cases hp:P.uid with
      |none=>rw[hp] at this;cases this
      |some n=>rw[hp] at this;exact⟨n,rfl,by simpa using this⟩
     have AI:=AP.out.uidIn n (by rw[hv];rfl);have AX:=A0 (λwx=>Y3 wx v (by omega) n (by rw[AR];exact T0 n AI.1 AI.2));unfold V2 at AS⊢;have HV:=A0 hv;clear hv AR AI;go_wp2_with fail
     refine(AX.out _).mono ?_;rintro e w2 ⟨rfl,AG⟩;have AE:=(AG.block hb (A8 AJ.out)).trans AJ.out;have AB:=U3 (AL.out.below AG) AE (AV.out.trans (Fr.of_below AG _ _)) 5 (.int .i64 n) AU AT;have AQ:=AO.out;rw[B4G H P _ _ n HV.out (Y8 m AC _ v AQ) (λz hz=>S7 m AC _ z hz)] at AB;have AA:=A0 AB;have c1:∃u,w2.cell? ⟨hb,5,none⟩=some u:=⟨_,by rw[Lib.cell_of_heap AE];rfl⟩;obtain⟨u,c1⟩:=c1;have z1:w2.frozen? ⟨hb,5,none⟩=false:=Lib.frozen_of_heap AE 5;clear AB AE AG AQ AS;go_wp2_with fail
     go_roundw
     case rel=>exact⟨rfl,A0 ⟨_,AM,AA.out.1,AA.out.2.1,AA.out.2.2⟩⟩
     case measure=>rw[AA.out.1.left_eq,AY.out.left_eq];exact AW.out
    ·
     obtain⟨n,hv,AR⟩:∃n,P.gid=some n/\v=itoa n:=by
      have:=AP.out.gid;rw[AO.out] at this;cases hp:P.gid with
      |none=>rw[hp] at this;cases this
      |some n=>rw[hp] at this;exact⟨n,rfl,by simpa using this⟩
     have AI:=AP.out.gidIn n (by rw[hv];rfl);have AX:=A0 (λwx=>Y3 wx v (by omega) n (by rw[AR];exact T0 n AI.1 AI.2));unfold V1 at AS⊢;have HV:=A0 hv;clear hv AR AI;go_wp2_with fail
     refine(AX.out _).mono ?_;rintro e w2 ⟨rfl,AG⟩;have AE:=(AG.block hb (A8 AJ.out)).trans AJ.out;have AB:=U3 (AL.out.below AG) AE (AV.out.trans (Fr.of_below AG _ _)) 6 (.int .i64 n) AU AT;have AQ:=AO.out;rw[B4F H P _ _ n HV.out (Y8 m AC _ v AQ) (λz hz=>S7 m AC _ z hz)] at AB;have AA:=A0 AB;have c1:∃u,w2.cell? ⟨hb,6,none⟩=some u:=⟨_,by rw[Lib.cell_of_heap AE];rfl⟩;obtain⟨u,c1⟩:=c1;have z1:w2.frozen? ⟨hb,6,none⟩=false:=Lib.frozen_of_heap AE 6;clear AB AE AG AQ AS;go_wp2_with fail
     go_roundw
     case rel=>exact⟨rfl,A0 ⟨_,AM,AA.out.1,AA.out.2.1,AA.out.2.2⟩⟩
     case measure=>rw[AA.out.1.left_eq,AY.out.left_eq];exact AW.out
    ·
     have hv:P.uname=some v:=by rw[<-AP.out.uname];exact AO.out
     have AB:=U3 AL.out AJ.out AV.out 7 (str v) AU AT;rw[B0t H P _ _ v hv (Y8 m AC F8 v AO.out) (λz hz=>S7 m AC F8 z hz)] at AB;have AA:=A0 AB;have c1:∃u,w1.cell? ⟨hb,7,none⟩=some u:=⟨_,by rw[Lib.cell_of_heap AJ.out];rfl⟩;obtain⟨u,c1⟩:=c1;have z1:w1.frozen? ⟨hb,7,none⟩=false:=Lib.frozen_of_heap AJ.out 7;unfold F8 at AS⊢;clear AB hv;go_wp2_with fail
     go_roundw
     case rel=>exact⟨rfl,A0 ⟨_,AM,AA.out.1,AA.out.2.1,AA.out.2.2⟩⟩
     case measure=>rw[AA.out.1.left_eq,AY.out.left_eq];exact AW.out
    ·
     have hv:P.gname=some v:=by rw[<-AP.out.gname];exact AO.out
     have AB:=U3 AL.out AJ.out AV.out 8 (str v) AU AT;rw[B0r H P _ _ v hv (Y8 m AC F7 v AO.out) (λz hz=>S7 m AC F7 z hz)] at AB;have AA:=A0 AB;have c1:∃u,w1.cell? ⟨hb,8,none⟩=some u:=⟨_,by rw[Lib.cell_of_heap AJ.out];rfl⟩;obtain⟨u,c1⟩:=c1;have z1:w1.frozen? ⟨hb,8,none⟩=false:=Lib.frozen_of_heap AJ.out 8;unfold F7 at AS⊢;clear AB hv;go_wp2_with fail
     go_roundw
     case rel=>exact⟨rfl,A0 ⟨_,AM,AA.out.1,AA.out.2.1,AA.out.2.2⟩⟩
     case measure=>rw[AA.out.1.left_eq,AY.out.left_eq];exact AW.out
    ·
     obtain⟨t,hv,AR⟩:∃t,P.mtime=some t/\v=C9 t.2 t.1:=by
      have:=AP.out.mtime;rw[AO.out] at this;cases hp:P.mtime with
      |none=>rw[hp] at this;cases this
      |some t=>rw[hp] at this;exact⟨t,rfl,by simpa using this⟩
     have AI:=AP.out.mtimeIn t (by rw[hv];rfl);have AX:=A0 (λwx=>by have:=A3h wx t.2 t.1 ⟨AI.1,AI.2.1⟩ AI.2.2;rw[<-AR] at this;exact this);unfold H6 at AS⊢;have HV:=A0 hv;clear hv AR AI;obtain⟨tn,ts⟩:=t;go_wp2_with fail
     refine(AX.out _).mono ?_;rintro e w2 ⟨rfl,AG⟩;have AE:=(AG.block hb (A8 AJ.out)).trans AJ.out;have AD:=U3 (AL.out.below AG) AE (AV.out.trans (Fr.of_below AG _ _)) 9 (.int .u64 tn) AU AT;have AB:=U3 AD.1 AD.2.1 AD.2.2 10 (.int .i64 (ts+62135596800)) AU AT;have AQ:=AO.out;rw[B0s H P _ _ (tn,ts) HV.out (Y8 m AC _ v AQ) (λz hz=>S7 m AC _ z hz)] at AB;have AA:=A0 AB;have c1:∃u,w2.cell? ⟨hb,9,none⟩=some u:=⟨_,by rw[Lib.cell_of_heap AE];rfl⟩;obtain⟨u,c1⟩:=c1;have c2:∃u,w2.cell? ⟨hb,10,none⟩=some u:=⟨_,by rw[Lib.cell_of_heap AE];rfl⟩;obtain⟨u2,c2⟩:=c2;have z1:w2.frozen? ⟨hb,9,none⟩=false:=Lib.frozen_of_heap AE 9;have z2:w2.frozen? ⟨hb,10,none⟩=false:=Lib.frozen_of_heap AE 10;clear AB AD AE AG AQ AS;go_wp2_with fail
     go_roundw
     case rel=>exact⟨rfl,A0 ⟨_,AM,AA.out.1,AA.out.2.1,AA.out.2.2⟩⟩
     case measure=>rw[AA.out.1.left_eq,AY.out.left_eq];exact AW.out
    ·
     obtain⟨t,hv,AR⟩:∃t,P.atime=some t/\v=C9 t.2 t.1:=by
      have:=AP.out.atime;rw[AO.out] at this;cases hp:P.atime with
      |none=>rw[hp] at this;cases this
      |some t=>rw[hp] at this;exact⟨t,rfl,by simpa using this⟩
     have AI:=AP.out.atimeIn t (by rw[hv];rfl);have AX:=A0 (λwx=>by have:=A3h wx t.2 t.1 ⟨AI.1,AI.2.1⟩ AI.2.2;rw[<-AR] at this;exact this);unfold J5 at AS⊢;have HV:=A0 hv;clear hv AR AI;obtain⟨tn,ts⟩:=t;go_wp2_with fail
     refine(AX.out _).mono ?_;rintro e w2 ⟨rfl,AG⟩;have AE:=(AG.block hb (A8 AJ.out)).trans AJ.out;have AD:=U3 (AL.out.below AG) AE (AV.out.trans (Fr.of_below AG _ _)) 11 (.int .u64 tn) AU AT;have AB:=U3 AD.1 AD.2.1 AD.2.2 12 (.int .i64 (ts+62135596800)) AU AT;have AQ:=AO.out;rw[B0p H P _ _ (tn,ts) HV.out (Y8 m AC _ v AQ) (λz hz=>S7 m AC _ z hz)] at AB;have AA:=A0 AB;have c1:∃u,w2.cell? ⟨hb,11,none⟩=some u:=⟨_,by rw[Lib.cell_of_heap AE];rfl⟩;obtain⟨u,c1⟩:=c1;have c2:∃u,w2.cell? ⟨hb,12,none⟩=some u:=⟨_,by rw[Lib.cell_of_heap AE];rfl⟩;obtain⟨u2,c2⟩:=c2;have z1:w2.frozen? ⟨hb,11,none⟩=false:=Lib.frozen_of_heap AE 11;have z2:w2.frozen? ⟨hb,12,none⟩=false:=Lib.frozen_of_heap AE 12;clear AB AD AE AG AQ AS;go_wp2_with fail
     go_roundw
     case rel=>exact⟨rfl,A0 ⟨_,AM,AA.out.1,AA.out.2.1,AA.out.2.2⟩⟩
     case measure=>rw[AA.out.1.left_eq,AY.out.left_eq];exact AW.out
    ·
     obtain⟨t,hv,AR⟩:∃t,P.ctime=some t/\v=C9 t.2 t.1:=by
      have:=AP.out.ctime;rw[AO.out] at this;cases hp:P.ctime with
      |none=>rw[hp] at this;cases this
      |some t=>rw[hp] at this;exact⟨t,rfl,by simpa using this⟩
     have AI:=AP.out.ctimeIn t (by rw[hv];rfl);have AX:=A0 (λwx=>by have:=A3h wx t.2 t.1 ⟨AI.1,AI.2.1⟩ AI.2.2;rw[<-AR] at this;exact this);unfold J6 at AS⊢;have HV:=A0 hv;clear hv AR AI;obtain⟨tn,ts⟩:=t;go_wp2_with fail
     refine(AX.out _).mono ?_;rintro e w2 ⟨rfl,AG⟩;have AE:=(AG.block hb (A8 AJ.out)).trans AJ.out;have AD:=U3 (AL.out.below AG) AE (AV.out.trans (Fr.of_below AG _ _)) 13 (.int .u64 tn) AU AT;have AB:=U3 AD.1 AD.2.1 AD.2.2 14 (.int .i64 (ts+62135596800)) AU AT;have AQ:=AO.out;rw[B0q H P _ _ (tn,ts) HV.out (Y8 m AC _ v AQ) (λz hz=>S7 m AC _ z hz)] at AB;have AA:=A0 AB;have c1:∃u,w2.cell? ⟨hb,13,none⟩=some u:=⟨_,by rw[Lib.cell_of_heap AE];rfl⟩;obtain⟨u,c1⟩:=c1;have c2:∃u,w2.cell? ⟨hb,14,none⟩=some u:=⟨_,by rw[Lib.cell_of_heap AE];rfl⟩;obtain⟨u2,c2⟩:=c2;have z1:w2.frozen? ⟨hb,13,none⟩=false:=Lib.frozen_of_heap AE 13;have z2:w2.frozen? ⟨hb,14,none⟩=false:=Lib.frozen_of_heap AE 14;clear AB AD AE AG AQ AS;go_wp2_with fail
     go_roundw
     case rel=>exact⟨rfl,A0 ⟨_,AM,AA.out.1,AA.out.2.1,AA.out.2.2⟩⟩
     case measure=>rw[AA.out.1.left_eq,AY.out.left_eq];exact AW.out
   ·have Ah:=AP.out.sch k v AO.out
    have Ao:=A4v w1 k [83,67,72,73,76,89,46,120,97,116,116,114,46];rw[Ah] at Ao;have Ax:=A0 Ao;have q0: (k==[112,97,116,104])=false:=by rw[beq_eq_false_iff_ne];rintro rfl;exact AH (by decide)
    have q1: (k==[108,105,110,107,112,97,116,104])=false:=by rw[beq_eq_false_iff_ne];rintro rfl;exact AH (by decide)
    have q2: (k==[115,105,122,101])=false:=by rw[beq_eq_false_iff_ne];rintro rfl;exact AH (by decide)
    have q3: (k==[117,105,100])=false:=by rw[beq_eq_false_iff_ne];rintro rfl;exact AH (by decide)
    have q4: (k==[103,105,100])=false:=by rw[beq_eq_false_iff_ne];rintro rfl;exact AH (by decide)
    have q5: (k==[117,110,97,109,101])=false:=by rw[beq_eq_false_iff_ne];rintro rfl;exact AH (by decide)
    have q6: (k==[103,110,97,109,101])=false:=by rw[beq_eq_false_iff_ne];rintro rfl;exact AH (by decide)
    have q7: (k==[109,116,105,109,101])=false:=by rw[beq_eq_false_iff_ne];rintro rfl;exact AH (by decide)
    have q8: (k==[97,116,105,109,101])=false:=by rw[beq_eq_false_iff_ne];rintro rfl;exact AH (by decide)
    have q9: (k==[99,116,105,109,101])=false:=by rw[beq_eq_false_iff_ne];rintro rfl;exact AH (by decide)
    have AB:MRS H m P hb rb nR r0 w w1:=⟨_,AM,AL.out,by rw[A4Z H P (A4Q m AC) _ (λz hz=>S7 m AC k z (λe=>AH (e▸hz)))];exact AJ.out,AV.out⟩;have AA:=A0 AB;clear Ah Ao AB AH;go_wp2_with fail
    refine Ax.out.mono ?_;rintro e wx ⟨rfl,rfl⟩;go_wp2_with fail
    go_roundw
    case rel=>exact⟨rfl,AA⟩
    case measure=>rw[AL.out.left_eq,AY.out.left_eq];exact AW.out
end Go.Proofs.YtkanmkcojlefbaaGreatDoor
namespace Go.Proofs.YtkanmkcojlefbaaGreatDoor
open Go.RowKit
theorem At.mid {w:World} {g o:Nat} {a f c:List UInt8} (h:At w g o (Lib.byteCells (a++(f++c)))):At w g (o+a.length) (Lib.byteCells f):=by
 have h1:=(h.drop a.length).take f.length
 have e: ((Lib.byteCells (a++(f++c))).drop a.length).take f.length=Lib.byteCells f:=by
  rw[Lib.byteCells_append,Lib.byteCells_append];rw[show a.length=(Lib.byteCells a).length by rw[Lib.byteCells_length],List.drop_left];rw[show f.length=(Lib.byteCells f).length by rw[Lib.byteCells_length],List.take_left]
 rwa [e] at h1
theorem At.get_name {w:World} {g o:Nat} {B:C1} (AA:B.Ok) (h:At w g o (Lib.byteCells B.bytes)):At w g (o+0) (Lib.byteCells B.name):=by
 have:=At.mid (a:=B.bef_name) (f:=B.name) (c:=B.aft_name) (by rw[<-C1.at_name];exact h);rwa [AA.bef_name] at this
theorem At.get_mode {w:World} {g o:Nat} {B:C1} (AA:B.Ok) (h:At w g o (Lib.byteCells B.bytes)):At w g (o+100) (Lib.byteCells B.mode):=by
 have:=At.mid (a:=B.bef_mode) (f:=B.mode) (c:=B.aft_mode) (by rw[<-C1.at_mode];exact h);rwa [AA.bef_mode] at this
theorem At.get_uid {w:World} {g o:Nat} {B:C1} (AA:B.Ok) (h:At w g o (Lib.byteCells B.bytes)):At w g (o+108) (Lib.byteCells B.uid):=by
 have:=At.mid (a:=B.bef_uid) (f:=B.uid) (c:=B.aft_uid) (by rw[<-C1.at_uid];exact h);rwa [AA.bef_uid] at this
theorem At.get_gid {w:World} {g o:Nat} {B:C1} (AA:B.Ok) (h:At w g o (Lib.byteCells B.bytes)):At w g (o+116) (Lib.byteCells B.gid):=by
 have:=At.mid (a:=B.bef_gid) (f:=B.gid) (c:=B.aft_gid) (by rw[<-C1.at_gid];exact h);rwa [AA.bef_gid] at this
theorem At.get_size {w:World} {g o:Nat} {B:C1} (AA:B.Ok) (h:At w g o (Lib.byteCells B.bytes)):At w g (o+124) (Lib.byteCells B.size):=by
 have:=At.mid (a:=B.bef_size) (f:=B.size) (c:=B.aft_size) (by rw[<-C1.at_size];exact h);rwa [AA.bef_size] at this
theorem At.get_mtime {w:World} {g o:Nat} {B:C1} (AA:B.Ok) (h:At w g o (Lib.byteCells B.bytes)):At w g (o+136) (Lib.byteCells B.mtime):=by
 have:=At.mid (a:=B.bef_mtime) (f:=B.mtime) (c:=B.aft_mtime) (by rw[<-C1.at_mtime];exact h);rwa [AA.bef_mtime] at this
theorem At.get_chk {w:World} {g o:Nat} {B:C1} (AA:B.Ok) (h:At w g o (Lib.byteCells B.bytes)):At w g (o+148) (Lib.byteCells B.chk):=by
 have:=At.mid (a:=B.bef_chk) (f:=B.chk) (c:=B.aft_chk) (by rw[<-C1.at_chk];exact h);rwa [AA.bef_chk] at this
theorem At.get_typ {w:World} {g o:Nat} {B:C1} (AA:B.Ok) (h:At w g o (Lib.byteCells B.bytes)):At w g (o+156) (Lib.byteCells B.typ):=by
 have:=At.mid (a:=B.bef_typ) (f:=B.typ) (c:=B.aft_typ) (by rw[<-C1.at_typ];exact h);rwa [AA.bef_typ] at this
theorem At.get_link {w:World} {g o:Nat} {B:C1} (AA:B.Ok) (h:At w g o (Lib.byteCells B.bytes)):At w g (o+157) (Lib.byteCells B.link):=by
 have:=At.mid (a:=B.bef_link) (f:=B.link) (c:=B.aft_link) (by rw[<-C1.at_link];exact h);rwa [AA.bef_link] at this
theorem At.get_magic {w:World} {g o:Nat} {B:C1} (AA:B.Ok) (h:At w g o (Lib.byteCells B.bytes)):At w g (o+257) (Lib.byteCells B.magic):=by
 have:=At.mid (a:=B.bef_magic) (f:=B.magic) (c:=B.aft_magic) (by rw[<-C1.at_magic];exact h);rwa [AA.bef_magic] at this
theorem At.get_ver {w:World} {g o:Nat} {B:C1} (AA:B.Ok) (h:At w g o (Lib.byteCells B.bytes)):At w g (o+263) (Lib.byteCells B.ver):=by
 have:=At.mid (a:=B.bef_ver) (f:=B.ver) (c:=B.aft_ver) (by rw[<-C1.at_ver];exact h);rwa [AA.bef_ver] at this
theorem At.get_user {w:World} {g o:Nat} {B:C1} (AA:B.Ok) (h:At w g o (Lib.byteCells B.bytes)):At w g (o+265) (Lib.byteCells B.user):=by
 have:=At.mid (a:=B.bef_user) (f:=B.user) (c:=B.aft_user) (by rw[<-C1.at_user];exact h);rwa [AA.bef_user] at this
theorem At.get_group {w:World} {g o:Nat} {B:C1} (AA:B.Ok) (h:At w g o (Lib.byteCells B.bytes)):At w g (o+297) (Lib.byteCells B.group):=by
 have:=At.mid (a:=B.bef_group) (f:=B.group) (c:=B.aft_group) (by rw[<-C1.at_group];exact h);rwa [AA.bef_group] at this
theorem At.get_maj {w:World} {g o:Nat} {B:C1} (AA:B.Ok) (h:At w g o (Lib.byteCells B.bytes)):At w g (o+329) (Lib.byteCells B.maj):=by
 have:=At.mid (a:=B.bef_maj) (f:=B.maj) (c:=B.aft_maj) (by rw[<-C1.at_maj];exact h);rwa [AA.bef_maj] at this
theorem At.get_mnr {w:World} {g o:Nat} {B:C1} (AA:B.Ok) (h:At w g o (Lib.byteCells B.bytes)):At w g (o+337) (Lib.byteCells B.mnr):=by
 have:=At.mid (a:=B.bef_mnr) (f:=B.mnr) (c:=B.aft_mnr) (by rw[<-C1.at_mnr];exact h);rwa [AA.bef_mnr] at this
theorem At.get_rest {w:World} {g o:Nat} {B:C1} (AA:B.Ok) (h:At w g o (Lib.byteCells B.bytes)):At w g (o+345) (Lib.byteCells B.rest):=by
 have:=At.mid (a:=B.bef_rest) (f:=B.rest) (c:=B.aft_rest) (by rw[<-C1.at_rest];exact h);rwa [AA.bef_rest] at this
theorem At.get_pre {w:World} {g o:Nat} {B:C1} (AA:B.Ok) (h:At w g o (Lib.byteCells B.bytes)):At w g (o+345) (Lib.byteCells (B.rest.take 155)):=by
 have:=(At.get_rest AA h).take 155;simpa[Lib.byteCells] using this
theorem At.get_trailer {w:World} {g o:Nat} {B:C1} (AA:B.Ok) (h:At w g o (Lib.byteCells B.bytes)):At w g (o+508) (Lib.byteCells (B.rest.drop 163)):=by
 have:=(At.get_rest AA h).drop 163;simpa[Lib.byteCells,Nat.add_assoc] using this
structure RdB (B:C1):Prop where
 ok:B.Ok
 magic:B.magic=[117,115,116,97,114,0]
 chk:B.chk=C2 7 (X8 B.bytes 512)++[32]
 end4:B.rest.drop 163=[0,0,0,0]
theorem A3Z (bs:List UInt8):X8 bs 512<8^6:=by have:=A0l bs 512;omega
theorem B0i (w:World) (g o:Nat) (T:TypeId) (AB post:List Value) (B:C1) (hR:RdB B) (hs:E4 w g T AB B.bytes post) (ho:AB.length=o):
  Calls Tryz.prog 198 #[.pointer (some ⟨g,o,none⟩)] w λe w'=>e= .returned (.int .i64 6)/\Below w.heap.size w w':=by
 have AC:At w g o (Lib.byteCells B.bytes):=At.of_heap hs (λj v hj=>by
  rw[List.getElem?_toArray,<-ho,List.append_assoc,List.getElem?_append_right (Nat.le_add_right _ _),Nat.add_sub_cancel_left,List.getElem?_append_left (List.getElem?_eq_some_iff.1 hj).1];exact hj)
 have hg:g<w.heap.size:=A8 hs;have v7:=A0 A5Z;have vu:=A0 Z0;have vs:=A0 B3W;have vc:=A0 B0M;have vm:=A0 A9l;have vv:=A0 A5a;have vt:=A0 A8P;have HO:=A0 (A2i (w.alloc (.cells #[.nilIface] 231)) (.pointer (some ⟨w.heap.size,0,none⟩)) g (o+148) 8 364 (X8 B.bytes 512) B.chk (by rw[hR.chk];exact P8.chk _ (A3Z _)) ((At.get_chk hR.ok AC).carry (Below.heap_alloc w _ g hg)) hR.ok.chk (by omega) (by omega));have AI:=A0 AC;have HR:=A0 hR;have HS:=A0 hs;have AL:=A0 ho;clear AC hR hs ho;go_enter Tryz.func198,Tryz.ntmps198
 go_wp2_with fail
 refine(v7.out _ _).mono ?_;rintro e w1 ⟨rfl,rfl⟩;go_wp2_with fail
 refine(vc.out _ _ _).mono ?_;rintro e w1 ⟨rfl,rfl⟩;go_wp2_with fail
 refine HO.out.mono ?_;rintro e w1 ⟨rfl,AD⟩;have hb:Below w.heap.size w w1:=((Below.refl _ w).alloc (Nat.le_refl _) _).trans (AD.mono (by simp))
 have AH:w1.cell? ⟨w.heap.size,0,none⟩=some .nilIface:=by
  rw[Lib.cell_of_heap ((AD.block w.heap.size (by simp)).trans (heap_alloc_new w (.cells #[.nilIface] 231)))];rfl
 have AJ:=A0 hb;have AM:Hid (E4 w1 g T AB B.bytes post):=A0 ((hb.block g hg).trans HS.out);have HC:=A0 (A2w w1 g T AB B.bytes post AM.out HR.out.ok.len);rw[AL.out] at HC;clear hb AD HO;go_wp2_with fail
 refine HC.out.mono ?_;rintro e w2 ⟨⟨z,rfl⟩,AE⟩;have AO:w2.cell? ⟨w.heap.size,0,none⟩=some .nilIface:=by obtain⟨nd,rfl⟩:=AE;exact AH
 have AG:Hid (Below w.heap.size w w2):=by obtain⟨nd,rfl⟩:=AE;exact bdn AJ.out nd
 have AA:=(AI.out.carry (AG.out.block g hg));have cm:=O1 w2 g (o+257) 255 B.magic (At.get_magic HR.out.ok AA);have cv:=O1 w2 g (o+263) 249 B.ver (At.get_ver HR.out.ok AA);have ct:=O1 w2 g (o+508) 4 (B.rest.drop 163) (At.get_trailer HR.out.ok AA);rw[HR.out.magic] at cm;rw[HR.out.ok.ver] at cv;rw[HR.out.end4] at ct;simp only[List.length_cons,List.length_nil] at cm ct;clear AA AE AH HC;go_wp2_with (first|(go_at_call 107;refine(vu.out _ _).mono ?_;rintro e wx ⟨rfl,rfl⟩)|(go_at_call 178;refine(vs.out _ _).mono ?_;rintro e wx ⟨rfl,rfl⟩)|(go_at_call 182;refine(vm.out _ _ _).mono ?_;rintro e wx ⟨rfl,rfl⟩)|(go_at_call 183;refine(vv.out _ _ _).mono ?_;rintro e wx ⟨rfl,rfl⟩)|(go_at_call 181;refine(vt.out _ _ _).mono ?_;rintro e wx ⟨rfl,rfl⟩))
 go_ret
 exact⟨rfl,AG.out⟩
theorem B5J (x:Nat) (h:x<128):bits .and .u8 (x:Int) 128=0:=by
 have:∀k:Fin 128,bits .and .u8 ((k.val:Nat):Int) 128=0:=by decide
 exact this ⟨x,h⟩
theorem N7 (w:World) (p:Value) (g o n c u:Nat) (f:List UInt8) (hf:P8 f u) (AB:At w g o (Lib.byteCells f)) (hn:f.length=n) (AE:0<n) (AD:n<=c) (AC:c<=9223372036854775807):
  Calls Tryz.prog 199 #[p,.slice (some ⟨g,o,none⟩) n c] w λe w'=>e= .returned (.int .i64 u)/\Below w.heap.size w w':=by
 have h:=A2i w p g o n c u f hf AB hn AD AC;have hc:=W7 AB 0 (by omega);have AA:=hf.low (f.getD 0 0) (by rw[List.getD_eq_getElem?_getD,List.getElem?_eq_getElem (by omega)];exact List.getElem_mem (by omega));have ha:=B5J _ AA;generalize (f.getD 0 0).toNat=x at*;have AG: (0:Int)<n:=by omega
 rw[Nat.add_zero] at hc;clear AB hf AA;go_enter Tryz.func199,Tryz.ntmps199
 go_wp2_with fail
 refine h.mono ?_;rintro e w1 ⟨rfl,hb⟩;go_wp2_with fail
 go_ret
 exact⟨rfl,hb⟩
theorem B2t (w:World) (x:Int) (h:x<128):Calls Tryz.prog 200 #[.int .i32 x] w (C4 w (.bool false)):=by
 have h2:¬(128:Int)<=x:=by omega
 go_enter Tryz.func200,Tryz.ntmps200
 go_wp2_with fail
 go_ret
 exact⟨rfl,rfl⟩
theorem B0b (w:World) (g o n c:Nat) (x:Nat) (hn:0<n) (hx:x<128) (hc:w.cell? ⟨g,o,none⟩=some (.int .u8 x)):
  Calls Tryz.prog 277 #[.slice (some ⟨g,o,none⟩) n c] w (C4 w (.tuple #[.int .i32 x,.int .i64 1])):=by
 have AA: (0:Int)<n:=by omega
 have AC: (x:Int)<128:=by omega
 have AB:IntKind.i32.wrap (x:Int)=x:=by rw[IntKind.wrap_i32];omega
 go_enter Tryz.func277,Tryz.ntmps277
 go_wp2_with fail
 refine wp_loop_once ?_;go_wp2_with fail
 go_ret2
 exact⟨rfl,rfl⟩
theorem B0j (w:World) (g o n c:Nat) (l:List UInt8) (AE:At w g o (Lib.byteCells l)) (hn:l.length=n) (AO:n<=c) (AA:∀b∈l,b.toNat<128) (AH:n<4611686018427387904):
  Calls Tryz.prog 201 #[.slice (some ⟨g,o,none⟩) n c,.func (.func 200) #[] #[]] w (C4 w (.int .i64 (-1))):=by
 have AG:=A0 AE;have AB:=A0 AA;clear AE AA
 have AD:Calls Tryz.prog 238 #[.slice (some ⟨g,o,none⟩) n c,.func (.func 200) #[] #[],.bool true] w (C4 w (.int .i64 (-1))):=by
  go_enter Tryz.func238,Tryz.ntmps238
  go_wp2_with fail
  go_loop [7] (λi=>∃k:Nat,k<=n/\i= .int .i64 k) (λi=>n- (intOf i).toNat)
  case atStart=>exact⟨0,Nat.zero_le _,rfl⟩
  case round=>
   obtain⟨k,hk,rfl⟩:=hrel;by_cases AM:k<n
   ·have AC: (k:Int)<n:=by omega
    have AL: (k:Int)<=c:=by omega
    have AJ:¬c=k:=by omega
    have hx:=AB.out (l.getD k 0) (by rw[List.getD_eq_getElem?_getD,List.getElem?_eq_getElem (by omega)];exact List.getElem_mem (by omega));have hc:=W7 AG.out k (by omega);have hd:=B0b w g (o+k) (n-k) (c-k) (l.getD k 0).toNat (by omega) hx hc;have AI:=B2t w ((l.getD k 0).toNat:Int) (by omega);generalize (l.getD k 0).toNat=x at*;clear hc;go_wp2_with fail
    refine hd.mono ?_;rintro e w1 ⟨rfl,rfl⟩;go_wp2_with fail
    refine AI.mono ?_;rintro e w1 ⟨rfl,rfl⟩;go_wp2_with fail
    go_round
    case rel=>exact⟨k+1,by omega,by go_num⟩
    case measure=>simp[intOf];omega
   ·have AC:¬(k:Int)<n:=by omega
    go_wp2_with fail
    go_ret
    exact⟨rfl,rfl⟩
 go_enter Tryz.func201,Tryz.ntmps201
 go_wp2_with fail
 refine AD.mono ?_;rintro e w1 ⟨rfl,rfl⟩;go_wp2_with fail
 go_ret
 exact⟨rfl,rfl⟩
theorem A1M (w:World) (g o n c:Nat) (l:List UInt8) (AA:At w g o (Lib.byteCells l)) (hn:l.length=n+1) (hz:l[n]?=some 0) (AB:n<4611686018427387904):
  Calls Tryz.prog 202 #[.slice (some ⟨g,o,none⟩) (n+1) c] w (C4 w (.bool true)):=by
 have hc:=W7 AA n (by omega);have e: (l.getD n 0).toNat=0:=by rw[List.getD_eq_getElem?_getD,hz];rfl
 rw[e] at hc;have AD:IntKind.i64.wrap (((n+1:Nat):Int)-1)=(n:Int):=by rw[IntWalk.i64_in _ (by omega)];omega
 have AC: (n:Int)< ((n+1:Nat):Int):=by omega
 clear AA hz e;go_enter Tryz.func202,Tryz.ntmps202
 go_wp2_with fail
 go_ret
 exact⟨rfl,rfl⟩
end Go.Proofs.YtkanmkcojlefbaaGreatDoor
