/-
  Part of the proof; holds the texts RSp, RMerge.
-/
import Derived.Test.YtkanmkcojlefbaaGreatDoorM24
set_option maxHeartbeats 8000000
set_option maxRecDepth 100000
set_option linter.unusedSimpArgs false
set_option linter.unusedVariables false
namespace Go.Proofs.YtkanmkcojlefbaaGreatDoor
open Go.RowKit Go.Lib
theorem A3e {w:World} {v:Value} {R:KV} {B:Nat} (h:J4 w v R B) (k:List UInt8) (hk:R k=none) (hl:k.length<=100): (Instr.lookup 127 v (str k) false).run Tryz.prog w= .ok (str []) w:=by
 rcases h with ⟨rfl,h⟩|⟨rb,n,rfl,-,h,-⟩
 ·exact B0v w 127 A0p k (by omega)
 ·have:=h.look1 A0p k (by omega)
  rw[hk] at this;exact this
def A2d:List UInt8:=[71,78,85,46,115,112,97,114,115,101,46,109,97,106,111,114]
def A2e:List UInt8:=[71,78,85,46,115,112,97,114,115,101,46,109,105,110,111,114]
def A9D:List UInt8:=[71,78,85,46,115,112,97,114,115,101,46,109,97,112]
def B7F:List UInt8:=[71,78,85,46,115,112,97,114,115,101,46,111,102,102,115,101,116]
def B7E:List UInt8:=[71,78,85,46,115,112,97,114,115,101,46,110,117,109,98,121,116,101,115]
theorem B5U (w:World) (tr hb B:Nat) (H:Hd) (R:KV) (hh:w.heap[hb]?=some (.cells H.cells.toArray 130 (0,0))) (hr:J4 w H.recs R B) (h1:R A2d=none) (h2:R A2e=none) (h3:R A9D=none):
  Calls Tryz.prog 214 #[.pointer (some ⟨tr,0,none⟩),.pointer (some ⟨hb,0,none⟩)] w λe w'=>e= .returned (.tuple #[.slice none 0 0,.nilIface])/\A1h w w':=by
 have l1:∀q,(Instr.lookup 127 H.recs (.string ⟨#[71,78,85,46,115,112,97,114,115,101,46,109,97,106,111,114]⟩) false).run Tryz.prog (w.drewN q)= .ok (str []) (w.drewN q):=λq=>A3e (w:=w.drewN q) (B:=B) hr A2d h1 (by decide);have l2:∀q,(Instr.lookup 127 H.recs (.string ⟨#[71,78,85,46,115,112,97,114,115,101,46,109,105,110,111,114]⟩) false).run Tryz.prog (w.drewN q)= .ok (str []) (w.drewN q):=λq=>A3e (w:=w.drewN q) (B:=B) hr A2e h2 (by decide);have l3:∀q,(Instr.lookup 127 H.recs (.string ⟨#[71,78,85,46,115,112,97,114,115,101,46,109,97,112]⟩) false).run Tryz.prog (w.drewN q)= .ok (str []) (w.drewN q):=λq=>A3e (w:=w.drewN q) (B:=B) hr A9D h3 (by decide);have aA:w.cell? ⟨hb,18,none⟩=some H.recs:=by rw[zA hh];rfl
 have AA: (Instr.lookup 127 H.recs (.string ⟨#[71,78,85,46,115,112,97,114,115,101,46,109,97,106,111,114]⟩) false).run Tryz.prog w.drew= .ok (str []) w.drew:=l1 1;have AB: (Instr.lookup 127 H.recs (.string ⟨#[71,78,85,46,115,112,97,114,115,101,46,109,105,110,111,114]⟩) false).run Tryz.prog w.drew= .ok (str []) w.drew:=l2 1;have AC: (Instr.lookup 127 H.recs (.string ⟨#[71,78,85,46,115,112,97,114,115,101,46,109,97,112]⟩) false).run Tryz.prog w.drew= .ok (str []) w.drew:=l3 1;clear hr h1 h2 h3 hh l1 l2 l3;generalize H.recs=rv at*;go_enter Tryz.func214,Tryz.ntmps214
 go_wp2_with fail
 go_region
 all_goals (go_wp2_with fail;go_ret2;exact⟨rfl,(A1h.refl w).next 1⟩)
theorem U2 (w:World) (tr hb B:Nat) (H:Hd) (R:KV) (AA:Value) (hh:w.heap[hb]?=some (.cells H.cells.toArray 130 (0,0))) (hr:J4 w H.recs R B) (ht:H.typ≠83) (h1:R A2d=none) (h2:R A2e=none) (h3:R A9D=none):
  Calls Tryz.prog 154 #[.pointer (some ⟨tr,0,none⟩),.pointer (some ⟨hb,0,none⟩),AA] w λe w'=>e= .returned .nilIface/\A1h w w':=by
 have h:=B5U w tr hb B H R hh hr h1 h2 h3;have c0:w.cell? ⟨hb,0,none⟩=some (.int .u8 H.typ):=by rw[zA hh];rfl
 have q: (H.typ==83)=false:=by rw[zG];exact ht
 clear hh hr h1 h2 h3 ht;go_enter Tryz.func154,Tryz.ntmps154
 go_wp2_with fail
 refine h.mono ?_;rintro e w1 ⟨rfl,hd⟩;go_wp2_with fail
 go_ret
 exact⟨rfl,hd⟩
theorem A7m (w:World) (tr:Nat) (N:Int):Calls Tryz.prog 211 #[.iface 82 (.pointer (some ⟨tr,0,none⟩)),.int .i64 N] w λe w'=>e= .returned (.iface 319 (.pointer (some ⟨w.heap.size,0,none⟩)))/\LR w.heap.size tr N w'/\Below w.heap.size w w':=by
 go_enter Tryz.func211,Tryz.ntmps211
 go_wp2_with fail
 go_ret
 exact⟨rfl,zI w _,(zD _ _).alloc (zB _) _⟩
def A9u (r g n c i0 AA fr:Nat) (bs:List UInt8) (w:World) (e:Ending) (w':World):Prop:=
 ∃v,e= .returned (.tuple #[v,.nilIface])/\RD r g n c (i0+AA) w'/\FRd fr r 0 w'/\w'.ownsRow w.heap.size 5 1 v AA (Lib.byteCells ((bs.drop i0).take AA))/\Fr w.heap.size [r,fr] w w'
theorem A1z (w:World) (tr r g n c i0 AB fr:Nat) (AQ:Int) (AM:List Value) (bs:List UInt8) (aE:Addr) (h:RD r g n c i0 w) (hf:FRd fr r AB w) (ht:TR tr r AQ (.iface 146 (.pointer (some ⟨fr,0,none⟩))) AM .nilIface w) (AV:AB<=1048576) (AU:i0+AB<=n) (AG:n<4611686018427387904) (AX:n<=c)
  (hb:bs.length=n) (AD:At w g 0 (Lib.byteCells bs)) (AO:g<w.heap.size) (AT:g∉[r,fr]) (AZ:tr∉[r,fr]) (hE:w.cell? ⟨0,0,none⟩=some (I7 aE)) (AS:0∉[r,fr]):
  Calls Tryz.prog 152 #[.iface 82 (.pointer (some ⟨tr,0,none⟩))] w (A9u r g n c i0 AB fr bs w):=by
 have AY:r<w.heap.size:=by obtain⟨p,hr⟩:=h;exact A8 hr
 have AH:fr<w.heap.size:=A8 hf;have Aa:tr<w.heap.size:=A8 ht.1;have AR:=zC hE;have H:=A0 h;have HF:=A0 hf;have HT:=A0 ht;have HS:=A0 AD;have HE:=A0 hE;clear h hf ht AD hE;go_enter Tryz.func152,Tryz.ntmps152
 go_wp2_with fail
 refine(A7m w tr 1048577).mono ?_;rintro e w1 ⟨rfl,AP,AA⟩;have AL:=A0 (B4N w1 tr r g n c i0 AB fr w.heap.size AQ AM bs aE (H.out.below AA) ((AA.block fr AH).trans HF.out) (HT.out.below AA) AP AV AU AG AX hb (HS.out.carry (AA.block g AO)) (zL AO AA.size) (by simp at AT⊢;omega) (by simp at AZ⊢;omega) ((AA.cell AR).trans HE.out) (by simp at AS⊢;omega));have AJ:=A0 AA;clear AP AA;go_wp2_with fail
 refine AL.out.mono ?_;rintro e w2 ⟨v,rfl,g1,g2,g3,g4⟩;have AI:=AJ.out.size;have hF:Fr w.heap.size [r,fr] w w2:=((Fr.of_below AJ.out w.heap.size [r,fr,w.heap.size]).trans (g4.wide AI (λk hk _=>hk))).wide (zB _) (λk hk Ab=>by simp at hk⊢;omega)
 obtain⟨a,cp,hv⟩:∃a cp,v= .slice a AB cp:=by
  rcases g3.2 with ⟨h1,h2⟩|⟨gg,cap,cur,h1,-⟩
  ·exact⟨none,0,by rw[h1,h2]⟩
  ·exact⟨_,cap,h1⟩
 have AC:A9u r g n c i0 AB fr bs w (.returned (.tuple #[v,.nilIface])) w2:=⟨v,rfl,g1,g2,A1v g3 AI,hF⟩;rw[hv] at AC⊢;have AE:=A0 AC;have AW:¬(1048576:Int)< (AB:Int):=by omega
 clear AC g1 g2 g3 g4 hF hv AI AL;go_wp2_with fail
 go_ret2
 exact AE.out
def A4j (L:List (List UInt8×List UInt8)):Prop:=∀p∈L,F0 p.1 p.2=true/\p.1≠B7F/\p.1≠B7E
theorem A3m:∀L:List (List UInt8×List UInt8),A4j L->L.length<=(D7 L).length
 | [],_=>zW _
 |p::L,h=>by
  have h1:=A3m L (λq hq=>h q (List.mem_cons_of_mem _ hq));have h2:=A0y p.1 p.2 (List.length_pos_iff.2 (M7 (h p List.mem_cons_self).1).1);rw[T7,zH,P7,List.length_cons];omega
def B4E:Value->Nat
 | .string s=>s.size
 |_=>0
def PPS (L:List (List UInt8×List UInt8)) (mb j:Nat) (w0 w:World):Prop:=M9 w mb j (E0 (λ_=>none) (L.take j))/\Below mb w0 w
def B5I (r g n c i0 AA fr:Nat) (L:List (List UInt8×List UInt8)) (w:World) (e:Ending) (w':World):Prop:=
 ∃mb,e= .returned (.tuple #[.map (some mb),.nilIface])/\w.heap.size<=mb/\M9 w' mb L.length (E0 (λ_=>none) L)/\RD r g n c (i0+AA) w'/\FRd fr r 0 w'/\Fr w.heap.size [r,fr] w w'
theorem B2z (w:World) (tr r g n c i0 AA fr:Nat) (Ap:Int) (Ae:List Value) (bs:List UInt8) (aE:Addr) (L:List (List UInt8×List UInt8)) (h:RD r g n c i0 w) (hf:FRd fr r AA w) (ht:TR tr r Ap (.iface 146 (.pointer (some ⟨fr,0,none⟩))) Ae .nilIface w) (BC:AA<=1048576) (Az:i0+AA<=n) (AW:n<4611686018427387904) (BD:n<=c)
  (hb:bs.length=n) (AR:At w g 0 (Lib.byteCells bs)) (Ax:g<w.heap.size) (Ay:g∉[r,fr]) (BH:tr∉[r,fr]) (hE:w.cell? ⟨0,0,none⟩=some (I7 aE)) (Av:0∉[r,fr]) (hL: (bs.drop i0).take AA=D7 L) (BL:0<AA) (Am:A4j L):
  Calls Tryz.prog 150 #[.iface 82 (.pointer (some ⟨tr,0,none⟩))] w (B5I r g n c i0 AA fr L w):=by
 have HC:=A0 (A1z w tr r g n c i0 AA fr Ap Ae bs aE h hf ht BC Az AW BD hb AR Ax Ay BH hE Av);have BF:r<w.heap.size:=by obtain⟨p,hr⟩:=h;exact A8 hr
 have Aw:fr<w.heap.size:=A8 hf;have AM: (D7 L).length=AA:=by rw[<-hL,zR,List.length_drop,hb];omega
 have BA:=@run_makeMap Tryz.prog;have Aq:=A0 hL;have Ad:=A0 Am;have AG:=A0 AM;clear h hf ht AR hE hL Am AM;go_enter Tryz.func150,Tryz.ntmps150
 go_wp2_with fail
 refine HC.out.mono ?_;rintro e w1 ⟨v,rfl,g1,g2,g3,g4⟩
 obtain⟨gg,cp,hv,BJ,AL⟩:∃gg cp,v= .slice (some ⟨gg,0,none⟩) AA cp/\gg<w1.heap.size/\At w1 gg 0 (Lib.byteCells (D7 L)):=by
  rcases g3.2 with ⟨h1,h2⟩|⟨gg,cap,cur,h1,h2,h3,h4,h5,h6,h7⟩
  ·omega
  ·refine⟨gg,cap,h1,A8 h3,At.of_heap h3 (λj u hj=> ?_)⟩
   rw[Aq.out] at h7;rw[<-h7,List.getElem?_take] at hj;split at hj
   ·rw[Nat.zero_add];simpa using hj
   ·cases hj
 have Ag:=O1 w1 gg 0 cp (D7 L) AL;rw[AG.out] at Ag;have AD:=M9.made w1;have Af:Below w1.heap.size w1 (w1.alloc (.map #[] 0)):=(zD _ w1).alloc (zB _) _;have AB:Hid (PPS L w1.heap.size 0 w1 (w1.alloc (.map #[] 0))):=A0 ⟨AD,Af⟩;have HG:=A0 (And.intro g1 (And.intro g2 g4));have Aa:w.heap.size<=w1.heap.size:=g4.size;rw[hv];clear g1 g2 g3 g4 hv AD Af AL HC;go_wp2_with fail
 clear Ag BA;obtain⟨mb,AO⟩:∃mb,mb=w1.heap.size:=⟨_,rfl⟩;rw[<-AO] at AB⊢;have Ar:=A0 AO;clear AO;generalize w1.alloc (.map #[] 0)=wz at*;go_loopw [6,7] (λs6 s7 wr=>∃j:Nat,j<=L.length/\s6=str (D7 (L.drop j))/\s7= .slice none 0 0/\Hid (PPS L mb j w1 wr)) (λs6 _ _=>B4E s6)
 case atStart=>exact⟨0,by omega,rfl,rfl,AB⟩
 case round=>
  obtain⟨j,hj,rfl,rfl,hS⟩:=hrel;by_cases AY:j<L.length
  ·have hd:D7 (L.drop j)=X6 L[j].1 L[j].2++D7 (L.drop (j+1)):=by rw[List.drop_eq_getElem_cons AY,T7]
   have AQ:E0 (λ_=>none) (L.take (j+1))=O2 (E0 (λ_=>none) (L.take j)) L[j].1 L[j].2:=by
    rw[zU AY,A5H];rfl
   obtain⟨AH,Ai,Aj⟩:=Ad.out _ (List.getElem_mem AY)
   have AX: (D7 (L.drop j)).length<=AA:=by
    have h1:D7 L=D7 (L.take j)++D7 (L.drop j):=by rw[<-A6Q,List.take_append_drop]
    have h2:=AG.out;rw[h1,zH] at h2;omega
   rw[hd] at AX⊢;generalize hk:L[j].1=k at*;generalize BI:L[j].2=v2 at*;generalize AE:D7 (L.drop (j+1))=rest at*;have An:=λwx=>B3A wx k v2 rest AH (by omega);have Ao:5<=(X6 k v2).length:=by rw[P7];exact A0y k v2 (List.length_pos_iff.2 (M7 AH).1)
   have Ak:k.length+v2.length<=(X6 k v2).length:=by rw[P7];have:=A2J k v2;omega
   have AC: (X6 k v2++rest).length=(X6 k v2).length+rest.length:=zH;generalize X6 k v2++rest=s at*;have BE: (0:Int)< (s.length:Int):=by omega
   have As:=A0 An;have AU:=A0 AQ;have AS:=A0 hS.out;have AJ:=A0 AE;have Ac:=A0 AX;have Ab:=A0 Ak;have AT:=A0 AC;have Au:=A0 Ao;have q1: (k==[71,78,85,46,115,112,97,114,115,101,46,111,102,102,115,101,116])=false:=by rw[zG];exact Ai
   have q2: (k==[71,78,85,46,115,112,97,114,115,101,46,110,117,109,98,121,116,101,115])=false:=by rw[zG];exact Aj
   clear hd AQ AH AX hk BI AE An Ao Ak AC hS AB Ai Aj;go_wp2_with fail
   refine(As.out _).mono ?_;rintro e w2 ⟨rfl,AV⟩;obtain⟨hm,AI⟩:=AS.out;have AZ:=hm.below AV;obtain⟨w9,BM,Al,Ah⟩:=AZ.update A0p (by have:=AG.out;have:=A3m L Ad.out;omega) k v2 (by have:=Ac.out;have:=Ab.out;have:=AT.out;omega) (by have:=Ac.out;have:=Ab.out;have:=AT.out;omega);have AP:PPS L mb (j+1) w1 w9:=⟨by rw[AU.out];exact Al,(AI.trans (AV.mono (QA hm.lt))).trans (Ah.below_of (QA AZ.lt) (by simp))⟩;have HN:=A0 AP;clear hm AI AZ AV Al Ah AP AS;go_wp2_with fail
   go_roundw
   case rel=>exact⟨j+1,by omega,by rw[AJ.out],rfl,HN⟩
   case measure=>
    show B4E (str rest)<B4E (str s)
    have:=AT.out;have:=Au.out;simp only[B4E,I6];omega
  ·obtain rfl:j=L.length:=by omega
   have hd:D7 (L.drop L.length)=[]:=by rw[List.drop_length];rfl
   rw[hd];have AS:=A0 hS.out;clear hS AB hd;go_wp2_with fail
   go_ret2
   obtain⟨hm,AI⟩:=AS.out;rw[List.take_length] at hm;obtain⟨g1,g2,g4⟩:=HG.out;have AO:=Ar.out;subst AO;exact⟨w1.heap.size,rfl,Aa,hm,g1.below AI,(AI.block fr (A8 g2)).trans g2,g4.trans (Fr.of_below AI _ _)⟩
def mrg (H:Hd) (P:Pax) (dn:List UInt8->Bool):Hd:=
 {H with name:=if dn H0 then P.path.getD H.name else H.name,link:=if dn I3 then P.link.getD H.link else H.link,user:=if dn F8 then P.uname.getD H.user else H.user,group:=if dn F7 then P.gname.getD H.group else H.group,uid:=if dn V2 then P.uid.getD H.uid else H.uid,gid:=if dn V1 then P.gid.getD H.gid else H.gid,size:=if dn N9 then P.size.getD H.size else H.size,mw:=if dn H6 then(P.mtime.map (·.1)).getD H.mw else H.mw,mx:=if dn H6 then(P.mtime.map λt=>t.2+62135596800).getD H.mx else H.mx,aw:=if dn J5 then(P.atime.map (·.1)).getD H.aw else H.aw,ax:=if dn J5 then(P.atime.map λt=>t.2+62135596800).getD H.ax else H.ax,cw:=if dn J6 then(P.ctime.map (·.1)).getD H.cw else H.cw,cx:=if dn J6 then(P.ctime.map λt=>t.2+62135596800).getD H.cx else H.cx}
theorem B2p (H:Hd) (P:Pax):mrg H P (λ_=>false)=H:=rfl
theorem A4Z (H:Hd) (P:Pax) (d d':List UInt8->Bool) (h:∀k∈F6,d' k=d k):mrg H P d'=mrg H P d:=by
 have h1:=h H0 (by decide);have h2:=h I3 (by decide);have h3:=h F8 (by decide);have h4:=h F7 (by decide);have h5:=h V2 (by decide);have h6:=h V1 (by decide);have h7:=h N9 (by decide);have h8:=h H6 (by decide);have h9:=h J5 (by decide);have h0:=h J6 (by decide);simp only[mrg,h1,h2,h3,h4,h5,h6,h7,h8,h9,h0]
theorem B2q (H:Hd) (P:Pax) (d d':List UInt8->Bool) (v:List UInt8) (hv:P.path=some v) (h1:d' H0=true) (hz:∀z,z≠H0->d' z=d z): (mrg H P d).cells.set 1 (str v)=(mrg H P d').cells:=by
 have o0:=hz I3 (by decide);have o1:=hz N9 (by decide);have o2:=hz V2 (by decide);have o3:=hz V1 (by decide);have o4:=hz F8 (by decide);have o5:=hz F7 (by decide);have o6:=hz H6 (by decide);have o7:=hz J5 (by decide);have o8:=hz J6 (by decide);simp[mrg,Hd.cells,hv,h1,o0,o1,o2,o3,o4,o5,o6,o7,o8]
theorem B2o (H:Hd) (P:Pax) (d d':List UInt8->Bool) (v:List UInt8) (hv:P.link=some v) (h1:d' I3=true) (hz:∀z,z≠I3->d' z=d z): (mrg H P d).cells.set 2 (str v)=(mrg H P d').cells:=by
 have o0:=hz H0 (by decide);have o1:=hz N9 (by decide);have o2:=hz V2 (by decide);have o3:=hz V1 (by decide);have o4:=hz F8 (by decide);have o5:=hz F7 (by decide);have o6:=hz H6 (by decide);have o7:=hz J5 (by decide);have o8:=hz J6 (by decide);simp[mrg,Hd.cells,hv,h1,o0,o1,o2,o3,o4,o5,o6,o7,o8]
theorem B2r (H:Hd) (P:Pax) (d d':List UInt8->Bool) (v:Int) (hv:P.size=some v) (h1:d' N9=true) (hz:∀z,z≠N9->d' z=d z): (mrg H P d).cells.set 3 (.int .i64 v)=(mrg H P d').cells:=by
 have o0:=hz H0 (by decide);have o1:=hz I3 (by decide);have o2:=hz V2 (by decide);have o3:=hz V1 (by decide);have o4:=hz F8 (by decide);have o5:=hz F7 (by decide);have o6:=hz H6 (by decide);have o7:=hz J5 (by decide);have o8:=hz J6 (by decide);simp[mrg,Hd.cells,hv,h1,o0,o1,o2,o3,o4,o5,o6,o7,o8]
theorem B4G (H:Hd) (P:Pax) (d d':List UInt8->Bool) (v:Int) (hv:P.uid=some v) (h1:d' V2=true) (hz:∀z,z≠V2->d' z=d z): (mrg H P d).cells.set 5 (.int .i64 v)=(mrg H P d').cells:=by
 have o0:=hz H0 (by decide);have o1:=hz I3 (by decide);have o2:=hz N9 (by decide);have o3:=hz V1 (by decide);have o4:=hz F8 (by decide);have o5:=hz F7 (by decide);have o6:=hz H6 (by decide);have o7:=hz J5 (by decide);have o8:=hz J6 (by decide);simp[mrg,Hd.cells,hv,h1,o0,o1,o2,o3,o4,o5,o6,o7,o8]
theorem B4F (H:Hd) (P:Pax) (d d':List UInt8->Bool) (v:Int) (hv:P.gid=some v) (h1:d' V1=true) (hz:∀z,z≠V1->d' z=d z): (mrg H P d).cells.set 6 (.int .i64 v)=(mrg H P d').cells:=by
 have o0:=hz H0 (by decide);have o1:=hz I3 (by decide);have o2:=hz N9 (by decide);have o3:=hz V2 (by decide);have o4:=hz F8 (by decide);have o5:=hz F7 (by decide);have o6:=hz H6 (by decide);have o7:=hz J5 (by decide);have o8:=hz J6 (by decide);simp[mrg,Hd.cells,hv,h1,o0,o1,o2,o3,o4,o5,o6,o7,o8]
theorem B0t (H:Hd) (P:Pax) (d d':List UInt8->Bool) (v:List UInt8) (hv:P.uname=some v) (h1:d' F8=true) (hz:∀z,z≠F8->d' z=d z): (mrg H P d).cells.set 7 (str v)=(mrg H P d').cells:=by
 have o0:=hz H0 (by decide);have o1:=hz I3 (by decide);have o2:=hz N9 (by decide);have o3:=hz V2 (by decide);have o4:=hz V1 (by decide);have o5:=hz F7 (by decide);have o6:=hz H6 (by decide);have o7:=hz J5 (by decide);have o8:=hz J6 (by decide);simp[mrg,Hd.cells,hv,h1,o0,o1,o2,o3,o4,o5,o6,o7,o8]
theorem B0r (H:Hd) (P:Pax) (d d':List UInt8->Bool) (v:List UInt8) (hv:P.gname=some v) (h1:d' F7=true) (hz:∀z,z≠F7->d' z=d z): (mrg H P d).cells.set 8 (str v)=(mrg H P d').cells:=by
 have o0:=hz H0 (by decide);have o1:=hz I3 (by decide);have o2:=hz N9 (by decide);have o3:=hz V2 (by decide);have o4:=hz V1 (by decide);have o5:=hz F8 (by decide);have o6:=hz H6 (by decide);have o7:=hz J5 (by decide);have o8:=hz J6 (by decide);simp[mrg,Hd.cells,hv,h1,o0,o1,o2,o3,o4,o5,o6,o7,o8]
theorem B0s (H:Hd) (P:Pax) (d d':List UInt8->Bool) (t:Int×Int) (hv:P.mtime=some t) (h1:d' H6=true) (hz:∀z,z≠H6->d' z=d z): ((mrg H P d).cells.set 9 (.int .u64 t.1)).set 10 (.int .i64 (t.2+62135596800))=(mrg H P d').cells:=by
 have o0:=hz H0 (by decide);have o1:=hz I3 (by decide);have o2:=hz N9 (by decide);have o3:=hz V2 (by decide);have o4:=hz V1 (by decide);have o5:=hz F8 (by decide);have o6:=hz F7 (by decide);have o7:=hz J5 (by decide);have o8:=hz J6 (by decide);simp[mrg,Hd.cells,hv,h1,o0,o1,o2,o3,o4,o5,o6,o7,o8]
theorem B0p (H:Hd) (P:Pax) (d d':List UInt8->Bool) (t:Int×Int) (hv:P.atime=some t) (h1:d' J5=true) (hz:∀z,z≠J5->d' z=d z): ((mrg H P d).cells.set 11 (.int .u64 t.1)).set 12 (.int .i64 (t.2+62135596800))=(mrg H P d').cells:=by
 have o0:=hz H0 (by decide);have o1:=hz I3 (by decide);have o2:=hz N9 (by decide);have o3:=hz V2 (by decide);have o4:=hz V1 (by decide);have o5:=hz F8 (by decide);have o6:=hz F7 (by decide);have o7:=hz H6 (by decide);have o8:=hz J6 (by decide);simp[mrg,Hd.cells,hv,h1,o0,o1,o2,o3,o4,o5,o6,o7,o8]
theorem B0q (H:Hd) (P:Pax) (d d':List UInt8->Bool) (t:Int×Int) (hv:P.ctime=some t) (h1:d' J6=true) (hz:∀z,z≠J6->d' z=d z): ((mrg H P d).cells.set 13 (.int .u64 t.1)).set 14 (.int .i64 (t.2+62135596800))=(mrg H P d').cells:=by
 have o0:=hz H0 (by decide);have o1:=hz I3 (by decide);have o2:=hz N9 (by decide);have o3:=hz V2 (by decide);have o4:=hz V1 (by decide);have o5:=hz F8 (by decide);have o6:=hz F7 (by decide);have o7:=hz H6 (by decide);have o8:=hz J5 (by decide);simp[mrg,Hd.cells,hv,h1,o0,o1,o2,o3,o4,o5,o6,o7,o8]
def A4Q (m:KV) (AA:List UInt8->Bool):List UInt8->Bool:=λk=>(m k).isSome&& !AA k
theorem S7 (m:KV) (AA:List UInt8->Bool) (k z:List UInt8) (h:z≠k):A4Q m (λz=>AA z&& !decide (z=k)) z=A4Q m AA z:=by simp[A4Q,h]
theorem Y8 (m:KV) (AA:List UInt8->Bool) (k v:List UInt8) (h:m k=some v):A4Q m (λz=>AA z&& !decide (z=k)) k=true:=by simp[A4Q,h]
structure MOk (m:KV) (P:Pax):Prop extends B4p m P where
 ne:∀k v,m k=some v->v≠ []
 sch:∀k v,m k=some v->Lib.hasPrefix k [83,67,72,73,76,89,46,120,97,116,116,114,46]=false
 len:∀k v,m k=some v->v.length<=1048576
def MRS (H:Hd) (m:KV) (P:Pax) (hb rb nR r0:Nat) (w0 w:World):Prop:=
 ∃AA AB,K9 w rb r0 nR m AA AB/\w.heap[hb]?=some (.cells (mrg H P (A4Q m AA)).cells.toArray 130 (0,0))/\Fr w0.heap.size [hb,r0] w0 w
theorem U3 {m:KV} {hb rb nR r0:Nat} {w0 w:World} {AA:List UInt8->Bool} {AB:Nat} (h1:K9 w rb r0 nR m AA AB) {cs:List Value} (h2:w.heap[hb]?=some (.cells cs.toArray 130 (0,0))) (h3:Fr w0.heap.size [hb,r0] w0 w) (i:Nat) (v:Value) (AC:rb≠hb) (AD:r0≠hb):
  K9 (w.setCell ⟨hb,i,none⟩ v) rb r0 nR m AA AB/\(w.setCell ⟨hb,i,none⟩ v).heap[hb]?=some (.cells (cs.set i v).toArray 130 (0,0))/\Fr w0.heap.size [hb,r0] w0 (w.setCell ⟨hb,i,none⟩ v):=by
 refine⟨h1.block (C0 _ AC) (C0 _ AD),?_,h3.setCell (p:=⟨hb,i,none⟩) (.inl (by simp)) _⟩;have:=B6 (i:=i) v h2;rw[this,List.setIfInBounds_toArray]
def A8i (H:Hd) (m:KV) (P:Pax) (hb:Nat) (mv:Value) (w:World) (e:Ending) (w':World):Prop:=
 e= .returned .nilIface/\w'.heap[hb]?=some (.cells ({mrg H P (λk=>(m k).isSome) with recs:=mv}:Hd).cells.toArray 130 (0,0))/\Fr w.heap.size [hb] w w'
theorem A7p (w:World) (hb:Nat) (H:Hd) (P:Pax) (hh:w.heap[hb]?=some (.cells H.cells.toArray 130 (0,0))):
  Calls Tryz.prog 151 #[.pointer (some ⟨hb,0,none⟩),.map none] w (A8i H (λ_=>none) P hb (.map none) w):=by
 have hr:=run_range_nilMap (P:=Tryz.prog) w 127 9 9 Tryz.underlying127;have hn:=λty=>run_next_nilMap (P:=Tryz.prog) w ty 0 0 #[];have AD:=A8 hh;have AC:=(zO w (.mapIter none 0 #[] 0) hb AD).trans hh;have aA: (w.alloc (.mapIter none 0 #[] 0)).cell? ⟨hb,18,none⟩=some H.recs:=by rw[zA AC];rfl
 have AE: (w.alloc (.mapIter none 0 #[] 0)).frozen? ⟨hb,18,none⟩=false:=zE AC 18;have hs: (w.setCell ⟨hb,18,none⟩ (.map none)).heap.size=w.heap.size:=by simp[World.setCell]
 have AA:A8i H (λ_=>none) P hb (.map none) w (.returned .nilIface) ((w.setCell ⟨hb,18,none⟩ (.map none)).alloc (.mapIter none 0 #[] 0)):=
  ⟨rfl,(zO _ _ hb (by rw[hs];exact AD)).trans (B6 (i:=18) (.map none) hh),((Fr.refl _ _ w).setCell (p:=⟨hb,18,none⟩) (.inl (by simp)) _).alloc _⟩
 have AB:=A0 AA;clear hh AC hs AA;go_enter Tryz.func151,Tryz.ntmps151
 go_wp2_with fail
 refine wp_loop_once ?_;go_wp2_with fail
 go_ret
 exact AB.out
theorem B2n (w:World) (hb rb nR:Nat) (H:Hd) (m:KV) (P:Pax) (hh:w.heap[hb]?=some (.cells H.cells.toArray 130 (0,0))) (hm:M9 w rb nR m) (Au:MOk m P):
  Calls Tryz.prog 151 #[.pointer (some ⟨hb,0,none⟩),.map (some rb)] w (A8i H m P hb (.map (some rb)) w):=by
 have BE:=A8 hh
 have AU:rb≠hb:=by
  rintro rfl;obtain⟨D,⟨es,Ap,h1,h2⟩,h3⟩:=hm;rw[h1] at hh;cases hh
 have HH:=A0 hh;have AP:=A0 Au;clear hh Au;go_enter Tryz.func151,Tryz.ntmps151
 go_wp2_with (at_range;refine X3 _ rfl _ rfl rb nR m rfl hm ?_;intro w0 Am Af BD An BF)
 go_frame
 have AT:w.heap.size≠hb:=by omega
 have Al:Hid (MRS H m P hb rb nR w.heap.size w w0):=A0 ⟨_,Am,Af,by
  have e:mrg H P (A4Q m (λk=>(m k).isSome))=H:=by
   rw[A4Z H P (λ_=>false) _ (λk _=>by simp[A4Q]),B2p]
  rw[e];exact(An.block hb BE (by simp)).trans HH.out,Fr.of_grown An _ (λk hk=>by cases hk)⟩
 clear Af BD An BF hm;obtain⟨r0,Ac⟩:∃r0,r0=w.heap.size:=⟨_,rfl⟩;rw[<-Ac] at Al AT⊢;have Ak:=A0 Ac;clear Ac;go_loopw [4] (λs4 wr=>s4= .nilIface/\Hid (MRS H m P hb rb nR r0 w wr)) (λ_ wr=>wr.rangeLeft rb r0)
 case atStart=>exact⟨rfl,Al⟩
 case round=>
  obtain⟨rfl,hrel⟩:=hrel;obtain⟨AC,Az,Aj,Aa,Ar⟩:=hrel.out;have HC:=A0 Aa;have HF:=A0 Ar;have AY:=A0 Aj;clear hrel Aa Ar Al;go_wp2_with (at_next;refine Z1 _ rfl _ rfl rb r0 nR m AC Az rfl Aj ?_ ?_)
  ·intro BC Av
   have aA:wr.cell? ⟨hb,18,none⟩=some H.recs:=by rw[zA HC.out];rfl
   have BP:wr.frozen? ⟨hb,18,none⟩=false:=zE HC.out 18;have Ay:=A0 Av;clear Aj Av BC;go_wp2_with fail
   go_ret
   have e:mrg H P (A4Q m AC)=mrg H P (λk=>(m k).isSome):=A4Z H P _ _ (λk _=>by simp[A4Q,Ay.out k]);have Aq:=HC.out;rw[e] at Aq;refine⟨rfl,B6 (i:=18) (.map (some rb)) Aq,(HF.out.setCell (p:=⟨hb,18,none⟩) (.inl (by simp)) _).wide (zB _) (λk hk BJ=>by have:=Ak.out;simp at hk⊢;omega)⟩
  ·intro k v w1 AM BL BO BI Ai Ag Ae Ab BH AS
   have AZ:w1.heap[hb]?=some (.cells (mrg H P (A4Q m AC)).cells.toArray 130 (0,0)):=Ab.cells HC.out (by simpa using Ne.symm AT) (.inr (by decide));have Ad:Fr w.heap.size [hb,r0] w w1:=HF.out.trans ⟨Ab.os,Ab.tape,Ab.output,Ab.size,λq o hq hS hB=>Ab.block q o hq (by simp at hS⊢;exact hS.2) (λBA=>hB (zP HF.out.size BA))⟩;have As:=AP.out.ne k v Ai
   have BM:v.isEmpty=false:=by cases v with
    |nil=>exact absurd rfl As
    |cons a b=>rfl
   have Aw:=AP.out.len k v Ai;have AL:=A0 Ag;have AJ:=A0 AZ;have AV:=A0 Ad;have AW:=A0 Ae;have AO:=A0 Ai;clear Aj Ag AZ Ad Ab Ae As BH BI Ai;by_cases AH:k∈F6
   ·simp only[F6,List.mem_cons,List.not_mem_nil,or_false] at AH
    rcases AH with rfl|rfl|rfl|rfl|rfl|rfl|rfl|rfl|rfl|rfl
    ·
     have hv:P.path=some v:=by rw[<-AP.out.path];exact AO.out
     have AB:=U3 AL.out AJ.out AV.out 1 (str v) AU AT;rw[B2q H P _ _ v hv (Y8 m AC H0 v AO.out) (λz hz=>S7 m AC H0 z hz)] at AB;have AA:=A0 AB;have c1:∃u,w1.cell? ⟨hb,1,none⟩=some u:=⟨_,by rw[zA AJ.out];rfl⟩;obtain⟨u,c1⟩:=c1;have z1:w1.frozen? ⟨hb,1,none⟩=false:=zE AJ.out 1;unfold H0 at AS⊢;clear AB hv;go_wp2_with fail
     go_roundw
     case rel=>exact⟨rfl,A0 ⟨_,AM,AA.out.1,AA.out.2.1,AA.out.2.2⟩⟩
     case measure=>rw[AA.out.1.left_eq,AY.out.left_eq];exact AW.out
    ·
     have hv:P.link=some v:=by rw[<-AP.out.link];exact AO.out
     have AB:=U3 AL.out AJ.out AV.out 2 (str v) AU AT;rw[B2o H P _ _ v hv (Y8 m AC I3 v AO.out) (λz hz=>S7 m AC I3 z hz)] at AB;have AA:=A0 AB;have c1:∃u,w1.cell? ⟨hb,2,none⟩=some u:=⟨_,by rw[zA AJ.out];rfl⟩;obtain⟨u,c1⟩:=c1;have z1:w1.frozen? ⟨hb,2,none⟩=false:=zE AJ.out 2;unfold I3 at AS⊢;clear AB hv;go_wp2_with fail
     go_roundw
     case rel=>exact⟨rfl,A0 ⟨_,AM,AA.out.1,AA.out.2.1,AA.out.2.2⟩⟩
     case measure=>rw[AA.out.1.left_eq,AY.out.left_eq];exact AW.out
    ·
     obtain⟨n,hv,AR⟩:∃n,P.size=some n/\v=itoa n:=by
      have:=AP.out.size;rw[AO.out] at this;cases hp:P.size with
      |none=>rw[hp] at this;cases this
      |some n=>rw[hp] at this;exact⟨n,rfl,by simpa using this⟩
     have AI:=AP.out.sizeIn n (by rw[hv];rfl);have AX:=A0 (λwx=>Y3 wx v (by omega) n (by rw[AR];exact T0 n AI.1 AI.2));unfold N9 at AS⊢;have HV:=A0 hv;clear hv AR AI;go_wp2_with fail
     refine(AX.out _).mono ?_;rintro e w2 ⟨rfl,AG⟩;have AE:=(AG.block hb (A8 AJ.out)).trans AJ.out;have AB:=U3 (AL.out.below AG) AE (AV.out.trans (Fr.of_below AG _ _)) 3 (.int .i64 n) AU AT;have AQ:=AO.out;rw[B2r H P _ _ n HV.out (Y8 m AC _ v AQ) (λz hz=>S7 m AC _ z hz)] at AB;have AA:=A0 AB;have c1:∃u,w2.cell? ⟨hb,3,none⟩=some u:=⟨_,by rw[zA AE];rfl⟩;obtain⟨u,c1⟩:=c1;have z1:w2.frozen? ⟨hb,3,none⟩=false:=zE AE 3;clear AB AE AG AQ AS;go_wp2_with fail
     go_roundw
     case rel=>exact⟨rfl,A0 ⟨_,AM,AA.out.1,AA.out.2.1,AA.out.2.2⟩⟩
     case measure=>rw[AA.out.1.left_eq,AY.out.left_eq];exact AW.out
    ·
     obtain⟨n,hv,AR⟩:∃n,P.uid=some n/\v=itoa n:=by
      have:=AP.out.uid;rw[AO.out] at this;cases hp:P.uid with
      |none=>rw[hp] at this;cases this
      |some n=>rw[hp] at this;exact⟨n,rfl,by simpa using this⟩
     have AI:=AP.out.uidIn n (by rw[hv];rfl);have AX:=A0 (λwx=>Y3 wx v (by omega) n (by rw[AR];exact T0 n AI.1 AI.2));unfold V2 at AS⊢;have HV:=A0 hv;clear hv AR AI;go_wp2_with fail
     refine(AX.out _).mono ?_;rintro e w2 ⟨rfl,AG⟩;have AE:=(AG.block hb (A8 AJ.out)).trans AJ.out;have AB:=U3 (AL.out.below AG) AE (AV.out.trans (Fr.of_below AG _ _)) 5 (.int .i64 n) AU AT;have AQ:=AO.out;rw[B4G H P _ _ n HV.out (Y8 m AC _ v AQ) (λz hz=>S7 m AC _ z hz)] at AB;have AA:=A0 AB;have c1:∃u,w2.cell? ⟨hb,5,none⟩=some u:=⟨_,by rw[zA AE];rfl⟩;obtain⟨u,c1⟩:=c1;have z1:w2.frozen? ⟨hb,5,none⟩=false:=zE AE 5;clear AB AE AG AQ AS;go_wp2_with fail
     go_roundw
     case rel=>exact⟨rfl,A0 ⟨_,AM,AA.out.1,AA.out.2.1,AA.out.2.2⟩⟩
     case measure=>rw[AA.out.1.left_eq,AY.out.left_eq];exact AW.out
    ·
     obtain⟨n,hv,AR⟩:∃n,P.gid=some n/\v=itoa n:=by
      have:=AP.out.gid;rw[AO.out] at this;cases hp:P.gid with
      |none=>rw[hp] at this;cases this
      |some n=>rw[hp] at this;exact⟨n,rfl,by simpa using this⟩
     have AI:=AP.out.gidIn n (by rw[hv];rfl);have AX:=A0 (λwx=>Y3 wx v (by omega) n (by rw[AR];exact T0 n AI.1 AI.2));unfold V1 at AS⊢;have HV:=A0 hv;clear hv AR AI;go_wp2_with fail
     refine(AX.out _).mono ?_;rintro e w2 ⟨rfl,AG⟩;have AE:=(AG.block hb (A8 AJ.out)).trans AJ.out;have AB:=U3 (AL.out.below AG) AE (AV.out.trans (Fr.of_below AG _ _)) 6 (.int .i64 n) AU AT;have AQ:=AO.out;rw[B4F H P _ _ n HV.out (Y8 m AC _ v AQ) (λz hz=>S7 m AC _ z hz)] at AB;have AA:=A0 AB;have c1:∃u,w2.cell? ⟨hb,6,none⟩=some u:=⟨_,by rw[zA AE];rfl⟩;obtain⟨u,c1⟩:=c1;have z1:w2.frozen? ⟨hb,6,none⟩=false:=zE AE 6;clear AB AE AG AQ AS;go_wp2_with fail
     go_roundw
     case rel=>exact⟨rfl,A0 ⟨_,AM,AA.out.1,AA.out.2.1,AA.out.2.2⟩⟩
     case measure=>rw[AA.out.1.left_eq,AY.out.left_eq];exact AW.out
    ·
     have hv:P.uname=some v:=by rw[<-AP.out.uname];exact AO.out
     have AB:=U3 AL.out AJ.out AV.out 7 (str v) AU AT;rw[B0t H P _ _ v hv (Y8 m AC F8 v AO.out) (λz hz=>S7 m AC F8 z hz)] at AB;have AA:=A0 AB;have c1:∃u,w1.cell? ⟨hb,7,none⟩=some u:=⟨_,by rw[zA AJ.out];rfl⟩;obtain⟨u,c1⟩:=c1;have z1:w1.frozen? ⟨hb,7,none⟩=false:=zE AJ.out 7;unfold F8 at AS⊢;clear AB hv;go_wp2_with fail
     go_roundw
     case rel=>exact⟨rfl,A0 ⟨_,AM,AA.out.1,AA.out.2.1,AA.out.2.2⟩⟩
     case measure=>rw[AA.out.1.left_eq,AY.out.left_eq];exact AW.out
    ·
     have hv:P.gname=some v:=by rw[<-AP.out.gname];exact AO.out
     have AB:=U3 AL.out AJ.out AV.out 8 (str v) AU AT;rw[B0r H P _ _ v hv (Y8 m AC F7 v AO.out) (λz hz=>S7 m AC F7 z hz)] at AB;have AA:=A0 AB;have c1:∃u,w1.cell? ⟨hb,8,none⟩=some u:=⟨_,by rw[zA AJ.out];rfl⟩;obtain⟨u,c1⟩:=c1;have z1:w1.frozen? ⟨hb,8,none⟩=false:=zE AJ.out 8;unfold F7 at AS⊢;clear AB hv;go_wp2_with fail
     go_roundw
     case rel=>exact⟨rfl,A0 ⟨_,AM,AA.out.1,AA.out.2.1,AA.out.2.2⟩⟩
     case measure=>rw[AA.out.1.left_eq,AY.out.left_eq];exact AW.out
    ·
     obtain⟨t,hv,AR⟩:∃t,P.mtime=some t/\v=C9 t.2 t.1:=by
      have:=AP.out.mtime;rw[AO.out] at this;cases hp:P.mtime with
      |none=>rw[hp] at this;cases this
      |some t=>rw[hp] at this;exact⟨t,rfl,by simpa using this⟩
     have AI:=AP.out.mtimeIn t (by rw[hv];rfl);have AX:=A0 (λwx=>by have:=A3h wx t.2 t.1 ⟨AI.1,AI.2.1⟩ AI.2.2;rw[<-AR] at this;exact this);unfold H6 at AS⊢;have HV:=A0 hv;clear hv AR AI;obtain⟨tn,ts⟩:=t;go_wp2_with fail
     refine(AX.out _).mono ?_;rintro e w2 ⟨rfl,AG⟩;have AE:=(AG.block hb (A8 AJ.out)).trans AJ.out;have AD:=U3 (AL.out.below AG) AE (AV.out.trans (Fr.of_below AG _ _)) 9 (.int .u64 tn) AU AT;have AB:=U3 AD.1 AD.2.1 AD.2.2 10 (.int .i64 (ts+62135596800)) AU AT;have AQ:=AO.out;rw[B0s H P _ _ (tn,ts) HV.out (Y8 m AC _ v AQ) (λz hz=>S7 m AC _ z hz)] at AB;have AA:=A0 AB;have c1:∃u,w2.cell? ⟨hb,9,none⟩=some u:=⟨_,by rw[zA AE];rfl⟩;obtain⟨u,c1⟩:=c1;have c2:∃u,w2.cell? ⟨hb,10,none⟩=some u:=⟨_,by rw[zA AE];rfl⟩;obtain⟨u2,c2⟩:=c2;have z1:w2.frozen? ⟨hb,9,none⟩=false:=zE AE 9;have z2:w2.frozen? ⟨hb,10,none⟩=false:=zE AE 10;clear AB AD AE AG AQ AS;go_wp2_with fail
     go_roundw
     case rel=>exact⟨rfl,A0 ⟨_,AM,AA.out.1,AA.out.2.1,AA.out.2.2⟩⟩
     case measure=>rw[AA.out.1.left_eq,AY.out.left_eq];exact AW.out
    ·
     obtain⟨t,hv,AR⟩:∃t,P.atime=some t/\v=C9 t.2 t.1:=by
      have:=AP.out.atime;rw[AO.out] at this;cases hp:P.atime with
      |none=>rw[hp] at this;cases this
      |some t=>rw[hp] at this;exact⟨t,rfl,by simpa using this⟩
     have AI:=AP.out.atimeIn t (by rw[hv];rfl);have AX:=A0 (λwx=>by have:=A3h wx t.2 t.1 ⟨AI.1,AI.2.1⟩ AI.2.2;rw[<-AR] at this;exact this);unfold J5 at AS⊢;have HV:=A0 hv;clear hv AR AI;obtain⟨tn,ts⟩:=t;go_wp2_with fail
     refine(AX.out _).mono ?_;rintro e w2 ⟨rfl,AG⟩;have AE:=(AG.block hb (A8 AJ.out)).trans AJ.out;have AD:=U3 (AL.out.below AG) AE (AV.out.trans (Fr.of_below AG _ _)) 11 (.int .u64 tn) AU AT;have AB:=U3 AD.1 AD.2.1 AD.2.2 12 (.int .i64 (ts+62135596800)) AU AT;have AQ:=AO.out;rw[B0p H P _ _ (tn,ts) HV.out (Y8 m AC _ v AQ) (λz hz=>S7 m AC _ z hz)] at AB;have AA:=A0 AB;have c1:∃u,w2.cell? ⟨hb,11,none⟩=some u:=⟨_,by rw[zA AE];rfl⟩;obtain⟨u,c1⟩:=c1;have c2:∃u,w2.cell? ⟨hb,12,none⟩=some u:=⟨_,by rw[zA AE];rfl⟩;obtain⟨u2,c2⟩:=c2;have z1:w2.frozen? ⟨hb,11,none⟩=false:=zE AE 11;have z2:w2.frozen? ⟨hb,12,none⟩=false:=zE AE 12;clear AB AD AE AG AQ AS;go_wp2_with fail
     go_roundw
     case rel=>exact⟨rfl,A0 ⟨_,AM,AA.out.1,AA.out.2.1,AA.out.2.2⟩⟩
     case measure=>rw[AA.out.1.left_eq,AY.out.left_eq];exact AW.out
    ·
     obtain⟨t,hv,AR⟩:∃t,P.ctime=some t/\v=C9 t.2 t.1:=by
      have:=AP.out.ctime;rw[AO.out] at this;cases hp:P.ctime with
      |none=>rw[hp] at this;cases this
      |some t=>rw[hp] at this;exact⟨t,rfl,by simpa using this⟩
     have AI:=AP.out.ctimeIn t (by rw[hv];rfl);have AX:=A0 (λwx=>by have:=A3h wx t.2 t.1 ⟨AI.1,AI.2.1⟩ AI.2.2;rw[<-AR] at this;exact this);unfold J6 at AS⊢;have HV:=A0 hv;clear hv AR AI;obtain⟨tn,ts⟩:=t;go_wp2_with fail
     refine(AX.out _).mono ?_;rintro e w2 ⟨rfl,AG⟩;have AE:=(AG.block hb (A8 AJ.out)).trans AJ.out;have AD:=U3 (AL.out.below AG) AE (AV.out.trans (Fr.of_below AG _ _)) 13 (.int .u64 tn) AU AT;have AB:=U3 AD.1 AD.2.1 AD.2.2 14 (.int .i64 (ts+62135596800)) AU AT;have AQ:=AO.out;rw[B0q H P _ _ (tn,ts) HV.out (Y8 m AC _ v AQ) (λz hz=>S7 m AC _ z hz)] at AB;have AA:=A0 AB;have c1:∃u,w2.cell? ⟨hb,13,none⟩=some u:=⟨_,by rw[zA AE];rfl⟩;obtain⟨u,c1⟩:=c1;have c2:∃u,w2.cell? ⟨hb,14,none⟩=some u:=⟨_,by rw[zA AE];rfl⟩;obtain⟨u2,c2⟩:=c2;have z1:w2.frozen? ⟨hb,13,none⟩=false:=zE AE 13;have z2:w2.frozen? ⟨hb,14,none⟩=false:=zE AE 14;clear AB AD AE AG AQ AS;go_wp2_with fail
     go_roundw
     case rel=>exact⟨rfl,A0 ⟨_,AM,AA.out.1,AA.out.2.1,AA.out.2.2⟩⟩
     case measure=>rw[AA.out.1.left_eq,AY.out.left_eq];exact AW.out
   ·have Ah:=AP.out.sch k v AO.out
    have Ao:=A4v w1 k [83,67,72,73,76,89,46,120,97,116,116,114,46];rw[Ah] at Ao;have Ax:=A0 Ao;have q0: (k==[112,97,116,104])=false:=by rw[zG];rintro rfl;exact AH (by decide)
    have q1: (k==[108,105,110,107,112,97,116,104])=false:=by rw[zG];rintro rfl;exact AH (by decide)
    have q2: (k==[115,105,122,101])=false:=by rw[zG];rintro rfl;exact AH (by decide)
    have q3: (k==[117,105,100])=false:=by rw[zG];rintro rfl;exact AH (by decide)
    have q4: (k==[103,105,100])=false:=by rw[zG];rintro rfl;exact AH (by decide)
    have q5: (k==[117,110,97,109,101])=false:=by rw[zG];rintro rfl;exact AH (by decide)
    have q6: (k==[103,110,97,109,101])=false:=by rw[zG];rintro rfl;exact AH (by decide)
    have q7: (k==[109,116,105,109,101])=false:=by rw[zG];rintro rfl;exact AH (by decide)
    have q8: (k==[97,116,105,109,101])=false:=by rw[zG];rintro rfl;exact AH (by decide)
    have q9: (k==[99,116,105,109,101])=false:=by rw[zG];rintro rfl;exact AH (by decide)
    have AB:MRS H m P hb rb nR r0 w w1:=⟨_,AM,AL.out,by rw[A4Z H P (A4Q m AC) _ (λz hz=>S7 m AC k z (λe=>AH (e▸hz)))];exact AJ.out,AV.out⟩;have AA:=A0 AB;clear Ah Ao AB AH;go_wp2_with fail
    refine Ax.out.mono ?_;rintro e wx ⟨rfl,rfl⟩;go_wp2_with fail
    go_roundw
    case rel=>exact⟨rfl,AA⟩
    case measure=>rw[AL.out.left_eq,AY.out.left_eq];exact AW.out
end Go.Proofs.YtkanmkcojlefbaaGreatDoor
