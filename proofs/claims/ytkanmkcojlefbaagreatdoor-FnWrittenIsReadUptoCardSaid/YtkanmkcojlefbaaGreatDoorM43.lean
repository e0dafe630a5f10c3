/-
  Part of the proof; holds the texts RNE, RNx37.
-/
import Derived.Test.YtkanmkcojlefbaaGreatDoorM42
set_option maxHeartbeats 4000000
set_option maxRecDepth 100000
set_option linter.unusedSimpArgs false
set_option linter.unusedVariables false
namespace Go.Proofs.YtkanmkcojlefbaaGreatDoor
open Go.RowKit
theorem B9X (w:World) (tr r g n c i p0 fr:Nat) (bs:List UInt8) (AO:List Value) (aE:Addr) (h:RD r g n c i w) (hf:FRd fr r 0 w) (Av:p0<512) (ht:TR tr r p0 (.iface 146 (.pointer (some ⟨fr,0,none⟩))) AO .nilIface w) (hi:i+p0+1024<=n) (AI:n<4611686018427387904) (Al:n<=c)
  (Ai:bs.length=n) (AL:At w g 0 (Lib.byteCells bs)) (AE:g∉[r,tr]) (hz: (bs.drop (i+p0)).take 1024=List.replicate 1024 0) (hE:w.cell? ⟨0,0,none⟩=some (I7 aE)) (AH:0∉[r,tr]):
  Calls Tryz.prog 72 #[.pointer (some ⟨tr,0,none⟩)] w λe w'=>e= .returned (.tuple #[.pointer none,I7 aE])/\Fr w.heap.size [r,tr] w w'/\∃AB,TR tr r 0 (.iface 146 (.pointer (some ⟨fr,0,none⟩))) AB .nilIface w':=by
 go_enter Tryz.func72,Tryz.ntmps72
 go_wp2_with fail
 refine wp_loop_once ?_;go_wp2_with fail
 have AP:Fr w.heap.size [r,tr] w (w.alloc (Obj.cells #[Value.int IntKind.i64 14] 128)):=(Fr.refl _ _ w).alloc _;have AM:TR tr r p0 (.iface 146 (.pointer (some ⟨fr,0,none⟩))) AO .nilIface (w.alloc (Obj.cells #[Value.int IntKind.i64 14] 128)):=⟨(zO w _ tr (A8 ht.1)).trans ht.1,ht.2⟩;have Aj: (w.alloc (Obj.cells #[Value.int IntKind.i64 14] 128)).heap[fr]?=_:=(zO w _ fr (A8 hf)).trans hf;have Am:=h.alloc (Obj.cells #[Value.int IntKind.i64 14] 128);have An:=AL.frame AP (zB _) AE;have AX:=AP.cell hE AH (zC hE);generalize w.alloc (Obj.cells #[Value.int IntKind.i64 14] 128)=w1 at*;obtain⟨c0,c1,c2,aA,z1,z2,Aa⟩:=O4 AM.2 AM.1;have mp:=B2i w1.drew fr _ _ Aj;have AD:=A8 AM.1;have l0:=zC AX;have Ae:=A0 Am;have AV:=A0 AM;have AR:=A0 AX;clear Am AM Aj hE AX h hf ht AL
 go_region_held3 (λw'=>w'.cell? ⟨tr,0,none⟩=some (.iface 84 (.pointer (some ⟨r,0,none⟩)))/\w'.cell? ⟨tr,2,none⟩=some (.iface 146 (.pointer (some ⟨fr,0,none⟩)))) (first|go_keep|(refine And.intro ?_ ?_<;>assumption))
  (first|(go_at_call 348;refine(B7P _ _ _).mono ?_;rintro e w2 ⟨rfl,AA⟩;have d0:=(AA.cell (p:=⟨tr,0,none⟩) AD).trans c0;have d2:=(AA.cell (p:=⟨tr,2,none⟩) AD).trans c2;have Ab:=A0 ((AA.cell (p:=⟨0,0,none⟩) l0).trans AR.out))|(go_at_call 146;refine(A2x _ r aE Ab.out).mono ?_;rintro e w3 ⟨rfl,AQ⟩;have e0:=(AQ.cell (p:=⟨tr,0,none⟩) (zL AD AA.size)).trans d0;have e2:=(AQ.cell (p:=⟨tr,2,none⟩) (zL AD AA.size)).trans d2))
 have hb:Below w1.heap.size w1 w3:=(((zD _ _).drew).trans AA).trans (AQ.mono (by have:=AA.size;simpa using this));have Ag:Fr w.heap.size [r,tr] w w3:=AP.trans (Fr.of_below hb _ _);have e1:=(hb.cell (p:=⟨tr,1,none⟩) AD).trans c1;have y1:=(hb.frozen (p:=⟨tr,1,none⟩) AD).trans z1;have AS:=A0 ((hb.cell (p:=⟨0,0,none⟩) l0).trans AR.out);have AW:Hid (TR tr r p0 (.iface 146 (.pointer (some ⟨fr,0,none⟩))) AO .nilIface w3):=⟨(hb.block tr AD).trans AV.out.1,AV.out.2⟩
 have Aq:Hid (RD r g n c i w3):=by
  obtain⟨p,hr⟩:=Ae.out;exact⟨p,(hb.block r (A8 hr)).trans hr⟩
 have Ao:=An.frame (Fr.of_below hb w1.heap.size []) (zB _) (by simp);clear mp An z1 z2 Aa c0 c1 c2 aA d0 d2 Ab AR Ae AV AA AQ hb AP l0;have Au:g≠r:=by simp at AE;exact AE.1
 have HC:=A0 (B4L w3.drew tr r g n c i p0 _ _ bs AO aE p0 (Aq.out.below ((zD _ w3).drew)) (AW.out.below ((zD _ w3).drew)) (by omega) Av AI Al Ai Ao Au AS.out AH);have Ay: (p0:Int)<=512:=by omega
 have Az: (0:Int)<=p0:=by omega
 obtain⟨e0,e1,-⟩:=O4 AW.out.2 AW.out.1;go_wp2_with fail
 go_region_held3 (λw'=>w'.cell? ⟨tr,0,none⟩=some (.iface 84 (.pointer (some ⟨r,0,none⟩)))/\w'.cell? ⟨tr,1,none⟩=some (.int .i64 p0)) (first|go_keep|(refine And.intro ?_ ?_<;>assumption)) (first|(go_at_call 147;refine HC.out.mono ?_;rintro e w4 ⟨rfl,AJ,⟨AG,AC⟩,Ak⟩;have Ad:=A0 AJ;have AU:=A0 AC;have AT:=A0 ((Fr.refl w3.heap.size [r,tr] w3).drew.trans Ak);obtain⟨g0,g1,-,-,y1,-⟩:=O4 AC.2 AC.1;clear AJ AC Ak))
 have AZ:=Ao.frame AT.out (zB _) AE;have Ac:=A0 (AT.out.cell AS.out AH (zC AS.out));have AY:Fr w.heap.size [r,tr] w w4:=Ag.trans (AT.out.wide Ag.size (λk hk _=>hk));go_wp2_with fail
 have Ah:Fr w.heap.size [r,tr] w (w4.setCell ⟨tr,1,none⟩ (.int .i64 0)):=AY.setCell (p:=⟨tr,1,none⟩) (.inl (by simp)) _
 have Aw:r≠tr:=by
  obtain⟨p,hr⟩:=Ad.out;rintro rfl;rw[AU.out.1] at hr;cases hr
 have AJ:RD r g n c (i+p0) (w4.setCell ⟨tr,1,none⟩ (.int .i64 0)):=by
  obtain⟨p,hr⟩:=Ad.out;exact⟨p,(C0 (a:=⟨tr,1,none⟩) _ Aw).trans hr⟩
 have AC:TR tr r 0 (.iface 146 (.pointer (some ⟨fr,0,none⟩))) AG .nilIface (w4.setCell ⟨tr,1,none⟩ (.int .i64 0)):=by
  have:=B6 (i:=1) (.int .i64 0) AU.out.1;rw[A1y] at this;exact⟨this,AU.out.2⟩
 have Ap:=AZ.frame ((Fr.refl w4.heap.size [r,tr] w4).setCell (p:=⟨tr,1,none⟩) (.inl (by simp)) (.int .i64 0)) (zB _) AE;have Af:=((Fr.refl w4.heap.size [r,tr] w4).setCell (p:=⟨tr,1,none⟩) (.inl (by simp)) (.int .i64 0)).cell Ac.out AH (zC Ac.out);refine(A5K _ tr r g n c (i+p0) 0 _ _ bs AG aE AJ AC hi AI Al Ai Ap AE hz Af AH).mono ?_;rintro e w5 ⟨rfl,Ar,AB,Ax⟩;have As:=Ah.trans (Ar.wide Ah.size (λk hk _=>hk));clear AJ AC Ap Af e0 e1 e2 y1;go_wp2_with fail
 go_ret2
 exact⟨rfl,As,AB,Ax⟩
theorem B9R (w:World) (tr r g n c i p0 fr:Nat) (bs:List UInt8) (AD:List Value) (aE:Addr) (h:RD r g n c i w) (hf:FRd fr r 0 w) (AM:p0<512) (ht:TR tr r p0 (.iface 146 (.pointer (some ⟨fr,0,none⟩))) AD .nilIface w) (hi:i+p0+1024<=n) (AA:n<4611686018427387904) (AL:n<=c)
  (AI:bs.length=n) (AB:At w g 0 (Lib.byteCells bs)) (AJ:g∉[r,tr]) (hz: (bs.drop (i+p0)).take 1024=List.replicate 1024 0) (hE:w.cell? ⟨0,0,none⟩=some (I7 aE)) (AH:0∉[r,tr]):
  Calls Tryz.prog 37 #[.pointer (some ⟨tr,0,none⟩)] w λe w'=>e= .returned (.tuple #[.pointer none,I7 aE])/\Fr w.heap.size [r,tr] w w':=by
 have HC:=A0 (B9X w tr r g n c i p0 fr bs AD aE h hf AM ht hi AA AL AI AB AJ hz hE AH);obtain⟨c0,c1,c2,aA,z1,z2,AC⟩:=O4 ht.2 ht.1;have HE:=A0 hE;clear c0 c1 c2 z1 z2 hE;go_enter Tryz.func37,Tryz.ntmps37
 go_wp2_with fail
 refine HC.out.mono ?_;rintro e w1 ⟨rfl,hF,AG,AE⟩;obtain⟨-,-,-,aB,-,-,AO⟩:=O4 AE.2 AE.1;clear aA AC;go_wp2_with fail
 go_ret2
 exact⟨rfl,hF.setCell (p:=⟨tr,515,none⟩) (.inl (by simp)) _⟩
end Go.Proofs.YtkanmkcojlefbaaGreatDoor
