/-
  Part of the proof; holds the texts RNQ, Nxt.
-/
import Derived.Test.YtkanmkcojlefbaaGreatDoorM34
import Derived.Test.YtkanmkcojlefbaaGreatDoorM31
set_option maxHeartbeats 4000000
set_option maxRecDepth 100000
set_option linter.unusedSimpArgs false
set_option linter.unusedVariables false
namespace Go.Proofs.YtkanmkcojlefbaaGreatDoor
open Go.RowKit
theorem B9r (w:World) (tr r g n c i p0 fr:Nat) (bs:List UInt8) (AH:List Value) (aE:Addr) (B:C1) (V:RdV) (nb:Int) (hR:RdF B V) (h:RD r g n c i w) (hf:FRd fr r 0 w) (AX:p0<512) (ht:TR tr r p0 (.iface 146 (.pointer (some ⟨fr,0,none⟩))) AH .nilIface w) (hi:i+p0+512<=n) (AG:n<4611686018427387904) (AU:n<=c)
  (AE:bs.length=n) (AC:At w g 0 (Lib.byteCells bs)) (AT:g∉[r,tr]) (hB: (bs.drop (i+p0)).take 512=B.bytes) (hE:w.cell? ⟨0,0,none⟩=some (I7 aE)) (AS:0∉[r,tr]) (AV:48<=J9 B/\J9 B<=55) (AB:nb=if D1 (O7 B V).typ then 0 else(O7 B V).size) (h0:0<=nb) (h1:nb<=9223372036854775807):
  Calls Tryz.prog 72 #[.pointer (some ⟨tr,0,none⟩)] w (Y5 tr r g n c (i+p0+512) B {O7 B V with fmt:=2} (λ_=>none) nb w):=by
 have AL:r<w.heap.size:=by obtain⟨p,hr⟩:=h;exact A8 hr
 have AJ:=A6E w tr r g n bs aE (by omega) AE AC hE AT AS AL (A8 ht.1);have AD:Below w.heap.size w (w.alloc (.cells #[.int .i64 14] 128)):=(zD _ _).alloc (zB _) _;have AM: (w.alloc (.cells #[.int .i64 14] 128)).heap.size=w.heap.size+1:=Array.size_push ..;have HN:=A0 AJ;have HR:=A0 (h.below AD);have HT:=A0 (ht.below AD);have HF:Hid (FRd fr r 0 (w.alloc (.cells #[.int .i64 14] 128))):=A0 ((AD.block fr (A8 hf)).trans hf);have HRF:=A0 hR;have HB:=A0 hB;have AO:=A0 AE;have AA:=A0 AB;have AQ:=A0 AM;clear AJ AD AM h hf ht AC hE hR hB AE AB AL;go_enter Tryz.func72,Tryz.ntmps72
 go_upto_region 3 with fail
 rename_i K1 AI;have AP:=A0 AI;clear AI;go_wp2_with fail
 refine AP.out _ _ ?_;refine wp_block ?_;refine wp_loop_once ?_;refine wp_block ?_;refine rd1 tr r g n c i p0 w.heap.size fr true true true bs aE B (O7 B V) true true false rfl nb AH w _ (B5z HRF.out) HN.out HR.out HF.out HT.out (by omega) (by omega) AG AU AO.out HB.out AA.out h0 h1 (by rw[AQ.out];omega) _ ?_;intros
 rename_i hb AW w7 h7;refine B8j tr r g n c _ w.heap.size hb _ _ _ bs aE (O7 B V) (O7 B V) (.map none) (λ_=>none) nb w w7 h7.nbx h7.R h7.T h7.H h7.hb0 ?_ AV rfl (.inl ⟨rfl,λ_=>rfl⟩) rfl rfl rfl AA.out h0 h1 _ ?_
 ·exact A7p w7 hb (O7 B V) ⟨none,none,none,none,none,none,none,none,none,none⟩ h7.H
 ·intros
  rename_i AR w9 h9;go_ret2
  exact⟨hb,AR,rfl,h9.Hh,h9.M,h9.Rd,h9.T,h9.F,h9.nbx.G,h9.hb0,h9.fr0⟩
theorem C0k (w:World) (tr r g n c i p0 fr nx AB:Nat) (bs:List UInt8) (AU:List Value) (aE:Addr) (Bx B:C1) (Vx V:RdV) (L:List (List UInt8×List UInt8)) (P:Pax) (nb:Int) (Aa:RdF Bx Vx) (hR:RdF B V) (h:RD r g n c i w) (hf:FRd fr r 0 w) (BI:p0<512) (ht:TR tr r p0 (.iface 146 (.pointer (some ⟨fr,0,none⟩))) AU .nilIface w) (hi:i+p0+512+nx+AB+512<=n) (hp:AB<512) (Ac:E7 nx=AB) (AA:n<4611686018427387904) (AP:n<=c)
  (AO:bs.length=n) (AG:At w g 0 (Lib.byteCells bs)) (Az:g∉[r,tr]) (AW: (bs.drop (i+p0)).take 512=Bx.bytes) (hL: (bs.drop (i+p0+512)).take nx=D7 L) (hB: (bs.drop (i+p0+512+nx+AB)).take 512=B.bytes) (hE:w.cell? ⟨0,0,none⟩=some (I7 aE)) (Aw:0∉[r,tr]) (AR:J9 Bx=120) (Ae:Vx.size=nx) (BA:0<nx) (BC:nx<=1048576) (AQ:A4j L) (Ab:MOk (E0 (λ_=>none) L) P)
  (k1:E0 (λ_=>none) L A2d=none) (k2:E0 (λ_=>none) L A2e=none) (k3:E0 (λ_=>none) L A9D=none)
  (BF:48<=J9 B/\J9 B<=55) (H2:Hd) (AX:H2=mrg (O7 B V) P (λk=>(E0 (λ_=>none) L k).isSome)) (AI:Int) (AC:AI=if D1 (O7 B V).typ then 0 else(O7 B V).size) (Au:0<=AI) (Av:AI<=9223372036854775807) (AD:nb=if D1 H2.typ then 0 else H2.size) (h0:0<=nb) (h1:nb<=9223372036854775807):
  Calls Tryz.prog 72 #[.pointer (some ⟨tr,0,none⟩)] w λe w'=>∃mb,Y5 tr r g n c (i+p0+512+nx+AB+512) B {H2 with recs:= .map (some mb),fmt:=4} (E0 (λ_=>none) L) nb w e w':=by
 have Ad:r<w.heap.size:=by obtain⟨p,hr⟩:=h;exact A8 hr
 have AZ:=A6E w tr r g n bs aE (by omega) AO AG hE Az Aw Ad (A8 ht.1);have AH:Below w.heap.size w (w.alloc (.cells #[.int .i64 14] 128)):=(zD _ _).alloc (zB _) _;have Af: (w.alloc (.cells #[.int .i64 14] 128)).heap.size=w.heap.size+1:=Array.size_push ..
 have Ax:L.length<=4294967296:=by
  have h1:=A3m L AQ;have h2: (D7 L).length<=nx:=by rw[<-hL,zR];omega
  omega
 have AE: (nx:Int)=if D1 (O7 Bx Vx).typ then 0 else(O7 Bx Vx).size:=by
  show(nx:Int)=if D1 (J9 Bx) then 0 else(Vx.size:Int)
  rw[AR,Ae];rfl
 have HN:=A0 AZ;have HR:=A0 (h.below AH);have HT:=A0 (ht.below AH);have HF:Hid (FRd fr r 0 (w.alloc (.cells #[.int .i64 14] 128))):=A0 ((AH.block fr (A8 hf)).trans hf);have HRF:=A0 hR;have Am:=A0 Aa;have HB:=A0 hB;have Ag:=A0 AW;have AJ:=A0 AO;have AM:=A0 AD;have AL:=A0 AC;have An:=A0 Af;have Aj:=A0 AE;have HL:=A0 hL;have Ai:=A0 Ab;have Ak:=A0 AQ;have AS:=A0 AX;have Al:=A0 Ac;have Ao:=A0 AR;have Ap:=A0 k1;have Aq:=A0 k2;have Ar:=A0 k3;clear AZ AH Af h hf ht AG hE hR Aa hB AW AO AD AC AE Ad hL Ab AQ AX Ac AR k1 k2 k3 Ae;go_enter Tryz.func72,Tryz.ntmps72
 go_upto_region 3 with fail
 rename_i K1 AY;have Ah:=A0 AY;clear AY;go_wp2_with fail
 refine Ah.out _ _ ?_;refine wp_block ?_;refine wp_loop_rounds 2 ?_;rw[rounds_succ];refine wp_block ?_;refine rd1 tr r g n c i p0 w.heap.size fr true true true bs aE Bx (O7 Bx Vx) true true false rfl nx AU w _ (B5z Am.out) HN.out HR.out HF.out HT.out (by omega) (by omega) AA AP AJ.out Ag.out Aj.out (by omega) (by omega) (by rw[An.out];omega) _ ?_;intros
 rename_i Ay AV wx hx;refine rdX tr r g n c _ w.heap.size Ay AV nx _ true true _ bs aE (O7 Bx Vx) L w wx hx.nbx hx.R hx.F hx.T hx.H hx.hb0 hx.fr0 Ao.out BC (by omega) AA AP AJ.out HL.out BA Ak.out _ ?_;intros
 rename_i mb wy hy;refine W9 ?_;show Code.rounds _ _ _ 1 _ _
 rw[rounds_succ];refine wp_block ?_;have AT:=A0 hy.T;rw[Al.out] at AT;refine rd1 tr r g n c (i+p0+512+nx) AB w.heap.size AV false true false bs aE B (O7 B V) true true false rfl AI _ w wy (B5z HRF.out) hy.nbx hy.Rd hy.F AT.out (by omega) hp AA AP AJ.out HB.out AL.out Au Av hy.lfb _ ?_;intros
 rename_i hb BH w7 h7
 have BD:J4 w7 (.map (some mb)) (E0 (λ_=>none) L) w7.heap.size:=by
  have h0:J4 wy (.map (some mb)) (E0 (λ_=>none) L) wy.heap.size:= .inr ⟨mb,L.length,rfl,hy.M.lt,hy.M,Ax⟩;refine h0.fr h7.fw (λq hq es cl e=> ?_);simp at hq;rcases hq with rfl|rfl|rfl
  ·obtain⟨p,hr⟩:=hy.Rd;rw[hr] at e;cases e
  ·rw[hy.T.1] at e;cases e
  ·rw[hy.nbx.C] at e;cases e
 have BE:M9 w7 mb L.length (E0 (λ_=>none) L):=by
  refine hy.M.fr h7.fw (λhm=> ?_);obtain⟨D,⟨es,cl,e,_⟩,_⟩:=hy.M;simp at hm;rcases hm with rfl|rfl|rfl
  ·obtain⟨p,hr⟩:=hy.Rd;rw[hr] at e;cases e
  ·rw[hy.T.1] at e;cases e
  ·rw[hy.nbx.C] at e;cases e
 refine B8i tr r g n c _ w.heap.size hb _ _ _ bs aE (O7 B V) {H2 with recs:= .map (some mb)} (.map (some mb)) (E0 (λ_=>none) L) nb w w7 h7.nbx h7.R h7.T h7.H h7.hb0 ?_ BF ?_ BD Ap.out Aq.out Ar.out AM.out h0 h1 _ ?_
 ·rw[AS.out]
  exact B2n w7 hb mb L.length (O7 B V) _ P h7.H BE Ai.out
 ·show H2.typ=_
  rw[AS.out];rfl
 ·intros
  rename_i As w9 h9;go_ret2
  exact⟨mb,hb,As,rfl,h9.Hh,h9.M,h9.Rd,h9.T,h9.F,h9.nbx.G,h9.hb0,h9.fr0⟩
theorem C0j (w:World) (tr r g n c i p0 fr:Nat) (bs:List UInt8) (AL:List Value) (aE:Addr) (B:C1) (H9 H3:Hd) (nb:Int) (hR:RHC B H9) (AP:H9.fmt=8) (AA:H9.recs= .map none) (h:RD r g n c i w) (hf:FRd fr r 0 w) (Af:p0<512) (ht:TR tr r p0 (.iface 146 (.pointer (some ⟨fr,0,none⟩))) AL .nilIface w) (hi:i+p0+512<=n) (AI:n<4611686018427387904) (Ae:n<=c)
  (AH:bs.length=n) (AC:At w g 0 (Lib.byteCells bs)) (Ad:g∉[r,tr]) (hB: (bs.drop (i+p0)).take 512=B.bytes) (hE:w.cell? ⟨0,0,none⟩=some (I7 aE)) (Ac:0∉[r,tr]) (AS:48<=H9.typ/\H9.typ<=55) (AG:H3= {H9 with name:=if([]:List UInt8)=[] then H9.name else([]:List UInt8),link:=if([]:List UInt8)=[] then H9.link else([]:List UInt8)}) (AB:nb=if D1 H9.typ then 0 else H9.size) (h0:0<=nb) (h1:nb<=9223372036854775807):
  Calls Tryz.prog 72 #[.pointer (some ⟨tr,0,none⟩)] w (Y5 tr r g n c (i+p0+512) B {H3 with fmt:=8} (λ_=>none) nb w):=by
 have AQ:r<w.heap.size:=by obtain⟨p,hr⟩:=h;exact A8 hr
 have AO:=A6E w tr r g n bs aE (by omega) AH AC hE Ad Ac AQ (A8 ht.1);have AD:Below w.heap.size w (w.alloc (.cells #[.int .i64 14] 128)):=(zD _ _).alloc (zB _) _;have AR: (w.alloc (.cells #[.int .i64 14] 128)).heap.size=w.heap.size+1:=Array.size_push ..;have AJ:H3.recs= .map none:=by rw[AG];exact AA
 have HN:=A0 AO;have HR:=A0 (h.below AD);have HT:=A0 (ht.below AD);have HF:Hid (FRd fr r 0 (w.alloc (.cells #[.int .i64 14] 128))):=A0 ((AD.block fr (A8 hf)).trans hf);have HRF:=A0 hR;have HB:=A0 hB;have AU:=A0 AH;have AE:=A0 AB;have AZ:=A0 AR;have AV:=A0 AP;have AY:=A0 AA;have AW:=A0 AG;have Aa:=A0 AS;have AT:=A0 AJ;clear AO AD AR h hf ht AC hE hR hB AH AB AQ AP AA AG AS AJ;skip
 go_enter Tryz.func72,Tryz.ntmps72
 go_upto_region 3 with fail
 rename_i K1 AM;have AX:=A0 AM;clear AM;go_wp2_with fail
 refine AX.out _ _ ?_;refine wp_block ?_;refine wp_loop_once ?_;refine wp_block ?_;refine B4Z tr r g n c (i) p0 w.heap.size fr true true bs aE B H9 H3 ([]:List UInt8) ([]:List UInt8) nb AV.out AY.out AL w _ HRF.out HN.out HR.out HF.out HT.out (by omega) (by omega) AI Ae AU.out HB.out Aa.out AW.out AE.out h0 h1 (by rw[AZ.out];omega) _ ?_;intros
 rename_i hb Ab w9 h9;go_ret2
 exact⟨hb,Ab,rfl,h9.Hh,.inl ⟨AT.out,λ_=>rfl⟩,h9.Rd,h9.T,h9.F,h9.G,h9.hb0,h9.fr0⟩
theorem C0M (w:World) (tr r g n c i p0 fr:Nat) (BN:C1) (AN:Hd) (nN pN:Nat) (dN:List UInt8) (bs:List UInt8) (AM:List Value) (aE:Addr) (B:C1) (H9 H3:Hd) (nb:Int) (hR:RHC B H9) (AU:H9.fmt=8) (AA:H9.recs= .map none) (h:RD r g n c i w) (hf:FRd fr r 0 w) (Ax:p0<512) (ht:TR tr r p0 (.iface 146 (.pointer (some ⟨fr,0,none⟩))) AM .nilIface w) (hi:i+p0+512+nN+pN+512<=n) (AB:n<4611686018427387904) (AV:n<=c)
  (AI:bs.length=n) (AD:At w g 0 (Lib.byteCells bs)) (Av:g∉[r,tr]) (hB: (bs.drop (i+p0+512+nN+pN)).take 512=B.bytes) (AS:RHC BN AN) (AT:AN.fmt=8) (Aa:AN.typ=76) (AY:AN.size=nN) (Aw:nN<=1048576) (As:0<nN) (Ay:pN<512) (AW:E7 nN=pN) (AO: (bs.drop (i+p0)).take 512=BN.bytes) (AQ: (bs.drop (i+p0+512)).take nN=dN) (hE:w.cell? ⟨0,0,none⟩=some (I7 aE)) (Au:0∉[r,tr]) (Ab:48<=H9.typ/\H9.typ<=55) (AH:H3= {H9 with name:=if(D4 dN)=[] then H9.name else(D4 dN),link:=if([]:List UInt8)=[] then H9.link else([]:List UInt8)}) (AC:nb=if D1 H9.typ then 0 else H9.size) (h0:0<=nb) (h1:nb<=9223372036854775807):
  Calls Tryz.prog 72 #[.pointer (some ⟨tr,0,none⟩)] w (Y5 tr r g n c (i+p0+512+nN+pN+512) B {H3 with fmt:=8} (λ_=>none) nb w):=by
 have AX:r<w.heap.size:=by obtain⟨p,hr⟩:=h;exact A8 hr
 have AR:=A6E w tr r g n bs aE (by omega) AI AD hE Av Au AX (A8 ht.1);have AE:Below w.heap.size w (w.alloc (.cells #[.int .i64 14] 128)):=(zD _ _).alloc (zB _) _;have AZ: (w.alloc (.cells #[.int .i64 14] 128)).heap.size=w.heap.size+1:=Array.size_push ..;have AJ:H3.recs= .map none:=by rw[AH];exact AA
 have HN:=A0 AR;have HR:=A0 (h.below AE);have HT:=A0 (ht.below AE);have HF:Hid (FRd fr r 0 (w.alloc (.cells #[.int .i64 14] 128))):=A0 ((AE.block fr (A8 hf)).trans hf);have HRF:=A0 hR;have HB:=A0 hB;have AL:=A0 AI;have AG:=A0 AC;have An:=A0 AZ;have Ae:=A0 AU;have Ak:=A0 AA;have Af:=A0 AH;have Ap:=A0 Ab;have Ac:=A0 AJ;clear AR AE AZ h hf ht AD hE hR hB AI AC AX AU AA AH Ab AJ;have Al:=A0 AS;have Ad:=A0 AO;have Ah:=A0 AQ;have Ao:=A0 Aa;have Am:=A0 AY;have Ai:=A0 AT;have Aj:=A0 AW;clear AS AO AQ Aa AY AT AW;go_enter Tryz.func72,Tryz.ntmps72
 go_upto_region 3 with fail
 rename_i K1 AP;have Ag:=A0 AP;clear AP;go_wp2_with fail
 refine Ag.out _ _ ?_;refine wp_block ?_;refine wp_loop_rounds 2 ?_;rw[rounds_succ];refine wp_block ?_;refine rlN tr r g n c (i) p0 w.heap.size fr true true bs dN aE BN AN nN Ai.out AM w _ Al.out HN.out HR.out HF.out HT.out (by omega) (by omega) AB AV AL.out Ad.out Ao.out Am.out Aw As Ah.out (by rw[An.out];omega) _ ?_;intros
 rename_i Ar wN hN;refine W9 ?_;show Code.rounds _ _ _ 1 _ _
 rw[rounds_succ];refine wp_block ?_;have TN:=A0 hN.T;rw[Aj.out] at TN;refine B4Z tr r g n c (i+p0+512+nN) pN w.heap.size Ar false false bs aE B H9 H3 (D4 dN) ([]:List UInt8) nb Ae.out Ak.out _ w wN HRF.out hN.nbx hN.Rd hN.F TN.out (by omega) (by omega) AB AV AL.out HB.out Ap.out Af.out AG.out h0 h1 hN.lfb _ ?_;intros
 rename_i hb Aq w9 h9;go_ret2
 exact⟨hb,Aq,rfl,h9.Hh,.inl ⟨Ac.out,λ_=>rfl⟩,h9.Rd,h9.T,h9.F,h9.G,h9.hb0,h9.fr0⟩
theorem C0L (w:World) (tr r g n c i p0 fr:Nat) (BK:C1) (AK:Hd) (nK pK:Nat) (dK:List UInt8) (bs:List UInt8) (AM:List Value) (aE:Addr) (B:C1) (H9 H3:Hd) (nb:Int) (hR:RHC B H9) (AU:H9.fmt=8) (AA:H9.recs= .map none) (h:RD r g n c i w) (hf:FRd fr r 0 w) (Ax:p0<512) (ht:TR tr r p0 (.iface 146 (.pointer (some ⟨fr,0,none⟩))) AM .nilIface w) (hi:i+p0+512+nK+pK+512<=n) (AB:n<4611686018427387904) (AV:n<=c)
  (AI:bs.length=n) (AD:At w g 0 (Lib.byteCells bs)) (Av:g∉[r,tr]) (hB: (bs.drop (i+p0+512+nK+pK)).take 512=B.bytes) (AS:RHC BK AK) (AT:AK.fmt=8) (Aa:AK.typ=75) (AY:AK.size=nK) (Aw:nK<=1048576) (As:0<nK) (Ay:pK<512) (AW:E7 nK=pK) (AO: (bs.drop (i+p0)).take 512=BK.bytes) (AQ: (bs.drop (i+p0+512)).take nK=dK) (hE:w.cell? ⟨0,0,none⟩=some (I7 aE)) (Au:0∉[r,tr]) (Ab:48<=H9.typ/\H9.typ<=55) (AH:H3= {H9 with name:=if([]:List UInt8)=[] then H9.name else([]:List UInt8),link:=if(D4 dK)=[] then H9.link else(D4 dK)}) (AC:nb=if D1 H9.typ then 0 else H9.size) (h0:0<=nb) (h1:nb<=9223372036854775807):
  Calls Tryz.prog 72 #[.pointer (some ⟨tr,0,none⟩)] w (Y5 tr r g n c (i+p0+512+nK+pK+512) B {H3 with fmt:=8} (λ_=>none) nb w):=by
 have AX:r<w.heap.size:=by obtain⟨p,hr⟩:=h;exact A8 hr
 have AR:=A6E w tr r g n bs aE (by omega) AI AD hE Av Au AX (A8 ht.1);have AE:Below w.heap.size w (w.alloc (.cells #[.int .i64 14] 128)):=(zD _ _).alloc (zB _) _;have AZ: (w.alloc (.cells #[.int .i64 14] 128)).heap.size=w.heap.size+1:=Array.size_push ..;have AJ:H3.recs= .map none:=by rw[AH];exact AA
 have HN:=A0 AR;have HR:=A0 (h.below AE);have HT:=A0 (ht.below AE);have HF:Hid (FRd fr r 0 (w.alloc (.cells #[.int .i64 14] 128))):=A0 ((AE.block fr (A8 hf)).trans hf);have HRF:=A0 hR;have HB:=A0 hB;have AL:=A0 AI;have AG:=A0 AC;have An:=A0 AZ;have Ae:=A0 AU;have Ak:=A0 AA;have Af:=A0 AH;have Ap:=A0 Ab;have Ac:=A0 AJ;clear AR AE AZ h hf ht AD hE hR hB AI AC AX AU AA AH Ab AJ;have Al:=A0 AS;have Ad:=A0 AO;have Ah:=A0 AQ;have Ao:=A0 Aa;have Am:=A0 AY;have Ai:=A0 AT;have Aj:=A0 AW;clear AS AO AQ Aa AY AT AW;go_enter Tryz.func72,Tryz.ntmps72
 go_upto_region 3 with fail
 rename_i K1 AP;have Ag:=A0 AP;clear AP;go_wp2_with fail
 refine Ag.out _ _ ?_;refine wp_block ?_;refine wp_loop_rounds 2 ?_;rw[rounds_succ];refine wp_block ?_;refine rlK tr r g n c (i) p0 w.heap.size fr true true bs dK aE BK AK nK Ai.out AM w _ Al.out HN.out HR.out HF.out HT.out (by omega) (by omega) AB AV AL.out Ad.out Ao.out Am.out Aw As Ah.out (by rw[An.out];omega) _ ?_;intros
 rename_i Ar wK hK;refine W9 ?_;show Code.rounds _ _ _ 1 _ _
 rw[rounds_succ];refine wp_block ?_;have TK:=A0 hK.T;rw[Aj.out] at TK;refine B4Z tr r g n c (i+p0+512+nK) pK w.heap.size Ar false false bs aE B H9 H3 ([]:List UInt8) (D4 dK) nb Ae.out Ak.out _ w wK HRF.out hK.nbx hK.Rd hK.F TK.out (by omega) (by omega) AB AV AL.out HB.out Ap.out Af.out AG.out h0 h1 hK.lfb _ ?_;intros
 rename_i hb Aq w9 h9;go_ret2
 exact⟨hb,Aq,rfl,h9.Hh,.inl ⟨Ac.out,λ_=>rfl⟩,h9.Rd,h9.T,h9.F,h9.G,h9.hb0,h9.fr0⟩
theorem B9p (w:World) (tr r g n c i p0 fr:Nat) (BN:C1) (AN:Hd) (nN pN:Nat) (dN:List UInt8) (BK:C1) (AK:Hd) (nK pK:Nat) (dK:List UInt8) (bs:List UInt8) (AO:List Value) (aE:Addr) (B:C1) (H9 H3:Hd) (nb:Int) (hR:RHC B H9) (AZ:H9.fmt=8) (AB:H9.recs= .map none) (h:RD r g n c i w) (hf:FRd fr r 0 w) (BS:p0<512) (ht:TR tr r p0 (.iface 146 (.pointer (some ⟨fr,0,none⟩))) AO .nilIface w) (hi:i+p0+512+nN+pN+512+nK+pK+512<=n) (AA:n<4611686018427387904) (AL:n<=c)
  (AJ:bs.length=n) (AD:At w g 0 (Lib.byteCells bs)) (BP:g∉[r,tr]) (hB: (bs.drop (i+p0+512+nN+pN+512+nK+pK)).take 512=B.bytes) (AW:RHC BN AN) (AY:AN.fmt=8) (Ah:AN.typ=76) (Ae:AN.size=nN) (BR:nN<=1048576) (BM:0<nN) (BU:pN<512) (Ab:E7 nN=pN) (AQ: (bs.drop (i+p0)).take 512=BN.bytes) (AT: (bs.drop (i+p0+512)).take nN=dN) (AV:RHC BK AK) (AX:AK.fmt=8) (Ag:AK.typ=75) (Ad:AK.size=nK) (BQ:nK<=1048576) (BL:0<nK) (BT:pK<512) (Aa:E7 nK=pK) (AP: (bs.drop (i+p0+512+nN+pN)).take 512=BK.bytes) (AS: (bs.drop (i+p0+512+nN+pN+512)).take nK=dK) (hE:w.cell? ⟨0,0,none⟩=some (I7 aE)) (BO:0∉[r,tr]) (Ai:48<=H9.typ/\H9.typ<=55) (AI:H3= {H9 with name:=if(D4 dN)=[] then H9.name else(D4 dN),link:=if(D4 dK)=[] then H9.link else(D4 dK)}) (AC:nb=if D1 H9.typ then 0 else H9.size) (h0:0<=nb) (h1:nb<=9223372036854775807):
  Calls Tryz.prog 72 #[.pointer (some ⟨tr,0,none⟩)] w (Y5 tr r g n c (i+p0+512+nN+pN+512+nK+pK+512) B {H3 with fmt:=8} (λ_=>none) nb w):=by
 have Ac:r<w.heap.size:=by obtain⟨p,hr⟩:=h;exact A8 hr
 have AU:=A6E w tr r g n bs aE (by omega) AJ AD hE BP BO Ac (A8 ht.1);have AE:Below w.heap.size w (w.alloc (.cells #[.int .i64 14] 128)):=(zD _ _).alloc (zB _) _;have Af: (w.alloc (.cells #[.int .i64 14] 128)).heap.size=w.heap.size+1:=Array.size_push ..;have AM:H3.recs= .map none:=by rw[AI];exact AB
 have HN:=A0 AU;have HR:=A0 (h.below AE);have HT:=A0 (ht.below AE);have HF:Hid (FRd fr r 0 (w.alloc (.cells #[.int .i64 14] 128))):=A0 ((AE.block fr (A8 hf)).trans hf);have HRF:=A0 hR;have HB:=A0 hB;have AG:=A0 AJ;have AH:=A0 AC;have BC:=A0 Af;have Am:=A0 AZ;have Aw:=A0 AB;have An:=A0 AI;have BF:=A0 Ai;have Aj:=A0 AM;clear AU AE Af h hf ht AD hE hR hB AJ AC Ac AZ AB AI Ai AM;have Ay:=A0 AW;have Al:=A0 AQ;have Aq:=A0 AT;have BE:=A0 Ah;have BA:=A0 Ae;have As:=A0 AY;have Av:=A0 Ab;clear AW AQ AT Ah Ae AY Ab;have Ax:=A0 AV;have Ak:=A0 AP;have Ap:=A0 AS;have BD:=A0 Ag;have Az:=A0 Ad;have Ar:=A0 AX;have Au:=A0 Aa;clear AV AP AS Ag Ad AX Aa;go_enter Tryz.func72,Tryz.ntmps72
 go_upto_region 3 with fail
 rename_i K1 AR;have Ao:=A0 AR;clear AR;go_wp2_with fail
 refine Ao.out _ _ ?_;refine wp_block ?_;refine wp_loop_rounds 3 ?_;rw[rounds_succ];refine wp_block ?_;refine rlN tr r g n c (i) p0 w.heap.size fr true true bs dN aE BN AN nN As.out AO w _ Ay.out HN.out HR.out HF.out HT.out (by omega) (by omega) AA AL AG.out Al.out BE.out BA.out BR BM Aq.out (by rw[BC.out];omega) _ ?_;intros
 rename_i BJ wN hN;refine W9 ?_;show Code.rounds _ _ _ 2 _ _
 rw[rounds_succ];refine wp_block ?_;have TN:=A0 hN.T;rw[Av.out] at TN;refine rlK tr r g n c (i+p0+512+nN) pN w.heap.size BJ false false bs dK aE BK AK nK Ar.out _ w wN Ax.out hN.nbx hN.Rd hN.F TN.out (by omega) (by omega) AA AL AG.out Ak.out BD.out Az.out BQ BL Ap.out hN.lfb _ ?_;intros
 rename_i BI wK hK;refine W9 ?_;show Code.rounds _ _ _ 1 _ _
 rw[rounds_succ];refine wp_block ?_;have TK:=A0 hK.T;rw[Au.out] at TK;refine B4Z tr r g n c (i+p0+512+nN+pN+512+nK) pK w.heap.size BI false false bs aE B H9 H3 (D4 dN) (D4 dK) nb Am.out Aw.out _ w wK HRF.out hK.nbx hK.Rd hK.F TK.out (by omega) (by omega) AA AL AG.out HB.out BF.out An.out AH.out h0 h1 hK.lfb _ ?_;intros
 rename_i hb BH w9 h9;go_ret2
 exact⟨hb,BH,rfl,h9.Hh,.inl ⟨Aj.out,λ_=>rfl⟩,h9.Rd,h9.T,h9.F,h9.G,h9.hb0,h9.fr0⟩
def Hd.rd (H:Hd) (f:Int):Hd:= {H with xattr:= .map none,recs:= .map none,fmt:=f}
theorem A5L {L:List (List UInt8×List UInt8)} (h:A8j (λ_=>none) L):L.length<=1048576:=by
 cases L with
 |nil=>decide
 |cons p L=>have:=h.mem p (by simp);cases this
theorem HG.inO {H:Hd} {R:KV} (g:HG H R) (f:Int) (hf:f=2\/f=4\/f=8) (rv:Value): ({H.rd f with recs:=rv}:Hd).InO:=
 ⟨g.inT.mw,g.inT.mx,g.inT.aw,g.inT.ax,g.inT.cw,g.inT.cx,hf⟩
theorem A7G {α:Type} (a b c:List α) (n:Nat) (hn:b.length=n): ((a++(b++c)).drop a.length).take n=b:=by
 rw[List.drop_left,List.take_left' hn]
theorem A1d {bs a b c:List UInt8} {p n:Nat} (h:bs=a++(b++c)) (hp:a.length=p) (hn:b.length=n): (bs.drop p).take n=b:=by
 subst h hp;exact A7G a b c n hn
theorem LX.cases {AA:Int} {s X:List UInt8} (h:LX AA s X) (hz: (0:UInt8)∉s) (hl:s.length<=600000) (hf:0<=AA/\AA<256): (s.length<=100/\X=[])\/(100<s.length/\∃ (R:C1) (ds:List UInt8) (p:Nat),RHC R (rdG R ⟨0,0,0,ds.length,0,0,0,0,0⟩)/\J9 R=AA/\R.bytes.length=512/\D4 ds=s/\0<ds.length/\ds.length<=1048576/\p<512/\E7 ds.length=p/\X=R.bytes++(ds++List.replicate p 0)):=by
 rcases h with h|⟨h,R,hR,rfl⟩
 ·exact .inl h
 ·have AB: (s++[0]).length=s.length+1:=by simp
  have hp:0<=E7 (s++[0]).length/\E7 (s++[0]).length<512:=by unfold E7;omega
  refine .inr ⟨h,R,s++[0],(E7 (s++[0]).length).toNat,B7Z (hR.rdg (by
                                          have: (8:Nat)^11=8589934592:=by decide
                                          omega)),?_,hR.ok.len,B2F s hz,by omega,by omega,by omega,by omega,by simp[List.append_assoc]⟩
  rw[J9,hR.typ];exact typ_back _ hf
theorem HG.recl_len {H:Hd} {R:KV} (hg:HG H R) {L:List (List UInt8×List UInt8)} (h:A8j (R3 (H.st R).m R H.typ) L):L.length<=1048576:=by
 have h1:=hg.total L h.nd h.mem;have hm:=h.mem
 have:L.length<=(D7 L).length:=by
  clear h h1;induction L with
  |nil=>exact zW _
  |cons p L ih=>
   have hv:=(hg.val p.1 p.2 (hm p (by simp))).1;have:=A0y p.1 p.2 (List.length_pos_iff.2 (M7 hv).1);rw[T7,zH,P7,List.length_cons];have:=ih (λq hq=>hm q (List.mem_cons_of_mem _ hq));omega
 omega
theorem B4A (H:Hd) (h1:H.mw=0) (h2:H.aw=0) (h3:H.ax=0) (h4:H.cw=0) (h5:H.cx=0): ({H with mw:=0,aw:=0,ax:=0,cw:=0,cx:=0,xattr:= .map none,recs:= .map none,fmt:=6}:Hd)= {H with xattr:= .map none,recs:= .map none,fmt:=6}:=by
 cases H;simp_all
theorem A8I {m R:KV} {typ:Int} (ht:typ≠103) {k:List UInt8} (hm:m k=none) (hp:Lib.hasPrefix k [71,78,85,46,115,112,97,114,115,101,46]=true):R3 m R typ k=none:=by
 unfold R3;rw[hm];simp only;rw[if_neg];rintro(h|⟨-,h⟩)
 ·exact ht h
 ·rw[hp] at h;cases h
theorem C1I {bs AA a b c:List UInt8} {q p n:Nat} (h: (bs.drop q).take AA.length=AA) (ho:AA=a++(b++c)) (hp:a.length=p) (hn:b.length=n): (bs.drop (q+p)).take n=b:=by
 have e:bs.drop q=a++(b++(c++(bs.drop q).drop AA.length)):=by
  have:=(List.take_append_drop AA.length (bs.drop q)).symm;rw[h] at this;rw[this];conv=>lhs;arg 1;rw[ho]
  simp only[List.append_assoc];rw[<-this]
 rw[<-List.drop_drop,e];exact A1d rfl hp hn
def B9z (AA:List UInt8) (B:C1) (Hf:Nat->Hd) (R2:KV) (nb:Int):Prop:=
 ∀ (w:World) (tr r g n c i p0 fr:Nat) (bs:List UInt8) (AB:List Value) (aE:Addr),RD r g n c i w->FRd fr r 0 w->TR tr r p0 (.iface 146 (.pointer (some ⟨fr,0,none⟩))) AB .nilIface w->p0<512->i+p0+AA.length<=n->n<4611686018427387904->n<=c->bs.length=n->At w g 0 (Lib.byteCells bs)->g∉[r,tr]->(bs.drop (i+p0)).take AA.length=AA->w.cell? ⟨0,0,none⟩=some (I7 aE)->0∉[r,tr]->
  Calls Tryz.prog 72 #[.pointer (some ⟨tr,0,none⟩)] w λe w'=>∃mb,Y5 tr r g n c (i+p0+AA.length) B (Hf mb) R2 nb w e w'
theorem Y5.at {tr r g n c i j:Nat} {B:C1} {H:Hd} {R:KV} {nb:Int} {w:World} {e:Ending} {w':World} (h:Y5 tr r g n c i B H R nb w e w') (hj:j=i):Y5 tr r g n c j B H R nb w e w':=hj▸h
theorem A4L {bs AA a b c:List UInt8} {q qp n:Nat} (ho:AA=a++(b++c)) (hn:b.length=n) (h: (bs.drop q).take AA.length=AA) (hq:qp=q+a.length): (bs.drop qp).take n=b:=by
 rw[hq];exact C1I h ho rfl hn
theorem C1g (AU:List UInt8) (H:Hd) (R:KV) (AO:Bool) (hg:HG H R) (hf: (fOf H R AO).2.2=true) (B2:C1) (X Y:List UInt8) (hb:A6f H B2) (hX:LX 76 H.name X) (hY:LX 75 H.link Y) (AA:AU=X++Y++B2.bytes):
  B9z AU B2 (λ_=>H.rd 8) (λ_=>none) (if D1 H.typ then 0 else H.size):=by
 obtain⟨Ae,Ah⟩:=B4v hg AO hf;have h4:=B5O AO hf;obtain⟨Ad,hu,Ac⟩:=B2O hg.inT.toIn Ae;have Ag:=hg.ty;have Af:=hg.sum [] (by simp) (by simp);have AX:RHC B2 (rdG B2 (gV H)):=B7Z (hb.rdg Ad hg.inT);have AV:J9 B2=H.typ:=by rw[J9,hb.typ];exact typ_back _ (by omega)
 have AB:B2.bytes.length=512:=hb.ok.len;have AH:=λnm lk hn hl=>hb.back (by omega) hg.tz hg.zn hg.zl hg.zu hg.zg hu Ac (hg.mw h4) (hg.ac h4).1 (hg.ac h4).2 nm lk hn hl
 have AY:0<=(if D1 H.typ then(0:Int) else H.size):=by
  split
  ·decide
  ·exact hg.size
 have AZ: (if D1 H.typ then(0:Int) else H.size)<=9223372036854775807:=by
  split
  ·decide
  ·exact hg.inT.size.2
 have AW: (if D1 H.typ then(0:Int) else H.size)=if D1 (rdG B2 (gV H)).typ then 0 else(rdG B2 (gV H)).size:=by
  show _=if D1 (J9 B2) then(0:Int) else H.size
  rw[AV]
 have AI:48<=(rdG B2 (gV H)).typ/\(rdG B2 (gV H)).typ<=55:=by show 48<=J9 B2/\J9 B2<=55;rw[AV];exact Ag
 have Ai:=hX.len;have Aj:=hY.len;have Ak:AU.length<=140737488355328:=by rw[AA];simp only[List.length_append];omega
 generalize Al: (if D1 H.typ then(0:Int) else H.size)=sz at*;rcases hX.cases hg.zn (by omega) (by decide) with ⟨n1,rfl⟩|⟨n1,RN,dN,pN,cN,tN,lN,kN,zN,mN,qN,vN,rfl⟩<;>rcases hY.cases hg.zl (by omega) (by decide) with ⟨n2,rfl⟩|⟨n2,RK,dK,pK,cK,tK,lK,kK,zK,mK,qK,vK,rfl⟩
 ·have AG:=AH [] [] (.inl ⟨n1,rfl⟩) (.inl ⟨n2,rfl⟩)
  have Aa:AU.length=512:=by rw[AA];simp[AB]
  intro w' tr r g' n c' i p0 fr bs AJ aE hr AQ ht AT hi AE AS AP AD AR AC AL AM;refine(C0j w' tr r g' n c' i p0 fr bs AJ aE B2 (rdG B2 (gV H)) {H with xattr:= .map none,recs:= .map none,fmt:=8} sz AX rfl rfl hr AQ AT ht (by omega) AE AS AP AD AR (A4L (a:=[]) (c:=[]) (by rw[AA];simp) AB AC (by simp only[List.length_append,List.length_replicate,List.length_nil]<;>omega)) AL AM AI AG.symm AW AY AZ).mono (λe Ab h=>⟨0,h.at (by omega)⟩)
 ·have AG:=AH [] (D4 dK) (.inl ⟨n1,rfl⟩) (.inr ⟨n2,kK⟩)
  have Aa:AU.length=512+dK.length+pK+512:=by rw[AA];simp[AB,lK];omega
  intro w' tr r g' n c' i p0 fr bs AJ aE hr AQ ht AT hi AE AS AP AD AR AC AL AM;refine(C0L w' tr r g' n c' i p0 fr RK _ dK.length pK dK bs AJ aE B2 (rdG B2 (gV H)) {H with xattr:= .map none,recs:= .map none,fmt:=8} sz AX rfl rfl hr AQ AT ht (by omega) AE AS AP AD AR (A4L (a:=RK.bytes++dK++List.replicate pK 0) (c:=[]) (by rw[AA];simp[List.append_assoc]) AB AC (by simp only[List.length_append,List.length_replicate,List.length_nil,lK]<;>omega)) cK rfl tK rfl mK zK qK vK (A4L (a:=[]) (c:=dK++List.replicate pK 0++B2.bytes) (by rw[AA];simp[List.append_assoc]) lK AC (by simp only[List.length_append,List.length_replicate,List.length_nil]<;>omega)) (A4L (a:=RK.bytes) (c:=List.replicate pK 0++B2.bytes) (by rw[AA];simp[List.append_assoc]) rfl AC (by simp only[List.length_append,List.length_replicate,List.length_nil,lK]<;>omega)) AL AM AI AG.symm AW AY AZ).mono (λe Ab h=>⟨0,h.at (by omega)⟩)
 ·have AG:=AH (D4 dN) [] (.inr ⟨n1,kN⟩) (.inl ⟨n2,rfl⟩)
  have Aa:AU.length=512+dN.length+pN+512:=by rw[AA];simp[AB,lN];omega
  intro w' tr r g' n c' i p0 fr bs AJ aE hr AQ ht AT hi AE AS AP AD AR AC AL AM;refine(C0M w' tr r g' n c' i p0 fr RN _ dN.length pN dN bs AJ aE B2 (rdG B2 (gV H)) {H with xattr:= .map none,recs:= .map none,fmt:=8} sz AX rfl rfl hr AQ AT ht (by omega) AE AS AP AD AR (A4L (a:=RN.bytes++dN++List.replicate pN 0) (c:=[]) (by rw[AA];simp[List.append_assoc]) AB AC (by simp only[List.length_append,List.length_replicate,List.length_nil,lN]<;>omega)) cN rfl tN rfl mN zN qN vN (A4L (a:=[]) (c:=dN++List.replicate pN 0++B2.bytes) (by rw[AA];simp[List.append_assoc]) lN AC (by simp only[List.length_append,List.length_replicate,List.length_nil]<;>omega)) (A4L (a:=RN.bytes) (c:=List.replicate pN 0++B2.bytes) (by rw[AA];simp[List.append_assoc]) rfl AC (by simp only[List.length_append,List.length_replicate,List.length_nil,lN]<;>omega)) AL AM AI AG.symm AW AY AZ).mono (λe Ab h=>⟨0,h.at (by omega)⟩)
 ·have AG:=AH (D4 dN) (D4 dK) (.inr ⟨n1,kN⟩) (.inr ⟨n2,kK⟩)
  have Aa:AU.length=512+dN.length+pN+(512+dK.length+pK)+512:=by rw[AA];simp[AB,lN,lK];omega
  intro w' tr r g' n c' i p0 fr bs AJ aE hr AQ ht AT hi AE AS AP AD AR AC AL AM
  refine(B9p w' tr r g' n c' i p0 fr RN _ dN.length pN dN RK _ dK.length pK dK bs AJ aE B2 (rdG B2 (gV H)) {H with xattr:= .map none,recs:= .map none,fmt:=8} sz AX rfl rfl hr AQ AT ht (by omega) AE AS AP AD AR (A4L (a:=RN.bytes++dN++List.replicate pN 0++RK.bytes++dK++List.replicate pK 0) (c:=[]) (by rw[AA];simp[List.append_assoc]) AB AC (by simp only[List.length_append,List.length_replicate,List.length_nil,lN,lK]<;>omega))
   cN rfl tN rfl mN zN qN vN (A4L (a:=[]) (c:=dN++List.replicate pN 0++(RK.bytes++dK++List.replicate pK 0)++B2.bytes) (by rw[AA];simp[List.append_assoc]) lN AC (by simp only[List.length_append,List.length_replicate,List.length_nil]<;>omega)) (A4L (a:=RN.bytes) (c:=List.replicate pN 0++(RK.bytes++dK++List.replicate pK 0)++B2.bytes) (by rw[AA];simp[List.append_assoc]) rfl AC (by simp only[List.length_append,List.length_replicate,List.length_nil,lN]<;>omega))
   cK rfl tK rfl mK zK qK vK (A4L (a:=RN.bytes++dN++List.replicate pN 0) (c:=dK++List.replicate pK 0++B2.bytes) (by rw[AA];simp[List.append_assoc]) lK AC (by simp only[List.length_append,List.length_replicate,List.length_nil,lN]<;>omega)) (A4L (a:=RN.bytes++dN++List.replicate pN 0++RK.bytes) (c:=List.replicate pK 0++B2.bytes) (by rw[AA];simp[List.append_assoc]) rfl AC (by simp only[List.length_append,List.length_replicate,List.length_nil,lN,lK]<;>omega)) AL AM AI AG.symm AW AY AZ).mono (λe Ab h=>⟨0,h.at (by omega)⟩)
theorem B9q (Al:List UInt8) (H:Hd) (R:KV) (AB:Bool) (hg:HG H R)
  (Aj: (fOf H R AB).1=false->(fOf H R AB).2.1=false->(fOf H R AB).2.2=true) (ho:A4O (fOf H R AB) (R3 (H.st R).m R H.typ) H Al):
  ∃ (B:C1) (f:Int) (R2:KV) (rv:Nat->Value),(R2=R3 (H.st R).m R H.typ\/(AB=false/\∀k,R2 k=none))/\(f=2\/f=4\/f=8)/\B9z Al B (λmb=> {H.rd f with recs:=rv mb}) R2 (if D1 H.typ then 0 else H.size):=by
 have Ag:0<=(if D1 H.typ then(0:Int) else H.size):=by
  split
  ·decide
  ·exact hg.size
 have Ah: (if D1 H.typ then(0:Int) else H.size)<=9223372036854775807:=by
  split
  ·decide
  ·exact hg.inT.size.2
 rcases ho with ⟨hf,B2,hu,rfl⟩|⟨hf,AZ,B2,X,Ac,Au,rfl⟩|⟨hf,AZ,B2,X,Y,Ar,hX,hY,rfl⟩
 ·obtain⟨Aq,hr,As⟩:=B4w hg AB hf
  obtain⟨u1,u2,u3,u4,u5,u6⟩:=B3a H R Aq;have AY:=hg.ty;have AH:=hu.rdf u1 u2 (by omega);have AA:=hu.back u1 u2 (by omega) hg.tz
  have AC: ({O7 B2 (uV H) with fmt:=2}:Hd)=H.rd 2:=by
   rw[AA,B4A H As u3 u4 u5 u6];rfl
  have AI:J9 B2=H.typ:=by rw[J9,hu.typ];exact typ_back _ (by omega)
  have AJ:B2.bytes.length=512:=hu.ok.len;have Ad: (if D1 H.typ then(0:Int) else H.size)=if D1 (O7 B2 (uV H)).typ then 0 else(O7 B2 (uV H)).size:=by rw[AA]
  refine⟨B2,2,λ_=>none,λ_=> .map none,.inr ⟨hr,λ_=>rfl⟩,.inl rfl,?_⟩;intro w' tr r g' n c' i p0 fr bs AO aE hr AS ht AW hi AE AU AR AD AT AG AP AQ;rw[AJ] at hi AG;refine(B9r w' tr r g' n c' i p0 fr bs AO aE B2 (uV H) _ AH hr AS AW ht (by omega) AE AU AR AD AT AG AP AQ (by rw[AI];exact AY) Ad Ag Ah).mono (λe Am h=>⟨0,?_⟩);rw[AC] at h;exact h.at (by rw[AJ])
 ·have hp:=B6z AB AZ
  have AY:=hg.ty;have ht:H.typ≠103:=by omega
  have AH:=Ac.rdf (by omega);have AA:=Ac.back R AY hp.1 hp.2.1 hp.2.2 hg.tz;have AI:J9 B2=H.typ:=by rw[J9,Ac.typ];exact typ_back _ (by omega)
  have Aa:B2.bytes.length=512:=Ac.ok.len
  have Ak:0<=(if D1 (O7 B2 (pV H)).typ then(0:Int) else(O7 B2 (pV H)).size)/\(if D1 (O7 B2 (pV H)).typ then(0:Int) else(O7 B2 (pV H)).size)<=9223372036854775807:=by
   have h9: (O7 B2 (pV H)).size=(oP 12 H.size:Nat):=rfl;have h8:=A5C 12 H.size;rw[h9];split
   ·exact⟨by decide,by decide⟩
   ·have: (8:Nat)^ (12-1)=8589934592:=by decide
    omega
  rcases Au with ⟨hm,rfl⟩|⟨Rb,L,Af,Ai,An,Ao,Ap,rfl⟩
  ·have e1:mrg (O7 B2 (pV H)) (A3I H R) (λk=>(R3 (H.st R).m R H.typ k).isSome)=O7 B2 (pV H):=by
    have: (λk=>(R3 (H.st R).m R H.typ k).isSome)=λ_=>false:=by funext k;rw[hm k];rfl
    rw[this];rfl
   rw[e1] at AA;have AC: ({O7 B2 (pV H) with fmt:=2}:Hd)=H.rd 2:=by rw[AA];rfl
   have Ad: (if D1 H.typ then(0:Int) else H.size)=if D1 (O7 B2 (pV H)).typ then 0 else(O7 B2 (pV H)).size:=by rw[AA]
   rw[List.nil_append];refine⟨B2,2,λ_=>none,λ_=> .map none,.inl (funext λk=>(hm k).symm),.inl rfl,?_⟩;intro w' tr r g' n c' i p0 fr bs AO aE hr AS ht AW hi AE AU AR AD AT AG AP AQ;rw[Aa] at hi AG;refine(B9r w' tr r g' n c' i p0 fr bs AO aE B2 (pV H) _ AH hr AS AW ht (by omega) AE AU AR AD AT AG AP AQ (by rw[AI];exact AY) Ad Ag Ah).mono (λe Am h=>⟨0,?_⟩);rw[AC] at h;exact h.at (by rw[Aa])
  ·have AM:E0 (λ_=>none) L=R3 (H.st R).m R H.typ:=A9P _ L Ai An
   have Av:=Af.rdf (by omega) (by omega);have Ab:Rb.bytes.length=512:=Af.ok.len;have Ax:0<=E7 (D7 L).length/\E7 (D7 L).length<512:=by unfold E7;omega
   have AV:∀k,k∉F6->Lib.hasPrefix k [71,78,85,46,115,112,97,114,115,101,46]=true->R3 (H.st R).m R H.typ k=none:=λk h1 h2=>A8I ht (A4d H R h1) h2;have n1:=AV A2d (by decide) (by decide);have n2:=AV A2e (by decide) (by decide);have n3:=AV A9D (by decide) (by decide);have n4:=AV B7F (by decide) (by decide);have n5:=AV B7E (by decide) (by decide)
   have AX:A4j L:=λp hp=>by
    have h:=Ai p hp;refine⟨(hg.val p.1 p.2 h).1,λe=> ?_,λe=> ?_⟩
    ·rw[e,n4] at h;cases h
    ·rw[e,n5] at h;cases h
   have Ae:0< (D7 L).length:=by
    obtain⟨p,L',rfl⟩:=List.exists_cons_of_ne_nil Ao;rw[T7,zH,P7]
    have:=A0y p.1 p.2 (by
     have h:=M7 (AX p (by simp)).1;exact List.length_pos_iff.2 h.1)
    omega
   have AL: (Rb.bytes++D7 L++List.replicate (E7 (D7 L).length).toNat 0++B2.bytes)=Rb.bytes++(D7 L++(List.replicate (E7 (D7 L).length).toNat 0++B2.bytes)):=by simp[List.append_assoc]
   have AJ: (Rb.bytes++D7 L++List.replicate (E7 (D7 L).length).toNat 0++B2.bytes).length=512+(D7 L).length+(E7 (D7 L).length).toNat+512:=by
    simp only[List.length_append,List.length_replicate,Ab,Aa]
   have AC: (mrg (O7 B2 (pV H)) (A3I H R) (λk=>(E0 (λ_=>none) L k).isSome))= {H with xattr:= .map none,recs:= .map none,fmt:=6}:=by rw[AM];exact AA
   generalize Aw: (Rb.bytes++D7 L++List.replicate (E7 (D7 L).length).toNat 0++B2.bytes)=os at*;refine⟨B2,4,R3 (H.st R).m R H.typ,λmb=> .map (some mb),.inl rfl,.inr (.inl rfl),?_⟩;intro w' tr r g' n c' i p0 fr bs AO aE hr AS ht AW hi AE AU AR AD AT AG AP AQ
   refine(C0k w' tr r g' n c' i p0 fr (D7 L).length (E7 (D7 L).length).toNat bs AO aE Rb B2 _ (pV H) L (A3I H R) _ Av AH hr AS AW ht (by omega) (by omega) (by omega) AE AU AR AD AT
    (A4L (a:=[]) (c:=D7 L++(List.replicate (E7 (D7 L).length).toNat 0++B2.bytes)) (by rw[AL];rfl) Ab AG (by simp only[List.length_nil]<;>omega))
    (A4L (a:=Rb.bytes) (c:=List.replicate (E7 (D7 L).length).toNat 0++B2.bytes) AL rfl AG (by rw[Ab]))
    (A4L (a:=Rb.bytes++D7 L++List.replicate (E7 (D7 L).length).toNat 0) (c:=[]) (by rw[AL];simp[List.append_assoc]) Aa AG (by simp only[List.length_append,List.length_replicate,Ab]<;>omega)) AP AQ (Af.typ_back (by omega)) rfl Ae Ap AX (by rw[AM];exact hg.mok) (by rw[AM];exact n1) (by rw[AM];exact n2) (by rw[AM];exact n3) (by rw[AI];exact AY) _ rfl _ rfl Ak.1 Ak.2 ?_ Ag Ah).mono ?_
   ·rw[AC]
   ·rintro e Am ⟨mb,h⟩
    rw[AC,AM] at h;exact⟨mb,h.at (by omega)⟩
 ·have h:=C1g _ H R AB hg (Aj hf AZ) B2 X Y Ar hX hY rfl
  exact⟨B2,8,λ_=>none,λ_=> .map none,.inr ⟨(B4v hg AB (Aj hf AZ)).2,λ_=>rfl⟩,.inr (.inr rfl),h⟩
end Go.Proofs.YtkanmkcojlefbaaGreatDoor
