/-
  Part of the proof; holds the texts VTim.
-/
import Derived.Test.YtkanmkcojlefbaaGreatDoorM09
set_option maxRecDepth 100000
set_option linter.unusedSimpArgs false
set_option linter.unusedVariables false
namespace Go.Proofs.YtkanmkcojlefbaaGreatDoor
open Go.RowKit
def R4 (n x:Int) (key:List UInt8):Bool:= !(decide (key=H6))|| !(B8 12 (x-62135596800))|| !(decide (n=0))
def A0E (u:Bool) (n x:Int) (key:List UInt8):Bool:=if E5 n x then u else u&& (decide (key=H6)&&B8 12 (x-62135596800))
def A0b (q:Bool) (n x:Int) (key:List UInt8):Bool:=if E5 n x then q else q||R4 n x key
def A1e (m:KV) (n x:Int) (key:List UInt8):KV:=if R4 n x key then O2 m key (C9 (x-62135596800) n) else m
def A1F (m R:KV) (n x:Int) (key:List UInt8):KV:=if E5 n x then m else if R4 n x key||decide (R key=some (C9 (x-62135596800) n)) then O2 m key (C9 (x-62135596800) n) else m
theorem A3R (m R:KV) (n x:Int) (key:List UInt8) (hz:E5 n x=false) (h:R key=some (C9 (x-62135596800) n)):O2 (A1e m n x key) key (C9 (x-62135596800) n)=A1F m R n x key:=by
 unfold A1F A1e;rw[hz,zY h,Bool.or_true];cases R4 n x key
 ·simp
 ·simp[A2k]
theorem A2P (m R:KV) (n x:Int) (key:List UInt8) (hz:E5 n x=false) (h:R key≠some (C9 (x-62135596800) n)):A1e m n x key=A1F m R n x key:=by
 unfold A1F A1e;rw[hz,zV h,Bool.or_false];simp
theorem O0 (s n:Int) (h0:0<=n) (h1:n<1000000000) (hs: -100000000000000000<=s/\s<=100000000000000000): (C9 s n).length<=2000:=by
 have hi:=V0 s ⟨by omega,by omega⟩;have AA:=V0 (-(s+1)) ⟨by omega,by omega⟩;unfold C9;split
 ·omega
 ·split
  ·have h2:=A3p (45::(Lib.itoa (-(s+1))++46::R7 (1000000000-n).toNat)) 48
   have h3:=P6 (1000000000-n).toNat (by omega);simp only[List.length_cons,List.length_append,h3] at h2;omega
  ·have h2:=A3p (Lib.itoa s++46::R7 n.toNat) 48
   have h3:=P6 n.toNat (by omega);simp only[List.length_cons,List.length_append,h3] at h2;omega
theorem A1O (w:World) (x:Int):Calls Tryz.prog 99 #[.int .i64 12,.int .i64 x] w (C4 w (.bool true)):=A4X w 12 x (.inr rfl)
theorem B1d (G0:Nat) (E:Nat->Addr) (b0:Nat) (H:Hd) (R:KV) (u p g q:Bool) (m:KV) (k:Nat) (w:World) (h:AF G0 E b0 H R u p g q m k w) (n x:Int) (nm key:List UInt8) (hz:E5 n x=true):
  Calls Tryz.prog 102 #[tmV n x,.int .i64 12,str nm,str key,.pointer (some ⟨b0+6,0,none⟩),.pointer (some ⟨b0+1,0,none⟩),.pointer (some ⟨b0+4,0,none⟩),.pointer (some ⟨b0+7,0,none⟩),.pointer (some ⟨b0+5,0,none⟩),.pointer (some ⟨b0+2,0,none⟩),.pointer (some ⟨b0,0,none⟩)] w
   (A0R G0 E b0 H R (A0E u n x key) p g (A0b q n x key) (A1F m R n x key) (k+2) w):=by
 have a1:=zI w (.cells #[.int .u64 n,.int .i64 x] 126);have AB:=(zD w.heap.size w).alloc (zB _) (.cells #[.int .u64 n,.int .i64 x] 126);have AC:=λw'=>V6 w' n x;have HH:=A0 h;have AA:=A0 AB;have EQ:Hid (A0E u n x key=u/\A0b q n x key=q/\A1F m R n x key=m):=A0 ⟨by unfold A0E;rw[hz];rfl,by unfold A0b;rw[hz];rfl,by unfold A1F;rw[hz];rfl⟩;rw[hz] at AC;have c0: (w.alloc (.cells #[.int .u64 n,.int .i64 x] 126)).cell? ⟨w.heap.size,0,none⟩=some (.int .u64 n):=by rw[zA a1];rfl
 have c1: (w.alloc (.cells #[.int .u64 n,.int .i64 x] 126)).cell? ⟨w.heap.size,1,none⟩=some (.int .i64 x):=by rw[zA a1];rfl
 clear h AB a1 hz;go_enter Tryz.func102,Tryz.ntmps102
 go_wp2_with fail
 refine(AC _).mono ?_;rintro e w1 ⟨rfl,hb⟩;have HB:=A0 (AA.out.trans (hb.mono AA.out.size));clear hb;go_wp2_with fail
 go_end0
 refine⟨rfl,?_,HB.out.mono (by have:=HH.out.lt;omega)⟩;rw[EQ.out.1,EQ.out.2.1,EQ.out.2.2];exact(HH.out.below HB.out).mono (by omega)
theorem AF.put2 {G0:Nat} {E:Nat->Addr} {b0:Nat} {H:Hd} {R:KV} {u p g q:Bool} {m:KV} {n:Nat} {w:World} (h:AF G0 E b0 H R u p g q m n w) (hn:n<1099511627776) (k v:List UInt8) (hk:k.length<=9223372036854775807) (hv:v.length<=9223372036854775807):
  ∃w',(Instr.mapUpdate 127 (.map (some (b0+3))) (str k) (str v)).run Tryz.prog w= .ok () w'/\AF G0 E b0 H R u p g q (O2 m k v) (n+1) w'/\Below b0 w w'/\∀i,i≠b0+3->i<w.heap.size->w'.heap[i]?=w.heap[i]?:=by
 obtain⟨w',hr,hm,f⟩:=h.mp.update A0p hn k v hk hv;obtain⟨w2,AA,h1,h2⟩:=h.put hn k v hk hv;obtain rfl:w'=w2:=by rw[hr] at AA;injection AA
 refine⟨w',hr,h1,h2,λi hi hl=> ?_⟩;obtain⟨o,ho⟩:∃o,w.heap[i]?=some o:=⟨_,Array.getElem?_eq_getElem hl⟩;rw[ho];exact f.same ho (by simpa using hi) (.inl hl)
theorem B6N (G0:Nat) (E:Nat->Addr) (b0:Nat) (H:Hd) (R:KV) (u p g q:Bool) (m:KV) (k:Nat) (w:World) (h:AF G0 E b0 H R u p g q m k w) (n x:Int) (nm:List UInt8) (Ay:nm.length<=20) (hk:k<1000) (hz:E5 n x=false) (h0:0<=n) (h1:n<1000000000) (hx: -100000000000000000<=x-62135596800/\x-62135596800<=100000000000000000) (AI:B8 12 (x-62135596800)=true) (AV:n=0):
  Calls Tryz.prog 102 #[tmV n x,.int .i64 12,str nm,str [109,116,105,109,101],.pointer (some ⟨b0+6,0,none⟩),.pointer (some ⟨b0+1,0,none⟩),.pointer (some ⟨b0+4,0,none⟩),.pointer (some ⟨b0+7,0,none⟩),.pointer (some ⟨b0+5,0,none⟩),.pointer (some ⟨b0+2,0,none⟩),.pointer (some ⟨b0,0,none⟩)] w
   (A0R G0 E b0 H R (A0E u n x [109,116,105,109,101]) p g (A0b q n x [109,116,105,109,101]) (A1F m R n x [109,116,105,109,101]) (k+2) w):=by
 have AU:decide ([109,116,105,109,101]=H6)=true:=zY rfl;have AW:R4 n x [109,116,105,109,101]=false:=by unfold R4;rw[AU];rw[AI,zY AV];rfl
 have eU:A0E u n x [109,116,105,109,101]=u:=by unfold A0E;rw[hz,AU];simp[AI]
 have eQ:A0b q n x [109,116,105,109,101]=q:=by unfold A0b;rw[hz,AW];simp
 have Ac:A1e m n x [109,116,105,109,101]=m:=by unfold A1e;rw[AW];rfl
 have EU:=A0 eU;have EQ:=A0 eQ;have AL:=A0 Ac;have Aq:=A0 (λh=>A3R m R n x [109,116,105,109,101] hz h);have Ab:=A0 (λh=>A2P m R n x [109,116,105,109,101] hz h);have t0: (n !=0)=false:=by simp[AV]
 clear AV;have AH:=O0 (x-62135596800) n h0 h1 hx;have AE:=λw'=>A2U (x-62135596800) w' 12 (by omega) (by omega) (by omega);rw[AI] at AE;have a1:=zI w (.cells #[.int .u64 n,.int .i64 x] 126);have AS:=(zD w.heap.size w).alloc (zB _) (.cells #[.int .u64 n,.int .i64 x] 126);have AT:=λw'=>V6 w' n x;rw[hz] at AT;have Aj:=λw'=>A0k w' n x h0 h1 hx;have Ai:=λw'=>A6a w' n x h0 h1;have Ah:=λw' (hg:Gl G0 E w')=>A1P w' hg n x h0 h1 hx;have HU:=A0 Aj;have Ar:=A0 Ai;have Ao:=A0 Ah;have H8:=A0 AE;have Ap:=A0 AT;have AX:=A0 (h.below AS);have Ak:=A0 (AS.mono (show b0<=w.heap.size by have:=h.lt;omega));have Ax:=h.lt;generalize BC:w.alloc (.cells #[.int .u64 n,.int .i64 x] 126)=w1 at*;generalize hB:w.heap.size=B1 at*;have A1:=A0 a1;have c0:w1.cell? ⟨B1,0,none⟩=some (.int .u64 n):=by rw[zA a1];rfl
 have c1:w1.cell? ⟨B1,1,none⟩=some (.int .i64 x):=by rw[zA a1];rfl
 clear h AS a1 hz AU AW eU eQ Ac Aj Ai Ah AE AT AI;generalize hS:x-62135596800=S at*;have Av:=A0 hS;clear hS;go_enter Tryz.func102,Tryz.ntmps102
 go_wp2_with fail
 refine(Ap.out _).mono ?_;rintro e w2 ⟨rfl,hb⟩;have AY:=A0 (AX.out.below hb);have Al:=A0 (Ak.out.trans (hb.mono (show b0<=w1.heap.size by have:=AX.out.lt;omega)));have a1:=(hb.block B1 (A8 A1.out)).trans A1.out;have A2:=A0 a1;have c0:w2.cell? ⟨B1,0,none⟩=some (.int .u64 n):=by rw[zA a1];rfl
 have c1:w2.cell? ⟨B1,1,none⟩=some (.int .i64 x):=by rw[zA a1];rfl
 clear hb a1;go_wp2_with fail
 refine(HU.out _).mono ?_;rintro e w3 ⟨rfl,hb⟩;have AZ:=A0 (AY.out.below hb);have Am:=A0 (Al.out.trans (hb.mono (show b0<=w2.heap.size by have:=AY.out.lt;omega)));have a1:=(hb.block B1 (A8 A2.out)).trans A2.out;have A3:=A0 a1;have c0:w3.cell? ⟨B1,0,none⟩=some (.int .u64 n):=by rw[zA a1];rfl
 have c1:w3.cell? ⟨B1,1,none⟩=some (.int .i64 x):=by rw[zA a1];rfl
 clear hb a1;go_wp2_with fail
 refine(A1O _ _).mono ?_;rintro e wx ⟨rfl,rfl⟩;go_wp2_with fail
 refine(HU.out _).mono ?_;rintro e w4 ⟨rfl,hb⟩;have Aa:=A0 (AZ.out.below hb);have An:=A0 (Am.out.trans (hb.mono (show b0<=w3.heap.size by have:=AZ.out.lt;omega)));have a1:=(hb.block B1 (A8 A3.out)).trans A3.out;have A4:=A0 a1;have c0:w4.cell? ⟨B1,0,none⟩=some (.int .u64 n):=by rw[zA a1];rfl
 have c1:w4.cell? ⟨B1,1,none⟩=some (.int .i64 x):=by rw[zA a1];rfl
 clear hb a1;go_wp2_with fail
 refine(H8.out _).mono ?_;rintro e wx ⟨rfl,rfl⟩;go_wp2_with fail
 refine(Ar.out _).mono ?_;rintro e w6 ⟨rfl,hb⟩;have AA:=A0 (Aa.out.below hb);have AQ:=A0 (An.out.trans (hb.mono (show b0<=w4.heap.size by have:=Aa.out.lt;omega)));have a1:=(hb.block B1 (A8 A4.out)).trans A4.out;have A6:=A0 a1;have c0:w6.cell? ⟨B1,0,none⟩=some (.int .u64 n):=by rw[zA a1];rfl
 have c1:w6.cell? ⟨B1,1,none⟩=some (.int .i64 x):=by rw[zA a1];rfl
 clear hb a1;clear c0 c1;have Af:=AA.out.cells.2.2.2.2.2.2.2;have AJ:=AA.out.lookR [109,116,105,109,101] (by decide);cases AB:R [109,116,105,109,101] with
 |none=>
  rw[AB] at AJ;simp only[Option.getD_none,Option.isSome_none] at AJ;have AG:=A0 (Ab.out (by rw[AB];simp));clear AB;go_wp2_with fail
  go_end0
  refine⟨rfl,?_,AQ.out⟩;rw[EU.out,EQ.out,<-AG.out,AL.out];exact AA.out.mono (by omega)
 |some v=>
  rw[AB] at AJ;simp only[Option.getD_some,Option.isSome_some] at AJ;have a1:=A6.out;have c0:w6.cell? ⟨B1,0,none⟩=some (.int .u64 n):=by rw[zA a1];rfl
  have c1:w6.cell? ⟨B1,1,none⟩=some (.int .i64 x):=by rw[zA a1];rfl
  clear a1;have Ag:=Ao.out w6 AA.out.gl;by_cases hv:v=C9 S n
  ·have AG:=A0 (Aq.out (by rw[AB,hv]))
   have As: (v==C9 S n)=true:=by rw[hv];simp
   have BA:v.length<=2000:=by rw[hv];exact AH
   have HV:=A0 hv;clear AB hv;go_wp2_with fail
   refine Ag.mono ?_;rintro e Au ⟨rfl,AD⟩;have AR:=AA.out.below AD;have Aw:=AR.cells.2.2.2.2.2.2.1;have AC:=A0 (AQ.out.trans (AD.mono (by have:=AA.out.lt;omega)));obtain⟨BD,Az,Ad,Ae⟩:=AR.put (by omega) [109,116,105,109,101] v (by decide) (by omega);have AO:=A0 Ad;have AP:=A0 (AC.out.trans Ae);clear Ad Ae AD AR Af c0 c1;go_wp2_with fail
   go_end0
   refine⟨rfl,?_,AP.out⟩;have:=AO.out;rw[HV.out] at this;rw[EU.out,EQ.out,<-AG.out,AL.out];exact this.mono (by omega)
  ·have AG:=A0 (Ab.out (by rw[AB];intro e;cases e;exact hv rfl))
   have As: (v==C9 S n)=false:=by rw[zG];exact hv
   clear AB hv;go_wp2_with fail
   refine Ag.mono ?_;rintro e Au ⟨rfl,AD⟩;have AM:=A0 (AA.out.below AD);have AC:=A0 (AQ.out.trans (AD.mono (by have:=AA.out.lt;omega)));clear AD Af c0 c1;go_wp2_with fail
   go_end0
   refine⟨rfl,?_,AC.out⟩;rw[EU.out,EQ.out,<-AG.out,AL.out];exact AM.out.mono (by omega)
theorem B6O (G0:Nat) (E:Nat->Addr) (b0:Nat) (H:Hd) (R:KV) (u p g q:Bool) (m:KV) (k:Nat) (w:World) (h:AF G0 E b0 H R u p g q m k w) (n x:Int) (nm:List UInt8) (BO:nm.length<=20) (hk:k<1000) (hz:E5 n x=false) (h0:0<=n) (h1:n<1000000000) (hx: -100000000000000000<=x-62135596800/\x-62135596800<=100000000000000000) (AM:B8 12 (x-62135596800)=true) (Ab:¬n=0):
  Calls Tryz.prog 102 #[tmV n x,.int .i64 12,str nm,str [109,116,105,109,101],.pointer (some ⟨b0+6,0,none⟩),.pointer (some ⟨b0+1,0,none⟩),.pointer (some ⟨b0+4,0,none⟩),.pointer (some ⟨b0+7,0,none⟩),.pointer (some ⟨b0+5,0,none⟩),.pointer (some ⟨b0+2,0,none⟩),.pointer (some ⟨b0,0,none⟩)] w
   (A0R G0 E b0 H R (A0E u n x [109,116,105,109,101]) p g (A0b q n x [109,116,105,109,101]) (A1F m R n x [109,116,105,109,101]) (k+2) w):=by
 have Aa:decide ([109,116,105,109,101]=H6)=true:=zY rfl;have Ac:R4 n x [109,116,105,109,101]=true:=by unfold R4;rw[Aa];rw[AM,zV Ab];rfl
 have eU:A0E u n x [109,116,105,109,101]=u:=by unfold A0E;rw[hz,Aa];simp[AM]
 have eQ:A0b q n x [109,116,105,109,101]=true:=by unfold A0b;rw[hz,Ac];simp
 have Ak:A1e m n x [109,116,105,109,101]=O2 m [109,116,105,109,101] (C9 (x-62135596800) n):=by unfold A1e;rw[Ac];rfl
 have EU:=A0 eU;have EQ:=A0 eQ;have AP:=A0 Ak;have BD:=A0 (λh=>A3R m R n x [109,116,105,109,101] hz h);have Ai:=A0 (λh=>A2P m R n x [109,116,105,109,101] hz h);have t0: (n !=0)=true:=by simp[Ab]
 clear Ab;have AJ:=O0 (x-62135596800) n h0 h1 hx;have AH:=λw'=>A2U (x-62135596800) w' 12 (by omega) (by omega) (by omega);rw[AM] at AH;have a1:=zI w (.cells #[.int .u64 n,.int .i64 x] 126);have AY:=(zD w.heap.size w).alloc (zB _) (.cells #[.int .u64 n,.int .i64 x] 126);have AZ:=λw'=>V6 w' n x;rw[hz] at AZ;have Au:=λw'=>A0k w' n x h0 h1 hx;have As:=λw'=>A6a w' n x h0 h1;have Ar:=λw' (hg:Gl G0 E w')=>A1P w' hg n x h0 h1 hx;have HU:=A0 Au;have BE:=A0 As;have Ah:=A0 Ar;have H8:=A0 AH;have BC:=A0 AZ;have Ad:=A0 (h.below AY);have Av:=A0 (AY.mono (show b0<=w.heap.size by have:=h.lt;omega));have BM:=h.lt;generalize BR:w.alloc (.cells #[.int .u64 n,.int .i64 x] 126)=w1 at*;generalize hB:w.heap.size=B1 at*;have A1:=A0 a1;have c0:w1.cell? ⟨B1,0,none⟩=some (.int .u64 n):=by rw[zA a1];rfl
 have c1:w1.cell? ⟨B1,1,none⟩=some (.int .i64 x):=by rw[zA a1];rfl
 clear h AY a1 hz Aa Ac eU eQ Ak Au As Ar AH AZ AM;generalize hS:x-62135596800=S at*;have BL:=A0 hS;clear hS;go_enter Tryz.func102,Tryz.ntmps102
 go_wp2_with fail
 refine(BC.out _).mono ?_;rintro e w2 ⟨rfl,hb⟩;have Ae:=A0 (Ad.out.below hb);have Aw:=A0 (Av.out.trans (hb.mono (show b0<=w1.heap.size by have:=Ad.out.lt;omega)));have a1:=(hb.block B1 (A8 A1.out)).trans A1.out;have A2:=A0 a1;have c0:w2.cell? ⟨B1,0,none⟩=some (.int .u64 n):=by rw[zA a1];rfl
 have c1:w2.cell? ⟨B1,1,none⟩=some (.int .i64 x):=by rw[zA a1];rfl
 clear hb a1;go_wp2_with fail
 refine(HU.out _).mono ?_;rintro e w3 ⟨rfl,hb⟩;have Af:=A0 (Ae.out.below hb);have Ax:=A0 (Aw.out.trans (hb.mono (show b0<=w2.heap.size by have:=Ae.out.lt;omega)));have a1:=(hb.block B1 (A8 A2.out)).trans A2.out;have A3:=A0 a1;have c0:w3.cell? ⟨B1,0,none⟩=some (.int .u64 n):=by rw[zA a1];rfl
 have c1:w3.cell? ⟨B1,1,none⟩=some (.int .i64 x):=by rw[zA a1];rfl
 clear hb a1;go_wp2_with fail
 refine(A1O _ _).mono ?_;rintro e wx ⟨rfl,rfl⟩;go_wp2_with fail
 refine(HU.out _).mono ?_;rintro e w4 ⟨rfl,hb⟩;have Ag:=A0 (Af.out.below hb);have Ay:=A0 (Ax.out.trans (hb.mono (show b0<=w3.heap.size by have:=Af.out.lt;omega)));have a1:=(hb.block B1 (A8 A3.out)).trans A3.out;have A4:=A0 a1;have c0:w4.cell? ⟨B1,0,none⟩=some (.int .u64 n):=by rw[zA a1];rfl
 have c1:w4.cell? ⟨B1,1,none⟩=some (.int .i64 x):=by rw[zA a1];rfl
 clear hb a1;go_wp2_with fail
 refine(H8.out _).mono ?_;rintro e wx ⟨rfl,rfl⟩;go_wp2_with fail
 refine(BE.out _).mono ?_;rintro e w6 ⟨rfl,hb⟩;have AS:=A0 (Ag.out.below hb);have Az:=A0 (Ay.out.trans (hb.mono (show b0<=w4.heap.size by have:=Ag.out.lt;omega)));have a1:=(hb.block B1 (A8 A4.out)).trans A4.out;have A6:=A0 a1;have c0:w6.cell? ⟨B1,0,none⟩=some (.int .u64 n):=by rw[zA a1];rfl
 have c1:w6.cell? ⟨B1,1,none⟩=some (.int .i64 x):=by rw[zA a1];rfl
 clear hb a1;have h7:=AS.out.setQ true;have cq:w6.cell? ⟨b0+7,0,none⟩=some (.bool q):=by rw[zA AS.out.pr];rfl
 have zq:w6.frozen? ⟨b0+7,0,none⟩=false:=zE AS.out.pr 0;have H7:=A0 h7;have BA:=A0 (Az.out.trans (C8 b0 w6 7 (.bool true)));have a1: (w6.setCell ⟨b0+7,0,none⟩ (.bool true)).heap[B1]?=some (.cells #[.int .u64 n,.int .i64 x] 126 (0,0)):=(C0 _ (by show B1≠b0+7;omega)).trans A6.out;have A7:=A0 a1;clear h7 a1;go_wp2_with fail
 clear cq zq c0 c1;generalize w6.setCell ⟨b0+7,0,none⟩ (.bool true)=w7 at*;have a1:=A7.out;have c0:w7.cell? ⟨B1,0,none⟩=some (.int .u64 n):=by rw[zA a1];rfl
 have c1:w7.cell? ⟨B1,1,none⟩=some (.int .i64 x):=by rw[zA a1];rfl
 have Aj:=H7.out.cells.2.2.2.2.2.2.1;have HF:=A0 (Ah.out w7.drew H7.out.gl.drew);have AA:=A8 a1;have BF:=H7.out.lt;clear a1
 go_region_held3 (λw'=>w'.cell? ⟨b0+2,0,none⟩=some (.map (some (b0+3)))/\w'.cell? ⟨B1,0,none⟩=some (.int .u64 n)/\w'.cell? ⟨B1,1,none⟩=some (.int .i64 x)) (first|go_keep|(refine And.intro ?_ (And.intro ?_ ?_)<;>assumption))
  (first|(go_at_call 105;refine HF.out.mono ?_;rintro e w8 ⟨rfl,AB⟩;have AW:=H7.out.below ((zD _ w7).drew.trans AB);have An:=A0 ((((zD _ w7).drew.trans AB)).mono (show b0<=w7.heap.size by omega));have d2:=AW.cells.2.2.2.2.2.2.1;have d0:=(AB.cell (p:=⟨B1,0,none⟩) AA).trans c0;have d1:=(AB.cell (p:=⟨B1,1,none⟩) AA).trans c1;obtain⟨w9,BI,AX,Ao,AL⟩:=AW.put2 (by omega) [109,116,105,109,101] (C9 S n) (by decide) (by omega);have e2:=AX.cells.2.2.2.2.2.2.1;have e0:=(zZ (w:=w8) (a:=⟨B1,0,none⟩) (AL B1 (by omega) (zL AA AB.size))).trans d0;have e1:=(zZ (w:=w8) (a:=⟨B1,1,none⟩) (AL B1 (by omega) (zL AA AB.size))).trans d1))
 have AU:=A0 (BA.out.trans (An.out.trans Ao));have A9:=A0 ((AL B1 (by omega) (zL AA AB.size)).trans ((AB.block B1 AA).trans A7.out));have AC:=A0 AX;clear c0 c1 Aj AB AW An d0 d1 d2 e0 e1 e2 AX Ao AL BI HF;have Ap:=AC.out.cells.2.2.2.2.2.2.2;have AO:=AC.out.lookR [109,116,105,109,101] (by decide);cases AD:R [109,116,105,109,101] with
 |none=>
  rw[AD] at AO;simp only[Option.getD_none,Option.isSome_none] at AO;have AI:=A0 (Ai.out (by rw[AD];simp));clear AD;go_wp2_with fail
  go_end0
  refine⟨rfl,?_,AU.out⟩;rw[EU.out,EQ.out,<-AI.out,AP.out];exact AC.out.mono (by omega)
 |some v=>
  rw[AD] at AO;simp only[Option.getD_some,Option.isSome_some] at AO;have a1:=A9.out;have c0:w9.cell? ⟨B1,0,none⟩=some (.int .u64 n):=by rw[zA a1];rfl
  have c1:w9.cell? ⟨B1,1,none⟩=some (.int .i64 x):=by rw[zA a1];rfl
  clear a1;have Aq:=Ah.out w9 AC.out.gl;by_cases hv:v=C9 S n
  ·have AI:=A0 (BD.out (by rw[AD,hv]))
   have BH: (v==C9 S n)=true:=by rw[hv];simp
   have BQ:v.length<=2000:=by rw[hv];exact AJ
   have HV:=A0 hv;clear AD hv;go_wp2_with fail
   refine Aq.mono ?_;rintro e BJ ⟨rfl,AG⟩;have AV:=AC.out.below AG;have Aj:=AV.cells.2.2.2.2.2.2.1;have AE:=A0 (AU.out.trans (AG.mono (by have:=AC.out.lt;omega)));obtain⟨BS,BP,Al,Am⟩:=AV.put (by omega) [109,116,105,109,101] v (by decide) (by omega);have AR:=A0 Al;have AT:=A0 (AE.out.trans Am);clear Al Am AG AV Ap c0 c1;go_wp2_with fail
   go_end0
   refine⟨rfl,?_,AT.out⟩;have:=AR.out;rw[HV.out] at this;rw[EU.out,EQ.out,<-AI.out,AP.out];exact this.mono (by omega)
  ·have AI:=A0 (Ai.out (by rw[AD];intro e;cases e;exact hv rfl))
   have BH: (v==C9 S n)=false:=by rw[zG];exact hv
   clear AD hv;go_wp2_with fail
   refine Aq.mono ?_;rintro e BJ ⟨rfl,AG⟩;have AQ:=A0 (AC.out.below AG);have AE:=A0 (AU.out.trans (AG.mono (by have:=AC.out.lt;omega)));clear AG Ap c0 c1;go_wp2_with fail
   go_end0
   refine⟨rfl,?_,AE.out⟩;rw[EU.out,EQ.out,<-AI.out,AP.out];exact AQ.out.mono (by omega)
theorem B6P (G0:Nat) (E:Nat->Addr) (b0:Nat) (H:Hd) (R:KV) (u p g q:Bool) (m:KV) (k:Nat) (w:World) (h:AF G0 E b0 H R u p g q m k w) (n x:Int) (nm:List UInt8) (BO:nm.length<=20) (hk:k<1000) (hz:E5 n x=false) (h0:0<=n) (h1:n<1000000000) (hx: -100000000000000000<=x-62135596800/\x-62135596800<=100000000000000000) (AM:B8 12 (x-62135596800)=false):
  Calls Tryz.prog 102 #[tmV n x,.int .i64 12,str nm,str [109,116,105,109,101],.pointer (some ⟨b0+6,0,none⟩),.pointer (some ⟨b0+1,0,none⟩),.pointer (some ⟨b0+4,0,none⟩),.pointer (some ⟨b0+7,0,none⟩),.pointer (some ⟨b0+5,0,none⟩),.pointer (some ⟨b0+2,0,none⟩),.pointer (some ⟨b0,0,none⟩)] w
   (A0R G0 E b0 H R (A0E u n x [109,116,105,109,101]) p g (A0b q n x [109,116,105,109,101]) (A1F m R n x [109,116,105,109,101]) (k+2) w):=by
 have Aa:decide ([109,116,105,109,101]=H6)=true:=zY rfl;have Ab:R4 n x [109,116,105,109,101]=true:=by unfold R4;rw[Aa];rw[AM];rfl
 have eU:A0E u n x [109,116,105,109,101]=false:=by unfold A0E;rw[hz,Aa];simp[AM]
 have eQ:A0b q n x [109,116,105,109,101]=true:=by unfold A0b;rw[hz,Ab];simp
 have Aj:A1e m n x [109,116,105,109,101]=O2 m [109,116,105,109,101] (C9 (x-62135596800) n):=by unfold A1e;rw[Ab];rfl
 have EU:=A0 eU;have EQ:=A0 eQ;have AP:=A0 Aj;have BD:=A0 (λh=>A3R m R n x [109,116,105,109,101] hz h);have Ah:=A0 (λh=>A2P m R n x [109,116,105,109,101] hz h);have AJ:=O0 (x-62135596800) n h0 h1 hx;have AH:=λw'=>A2U (x-62135596800) w' 12 (by omega) (by omega) (by omega);rw[AM] at AH;have a1:=zI w (.cells #[.int .u64 n,.int .i64 x] 126);have AY:=(zD w.heap.size w).alloc (zB _) (.cells #[.int .u64 n,.int .i64 x] 126);have AZ:=λw'=>V6 w' n x;rw[hz] at AZ;have As:=λw'=>A0k w' n x h0 h1 hx;have Ar:=λw'=>A6a w' n x h0 h1;have Aq:=λw' (hg:Gl G0 E w')=>A1P w' hg n x h0 h1 hx;have HU:=A0 As;have BE:=A0 Ar;have Ag:=A0 Aq;have H8:=A0 AH;have BC:=A0 AZ;have Ac:=A0 (h.below AY);have Au:=A0 (AY.mono (show b0<=w.heap.size by have:=h.lt;omega));have BM:=h.lt;generalize BR:w.alloc (.cells #[.int .u64 n,.int .i64 x] 126)=w1 at*;generalize hB:w.heap.size=B1 at*;have A1:=A0 a1;have c0:w1.cell? ⟨B1,0,none⟩=some (.int .u64 n):=by rw[zA a1];rfl
 have c1:w1.cell? ⟨B1,1,none⟩=some (.int .i64 x):=by rw[zA a1];rfl
 clear h AY a1 hz Aa Ab eU eQ Aj As Ar Aq AH AZ AM;generalize hS:x-62135596800=S at*;have BL:=A0 hS;clear hS;go_enter Tryz.func102,Tryz.ntmps102
 go_wp2_with fail
 refine(BC.out _).mono ?_;rintro e w2 ⟨rfl,hb⟩;have Ad:=A0 (Ac.out.below hb);have Av:=A0 (Au.out.trans (hb.mono (show b0<=w1.heap.size by have:=Ac.out.lt;omega)));have a1:=(hb.block B1 (A8 A1.out)).trans A1.out;have A2:=A0 a1;have c0:w2.cell? ⟨B1,0,none⟩=some (.int .u64 n):=by rw[zA a1];rfl
 have c1:w2.cell? ⟨B1,1,none⟩=some (.int .i64 x):=by rw[zA a1];rfl
 clear hb a1;go_wp2_with fail
 refine(HU.out _).mono ?_;rintro e w3 ⟨rfl,hb⟩;have Ae:=A0 (Ad.out.below hb);have Aw:=A0 (Av.out.trans (hb.mono (show b0<=w2.heap.size by have:=Ad.out.lt;omega)));have a1:=(hb.block B1 (A8 A2.out)).trans A2.out;have A3:=A0 a1;have c0:w3.cell? ⟨B1,0,none⟩=some (.int .u64 n):=by rw[zA a1];rfl
 have c1:w3.cell? ⟨B1,1,none⟩=some (.int .i64 x):=by rw[zA a1];rfl
 clear hb a1;go_wp2_with fail
 refine(A1O _ _).mono ?_;rintro e wx ⟨rfl,rfl⟩;go_wp2_with fail
 refine(HU.out _).mono ?_;rintro e w4 ⟨rfl,hb⟩;have Af:=A0 (Ae.out.below hb);have Ax:=A0 (Aw.out.trans (hb.mono (show b0<=w3.heap.size by have:=Ae.out.lt;omega)));have a1:=(hb.block B1 (A8 A3.out)).trans A3.out;have A4:=A0 a1;have c0:w4.cell? ⟨B1,0,none⟩=some (.int .u64 n):=by rw[zA a1];rfl
 have c1:w4.cell? ⟨B1,1,none⟩=some (.int .i64 x):=by rw[zA a1];rfl
 clear hb a1;go_wp2_with fail
 refine(H8.out _).mono ?_;rintro e wx ⟨rfl,rfl⟩;have ⟨⟨x4,c4⟩,⟨x5,c5⟩,⟨x6,c6⟩,z4,z5,z6,c2,cR⟩:=Af.out.cells;have h4:=Af.out.setS1 ((⟨#[85,83,84,65,82,32,99,97,110,110,111,116,32,101,110,99,111,100,101,32]⟩:ByteArray)++⟨nm.toArray⟩);have hm:=I5 _ (b0+1) u p g h4.fF 2 false p g (.inl ⟨rfl,rfl,rfl,rfl⟩);have h5:=h4.setF false p g;have H5:=A0 h5;have Ay:=A0 (Ax.out.trans ((C8 b0 w4 4 (.string ((⟨#[85,83,84,65,82,32,99,97,110,110,111,116,32,101,110,99,111,100,101,32]⟩:ByteArray)++⟨nm.toArray⟩))).trans (C8 b0 _ 1 (.int .i64 (fm false p g)))));have a1: ((w4.setCell ⟨b0+4,0,none⟩ (.string ((⟨#[85,83,84,65,82,32,99,97,110,110,111,116,32,101,110,99,111,100,101,32]⟩:ByteArray)++⟨nm.toArray⟩))).setCell ⟨b0+1,0,none⟩ (.int .i64 (fm false p g))).heap[B1]?=some (.cells #[.int .u64 n,.int .i64 x] 126 (0,0)):=(C0 _ (by show B1≠b0+1;omega)).trans ((C0 _ (by show B1≠b0+4;omega)).trans A4.out);have A5:=A0 a1;clear c5 c6 z5 z6 c2 cR h4 h5 a1;go_wp2_with fail
 refine hm.mono ?_;rintro e w6 ⟨rfl,rfl⟩;clear c4 z4 hm c0 c1;generalize (w4.setCell ⟨b0+4,0,none⟩ (.string ((⟨#[85,83,84,65,82,32,99,97,110,110,111,116,32,101,110,99,111,100,101,32]⟩:ByteArray)++⟨nm.toArray⟩))).setCell ⟨b0+1,0,none⟩ (.int .i64 (fm false p g))=w5 at*;have a1:=A5.out;have c0:w5.cell? ⟨B1,0,none⟩=some (.int .u64 n):=by rw[zA a1];rfl
 have c1:w5.cell? ⟨B1,1,none⟩=some (.int .i64 x):=by rw[zA a1];rfl
 clear a1;go_wp2_with fail
 refine(BE.out _).mono ?_;rintro e w6 ⟨rfl,hb⟩;have AS:=A0 (H5.out.below hb);have Az:=A0 (Ay.out.trans (hb.mono (show b0<=w5.heap.size by have:=H5.out.lt;omega)));have a1:=(hb.block B1 (A8 A5.out)).trans A5.out;have A6:=A0 a1;have c0:w6.cell? ⟨B1,0,none⟩=some (.int .u64 n):=by rw[zA a1];rfl
 have c1:w6.cell? ⟨B1,1,none⟩=some (.int .i64 x):=by rw[zA a1];rfl
 clear hb a1;have h7:=AS.out.setQ true;have cq:w6.cell? ⟨b0+7,0,none⟩=some (.bool q):=by rw[zA AS.out.pr];rfl
 have zq:w6.frozen? ⟨b0+7,0,none⟩=false:=zE AS.out.pr 0;have H7:=A0 h7;have BA:=A0 (Az.out.trans (C8 b0 w6 7 (.bool true)));have a1: (w6.setCell ⟨b0+7,0,none⟩ (.bool true)).heap[B1]?=some (.cells #[.int .u64 n,.int .i64 x] 126 (0,0)):=(C0 _ (by show B1≠b0+7;omega)).trans A6.out;have A7:=A0 a1;clear h7 a1;go_wp2_with fail
 clear cq zq c0 c1;generalize w6.setCell ⟨b0+7,0,none⟩ (.bool true)=w7 at*;have a1:=A7.out;have c0:w7.cell? ⟨B1,0,none⟩=some (.int .u64 n):=by rw[zA a1];rfl
 have c1:w7.cell? ⟨B1,1,none⟩=some (.int .i64 x):=by rw[zA a1];rfl
 have Ai:=H7.out.cells.2.2.2.2.2.2.1;have HF:=A0 (Ag.out w7.drew H7.out.gl.drew);have AA:=A8 a1;have BF:=H7.out.lt;clear a1
 go_region_held3 (λw'=>w'.cell? ⟨b0+2,0,none⟩=some (.map (some (b0+3)))/\w'.cell? ⟨B1,0,none⟩=some (.int .u64 n)/\w'.cell? ⟨B1,1,none⟩=some (.int .i64 x)) (first|go_keep|(refine And.intro ?_ (And.intro ?_ ?_)<;>assumption))
  (first|(go_at_call 105;refine HF.out.mono ?_;rintro e w8 ⟨rfl,AB⟩;have AW:=H7.out.below ((zD _ w7).drew.trans AB);have Am:=A0 ((((zD _ w7).drew.trans AB)).mono (show b0<=w7.heap.size by omega));have d2:=AW.cells.2.2.2.2.2.2.1;have d0:=(AB.cell (p:=⟨B1,0,none⟩) AA).trans c0;have d1:=(AB.cell (p:=⟨B1,1,none⟩) AA).trans c1;obtain⟨w9,BI,AX,An,AL⟩:=AW.put2 (by omega) [109,116,105,109,101] (C9 S n) (by decide) (by omega);have e2:=AX.cells.2.2.2.2.2.2.1;have e0:=(zZ (w:=w8) (a:=⟨B1,0,none⟩) (AL B1 (by omega) (zL AA AB.size))).trans d0;have e1:=(zZ (w:=w8) (a:=⟨B1,1,none⟩) (AL B1 (by omega) (zL AA AB.size))).trans d1))
 have AU:=A0 (BA.out.trans (Am.out.trans An));have A9:=A0 ((AL B1 (by omega) (zL AA AB.size)).trans ((AB.block B1 AA).trans A7.out));have AC:=A0 AX;clear c0 c1 Ai AB AW Am d0 d1 d2 e0 e1 e2 AX An AL BI HF;have Ao:=AC.out.cells.2.2.2.2.2.2.2;have AO:=AC.out.lookR [109,116,105,109,101] (by decide);cases AD:R [109,116,105,109,101] with
 |none=>
  rw[AD] at AO;simp only[Option.getD_none,Option.isSome_none] at AO;have AI:=A0 (Ah.out (by rw[AD];simp));clear AD;go_wp2_with fail
  go_end0
  refine⟨rfl,?_,AU.out⟩;rw[EU.out,EQ.out,<-AI.out,AP.out];exact AC.out.mono (by omega)
 |some v=>
  rw[AD] at AO;simp only[Option.getD_some,Option.isSome_some] at AO;have a1:=A9.out;have c0:w9.cell? ⟨B1,0,none⟩=some (.int .u64 n):=by rw[zA a1];rfl
  have c1:w9.cell? ⟨B1,1,none⟩=some (.int .i64 x):=by rw[zA a1];rfl
  clear a1;have Ap:=Ag.out w9 AC.out.gl;by_cases hv:v=C9 S n
  ·have AI:=A0 (BD.out (by rw[AD,hv]))
   have BH: (v==C9 S n)=true:=by rw[hv];simp
   have BQ:v.length<=2000:=by rw[hv];exact AJ
   have HV:=A0 hv;clear AD hv;go_wp2_with fail
   refine Ap.mono ?_;rintro e BJ ⟨rfl,AG⟩;have AV:=AC.out.below AG;have Ai:=AV.cells.2.2.2.2.2.2.1;have AE:=A0 (AU.out.trans (AG.mono (by have:=AC.out.lt;omega)));obtain⟨BS,BP,Ak,Al⟩:=AV.put (by omega) [109,116,105,109,101] v (by decide) (by omega);have AR:=A0 Ak;have AT:=A0 (AE.out.trans Al);clear Ak Al AG AV Ao c0 c1;go_wp2_with fail
   go_end0
   refine⟨rfl,?_,AT.out⟩;have:=AR.out;rw[HV.out] at this;rw[EU.out,EQ.out,<-AI.out,AP.out];exact this.mono (by omega)
  ·have AI:=A0 (Ah.out (by rw[AD];intro e;cases e;exact hv rfl))
   have BH: (v==C9 S n)=false:=by rw[zG];exact hv
   clear AD hv;go_wp2_with fail
   refine Ap.mono ?_;rintro e BJ ⟨rfl,AG⟩;have AQ:=A0 (AC.out.below AG);have AE:=A0 (AU.out.trans (AG.mono (by have:=AC.out.lt;omega)));clear AG Ao c0 c1;go_wp2_with fail
   go_end0
   refine⟨rfl,?_,AE.out⟩;rw[EU.out,EQ.out,<-AI.out,AP.out];exact AQ.out.mono (by omega)
theorem B6Q (G0:Nat) (E:Nat->Addr) (b0:Nat) (H:Hd) (R:KV) (u p g q:Bool) (m:KV) (k:Nat) (w:World) (h:AF G0 E b0 H R u p g q m k w) (n x:Int) (nm:List UInt8) (BR:nm.length<=20) (hk:k<1000) (key:List UInt8) (BP:key.length<=20) (Aq:¬key=[109,116,105,109,101]) (BO:key.isEmpty=false) (hz:E5 n x=false) (h0:0<=n) (h1:n<1000000000) (hx: -100000000000000000<=x-62135596800/\x-62135596800<=100000000000000000):
  Calls Tryz.prog 102 #[tmV n x,.int .i64 12,str nm,str key,.pointer (some ⟨b0+6,0,none⟩),.pointer (some ⟨b0+1,0,none⟩),.pointer (some ⟨b0+4,0,none⟩),.pointer (some ⟨b0+7,0,none⟩),.pointer (some ⟨b0+5,0,none⟩),.pointer (some ⟨b0+2,0,none⟩),.pointer (some ⟨b0,0,none⟩)] w
   (A0R G0 E b0 H R (A0E u n x key) p g (A0b q n x key) (A1F m R n x key) (k+2) w):=by
 have AZ:decide (key=H6)=false:=zV Aq;have Aa:R4 n x key=true:=by unfold R4;rw[AZ];rfl
 have eU:A0E u n x key=false:=by unfold A0E;rw[hz,AZ];simp
 have eQ:A0b q n x key=true:=by unfold A0b;rw[hz,Aa];simp
 have Ai:A1e m n x key=O2 m key (C9 (x-62135596800) n):=by unfold A1e;rw[Aa];rfl
 have EU:=A0 eU;have EQ:=A0 eQ;have AO:=A0 Ai;have BD:=A0 (λh=>A3R m R n x key hz h);have Ag:=A0 (λh=>A2P m R n x key hz h);have AJ:=O0 (x-62135596800) n h0 h1 hx;have AI:=λw'=>A2U (x-62135596800) w' 12 (by omega) (by omega) (by omega);have a1:=zI w (.cells #[.int .u64 n,.int .i64 x] 126);have AX:=(zD w.heap.size w).alloc (zB _) (.cells #[.int .u64 n,.int .i64 x] 126);have AY:=λw'=>V6 w' n x;rw[hz] at AY;have As:=λw'=>A0k w' n x h0 h1 hx;have Ar:=λw'=>A6a w' n x h0 h1;have Ap:=λw' (hg:Gl G0 E w')=>A1P w' hg n x h0 h1 hx;have HU:=A0 As;have BE:=A0 Ar;have Af:=A0 Ap;have H8:=A0 AI;have BC:=A0 AY;have Ab:=A0 (h.below AX);have Au:=A0 (AX.mono (show b0<=w.heap.size by have:=h.lt;omega));have BQ:=h.lt;generalize BU:w.alloc (.cells #[.int .u64 n,.int .i64 x] 126)=w1 at*;generalize hB:w.heap.size=B1 at*;have A1:=A0 a1;have c0:w1.cell? ⟨B1,0,none⟩=some (.int .u64 n):=by rw[zA a1];rfl
 have c1:w1.cell? ⟨B1,1,none⟩=some (.int .i64 x):=by rw[zA a1];rfl
 have BF: (key==[109,116,105,109,101])=false:=by rw[zG];exact Aq
 clear h AX a1 hz AZ Aa eU eQ Ai As Ar Ap AI AY;generalize hS:x-62135596800=S at*;have BM:=A0 hS;clear hS;go_enter Tryz.func102,Tryz.ntmps102
 go_wp2_with fail
 refine(BC.out _).mono ?_;rintro e w2 ⟨rfl,hb⟩;have Ac:=A0 (Ab.out.below hb);have Av:=A0 (Au.out.trans (hb.mono (show b0<=w1.heap.size by have:=Ab.out.lt;omega)));have a1:=(hb.block B1 (A8 A1.out)).trans A1.out;have A2:=A0 a1;have c0:w2.cell? ⟨B1,0,none⟩=some (.int .u64 n):=by rw[zA a1];rfl
 have c1:w2.cell? ⟨B1,1,none⟩=some (.int .i64 x):=by rw[zA a1];rfl
 clear hb a1;go_wp2_with fail
 refine(HU.out _).mono ?_;rintro e w3 ⟨rfl,hb⟩;have Ad:=A0 (Ac.out.below hb);have Aw:=A0 (Av.out.trans (hb.mono (show b0<=w2.heap.size by have:=Ac.out.lt;omega)));have a1:=(hb.block B1 (A8 A2.out)).trans A2.out;have A3:=A0 a1;have c0:w3.cell? ⟨B1,0,none⟩=some (.int .u64 n):=by rw[zA a1];rfl
 have c1:w3.cell? ⟨B1,1,none⟩=some (.int .i64 x):=by rw[zA a1];rfl
 clear hb a1;go_wp2_with fail
 refine(A1O _ _).mono ?_;rintro e wx ⟨rfl,rfl⟩;go_wp2_with fail
 refine(HU.out _).mono ?_;rintro e w4 ⟨rfl,hb⟩;have Ae:=A0 (Ad.out.below hb);have Ax:=A0 (Aw.out.trans (hb.mono (show b0<=w3.heap.size by have:=Ad.out.lt;omega)));have a1:=(hb.block B1 (A8 A3.out)).trans A3.out;have A4:=A0 a1;have c0:w4.cell? ⟨B1,0,none⟩=some (.int .u64 n):=by rw[zA a1];rfl
 have c1:w4.cell? ⟨B1,1,none⟩=some (.int .i64 x):=by rw[zA a1];rfl
 clear hb a1;go_wp2_with fail
 refine(H8.out _).mono ?_;rintro e wx ⟨rfl,rfl⟩;have ⟨⟨x4,c4⟩,⟨x5,c5⟩,⟨x6,c6⟩,z4,z5,z6,c2,cR⟩:=Ae.out.cells;have h4:=Ae.out.setS1 ((⟨#[85,83,84,65,82,32,99,97,110,110,111,116,32,101,110,99,111,100,101,32]⟩:ByteArray)++⟨nm.toArray⟩);have hm:=I5 _ (b0+1) u p g h4.fF 2 false p g (.inl ⟨rfl,rfl,rfl,rfl⟩);have h5:=h4.setF false p g;have H5:=A0 h5;have Ay:=A0 (Ax.out.trans ((C8 b0 w4 4 (.string ((⟨#[85,83,84,65,82,32,99,97,110,110,111,116,32,101,110,99,111,100,101,32]⟩:ByteArray)++⟨nm.toArray⟩))).trans (C8 b0 _ 1 (.int .i64 (fm false p g)))));have a1: ((w4.setCell ⟨b0+4,0,none⟩ (.string ((⟨#[85,83,84,65,82,32,99,97,110,110,111,116,32,101,110,99,111,100,101,32]⟩:ByteArray)++⟨nm.toArray⟩))).setCell ⟨b0+1,0,none⟩ (.int .i64 (fm false p g))).heap[B1]?=some (.cells #[.int .u64 n,.int .i64 x] 126 (0,0)):=(C0 _ (by show B1≠b0+1;omega)).trans ((C0 _ (by show B1≠b0+4;omega)).trans A4.out);have A5:=A0 a1;clear c5 c6 z5 z6 c2 cR h4 h5 a1;go_wp2_with fail
 refine hm.mono ?_;rintro e w6 ⟨rfl,rfl⟩;clear c4 z4 hm c0 c1;generalize (w4.setCell ⟨b0+4,0,none⟩ (.string ((⟨#[85,83,84,65,82,32,99,97,110,110,111,116,32,101,110,99,111,100,101,32]⟩:ByteArray)++⟨nm.toArray⟩))).setCell ⟨b0+1,0,none⟩ (.int .i64 (fm false p g))=w5 at*;have a1:=A5.out;have c0:w5.cell? ⟨B1,0,none⟩=some (.int .u64 n):=by rw[zA a1];rfl
 have c1:w5.cell? ⟨B1,1,none⟩=some (.int .i64 x):=by rw[zA a1];rfl
 clear a1;go_wp2_with fail
 refine(BE.out _).mono ?_;rintro e w6 ⟨rfl,hb⟩;have AR:=A0 (H5.out.below hb);have Az:=A0 (Ay.out.trans (hb.mono (show b0<=w5.heap.size by have:=H5.out.lt;omega)));have a1:=(hb.block B1 (A8 A5.out)).trans A5.out;have A6:=A0 a1;have c0:w6.cell? ⟨B1,0,none⟩=some (.int .u64 n):=by rw[zA a1];rfl
 have c1:w6.cell? ⟨B1,1,none⟩=some (.int .i64 x):=by rw[zA a1];rfl
 clear hb a1;have h7:=AR.out.setQ true;have cq:w6.cell? ⟨b0+7,0,none⟩=some (.bool q):=by rw[zA AR.out.pr];rfl
 have zq:w6.frozen? ⟨b0+7,0,none⟩=false:=zE AR.out.pr 0;have H7:=A0 h7;have BA:=A0 (Az.out.trans (C8 b0 w6 7 (.bool true)));have a1: (w6.setCell ⟨b0+7,0,none⟩ (.bool true)).heap[B1]?=some (.cells #[.int .u64 n,.int .i64 x] 126 (0,0)):=(C0 _ (by show B1≠b0+7;omega)).trans A6.out;have A7:=A0 a1;clear h7 a1;go_wp2_with fail
 clear cq zq c0 c1;generalize w6.setCell ⟨b0+7,0,none⟩ (.bool true)=w7 at*;have a1:=A7.out;have c0:w7.cell? ⟨B1,0,none⟩=some (.int .u64 n):=by rw[zA a1];rfl
 have c1:w7.cell? ⟨B1,1,none⟩=some (.int .i64 x):=by rw[zA a1];rfl
 have Ah:=H7.out.cells.2.2.2.2.2.2.1;have HF:=A0 (Af.out w7.drew H7.out.gl.drew);have AA:=A8 a1;have BH:=H7.out.lt;clear a1
 go_region_held3 (λw'=>w'.cell? ⟨b0+2,0,none⟩=some (.map (some (b0+3)))/\w'.cell? ⟨B1,0,none⟩=some (.int .u64 n)/\w'.cell? ⟨B1,1,none⟩=some (.int .i64 x)) (first|go_keep|(refine And.intro ?_ (And.intro ?_ ?_)<;>assumption))
  (first|(go_at_call 105;refine HF.out.mono ?_;rintro e w8 ⟨rfl,AB⟩;have AV:=H7.out.below ((zD _ w7).drew.trans AB);have Al:=A0 ((((zD _ w7).drew.trans AB)).mono (show b0<=w7.heap.size by omega));have d2:=AV.cells.2.2.2.2.2.2.1;have d0:=(AB.cell (p:=⟨B1,0,none⟩) AA).trans c0;have d1:=(AB.cell (p:=⟨B1,1,none⟩) AA).trans c1;obtain⟨w9,BJ,AW,Am,AL⟩:=AV.put2 (by omega) key (C9 S n) (by omega) (by omega);have e2:=AW.cells.2.2.2.2.2.2.1;have e0:=(zZ (w:=w8) (a:=⟨B1,0,none⟩) (AL B1 (by omega) (zL AA AB.size))).trans d0;have e1:=(zZ (w:=w8) (a:=⟨B1,1,none⟩) (AL B1 (by omega) (zL AA AB.size))).trans d1))
 have AT:=A0 (BA.out.trans (Al.out.trans Am));have A9:=A0 ((AL B1 (by omega) (zL AA AB.size)).trans ((AB.block B1 AA).trans A7.out));have AC:=A0 AW;clear c0 c1 Ah AB AV Al d0 d1 d2 e0 e1 e2 AW Am AL BJ HF;have An:=AC.out.cells.2.2.2.2.2.2.2;have AM:=AC.out.lookR key (by omega);cases AD:R key with
 |none=>
  rw[AD] at AM;simp only[Option.getD_none,Option.isSome_none] at AM;have AH:=A0 (Ag.out (by rw[AD];simp));clear AD;go_wp2_with fail
  go_end0
  refine⟨rfl,?_,AT.out⟩;rw[EU.out,EQ.out,<-AH.out,AO.out];exact AC.out.mono (by omega)
 |some v=>
  rw[AD] at AM;simp only[Option.getD_some,Option.isSome_some] at AM;have a1:=A9.out;have c0:w9.cell? ⟨B1,0,none⟩=some (.int .u64 n):=by rw[zA a1];rfl
  have c1:w9.cell? ⟨B1,1,none⟩=some (.int .i64 x):=by rw[zA a1];rfl
  clear a1;have Ao:=Af.out w9 AC.out.gl;by_cases hv:v=C9 S n
  ·have AH:=A0 (BD.out (by rw[AD,hv]))
   have BI: (v==C9 S n)=true:=by rw[hv];simp
   have BT:v.length<=2000:=by rw[hv];exact AJ
   have HV:=A0 hv;clear AD hv;go_wp2_with fail
   refine Ao.mono ?_;rintro e BL ⟨rfl,AG⟩;have AU:=AC.out.below AG;have Ah:=AU.cells.2.2.2.2.2.2.1;have AE:=A0 (AT.out.trans (AG.mono (by have:=AC.out.lt;omega)));obtain⟨BV,BS,Aj,Ak⟩:=AU.put (by omega) key v (by omega) (by omega);have AQ:=A0 Aj;have AS:=A0 (AE.out.trans Ak);clear Aj Ak AG AU An c0 c1;go_wp2_with fail
   go_end0
   refine⟨rfl,?_,AS.out⟩;have:=AQ.out;rw[HV.out] at this;rw[EU.out,EQ.out,<-AH.out,AO.out];exact this.mono (by omega)
  ·have AH:=A0 (Ag.out (by rw[AD];intro e;cases e;exact hv rfl))
   have BI: (v==C9 S n)=false:=by rw[zG];exact hv
   clear AD hv;go_wp2_with fail
   refine Ao.mono ?_;rintro e BL ⟨rfl,AG⟩;have AP:=A0 (AC.out.below AG);have AE:=A0 (AT.out.trans (AG.mono (by have:=AC.out.lt;omega)));clear AG An c0 c1;go_wp2_with fail
   go_end0
   refine⟨rfl,?_,AE.out⟩;rw[EU.out,EQ.out,<-AH.out,AO.out];exact AP.out.mono (by omega)
theorem B6M (G0:Nat) (E:Nat->Addr) (b0:Nat) (H:Hd) (R:KV) (u p g q:Bool) (m:KV) (k:Nat) (w:World) (h:AF G0 E b0 H R u p g q m k w) (n x:Int) (nm key:List UInt8) (AB:nm.length<=20) (hk:k<1000) (h0:0<=n) (h1:n<1000000000) (hx: -100000000000000000<=x-62135596800/\x-62135596800<=100000000000000000) (AA:key=H6\/key=J5\/key=J6):
  Calls Tryz.prog 102 #[tmV n x,.int .i64 12,str nm,str key,.pointer (some ⟨b0+6,0,none⟩),.pointer (some ⟨b0+1,0,none⟩),.pointer (some ⟨b0+4,0,none⟩),.pointer (some ⟨b0+7,0,none⟩),.pointer (some ⟨b0+5,0,none⟩),.pointer (some ⟨b0+2,0,none⟩),.pointer (some ⟨b0,0,none⟩)] w
   (A0R G0 E b0 H R (A0E u n x key) p g (A0b q n x key) (A1F m R n x key) (k+2) w):=by
 cases hz:E5 n x
 ·rcases AA with rfl|AA
  ·cases AC:B8 12 (x-62135596800)
   ·exact B6P G0 E b0 H R u p g q m k w h n x nm AB hk hz h0 h1 hx AC
   ·by_cases AD:n=0
    ·exact B6N G0 E b0 H R u p g q m k w h n x nm AB hk hz h0 h1 hx AC AD
    ·exact B6O G0 E b0 H R u p g q m k w h n x nm AB hk hz h0 h1 hx AC AD
  ·have ho:key.length<=20/\(¬key=[109,116,105,109,101])/\key.isEmpty=false:=by rcases AA with rfl|rfl<;>decide
   exact B6Q G0 E b0 H R u p g q m k w h n x nm AB hk key ho.1 ho.2.1 ho.2.2 hz h0 h1 hx
 ·exact B1d G0 E b0 H R u p g q m k w h n x nm key hz
end Go.Proofs.YtkanmkcojlefbaaGreatDoor
