/-
  Part of the proof; holds the texts RTime, NextEnd, RDat, RAll.
-/
import Derived.Test.YtkanmkcojlefbaaGreatDoorM23
import Derived.Lib.ItoaLen
set_option maxHeartbeats 2000000
set_option maxRecDepth 100000
set_option linter.unusedSimpArgs false
set_option linter.unusedVariables false
namespace Go.Proofs.YtkanmkcojlefbaaGreatDoor
open Go.RowKit Go.Lib
theorem B6F (w:World) (s n:Int) (h0: -1000000000<n) (h1:n<0) (hs: -100000000000000000<=s-1/\s-1<=100000000000000000):
  Calls Tryz.prog 70 #[.int .i64 s,.int .i64 n] w λe w'=>e= .returned (tmV (n+1000000000) (s-1+62135596800))/\Below w.heap.size w w':=by
 have h:=λw'=>A6c w' (s-1) (n+1000000000) (by omega) (by omega) hs
 have hq:n.tdiv 1000000000=0:=by
  rw[show n= -(-n) by omega,Int.neg_tdiv,Int.tdiv_eq_zero_of_lt (by omega) (by omega)];rfl
 have AC:IntKind.i64.wrap (s-1)=s-1:=by rw[zQ _ (by omega)]
 have AD:IntKind.i64.wrap (n+1000000000)=n+1000000000:=by rw[zQ _ (by omega)]
 have AE:IntKind.i32.wrap (n+1000000000)=n+1000000000:=by rw[IntKind.wrap_i32];omega
 have AG:IntKind.i64.wrap s=s:=by rw[zQ _ (by omega)]
 have AH:IntKind.i64.wrap n=n:=by rw[zQ _ (by omega)]
 go_enter Tryz.func70,Tryz.ntmps70
 go_wp2_with fail
 refine(h _).mono ?_;rintro e w1 ⟨rfl,hb⟩;have a1:=(hb.block w.heap.size (by simp)).trans (zI w (.cells #[.int .u64 0,.int .i64 0] 126));have AA:Below w.heap.size w w1:=((zD _ w).alloc (zB _) _).trans (hb.mono (by simp));have z0:=zE a1 0;have z1:=zE a1 1;have d0:w1.cell? ⟨w.heap.size,0,none⟩=some (.int .u64 0):=by rw[zA a1];rfl
 have d1:w1.cell? ⟨w.heap.size,1,none⟩=some (.int .i64 0):=by rw[zA a1];rfl
 have a2:=B6 (i:=1) (.int .i64 (s-1+62135596800)) (B6 (i:=0) (.int .u64 (n+1000000000)) a1);have AB:=(AA.setCell (p:=⟨w.heap.size,0,none⟩) (zB _) (.int .u64 (n+1000000000))).setCell (p:=⟨w.heap.size,1,none⟩) (zB _) (.int .i64 (s-1+62135596800));have A2:=A0 a2;have HB:=A0 AB;clear a1 a2 AB hb AA h;go_wp2_with fail
 exact A0M w.heap.size (n+1000000000) (s-1+62135596800) _ rfl rfl rfl A2.out ⟨rfl,HB.out⟩
def A6h (s n:Int) (w:World) (e:Ending) (w':World):Prop:=e= .returned (.tuple #[tmV n (s+62135596800),.nilIface])/\Below w.heap.size w w'
theorem A5M {R:Ending->World->Prop} {fn:Func} {t u:Tmp} {a:Act} (g:Nat) (n x:Int) (ev:Value) (w:World) (hr:fn.results=#[.cell t 126,.tmp u]) (hp:a.tmps.getD t undef= .pointer (some ⟨g,0,none⟩)) (he:a.tmps.getD u undef=ev) (hd:a.defers=[])
  (hg:w.heap[g]?=some (.cells #[.int .u64 n,.int .i64 x] 126 (0,0))) (hR:R (.returned (.tuple #[tmV n x,ev])) w):bodyPost Tryz.prog fn R .ret a w:=by
 refine bodyPost_ret (v:= .tuple #[tmV n x,ev]) ?_ hd hR;have hl:=run_loadVar_row (P:=Tryz.prog) w g 126 126 #[.int .u64 n,.int .i64 x] (0,0) _ hg Tryz.underlying126 rfl (by kernel_rfl);rw[results_cell_tmp hr,hp,he];simp[asAddr,Result.andThen,hl]
theorem A9N (w:World) (s:Int) (hs: -100000000000000000<=s/\s<=100000000000000000):Calls Tryz.prog 209 #[str (C9 s 0)] w (A6h s 0 w):=by
 have e:C9 s 0=itoa s:=by rw[C9,if_pos rfl]
 rw[e];have AH:=A2f s;have hp:=T0 s (by omega) (by omega);have hl: (itoa s).length<=21:=itoa_length_le s (by omega) (by omega);have AA:=zI w (.cells #[.int .u64 0,.int .i64 0] 126);have AG:Below w.heap.size w (w.alloc (.cells #[.int .u64 0,.int .i64 0] 126)):=(zD _ w).alloc (zB _) _;have HC:=A0 (λwx=>B6T (itoa s) 46 wx (by omega) AH);have HP:=A0 (λwx=>Y3 wx (itoa s) (by omega) s hp);have HT:=A0 (λwx=>tOf wx s 0 (by omega) (by omega) hs);have HN:=A0 AA;have HB:=A0 AG;have AI:w.heap.size< (w.alloc (.cells #[.int .u64 0,.int .i64 0] 126)).heap.size:=A8 AA;clear AH hp hl AA AG e;generalize itoa s=l at*;go_enter Tryz.func209,Tryz.ntmps209
 go_wp2_with fail
 refine(HC.out _).mono ?_;rintro e w1 ⟨rfl,rfl⟩;generalize w.alloc (.cells #[.int .u64 0,.int .i64 0] 126)=wz at*;go_wp2_with fail
 refine(HP.out _).mono ?_;rintro e w2 ⟨rfl,AC⟩;go_wp2_with fail
 refine(HT.out _).mono ?_;rintro e w3 ⟨rfl,AD⟩;have a1:=(AD.block w.heap.size (zL AI AC.size)).trans ((AC.block w.heap.size AI).trans HN.out);have AB:Below w.heap.size w w3:=(HB.out.trans (AC.mono HB.out.size)).trans (AD.mono (zP HB.out.size AC.size));have z0:=zE a1 0;have z1:=zE a1 1;have d0:w3.cell? ⟨w.heap.size,0,none⟩=some (.int .u64 0):=by rw[zA a1];rfl
 have d1:w3.cell? ⟨w.heap.size,1,none⟩=some (.int .i64 0):=by rw[zA a1];rfl
 have a2:=B6 (i:=1) (.int .i64 (s+62135596800)) (B6 (i:=0) (.int .u64 0) a1);have AE:=(AB.setCell (p:=⟨w.heap.size,0,none⟩) (zB _) (.int .u64 0)).setCell (p:=⟨w.heap.size,1,none⟩) (zB _) (.int .i64 (s+62135596800));have A2:=A0 a2;have AJ:=A0 AE;clear a1 a2 AE AB AC AD HC HP HT;go_wp2_with fail
 exact A5M w.heap.size 0 (s+62135596800) .nilIface _ rfl rfl rfl rfl A2.out ⟨rfl,AJ.out⟩
def B1m (p:List UInt8) (d k:Nat) (w0 w:World):Prop:=w.heap[d]?=some (.cells (Lib.byteCells (p.take k++List.replicate (9-k) 48)).toArray 318 (0,0))/\Below d w0 w
theorem A5G (w:World) (l ss p:List UInt8) (x y:Int) (hf:A9v l ss p x y) (neg:Bool) (Av:0<ss.length) (BD:ss.length<=100) (AL: (ss.getD 0 0==45)=neg) (hx: -100000000000000000<=x-1/\x<=100000000000000000) (n1 s1:Int) (h1:neg=true->n1=1000000000-y/\s1=x-1) (h2:neg=false->n1=y/\s1=x):
  Calls Tryz.prog 209 #[str l] w (A6h s1 n1 w):=by
 have hcut:=A9p l 46 (w.alloc (.cells #[.int .u64 0,.int .i64 0] 126)) (by rw[hf.eq,zH,List.length_cons];have:=hf.len;omega) (by rw[hf.eq];exact A6u _ _ _);rw[show l.take (l.idxOf 46)=ss by rw[hf.eq];exact A1o _ _ _ hf.nodot,show l.drop (l.idxOf 46+1)=p by rw[hf.eq];exact A4r _ _ _ hf.nodot] at hcut;have As:=hf.len;have Au:=List.length_pos_iff.2 hf.ne;have AB:=zI w (.cells #[.int .u64 0,.int .i64 0] 126);have Af:Below w.heap.size w (w.alloc (.cells #[.int .u64 0,.int .i64 0] 126)):=(zD _ w).alloc (zB _) _;have HP:=A0 (λwx=>Y3 wx ss (by omega) x hf.whole);have AZ: (p++List.replicate (9-p.length) 48).length=9:=by simp;omega
 have AR:=A0 (λwx=>Y3 wx (p++List.replicate (9-p.length) 48) (by omega) y hf.part);have HN:=A0 AB;have HB:=A0 Af;have HC:=A0 hcut;have HF:=A0 hf;have BE:w.heap.size< (w.alloc (.cells #[.int .u64 0,.int .i64 0] 126)).heap.size:=A8 AB;clear AB Af hcut hf;go_enter Tryz.func209,Tryz.ntmps209
 go_wp2_with fail
 refine HC.out.mono ?_;rintro e w1 ⟨rfl,AV⟩;have AG:Below w.heap.size w w1:=by obtain⟨q,rfl⟩:=AV;exact bdn HB.out q
 have AY:w1.heap[w.heap.size]?=some (.cells #[.int .u64 0,.int .i64 0] 126 (0,0)):=by obtain⟨q,rfl⟩:=AV;exact HN.out
 have Aa:w.heap.size<w1.heap.size:=A8 AY;clear AV HC HB HN;go_wp2_with fail
 refine(HP.out _).mono ?_;rintro e w2 ⟨rfl,AT⟩;have Ac:=A0 ((AT.block w.heap.size Aa).trans AY);have Al:=A0 (AG.trans (AT.mono AG.size));have Ax:=A8 Ac.out;have BC:¬((p.length:Int)=0):=by omega
 clear AY AG AT HP;go_wp2_with fail
 have Ad:B1m p w2.heap.size 0 w2 (w2.alloc (.cells #[.int .u8 48,.int .u8 48,.int .u8 48,.int .u8 48,.int .u8 48,.int .u8 48,.int .u8 48,.int .u8 48,.int .u8 48] 318)):=
  ⟨zI w2 _,(zD _ w2).alloc (zB _) _⟩
 have AP:=A0 Ad;clear Ad;obtain⟨d,hd⟩:∃d,d=w2.heap.size:=⟨_,rfl⟩;rw[<-hd] at AP⊢;have HD:=A0 hd;clear hd;generalize w2.alloc (.cells #[.int .u8 48,.int .u8 48,.int .u8 48,.int .u8 48,.int .u8 48,.int .u8 48,.int .u8 48,.int .u8 48,.int .u8 48] 318)=wz at*;go_loopw [37] (λi wr=>∃k:Nat,k<=p.length/\i= .int .i64 k/\Hid (B1m p d k w2 wr)) (λi _=>p.length- (RowKit.intOf i).toNat)
 case atStart=>exact⟨0,by omega,rfl,AP⟩
 case round=>
  obtain⟨k,hk,rfl,hS⟩:=hrel;clear AP;by_cases Ai:k<p.length
  ·have AX: (k:Int)<p.length:=by omega
   have BA: (k:Int)<9:=by omega
   have AW:=HF.out.dig p[k] (List.getElem_mem Ai)
   have Ap:∀wx,(Instr.index 9 (str p) (.int .i64 k)).run Tryz.prog wx= .ok (.int .u8 p[k].toNat) wx:=by
    intro wx;rw[run_index_string (P:=Tryz.prog) (w:=wx) 9 ⟨p.toArray⟩ .i64 k Tryz.underlying9,dif_pos ⟨by omega,by rw[I6];omega⟩];rfl
   have Ak:p.take k++[p[k]]=p.take (k+1):=List.take_append_getElem Ai;generalize p[k]=c at*;obtain⟨Am,An⟩:=AW;have Ay:¬(c.toNat:Int)<48:=by omega
   have Az:¬(57:Int)< (c.toNat:Int):=by omega
   obtain⟨AA,AH⟩:=hS.out;have Aq: (Lib.byteCells (p.take k++List.replicate (9-k) 48)).length=9:=by rw[zJ,zH,zR,z7];omega
   have Ao:∃v0,wr.cell? ⟨d,k,none⟩=some v0:=⟨_,by rw[zA AA,List.getElem?_toArray,zF (by omega)]⟩;obtain⟨v0,BF⟩:=Ao;have hz:wr.frozen? ⟨d,k,none⟩=false:=zE AA k
   have AB:B1m p d (k+1) w2 (wr.setCell ⟨d,k,none⟩ (.int .u8 c.toNat)):=by
    refine⟨?_,AH.setCell (p:=⟨d,k,none⟩) (zB _) _⟩;have:=B6 (i:=k) (.int .u8 c.toNat) AA;rw[this]
    have e: (p.take k++List.replicate (9-k) 48).set k c=p.take (k+1)++List.replicate (9- (k+1)) 48:=by
     rw[List.set_append_right _ _ (by rw[zR];omega),zR,Nat.min_eq_left (by omega),Nat.sub_self,show 9-k=(9- (k+1))+1 by omega,List.replicate_succ,List.set_cons_zero,<-Ak];simp
    rw[List.setIfInBounds_toArray,<-e];simp[Lib.byteCells,List.map_set]
   have AQ:=A0 AB;clear AA AH Aq AB hS Ak Am An AR;go_wp2_with fail
   go_roundw
   case rel=>exact⟨k+1,by omega,by go_num,AQ⟩
   case measure=>simp[RowKit.intOf];omega
  ·obtain rfl:k=p.length:=by omega
   have AX:¬(p.length:Int)<p.length:=by omega
   obtain⟨AA,AH⟩:=hS.out;rw[List.take_length] at AA;have Ag:=O1 wr d 0 9 (p++List.replicate (9-p.length) 48) (At.of_heap AA (λj u hj=>by rw[Nat.zero_add,List.getElem?_toArray];exact hj));rw[AZ] at Ag;have hg:wr.heap[w.heap.size]?=some (.cells #[.int .u64 0,.int .i64 0] 126 (0,0)):=(AH.block w.heap.size (by have:=HD.out;omega)).trans Ac.out;have Ae:Below w.heap.size w wr:=Al.out.trans (AH.mono (by have:=HD.out;omega))
   have Ah:∀wx,(Instr.index 9 (str ss) (.int .i64 0)).run Tryz.prog wx= .ok (.int .u8 (ss.getD 0 0).toNat) wx:=by
    intro wx;rw[run_index_string (P:=Tryz.prog) (w:=wx) 9 ⟨ss.toArray⟩ .i64 0 Tryz.underlying9,dif_pos ⟨by omega,by rw[I6];omega⟩];have e:ss.getD 0 0=ss[0]:=by rw[List.getD_eq_getElem?_getD,zF Av];rfl
    rw[e];rfl
   have hq: (((ss.getD 0 0).toNat:Int)==45)=neg:=by
    rw[<-AL];by_cases AS:ss.getD 0 0=45
    ·rw[AS];rfl
    ·rw[zG.2 AS,zG]
     intro h;exact AS (UInt8.toNat_inj.1 (show(ss.getD 0 0).toNat=45 by omega))
   have Aw: (0:Int)<ss.length:=by omega
   have y0:=HF.out.y0;have y1:=HF.out.y1;have HG:=A0 hg;have AO:=A0 Ae;clear hS AA AH hg Ae AL Au As;generalize (ss.getD 0 0).toNat=b0 at*;go_wp2_with fail
   refine(AR.out _).mono ?_;rintro e w4 ⟨rfl,AU⟩;have a1:=(AU.block w.heap.size (A8 HG.out)).trans HG.out;have AI:Below w.heap.size w w4:=AO.out.trans (AU.mono AO.out.size);have A1:=A0 a1;have Ab:=A0 AI;clear a1 AI AU HG AO AR Ag;have AJ:∀w5:World,Below w4.heap.size w4 w5->w5.heap[w.heap.size]?=some (.cells #[.int .u64 0,.int .i64 0] 126 (0,0))/\Below w.heap.size w w5:=λw5 AE=>⟨(AE.block w.heap.size (A8 A1.out)).trans A1.out,Ab.out.trans (AE.mono Ab.out.size)⟩;have AD:=A0 AJ;clear AJ;cases neg
   ·obtain⟨e1,e2⟩:=h2 rfl
    subst e1;subst e2;have HT:=A0 (tOf w4 s1 n1 (by omega) (by omega) (by omega));clear h1 h2;go_wp2_with fail
    refine HT.out.mono ?_;rintro e w5 ⟨rfl,AE⟩;obtain⟨a1,AC⟩:=AD.out w5 AE;have z0:=zE a1 0;have z1:=zE a1 1;have d0:w5.cell? ⟨w.heap.size,0,none⟩=some (.int .u64 0):=by rw[zA a1];rfl
    have d1:w5.cell? ⟨w.heap.size,1,none⟩=some (.int .i64 0):=by rw[zA a1];rfl
    have A2:=A0 (B6 (i:=1) (.int .i64 (s1+62135596800)) (B6 (i:=0) (.int .u64 n1) a1));have AM:=A0 ((AC.setCell (p:=⟨w.heap.size,0,none⟩) (zB _) (.int .u64 n1)).setCell (p:=⟨w.heap.size,1,none⟩) (zB _) (.int .i64 (s1+62135596800)));clear a1 AC AE HT AD;go_wp2_with fail
    exact A5M w.heap.size n1 (s1+62135596800) .nilIface _ rfl rfl rfl rfl A2.out ⟨rfl,AM.out⟩
   ·obtain⟨e1,e2⟩:=h1 rfl
    have Ar:IntKind.i64.wrap (-1*y)= -y:=by rw[zQ _ (by omega)];omega
    have Aj:IntKind.i64.wrap (-y)= -y:=by rw[zQ _ (by omega)]
    have ht:=B6F w4 x (-y) (by omega) (by omega) (by omega);rw[show-y+1000000000=n1 by omega,show x-1=s1 by omega] at ht;have HT:=A0 ht;clear h1 h2 ht e1 e2;go_wp2_with fail
    refine HT.out.mono ?_;rintro e w5 ⟨rfl,AE⟩;obtain⟨a1,AC⟩:=AD.out w5 AE;have z0:=zE a1 0;have z1:=zE a1 1;have d0:w5.cell? ⟨w.heap.size,0,none⟩=some (.int .u64 0):=by rw[zA a1];rfl
    have d1:w5.cell? ⟨w.heap.size,1,none⟩=some (.int .i64 0):=by rw[zA a1];rfl
    have A2:=A0 (B6 (i:=1) (.int .i64 (s1+62135596800)) (B6 (i:=0) (.int .u64 n1) a1));have AM:=A0 ((AC.setCell (p:=⟨w.heap.size,0,none⟩) (zB _) (.int .u64 n1)).setCell (p:=⟨w.heap.size,1,none⟩) (zB _) (.int .i64 (s1+62135596800)));clear a1 AC AE HT AD;go_wp2_with fail
    exact A5M w.heap.size n1 (s1+62135596800) .nilIface _ rfl rfl rfl rfl A2.out ⟨rfl,AM.out⟩
theorem A3h (w:World) (s n:Int) (hn:0<=n/\n<1000000000) (hs: -100000000000000000<=s/\s<=100000000000000000):Calls Tryz.prog 209 #[str (C9 s n)] w (A6h s n w):=by
 by_cases h0:n=0
 ·subst h0;exact A9N w s hs
 by_cases AA:s<0
 ·obtain⟨p,hf⟩:=A7x s n AA (by omega) (by omega) hn.2
  have hl: (itoa (-(s+1))).length<=21:=itoa_length_le _ (by omega) (by omega);exact A5G w _ _ p _ _ hf true (by simp) (by simp;omega) rfl (by omega) n s (λ_=>⟨by omega,by omega⟩) (λh=>by cases h)
 ·obtain⟨p,hf⟩:=A7y s n (by omega) (by omega) (by omega) hn.2
  have hl: (itoa s).length<=21:=itoa_length_le _ (by omega) (by omega);have e:=A2H s (by omega);have AB:=A8s s.toNat;rw[e] at hf hl;refine A5G w _ _ p _ _ hf false (List.length_pos_iff.2 AB) (by omega) ?_ (by omega) n s (λh=>by cases h) (λ_=>⟨rfl,rfl⟩);rw[zG];intro AC
  have hm: (decDigits s.toNat).getD 0 0∈decDigits s.toNat:=by
   rw[List.getD_eq_getElem?_getD,zF (List.length_pos_iff.2 AB)];exact List.getElem_mem _
  have:=Y1 _ _ hm;rw[AC] at this;revert this;decide
end Go.Proofs.YtkanmkcojlefbaaGreatDoor
namespace Go.Proofs.YtkanmkcojlefbaaGreatDoor
open Go.RowKit
theorem B2i (w:World) (b:Nat) (v:Value) (n:Int) (h:w.heap[b]?=some (.cells #[v,.int .i64 n] 148)): (method 511 146 (.pointer (some ⟨b,0,none⟩)) "tapearchives/pub/gotar.physicalRemaining").run Tryz.prog w=
  .ok (348,.agg #[v,.int .i64 n]) w:=by
 have f0:w.cell? ⟨b,0,none⟩=some v:=by rw[zA h];rfl
 have f1:w.cell? ⟨b,1,none⟩=some (.int .i64 n):=by rw[zA h];rfl
 have h: (method 511 146 (.pointer (some ⟨b,0,none⟩)) "tapearchives/pub/gotar.physicalRemaining").run Tryz.prog w=
  ((loadVar 148 ⟨b,0,none⟩).bind λv=>pure (348,v)).run Tryz.prog w:=by kernel_rfl
 rw[h]
 have hl: (loadVar 148 ⟨b,0,none⟩).run Tryz.prog w= .ok (.agg #[v,.int .i64 n]) w:=by
  simp[loadVar,go_sem,f0,f1]
 exact(Sem.run_bind ..).trans (by rw[hl];rfl)
theorem B7P (w:World) (v:Value) (n:Int):Calls Tryz.prog 348 #[.agg #[v,.int .i64 n]] w λe w'=>e= .returned (.int .i64 n)/\Below w.heap.size w w':=by
 go_enter Tryz.func348,Tryz.ntmps348
 go_wp2
 go_ret
 exact⟨rfl,(zD _ _).alloc (zB _) _⟩
def FRd (fr r:Nat) (nb:Int) (w:World):Prop:=w.heap[fr]?=some (.cells #[.iface 84 (.pointer (some ⟨r,0,none⟩)),.int .i64 nb] 148)
theorem RD.below {r g n c i:Nat} {w w':World} (h:RD r g n c i w) (f:Below w.heap.size w w'):RD r g n c i w':=by
 obtain⟨p,hr⟩:=h;exact⟨p,(f.block r (A8 hr)).trans hr⟩
theorem RD.fr {r g n c i:Nat} {w w':World} (h:RD r g n c i w) {B:Nat} {S:List Nat} (f:Fr B S w w') (hS:r∉S):RD r g n c i w':=by
 obtain⟨p,hr⟩:=h;exact⟨p,f.cells hr hS (.inr (by decide))⟩
theorem TR.below {tr r:Nat} {AD:Int} {AA AC:Value} {AB:List Value} {w w':World} (h:TR tr r AD AA AB AC w) (f:Below w.heap.size w w'):TR tr r AD AA AB AC w':=
 ⟨(f.block tr (A8 h.1)).trans h.1,h.2⟩
theorem TR.fr {tr r:Nat} {AD:Int} {AA AC:Value} {AB:List Value} {w w':World} (h:TR tr r AD AA AB AC w) {B:Nat} {S:List Nat} (f:Fr B S w w') (hS:tr∉S):TR tr r AD AA AB AC w':=
 ⟨f.cells h.1 hS (.inr (by decide)),h.2⟩
theorem B0m (w:World) (a:Addr): (method 511 146 (.pointer (some a)) "Read").run Tryz.prog w= .ok (346,.pointer (some a)) w:=by kernel_rfl
theorem A9H (w:World) (a:Addr): (nilAhead 511 146 (.pointer (some a)) "Read").run Tryz.prog w= .ok (some false) w:=by kernel_rfl
theorem B2j (w:World) (a:Addr): (method 511 82 (.pointer (some a)) "Read").run Tryz.prog w= .ok (81,.pointer (some a)) w:=by kernel_rfl
theorem B0u (w:World) (a:Addr): (nilAhead 511 82 (.pointer (some a)) "Read").run Tryz.prog w= .ok (some false) w:=by kernel_rfl
theorem B0n (w:World) (a:Addr): (method 511 319 (.pointer (some a)) "Read").run Tryz.prog w= .ok (360,.pointer (some a)) w:=by kernel_rfl
theorem A9I (w:World) (a:Addr): (nilAhead 511 319 (.pointer (some a)) "Read").run Tryz.prog w= .ok (some false) w:=by kernel_rfl
theorem A6w (w:World) (a:Addr): (binOp .neq 72 (I7 a) (I7 a)).run Tryz.prog w= .ok (.bool false) w:=by
 obtain⟨i,hi,hc⟩:=B5Y;obtain⟨j,hj,_⟩:=B5Z;simp only[binOp];simp[Op.equal,Op.maxDepth,run_equalIn_iface_ptr_same w 9998 a Tryz.underlying72 Tryz.underlying245 hi hc hj]
def A0B (nb k:Nat) (aE:Addr):Value:=if nb=k then I7 aE else .nilIface
def A4V (r g n c i k nb fr d o:Nat) (bs:List UInt8) (cur:List Value) (t:TypeId) (aE:Addr) (w:World) (e:Ending) (w':World):Prop:=
 e= .returned (.tuple #[.int .i64 k,A0B nb k aE])/\RD r g n c (i+k) w'/\FRd fr r (nb-k:Nat) w'/\w'.heap[d]?=some (.cells (splice cur o (Lib.byteCells ((bs.drop i).take k))).toArray t (0,0))/\Fr w.heap.size [r,d,fr] w w'
theorem B5R (w:World) (r g n c i k nb fr d o m dc:Nat) (bs:List UInt8) (cur:List Value) (t:TypeId) (aE:Addr) (h:RD r g n c i w) (hf:FRd fr r nb w) (hk:k=min m nb) (Aa:i+nb<=n) (Ad:0<m) (hm:m<=dc) (AZ:dc<4611686018427387904) (AL:n<4611686018427387904) (AX:n<=c)
  (hb:bs.length=n) (AH:At w g 0 (Lib.byteCells bs)) (hd:w.heap[d]?=some (.cells cur.toArray t (0,0))) (AT:o+m<=cur.length) (AS:d≠r) (AU:g≠r) (AO:d≠fr) (hE:w.cell? ⟨0,0,none⟩=some (I7 aE)) (AJ:0∉[r,d,fr]):
  Calls Tryz.prog 346 #[.pointer (some ⟨fr,0,none⟩),.slice (some ⟨d,o,none⟩) m dc] w (A4V r g n c i k nb fr d o bs cur t aE w):=by
 have AP:fr≠r:=by
  rintro rfl;obtain⟨p,hr⟩:=h;rw[FRd,hr] at hf;cases hf
 have f0:w.cell? ⟨fr,0,none⟩=some (.iface 84 (.pointer (some ⟨r,0,none⟩))):=by rw[zA hf];rfl
 have f1:w.cell? ⟨fr,1,none⟩=some (.int .i64 nb):=by rw[zA hf];rfl
 have en:=λw'=>W5 w' aE;have mr:=A4z;have nr:=A3f;by_cases hz:nb=0
 ·subst hz
  have AV:k=0:=by omega
  subst AV;have Ae: (0:Int)< (m:Int):=by omega
  have AB:∀q,A4V r g n c i 0 0 fr d o bs cur t aE w (.returned (.tuple #[.int .i64 0,I7 aE])) (w.drewN q):=by
   intro q;refine⟨rfl,h,hf,?_,(Fr.refl _ _ w).drewN q⟩;have e:splice cur o (Lib.byteCells ((bs.drop i).take 0))=cur:=by simp[splice,Lib.byteCells]
   rw[e];exact hd
  have AA:=A0 AB;clear AB h hf AH hd hk;go_enter Tryz.func346,Tryz.ntmps346
  go_wp2_with fail
  go_quiet (fail)
  go_wp2_with fail
  go_ret2
  exact AA.out _
 ·have AW: (0:Int)< (nb:Int):=by omega
  have Ac:0<k:=by omega
  have Ab: (0:Int)< (k:Int):=by omega
  have HC:=A3k w r g n c i k d o k dc bs cur t h (by omega) (by omega) (by omega) AL AX hb AH hd (by omega) AS AU;have AI:IntKind.i64.wrap ((nb:Int)-k)=((nb-k:Nat):Int):=by rw[zQ _ (by omega)];omega
  have HK:=A0 hk;have HF:=A0 hf;have HE:=A0 hE;clear h AH hd hf hk
  have AG:∀w1:World,A2q r g n c i k d o bs cur t w (.returned (.tuple #[.int .i64 k,.nilIface])) w1->
    w1.heap[fr]?=some (.cells #[.iface 84 (.pointer (some ⟨r,0,none⟩)),.int .i64 nb] 148 (0,0))/\w1.cell? ⟨0,0,none⟩=some (I7 aE)/\∀q,A4V r g n c i k nb fr d o bs cur t aE w (.returned (.tuple #[.int .i64 k,A0B nb k aE])) ((w1.setCell ⟨fr,1,none⟩ (.int .i64 (nb-k:Nat))).drewN q):=by
   rintro w1 ⟨-,h2,h3,h4⟩;have AE:w1.heap[fr]?=some (.cells #[.iface 84 (.pointer (some ⟨r,0,none⟩)),.int .i64 nb] 148 (0,0)):=h4.cells HF.out (by simp[AP,Ne.symm AO]) (.inr (by decide));refine⟨AE,h4.cell HE.out (by simp at AJ⊢;exact⟨AJ.1,AJ.2.1⟩) (zC HE.out),λq=>⟨rfl,?_,?_,?_,?_⟩⟩
   ·obtain⟨p,hr⟩:=h2
    exact⟨p,(C0 (a:=⟨fr,1,none⟩) _ (Ne.symm AP)).trans hr⟩
   ·exact B6 (i:=1) _ AE
   ·exact(C0 (a:=⟨fr,1,none⟩) _ AO).trans h3
   ·exact((h4.wide (zB _) (λk hk _=>by simp at hk⊢;omega)).setCell (p:=⟨fr,1,none⟩) (.inl (by simp)) _).drewN q
  have AC:=A0 AG;have HC:=A0 HC;clear AG hE;by_cases hcut:m<=nb
  ·have AM:k=m:=by have:=HK.out;omega
   subst AM;have AY:¬((nb:Int)< (k:Int)):=by omega
   go_enter Tryz.func346,Tryz.ntmps346
   go_wp2_with fail
   refine HC.out.mono ?_;rintro e w1 hg;obtain rfl:=hg.1;obtain⟨AE,AR,AB⟩:=AC.out w1 hg;have AA:=A0 AB;have g1:w1.cell? ⟨fr,1,none⟩=some (.int .i64 nb):=by rw[zA AE];rfl
   have z1:w1.frozen? ⟨fr,1,none⟩=false:=zE AE 1;clear hg AE AB f0 f1 HC AC;by_cases AD:nb=k
   ·have eE:A0B nb k aE=I7 aE:=if_pos AD
    rw[eE] at AA;have AQ:nb-k=0:=by omega
    rw[AQ] at AI AA;go_wp2_with fail
    go_quiet (fail)
    go_wp2_with fail
    go_ret2
    exact AA.out _
   ·have eE:A0B nb k aE= .nilIface:=if_neg AD
    rw[eE] at AA;have AQ:¬((nb-k:Nat):Int)=0:=by omega
    go_wp2_with fail
    go_ret2
    exact AA.out 0
  ·have AM:k=nb:=by have:=HK.out;omega
   subst AM;have AY: (k:Int)< (m:Int):=by omega
   have hkc: (k:Int)<=dc:=by omega
   go_enter Tryz.func346,Tryz.ntmps346
   go_wp2_with fail
   refine HC.out.mono ?_;rintro e w1 hg;obtain rfl:=hg.1;obtain⟨AE,AR,AB⟩:=AC.out w1 hg;have AA:=A0 AB;have g1:w1.cell? ⟨fr,1,none⟩=some (.int .i64 k):=by rw[zA AE];rfl
   have z1:w1.frozen? ⟨fr,1,none⟩=false:=zE AE 1;clear hg AE AB f0 f1 HC AC;have eE:A0B k k aE=I7 aE:=if_pos rfl;rw[eE] at AA;rw[Nat.sub_self] at AI AA;go_wp2_with fail
   go_quiet (fail)
   go_wp2_with fail
   go_ret2
   exact AA.out _
theorem B6J (w:World) (tr r g n c i k nb fr d o m dc:Nat) (AP:Int) (AE:List Value) (bs:List UInt8) (cur:List Value) (t:TypeId) (aE:Addr) (h:RD r g n c i w) (hf:FRd fr r nb w) (ht:TR tr r AP (.iface 146 (.pointer (some ⟨fr,0,none⟩))) AE .nilIface w) (hk:k=min m nb) (AL:i+nb<=n) (AM:0<m) (hm:m<=dc) (AG:dc<4611686018427387904) (AB:n<4611686018427387904) (AO:n<=c)
  (hb:bs.length=n) (AA:At w g 0 (Lib.byteCells bs)) (hd:w.heap[d]?=some (.cells cur.toArray t (0,0))) (AC:o+m<=cur.length) (AI:d≠r) (AJ:g≠r) (AH:d≠fr) (AR:d≠tr) (hE:w.cell? ⟨0,0,none⟩=some (I7 aE)) (AD:0∉[r,d,fr]):
  Calls Tryz.prog 81 #[.pointer (some ⟨tr,0,none⟩),.slice (some ⟨d,o,none⟩) m dc] w (A4V r g n c i k nb fr d o bs cur t aE w):=by
 have HC:=A0 (B5R w r g n c i k nb fr d o m dc bs cur t aE h hf hk AL AM hm AG AB AO hb AA hd AC AI AJ AH hE AD);obtain⟨c0,c1,c2,aA,-⟩:=O4 ht.2 ht.1;have en:=λw'=>W5 w' aE;have es:=λw'=>A6w w' aE;have mr:=B0m;have nr:=A9H;have HE:=A0 hE;clear h hf ht AA hd hE c0 c1 hk;go_enter Tryz.func81,Tryz.ntmps81
 go_wp2_with fail
 refine HC.out.mono ?_;rintro e w1 hg;obtain rfl:=hg.1;have AQ:w1.cell? ⟨0,0,none⟩=some (I7 aE):=hg.2.2.2.2.cell HE.out AD (zC HE.out);have HG:=A0 hg;clear hg HC c2 aA;by_cases hl:nb=k
 ·have eE:A0B nb k aE=I7 aE:=if_pos hl
  rw[eE] at HG⊢;go_wp2_with fail
  go_ret2
  exact HG.out
 ·have eE:A0B nb k aE= .nilIface:=if_neg hl
  rw[eE] at HG⊢;go_wp2_with fail
  go_ret2
  exact HG.out
def HRF (tr r:Nat) (AB:Value) (AA:List Value) (nb:Int) (w:World) (e:Ending) (w':World):Prop:=
 ∃fr,e= .returned .nilIface/\FRd fr r nb w'/\w.heap.size<=fr/\TR tr r (E7 nb) (.iface 146 (.pointer (some ⟨fr,0,none⟩))) AA AB w'/\Fr w.heap.size [tr] w w'
theorem Y2 (w:World) (tr r:Nat) (AP:Int) (AI AJ:Value) (AH:List Value) (hb:Nat) (H:Hd) (nb:Int) (ht:TR tr r AP AI AH AJ w) (hh:w.heap[hb]?=some (.cells H.cells.toArray 130 (0,0))) (AG:nb=if D1 H.typ then 0 else H.size) (h0:0<=nb) (h1:nb<=9223372036854775807):
  Calls Tryz.prog 149 #[.pointer (some ⟨tr,0,none⟩),.pointer (some ⟨hb,0,none⟩)] w (HRF tr r AJ AH nb w):=by
 have c3:w.cell? ⟨hb,3,none⟩=some (.int .i64 H.size):=by rw[zA hh];rfl
 have ct:w.cell? ⟨hb,0,none⟩=some (.int .u8 H.typ):=by rw[zA hh];rfl
 obtain⟨d0,d1,d2,-,z1,z2,-⟩:=O4 ht.2 ht.1;have AM:=A8 ht.1;have HO:=A3b w H.typ;have AL:=A0 (A7V w nb h0 h1);have AO:¬nb<0:=by omega
 have AC:HRF tr r AJ AH nb w (.returned .nilIface) (((w.setCell ⟨tr,1,none⟩ (.int .i64 (E7 nb))).setCell ⟨tr,2,none⟩ (.iface 146 (.pointer (some ⟨w.heap.size,0,none⟩)))).alloc (.cells #[.iface 84 (.pointer (some ⟨r,0,none⟩)),.int .i64 nb] 148)):=by
  have q1:=B6 (i:=1) (.int .i64 (E7 nb)) ht.1;rw[A1y] at q1;have q3:=B6 (i:=2) (.iface 146 (.pointer (some ⟨w.heap.size,0,none⟩))) q1;rw[A8D] at q3;have F:Fr w.heap.size [tr] w ((w.setCell ⟨tr,1,none⟩ (.int .i64 (E7 nb))).setCell ⟨tr,2,none⟩ (.iface 146 (.pointer (some ⟨w.heap.size,0,none⟩)))):=((Fr.refl _ _ w).setCell (p:=⟨tr,1,none⟩) (.inl (by simp)) _).setCell (p:=⟨tr,2,none⟩) (.inl (by simp)) _;have hs: ((w.setCell ⟨tr,1,none⟩ (.int .i64 (E7 nb))).setCell ⟨tr,2,none⟩ (.iface 146 (.pointer (some ⟨w.heap.size,0,none⟩)))).heap.size=w.heap.size:=by simp[World.setCell]
  generalize (w.setCell ⟨tr,1,none⟩ (.int .i64 (E7 nb))).setCell ⟨tr,2,none⟩ (.iface 146 (.pointer (some ⟨w.heap.size,0,none⟩)))=wz at*;have AD:=zI wz (.cells #[.iface 84 (.pointer (some ⟨r,0,none⟩)),.int .i64 nb] 148);rw[hs] at AD;exact⟨w.heap.size,rfl,AD,zB _,⟨(zO wz _ tr (by rw[hs];exact AM)).trans q3,ht.2⟩,F.alloc _⟩
 have AB:=A0 AC;clear AC hh ht;cases AA:D1 H.typ
 ·rw[AA] at HO
  have AE:nb=H.size:=by rw[AG,AA];rfl
  rw[<-AE] at c3;clear AG AE AA;go_enter Tryz.func149,Tryz.ntmps149
  go_wp2_with fail
  refine HO.mono ?_;rintro e wx ⟨rfl,rfl⟩;go_wp2_with fail
  refine AL.out.mono ?_;rintro e wx ⟨rfl,rfl⟩;go_wp2_with fail
  go_ret
  exact AB.out
 ·rw[AA] at HO
  have AE:nb=0:=by rw[AG,AA];rfl
  subst AE;clear AG AA;go_enter Tryz.func149,Tryz.ntmps149
  go_wp2_with fail
  refine HO.mono ?_;rintro e wx ⟨rfl,rfl⟩;go_wp2_with fail
  refine AL.out.mono ?_;rintro e wx ⟨rfl,rfl⟩;go_wp2_with fail
  go_ret
  exact AB.out
theorem A3s (w:World) (r g n c i d o m dc:Nat) (bs:List UInt8) (cur:List Value) (t:TypeId) (aE:Addr) (h:RD r g n c i w) (AM:0<m) (AR:m<=n-i) (AL:m<=dc) (AB:n<4611686018427387904) (AI:n<=c)
  (hb:bs.length=n) (AA:At w g 0 (Lib.byteCells bs)) (hd:w.heap[d]?=some (.cells cur.toArray t (0,0))) (AC:o+m<=cur.length) (AG:d≠r) (AH:g≠r) (hE:w.cell? ⟨0,0,none⟩=some (I7 aE)) (AD:0∉[r,d]):
  Calls Tryz.prog 147 #[.iface 84 (.pointer (some ⟨r,0,none⟩)),.slice (some ⟨d,o,none⟩) m dc] w (A2q r g n c i m d o bs cur t w):=by
 have HC:=A0 (A3k w.drew r g n c i m d o m dc bs cur t h (by omega) (by omega) (by omega) AB AI hb AA hd AC AG AH);have AE: (m:Int)<=dc:=by omega
 have AO: (0:Int)<m:=by omega
 have AP: (m:Int)<4611686018427387904:=by omega
 have AQ:¬dc=0:=by omega
 have mr:=A4z;have nr:=A3f;have en:=λw'=>W5 w' aE;have HE:=A0 hE;clear h hb AA hd hE;go_enter Tryz.func147,Tryz.ntmps147
 go_wp2_with fail
 refine wp_loop_rounds 2 ?_;rw[rounds_succ];go_wp2_with fail
 go_region_held3 (λ_=>True) (trivial) (first|(go_at_call 340;refine HC.out.mono ?_;rintro e w1 ⟨rfl,h2,h3,h4⟩))
 have AJ:w1.cell? ⟨0,0,none⟩=some (I7 aE):=h4.cell HE.out AD (zC HE.out);go_wp2_with fail
 rw[rounds_succ];go_wp2_with fail
 go_ret2
 exact⟨rfl,h2,h3,(Fr.refl _ _ w).drew.trans h4⟩
section
variable {ops:Array Oper} {rest:List Oper} {o:Oper} {a:Act} {w:World} {Q:Exit->Act->World->Prop}
theorem X2 (hg:o.guard=none) (s x:Operand) (t:TypeId) (ho:o.op= .call {callee:= .builtin .append,args:=#[s,x],argTypes:=#[t,t]}) (v u:Value) (hs:a.eval s=v) (hx:a.eval x=u) (v':Value) (w':World)
  (hr: (Builtin.append_ #[t,t] o.type #[v,u]).run Tryz.prog w= .ok v' w') (h:wpList Tryz.prog ops Q rest (a.put o.dst v') w'):wpList Tryz.prog ops Q (o::rest) a w:=
 wpList_plain hg λ_ hK=>by
  unfold Oper.wp execOp;simp only[ho,resolve,invoke,builtin,Sem.run_bind,Sem.run_pure,Result.andThen_ok,List.map_toArray,List.map_cons,List.map_nil,hs,hx,hr];exact hK _ _ h
end
theorem B3M (w:World) (d k:Nat) (AC:k<=512): (Instr.sliceAt 131 (.pointer (some ⟨d,0,none⟩)) none (some (.int .i64 k)) none).run Tryz.prog w= .ok (.slice (some ⟨d,0,none⟩) k 512) w:=by
 have AA:Tryz.prog.arrayLen 131=512:=by kernel_rfl
 have AB:∀w,(sizeOf (Tryz.prog.elem 131)).run Tryz.prog w= .ok 1 w:=by intro w;kernel_rfl
 rw[run_sliceAt_array_h w 131 ⟨d,0,none⟩ (by kernel_rfl) .i64 k (by omega) (by rw[AA];omega),AB,AA];simp[slicedAt];rfl
def LR (lr tr:Nat) (N:Int) (w:World):Prop:=w.heap[lr]?=some (.cells #[.iface 82 (.pointer (some ⟨tr,0,none⟩)),.int .i64 N] 321 (0,0))
def B1i (tr r g n c i k nb fr d lr:Nat) (N:Int) (bs:List UInt8) (cur:List Value) (t:TypeId) (aE:Addr) (w:World) (e:Ending) (w':World):Prop:=
 e= .returned (.tuple #[.int .i64 k,A0B nb k aE])/\RD r g n c (i+k) w'/\FRd fr r (nb-k:Nat) w'/\w'.heap[d]?=some (.cells (splice cur 0 (Lib.byteCells ((bs.drop i).take k))).toArray t (0,0))/\LR lr tr (N-k) w'/\Fr w.heap.size [r,d,fr,lr] w w'
theorem B5i (w:World) (tr r g n c i k nb fr d lr:Nat) (N AM:Int) (AG:List Value) (bs:List UInt8) (cur:List Value) (t:TypeId) (aE:Addr) (h:RD r g n c i w) (hf:FRd fr r nb w) (ht:TR tr r AM (.iface 146 (.pointer (some ⟨fr,0,none⟩))) AG .nilIface w) (hl:LR lr tr N w) (hN:512<=N) (AY:N<=2097152) (hk:k=min 512 nb) (AU:i+nb<=n) (AE:n<4611686018427387904) (AV:n<=c)
  (hb:bs.length=n) (AB:At w g 0 (Lib.byteCells bs)) (hd:w.heap[d]?=some (.cells cur.toArray t (0,0))) (AS:512<=cur.length) (AQ:d≠r) (AT:g≠r) (AP:d≠fr) (AR:d≠tr) (AH:d≠lr) (hE:w.cell? ⟨0,0,none⟩=some (I7 aE)) (AO:0∉[r,d,fr]):
  Calls Tryz.prog 360 #[.pointer (some ⟨lr,0,none⟩),.slice (some ⟨d,0,none⟩) 512 512] w (B1i tr r g n c i k nb fr d lr N bs cur t aE w):=by
 have HC:=A0 (B6J w tr r g n c i k nb fr d 0 512 512 AM AG bs cur t aE h hf ht hk AU (by omega) (by omega) (by omega) AE AV hb AB hd (by omega) AQ AT AP AR hE AO)
 have AL:lr≠r:=by
  rintro rfl;obtain⟨p,hr⟩:=h;rw[LR,hr] at hl;cases hl
 have AJ:lr≠fr:=by
  rintro rfl;rw[FRd,hl] at hf;cases hf
 have l0:w.cell? ⟨lr,0,none⟩=some (.iface 82 (.pointer (some ⟨tr,0,none⟩))):=by rw[zA hl];rfl
 have l1:w.cell? ⟨lr,1,none⟩=some (.int .i64 N):=by rw[zA hl];rfl
 have AI:k<=512:=by omega
 have AX:¬N<=0:=by omega
 have AZ:¬N<512:=by omega
 have AW:IntKind.i64.wrap (N- (k:Int))=N-k:=by rw[zQ _ (by omega)]
 have mr:=B2j;have nr:=B0u;have HL:=A0 hl;clear h hf ht hl AB hd hE hk;go_enter Tryz.func360,Tryz.ntmps360
 go_wp2_with fail
 refine HC.out.mono ?_;rintro e w1 ⟨rfl,g1,g2,g3,g4⟩;have AC:w1.heap[lr]?=some (.cells #[.iface 82 (.pointer (some ⟨tr,0,none⟩)),.int .i64 N] 321 (0,0)):=g4.cells HL.out (by simp[AL,AJ,Ne.symm AH]) (.inr (by decide))
 have AA:B1i tr r g n c i k nb fr d lr N bs cur t aE w (.returned (.tuple #[.int .i64 k,A0B nb k aE])) (w1.setCell ⟨lr,1,none⟩ (.int .i64 (N-k))):=by
  refine⟨rfl,?_,(C0 (a:=⟨lr,1,none⟩) _ (Ne.symm AJ)).trans g2,(C0 (a:=⟨lr,1,none⟩) _ AH).trans g3,B6 (i:=1) _ AC,?_⟩
  ·obtain⟨p,hr⟩:=g1
   exact⟨p,(C0 (a:=⟨lr,1,none⟩) _ (Ne.symm AL)).trans hr⟩
  ·exact(g4.wide (S':=[r,d,fr,lr]) (zB _) (λk hk _=>by simp at hk⊢;omega)).setCell (p:=⟨lr,1,none⟩) (.inl (by simp)) _
 have q0:w1.cell? ⟨lr,1,none⟩=some (.int .i64 N):=by rw[zA AC];rfl
 have z1:w1.frozen? ⟨lr,1,none⟩=false:=zE AC 1;have AD:=A0 AA;clear AA g1 g2 g3 g4 AC l0 l1 HC;generalize A0B nb k aE=ev at*;go_wp2_with fail
 go_ret2
 exact AD.out
theorem info5: (Tryz.prog.info? 5).map (λi=>(i.zero,i.size,i.bytes))=some (some (.int .u8 0),1,1):=by kernel_rfl
structure RAS (tr r g n c i0 nb0 fr d lr:Nat) (bs:List UInt8) (w0:World) (all:Value) (p:Nat) (w:World):Prop where
 R:RD r g n c (i0+p) w
 F:FRd fr r (nb0-p:Nat) w
 L:LR lr tr (1048577-p) w
 D:∃cur:List Value,w.heap[d]?=some (.cells cur.toArray 131 (0,0))/\cur.length=512
 A:w.ownsRow (d+1) 5 1 all p (Lib.byteCells ((bs.drop i0).take p))
 K:Fr w0.heap.size [r,d,fr,lr] w0 w
def B5D (r g n c i0 AA fr lr:Nat) (bs:List UInt8) (w:World) (e:Ending) (w':World):Prop:=
 ∃v,e= .returned (.tuple #[v,.nilIface])/\RD r g n c (i0+AA) w'/\FRd fr r 0 w'/\w'.ownsRow w.heap.size 5 1 v AA (Lib.byteCells ((bs.drop i0).take AA))/\Fr w.heap.size [r,fr,lr] w w'
theorem A1v {w:World} {B B':Nat} {e:TypeId} {v:Value} {n:Nat} {xs:List Value} (h:w.ownsRow B e 1 v n xs) (hB:B'<=B):w.ownsRow B' e 1 v n xs:=by
 refine⟨h.1,?_⟩;rcases h.2 with h|⟨g,cap,cur,h1,h2,h3⟩
 ·exact .inl h
 ·exact .inr ⟨g,cap,cur,h1,zP hB h2,h3⟩
theorem A9M {w w':World} {B:Nat} {v:Value} {n:Nat} {xs:List Value} (h:w.ownsRow B 5 1 v n xs) {B':Nat} {S:List Nat} (f:Fr B' S w w') (hS:∀k∈S,k<B) (hB:w.heap.size<=B'):w'.ownsRow B 5 1 v n xs:=by
 refine⟨h.1,?_⟩;rcases h.2 with h|⟨g,cap,cur,h1,h2,h3,h4⟩
 ·exact .inl h
 ·exact .inr ⟨g,cap,cur,h1,h2,f.cells h3 (λhm=>by have:=hS g hm;omega) (.inl (zL (A8 h3) hB)),h4⟩
theorem B2x {w w':World} {B B':Nat} {v:Value} {n:Nat} {xs:List Value} (h:w.ownsRow B 5 1 v n xs) (hg:w.grownBy w' v.ownBlock) (hB:B'<=B) (S:List Nat):Fr B' S w w':=
 ⟨hg.os,hg.tape,hg.output,hg.size,λk o hk hS hb=>by
  by_cases e:v.ownBlock=some k
  ·exfalso
   rcases h.2 with ⟨rfl,-⟩|⟨g,cap,cur,rfl,h2,h3,h4⟩
   ·cases e
   ·obtain rfl:g=k:=by simpa[Value.ownBlock] using e
    rw[h3] at hk;cases hk
    exact hb (by omega) _ _ rfl
  ·rw[hg.block k (A8 hk) (λe2=>e e2.symm)];exact hk⟩
def B7I:Value->Nat
 | .slice _ n _=>n
 |_=>0
theorem A4D {w:World} {B:Nat} {e:TypeId} {v:Value} {n:Nat} {xs:List Value} (h:w.ownsRow B e 1 v n xs):B7I v=n:=by
 rcases h.2 with ⟨rfl,h2⟩|⟨g,cap,cur,rfl,-⟩
 ·exact h2.symm
 ·rfl
theorem A5n (l:List UInt8) (i p k:Nat): (l.drop i).take p++((l.drop (i+p)).take k)=(l.drop i).take (p+k):=by
 rw[<-List.drop_drop,<-List.take_add]
theorem B4N (w:World) (tr r g n c i0 AA fr lr:Nat) (Ae:Int) (AR:List Value) (bs:List UInt8) (aE:Addr) (h:RD r g n c i0 w) (hf:FRd fr r AA w) (ht:TR tr r Ae (.iface 146 (.pointer (some ⟨fr,0,none⟩))) AR .nilIface w) (hl:LR lr tr 1048577 w) (BQ:AA<=1048576) (BO:i0+AA<=n) (AU:n<4611686018427387904) (BD:n<=c)
  (hb:bs.length=n) (AL:At w g 0 (Lib.byteCells bs)) (BM:g<w.heap.size) (Ao:g∉[r,fr,lr]) (BI:tr∉[r,fr,lr]) (hE:w.cell? ⟨0,0,none⟩=some (I7 aE)) (AS:0∉[r,fr,lr]):
  Calls Tryz.prog 210 #[.iface 319 (.pointer (some ⟨lr,0,none⟩))] w (B5D r g n c i0 AA fr lr bs w):=by
 have AY:lr<w.heap.size:=A8 hl;have AX:fr<w.heap.size:=A8 hf;have BH:r<w.heap.size:=by obtain⟨p,hr⟩:=h;exact A8 hr
 have BJ:tr<w.heap.size:=A8 ht.1;have Ag:=zC hE;have mr:=B0n;have nr:=A9I;have en:=λw'=>W5 w' aE;have es:=λw'=>A2y w' aE;obtain⟨i5,Ap,Aq,Ar,As⟩:=info_parts info5
 have Ai:∀wz:World,wz=w.alloc (.cells Tryz.zeroCells131 131)->RAS tr r g n c i0 AA fr w.heap.size lr bs w (.slice none 0 0) 0 wz:=by
  rintro wz rfl;have AO:Below w.heap.size w (w.alloc (.cells Tryz.zeroCells131 131)):=(zD _ w).alloc (zB _) _;refine⟨h.below AO,(AO.block fr AX).trans hf,(AO.block lr AY).trans hl,⟨Tryz.zeroCells131.toList,by rw[Array.toArray_toList];exact zI w _,by kernel_rfl⟩,?_,Fr.of_below AO _ _⟩;exact World.ownsRow_nil _ _ _ _
 obtain⟨d,AV⟩:∃d,d=w.heap.size:=⟨_,rfl⟩;have AM:=A0 Ai;have HT:=A0 ht;have AQ:=A0 AL;have HE:=A0 hE
 have Af:=A0 (fun(wx:World) (v:Value) (p k:Nat) (xs:List Value) (ys:List UInt8) (Ab:wx.ownsRow (d+1) 5 1 v p xs) (BL:ys.length=k) (Av:At wx d 0 (Lib.byteCells ys)) (BT:p+k<=140737488355328) (Ax:d+1<=wx.heap.size)=>
  run_append_own (P:=Tryz.prog) (w:=wx) (d+1) 35 35 5 i5 (.int .u8 0) 1 1 Tryz.underlying35 Ap Aq Ar As rfl (by decide) v p xs Ab ⟨d,0,none⟩ k 512 (Lib.byteCells ys) (by rw[zJ,BL,Nat.mul_one]) Av.src (Lib.byteCells_one _) (by unfold maxLen;omega) (by omega) Ax)
 have AP:=A0 AV;clear Ai h hf ht hl AL hE Ap Aq Ar As;go_enter Tryz.func210,Tryz.ntmps210
 go_wp2_with fail
 have Ac:=A0 (AM.out _ rfl);rw[<-AV] at Ac⊢;clear AM AV;generalize w.alloc (.cells Tryz.zeroCells131 131)=wz at*;go_loopw [4] (λs4 wr=>∃ (p:Nat) (v:Value),v=s4/\p<=AA/\(p=0\/p<AA)/\p% 512=0/\Hid (RAS tr r g n c i0 AA fr d lr bs w v p wr)) (λv _=>AA-B7I v)
 case atStart=>exact⟨0,_,rfl,by omega,.inl rfl,by omega,Ac⟩
 case round=>
  obtain⟨p,v,rfl,hp,BF,BC,hS⟩:=hrel;obtain⟨cur,AG,Ak⟩:=hS.out.D;obtain⟨k,hk⟩:∃k,k=min 512 (AA-p):=⟨_,rfl⟩;have AW:w.heap.size=d:=AP.out.symm;have hN: (512:Int)<=1048577-p:=by omega
  have Aj:TR tr r Ae (.iface 146 (.pointer (some ⟨fr,0,none⟩))) AR .nilIface wr.drew:=HT.out.fr (S:=[r,d,fr,lr]) hS.out.K.drew (by simp at BI⊢;omega);have Ah:At wr.drew g 0 (Lib.byteCells bs):=AQ.out.frame (w':=wr.drew) (S:=[r,d,fr,lr]) hS.out.K.drew (zB _) (by simp at Ao⊢;omega);have AT:wr.drew.cell? ⟨0,0,none⟩=some (I7 aE):=hS.out.K.drew.cell HE.out (by simp at AS⊢;omega) Ag;have HC:=A0 (B5i wr.drew tr r g n c (i0+p) k (AA-p) fr d lr (1048577-p) Ae AR bs cur 131 aE hS.out.R hS.out.F Aj hS.out.L hN (by omega) hk (by omega) AU BD hb Ah AG (by omega) (by omega) (by simp at Ao;omega) (by omega) (by omega) (by omega) AT (by simp at AS⊢;omega));have BP: (k:Int)<=512:=by omega
  have BS:=λwx=>B3M wx d k (by omega);clear AW;have HK:=A0 hk;have Aw:d<wr.heap.size:=A8 AG;have HS:=A0 hS.out;have AM:=HS;clear Ac AG hk hS Aj Ah AT hN;go_wp2_with fail
  go_region_held3 (λ_=>True) (trivial) (first|(go_at_call 360;refine HC.out.mono ?_;rintro e w1 ⟨rfl,g1,g2,g3,g4,g5⟩))
  have g6:Fr wr.heap.size [r,d,fr,lr] wr w1:=(Fr.refl _ _ wr).drew.trans g5;have Ad:wr.heap.size<=w1.heap.size:=g6.size;have Az:k<=AA-p:=by have:=HK.out;omega
  have Al:=AP.out;have AI: ((bs.drop (i0+p)).take k).length=k:=by rw[zR,List.length_drop,hb];omega
  have AB:w1.ownsRow (d+1) 5 1 v p (Lib.byteCells ((bs.drop i0).take p)):=A9M HS.out.A g6 (by simp;omega) (zB _)
  have AJ:At w1 d 0 (Lib.byteCells ((bs.drop (i0+p)).take k)):=At.of_heap g3 (λj u hj=>by
   have Ay:=(zM.1 hj).1;rw[Nat.zero_add,List.getElem?_toArray,splice,List.take_zero,List.nil_append,zX Ay];exact hj)
  obtain⟨v2,w2,hr,Aa,AH,-⟩:=Af.out w1 v p k _ ((bs.drop (i0+p)).take k) AB AI AJ (by omega) (by omega);have An:Fr w.heap.size [r,d,fr,lr] w1 w2:=B2x AB AH (by omega) _;have AC:Fr (d+1) [] w1 w2:=B2x AB AH (zB _) _;have Am:Fr w.heap.size [r,d,fr,lr] wr w1:=⟨g6.os,g6.tape,g6.output,g6.size,λq o hq hS hB=>g6.block q o hq hS (λAu=>hB (zP HS.out.K.size Au))⟩
  have AD:RAS tr r g n c i0 AA fr d lr bs w v2 (p+k) w2:=by
   refine⟨?_,?_,?_,?_,?_,(HS.out.K.trans Am).trans An⟩
   ·rw[show i0+(p+k)=i0+p+k by omega];exact g1.fr AC (by simp)
   ·rw[show AA- (p+k)=AA-p-k by omega];exact AC.cells g2 (by simp) (.inr (by decide))
   ·rw[show(1048577:Int)- ((p+k:Nat):Int)=1048577-p-k by omega];exact AC.cells g4 (by simp) (.inr (by decide))
   ·refine⟨_,AC.cells g3 (by simp) (.inl (by omega)),?_⟩
    have e: (Lib.byteCells ((bs.drop (i0+p)).take k)).length=k:=by rw[zJ,AI]
    simp only[splice,List.take_zero,List.nil_append,List.length_append,List.length_drop,e,Ak];omega
   ·rw[<-Lib.byteCells_append,A5n] at Aa;exact Aa
  have AT:w2.cell? ⟨0,0,none⟩=some (I7 aE):=AD.K.cell HE.out (by simp at AS⊢;omega) Ag;have HN:=A0 AD;clear g1 g2 g3 g4 g5 g6 AB AJ Aa AH An AC Am AD HC HS AI Al Aw Af Az Ad Ak BF;by_cases hl:AA-p=k
  ·have eE:A0B (AA-p) k aE=I7 aE:=if_pos hl
   rw[eE];clear eE;go_wp2_with (first|(at_builtin;refine X2 rfl (.tmp 17) (.tmp 19) 35 rfl _ _ rfl rfl v2 w2 hr ?_)|fail)
   go_ret2
   have BE:p+k=AA:=by omega
   have Al:=AP.out;have hn:=HN.out;rw[BE] at hn;refine⟨v2,rfl,hn.R,?_,A1v hn.A (by omega),hn.K.wide (zB _) (λq hq BR=>by simp at hq⊢;omega)⟩;have:=hn.F;rwa [Nat.sub_self] at this
  ·have eE:A0B (AA-p) k aE= .nilIface:=if_neg hl
   have AE:=A0 (show k=512 by have:=HK.out;omega);rw[eE];clear eE;go_wp2_with (first|(at_builtin;refine X2 rfl (.tmp 17) (.tmp 19) 35 rfl _ _ rfl rfl v2 w2 hr ?_)|fail)
   go_roundw
   case rel=>exact⟨p+k,v2,rfl,(by have:=HK.out;omega),.inr (by have:=HK.out;omega),(by have:=AE.out;omega),HN⟩
   case measure=>
    have BA:=A4D HN.out.A;have AZ:=A4D AM.out.A;have:=AE.out;have:=HK.out;rw[BA,AZ];omega
end Go.Proofs.YtkanmkcojlefbaaGreatDoor
