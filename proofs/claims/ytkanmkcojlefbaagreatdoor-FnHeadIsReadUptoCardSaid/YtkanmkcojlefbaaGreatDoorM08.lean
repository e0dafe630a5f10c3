/-
  Part of the proof; holds the texts RDat, RAll, RSp.
-/
import Derived.Test.YtkanmkcojlefbaaGreatDoorM07
set_option maxHeartbeats 2000000
set_option maxRecDepth 100000
set_option linter.unusedSimpArgs false
set_option linter.unusedVariables false
namespace Go.Proofs.YtkanmkcojlefbaaGreatDoor
open Go.RowKit
theorem RD.below {r g n c i:Nat} {w w':World} (h:RD r g n c i w) (f:Below w.heap.size w w'):RD r g n c i w':=by
 obtain⟨p,hr⟩:=h;exact⟨p,(f.block r (A8 hr)).trans hr⟩
theorem RD.fr {r g n c i:Nat} {w w':World} (h:RD r g n c i w) {B:Nat} {S:List Nat} (f:Fr B S w w') (hS:r∉S):RD r g n c i w':=by
 obtain⟨p,hr⟩:=h;exact⟨p,f.cells hr hS (.inr (by decide))⟩
theorem TR.below {tr r:Nat} {AD:Int} {AA AC:Value} {AB:List Value} {w w':World} (h:TR tr r AD AA AB AC w) (f:Below w.heap.size w w'):TR tr r AD AA AB AC w':=
 ⟨(f.block tr (A8 h.1)).trans h.1,h.2⟩
theorem TR.fr {tr r:Nat} {AD:Int} {AA AC:Value} {AB:List Value} {w w':World} (h:TR tr r AD AA AB AC w) {B:Nat} {S:List Nat} (f:Fr B S w w') (hS:tr∉S):TR tr r AD AA AB AC w':=
 ⟨f.cells h.1 hS (.inr (by decide)),h.2⟩
theorem B0m (w:World) (a:Addr): (method 511 146 (.pointer (some a)) "Read").run Tryz.prog w= .ok (346,.pointer (some a)) w:=by kernel_rfl
theorem A9H (w:World) (a:Addr): (nilAhead 511 146 (.pointer (some a)) "Read").run Tryz.prog w= .ok (some false) w:=by kernel_rfl
theorem B2j (w:World) (a:Addr): (method 511 82 (.pointer (some a)) "Read").run Tryz.prog w= .ok (81,.pointer (some a)) w:=by kernel_rfl
theorem B0u (w:World) (a:Addr): (nilAhead 511 82 (.pointer (some a)) "Read").run Tryz.prog w= .ok (some false) w:=by kernel_rfl
theorem B0n (w:World) (a:Addr): (method 511 319 (.pointer (some a)) "Read").run Tryz.prog w= .ok (360,.pointer (some a)) w:=by kernel_rfl
theorem A9I (w:World) (a:Addr): (nilAhead 511 319 (.pointer (some a)) "Read").run Tryz.prog w= .ok (some false) w:=by kernel_rfl
theorem A6w (w:World) (a:Addr): (binOp .neq 72 (I7 a) (I7 a)).run Tryz.prog w= .ok (.bool false) w:=by
 obtain⟨i,hi,hc⟩:=B5Y;obtain⟨j,hj,_⟩:=B5Z;simp only[binOp];simp[Op.equal,Op.maxDepth,run_equalIn_iface_ptr_same w 9998 a Tryz.underlying72 Tryz.underlying245 hi hc hj]
def A0B (nb k:Nat) (aE:Addr):Value:=if nb=k then I7 aE else .nilIface
def A4V (r g n c i k nb fr d o:Nat) (bs:List UInt8) (cur:List Value) (t:TypeId) (aE:Addr) (w:World) (e:Ending) (w':World):Prop:=
 e= .returned (.tuple #[.int .i64 k,A0B nb k aE])/\RD r g n c (i+k) w'/\FRd fr r (nb-k:Nat) w'/\w'.heap[d]?=some (.cells (splice cur o (Lib.byteCells ((bs.drop i).take k))).toArray t (0,0))/\Fr w.heap.size [r,d,fr] w w'
theorem B5R (w:World) (r g n c i k nb fr d o m dc:Nat) (bs:List UInt8) (cur:List Value) (t:TypeId) (aE:Addr) (h:RD r g n c i w) (hf:FRd fr r nb w) (hk:k=min m nb) (Aa:i+nb<=n) (Ae:0<m) (hm:m<=dc) (AZ:dc<4611686018427387904) (AL:n<4611686018427387904) (AX:n<=c)
  (hb:bs.length=n) (AH:At w g 0 (Lib.byteCells bs)) (hd:w.heap[d]?=some (.cells cur.toArray t (0,0))) (AT:o+m<=cur.length) (AS:d≠r) (AU:g≠r) (AO:d≠fr) (hE:w.cell? ⟨0,0,none⟩=some (I7 aE)) (AJ:0∉[r,d,fr]):
  Calls Tryz.prog 346 #[.pointer (some ⟨fr,0,none⟩),.slice (some ⟨d,o,none⟩) m dc] w (A4V r g n c i k nb fr d o bs cur t aE w):=by
 have AP:fr≠r:=by
  rintro rfl;obtain⟨p,hr⟩:=h;rw[FRd,hr] at hf;cases hf
 have f0:w.cell? ⟨fr,0,none⟩=some (.iface 84 (.pointer (some ⟨r,0,none⟩))):=by rw[Lib.cell_of_heap hf];rfl
 have f1:w.cell? ⟨fr,1,none⟩=some (.int .i64 nb):=by rw[Lib.cell_of_heap hf];rfl
 have en:=λw'=>W5 w' aE;have mr:=A4z;have nr:=A3f;by_cases hz:nb=0
 ·subst hz
  have AV:k=0:=by omega
  subst AV;have Af: (0:Int)< (m:Int):=by omega
  have AB:∀q,A4V r g n c i 0 0 fr d o bs cur t aE w (.returned (.tuple #[.int .i64 0,I7 aE])) (w.drewN q):=by
   intro q;refine⟨rfl,h,hf,?_,(Fr.refl _ _ w).drewN q⟩;have e:splice cur o (Lib.byteCells ((bs.drop i).take 0))=cur:=by simp[splice,Lib.byteCells]
   rw[e];exact hd
  have AA:=A0 AB;clear AB h hf AH hd hk;go_enter Tryz.func346,Tryz.ntmps346
  go_wp2_with fail
  go_quiet (fail)
  go_wp2_with fail
  go_ret2
  exact AA.out _
 ·have AW: (0:Int)< (nb:Int):=by omega
  have Ad:0<k:=by omega
  have Ac: (0:Int)< (k:Int):=by omega
  have HC:=A3k w r g n c i k d o k dc bs cur t h (by omega) (by omega) (by omega) AL AX hb AH hd (by omega) AS AU;have AI:IntKind.i64.wrap ((nb:Int)-k)=((nb-k:Nat):Int):=by rw[IntWalk.i64_in _ (by omega)];omega
  have HK:=A0 hk;have HF:=A0 hf;have HE:=A0 hE;clear h AH hd hf hk
  have AG:∀w1:World,A2q r g n c i k d o bs cur t w (.returned (.tuple #[.int .i64 k,.nilIface])) w1->
    w1.heap[fr]?=some (.cells #[.iface 84 (.pointer (some ⟨r,0,none⟩)),.int .i64 nb] 148 (0,0))/\w1.cell? ⟨0,0,none⟩=some (I7 aE)/\∀q,A4V r g n c i k nb fr d o bs cur t aE w (.returned (.tuple #[.int .i64 k,A0B nb k aE])) ((w1.setCell ⟨fr,1,none⟩ (.int .i64 (nb-k:Nat))).drewN q):=by
   rintro w1 ⟨-,h2,h3,h4⟩;have AE:w1.heap[fr]?=some (.cells #[.iface 84 (.pointer (some ⟨r,0,none⟩)),.int .i64 nb] 148 (0,0)):=h4.cells HF.out (by simp[AP,Ne.symm AO]) (.inr (by decide));refine⟨AE,h4.cell HE.out (by simp at AJ⊢;exact⟨AJ.1,AJ.2.1⟩) (block_lt_of_cell HE.out),λq=>⟨rfl,?_,?_,?_,?_⟩⟩
   ·obtain⟨p,hr⟩:=h2
    exact⟨p,(C0 (a:=⟨fr,1,none⟩) _ (Ne.symm AP)).trans hr⟩
   ·exact B6 (i:=1) _ AE
   ·exact(C0 (a:=⟨fr,1,none⟩) _ AO).trans h3
   ·exact((h4.wide (Nat.le_refl _) (λk hk _=>by simp at hk⊢;omega)).setCell (p:=⟨fr,1,none⟩) (.inl (by simp)) _).drewN q
  have AC:=A0 AG;have HC:=A0 HC;clear AG hE;by_cases hcut:m<=nb
  ·have AM:k=m:=by have:=HK.out;omega
   subst AM;have AY:¬((nb:Int)< (k:Int)):=by omega
   go_enter Tryz.func346,Tryz.ntmps346
   go_wp2_with fail
   refine HC.out.mono ?_;rintro e w1 hg;obtain rfl:=hg.1;obtain⟨AE,AR,AB⟩:=AC.out w1 hg;have AA:=A0 AB;have g1:w1.cell? ⟨fr,1,none⟩=some (.int .i64 nb):=by rw[Lib.cell_of_heap AE];rfl
   have z1:w1.frozen? ⟨fr,1,none⟩=false:=Lib.frozen_of_heap AE 1;clear hg AE AB f0 f1 HC AC;by_cases AD:nb=k
   ·have eE:A0B nb k aE=I7 aE:=if_pos AD
    rw[eE] at AA;have AQ:nb-k=0:=by omega
    rw[AQ] at AI AA;go_wp2_with fail
    go_quiet (fail)
    go_wp2_with fail
    go_ret2
    exact AA.out _
   ·have eE:A0B nb k aE= .nilIface:=if_neg AD
    rw[eE] at AA;have AQ:¬((nb-k:Nat):Int)=0:=by omega
    go_wp2_with fail
    go_ret2
    exact AA.out 0
  ·have AM:k=nb:=by have:=HK.out;omega
   subst AM;have AY: (k:Int)< (m:Int):=by omega
   have Ab: (k:Int)<=dc:=by omega
   go_enter Tryz.func346,Tryz.ntmps346
   go_wp2_with fail
   refine HC.out.mono ?_;rintro e w1 hg;obtain rfl:=hg.1;obtain⟨AE,AR,AB⟩:=AC.out w1 hg;have AA:=A0 AB;have g1:w1.cell? ⟨fr,1,none⟩=some (.int .i64 k):=by rw[Lib.cell_of_heap AE];rfl
   have z1:w1.frozen? ⟨fr,1,none⟩=false:=Lib.frozen_of_heap AE 1;clear hg AE AB f0 f1 HC AC;have eE:A0B k k aE=I7 aE:=if_pos rfl;rw[eE] at AA;rw[Nat.sub_self] at AI AA;go_wp2_with fail
   go_quiet (fail)
   go_wp2_with fail
   go_ret2
   exact AA.out _
theorem B6J (w:World) (tr r g n c i k nb fr d o m dc:Nat) (AP:Int) (AE:List Value) (bs:List UInt8) (cur:List Value) (t:TypeId) (aE:Addr) (h:RD r g n c i w) (hf:FRd fr r nb w) (ht:TR tr r AP (.iface 146 (.pointer (some ⟨fr,0,none⟩))) AE .nilIface w) (hk:k=min m nb) (AL:i+nb<=n) (AM:0<m) (hm:m<=dc) (AG:dc<4611686018427387904) (AB:n<4611686018427387904) (AO:n<=c)
  (hb:bs.length=n) (AA:At w g 0 (Lib.byteCells bs)) (hd:w.heap[d]?=some (.cells cur.toArray t (0,0))) (AC:o+m<=cur.length) (AI:d≠r) (AJ:g≠r) (AH:d≠fr) (AR:d≠tr) (hE:w.cell? ⟨0,0,none⟩=some (I7 aE)) (AD:0∉[r,d,fr]):
  Calls Tryz.prog 81 #[.pointer (some ⟨tr,0,none⟩),.slice (some ⟨d,o,none⟩) m dc] w (A4V r g n c i k nb fr d o bs cur t aE w):=by
 have HC:=A0 (B5R w r g n c i k nb fr d o m dc bs cur t aE h hf hk AL AM hm AG AB AO hb AA hd AC AI AJ AH hE AD);obtain⟨c0,c1,c2,aA,-⟩:=O4 ht.2 ht.1;have en:=λw'=>W5 w' aE;have es:=λw'=>A6w w' aE;have mr:=B0m;have nr:=A9H;have HE:=A0 hE;clear h hf ht AA hd hE c0 c1 hk;go_enter Tryz.func81,Tryz.ntmps81
 go_wp2_with fail
 refine HC.out.mono ?_;rintro e w1 hg;obtain rfl:=hg.1;have AQ:w1.cell? ⟨0,0,none⟩=some (I7 aE):=hg.2.2.2.2.cell HE.out AD (block_lt_of_cell HE.out);have HG:=A0 hg;clear hg HC c2 aA;by_cases hl:nb=k
 ·have eE:A0B nb k aE=I7 aE:=if_pos hl
  rw[eE] at HG⊢;go_wp2_with fail
  go_ret2
  exact HG.out
 ·have eE:A0B nb k aE= .nilIface:=if_neg hl
  rw[eE] at HG⊢;go_wp2_with fail
  go_ret2
  exact HG.out
def HRF (tr r:Nat) (AB:Value) (AA:List Value) (nb:Int) (w:World) (e:Ending) (w':World):Prop:=
 ∃fr,e= .returned .nilIface/\FRd fr r nb w'/\w.heap.size<=fr/\TR tr r (E7 nb) (.iface 146 (.pointer (some ⟨fr,0,none⟩))) AA AB w'/\Fr w.heap.size [tr] w w'
theorem Y2 (w:World) (tr r:Nat) (AP:Int) (AI AJ:Value) (AH:List Value) (hb:Nat) (H:Hd) (nb:Int) (ht:TR tr r AP AI AH AJ w) (hh:w.heap[hb]?=some (.cells H.cells.toArray 130 (0,0))) (AG:nb=if D1 H.typ then 0 else H.size) (h0:0<=nb) (h1:nb<=9223372036854775807):
  Calls Tryz.prog 149 #[.pointer (some ⟨tr,0,none⟩),.pointer (some ⟨hb,0,none⟩)] w (HRF tr r AJ AH nb w):=by
 have c3:w.cell? ⟨hb,3,none⟩=some (.int .i64 H.size):=by rw[Lib.cell_of_heap hh];rfl
 have ct:w.cell? ⟨hb,0,none⟩=some (.int .u8 H.typ):=by rw[Lib.cell_of_heap hh];rfl
 obtain⟨d0,d1,d2,-,z1,z2,-⟩:=O4 ht.2 ht.1;have AM:=A8 ht.1;have HO:=A3b w H.typ;have AL:=A0 (A7V w nb h0 h1);have AO:¬nb<0:=by omega
 have AC:HRF tr r AJ AH nb w (.returned .nilIface) (((w.setCell ⟨tr,1,none⟩ (.int .i64 (E7 nb))).setCell ⟨tr,2,none⟩ (.iface 146 (.pointer (some ⟨w.heap.size,0,none⟩)))).alloc (.cells #[.iface 84 (.pointer (some ⟨r,0,none⟩)),.int .i64 nb] 148)):=by
  have q1:=B6 (i:=1) (.int .i64 (E7 nb)) ht.1;rw[A1y] at q1;have q3:=B6 (i:=2) (.iface 146 (.pointer (some ⟨w.heap.size,0,none⟩))) q1;rw[A8D] at q3;have F:Fr w.heap.size [tr] w ((w.setCell ⟨tr,1,none⟩ (.int .i64 (E7 nb))).setCell ⟨tr,2,none⟩ (.iface 146 (.pointer (some ⟨w.heap.size,0,none⟩)))):=((Fr.refl _ _ w).setCell (p:=⟨tr,1,none⟩) (.inl (by simp)) _).setCell (p:=⟨tr,2,none⟩) (.inl (by simp)) _;have hs: ((w.setCell ⟨tr,1,none⟩ (.int .i64 (E7 nb))).setCell ⟨tr,2,none⟩ (.iface 146 (.pointer (some ⟨w.heap.size,0,none⟩)))).heap.size=w.heap.size:=by simp[World.setCell]
  generalize (w.setCell ⟨tr,1,none⟩ (.int .i64 (E7 nb))).setCell ⟨tr,2,none⟩ (.iface 146 (.pointer (some ⟨w.heap.size,0,none⟩)))=wz at*;have AD:=heap_alloc_new wz (.cells #[.iface 84 (.pointer (some ⟨r,0,none⟩)),.int .i64 nb] 148);rw[hs] at AD;exact⟨w.heap.size,rfl,AD,Nat.le_refl _,⟨(Below.heap_alloc wz _ tr (by rw[hs];exact AM)).trans q3,ht.2⟩,F.alloc _⟩
 have AB:=A0 AC;clear AC hh ht;cases AA:D1 H.typ
 ·rw[AA] at HO
  have AE:nb=H.size:=by rw[AG,AA];rfl
  rw[<-AE] at c3;clear AG AE AA;go_enter Tryz.func149,Tryz.ntmps149
  go_wp2_with fail
  refine HO.mono ?_;rintro e wx ⟨rfl,rfl⟩;go_wp2_with fail
  refine AL.out.mono ?_;rintro e wx ⟨rfl,rfl⟩;go_wp2_with fail
  go_ret
  exact AB.out
 ·rw[AA] at HO
  have AE:nb=0:=by rw[AG,AA];rfl
  subst AE;clear AG AA;go_enter Tryz.func149,Tryz.ntmps149
  go_wp2_with fail
  refine HO.mono ?_;rintro e wx ⟨rfl,rfl⟩;go_wp2_with fail
  refine AL.out.mono ?_;rintro e wx ⟨rfl,rfl⟩;go_wp2_with fail
  go_ret
  exact AB.out
theorem A3s (w:World) (r g n c i d o m dc:Nat) (bs:List UInt8) (cur:List Value) (t:TypeId) (aE:Addr) (h:RD r g n c i w) (AM:0<m) (AR:m<=n-i) (AL:m<=dc) (AB:n<4611686018427387904) (AI:n<=c)
  (hb:bs.length=n) (AA:At w g 0 (Lib.byteCells bs)) (hd:w.heap[d]?=some (.cells cur.toArray t (0,0))) (AC:o+m<=cur.length) (AG:d≠r) (AH:g≠r) (hE:w.cell? ⟨0,0,none⟩=some (I7 aE)) (AD:0∉[r,d]):
  Calls Tryz.prog 147 #[.iface 84 (.pointer (some ⟨r,0,none⟩)),.slice (some ⟨d,o,none⟩) m dc] w (A2q r g n c i m d o bs cur t w):=by
 have HC:=A0 (A3k w.drew r g n c i m d o m dc bs cur t h (by omega) (by omega) (by omega) AB AI hb AA hd AC AG AH);have AE: (m:Int)<=dc:=by omega
 have AO: (0:Int)<m:=by omega
 have AP: (m:Int)<4611686018427387904:=by omega
 have AQ:¬dc=0:=by omega
 have mr:=A4z;have nr:=A3f;have en:=λw'=>W5 w' aE;have HE:=A0 hE;clear h hb AA hd hE;go_enter Tryz.func147,Tryz.ntmps147
 go_wp2_with fail
 refine wp_loop_rounds 2 ?_;rw[rounds_succ];go_wp2_with fail
 go_region_held3 (λ_=>True) (trivial) (first|(go_at_call 340;refine HC.out.mono ?_;rintro e w1 ⟨rfl,h2,h3,h4⟩))
 have AJ:w1.cell? ⟨0,0,none⟩=some (I7 aE):=h4.cell HE.out AD (block_lt_of_cell HE.out);go_wp2_with fail
 rw[rounds_succ];go_wp2_with fail
 go_ret2
 exact⟨rfl,h2,h3,(Fr.refl _ _ w).drew.trans h4⟩
section
variable {ops:Array Oper} {rest:List Oper} {o:Oper} {a:Act} {w:World} {Q:Exit->Act->World->Prop}
theorem X2 (hg:o.guard=none) (s x:Operand) (t:TypeId) (ho:o.op= .call {callee:= .builtin .append,args:=#[s,x],argTypes:=#[t,t]}) (v u:Value) (hs:a.eval s=v) (hx:a.eval x=u) (v':Value) (w':World)
  (hr: (Builtin.append_ #[t,t] o.type #[v,u]).run Tryz.prog w= .ok v' w') (h:wpList Tryz.prog ops Q rest (a.put o.dst v') w'):wpList Tryz.prog ops Q (o::rest) a w:=
 wpList_plain hg λ_ hK=>by
  unfold Oper.wp execOp;simp only[ho,resolve,invoke,builtin,Sem.run_bind,Sem.run_pure,Result.andThen_ok,List.map_toArray,List.map_cons,List.map_nil,hs,hx,hr];exact hK _ _ h
end
theorem B3M (w:World) (d k:Nat) (AC:k<=512): (Instr.sliceAt 131 (.pointer (some ⟨d,0,none⟩)) none (some (.int .i64 k)) none).run Tryz.prog w= .ok (.slice (some ⟨d,0,none⟩) k 512) w:=by
 have AA:Tryz.prog.arrayLen 131=512:=by kernel_rfl
 have AB:∀w,(sizeOf (Tryz.prog.elem 131)).run Tryz.prog w= .ok 1 w:=by intro w;kernel_rfl
 rw[run_sliceAt_array_h w 131 ⟨d,0,none⟩ (by kernel_rfl) .i64 k (by omega) (by rw[AA];omega),AB,AA];simp[slicedAt];rfl
def LR (lr tr:Nat) (N:Int) (w:World):Prop:=w.heap[lr]?=some (.cells #[.iface 82 (.pointer (some ⟨tr,0,none⟩)),.int .i64 N] 321 (0,0))
def B1i (tr r g n c i k nb fr d lr:Nat) (N:Int) (bs:List UInt8) (cur:List Value) (t:TypeId) (aE:Addr) (w:World) (e:Ending) (w':World):Prop:=
 e= .returned (.tuple #[.int .i64 k,A0B nb k aE])/\RD r g n c (i+k) w'/\FRd fr r (nb-k:Nat) w'/\w'.heap[d]?=some (.cells (splice cur 0 (Lib.byteCells ((bs.drop i).take k))).toArray t (0,0))/\LR lr tr (N-k) w'/\Fr w.heap.size [r,d,fr,lr] w w'
theorem B5i (w:World) (tr r g n c i k nb fr d lr:Nat) (N AM:Int) (AG:List Value) (bs:List UInt8) (cur:List Value) (t:TypeId) (aE:Addr) (h:RD r g n c i w) (hf:FRd fr r nb w) (ht:TR tr r AM (.iface 146 (.pointer (some ⟨fr,0,none⟩))) AG .nilIface w) (hl:LR lr tr N w) (hN:512<=N) (AY:N<=2097152) (hk:k=min 512 nb) (AU:i+nb<=n) (AE:n<4611686018427387904) (AV:n<=c)
  (hb:bs.length=n) (AB:At w g 0 (Lib.byteCells bs)) (hd:w.heap[d]?=some (.cells cur.toArray t (0,0))) (AS:512<=cur.length) (AQ:d≠r) (AT:g≠r) (AP:d≠fr) (AR:d≠tr) (AH:d≠lr) (hE:w.cell? ⟨0,0,none⟩=some (I7 aE)) (AO:0∉[r,d,fr]):
  Calls Tryz.prog 360 #[.pointer (some ⟨lr,0,none⟩),.slice (some ⟨d,0,none⟩) 512 512] w (B1i tr r g n c i k nb fr d lr N bs cur t aE w):=by
 have HC:=A0 (B6J w tr r g n c i k nb fr d 0 512 512 AM AG bs cur t aE h hf ht hk AU (by omega) (by omega) (by omega) AE AV hb AB hd (by omega) AQ AT AP AR hE AO)
 have AL:lr≠r:=by
  rintro rfl;obtain⟨p,hr⟩:=h;rw[LR,hr] at hl;cases hl
 have AJ:lr≠fr:=by
  rintro rfl;rw[FRd,hl] at hf;cases hf
 have l0:w.cell? ⟨lr,0,none⟩=some (.iface 82 (.pointer (some ⟨tr,0,none⟩))):=by rw[Lib.cell_of_heap hl];rfl
 have l1:w.cell? ⟨lr,1,none⟩=some (.int .i64 N):=by rw[Lib.cell_of_heap hl];rfl
 have AI:k<=512:=by omega
 have AX:¬N<=0:=by omega
 have AZ:¬N<512:=by omega
 have AW:IntKind.i64.wrap (N- (k:Int))=N-k:=by rw[IntWalk.i64_in _ (by omega)]
 have mr:=B2j;have nr:=B0u;have HL:=A0 hl;clear h hf ht hl AB hd hE hk;go_enter Tryz.func360,Tryz.ntmps360
 go_wp2_with fail
 refine HC.out.mono ?_;rintro e w1 ⟨rfl,g1,g2,g3,g4⟩;have AC:w1.heap[lr]?=some (.cells #[.iface 82 (.pointer (some ⟨tr,0,none⟩)),.int .i64 N] 321 (0,0)):=g4.cells HL.out (by simp[AL,AJ,Ne.symm AH]) (.inr (by decide))
 have AA:B1i tr r g n c i k nb fr d lr N bs cur t aE w (.returned (.tuple #[.int .i64 k,A0B nb k aE])) (w1.setCell ⟨lr,1,none⟩ (.int .i64 (N-k))):=by
  refine⟨rfl,?_,(C0 (a:=⟨lr,1,none⟩) _ (Ne.symm AJ)).trans g2,(C0 (a:=⟨lr,1,none⟩) _ AH).trans g3,B6 (i:=1) _ AC,?_⟩
  ·obtain⟨p,hr⟩:=g1
   exact⟨p,(C0 (a:=⟨lr,1,none⟩) _ (Ne.symm AL)).trans hr⟩
  ·exact(g4.wide (S':=[r,d,fr,lr]) (Nat.le_refl _) (λk hk _=>by simp at hk⊢;omega)).setCell (p:=⟨lr,1,none⟩) (.inl (by simp)) _
 have q0:w1.cell? ⟨lr,1,none⟩=some (.int .i64 N):=by rw[Lib.cell_of_heap AC];rfl
 have z1:w1.frozen? ⟨lr,1,none⟩=false:=Lib.frozen_of_heap AC 1;have AD:=A0 AA;clear AA g1 g2 g3 g4 AC l0 l1 HC;generalize A0B nb k aE=ev at*;go_wp2_with fail
 go_ret2
 exact AD.out
theorem info5: (Tryz.prog.info? 5).map (λi=>(i.zero,i.size,i.bytes))=some (some (.int .u8 0),1,1):=by kernel_rfl
structure RAS (tr r g n c i0 nb0 fr d lr:Nat) (bs:List UInt8) (w0:World) (all:Value) (p:Nat) (w:World):Prop where
 R:RD r g n c (i0+p) w
 F:FRd fr r (nb0-p:Nat) w
 L:LR lr tr (1048577-p) w
 D:∃cur:List Value,w.heap[d]?=some (.cells cur.toArray 131 (0,0))/\cur.length=512
 A:w.ownsRow (d+1) 5 1 all p (Lib.byteCells ((bs.drop i0).take p))
 K:Fr w0.heap.size [r,d,fr,lr] w0 w
def B5D (r g n c i0 AA fr lr:Nat) (bs:List UInt8) (w:World) (e:Ending) (w':World):Prop:=
 ∃v,e= .returned (.tuple #[v,.nilIface])/\RD r g n c (i0+AA) w'/\FRd fr r 0 w'/\w'.ownsRow w.heap.size 5 1 v AA (Lib.byteCells ((bs.drop i0).take AA))/\Fr w.heap.size [r,fr,lr] w w'
theorem A1v {w:World} {B B':Nat} {e:TypeId} {v:Value} {n:Nat} {xs:List Value} (h:w.ownsRow B e 1 v n xs) (hB:B'<=B):w.ownsRow B' e 1 v n xs:=by
 refine⟨h.1,?_⟩;rcases h.2 with h|⟨g,cap,cur,h1,h2,h3⟩
 ·exact .inl h
 ·exact .inr ⟨g,cap,cur,h1,Nat.le_trans hB h2,h3⟩
theorem A9M {w w':World} {B:Nat} {v:Value} {n:Nat} {xs:List Value} (h:w.ownsRow B 5 1 v n xs) {B':Nat} {S:List Nat} (f:Fr B' S w w') (hS:∀k∈S,k<B) (hB:w.heap.size<=B'):w'.ownsRow B 5 1 v n xs:=by
 refine⟨h.1,?_⟩;rcases h.2 with h|⟨g,cap,cur,h1,h2,h3,h4⟩
 ·exact .inl h
 ·exact .inr ⟨g,cap,cur,h1,h2,f.cells h3 (λhm=>by have:=hS g hm;omega) (.inl (Nat.lt_of_lt_of_le (A8 h3) hB)),h4⟩
theorem B2x {w w':World} {B B':Nat} {v:Value} {n:Nat} {xs:List Value} (h:w.ownsRow B 5 1 v n xs) (hg:w.grownBy w' v.ownBlock) (hB:B'<=B) (S:List Nat):Fr B' S w w':=
 ⟨hg.os,hg.tape,hg.output,hg.size,λk o hk hS hb=>by
  by_cases e:v.ownBlock=some k
  ·exfalso
   rcases h.2 with ⟨rfl,-⟩|⟨g,cap,cur,rfl,h2,h3,h4⟩
   ·cases e
   ·obtain rfl:g=k:=by simpa[Value.ownBlock] using e
    rw[h3] at hk;cases hk
    exact hb (by omega) _ _ rfl
  ·rw[hg.block k (A8 hk) (λe2=>e e2.symm)];exact hk⟩
def B7I:Value->Nat
 | .slice _ n _=>n
 |_=>0
theorem A4D {w:World} {B:Nat} {e:TypeId} {v:Value} {n:Nat} {xs:List Value} (h:w.ownsRow B e 1 v n xs):B7I v=n:=by
 rcases h.2 with ⟨rfl,h2⟩|⟨g,cap,cur,rfl,-⟩
 ·exact h2.symm
 ·rfl
theorem A5n (l:List UInt8) (i p k:Nat): (l.drop i).take p++((l.drop (i+p)).take k)=(l.drop i).take (p+k):=by
 rw[<-List.drop_drop,<-List.take_add]
theorem B4N (w:World) (tr r g n c i0 AA fr lr:Nat) (Ae:Int) (AR:List Value) (bs:List UInt8) (aE:Addr) (h:RD r g n c i0 w) (hf:FRd fr r AA w) (ht:TR tr r Ae (.iface 146 (.pointer (some ⟨fr,0,none⟩))) AR .nilIface w) (hl:LR lr tr 1048577 w) (BQ:AA<=1048576) (BO:i0+AA<=n) (AU:n<4611686018427387904) (BD:n<=c)
  (hb:bs.length=n) (AL:At w g 0 (Lib.byteCells bs)) (BM:g<w.heap.size) (Ao:g∉[r,fr,lr]) (BI:tr∉[r,fr,lr]) (hE:w.cell? ⟨0,0,none⟩=some (I7 aE)) (AS:0∉[r,fr,lr]):
  Calls Tryz.prog 210 #[.iface 319 (.pointer (some ⟨lr,0,none⟩))] w (B5D r g n c i0 AA fr lr bs w):=by
 have AY:lr<w.heap.size:=A8 hl;have AX:fr<w.heap.size:=A8 hf;have BH:r<w.heap.size:=by obtain⟨p,hr⟩:=h;exact A8 hr
 have BJ:tr<w.heap.size:=A8 ht.1;have Ag:=block_lt_of_cell hE;have mr:=B0n;have nr:=A9I;have en:=λw'=>W5 w' aE;have es:=λw'=>A2y w' aE;obtain⟨i5,Ap,Aq,Ar,As⟩:=info_parts info5
 have Ai:∀wz:World,wz=w.alloc (.cells Tryz.zeroCells131 131)->RAS tr r g n c i0 AA fr w.heap.size lr bs w (.slice none 0 0) 0 wz:=by
  rintro wz rfl;have AO:Below w.heap.size w (w.alloc (.cells Tryz.zeroCells131 131)):=(Below.refl _ w).alloc (Nat.le_refl _) _;refine⟨h.below AO,(AO.block fr AX).trans hf,(AO.block lr AY).trans hl,⟨Tryz.zeroCells131.toList,by rw[Array.toArray_toList];exact heap_alloc_new w _,by kernel_rfl⟩,?_,Fr.of_below AO _ _⟩;exact World.ownsRow_nil _ _ _ _
 obtain⟨d,AV⟩:∃d,d=w.heap.size:=⟨_,rfl⟩;have AM:=A0 Ai;have HT:=A0 ht;have AQ:=A0 AL;have HE:=A0 hE
 have Af:=A0 (fun(wx:World) (v:Value) (p k:Nat) (xs:List Value) (ys:List UInt8) (Ab:wx.ownsRow (d+1) 5 1 v p xs) (BL:ys.length=k) (Av:At wx d 0 (Lib.byteCells ys)) (BT:p+k<=140737488355328) (Ax:d+1<=wx.heap.size)=>
  run_append_own (P:=Tryz.prog) (w:=wx) (d+1) 35 35 5 i5 (.int .u8 0) 1 1 Tryz.underlying35 Ap Aq Ar As rfl (by decide) v p xs Ab ⟨d,0,none⟩ k 512 (Lib.byteCells ys) (by rw[Lib.byteCells_length,BL,Nat.mul_one]) Av.src (Lib.byteCells_one _) (by unfold maxLen;omega) (by omega) Ax)
 have AP:=A0 AV;clear Ai h hf ht hl AL hE Ap Aq Ar As;go_enter Tryz.func210,Tryz.ntmps210
 go_wp2_with fail
 have Ac:=A0 (AM.out _ rfl);rw[<-AV] at Ac⊢;clear AM AV;generalize w.alloc (.cells Tryz.zeroCells131 131)=wz at*;go_loopw [4] (λs4 wr=>∃ (p:Nat) (v:Value),v=s4/\p<=AA/\(p=0\/p<AA)/\p% 512=0/\Hid (RAS tr r g n c i0 AA fr d lr bs w v p wr)) (λv _=>AA-B7I v)
 case atStart=>exact⟨0,_,rfl,by omega,.inl rfl,by omega,Ac⟩
 case round=>
  obtain⟨p,v,rfl,hp,BF,BC,hS⟩:=hrel;obtain⟨cur,AG,Ak⟩:=hS.out.D;obtain⟨k,hk⟩:∃k,k=min 512 (AA-p):=⟨_,rfl⟩;have AW:w.heap.size=d:=AP.out.symm;have hN: (512:Int)<=1048577-p:=by omega
  have Aj:TR tr r Ae (.iface 146 (.pointer (some ⟨fr,0,none⟩))) AR .nilIface wr.drew:=HT.out.fr (S:=[r,d,fr,lr]) hS.out.K.drew (by simp at BI⊢;omega);have Ah:At wr.drew g 0 (Lib.byteCells bs):=AQ.out.frame (w':=wr.drew) (S:=[r,d,fr,lr]) hS.out.K.drew (Nat.le_refl _) (by simp at Ao⊢;omega);have AT:wr.drew.cell? ⟨0,0,none⟩=some (I7 aE):=hS.out.K.drew.cell HE.out (by simp at AS⊢;omega) Ag;have HC:=A0 (B5i wr.drew tr r g n c (i0+p) k (AA-p) fr d lr (1048577-p) Ae AR bs cur 131 aE hS.out.R hS.out.F Aj hS.out.L hN (by omega) hk (by omega) AU BD hb Ah AG (by omega) (by omega) (by simp at Ao;omega) (by omega) (by omega) (by omega) AT (by simp at AS⊢;omega));have BP: (k:Int)<=512:=by omega
  have BS:=λwx=>B3M wx d k (by omega);clear AW;have HK:=A0 hk;have Aw:d<wr.heap.size:=A8 AG;have HS:=A0 hS.out;have AM:=HS;clear Ac AG hk hS Aj Ah AT hN;go_wp2_with fail
  go_region_held3 (λ_=>True) (trivial) (first|(go_at_call 360;refine HC.out.mono ?_;rintro e w1 ⟨rfl,g1,g2,g3,g4,g5⟩))
  have g6:Fr wr.heap.size [r,d,fr,lr] wr w1:=(Fr.refl _ _ wr).drew.trans g5;have Ad:wr.heap.size<=w1.heap.size:=g6.size;have Az:k<=AA-p:=by have:=HK.out;omega
  have Al:=AP.out;have AI: ((bs.drop (i0+p)).take k).length=k:=by rw[List.length_take,List.length_drop,hb];omega
  have AB:w1.ownsRow (d+1) 5 1 v p (Lib.byteCells ((bs.drop i0).take p)):=A9M HS.out.A g6 (by simp;omega) (Nat.le_refl _)
  have AJ:At w1 d 0 (Lib.byteCells ((bs.drop (i0+p)).take k)):=At.of_heap g3 (λj u hj=>by
   have Ay:=(List.getElem?_eq_some_iff.1 hj).1;rw[Nat.zero_add,List.getElem?_toArray,splice,List.take_zero,List.nil_append,List.getElem?_append_left Ay];exact hj)
  obtain⟨v2,w2,hr,Aa,AH,-⟩:=Af.out w1 v p k _ ((bs.drop (i0+p)).take k) AB AI AJ (by omega) (by omega);have An:Fr w.heap.size [r,d,fr,lr] w1 w2:=B2x AB AH (by omega) _;have AC:Fr (d+1) [] w1 w2:=B2x AB AH (Nat.le_refl _) _;have Am:Fr w.heap.size [r,d,fr,lr] wr w1:=⟨g6.os,g6.tape,g6.output,g6.size,λq o hq hS hB=>g6.block q o hq hS (λAu=>hB (Nat.le_trans HS.out.K.size Au))⟩
  have AD:RAS tr r g n c i0 AA fr d lr bs w v2 (p+k) w2:=by
   refine⟨?_,?_,?_,?_,?_,(HS.out.K.trans Am).trans An⟩
   ·rw[show i0+(p+k)=i0+p+k by omega];exact g1.fr AC (by simp)
   ·rw[show AA- (p+k)=AA-p-k by omega];exact AC.cells g2 (by simp) (.inr (by decide))
   ·rw[show(1048577:Int)- ((p+k:Nat):Int)=1048577-p-k by omega];exact AC.cells g4 (by simp) (.inr (by decide))
   ·refine⟨_,AC.cells g3 (by simp) (.inl (by omega)),?_⟩
    have e: (Lib.byteCells ((bs.drop (i0+p)).take k)).length=k:=by rw[Lib.byteCells_length,AI]
    simp only[splice,List.take_zero,List.nil_append,List.length_append,List.length_drop,e,Ak];omega
   ·rw[<-Lib.byteCells_append,A5n] at Aa;exact Aa
  have AT:w2.cell? ⟨0,0,none⟩=some (I7 aE):=AD.K.cell HE.out (by simp at AS⊢;omega) Ag;have HN:=A0 AD;clear g1 g2 g3 g4 g5 g6 AB AJ Aa AH An AC Am AD HC HS AI Al Aw Af Az Ad Ak BF;by_cases hl:AA-p=k
  ·have eE:A0B (AA-p) k aE=I7 aE:=if_pos hl
   rw[eE];clear eE;go_wp2_with (first|(at_builtin;refine X2 rfl (.tmp 17) (.tmp 19) 35 rfl _ _ rfl rfl v2 w2 hr ?_)|fail)
   go_ret2
   have BE:p+k=AA:=by omega
   have Al:=AP.out;have hn:=HN.out;rw[BE] at hn;refine⟨v2,rfl,hn.R,?_,A1v hn.A (by omega),hn.K.wide (Nat.le_refl _) (λq hq BR=>by simp at hq⊢;omega)⟩;have:=hn.F;rwa [Nat.sub_self] at this
  ·have eE:A0B (AA-p) k aE= .nilIface:=if_neg hl
   have AE:=A0 (show k=512 by have:=HK.out;omega);rw[eE];clear eE;go_wp2_with (first|(at_builtin;refine X2 rfl (.tmp 17) (.tmp 19) 35 rfl _ _ rfl rfl v2 w2 hr ?_)|fail)
   go_roundw
   case rel=>exact⟨p+k,v2,rfl,(by have:=HK.out;omega),.inr (by have:=HK.out;omega),(by have:=AE.out;omega),HN⟩
   case measure=>
    have BA:=A4D HN.out.A;have AZ:=A4D AM.out.A;have:=AE.out;have:=HK.out;rw[BA,AZ];omega
end Go.Proofs.YtkanmkcojlefbaaGreatDoor
namespace Go.Proofs.YtkanmkcojlefbaaGreatDoor
open Go.RowKit Go.Lib
theorem A3e {w:World} {v:Value} {R:KV} {B:Nat} (h:J4 w v R B) (k:List UInt8) (hk:R k=none) (hl:k.length<=100): (Instr.lookup 127 v (str k) false).run Tryz.prog w= .ok (str []) w:=by
 rcases h with ⟨rfl,h⟩|⟨rb,n,rfl,-,h,-⟩
 ·exact B0v w 127 A0p k (by omega)
 ·have:=h.look1 A0p k (by omega)
  rw[hk] at this;exact this
def A2d:List UInt8:=[71,78,85,46,115,112,97,114,115,101,46,109,97,106,111,114]
def A2e:List UInt8:=[71,78,85,46,115,112,97,114,115,101,46,109,105,110,111,114]
def A9D:List UInt8:=[71,78,85,46,115,112,97,114,115,101,46,109,97,112]
def B7F:List UInt8:=[71,78,85,46,115,112,97,114,115,101,46,111,102,102,115,101,116]
def B7E:List UInt8:=[71,78,85,46,115,112,97,114,115,101,46,110,117,109,98,121,116,101,115]
theorem B5U (w:World) (tr hb B:Nat) (H:Hd) (R:KV) (hh:w.heap[hb]?=some (.cells H.cells.toArray 130 (0,0))) (hr:J4 w H.recs R B) (h1:R A2d=none) (h2:R A2e=none) (h3:R A9D=none):
  Calls Tryz.prog 214 #[.pointer (some ⟨tr,0,none⟩),.pointer (some ⟨hb,0,none⟩)] w λe w'=>e= .returned (.tuple #[.slice none 0 0,.nilIface])/\A1h w w':=by
 have l1:∀q,(Instr.lookup 127 H.recs (.string ⟨#[71,78,85,46,115,112,97,114,115,101,46,109,97,106,111,114]⟩) false).run Tryz.prog (w.drewN q)= .ok (str []) (w.drewN q):=λq=>A3e (w:=w.drewN q) (B:=B) hr A2d h1 (by decide);have l2:∀q,(Instr.lookup 127 H.recs (.string ⟨#[71,78,85,46,115,112,97,114,115,101,46,109,105,110,111,114]⟩) false).run Tryz.prog (w.drewN q)= .ok (str []) (w.drewN q):=λq=>A3e (w:=w.drewN q) (B:=B) hr A2e h2 (by decide);have l3:∀q,(Instr.lookup 127 H.recs (.string ⟨#[71,78,85,46,115,112,97,114,115,101,46,109,97,112]⟩) false).run Tryz.prog (w.drewN q)= .ok (str []) (w.drewN q):=λq=>A3e (w:=w.drewN q) (B:=B) hr A9D h3 (by decide);have aB:w.cell? ⟨hb,18,none⟩=some H.recs:=by rw[Lib.cell_of_heap hh];rfl
 have AA: (Instr.lookup 127 H.recs (.string ⟨#[71,78,85,46,115,112,97,114,115,101,46,109,97,106,111,114]⟩) false).run Tryz.prog w.drew= .ok (str []) w.drew:=l1 1;have AB: (Instr.lookup 127 H.recs (.string ⟨#[71,78,85,46,115,112,97,114,115,101,46,109,105,110,111,114]⟩) false).run Tryz.prog w.drew= .ok (str []) w.drew:=l2 1;have AC: (Instr.lookup 127 H.recs (.string ⟨#[71,78,85,46,115,112,97,114,115,101,46,109,97,112]⟩) false).run Tryz.prog w.drew= .ok (str []) w.drew:=l3 1;clear hr h1 h2 h3 hh l1 l2 l3;generalize H.recs=rv at*;go_enter Tryz.func214,Tryz.ntmps214
 go_wp2_with fail
 go_region
 all_goals (go_wp2_with fail;go_ret2;exact⟨rfl,(A1h.refl w).next 1⟩)
theorem U2 (w:World) (tr hb B:Nat) (H:Hd) (R:KV) (AA:Value) (hh:w.heap[hb]?=some (.cells H.cells.toArray 130 (0,0))) (hr:J4 w H.recs R B) (ht:H.typ≠83) (h1:R A2d=none) (h2:R A2e=none) (h3:R A9D=none):
  Calls Tryz.prog 154 #[.pointer (some ⟨tr,0,none⟩),.pointer (some ⟨hb,0,none⟩),AA] w λe w'=>e= .returned .nilIface/\A1h w w':=by
 have h:=B5U w tr hb B H R hh hr h1 h2 h3;have c0:w.cell? ⟨hb,0,none⟩=some (.int .u8 H.typ):=by rw[Lib.cell_of_heap hh];rfl
 have q: (H.typ==83)=false:=by rw[beq_eq_false_iff_ne];exact ht
 clear hh hr h1 h2 h3 ht;go_enter Tryz.func154,Tryz.ntmps154
 go_wp2_with fail
 refine h.mono ?_;rintro e w1 ⟨rfl,hd⟩;go_wp2_with fail
 go_ret
 exact⟨rfl,hd⟩
theorem A7m (w:World) (tr:Nat) (N:Int):Calls Tryz.prog 211 #[.iface 82 (.pointer (some ⟨tr,0,none⟩)),.int .i64 N] w λe w'=>e= .returned (.iface 319 (.pointer (some ⟨w.heap.size,0,none⟩)))/\LR w.heap.size tr N w'/\Below w.heap.size w w':=by
 go_enter Tryz.func211,Tryz.ntmps211
 go_wp2_with fail
 go_ret
 exact⟨rfl,heap_alloc_new w _,(Below.refl _ _).alloc (Nat.le_refl _) _⟩
def A9u (r g n c i0 AA fr:Nat) (bs:List UInt8) (w:World) (e:Ending) (w':World):Prop:=
 ∃v,e= .returned (.tuple #[v,.nilIface])/\RD r g n c (i0+AA) w'/\FRd fr r 0 w'/\w'.ownsRow w.heap.size 5 1 v AA (Lib.byteCells ((bs.drop i0).take AA))/\Fr w.heap.size [r,fr] w w'
theorem A1z (w:World) (tr r g n c i0 AB fr:Nat) (AQ:Int) (AM:List Value) (bs:List UInt8) (aE:Addr) (h:RD r g n c i0 w) (hf:FRd fr r AB w) (ht:TR tr r AQ (.iface 146 (.pointer (some ⟨fr,0,none⟩))) AM .nilIface w) (AV:AB<=1048576) (AU:i0+AB<=n) (AG:n<4611686018427387904) (AX:n<=c)
  (hb:bs.length=n) (AD:At w g 0 (Lib.byteCells bs)) (AO:g<w.heap.size) (AT:g∉[r,fr]) (AZ:tr∉[r,fr]) (hE:w.cell? ⟨0,0,none⟩=some (I7 aE)) (AS:0∉[r,fr]):
  Calls Tryz.prog 152 #[.iface 82 (.pointer (some ⟨tr,0,none⟩))] w (A9u r g n c i0 AB fr bs w):=by
 have AY:r<w.heap.size:=by obtain⟨p,hr⟩:=h;exact A8 hr
 have AH:fr<w.heap.size:=A8 hf;have Aa:tr<w.heap.size:=A8 ht.1;have AR:=block_lt_of_cell hE;have H:=A0 h;have HF:=A0 hf;have HT:=A0 ht;have HS:=A0 AD;have HE:=A0 hE;clear h hf ht AD hE;go_enter Tryz.func152,Tryz.ntmps152
 go_wp2_with fail
 refine(A7m w tr 1048577).mono ?_;rintro e w1 ⟨rfl,AP,AA⟩;have AL:=A0 (B4N w1 tr r g n c i0 AB fr w.heap.size AQ AM bs aE (H.out.below AA) ((AA.block fr AH).trans HF.out) (HT.out.below AA) AP AV AU AG AX hb (HS.out.carry (AA.block g AO)) (Nat.lt_of_lt_of_le AO AA.size) (by simp at AT⊢;omega) (by simp at AZ⊢;omega) ((AA.cell AR).trans HE.out) (by simp at AS⊢;omega));have AJ:=A0 AA;clear AP AA;go_wp2_with fail
 refine AL.out.mono ?_;rintro e w2 ⟨v,rfl,g1,g2,g3,g4⟩;have AI:=AJ.out.size;have hF:Fr w.heap.size [r,fr] w w2:=((Fr.of_below AJ.out w.heap.size [r,fr,w.heap.size]).trans (g4.wide AI (λk hk _=>hk))).wide (Nat.le_refl _) (λk hk Ab=>by simp at hk⊢;omega)
 obtain⟨a,cp,hv⟩:∃a cp,v= .slice a AB cp:=by
  rcases g3.2 with ⟨h1,h2⟩|⟨gg,cap,cur,h1,-⟩
  ·exact⟨none,0,by rw[h1,h2]⟩
  ·exact⟨_,cap,h1⟩
 have AC:A9u r g n c i0 AB fr bs w (.returned (.tuple #[v,.nilIface])) w2:=⟨v,rfl,g1,g2,A1v g3 AI,hF⟩;rw[hv] at AC⊢;have AE:=A0 AC;have AW:¬(1048576:Int)< (AB:Int):=by omega
 clear AC g1 g2 g3 g4 hF hv AI AL;go_wp2_with fail
 go_ret2
 exact AE.out
def A4j (L:List (List UInt8×List UInt8)):Prop:=∀p∈L,F0 p.1 p.2=true/\p.1≠B7F/\p.1≠B7E
theorem A3m:∀L:List (List UInt8×List UInt8),A4j L->L.length<=(D7 L).length
 | [],_=>Nat.zero_le _
 |p::L,h=>by
  have h1:=A3m L (λq hq=>h q (List.mem_cons_of_mem _ hq));have h2:=A0y p.1 p.2 (List.length_pos_iff.2 (M7 (h p List.mem_cons_self).1).1);rw[T7,List.length_append,P7,List.length_cons];omega
def B4E:Value->Nat
 | .string s=>s.size
 |_=>0
def PPS (L:List (List UInt8×List UInt8)) (mb j:Nat) (w0 w:World):Prop:=M9 w mb j (E0 (λ_=>none) (L.take j))/\Below mb w0 w
def B5I (r g n c i0 AA fr:Nat) (L:List (List UInt8×List UInt8)) (w:World) (e:Ending) (w':World):Prop:=
 ∃mb,e= .returned (.tuple #[.map (some mb),.nilIface])/\w.heap.size<=mb/\M9 w' mb L.length (E0 (λ_=>none) L)/\RD r g n c (i0+AA) w'/\FRd fr r 0 w'/\Fr w.heap.size [r,fr] w w'
theorem B2z (w:World) (tr r g n c i0 AA fr:Nat) (Ap:Int) (Ae:List Value) (bs:List UInt8) (aE:Addr) (L:List (List UInt8×List UInt8)) (h:RD r g n c i0 w) (hf:FRd fr r AA w) (ht:TR tr r Ap (.iface 146 (.pointer (some ⟨fr,0,none⟩))) Ae .nilIface w) (BC:AA<=1048576) (Az:i0+AA<=n) (AW:n<4611686018427387904) (BD:n<=c)
  (hb:bs.length=n) (AR:At w g 0 (Lib.byteCells bs)) (Ax:g<w.heap.size) (Ay:g∉[r,fr]) (BH:tr∉[r,fr]) (hE:w.cell? ⟨0,0,none⟩=some (I7 aE)) (Av:0∉[r,fr]) (hL: (bs.drop i0).take AA=D7 L) (BL:0<AA) (Am:A4j L):
  Calls Tryz.prog 150 #[.iface 82 (.pointer (some ⟨tr,0,none⟩))] w (B5I r g n c i0 AA fr L w):=by
 have HC:=A0 (A1z w tr r g n c i0 AA fr Ap Ae bs aE h hf ht BC Az AW BD hb AR Ax Ay BH hE Av);have BF:r<w.heap.size:=by obtain⟨p,hr⟩:=h;exact A8 hr
 have Aw:fr<w.heap.size:=A8 hf;have AM: (D7 L).length=AA:=by rw[<-hL,List.length_take,List.length_drop,hb];omega
 have BA:=@run_makeMap Tryz.prog;have Aq:=A0 hL;have Ad:=A0 Am;have AG:=A0 AM;clear h hf ht AR hE hL Am AM;go_enter Tryz.func150,Tryz.ntmps150
 go_wp2_with fail
 refine HC.out.mono ?_;rintro e w1 ⟨v,rfl,g1,g2,g3,g4⟩
 obtain⟨gg,cp,hv,BJ,AL⟩:∃gg cp,v= .slice (some ⟨gg,0,none⟩) AA cp/\gg<w1.heap.size/\At w1 gg 0 (Lib.byteCells (D7 L)):=by
  rcases g3.2 with ⟨h1,h2⟩|⟨gg,cap,cur,h1,h2,h3,h4,h5,h6,h7⟩
  ·omega
  ·refine⟨gg,cap,h1,A8 h3,At.of_heap h3 (λj u hj=> ?_)⟩
   rw[Aq.out] at h7;rw[<-h7,List.getElem?_take] at hj;split at hj
   ·rw[Nat.zero_add];simpa using hj
   ·cases hj
 have Ag:=O1 w1 gg 0 cp (D7 L) AL;rw[AG.out] at Ag;have AD:=M9.made w1;have Af:Below w1.heap.size w1 (w1.alloc (.map #[] 0)):=(Below.refl _ w1).alloc (Nat.le_refl _) _;have AB:Hid (PPS L w1.heap.size 0 w1 (w1.alloc (.map #[] 0))):=A0 ⟨AD,Af⟩;have HG:=A0 (And.intro g1 (And.intro g2 g4));have Aa:w.heap.size<=w1.heap.size:=g4.size;rw[hv];clear g1 g2 g3 g4 hv AD Af AL HC;go_wp2_with fail
 clear Ag BA;obtain⟨mb,AO⟩:∃mb,mb=w1.heap.size:=⟨_,rfl⟩;rw[<-AO] at AB⊢;have Ar:=A0 AO;clear AO;generalize w1.alloc (.map #[] 0)=wz at*;go_loopw [6,7] (λs6 s7 wr=>∃j:Nat,j<=L.length/\s6=str (D7 (L.drop j))/\s7= .slice none 0 0/\Hid (PPS L mb j w1 wr)) (λs6 _ _=>B4E s6)
 case atStart=>exact⟨0,by omega,rfl,rfl,AB⟩
 case round=>
  obtain⟨j,hj,rfl,rfl,hS⟩:=hrel;by_cases AY:j<L.length
  ·have hd:D7 (L.drop j)=X6 L[j].1 L[j].2++D7 (L.drop (j+1)):=by rw[List.drop_eq_getElem_cons AY,T7]
   have AQ:E0 (λ_=>none) (L.take (j+1))=O2 (E0 (λ_=>none) (L.take j)) L[j].1 L[j].2:=by
    rw[List.take_succ_eq_append_getElem AY,A5H];rfl
   obtain⟨AH,Ai,Aj⟩:=Ad.out _ (List.getElem_mem AY)
   have AX: (D7 (L.drop j)).length<=AA:=by
    have h1:D7 L=D7 (L.take j)++D7 (L.drop j):=by rw[<-A6Q,List.take_append_drop]
    have h2:=AG.out;rw[h1,List.length_append] at h2;omega
   rw[hd] at AX⊢;generalize hk:L[j].1=k at*;generalize BI:L[j].2=v2 at*;generalize AE:D7 (L.drop (j+1))=rest at*;have An:=λwx=>B3A wx k v2 rest AH (by omega);have Ao:5<=(X6 k v2).length:=by rw[P7];exact A0y k v2 (List.length_pos_iff.2 (M7 AH).1)
   have Ak:k.length+v2.length<=(X6 k v2).length:=by rw[P7];have:=A2J k v2;omega
   have AC: (X6 k v2++rest).length=(X6 k v2).length+rest.length:=List.length_append;generalize X6 k v2++rest=s at*;have BE: (0:Int)< (s.length:Int):=by omega
   have As:=A0 An;have AU:=A0 AQ;have AS:=A0 hS.out;have AJ:=A0 AE;have Ac:=A0 AX;have Ab:=A0 Ak;have AT:=A0 AC;have Au:=A0 Ao;have q1: (k==[71,78,85,46,115,112,97,114,115,101,46,111,102,102,115,101,116])=false:=by rw[beq_eq_false_iff_ne];exact Ai
   have q2: (k==[71,78,85,46,115,112,97,114,115,101,46,110,117,109,98,121,116,101,115])=false:=by rw[beq_eq_false_iff_ne];exact Aj
   clear hd AQ AH AX hk BI AE An Ao Ak AC hS AB Ai Aj;go_wp2_with fail
   refine(As.out _).mono ?_;rintro e w2 ⟨rfl,AV⟩;obtain⟨hm,AI⟩:=AS.out;have AZ:=hm.below AV;obtain⟨w9,BM,Al,Ah⟩:=AZ.update A0p (by have:=AG.out;have:=A3m L Ad.out;omega) k v2 (by have:=Ac.out;have:=Ab.out;have:=AT.out;omega) (by have:=Ac.out;have:=Ab.out;have:=AT.out;omega);have AP:PPS L mb (j+1) w1 w9:=⟨by rw[AU.out];exact Al,(AI.trans (AV.mono (Nat.le_of_lt hm.lt))).trans (Ah.below_of (Nat.le_of_lt AZ.lt) (by simp))⟩;have HN:=A0 AP;clear hm AI AZ AV Al Ah AP AS;go_wp2_with fail
   go_roundw
   case rel=>exact⟨j+1,by omega,by rw[AJ.out],rfl,HN⟩
   case measure=>
    show B4E (str rest)<B4E (str s)
    have:=AT.out;have:=Au.out;simp only[B4E,I6];omega
  ·obtain rfl:j=L.length:=by omega
   have hd:D7 (L.drop L.length)=[]:=by rw[List.drop_length];rfl
   rw[hd];have AS:=A0 hS.out;clear hS AB hd;go_wp2_with fail
   go_ret2
   obtain⟨hm,AI⟩:=AS.out;rw[List.take_length] at hm;obtain⟨g1,g2,g4⟩:=HG.out;have AO:=Ar.out;subst AO;exact⟨w1.heap.size,rfl,Aa,hm,g1.below AI,(AI.block fr (A8 g2)).trans g2,g4.trans (Fr.of_below AI _ _)⟩
end Go.Proofs.YtkanmkcojlefbaaGreatDoor
