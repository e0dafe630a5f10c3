/-
  Part of the proof; holds the texts Close, WriteNil, DecodeNil, FilesEnd, ReadNil, Fst, FmtN, StepN.
-/
import Derived.Test.YtkanmkcojlefbaaGreatDoorM22
set_option maxHeartbeats 4000000
set_option maxRecDepth 100000
set_option linter.unusedSimpArgs false
set_option linter.unusedVariables false
namespace Go.Proofs.YtkanmkcojlefbaaGreatDoor
open Go.RowKit
theorem A6m (w:World):Calls Tryz.prog 33 #[.nilIface] w λe w'=>e= .returned (.int .i64 0)/\w=w':=by
 go_enter Tryz.func33,Tryz.ntmps33
 go_wp2
 go_ret
 exact⟨rfl,rfl⟩
def B7w (w:World) (b:Nat) (e:Ending) (w':World):Prop:=
 e= .returned (.pointer (some ⟨w.heap.size+1,0,none⟩))/\FW w.heap.size b 0 w'/\TW (w.heap.size+1) b w.heap.size 0 A5p A0d .nilIface w'/\Fr w.heap.size [] w w'/\∀B b bs,W3 B b bs w->W3 B b bs w'
theorem A6G (w:World) (b:Nat):Calls Tryz.prog 29 #[.iface 75 (.pointer (some ⟨b,0,none⟩))] w (B7w w b):=by
 go_enter Tryz.func29,Tryz.ntmps29
 go_wp2
 go_ret
 rw[A9K];refine⟨rfl, ?_,⟨?_,A7k,A3y⟩,((Fr.refl _ _ w).alloc _).alloc _,λ_ _ _ h=>(h.alloc _).alloc _⟩
 ·exact heap_alloc2_old w _ _
 ·exact heap_alloc2_new w _ _
def B5F (w:World) (n:Nat) (bs:List UInt8) (e:Ending) (w':World):Prop:=
 ∃g c,e= .returned (.slice (some ⟨g,0,none⟩) n c)/\w.heap.size<=g/\n<=c/\At w' g 0 (Lib.byteCells bs)/\(∃cur,w'.heap[g]?=some (.cells cur 5))/\Below w.heap.size w w'
theorem B4u (w:World) (g o n c:Nat) (bs:List UInt8) (AD:At w g o (Lib.byteCells bs)) (hn:bs.length=n) (AC:n<=140737488355328):
  Calls Tryz.prog 36 #[.slice (some ⟨g,o,none⟩) n c] w (B5F w n bs):=by
 refine(Tryz.bytes_Clone_at ⟨g,o,none⟩ n c (bs.map λb=>(b.toNat:Int)) w (by simpa using hn) AC (λi hi=> ?_)).mono ?_
 ·refine AD.src i _ ?_
  simp[Lib.byteCells,hn,hi]
 ·rintro e w' ⟨v',rfl,AB,AH,hb⟩
  have hx: (bs.map λb=>(b.toNat:Int)).map (Value.int .u8)=Lib.byteCells bs:=by simp[Lib.byteCells]
  rw[hx] at AB;rcases AB.2 with ⟨h1,-⟩|⟨g',cap,cur,rfl,AE,AA,AG,-,-,AI⟩
  ·exact absurd h1 AH
  ·refine⟨g',cap,rfl,AE,AG,At.of_heap AA (λj v hj=> ?_),⟨cur,AA⟩,hb⟩
   rw[<-AI,List.getElem?_take] at hj;split at hj
   ·simpa using hj
   ·cases hj
theorem A1t (w:World) (g n c:Nat):Calls Tryz.prog 35 #[.slice (some ⟨g,0,none⟩) n c] w λe w'=>e= .returned (.pointer (some ⟨w.heap.size,0,none⟩))/\RD w.heap.size g n c 0 w'/\Below w.heap.size w w':=by
 go_enter Tryz.func35,Tryz.ntmps35
 go_wp2
 go_ret
 exact⟨rfl,⟨-1,heap_alloc_new w _⟩,(Below.refl _ _).alloc (Nat.le_refl _) _⟩
theorem A6F (w:World) (r:Nat):Calls Tryz.prog 34 #[.iface 84 (.pointer (some ⟨r,0,none⟩))] w λe w'=>
  e= .returned (.pointer (some ⟨w.heap.size+1,0,none⟩))/\FRd w.heap.size r 0 w'/\TR (w.heap.size+1) r 0 (.iface 146 (.pointer (some ⟨w.heap.size,0,none⟩))) A0d .nilIface w'/\Below w.heap.size w w':=by
 go_enter Tryz.func34,Tryz.ntmps34
 go_wp2
 go_ret
 rw[A9J];exact⟨rfl,heap_alloc2_old w _ _,⟨heap_alloc2_new w _ _,A3y⟩,((Below.refl _ _).alloc (Nat.le_refl _) _).alloc (by simp) _⟩
def A8h (Hf:Nat->Hd) (R:KV) (w:World) (e:Ending) (w':World):Prop:=
 ∃mb rv L,e= .returned (.tuple #[.agg ({A0e (Hf mb) with recs:=rv}:IH).cells.toArray,.int .i64 0])/\N5 w' rv L/\A8j R L/\Below w.heap.size w w'
theorem B5y {R:Ending->World->Prop} {fn:Func} {t u:Tmp} {a:Act} (g:Nat) (cs:Array Value) (AA:cs.size=21) (w:World) {ev:Value} (hr:fn.results=#[.cell t 26,.tmp u]) (hp:a.tmps.getD t undef= .pointer (some ⟨g,0,none⟩)) (he:a.tmps.getD u undef=ev) (hd:a.defers=[])
  (hg:w.heap[g]?=some (.cells cs 26 (0,0))) (hR:R (.returned (.tuple #[.agg cs,ev])) w):bodyPost Tryz.prog fn R .ret a w:=by
 refine bodyPost_ret (v:= .tuple #[.agg cs,ev]) ?_ hd hR;have hl:=run_loadVar_row (P:=Tryz.prog) w g 26 26 cs (0,0) _ hg Tryz.underlying26 rfl (by rw[AA];kernel_rfl);rw[results_cell_tmp hr,hp,he];simp[asAddr,Result.andThen,hl]
theorem A1N (w:World) (g o n c i2:Nat) (bs:List UInt8) (aE:Addr) (B:C1) (Hf:Nat->Hd) (R:KV) (nb:Int) (Ae:At w g o (Lib.byteCells bs)) (hn:bs.length=n) (Au:0<n) (AR:n<=140737488355328) (hE:w.cell? ⟨0,0,none⟩=some (I7 aE)) (Ah:∀mb,(Hf mb).InO)
  (hN:∀ (w':World) (tr r g' c' fr:Nat),RD r g' n c' 0 w'->FRd fr r 0 w'->TR tr r 0 (.iface 146 (.pointer (some ⟨fr,0,none⟩))) A0d .nilIface w'->n<=c'->At w' g' 0 (Lib.byteCells bs)->g'∉[r,tr]->w'.cell? ⟨0,0,none⟩=some (I7 aE)->0∉[r,tr]->
   Calls Tryz.prog 72 #[.pointer (some ⟨tr,0,none⟩)] w' λe Ar=>∃mb,Y5 tr r g' n c' i2 B (Hf mb) R nb w' e Ar):
  Calls Tryz.prog 11 #[.slice (some ⟨g,o,none⟩) n c] w (A8h Hf R w):=by
 have HE:=A0 hE;have AW:=A0 Ae;have HN:=A0 hN;have Ak:=A0 Ah;have l0:=block_lt_of_cell hE;clear Ae hE hN Ah;go_enter Tryz.func11,Tryz.ntmps11
 go_wp2_with fail
 obtain⟨wA,AJ⟩:∃wA,wA=w.alloc (.cells #[.int .u8 0,.string {data:=#[]},.string {data:=#[]},.int .i64 0,.int .i64 0,.int .i64 0,.int .i64 0,.string {data:=#[]},.string {data:=#[]},.int .i64 0,.int .i64 0,.bool false,.int .i64 0,.int .i64 0,.bool false,.int .i64 0,.int .i64 0,.int .i64 0,.int .i64 0,.slice none 0 0,.int .i64 0] 26):=⟨_,rfl⟩;rw[<-AJ];have bA:Below w.heap.size w wA:=by rw[AJ];exact(Below.refl _ _).alloc (Nat.le_refl _) _
 have AB:∃z:Array Value,z.size=21/\wA.heap[w.heap.size]?=some (.cells z 26 (0,0)):=by rw[AJ];exact⟨_,rfl,heap_alloc_new w _⟩
 obtain⟨z,hz,AB⟩:=AB;have lA:=A8 AB;clear AJ;refine(B4u wA g o n c bs (AW.out.carry (bA.block g (AW.out.lt (by rw[Lib.byteCells_length];omega)))) hn AR).mono ?_;rintro e w1 ⟨g1,c1,rfl,As,Ao,AC,AA,AE⟩;go_wp2_with fail
 refine(A1t w1 g1 n c1).mono ?_;rintro e w2 ⟨rfl,AU,AG⟩;go_wp2_with fail
 refine(A6F w2 w1.heap.size).mono ?_;rintro e w3 ⟨rfl,Ag,AV,AH⟩;go_wp2_with fail
 have Ap:g1<w1.heap.size:=A8 AA.choose_spec;have Aq:w1.heap.size<w2.heap.size:=by obtain⟨p,h⟩:=AU;exact A8 h
 have Ai:RD w1.heap.size g1 n c1 0 w3:=by obtain⟨p,h⟩:=AU;exact⟨p,(AH.block _ Aq).trans h⟩
 have AD:At w3 g1 0 _:=(AC.carry (AG.block g1 Ap)).carry (AH.block g1 (by omega));have AQ:Below wA.heap.size wA w3:=(AE.trans (AG.mono AE.size)).trans (AH.mono (Nat.le_trans AE.size AG.size));have AP:Below w.heap.size w w3:=bA.trans (AQ.mono bA.size);have Aa:=(AP.cell (p:=⟨0,0,none⟩) l0).trans HE.out;have s1:=AE.size;have s2:=AG.size;have s3:=AH.size;have sA:=bA.size;have Ab:=(AQ.block w.heap.size lA).trans AB;have AZ:=A0 (B5k w3 (w2.heap.size+1) w1.heap.size g1 n c1 i2 0 _ _ B Hf R nb AV (HN.out w3 (w2.heap.size+1) w1.heap.size g1 c1 w2.heap.size Ai Ag AV Ao AD (by simp;omega) Aa (by simp;omega)));have AL:=A0 AP;have AY:=A0 Ab;clear Ai AD Aa AU Ag AV AC AA AE AG AH AQ AP Ab AB;refine AZ.out.mono ?_;rintro e w4 ⟨mb,hb,fr,rfl,k1,k2,k3,k4,k5,k6,k7,k8⟩;have l4:w.heap.size<w3.heap.size:=A8 AY.out;have Ac:=k6.cells AY.out (by simp;omega) (.inl l4)
 have b4:Below w.heap.size w w4:=AL.out.trans ⟨k6.os,k6.tape,k6.output,k6.size,λq hq=>by
  obtain⟨o,ho⟩:∃o,w3.heap[q]?=some o:=⟨_,Array.getElem?_eq_getElem (by omega)⟩;rw[ho];exact k6.same ho (by simp;omega) (.inl (by omega))⟩
 have AO:=A0 Ac;have AX:=A0 b4;have Am:=A0 k1;have An:=A0 k2;clear AZ k1 k2 k3 k4 k5 k6 k7 k8 Ac b4;go_wp2_with fail
 refine(B2T w4 hb (Hf mb) R (Ak.out mb) Am.out An.out).mono ?_;rintro e w5 ⟨rv,L,rfl,q1,qb,q2,q3⟩;have Ad:=(q3.block w.heap.size (A8 AO.out)).trans AO.out;have b5:=AX.out.trans (q3.mono AX.out.size)
 have AT: ({A0e (Hf mb) with recs:=rv}:IH).recs.oneCell'=true:=by
  obtain⟨p,c,rfl,-⟩:=q1;rfl
 obtain⟨w6,Aj,hg,ho,Af⟩:=A0i ({A0e (Hf mb) with recs:=rv}:IH) AT hz Ad
 have AI:A8h Hf R w (.returned (.tuple #[.agg ({A0e (Hf mb) with recs:=rv}:IH).cells.toArray,.int .i64 0])) w6:=by
  refine⟨mb,rv,L,rfl,?_,q2,Af _ _ b5 (Nat.le_refl _)⟩;obtain⟨p,c,hv,hc⟩:=q1;refine⟨p,c,hv,λj hj=> ?_⟩;obtain⟨rg,ro,rfl,h2,h3,h4⟩:=hc j hj
  have AS:rg≠w.heap.size:=by
   have:=(qb _ _ _ hv).1;have:=A8 AO.out;intro e;simp only at*;omega
  refine⟨rg,ro,rfl,?_,?_,?_⟩
  ·have h5:w6.heap[rg]?=w5.heap[rg]?:=ho rg AS
   rw[Array.getElem?_eq_getElem h2] at h5;exact A8 h5
  ·rw[World.cell?_of_block (w:=w5) (a:=⟨rg,ro+j*2,none⟩) (ho rg AS)];exact h3
  ·rw[World.cell?_of_block (w:=w5) (a:=⟨rg,ro+j*2+1,none⟩) (ho rg AS)];exact h4
 have AM:=A0 AI;have HG:=A0 hg;have Al:=A0 Aj;clear AI hg Aj ho Af q1 q2 q3 Ad b5;go_wp2_with (first|(go_at_call 33;refine(A6m _).mono ?_;rintro e wx ⟨rfl,rfl⟩)|(refine E6 rfl 26 _ _ rfl ⟨w.heap.size,0,none⟩ rfl _ rfl w6 Al.out ?_)|fail)
 exact B5y w.heap.size _ rfl _ rfl rfl rfl rfl HG.out AM.out
def bb:Nat->Int->List UInt8
 |0,_=> []
 |k+1,x=>UInt8.ofNat ((x/256^k)% 256).toNat::bb k x
theorem A3W (k:Nat) (x:Int): (bb k x).length=k:=by
 induction k with
 |zero=>rfl
 |succ k ih=>simp[bb,ih]
theorem E4.set1 {w:World} {g:Nat} {T:TypeId} {AA post:List Value} {a c:List UInt8} {x:UInt8} (y:UInt8) (h:E4 w g T AA (a++x::c) post):E4 (w.setCell ⟨g,AA.length+a.length,none⟩ (.int .u8 y.toNat)) g T AA (a++y::c) post:=by
 have:=B6 (i:=AA.length+a.length) (.int .u8 y.toNat) h;rw[List.setIfInBounds_toArray] at this;refine this.trans ?_;congr 2
 rw[List.append_assoc,List.set_append_right _ _ (by omega),show AA.length+a.length-AA.length=a.length by omega];simp[Lib.byteCells,List.set_append_right]
def L0 (n:Nat) (x:Int):List UInt8:=match bb n x with
 | []=> []
 |b::r=>(b|||128)::r
theorem B7N (b:UInt8):bits .or .u8 (b.toNat:Int) 128=((b|||128).toNat:Int):=by
 have:=u8_or_nat b.toNat 128 b.toNat_lt (by decide);rw[UInt8.toNat_or];exact this
theorem A2z (w:World) (fb g n c:Nat) (x:Int) (T:TypeId) (AA:List Value) (AB:List UInt8) (post:List Value) (h:E4 w g T AA AB post) (hn:AB.length=n) (AJ:n=8\/n=12) (AQ:n<=c)
  (hx:B8 n x=false) (AC:M2 n x=true) (AL: -9223372036854775808<=x) (AM:x<=9223372036854775807):
  Calls Tryz.prog 144 #[.pointer (some ⟨fb,0,none⟩),.slice (some ⟨g,AA.length,none⟩) n c,.int .i64 x] w λe w'=>e= .returned (.tuple #[])/\E4 w' g T AA (L0 n x) post/\Fr w.heap.size [g] w w':=by
 have hf:=A2U x w n (by omega) AL AM;have AE:=A4X w n x AJ;rw[hx] at hf;rw[AC] at AE;have AP: (n:Int)<=12/\(8:Int)<=n:=by omega
 have HS:=A0 h;clear h;go_enter Tryz.func144,Tryz.ntmps144
 go_wp2_with fail
 refine hf.mono ?_;rintro e w1 ⟨rfl,rfl⟩;go_wp2_with fail
 refine AE.mono ?_;rintro e w1 ⟨rfl,rfl⟩;go_wp2_with fail
 go_loopw [6,2] (λs6 s2 wr=>∃j:Nat,j<=n/\s6= .int .i64 ((n:Int)-1-j)/\s2= .int .i64 (x/256^j)/\Hid (E4 wr g T AA (AB.take (n-j)++bb j x) post/\Fr w.heap.size [g] w wr)) (λs6 _ _=>(intOf s6+1).toNat)
 case atStart=>exact⟨0,Nat.zero_le _,by simp,by simp,A0 ⟨by simpa[bb,<-hn] using HS.out,Fr.refl _ _ _⟩⟩
 case round=>
  obtain⟨j,hj,rfl,rfl,HW⟩:=hrel;by_cases AO:j<n
  ·have AH: (0:Int)<=(n:Int)-1-j:=by omega
   have hi: (n:Int)-1-j=((n-1-j:Nat):Int):=by omega
   rw[hi];have AI: ((n-1-j:Nat):Int)<n:=by omega
   generalize hy:x/256^j=y at*;obtain⟨xo,AG⟩:∃xo,AB[n-1-j]?=some xo:=⟨_,List.getElem?_eq_getElem (by omega)⟩;have hz:=HW.out.1.frozen (n-1-j);have hc:=HW.out.1.cell (n-1-j) xo (by rw[List.getElem?_append_left (by rw[List.length_take];omega),List.getElem?_take_of_lt (by omega)];exact AG)
   have HP:Hid (E4 (wr.setCell ⟨g,AA.length+(n-1-j),none⟩ (.int .u8 (y% 256))) g T AA (AB.take (n- (j+1))++bb (j+1) x) post/\Fr w.heap.size [g] w (wr.setCell ⟨g,AA.length+(n-1-j),none⟩ (.int .u8 (y% 256)))):=A0 ⟨by
    have h1:=HW.out.1;rw[show n-j=n-1-j+1 by omega,List.take_add_one,AG,List.append_assoc] at h1;have h2:=E4.set1 (UInt8.ofNat (y% 256).toNat) h1;rw[List.length_take,show min (n-1-j) AB.length=n-1-j by omega] at h2
    have e3: ((UInt8.ofNat (y% 256).toNat).toNat:Int)=y% 256:=by
     rw[UInt8.toNat_ofNat'];omega
    rw[e3] at h2;rw[show n- (j+1)=n-1-j by omega,bb,hy];exact h2,HW.out.2.setCell (.inl (by simp)) _⟩
   have hy2:x/256^ (j+1)=y/256:=by rw[<-hy,Int.pow_succ];exact(Int.ediv_ediv_of_nonneg (Int.pow_nonneg (by decide: (0:Int)<=256))).symm
   have HY:=A0 hy2;clear hy2;go_wp2_with fail
   exact⟨⟨j+1,by omega,by congr 1;omega,by rw[HY.out],HP.out⟩,by simp[intOf]⟩
  ·obtain rfl:j=n:=by omega
   have AH:¬(0:Int)<=(j:Int)-1-j:=by omega
   have h1:=HW.out.1;rw[Nat.sub_self,List.take_zero,List.nil_append] at h1
   obtain⟨b,r,AD⟩:∃b r,bb j x=b::r:=by
    cases h2:bb j x with
    |nil=>have:=A3W j x;rw[h2] at this;simp at this;omega
    |cons b r=>exact⟨b,r,rfl⟩
   rw[AD] at h1;have hz:=h1.frozen 0;have hc:=h1.cell 0 b rfl;rw[Nat.add_zero] at hz hc;have hs:=E4.set1 (a:=[]) (b|||128) (show E4 wr g T AA ([]++b::r) post from h1);have HF:Hid (E4 (wr.setCell ⟨g,AA.length,none⟩ (.int .u8 (b|||128).toNat)) g T AA (L0 j x) post/\Fr w.heap.size [g] w (wr.setCell ⟨g,AA.length,none⟩ (.int .u8 (b|||128).toNat))):=A0 ⟨by rw[L0,AD];exact hs,HW.out.2.setCell (.inl (by simp)) _⟩;have eb:bits .or .u8 (b.toNat:Int) 128=((b|||128).toNat:Int):=B7N b;clear hs h1 HW;go_wp2_with fail
   refine bodyPost_ret (results_none rfl _ _ _) rfl ?_;exact⟨rfl,HF.out⟩
def D9 (n:Nat) (x:Int):List UInt8:=if B8 n x then C2 n x.toNat else L0 n x
theorem A3A (w:World) (fb g n c:Nat) (x:Int) (T:TypeId) (AA:List Value) (AB:List UInt8) (post:List Value) (h:E4 w g T AA AB post) (hn:AB.length=n) (AI:n=8\/n=12) (AE:n<=c)
  (AC:B8 n x=true\/M2 n x=true) (AG: -9223372036854775808<=x) (AH:x<=9223372036854775807) (hg:g≠15) (AD:w.cell? ⟨15,7,none⟩=some (.int .u8 3)):
  Calls Tryz.prog 144 #[.pointer (some ⟨fb,0,none⟩),.slice (some ⟨g,AA.length,none⟩) n c,.int .i64 x] w λe w'=>e= .returned (.tuple #[])/\E4 w' g T AA (D9 n x) post/\Fr w.heap.size [g] w w':=by
 cases hx:B8 n x with
 |false=>
  rw[D9,hx];refine A2z w fb g n c x T AA AB post h hn AI AE hx ?_ AG AH;rcases AC with h|h
  ·rw[hx] at h;cases h
  ·exact h
 |true=>
  rw[D9,hx];have hf:=A2U x w n (by omega) AG AH;rw[hx] at hf;have hO:=A0 (U1 w fb g n c x T AA AB post h hn (by omega) AE hx hg AD);have AJ: (n:Int)<=12/\(8:Int)<=n:=by omega
  clear AD h;go_enter Tryz.func144,Tryz.ntmps144
  go_wp2_with fail
  refine hf.mono ?_;rintro e w1 ⟨rfl,rfl⟩;go_wp2_with fail
  refine hO.out.mono ?_;rintro e w1 ⟨rfl,h1,h2⟩;have H1:=A0 h1;have H2:=A0 h2;clear h1 h2;go_wp2_with fail
  refine bodyPost_ret (results_none rfl _ _ _) rfl ?_;exact⟨rfl,H1.out,H2.out⟩
def X5 (n:Nat) (x:Int):Prop:=(B8 n x=true\/M2 n x=true)/\-9223372036854775808<=x/\x<=9223372036854775807
theorem X5.w12 {x:Int} (h0: -9223372036854775808<=x) (h1:x<=9223372036854775807):X5 12 x:=⟨.inr (by simp[M2]),h0,h1⟩
theorem A1U {n:Nat} {x:Int} (h:B8 n x=true):x.toNat<8^ (n-1):=by
 simp only[B8,decide_eq_true_eq] at h;have h2: ((x.toNat:Nat):Int)< ((8^ (n-1):Nat):Int):=by rw[Int.toNat_of_nonneg h.1];exact_mod_cast h.2
 omega
theorem K7 (n:Nat) (x:Int) (hn:2<=n): (D9 n x).length=n:=by
 unfold D9;split
 ·rename_i h
  exact D2 n _ hn (A1U h)
 ·unfold L0
  obtain⟨k,rfl⟩:∃k,n=k+1:=⟨n-1,by omega⟩;show(match bb (k+1) x with| []=> []|b::r=>(b|||128)::r).length=k+1
  simp[bb,A3W]
section
variable {tw b fw:Nat} {pad:Int} {hdr:List Value} {fb:Nat} {ferr:Value} {aE:Addr} {B:C1} {w:World}
theorem A4H (h:TB tw b fw pad hdr fb ferr aE B w) (n c o:Nat) (x:Int) (P Q:List Value) (AB:List UInt8) (B2:C1) (hs:E4 w tw 134 P AB Q) (hl:AB.length=n) (hn:n=8\/n=12) (hc:n<=c) (ho:P.length=o) (hx:X5 n x)
  (AA:∀w',E4 w' tw 134 P (D9 n x) Q->E4 w' tw 134 (A3S b fw pad hdr) B2.bytes [.nilIface]) (ok:B2.Ok):
  Calls Tryz.prog 144 #[.pointer (some ⟨fb,0,none⟩),.slice (some ⟨tw,o,none⟩) n c,.int .i64 x] w λe w'=>e= .returned (.tuple #[])/\TB tw b fw pad hdr fb ferr aE B2 w'/\Fr w.heap.size [tw,fb] w w':=by
 subst ho;refine(A3A w fb tw n c x 134 P AB Q hs hl hn hc hx.1 hx.2.1 hx.2.2 h.tw15 h.db).mono ?_;rintro e w' ⟨rfl,k1,k2⟩;have k3:=k2.wide (B':=w.heap.size) (S':=[tw,fb]) (Nat.le_refl _) (by simp);exact⟨rfl,h.next (AA w' k1) ok (k2.cells h.F (by simpa using h.ne) (.inr (by decide))) k3,k3⟩
theorem A5T (h:TB tw b fw pad hdr fb ferr aE B w) (x:Int) (hx:X5 8 x):
  Calls Tryz.prog 144 #[.pointer (some ⟨fb,0,none⟩),.slice (some ⟨tw,123,none⟩) 8 412,.int .i64 x] w λe w'=>e= .returned (.tuple #[])/\TB tw b fw pad hdr fb ferr aE {B with mode:=D9 8 x} w'/\Fr w.heap.size [tw,fb] w w':=
 A4H h 8 412 123 x _ _ _ _ h.seg.get_mode h.ok.mode (by decide) (by decide) (by simp only[h.ok.off_mode,h.pre]) hx (λ_ k=>k.put_mode) (h.ok.put_mode _ (K7 8 x (by decide)))
theorem A6Y (h:TB tw b fw pad hdr fb ferr aE B w) (x:Int) (hx:X5 8 x):
  Calls Tryz.prog 144 #[.pointer (some ⟨fb,0,none⟩),.slice (some ⟨tw,131,none⟩) 8 404,.int .i64 x] w λe w'=>e= .returned (.tuple #[])/\TB tw b fw pad hdr fb ferr aE {B with uid:=D9 8 x} w'/\Fr w.heap.size [tw,fb] w w':=
 A4H h 8 404 131 x _ _ _ _ h.seg.get_uid h.ok.uid (by decide) (by decide) (by simp only[h.ok.off_uid,h.pre]) hx (λ_ k=>k.put_uid) (h.ok.put_uid _ (K7 8 x (by decide)))
theorem A6V (h:TB tw b fw pad hdr fb ferr aE B w) (x:Int) (hx:X5 8 x):
  Calls Tryz.prog 144 #[.pointer (some ⟨fb,0,none⟩),.slice (some ⟨tw,139,none⟩) 8 396,.int .i64 x] w λe w'=>e= .returned (.tuple #[])/\TB tw b fw pad hdr fb ferr aE {B with gid:=D9 8 x} w'/\Fr w.heap.size [tw,fb] w w':=
 A4H h 8 396 139 x _ _ _ _ h.seg.get_gid h.ok.gid (by decide) (by decide) (by simp only[h.ok.off_gid,h.pre]) hx (λ_ k=>k.put_gid) (h.ok.put_gid _ (K7 8 x (by decide)))
theorem A5U (h:TB tw b fw pad hdr fb ferr aE B w) (x:Int) (hx:X5 12 x):
  Calls Tryz.prog 144 #[.pointer (some ⟨fb,0,none⟩),.slice (some ⟨tw,147,none⟩) 12 388,.int .i64 x] w λe w'=>e= .returned (.tuple #[])/\TB tw b fw pad hdr fb ferr aE {B with size:=D9 12 x} w'/\Fr w.heap.size [tw,fb] w w':=
 A4H h 12 388 147 x _ _ _ _ h.seg.get_size h.ok.size (by decide) (by decide) (by simp only[h.ok.off_size,h.pre]) hx (λ_ k=>k.put_size) (h.ok.put_size _ (K7 12 x (by decide)))
theorem A4I (h:TB tw b fw pad hdr fb ferr aE B w) (x:Int) (hx:X5 12 x):
  Calls Tryz.prog 144 #[.pointer (some ⟨fb,0,none⟩),.slice (some ⟨tw,159,none⟩) 12 376,.int .i64 x] w λe w'=>e= .returned (.tuple #[])/\TB tw b fw pad hdr fb ferr aE {B with mtime:=D9 12 x} w'/\Fr w.heap.size [tw,fb] w w':=
 A4H h 12 376 159 x _ _ _ _ h.seg.get_mtime h.ok.mtime (by decide) (by decide) (by simp only[h.ok.off_mtime,h.pre]) hx (λ_ k=>k.put_mtime) (h.ok.put_mtime _ (K7 12 x (by decide)))
theorem A6W (h:TB tw b fw pad hdr fb ferr aE B w) (x:Int) (hx:X5 8 x):
  Calls Tryz.prog 144 #[.pointer (some ⟨fb,0,none⟩),.slice (some ⟨tw,352,none⟩) 8 183,.int .i64 x] w λe w'=>e= .returned (.tuple #[])/\TB tw b fw pad hdr fb ferr aE {B with maj:=D9 8 x} w'/\Fr w.heap.size [tw,fb] w w':=
 A4H h 8 183 352 x _ _ _ _ h.seg.get_maj h.ok.maj (by decide) (by decide) (by simp only[h.ok.off_maj,h.pre]) hx (λ_ k=>k.put_maj) (h.ok.put_maj _ (K7 8 x (by decide)))
theorem A6X (h:TB tw b fw pad hdr fb ferr aE B w) (x:Int) (hx:X5 8 x):
  Calls Tryz.prog 144 #[.pointer (some ⟨fb,0,none⟩),.slice (some ⟨tw,360,none⟩) 8 175,.int .i64 x] w λe w'=>e= .returned (.tuple #[])/\TB tw b fw pad hdr fb ferr aE {B with mnr:=D9 8 x} w'/\Fr w.heap.size [tw,fb] w w':=
 A4H h 8 175 360 x _ _ _ _ h.seg.get_mnr h.ok.mnr (by decide) (by decide) (by simp only[h.ok.off_mnr,h.pre]) hx (λ_ k=>k.put_mnr) (h.ok.put_mnr _ (K7 8 x (by decide)))
end
end Go.Proofs.YtkanmkcojlefbaaGreatDoor
