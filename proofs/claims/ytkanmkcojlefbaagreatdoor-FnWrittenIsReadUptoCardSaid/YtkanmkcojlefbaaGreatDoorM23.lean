/-
  Part of the proof; holds the texts Rnd1, Rnd2, WHead, PRec.
-/
import Derived.Test.YtkanmkcojlefbaaGreatDoorM22
set_option maxHeartbeats 4000000
set_option maxRecDepth 100000
set_option linter.unusedSimpArgs false
set_option linter.unusedVariables false
namespace Go.Proofs.YtkanmkcojlefbaaGreatDoor
open Go.RowKit
theorem B2h (x y:Int) (w:World) (h0:0<=x) (h1:x<=1000000000) (h2:0<=y) (h3:y<=1000000000):Calls Tryz.prog 91 #[.int .i64 x,.int .i64 y] w (C4 w (.bool (decide (x+x<y)))):=by
 have e1:IntKind.u64.wrap x=x:=IntWalk.u64_in _ (by omega);have e2:IntKind.u64.wrap y=y:=IntWalk.u64_in _ (by omega);have e3:IntKind.u64.wrap (x+x)=x+x:=IntWalk.u64_in _ (by omega);go_enter Tryz.func91,Tryz.ntmps91
 go_wp2_with fail
 go_ret
 exact⟨rfl,rfl⟩
theorem B6I (w:World) (g o:Nat) (n:Int) (h0:0<=n) (h1:n<1000000000) (c0:w.cell? ⟨g,o,none⟩=some (.int .u64 n)) (hz:w.frozen? ⟨g,o,none⟩=false):Calls Tryz.prog 89 #[.pointer (some ⟨g,o,none⟩)] w λe w'=>e= .returned (.tuple #[])/\w'=w:=by
 have e:=A4l n h0 h1;have e2:=A7S n h0 h1;go_enter Tryz.func89,Tryz.ntmps89
 go_wp2_with fail
 go_end0
 exact⟨rfl,rfl⟩
theorem B0L (w:World) (g:Nat) (n x d:Int) (h0:0<=n) (h1:n<1000000000) (hx: -4611686018427387904<=x/\x<=4611686018427387904) (hd:d=0\/d=1) (c0:w.cell? ⟨g,0,none⟩=some (.int .u64 n)) (c1:w.cell? ⟨g,1,none⟩=some (.int .i64 x)) (hz:∀k,w.frozen? ⟨g,k,none⟩=false):
  Calls Tryz.prog 165 #[.pointer (some ⟨g,0,none⟩),.int .i64 d] w λe w'=>e= .returned (.tuple #[])/\w'=w.setCell ⟨g,1,none⟩ (.int .i64 (x+d)):=by
 have e:=A4l n h0 h1;have e2:=A7S n h0 h1;have ew:IntKind.i64.wrap (x+d)=x+d:=zQ _ (by omega);rcases hd with rfl|rfl
 ·have q1:¬x<x+0:=by omega
  go_enter Tryz.func165,Tryz.ntmps165
  go_wp2_with fail
  go_end0
  exact⟨rfl,by simp⟩
 ·have q1:x<x+1:=by omega
  go_enter Tryz.func165,Tryz.ntmps165
  go_wp2_with fail
  go_end0
  exact⟨rfl,rfl⟩
theorem B1u (n:Int) (h0:0<=n) (h1:n<1000000000):bits .or .u64 (bits .andNot .u64 n 1073741823) 0=0:=by
 have h:bits .andNot .u64 n 1073741823=0:=by
  obtain⟨k,rfl⟩:∃k:Nat,n=k:=⟨n.toNat,by omega⟩;show IntKind.u64.wrap ((BitVec.ofInt 64 (k:Int)&&& ~~~ (BitVec.ofInt 64 (1073741823:Int))).toNat:Int)=0
  have e:BitVec.ofInt 64 (k:Int)&&& ~~~ (BitVec.ofInt 64 (1073741823:Int))=0#64:=by
   have hk:k<2^30:=by omega
   apply BitVec.eq_of_getLsbD_eq;intro i hi;rw[BitVec.getLsbD_and,BitVec.getLsbD_not];simp only[BitVec.ofInt_natCast,BitVec.getLsbD_ofNat];by_cases AA:i<30
   ·have h2: (1073741823#64).getLsbD i=true:=by
     rw[show(1073741823#64:BitVec 64)=BitVec.ofNat 64 (2^30-1) from rfl,BitVec.getLsbD_ofNat,Nat.testBit_two_pow_sub_one];simp[hi,AA]
    simp[h2]
   ·have:k.testBit i=false:=Nat.testBit_lt_two_pow (zL hk (Nat.pow_le_pow_right (by decide) (by omega)))
    simp[this]
  rw[e];rfl
 rw[h];rfl
theorem B7c (w:World) (n x d:Int) (h0:0<=n) (h1:n<1000000000) (hx: -4611686018427387904<=x/\x<=4611686018427387904) (hd:d= -n):
  Calls Tryz.prog 92 #[.agg #[.int .u64 n,.int .i64 x],.int .i64 d] w λe w'=>e= .returned (tmV 0 x)/\Below w.heap.size w w':=by
 have e:=A4l n h0 h1;have e2:=A7S n h0 h1
 have hq:d.tdiv 1000000000=0:=by
  rw[hd,Int.neg_tdiv,Int.tdiv_eq_zero_of_lt (by omega) (by omega)];rfl
 have hr:d.tmod 1000000000=d:=by
  have:=Int.mul_tdiv_add_tmod d 1000000000;rw[hq] at this;omega
 have hs:n+d=0:=by omega
 have AM: -1000000000<d:=by omega
 have AO:d<=0:=by omega
 obtain⟨wA,AC⟩:∃wA,wA=(w.alloc (.cells #[.int .u64 n,.int .i64 x] 126)).alloc (.cells #[.int .u64 0,.int .i64 0] 126):=⟨_,rfl⟩;have s1: (w.alloc (.cells #[.int .u64 n,.int .i64 x] 126)).heap.size=w.heap.size+1:=Array.size_push ..;have a0:wA.heap[w.heap.size]?=some (.cells #[.int .u64 n,.int .i64 x] 126 (0,0)):=by rw[AC];exact(zO _ _ _ (by omega)).trans (zI w _)
 have a1:wA.heap[w.heap.size+1]?=some (.cells #[.int .u64 0,.int .i64 0] 126 (0,0)):=by rw[AC,<-s1];exact zI _ _
 have HB:Hid (Below w.heap.size w wA):=A0 (by rw[AC];exact((zD _ w).alloc (zB _) _).alloc (by omega) _);have c0:wA.cell? ⟨w.heap.size,0,none⟩=some (.int .u64 n):=by rw[zA a0 0];rfl
 have c1:wA.cell? ⟨w.heap.size,1,none⟩=some (.int .i64 x):=by rw[zA a0 1];rfl
 have hz:=λk=>zE a0 k;have AG:=A0 a0;have AH:=A0 a1;have HN:=A0 (A6b wA w.heap.size 0 n x h0 h1 c0 c1);clear s1 a0 a1 hd;go_enter Tryz.func92,Tryz.ntmps92
 go_upto_region 1 with fail
 rw[<-AC];clear AC;go_wp2_with fail
 refine HN.out.mono ?_;rintro e w1 ⟨rfl,rfl⟩;have ea:=B1u n h0 h1;have b0: (wA.setCell ⟨w.heap.size,0,none⟩ (.int .u64 0)).heap[w.heap.size]?=some (.cells #[.int .u64 0,.int .i64 x] 126 (0,0)):=B6 (i:=0) _ AG.out;have AI:=A0 (B0L (wA.setCell ⟨w.heap.size,0,none⟩ (.int .u64 0)) w.heap.size 0 x 0 (by omega) (by omega) hx (.inl rfl) (by rw[zA b0 0];rfl) (by rw[zA b0 1];rfl) (λk=>zE b0 k));have b1: ((wA.setCell ⟨w.heap.size,0,none⟩ (.int .u64 0)).setCell ⟨w.heap.size,1,none⟩ (.int .i64 (x+0))).heap[w.heap.size]?=some (.cells #[.int .u64 0,.int .i64 (x+0)] 126 (0,0)):=B6 (i:=1) _ b0;rw[Int.add_zero] at b1;have AD:=A0 b1;clear b0 b1;go_wp2_with fail
 refine AI.out.mono ?_;rintro e w2 ⟨rfl,AB⟩;rw[Int.add_zero] at AB;rw[<-AB] at AD;have AE:Below w.heap.size w w2:=by rw[AB];exact(HB.out.setCell (p:=⟨w.heap.size,0,none⟩) (zB _) _).setCell (p:=⟨w.heap.size,1,none⟩) (zB _) _
 have AA:w2.heap[w.heap.size+1]?=some (.cells #[.int .u64 0,.int .i64 0] 126 (0,0)):=by rw[AB];exact(C0 _ (Nat.succ_ne_self _)).trans ((C0 _ (Nat.succ_ne_self _)).trans AH.out)
 have AJ:=A0 AE;have k0:w2.cell? ⟨w.heap.size,0,none⟩=some (.int .u64 0):=by rw[zA AD.out 0];rfl
 have k1:w2.cell? ⟨w.heap.size,1,none⟩=some (.int .i64 x):=by rw[zA AD.out 1];rfl
 have r0:w2.cell? ⟨w.heap.size+1,0,none⟩=some (.int .u64 0):=by rw[zA AA 0];rfl
 have r1:w2.cell? ⟨w.heap.size+1,1,none⟩=some (.int .i64 0):=by rw[zA AA 1];rfl
 have rz:=λk=>zE AA k;have AL:=A0 AA;have eb:bits .and .u64 0 9223372036854775808=0:=A4l 0 (by omega) (by omega);clear AB AE AA c0 c1 hz;go_wp2_with fail
 refine A0M (w.heap.size+1) 0 x _ rfl rfl rfl (B6 (i:=1) _ (B6 (i:=0) _ AL.out)) ⟨rfl,?_⟩;exact(AJ.out.setCell (p:=⟨w.heap.size+1,0,none⟩) (Nat.le_succ _) _).setCell (p:=⟨w.heap.size+1,1,none⟩) (Nat.le_succ _) _
theorem B7d (w:World) (n x d:Int) (h0:0<=n) (h1:n<1000000000) (hx: -4611686018427387904<=x/\x<=4611686018427387904) (h5:0<n) (hd:d=1000000000-n):
  Calls Tryz.prog 92 #[.agg #[.int .u64 n,.int .i64 x],.int .i64 d] w λe w'=>e= .returned (tmV 0 (x+1))/\Below w.heap.size w w':=by
 have e:=A4l n h0 h1;have e2:=A7S n h0 h1
 have hq:d.tdiv 1000000000=0:=by
  exact Int.tdiv_eq_zero_of_lt (by omega) (by omega)
 have hr:d.tmod 1000000000=d:=by
  have:=Int.mul_tdiv_add_tmod d 1000000000;rw[hq] at this;omega
 have hs:n+d=1000000000:=by omega
 have AM:0<d:=by omega
 have AO:d<1000000000:=by omega
 obtain⟨wA,AB⟩:∃wA,wA=(w.alloc (.cells #[.int .u64 n,.int .i64 x] 126)).alloc (.cells #[.int .u64 0,.int .i64 0] 126):=⟨_,rfl⟩;have s1: (w.alloc (.cells #[.int .u64 n,.int .i64 x] 126)).heap.size=w.heap.size+1:=Array.size_push ..;have a0:wA.heap[w.heap.size]?=some (.cells #[.int .u64 n,.int .i64 x] 126 (0,0)):=by rw[AB];exact(zO _ _ _ (by omega)).trans (zI w _)
 have a1:wA.heap[w.heap.size+1]?=some (.cells #[.int .u64 0,.int .i64 0] 126 (0,0)):=by rw[AB,<-s1];exact zI _ _
 have HB:Hid (Below w.heap.size w wA):=A0 (by rw[AB];exact((zD _ w).alloc (zB _) _).alloc (by omega) _);have c0:wA.cell? ⟨w.heap.size,0,none⟩=some (.int .u64 n):=by rw[zA a0 0];rfl
 have c1:wA.cell? ⟨w.heap.size,1,none⟩=some (.int .i64 x):=by rw[zA a0 1];rfl
 have hz:=λk=>zE a0 k;have AG:=A0 a0;have AH:=A0 a1;have HN:=A0 (A6b wA w.heap.size 0 n x h0 h1 c0 c1);clear s1 a0 a1 hd;go_enter Tryz.func92,Tryz.ntmps92
 go_upto_region 1 with fail
 rw[<-AB];clear AB;go_wp2_with fail
 refine HN.out.mono ?_;rintro e w1 ⟨rfl,rfl⟩;have ea:=B1u n h0 h1;have b0: (wA.setCell ⟨w.heap.size,0,none⟩ (.int .u64 0)).heap[w.heap.size]?=some (.cells #[.int .u64 0,.int .i64 x] 126 (0,0)):=B6 (i:=0) _ AG.out;have AI:=A0 (B0L (wA.setCell ⟨w.heap.size,0,none⟩ (.int .u64 0)) w.heap.size 0 x 1 (by omega) (by omega) hx (.inr rfl) (by rw[zA b0 0];rfl) (by rw[zA b0 1];rfl) (λk=>zE b0 k));have b1: ((wA.setCell ⟨w.heap.size,0,none⟩ (.int .u64 0)).setCell ⟨w.heap.size,1,none⟩ (.int .i64 (x+1))).heap[w.heap.size]?=some (.cells #[.int .u64 0,.int .i64 (x+1)] 126 (0,0)):=B6 (i:=1) _ b0;have AD:=A0 b1;clear b0 b1;go_wp2_with fail
 refine AI.out.mono ?_;rintro e w2 ⟨rfl,AC⟩;rw[<-AC] at AD;have AE:Below w.heap.size w w2:=by rw[AC];exact(HB.out.setCell (p:=⟨w.heap.size,0,none⟩) (zB _) _).setCell (p:=⟨w.heap.size,1,none⟩) (zB _) _
 have AA:w2.heap[w.heap.size+1]?=some (.cells #[.int .u64 0,.int .i64 0] 126 (0,0)):=by rw[AC];exact(C0 _ (Nat.succ_ne_self _)).trans ((C0 _ (Nat.succ_ne_self _)).trans AH.out)
 have AJ:=A0 AE;have k0:w2.cell? ⟨w.heap.size,0,none⟩=some (.int .u64 0):=by rw[zA AD.out 0];rfl
 have k1:w2.cell? ⟨w.heap.size,1,none⟩=some (.int .i64 (x+1)):=by rw[zA AD.out 1];rfl
 have r0:w2.cell? ⟨w.heap.size+1,0,none⟩=some (.int .u64 0):=by rw[zA AA 0];rfl
 have r1:w2.cell? ⟨w.heap.size+1,1,none⟩=some (.int .i64 0):=by rw[zA AA 1];rfl
 have rz:=λk=>zE AA k;have AL:=A0 AA;have eb:bits .and .u64 0 9223372036854775808=0:=A4l 0 (by omega) (by omega);clear AC AE AA c0 c1 hz;go_wp2_with fail
 refine A0M (w.heap.size+1) 0 (x+1) _ rfl rfl rfl (B6 (i:=1) _ (B6 (i:=0) _ AL.out)) ⟨rfl,?_⟩;exact(AJ.out.setCell (p:=⟨w.heap.size+1,0,none⟩) (Nat.le_succ _) _).setCell (p:=⟨w.heap.size+1,1,none⟩) (Nat.le_succ _) _
def A6e (n:Int) (w:World) (e:Ending) (w':World):Prop:=∃q:Int,e= .returned (.tuple #[.int .i64 q,.int .i64 n])/\Below w.heap.size w w'
theorem B7f (w:World) (n x:Int) (h0:0<=n) (h1:n<1000000000) (hx:0<=x/\x<=4611686018427387904):
  Calls Tryz.prog 90 #[.agg #[.int .u64 n,.int .i64 x],.int .i64 1000000000] w (A6e n w):=by
 have HB:Hid (Below w.heap.size w (w.alloc (.cells #[.int .u64 n,.int .i64 x] 126))):=A0 ((zD _ w).alloc (zB _) _);have a0:=zI w (.cells #[.int .u64 n,.int .i64 x] 126);obtain⟨wA,AA⟩:∃wA,wA=w.alloc (.cells #[.int .u64 n,.int .i64 x] 126):=⟨_,rfl⟩;rw[<-AA] at HB a0;have c0:wA.cell? ⟨w.heap.size,0,none⟩=some (.int .u64 n):=by rw[zA a0 0];rfl
 have c1:wA.cell? ⟨w.heap.size,1,none⟩=some (.int .i64 x):=by rw[zA a0 1];rfl
 have HN:=A0 (A6b wA w.heap.size 0 n x h0 h1 c0 c1);have HS:=A0 (B4i wA w.heap.size 0 n x h0 h1 c0 c1);clear a0 c0 c1;have AB:¬x<0:=by omega
 go_enter Tryz.func90,Tryz.ntmps90
 go_upto_region 2 with fail
 rw[<-AA];clear AA;go_wp2_with fail
 refine HN.out.mono ?_;rintro e w1 ⟨rfl,rfl⟩;go_wp2_with fail
 refine HS.out.mono ?_;rintro e w1 ⟨rfl,rfl⟩;go_wp2_with fail
 go_ret2
 exact⟨_,rfl,HB.out⟩
theorem B6E (w:World) (n x:Int) (h0:0<=n) (h1:n<1000000000) (hn:n=0) (hx: -4611686018427387904<=x/\x<0):
  Calls Tryz.prog 90 #[.agg #[.int .u64 n,.int .i64 x],.int .i64 1000000000] w (A6e n w):=by
 have HB:Hid (Below w.heap.size w (w.alloc (.cells #[.int .u64 n,.int .i64 x] 126))):=A0 ((zD _ w).alloc (zB _) _);have a0:=zI w (.cells #[.int .u64 n,.int .i64 x] 126);obtain⟨wA,AA⟩:∃wA,wA=w.alloc (.cells #[.int .u64 n,.int .i64 x] 126):=⟨_,rfl⟩;rw[<-AA] at HB a0;have c0:wA.cell? ⟨w.heap.size,0,none⟩=some (.int .u64 n):=by rw[zA a0 0];rfl
 have c1:wA.cell? ⟨w.heap.size,1,none⟩=some (.int .i64 x):=by rw[zA a0 1];rfl
 have HN:=A0 (A6b wA w.heap.size 0 n x h0 h1 c0 c1);have HS:=A0 (B4i wA w.heap.size 0 n x h0 h1 c0 c1);clear a0 c0 c1;subst hn;have AB:x<0:=by omega
 have ew:IntKind.i64.wrap (-x)= -x:=zQ _ (by omega);go_enter Tryz.func90,Tryz.ntmps90
 go_upto_region 2 with fail
 rw[<-AA];clear AA;go_wp2_with fail
 refine HN.out.mono ?_;rintro e w1 ⟨rfl,rfl⟩;go_wp2_with fail
 refine HS.out.mono ?_;rintro e w1 ⟨rfl,rfl⟩;go_wp2_with fail
 go_ret2
 exact⟨_,rfl,HB.out⟩
theorem B7e (w:World) (n x:Int) (h0:0<=n) (h1:n<1000000000) (hn:0<n) (hx: -4611686018427387904<=x/\x<0):
  Calls Tryz.prog 90 #[.agg #[.int .u64 n,.int .i64 x],.int .i64 1000000000] w (A6e n w):=by
 have HB:Hid (Below w.heap.size w (w.alloc (.cells #[.int .u64 n,.int .i64 x] 126))):=A0 ((zD _ w).alloc (zB _) _);have a0:=zI w (.cells #[.int .u64 n,.int .i64 x] 126);obtain⟨wA,AA⟩:∃wA,wA=w.alloc (.cells #[.int .u64 n,.int .i64 x] 126):=⟨_,rfl⟩;rw[<-AA] at HB a0;have c0:wA.cell? ⟨w.heap.size,0,none⟩=some (.int .u64 n):=by rw[zA a0 0];rfl
 have c1:wA.cell? ⟨w.heap.size,1,none⟩=some (.int .i64 x):=by rw[zA a0 1];rfl
 have HN:=A0 (A6b wA w.heap.size 0 n x h0 h1 c0 c1);have HS:=A0 (B4i wA w.heap.size 0 n x h0 h1 c0 c1);clear a0 c0 c1;have k1: -n<0:=by omega
 have k2:1000000000- (-n+1000000000)=n:=by omega
 have AB:x<0:=by omega
 have ew:IntKind.i64.wrap (-x)= -x:=zQ _ (by omega);go_enter Tryz.func90,Tryz.ntmps90
 go_upto_region 2 with fail
 rw[<-AA];clear AA;go_wp2_with fail
 refine HN.out.mono ?_;rintro e w1 ⟨rfl,rfl⟩;go_wp2_with fail
 refine HS.out.mono ?_;rintro e w1 ⟨rfl,rfl⟩;go_wp2_with fail
 go_ret2
 exact⟨_,rfl,HB.out⟩
theorem B8p (w:World) (n x:Int) (h0:0<=n) (h1:n<1000000000) (hx: -4611686018427387904<=x/\x<=4611686018427387904):
  Calls Tryz.prog 90 #[.agg #[.int .u64 n,.int .i64 x],.int .i64 1000000000] w (A6e n w):=by
 by_cases hp:0<=x
 ·exact B7f w n x h0 h1 ⟨hp,hx.2⟩
 ·by_cases hn:n=0
  ·exact B6E w n x h0 h1 hn ⟨hx.1,by omega⟩
  ·exact B7e w n x h0 h1 (by omega) ⟨hx.1,by omega⟩
theorem B6H (w:World) (n x s:Int) (h0:0<=n) (h1:n<1000000000) (hx: -4611686018427387904<=x/\x<=4611686018427387904) (hc: (n<500000000/\s=0)\/(500000000<n/\s=1)):
  Calls Tryz.prog 64 #[.agg #[.int .u64 n,.int .i64 x],.int .i64 1000000000] w λe w'=>e= .returned (tmV 0 (x+s))/\Below w.heap.size w w':=by
 obtain⟨wA,AB⟩:∃wA,wA=(w.alloc (.cells #[.int .u64 n,.int .i64 x] 126)).alloc (.cells #[.int .u64 0,.int .i64 0] 126):=⟨_,rfl⟩;have s1: (w.alloc (.cells #[.int .u64 n,.int .i64 x] 126)).heap.size=w.heap.size+1:=Array.size_push ..;have a0:wA.heap[w.heap.size]?=some (.cells #[.int .u64 n,.int .i64 x] 126 (0,0)):=by rw[AB];exact(zO _ _ _ (by omega)).trans (zI w _)
 have a1:wA.heap[w.heap.size+1]?=some (.cells #[.int .u64 0,.int .i64 0] 126 (0,0)):=by rw[AB,<-s1];exact zI _ _
 have HB:Hid (Below w.heap.size w wA):=A0 (by rw[AB];exact((zD _ w).alloc (zB _) _).alloc (by omega) _);have c0:wA.cell? ⟨w.heap.size,0,none⟩=some (.int .u64 n):=by rw[zA a0 0];rfl
 have c1:wA.cell? ⟨w.heap.size,1,none⟩=some (.int .i64 x):=by rw[zA a0 1];rfl
 have AL:=A0 a0;have AM:=A0 a1;have AO:=A0 (B6I wA w.heap.size 0 n h0 h1 c0 (zE a0 0));have HD:=A0 (B8p wA n x h0 h1 hx);clear s1 a0 a1;go_enter Tryz.func64,Tryz.ntmps64
 go_upto_region 1 with fail
 rw[<-AB];clear AB;go_wp2_with fail
 refine AO.out.mono ?_;rintro e w1 ⟨rfl,rfl⟩;go_wp2_with fail
 refine HD.out.mono ?_;rintro e w2 ⟨q,rfl,AG⟩;have AC:=A0 (HB.out.trans (AG.mono HB.out.size));have b0:=(AG.block w.heap.size (A8 AL.out)).trans AL.out;have b1:=(AG.block (w.heap.size+1) (A8 AM.out)).trans AM.out;have d0:w2.cell? ⟨w.heap.size,0,none⟩=some (.int .u64 n):=by rw[zA b0 0];rfl
 have d1:w2.cell? ⟨w.heap.size,1,none⟩=some (.int .i64 x):=by rw[zA b0 1];rfl
 have AE:=A0 b1;have AD:=A0 (B2h n 1000000000 w2 h0 (by omega) (by omega) (by omega));clear AG b0 b1 c0 c1;rcases hc with ⟨hn,rfl⟩|⟨hn,rfl⟩
 ·rw[zY (show n+n<1000000000 by omega)] at AD
  go_wp2_with fail
  refine AD.out.mono ?_;rintro e w3 ⟨rfl,rfl⟩;have AH:=A0 (B7c w2 n x (-n) h0 h1 hx rfl);go_wp2_with fail
  refine AH.out.mono ?_;rintro e w4 ⟨rfl,AA⟩;have f1:=(AA.block (w.heap.size+1) (A8 AE.out)).trans AE.out;have r0:w4.cell? ⟨w.heap.size+1,0,none⟩=some (.int .u64 0):=by rw[zA f1 0];rfl
  have r1:w4.cell? ⟨w.heap.size+1,1,none⟩=some (.int .i64 0):=by rw[zA f1 1];rfl
  have rz:=λk=>zE f1 k;have AJ:=A0 f1;have AI:=A0 (AC.out.trans (AA.mono AC.out.size));clear f1 AA d0 d1;unfold tmV;go_wp2_with fail
  refine A0M (w.heap.size+1) 0 (x) _ rfl rfl rfl (B6 (i:=1) _ (B6 (i:=0) _ AJ.out)) ⟨by simp,?_⟩;exact(AI.out.setCell (p:=⟨w.heap.size+1,0,none⟩) (Nat.le_succ _) _).setCell (p:=⟨w.heap.size+1,1,none⟩) (Nat.le_succ _) _
 ·rw[zV (show¬n+n<1000000000 by omega)] at AD
  go_wp2_with fail
  refine AD.out.mono ?_;rintro e w3 ⟨rfl,rfl⟩;have AH:=A0 (B7d w2 n x (1000000000-n) h0 h1 hx (by omega) rfl);go_wp2_with fail
  refine AH.out.mono ?_;rintro e w4 ⟨rfl,AA⟩;have f1:=(AA.block (w.heap.size+1) (A8 AE.out)).trans AE.out;have r0:w4.cell? ⟨w.heap.size+1,0,none⟩=some (.int .u64 0):=by rw[zA f1 0];rfl
  have r1:w4.cell? ⟨w.heap.size+1,1,none⟩=some (.int .i64 0):=by rw[zA f1 1];rfl
  have rz:=λk=>zE f1 k;have AJ:=A0 f1;have AI:=A0 (AC.out.trans (AA.mono AC.out.size));clear f1 AA d0 d1;unfold tmV;go_wp2_with fail
  refine A0M (w.heap.size+1) 0 (x+1) _ rfl rfl rfl (B6 (i:=1) _ (B6 (i:=0) _ AJ.out)) ⟨by simp,?_⟩;exact(AI.out.setCell (p:=⟨w.heap.size+1,0,none⟩) (Nat.le_succ _) _).setCell (p:=⟨w.heap.size+1,1,none⟩) (Nat.le_succ _) _
theorem M9.isMap {w:World} {b n:Nat} {m:List UInt8->Option (List UInt8)} (h:M9 w b n m):∃es cl,w.heap[b]?=some (.map es cl):=by
 obtain⟨D,⟨es,AA,h1,h2⟩,h3⟩:=h;exact⟨es,AA,h1⟩
theorem W3.ne_map {B b:Nat} {bs:List UInt8} {w:World} (h:W3 B b bs w) {k:Nat} {es:Array MapEntry} {cl:Nat} (hk:w.heap[k]?=some (.map es cl)):k≠b:=by
 rintro rfl;obtain⟨-,v,lr,hb,-⟩:=h;rw[hk] at hb;cases hb
def Hd.prom (H:Hd):Hd:= {H with typ:=if H.typ=0 then(if T9 H.name then 53 else 48) else H.typ}
def Hd.rnd (H:Hd):Hd:=if H.fmt=0 then {H with mw:=0,mx:=H.mx+(if 500000000<H.mw then 1 else 0),aw:=0,ax:=0,cw:=0,cx:=0} else H
theorem B4a (H:Hd):H.rnd.typ=H.typ:=by unfold Hd.rnd;split<;>rfl
theorem B3J (H:Hd):H.rnd.size=H.size:=by unfold Hd.rnd;split<;>rfl
def WM (G0:Nat) (E:Nat->Addr) (B tw b fw:Nat) (H:Hd) (R0:KV) (AA bs:List UInt8) (w wx:World):Prop:=WS G0 E B tw b fw 0 H AA bs .nilIface wx/\J4 wx H.recs R0 wx.heap.size/\Fr B [b,tw] w wx
theorem WM.set {G0:Nat} {E:Nat->Addr} {B tw b fw:Nat} {H:Hd} {R0:KV} {AA bs:List UInt8} {w wx:World} (h:WM G0 E B tw b fw H R0 AA bs w wx) (k:Nat) (hk:k<20) (v:Value) (H2:Hd) (he:H.cells.set k v=H2.cells) (hr:H2.recs=H.recs):
  WM G0 E B tw b fw H2 R0 AA bs w (wx.setCell ⟨tw,3+k,none⟩ v):=by
 refine⟨h.1.setHdr k hk v H2 he,?_,h.2.2.setCell (p:=⟨tw,3+k,none⟩) (.inl (by simp)) _⟩;rw[hr];rcases h.2.1 with h1|⟨rb,n,h1,h2,h3,h4⟩
 ·exact .inl h1
 ·have AB:rb≠tw:=by
   obtain⟨es,cl,he⟩:=h3.isMap;rintro rfl;have:=h.1.W.1;rw[he] at this;cases this
  exact .inr ⟨rb,n,h1,by simpa[World.setCell] using h2,h3.block (C0 _ AB),h4⟩
theorem WM.below {G0:Nat} {E:Nat->Addr} {B tw b fw:Nat} {H:Hd} {R0:KV} {AA bs:List UInt8} {w wx w':World} (h:WM G0 E B tw b fw H R0 AA bs w wx) (f:Below wx.heap.size wx w'):WM G0 E B tw b fw H R0 AA bs w w':=by
 refine⟨h.1.below f,?_,h.2.2.trans ((Fr.of_below f wx.heap.size [b,tw]).wide h.1.Bw (λk hk _=>hk))⟩;rcases h.2.1 with h1|⟨rb,n,h1,h2,h3,h4⟩
 ·exact .inl h1
 ·exact .inr ⟨rb,n,h1,zL h2 f.size,h3.below f,h4⟩
theorem A8c (G0:Nat) (E:Nat->Addr) (B tw b fw AA hb:Nat) (A5p:List Value) (H:Hd) (R0:KV) (AI:Bool) (f:Bool×Bool×Bool) (m:KV) (AB bs:List UInt8) (w:World)
  (hW:TW tw b fw AA A5p (Lib.byteCells AB) .nilIface w) (hB:W3 B b bs w) (hF:FW fw b 0 w) (Ai:Gl G0 E w) (AS:G0<=B) (Ar:G0<=tw) (BF:G0<=fw) (AT:B<=w.heap.size) (AJ:AB.length=512) (hp:AA<512)
  (hh:w.heap[hb]?=some (.cells H.cells.toArray 130 (0,0))) (Ao:H.fmt=0->0<=H.mw/\H.mw<1000000000/\H.mw≠500000000/\-4611686018427387904<=H.mx/\H.mx<=4611686018427387904) (Am:HOk H.prom.rnd R0 AI f m) (hr:J4 w H.recs R0 w.heap.size) (BA:H.xattr.oneCell'=true) (Az:H.recs.oneCell'=true)
  (sz:Int) (Aq:sz=if D1 H.prom.typ then 0 else H.size) (BL:bs.length+8389608<=140737488355328):
  Calls Tryz.prog 30 #[.pointer (some ⟨tw,0,none⟩),.pointer (some ⟨hb,0,none⟩)] w λe w'=>e= .returned .nilIface/\A9x B tw b f m H.prom.rnd (bs++List.replicate AA 0) sz w w':=by
 have Ah:=B2J w B tw b fw AA hp bs _ _ hB AT hW hF (by omega);have Ak:hb≠tw:=by rintro rfl;have:=hW.1;rw[hh] at this;injection this with this;injection this with _ h2 _;exact absurd h2 (by decide)
 have BJ:hb≠b:=hB.ne hh (by decide);have BH:fw≠b:=hB.ne hF (by decide);have BI:fw≠tw:=by rintro rfl;have:=hW.1;rw[hF] at this;injection this with this;injection this with _ h2 _;exact absurd h2 (by decide)
 have BC:∀ {k:Nat} {es cl},w.heap[k]?=some (.map es cl)->k≠b:=λhk=>hB.ne_map hk;have BD:G0<=b:=zP AS hB.base;have HW:=A0 hW;have HF:=A0 hF;have Av:=A0 Ai;have AX:=A0 hh;have AY:=A0 Am;have HR:=A0 hr;have Aa:=A0 Aq;clear hW hB hF Ai hh Am hr Aq;go_enter Tryz.func30,Tryz.ntmps30
 go_wp2_with fail
 refine Ah.mono ?_;rintro e w1 ⟨rfl,AR,AO,AM⟩;have Aj:w1.heap[hb]?=some (.cells H.cells.toArray 130 (0,0)):=AM.cells AX.out (by simp;exact⟨BJ,Ak⟩) (.inr (by decide));have Al:=B0E w1 hb 0 H (At.of_heap Aj (λj v hj=>by rw[Nat.zero_add,List.getElem?_toArray];exact hj));obtain⟨w2,Ap,Ad,AU⟩:=B2Q AO H BA Az;have AG:Fr B [b,tw] w w2:=AM.trans (AU.wide (zP AT AM.size) (by simp))
 have Ab:W3 B b (bs++List.replicate AA 0) w2:=AR.carry AU (zB _) (by simp;exact λe=>Ak (by
   exact absurd e (by
    have:=AR.ne AO.1 (by decide);exact λe=>this e.symm))) (λk hk c fz e=>by
   obtain rfl:=List.mem_singleton.1 hk;rw[AO.1] at e;cases e)
 have Ag:FW fw b 0 w2:=AG.cells HF.out (by simp;exact⟨BH,BI⟩) (.inr (by decide));have Ae:WS G0 E B tw b fw 0 H AB (bs++List.replicate AA 0) .nilIface w2:=⟨Ad,Ab,Ag,Av.out.fr AG AS (by simp;exact⟨BD,Ar⟩),AS,Ar,BF,zP AT AG.size,AJ⟩
 have An:J4 w2 H.recs R0 w2.heap.size:=by
  rcases HR.out with h|⟨rb,n,h1,h2,h3,h4⟩
  ·exact .inl h
  ·have BE:rb≠b:=by
    obtain⟨es,cl,he⟩:=h3.isMap;exact BC he
   have BM:rb≠tw:=by
    obtain⟨es,cl,he⟩:=h3.isMap;rintro rfl;have:=HW.out.1;rw[he] at this;cases this
   exact .inr ⟨rb,n,h1,zL h2 AG.size,h3.fr AG (by simp;exact⟨BE,BM⟩),h4⟩
 have HM:Hid (WM G0 E B tw b fw H R0 AB (bs++List.replicate AA 0) w w2):=A0 ⟨Ae,An,AG⟩;have Ax:Hid (H.prom.fmt=0->0<=H.prom.mw/\H.prom.mw<1000000000/\H.prom.mw≠500000000/\-4611686018427387904<=H.prom.mx/\H.prom.mx<=4611686018427387904):=A0 Ao;have AP:Hid (sz=if D1 H.prom.typ then 0 else H.prom.size):=Aa
 have BS:H.name.length<=600000:=by
  have:=AY.out.nl;have e:H.prom.rnd.name=H.name:=by unfold Hd.rnd;split<;>rfl
  rwa [e] at this
 have BR: (bs++List.replicate AA 0).length=bs.length+AA:=by rw[zH,z7]
 clear AR AO AM Aj Ad AU AG Ab Ag Ae An Ah Ao;have c0:=HM.out.1.hdr 0 (.int .u8 H.typ) rfl;have c1:=HM.out.1.hdr 1 (str H.name) rfl;have z3:w2.frozen? ⟨tw,3,none⟩=false:=zE HM.out.1.W.1 3;go_upto_if 25 with (first|(refine D3 rfl 130 _ rfl ⟨hb,0,none⟩ rfl _ Al ?_)|(refine E6 rfl 130 _ _ rfl ⟨tw,3,none⟩ rfl _ rfl w2 Ap ?_)|fail)
 go_cut [] (λwx=>WM G0 E B tw b fw H.prom R0 AB (bs++List.replicate AA 0) w wx)
 case first=>
  by_cases AD:H.typ=0
  ·have AW:=A4w w2 H.name (by omega)
   cases hs:T9 H.name<;>rw[hs] at AW
   ·have HP:Hid (WM G0 E B tw b fw H.prom R0 AB (bs++List.replicate AA 0) w (w2.setCell ⟨tw,3,none⟩ (.int .u8 48))):=A0 (by
     have AH:H.prom= {H with typ:=48}:=by unfold Hd.prom;rw[if_pos AD,if_neg]<;>simp[hs]
     rw[AH];exact HM.out.set 0 (by decide) (.int .u8 48) {H with typ:=48} rfl rfl)
    have q0: (H.typ==0)=true:=by simpa using AD
    clear hs AD;go_wp2_with (first|(go_at_call 63;refine AW.mono ?_;rintro e wx ⟨rfl,rfl⟩)|fail)
    go_meet
    exact HP.out
   ·have HP:Hid (WM G0 E B tw b fw H.prom R0 AB (bs++List.replicate AA 0) w (w2.setCell ⟨tw,3,none⟩ (.int .u8 53))):=A0 (by
     have AH:H.prom= {H with typ:=53}:=by unfold Hd.prom;rw[if_pos AD,if_pos]<;>simp[hs]
     rw[AH];exact HM.out.set 0 (by decide) (.int .u8 53) {H with typ:=53} rfl rfl)
    have q0: (H.typ==0)=true:=by simpa using AD
    clear hs AD;go_wp2_with (first|(go_at_call 63;refine AW.mono ?_;rintro e wx ⟨rfl,rfl⟩)|fail)
    go_meet
    exact HP.out
  ·have q0: (H.typ==0)=false:=by rw[zG];exact AD
   have HP:Hid (WM G0 E B tw b fw H.prom R0 AB (bs++List.replicate AA 0) w w2):=A0 (by
    have AH:H.prom=H:=by unfold Hd.prom;rw[if_neg AD]
    rw[AH];exact HM.out)
   go_wp2_with fail
   go_meet
   exact HP.out
 case rest=>
 have AE:=A0 hcut;clear HM hcut c0 c1 z3 Al Ap;obtain⟨w3,As⟩:∃w3:World,w3=wc:=⟨_,rfl⟩;rw[<-As] at AE⊢;clear As wc;clear Aa AX HR;generalize Ac:H.prom=H1 at*;have Au:=A0 Ac;clear Ac;have aB:=AE.out.1.hdr 19 (.int .i64 H1.fmt) rfl;go_upto_if 45 with fail
 go_cut [] (λwx=>WM G0 E B tw b fw H1.rnd R0 AB (bs++List.replicate AA 0) w wx)
 case first=>
  by_cases hf:H1.fmt=0
  ·have q0: (H1.fmt==0)=true:=by simpa using hf
   obtain⟨r0,r1,r2,r3,r4⟩:=Ax.out hf;obtain⟨s,hs⟩:∃s:Int,s=if 500000000<H1.mw then 1 else 0:=⟨_,rfl⟩
   have AZ:=A0 (B6H w3 H1.mw H1.mx s r0 r1 ⟨r3,r4⟩ (by rw[hs];split<;>omega));have HE:Hid (H1.rnd= {H1 with mw:=0,mx:=H1.mx+s,aw:=0,ax:=0,cw:=0,cx:=0}):=A0 (by unfold Hd.rnd;rw[if_pos hf,hs]);have d9:=AE.out.1.hdr 9 (.int .u64 H1.mw) rfl;have aA:=AE.out.1.hdr 10 (.int .i64 H1.mx) rfl;clear hs hf r0 r1 r2 r3 r4;go_wp2_with fail
   refine AZ.out.mono ?_;rintro e w4 ⟨rfl,Af⟩;have AC:=A0 (AE.out.below Af);clear d9 aA Af AZ;have d9:=AC.out.1.hdr 9 (.int .u64 H1.mw) rfl;have aA:=AC.out.1.hdr 10 (.int .i64 H1.mx) rfl;have aD:=AC.out.1.hdr 11 (.int .u64 H1.aw) rfl;have aF:=AC.out.1.hdr 12 (.int .i64 H1.ax) rfl;have aG:=AC.out.1.hdr 13 (.int .u64 H1.cw) rfl;have aH:=AC.out.1.hdr 14 (.int .i64 H1.cx) rfl;have hz:=λk=>zE AC.out.1.W.1 k;have Aw:=A0 ((((((AC.out.set 9 (by decide) (.int .u64 0) {H1 with mw:=0} rfl rfl).set 10 (by decide) (.int .i64 (H1.mx+s)) {H1 with mw:=0,mx:=H1.mx+s} rfl rfl).set 11 (by decide) (.int .u64 0) {H1 with mw:=0,mx:=H1.mx+s,aw:=0} rfl rfl).set 12 (by decide) (.int .i64 0) {H1 with mw:=0,mx:=H1.mx+s,aw:=0,ax:=0} rfl rfl).set 13 (by decide) (.int .u64 0) {H1 with mw:=0,mx:=H1.mx+s,aw:=0,ax:=0,cw:=0} rfl rfl).set 14 (by decide) (.int .i64 0) {H1 with mw:=0,mx:=H1.mx+s,aw:=0,ax:=0,cw:=0,cx:=0} rfl rfl);go_wp2_with fail
   go_meet
   rw[HE.out];exact Aw.out
  ·have q0: (H1.fmt==0)=false:=by rw[zG];exact hf
   have HP:Hid (WM G0 E B tw b fw H1.rnd R0 AB (bs++List.replicate AA 0) w w3):=A0 (by
    have AH:H1.rnd=H1:=by unfold Hd.rnd;rw[if_neg hf]
    rw[AH];exact AE.out)
   go_wp2_with fail
   go_meet
   exact HP.out
 case rest=>
 have AL:=A0 hcut;clear AE hcut aB;refine‹∀ (a:Act) (BQ:World),Code.wp Tryz.prog _ (bodyPost Tryz.prog Tryz.f30 _) a BQ->_› _ _ ?_;refine B4l G0 E B tw b fw H1.rnd R0 AI f m AB (bs++List.replicate AA 0) wc AL.out.1 AY.out AL.out.2.1 sz (by rw[B4a,B3J];exact AP.out) (by omega) _ (λw' hT=> ?_);obtain⟨Ay,BO,AV,AQ,BP,t1,t2,t3,t4,t5,t6,t7,t8⟩:=hT;exact⟨rfl,Ay,BO,AV,AQ,BP,by rw[Au.out];exact t1,t2,t3,t4,t5,zP AL.out.2.2.size t6,t7,AL.out.2.2.trans t8⟩
end Go.Proofs.YtkanmkcojlefbaaGreatDoor
namespace Go.Proofs.YtkanmkcojlefbaaGreatDoor
open Go.RowKit Go.Lib
theorem B1A (w:World) (l:List UInt8) (hl:l.length<=4611686018427387904) (v:Int) (h:parseIntB 64 l= .ok v):
  Calls Tryz.prog 208 #[str l,.int .i64 10,.int .i64 0] w λe w'=>e= .returned (.tuple #[.int .i64 v,.nilIface])/\Below w.heap.size w w':=by
 refine(Tryz.strconv_ParseInt_10_at0_ok ⟨l.toArray⟩ (by rw[I6];omega) v (by simpa using h) w).mono ?_;rintro e w' ⟨rfl,h|⟨t,h⟩⟩
 ·rw[h];exact⟨rfl,zD _ _⟩
 ·rw[h];exact⟨rfl,bytesWorld_below w 5 t⟩
theorem Y3 (w:World) (l:List UInt8) (hl:l.length<=4611686018427387904) (v:Int) (h:parseIntB 64 l= .ok v):
  Calls Tryz.prog 208 #[str l,.int .i64 10,.int .i64 64] w λe w'=>e= .returned (.tuple #[.int .i64 v,.nilIface])/\Below w.heap.size w w':=by
 refine(Tryz.strconv_ParseInt_10_at64_ok ⟨l.toArray⟩ (by rw[I6];omega) v (by simpa using h) w).mono ?_;rintro e w' ⟨rfl,h|⟨t,h⟩⟩
 ·rw[h];exact⟨rfl,zD _ _⟩
 ·rw[h];exact⟨rfl,bytesWorld_below w 5 t⟩
theorem A7A {fn:Func} {t u v x:Tmp} (h:fn.results=#[.tmp t,.tmp u,.tmp v,.tmp x]) (AA:Array Value) (P:Program) (w:World):
  (results fn AA).run P w= .ok (.tuple #[AA.getD t undef,AA.getD u undef,AA.getD v undef,AA.getD x undef]) w:=by
 simp[results,h,go_sem]
theorem B3A (w:World) (k v rest:List UInt8) (AD:F0 k v=true) (AM: (X6 k v++rest).length<=1099511627776):
  Calls Tryz.prog 206 #[str (X6 k v++rest)] w λe w'=>e= .returned (.tuple #[str k,str v,str rest,.nilIface])/\Below w.heap.size w w':=by
 have AV:=(M7 AD).1;have AE:=(M7 AD).2;have Aa:=List.length_pos_iff.2 AV;have AI:X6 k v++rest=decDigits (K8 k v)++32::(k++61::(v++10::rest)):=by simp[X6]
 have AO:=A7r (K8 k v);have hc:=A9p (X6 k v++rest) 32 w (by omega) (by rw[AI];exact A6u _ _ _);rw[show(X6 k v++rest).take ((X6 k v++rest).idxOf 32)=decDigits (K8 k v) by rw[AI];exact A1o _ _ _ AO,show(X6 k v++rest).drop ((X6 k v++rest).idxOf 32+1)=k++61::(v++10::rest) by rw[AI];exact A4r _ _ _ AO] at hc;have hN:=A2J k v;have AX:=A0y k v (by omega);have Ab: (X6 k v++rest).length=K8 k v+rest.length:=by rw[zH,P7]
 have hp:=A0o (decDigits (K8 k v)) (K8 k v) (X0 _ (by omega)) (by omega) (Y1 _);have AZ: (decDigits (K8 k v)).length=nDigits (K8 k v):=decDigits_length ..;have AR:=λw'=>B1A w' (decDigits (K8 k v)) (by omega) _ hp;have hv:=λw'=>A0c w' k v (by omega) (by omega) AD;obtain⟨m,hm⟩:∃m,m=k.length+v.length+1:=⟨_,rfl⟩;obtain⟨AB,AA⟩:∃AB,AB=k++61::v:=⟨_,rfl⟩;have hcut:=λw'=>A9p AB 61 w' (by rw[AA];simp;omega) (by rw[AA];exact A6u _ _ _);rw[show AB.take (AB.idxOf 61)=k by rw[AA];exact A1o _ _ _ AE,show AB.drop (AB.idxOf 61+1)=v by rw[AA];exact A4r _ _ _ AE] at hcut;obtain⟨r0,AP⟩:∃r0,r0=k++61::(v++10::rest):=⟨_,rfl⟩;have AC:r0=AB++([10]++rest):=by rw[AP,AA];simp
 have AH:AB.length=m:=by rw[AA,hm];simp;omega
 have AQ:r0.length=m+1+rest.length:=by rw[AC,zH,AH];simp;omega
 have Am: (⟨r0.toArray⟩:ByteArray).extract 0 m=⟨AB.toArray⟩:=by
  rw[L3,List.drop_zero,Nat.sub_zero,AC,<-AH,List.take_left]
 have An: (⟨r0.toArray⟩:ByteArray).extract m (m+1)=⟨#[10]⟩:=by
  rw[L3,AC,<-AH,List.drop_left];simp
 have Ao: (⟨r0.toArray⟩:ByteArray).extract (m+1) r0.length=⟨rest.toArray⟩:=by
  rw[L3,AC,<-AH,<-List.drop_drop,List.drop_left]
  have e: (([10]++rest:List UInt8).drop 1).take ((AB++([10]++rest)).length- (AB.length+1))=rest:=by
   rw[show([10]++rest:List UInt8).drop 1=rest from rfl];exact List.take_of_length_le (by rw[zH,zH];simp;omega)
  rw[e]
 have Ae:IntKind.i64.wrap ((K8 k v:Int)- ((decDigits (K8 k v)).length+1))=((m+1:Nat):Int):=by rw[zQ _ (by omega)];omega
 have Af:IntKind.i64.wrap ((m:Int)+1-1)=(m:Int):=by rw[zQ _ (by omega)];omega
 have Ag:IntKind.i64.wrap (m:Int)=(m:Int):=by rw[zQ _ (by omega)]
 have Ah: (m:Int)<=r0.length:=by omega
 have Ai: (m:Int)+1<=r0.length:=by omega
 have Aj: (m:Int)<=(m:Int)+1:=by omega
 have Ak: (0:Int)< (m:Int)+1:=by omega
 have Al:¬((X6 k v++rest).length:Int)<K8 k v:=by omega
 have Ad:¬(K8 k v:Int)<5:=by omega
 have Ac: ((decDigits (K8 k v)).length:Int)<100:=by have:=I4 (K8 k v) 20 (by omega);omega
 rw[<-AP] at hc;generalize X6 k v++rest=s at*;generalize decDigits (K8 k v)=ds at*;generalize K8 k v=N at*;clear AA AP AC hN AX Ab hp AZ AV AE Aa AI AO AD AM AH AQ hm;have HC:=A0 hc;have AW:=A0 AR;have HV:=A0 hv;have AJ:=A0 hcut;clear hc AR hv hcut;go_enter Tryz.func206,Tryz.ntmps206
 go_wp2_with fail
 refine HC.out.mono ?_;rintro e w1 ⟨rfl,AT⟩;have AL:Below w.heap.size w w1:=by obtain⟨q,rfl⟩:=AT;exact bdn (zD _ w) q
 clear AT;go_wp2_with fail
 refine(AW.out w1).mono ?_;rintro e w2 ⟨rfl,AS⟩;have AG:=AL.trans (AS.mono AL.size);clear AL AS;go_wp2_with fail
 go_quiet (fail)
 go_wp2_with fail
 refine(AJ.out _).mono ?_;rintro e w3 ⟨rfl,AU⟩;have AY:Below w.heap.size w w3:=by obtain⟨q,rfl⟩:=AU;exact bdn (bdn AG _) q
 clear AU AG;go_wp2_with fail
 refine(HV.out _).mono ?_;rintro e w4 ⟨rfl,rfl⟩;go_wp2_with fail
 exact bodyPost_ret (A7A rfl _ _ _) rfl ⟨rfl,AY⟩
end Go.Proofs.YtkanmkcojlefbaaGreatDoor
