/-
  Part of the proof; holds the texts RawH, Reset, Tim, RTime, SRange, NextEnd.
-/
import Derived.Test.YtkanmkcojlefbaaGreatDoorM06
import Derived.Test.YtkanmkcojlefbaaGreatDoorM05
import Derived.Lib.ItoaLen
set_option maxHeartbeats 1000000
set_option maxRecDepth 100000
set_option linter.unusedSimpArgs false
set_option linter.unusedVariables false
namespace Go.Proofs.YtkanmkcojlefbaaGreatDoor
open Go.RowKit
theorem A8z (n:Int):bits .and .i64 n 511=n% 512:=by
 have AA: (BitVec.ofInt 64 511).toNat=2^9-1:=by decide
 have key: (BitVec.ofInt 64 n&&&BitVec.ofInt 64 511).toNat=(n% ((2^64:Nat):Int)).toNat% 2^9:=by
  rw[BitVec.toNat_and,BitVec.toNat_ofInt,AA,Nat.and_two_pow_sub_one_eq_mod]
 show IntKind.i64.wrap ((BitVec.ofInt 64 n&&&BitVec.ofInt 64 511).toNat:Nat)=n% 512
 rw[key,IntKind.wrap_i64];omega
def E7 (n:Int):Int:=(-n)% 512
theorem A7V (w:World) (n:Int) (h0:0<=n) (h1:n<=9223372036854775807):Calls Tryz.prog 186 #[.int .i64 n] w (C4 w (.int .i64 (E7 n))):=by
 have e1:IntKind.i64.wrap (-n)= -n:=IntWalk.i64_in _ (by omega);have e2:bits .and .i64 (-n) 511=E7 n:=A8z _;go_enter Tryz.func186,Tryz.ntmps186
 go_wp2_with fail
 go_ret
 exact⟨rfl,rfl⟩
def D1 (t:Int):Bool:=decide (49<=t/\t<=54)
theorem A3b (w:World) (t:Int):Calls Tryz.prog 124 #[.int .u8 t] w (C4 w (.bool (D1 t))):=by
 have e:∀x:Int,(t==x)=decide (t=x):=λx=>by by_cases h:t=x<;>simp[h]
 by_cases h:49<=t/\t<=54
 ·have e2:D1 t=true:=by simp[D1];exact h
  rw[e2];have h3:t=49\/t=50\/t=51\/t=52\/t=53\/t=54:=by omega
  rcases h3 with rfl|rfl|rfl|rfl|rfl|rfl<;>
  ·clear e e2 h
   go_enter Tryz.func124,Tryz.ntmps124
   go_wp2
   go_ret
   exact⟨rfl,rfl⟩
 ·have e2:D1 t=false:=by rw[D1,decide_eq_false h]
  rw[e2];have q:∀x:Int,49<=x/\x<=54->(t==x)=false:=λx hx=>by rw[beq_eq_false_iff_ne];rintro rfl;exact h hx
  have q1:=q 49 (by omega);have q2:=q 50 (by omega);have q3:=q 51 (by omega);have q4:=q 52 (by omega);have q5:=q 53 (by omega);have q6:=q 54 (by omega);clear e e2 q h;go_enter Tryz.func124,Tryz.ntmps124
  go_wp2
  go_ret
  exact⟨rfl,rfl⟩
theorem TW.seg {tw b fw:Nat} {AD:Int} {AC:List Value} {AA:List UInt8} {AB:Value} {w:World} (h:TW tw b fw AD AC (Lib.byteCells AA) AB w):
  E4 w tw 134 (.iface 75 (.pointer (some ⟨b,0,none⟩))::.int .i64 AD::.iface 119 (.pointer (some ⟨fw,0,none⟩))::AC) AA [AB]:=by
 rw[E4,h.1];simp[J3]
theorem TW.of_seg {tw b fw:Nat} {AD:Int} {AB:List Value} {AA:List UInt8} {AC:Value} {w:World} (h:E4 w tw 134 (.iface 75 (.pointer (some ⟨b,0,none⟩))::.int .i64 AD::.iface 119 (.pointer (some ⟨fw,0,none⟩))::AB) AA [AC]) (hh:AB.length=20) (hk:AA.length=512):
  TW tw b fw AD AB (Lib.byteCells AA) AC w:=by
 refine⟨?_,hh,by rw[Lib.byteCells_length,hk]⟩;rw[h];simp[J3]
theorem E4.at {w:World} {g:Nat} {T:TypeId} {AA post:List Value} {bs:List UInt8} (h:E4 w g T AA bs post) (o:Nat) (ho:AA.length=o):At w g o (Lib.byteCells bs):=
 At.of_heap h λj v hj=>by
  subst ho;have hl:=(List.getElem?_eq_some_iff.1 hj).1;rw[List.getElem?_toArray,List.append_assoc,List.getElem?_append_right (by omega),List.getElem?_append_left (by omega)];simpa using hj
theorem X4 (w:World) (B tw b fw AI:Nat) (Af:AI<512) (bs AD:List UInt8) (AO:List Value) (size sz:Int) (AA:Int)
  (hB:W3 B b bs w) (AW:B<=w.heap.size) (hW:TW tw b fw AI AO (Lib.byteCells AD) .nilIface w) (hf:FW fw b 0 w) (Ad:bs.length+AI+512<=140737488355328)
  (Ag:0<=sz) (Ah:sz<=9223372036854775807) (AP:sz=if D1 AA then 0 else size):
  Calls Tryz.prog 133 #[.pointer (some ⟨tw,0,none⟩),.pointer (some ⟨tw,23,none⟩),.int .i64 size,.int .u8 AA] w λe w'=>e= .returned (.nilIface)/\
   ∃AB,W3 B b (bs++List.replicate AI 0++AD) w'/\TW tw b AB (E7 sz) AO (Lib.byteCells AD) .nilIface w'/\FW AB b sz w'/\w.heap.size<=AB/\AB<w'.heap.size/\Fr B [b,tw] w w':=by
 have h1:=B2J w B tw b fw AI Af bs AO (Lib.byteCells AD) hB AW hW hf (by omega);have AZ:tw≠b:=hB.ne hW.1 (by decide);have m2:=A4Y;have Ac:=λw=>A0 (A3b w AA);have AY:=λw=>A0 (A7V w sz Ag Ah);have AG:D1 AA=true->sz=0:=λh=>by rw[AP,if_pos h]
 have AH:D1 AA=false->size=sz:=λh=>by rw[AP,if_neg (by rw[h];decide)]
 clear hB hW hf;go_enter Tryz.func133,Tryz.ntmps133
 go_wp2_with fail
 refine h1.mono ?_;rintro e w1 ⟨rfl,Ab,AE,AQ⟩;have AR:AD.length=512:=by have:=AE.2.2;rwa [Lib.byteCells_length] at this
 have Aa:=AE.seg;have AX:=A2u B b (bs++List.replicate AI 0) AD tw 23 512 512 w1.drew Ab.drew (by have:=AQ.size;exact Nat.le_trans AW this) AR AZ (Aa.at 23 (by simp[AE.2.1])) (by simp;omega);have HC:=A0 AX;have AJ:=A0 AE;have AU:=A0 AQ;obtain⟨c0,c1,aA,z1,AT⟩:=V7 AE.2.1 AE.2.2 AE.1;have Ai:=block_lt_of_cell c0;clear AX AE AQ Aa h1;go_wp2_with fail
 go_region_held3 (λw'=>w'.cell? ⟨tw,0,none⟩=some (.iface 75 (.pointer (some ⟨b,0,none⟩)))) (first|go_keep|assumption)
  (first|(go_at_call 284;refine HC.out.mono ?_;rintro e w2 ⟨rfl,AV,AM⟩;have AC:=AM.cells AJ.out.1 (by simpa using AZ) (.inr (by decide));obtain⟨d0,d1,aB,z1,AT⟩:=V7 AJ.out.2.1 AJ.out.2.2 AC))
 have AL:∀w4,w4=(((w2.setCell ⟨tw,2,none⟩ (.iface 119 (.pointer (some ⟨w2.heap.size,0,none⟩)))).setCell ⟨tw,1,none⟩ (.int .i64 (E7 sz))).alloc (.cells #[.iface 75 (.pointer (some ⟨b,0,none⟩)),.int .i64 sz] 121))->
   ∃AB,W3 B b (bs++List.replicate AI 0++AD) w4/\TW tw b AB (E7 sz) AO (Lib.byteCells AD) .nilIface w4/\FW AB b sz w4/\w.heap.size<=AB/\AB<w4.heap.size/\Fr B [b,tw] w w4:=by
  rintro w4 rfl;have Ak:=A8 AC;have q2:=B6 (i:=2) (.iface 119 (.pointer (some ⟨w2.heap.size,0,none⟩))) AC;rw[A8b] at q2;have q3:=B6 (i:=1) (.int .i64 (E7 sz)) q2;rw[A4M] at q3;have e3: ((w2.setCell ⟨tw,2,none⟩ (.iface 119 (.pointer (some ⟨w2.heap.size,0,none⟩)))).setCell ⟨tw,1,none⟩ (.int .i64 (E7 sz))).heap.size=w2.heap.size:=by simp[World.setCell]
  have B3:=(AV.setCell (p:=⟨tw,2,none⟩) AC (by decide) (by decide) (.iface 119 (.pointer (some ⟨w2.heap.size,0,none⟩)))).setCell (p:=⟨tw,1,none⟩) q2 (by decide) (by decide) (.int .i64 (E7 sz));have FF:Fr B [b,tw] w _:=(((AU.out.drew.trans (AM.wide (Nat.le_refl _) (by simp))).setCell (p:=⟨tw,2,none⟩) (.inl (by simp)) (.iface 119 (.pointer (some ⟨w2.heap.size,0,none⟩)))).setCell (p:=⟨tw,1,none⟩) (.inl (by simp)) (.int .i64 (E7 sz)));have AS:w1.heap.size<=w2.heap.size:=AM.size;generalize ((w2.setCell ⟨tw,2,none⟩ (.iface 119 (.pointer (some ⟨w2.heap.size,0,none⟩)))).setCell ⟨tw,1,none⟩ (.int .i64 (E7 sz)))=w3 at*;refine⟨w2.heap.size,B3.alloc _,⟨(Below.heap_alloc w3 _ tw (A8 q3)).trans q3,AJ.out.2.1,AJ.out.2.2⟩,?_,Nat.le_trans AU.out.size AS,?_,FF.alloc _⟩
  ·have r1:=heap_alloc_new w3 (.cells #[.iface 75 (.pointer (some ⟨b,0,none⟩)),.int .i64 sz] 121)
   rw[e3] at r1;exact r1
  ·simp;omega
 have d2:w2.cell? ⟨tw,2,none⟩=some (.iface 119 (.pointer (some ⟨fw,0,none⟩))):=by rw[Lib.cell_of_heap AC];exact A3U ..
 have Al:w2.frozen? ⟨tw,2,none⟩=false:=Lib.frozen_of_heap AC 2;have HN:=A0 AL;have Aj:=A0 AC;have Ae:=A8 AC;clear AL AC AV AM c0 c1 aA;go_wp2_with fail
 refine(Ac _).out.mono ?_;rintro e wx ⟨rfl,rfl⟩;cases hb:D1 AA
 ·obtain rfl:=AH hb
  clear AP AG AH;go_wp2_with fail
  refine(AY _).out.mono ?_;rintro e wx ⟨rfl,rfl⟩;go_wp2_with fail
  go_ret
  exact⟨rfl,HN.out _ rfl⟩
 ·have hz:=AG hb
  clear AP AG AH;subst hz;go_wp2_with fail
  refine(AY _).out.mono ?_;rintro e wx ⟨rfl,rfl⟩;go_wp2_with fail
  go_ret
  exact⟨rfl,HN.out _ rfl⟩
theorem A9o:Tryz.zeroCells132.toList=Lib.byteCells (List.replicate 512 0):=by
 have h:=B0N;rw[h,A0d]
theorem B1U (w:World) (g:Nat) (T:TypeId) (AB:List Value) (bs:List UInt8) (post:List Value) (h:E4 w g T AB bs post) (AA:List UInt8) (hn:AA.length=bs.length):
  ∃w1,(storeCells ⟨g,AB.length,none⟩ (Lib.byteCells AA)).run Tryz.prog w= .ok () w1/\E4 w1 g T AB AA post/\Fr w.heap.size [g] w w1:=by
 have AC:=run_storeCells_at Tryz.prog g AB.length T (Lib.byteCells AA) 0 _ w h (by simp[Lib.byteCells_length,hn]) (Lib.byteCells_one _);simp only[Nat.add_zero] at AC;have e2:=B0K AB (Lib.byteCells bs) post (Lib.byteCells AA) (by simp[Lib.byteCells_length,hn]);have e4: (Lib.byteCells bs).drop (Lib.byteCells AA).length=[]:=List.drop_eq_nil_of_le (by simp[Lib.byteCells_length,hn]);rw[e4,List.append_nil] at e2;simp only[List.append_assoc] at AC e2;rw[e2] at AC;have:=h.row AA;rw[List.append_assoc] at this;exact⟨_,AC,this,(Fr.refl _ _ w).setRow (.inl (by simp)) _⟩
theorem A0h (w:World) (g:Nat) (T:TypeId) (AA:List Value) (bs:List UInt8) (post:List Value) (h:E4 w g T AA bs post) (hn:bs.length=512) (o:Nat) (ho:AA.length=o):
  Calls Tryz.prog 173 #[.pointer (some ⟨g,o,none⟩)] w λe w'=>e= .returned (.tuple #[])/\E4 w' g T AA (List.replicate 512 0) post/\Fr w.heap.size [g] w w':=by
 obtain⟨w1,AB,h1,h2⟩:=B1U w g T AA bs post h (List.replicate 512 0) (by rw[List.length_replicate,hn]);rw[<-A9o,ho] at AB;clear h;go_enter Tryz.func173,Tryz.ntmps173
 go_wp2_with fail
 go_end0
 exact⟨rfl,h1,h2⟩
abbrev tmV (n x:Int):Value:= .agg #[.int .u64 n,.int .i64 x]
theorem A4l (n:Int) (h0:0<=n) (h1:n<1000000000):bits .and .u64 n 9223372036854775808=0:=by
 obtain⟨k,rfl⟩:∃k:Nat,n=k:=⟨n.toNat,by omega⟩;rw[show(9223372036854775808:Int)=((9223372036854775808:Nat):Int) from rfl,u64_and_nat k _ (by omega) (by omega)]
 have:k&&&9223372036854775808=0:=by
  apply Nat.eq_of_testBit_eq;intro i;rw[Nat.testBit_and,Nat.zero_testBit,show 9223372036854775808=2^63 from rfl,Nat.testBit_two_pow];by_cases hi:63=i
  ·subst hi
   have:k.testBit 63=false:=Nat.testBit_lt_two_pow (by omega);simp[this]
  ·simp[hi]
 rw[this];rfl
theorem A7S (n:Int) (h0:0<=n) (h1:n<1000000000):bits .and .u64 n 1073741823=n:=by
 obtain⟨k,rfl⟩:∃k:Nat,n=k:=⟨n.toNat,by omega⟩;rw[show(1073741823:Int)=((1073741823:Nat):Int) from rfl,u64_and_nat k _ (by omega) (by omega),show 1073741823=2^30-1 from rfl,Nat.and_two_pow_sub_one_eq_mod,Nat.mod_eq_of_lt (by omega)]
theorem B4i (w:World) (g o:Nat) (n x:Int) (h0:0<=n) (h1:n<1000000000) (c0:w.cell? ⟨g,o,none⟩=some (.int .u64 n)) (c1:w.cell? ⟨g,o+1,none⟩=some (.int .i64 x)):
  Calls Tryz.prog 163 #[.pointer (some ⟨g,o,none⟩)] w (C4 w (.int .i64 x)):=by
 have e:=A4l n h0 h1;go_enter Tryz.func163,Tryz.ntmps163
 go_wp2_with fail
 go_ret
 exact⟨rfl,rfl⟩
theorem A6b (w:World) (g o:Nat) (n x:Int) (h0:0<=n) (h1:n<1000000000) (c0:w.cell? ⟨g,o,none⟩=some (.int .u64 n)) (c1:w.cell? ⟨g,o+1,none⟩=some (.int .i64 x)):
  Calls Tryz.prog 164 #[.pointer (some ⟨g,o,none⟩)] w (C4 w (.int .i32 n)):=by
 have e:=A7S n h0 h1;go_enter Tryz.func164,Tryz.ntmps164
 go_wp2_with fail
 go_ret
 exact⟨rfl,rfl⟩
theorem B3U (w:World) (g o:Nat) (n x:Int) (h0:0<=n) (h1:n<1000000000) (hx: -100000000000000000<=x-62135596800/\x-62135596800<=100000000000000000) (c0:w.cell? ⟨g,o,none⟩=some (.int .u64 n)) (c1:w.cell? ⟨g,o+1,none⟩=some (.int .i64 x)):
  Calls Tryz.prog 169 #[.pointer (some ⟨g,o,none⟩)] w (C4 w (.int .i64 (x-62135596800))):=by
 have h:=B4i w g o n x h0 h1 c0 c1;have e:IntKind.i64.wrap (x+ -62135596800)=x-62135596800:=by rw[IntWalk.i64_in _ (by omega)];omega
 go_enter Tryz.func169,Tryz.ntmps169
 go_wp2_with fail
 refine h.mono ?_;rintro e w1 ⟨rfl,rfl⟩;go_wp2_with fail
 go_ret
 exact⟨rfl,rfl⟩
theorem A0k (w:World) (n x:Int) (h0:0<=n) (h1:n<1000000000) (hx: -100000000000000000<=x-62135596800/\x-62135596800<=100000000000000000):
  Calls Tryz.prog 103 #[tmV n x] w λe w'=>e= .returned (.int .i64 (x-62135596800))/\Below w.heap.size w w':=by
 have a1:=heap_alloc_new w (.cells #[.int .u64 n,.int .i64 x] 126);have h:=B3U (w.alloc (.cells #[.int .u64 n,.int .i64 x] 126)) w.heap.size 0 n x h0 h1 hx (by rw[Lib.cell_of_heap a1];rfl) (by rw[Lib.cell_of_heap a1];rfl);go_enter Tryz.func103,Tryz.ntmps103
 go_wp2_with fail
 refine h.mono ?_;rintro e w1 ⟨rfl,rfl⟩;go_wp2_with fail
 go_ret
 exact⟨rfl,(Below.refl _ w).alloc (Nat.le_refl _) _⟩
theorem A6a (w:World) (n x:Int) (h0:0<=n) (h1:n<1000000000):
  Calls Tryz.prog 104 #[tmV n x] w λe w'=>e= .returned (.int .i64 n)/\Below w.heap.size w w':=by
 have a1:=heap_alloc_new w (.cells #[.int .u64 n,.int .i64 x] 126);have h:=A6b (w.alloc (.cells #[.int .u64 n,.int .i64 x] 126)) w.heap.size 0 n x h0 h1 (by rw[Lib.cell_of_heap a1];rfl) (by rw[Lib.cell_of_heap a1];rfl);go_enter Tryz.func104,Tryz.ntmps104
 go_wp2_with fail
 refine h.mono ?_;rintro e w1 ⟨rfl,rfl⟩;go_wp2_with fail
 go_ret
 exact⟨rfl,(Below.refl _ w).alloc (Nat.le_refl _) _⟩
def E5 (n x:Int):Bool:=decide (n=0/\x=0)
theorem V6 (w:World) (n x:Int):
  Calls Tryz.prog 74 #[tmV n x] w λe w'=>e= .returned (.bool (E5 n x))/\Below w.heap.size w w':=by
 by_cases hn:n=0
 ·have e:E5 n x=(x==0):=by by_cases hx:x=0<;>simp[E5,hn,hx]
  rw[e];subst hn;go_enter Tryz.func74,Tryz.ntmps74
  go_wp2
  go_ret
  exact⟨rfl,(Below.refl _ w).alloc (Nat.le_refl _) _⟩
 ·have e:E5 n x=false:=by simp[E5,hn]
  rw[e];have AA: (n==0)=false:=by simp[hn]
  go_enter Tryz.func74,Tryz.ntmps74
  go_wp2
  go_ret
  exact⟨rfl,(Below.refl _ w).alloc (Nat.le_refl _) _⟩
theorem A0M {R:Ending->World->Prop} {fn:Func} {t:Tmp} {a:Act} (g:Nat) (n x:Int) (w:World) (hr:fn.results=#[.cell t 126]) (hp:a.tmps.getD t undef= .pointer (some ⟨g,0,none⟩)) (hd:a.defers=[])
  (hg:w.heap[g]?=some (.cells #[.int .u64 n,.int .i64 x] 126 (0,0))) (hR:R (.returned (tmV n x)) w):bodyPost Tryz.prog fn R .ret a w:=
 bodyPost_ret (results_cell_row hr _ _ g 126 #[.int .u64 n,.int .i64 x] (0,0) _ hp hg Tryz.underlying126 rfl (by kernel_rfl)) hd hR
theorem A6c (w:World) (s n:Int) (h0:0<=n) (h1:n<1000000000) (hs: -100000000000000000<=s/\s<=100000000000000000):
  Calls Tryz.prog 145 #[.int .i64 s,.int .i32 n] w λe w'=>e= .returned (tmV n (s+62135596800))/\Below w.heap.size w w':=by
 have e:IntKind.i64.wrap (s+62135596800)=s+62135596800:=by rw[IntWalk.i64_in _ (by omega)]
 go_enter Tryz.func145,Tryz.ntmps145
 go_wp2
 exact A0M w.heap.size n (s+62135596800) _ rfl rfl rfl (heap_alloc_new w _) ⟨rfl,(Below.refl _ w).alloc (Nat.le_refl _) _⟩
theorem tOf (w:World) (s n:Int) (h0:0<=n) (h1:n<1000000000) (hs: -100000000000000000<=s/\s<=100000000000000000):
  Calls Tryz.prog 70 #[.int .i64 s,.int .i64 n] w λe w'=>e= .returned (tmV n (s+62135596800))/\Below w.heap.size w w':=by
 have h:=λw'=>A6c w' s n h0 h1 hs;have h2:¬n<0:=by omega
 have h3:¬(1000000000:Int)<=n:=by omega
 go_enter Tryz.func70,Tryz.ntmps70
 go_wp2_with fail
 refine(h _).mono ?_;rintro e w1 ⟨rfl,hb⟩;have a1:=(hb.block w.heap.size (by simp)).trans (heap_alloc_new w (.cells #[.int .u64 0,.int .i64 0] 126));have AA:Below w.heap.size w w1:=((Below.refl _ w).alloc (Nat.le_refl _) _).trans (hb.mono (by simp));have z0:=Lib.frozen_of_heap a1 0;have z1:=Lib.frozen_of_heap a1 1;have d0:w1.cell? ⟨w.heap.size,0,none⟩=some (.int .u64 0):=by rw[Lib.cell_of_heap a1];rfl
 have d1:w1.cell? ⟨w.heap.size,1,none⟩=some (.int .i64 0):=by rw[Lib.cell_of_heap a1];rfl
 have a2:=B6 (i:=1) (.int .i64 (s+62135596800)) (B6 (i:=0) (.int .u64 n) a1);have AB:=(AA.setCell (p:=⟨w.heap.size,0,none⟩) (Nat.le_refl _) (.int .u64 n)).setCell (p:=⟨w.heap.size,1,none⟩) (Nat.le_refl _) (.int .i64 (s+62135596800));have A2:=A0 a2;have HB:=A0 AB;clear a1 a2 AB hb AA h;go_wp2_with fail
 exact A0M w.heap.size n (s+62135596800) _ rfl rfl rfl A2.out ⟨rfl,HB.out⟩
end Go.Proofs.YtkanmkcojlefbaaGreatDoor
namespace Go.Proofs.YtkanmkcojlefbaaGreatDoor
open Go.RowKit Go.Lib
theorem B6F (w:World) (s n:Int) (h0: -1000000000<n) (h1:n<0) (hs: -100000000000000000<=s-1/\s-1<=100000000000000000):
  Calls Tryz.prog 70 #[.int .i64 s,.int .i64 n] w λe w'=>e= .returned (tmV (n+1000000000) (s-1+62135596800))/\Below w.heap.size w w':=by
 have h:=λw'=>A6c w' (s-1) (n+1000000000) (by omega) (by omega) hs
 have hq:n.tdiv 1000000000=0:=by
  rw[show n= -(-n) by omega,Int.neg_tdiv,Int.tdiv_eq_zero_of_lt (by omega) (by omega)];rfl
 have AC:IntKind.i64.wrap (s-1)=s-1:=by rw[IntWalk.i64_in _ (by omega)]
 have AD:IntKind.i64.wrap (n+1000000000)=n+1000000000:=by rw[IntWalk.i64_in _ (by omega)]
 have AE:IntKind.i32.wrap (n+1000000000)=n+1000000000:=by rw[IntKind.wrap_i32];omega
 have AG:IntKind.i64.wrap s=s:=by rw[IntWalk.i64_in _ (by omega)]
 have AH:IntKind.i64.wrap n=n:=by rw[IntWalk.i64_in _ (by omega)]
 go_enter Tryz.func70,Tryz.ntmps70
 go_wp2_with fail
 refine(h _).mono ?_;rintro e w1 ⟨rfl,hb⟩;have a1:=(hb.block w.heap.size (by simp)).trans (heap_alloc_new w (.cells #[.int .u64 0,.int .i64 0] 126));have AA:Below w.heap.size w w1:=((Below.refl _ w).alloc (Nat.le_refl _) _).trans (hb.mono (by simp));have z0:=Lib.frozen_of_heap a1 0;have z1:=Lib.frozen_of_heap a1 1;have d0:w1.cell? ⟨w.heap.size,0,none⟩=some (.int .u64 0):=by rw[Lib.cell_of_heap a1];rfl
 have d1:w1.cell? ⟨w.heap.size,1,none⟩=some (.int .i64 0):=by rw[Lib.cell_of_heap a1];rfl
 have a2:=B6 (i:=1) (.int .i64 (s-1+62135596800)) (B6 (i:=0) (.int .u64 (n+1000000000)) a1);have AB:=(AA.setCell (p:=⟨w.heap.size,0,none⟩) (Nat.le_refl _) (.int .u64 (n+1000000000))).setCell (p:=⟨w.heap.size,1,none⟩) (Nat.le_refl _) (.int .i64 (s-1+62135596800));have A2:=A0 a2;have HB:=A0 AB;clear a1 a2 AB hb AA h;go_wp2_with fail
 exact A0M w.heap.size (n+1000000000) (s-1+62135596800) _ rfl rfl rfl A2.out ⟨rfl,HB.out⟩
def A6h (s n:Int) (w:World) (e:Ending) (w':World):Prop:=e= .returned (.tuple #[tmV n (s+62135596800),.nilIface])/\Below w.heap.size w w'
theorem A5M {R:Ending->World->Prop} {fn:Func} {t u:Tmp} {a:Act} (g:Nat) (n x:Int) (ev:Value) (w:World) (hr:fn.results=#[.cell t 126,.tmp u]) (hp:a.tmps.getD t undef= .pointer (some ⟨g,0,none⟩)) (he:a.tmps.getD u undef=ev) (hd:a.defers=[])
  (hg:w.heap[g]?=some (.cells #[.int .u64 n,.int .i64 x] 126 (0,0))) (hR:R (.returned (.tuple #[tmV n x,ev])) w):bodyPost Tryz.prog fn R .ret a w:=by
 refine bodyPost_ret (v:= .tuple #[tmV n x,ev]) ?_ hd hR;have hl:=run_loadVar_row (P:=Tryz.prog) w g 126 126 #[.int .u64 n,.int .i64 x] (0,0) _ hg Tryz.underlying126 rfl (by kernel_rfl);rw[results_cell_tmp hr,hp,he];simp[asAddr,Result.andThen,hl]
theorem A9N (w:World) (s:Int) (hs: -100000000000000000<=s/\s<=100000000000000000):Calls Tryz.prog 209 #[str (C9 s 0)] w (A6h s 0 w):=by
 have e:C9 s 0=itoa s:=by rw[C9,if_pos rfl]
 rw[e];have AH:=A2f s;have hp:=T0 s (by omega) (by omega);have hl: (itoa s).length<=21:=itoa_length_le s (by omega) (by omega);have AA:=heap_alloc_new w (.cells #[.int .u64 0,.int .i64 0] 126);have AG:Below w.heap.size w (w.alloc (.cells #[.int .u64 0,.int .i64 0] 126)):=(Below.refl _ w).alloc (Nat.le_refl _) _;have HC:=A0 (λwx=>B6T (itoa s) 46 wx (by omega) AH);have HP:=A0 (λwx=>Y3 wx (itoa s) (by omega) s hp);have HT:=A0 (λwx=>tOf wx s 0 (by omega) (by omega) hs);have HN:=A0 AA;have HB:=A0 AG;have AI:w.heap.size< (w.alloc (.cells #[.int .u64 0,.int .i64 0] 126)).heap.size:=A8 AA;clear AH hp hl AA AG e;generalize itoa s=l at*;go_enter Tryz.func209,Tryz.ntmps209
 go_wp2_with fail
 refine(HC.out _).mono ?_;rintro e w1 ⟨rfl,rfl⟩;generalize w.alloc (.cells #[.int .u64 0,.int .i64 0] 126)=wz at*;go_wp2_with fail
 refine(HP.out _).mono ?_;rintro e w2 ⟨rfl,AC⟩;go_wp2_with fail
 refine(HT.out _).mono ?_;rintro e w3 ⟨rfl,AD⟩;have a1:=(AD.block w.heap.size (Nat.lt_of_lt_of_le AI AC.size)).trans ((AC.block w.heap.size AI).trans HN.out);have AB:Below w.heap.size w w3:=(HB.out.trans (AC.mono HB.out.size)).trans (AD.mono (Nat.le_trans HB.out.size AC.size));have z0:=Lib.frozen_of_heap a1 0;have z1:=Lib.frozen_of_heap a1 1;have d0:w3.cell? ⟨w.heap.size,0,none⟩=some (.int .u64 0):=by rw[Lib.cell_of_heap a1];rfl
 have d1:w3.cell? ⟨w.heap.size,1,none⟩=some (.int .i64 0):=by rw[Lib.cell_of_heap a1];rfl
 have a2:=B6 (i:=1) (.int .i64 (s+62135596800)) (B6 (i:=0) (.int .u64 0) a1);have AE:=(AB.setCell (p:=⟨w.heap.size,0,none⟩) (Nat.le_refl _) (.int .u64 0)).setCell (p:=⟨w.heap.size,1,none⟩) (Nat.le_refl _) (.int .i64 (s+62135596800));have A2:=A0 a2;have AJ:=A0 AE;clear a1 a2 AE AB AC AD HC HP HT;go_wp2_with fail
 exact A5M w.heap.size 0 (s+62135596800) .nilIface _ rfl rfl rfl rfl A2.out ⟨rfl,AJ.out⟩
def B1m (p:List UInt8) (d k:Nat) (w0 w:World):Prop:=w.heap[d]?=some (.cells (Lib.byteCells (p.take k++List.replicate (9-k) 48)).toArray 318 (0,0))/\Below d w0 w
theorem A5G (w:World) (l ss p:List UInt8) (x y:Int) (hf:A9v l ss p x y) (AM:Bool) (Aw:0<ss.length) (BE:ss.length<=100) (AL: (ss.getD 0 0==45)=AM) (hx: -100000000000000000<=x-1/\x<=100000000000000000) (n1 s1:Int) (h1:AM=true->n1=1000000000-y/\s1=x-1) (h2:AM=false->n1=y/\s1=x):
  Calls Tryz.prog 209 #[str l] w (A6h s1 n1 w):=by
 have hcut:=A9p l 46 (w.alloc (.cells #[.int .u64 0,.int .i64 0] 126)) (by rw[hf.eq,List.length_append,List.length_cons];have:=hf.len;omega) (by rw[hf.eq];exact A6u _ _ _);rw[show l.take (l.idxOf 46)=ss by rw[hf.eq];exact A1o _ _ _ hf.nodot,show l.drop (l.idxOf 46+1)=p by rw[hf.eq];exact A4r _ _ _ hf.nodot] at hcut;have Au:=hf.len;have Av:=List.length_pos_iff.2 hf.ne;have AB:=heap_alloc_new w (.cells #[.int .u64 0,.int .i64 0] 126);have Ag:Below w.heap.size w (w.alloc (.cells #[.int .u64 0,.int .i64 0] 126)):=(Below.refl _ w).alloc (Nat.le_refl _) _;have HP:=A0 (λwx=>Y3 wx ss (by omega) x hf.whole);have Aa: (p++List.replicate (9-p.length) 48).length=9:=by simp;omega
 have AS:=A0 (λwx=>Y3 wx (p++List.replicate (9-p.length) 48) (by omega) y hf.part);have HN:=A0 AB;have HB:=A0 Ag;have HC:=A0 hcut;have HF:=A0 hf;have BF:w.heap.size< (w.alloc (.cells #[.int .u64 0,.int .i64 0] 126)).heap.size:=A8 AB;clear AB Ag hcut hf;go_enter Tryz.func209,Tryz.ntmps209
 go_wp2_with fail
 refine HC.out.mono ?_;rintro e w1 ⟨rfl,AW⟩;have AG:Below w.heap.size w w1:=by obtain⟨q,rfl⟩:=AW;exact bdn HB.out q
 have AZ:w1.heap[w.heap.size]?=some (.cells #[.int .u64 0,.int .i64 0] 126 (0,0)):=by obtain⟨q,rfl⟩:=AW;exact HN.out
 have Ab:w.heap.size<w1.heap.size:=A8 AZ;clear AW HC HB HN;go_wp2_with fail
 refine(HP.out _).mono ?_;rintro e w2 ⟨rfl,AU⟩;have Ad:=A0 ((AU.block w.heap.size Ab).trans AZ);have Am:=A0 (AG.trans (AU.mono AG.size));have Ay:=A8 Ad.out;have BD:¬((p.length:Int)=0):=by omega
 clear AZ AG AU HP;go_wp2_with fail
 have Ae:B1m p w2.heap.size 0 w2 (w2.alloc (.cells #[.int .u8 48,.int .u8 48,.int .u8 48,.int .u8 48,.int .u8 48,.int .u8 48,.int .u8 48,.int .u8 48,.int .u8 48] 318)):=
  ⟨heap_alloc_new w2 _,(Below.refl _ w2).alloc (Nat.le_refl _) _⟩
 have AQ:=A0 Ae;clear Ae;obtain⟨d,hd⟩:∃d,d=w2.heap.size:=⟨_,rfl⟩;rw[<-hd] at AQ⊢;have HD:=A0 hd;clear hd;generalize w2.alloc (.cells #[.int .u8 48,.int .u8 48,.int .u8 48,.int .u8 48,.int .u8 48,.int .u8 48,.int .u8 48,.int .u8 48,.int .u8 48] 318)=wz at*;go_loopw [37] (λi wr=>∃k:Nat,k<=p.length/\i= .int .i64 k/\Hid (B1m p d k w2 wr)) (λi _=>p.length- (RowKit.intOf i).toNat)
 case atStart=>exact⟨0,by omega,rfl,AQ⟩
 case round=>
  obtain⟨k,hk,rfl,hS⟩:=hrel;clear AQ;by_cases Aj:k<p.length
  ·have AY: (k:Int)<p.length:=by omega
   have BC: (k:Int)<9:=by omega
   have AX:=HF.out.dig p[k] (List.getElem_mem Aj)
   have Aq:∀wx,(Instr.index 9 (str p) (.int .i64 k)).run Tryz.prog wx= .ok (.int .u8 p[k].toNat) wx:=by
    intro wx;rw[run_index_string (P:=Tryz.prog) (w:=wx) 9 ⟨p.toArray⟩ .i64 k Tryz.underlying9,dif_pos ⟨by omega,by rw[I6];omega⟩];rfl
   have Al:p.take k++[p[k]]=p.take (k+1):=List.take_append_getElem Aj;generalize p[k]=c at*;obtain⟨An,Ao⟩:=AX;have Az:¬(c.toNat:Int)<48:=by omega
   have BA:¬(57:Int)< (c.toNat:Int):=by omega
   obtain⟨AA,AH⟩:=hS.out;have Ar: (Lib.byteCells (p.take k++List.replicate (9-k) 48)).length=9:=by rw[Lib.byteCells_length,List.length_append,List.length_take,List.length_replicate];omega
   have Ap:∃v0,wr.cell? ⟨d,k,none⟩=some v0:=⟨_,by rw[Lib.cell_of_heap AA,List.getElem?_toArray,List.getElem?_eq_getElem (by omega)]⟩;obtain⟨v0,BH⟩:=Ap;have hz:wr.frozen? ⟨d,k,none⟩=false:=Lib.frozen_of_heap AA k
   have AB:B1m p d (k+1) w2 (wr.setCell ⟨d,k,none⟩ (.int .u8 c.toNat)):=by
    refine⟨?_,AH.setCell (p:=⟨d,k,none⟩) (Nat.le_refl _) _⟩;have:=B6 (i:=k) (.int .u8 c.toNat) AA;rw[this]
    have e: (p.take k++List.replicate (9-k) 48).set k c=p.take (k+1)++List.replicate (9- (k+1)) 48:=by
     rw[List.set_append_right _ _ (by rw[List.length_take];omega),List.length_take,Nat.min_eq_left (by omega),Nat.sub_self,show 9-k=(9- (k+1))+1 by omega,List.replicate_succ,List.set_cons_zero,<-Al];simp
    rw[List.setIfInBounds_toArray,<-e];simp[Lib.byteCells,List.map_set]
   have AR:=A0 AB;clear AA AH Ar AB hS Al An Ao AS;go_wp2_with fail
   go_roundw
   case rel=>exact⟨k+1,by omega,by go_num,AR⟩
   case measure=>simp[RowKit.intOf];omega
  ·obtain rfl:k=p.length:=by omega
   have AY:¬(p.length:Int)<p.length:=by omega
   obtain⟨AA,AH⟩:=hS.out;rw[List.take_length] at AA;have Ah:=O1 wr d 0 9 (p++List.replicate (9-p.length) 48) (At.of_heap AA (λj u hj=>by rw[Nat.zero_add,List.getElem?_toArray];exact hj));rw[Aa] at Ah;have hg:wr.heap[w.heap.size]?=some (.cells #[.int .u64 0,.int .i64 0] 126 (0,0)):=(AH.block w.heap.size (by have:=HD.out;omega)).trans Ad.out;have Af:Below w.heap.size w wr:=Am.out.trans (AH.mono (by have:=HD.out;omega))
   have Ai:∀wx,(Instr.index 9 (str ss) (.int .i64 0)).run Tryz.prog wx= .ok (.int .u8 (ss.getD 0 0).toNat) wx:=by
    intro wx;rw[run_index_string (P:=Tryz.prog) (w:=wx) 9 ⟨ss.toArray⟩ .i64 0 Tryz.underlying9,dif_pos ⟨by omega,by rw[I6];omega⟩];have e:ss.getD 0 0=ss[0]:=by rw[List.getD_eq_getElem?_getD,List.getElem?_eq_getElem Aw];rfl
    rw[e];rfl
   have hq: (((ss.getD 0 0).toNat:Int)==45)=AM:=by
    rw[<-AL];by_cases AT:ss.getD 0 0=45
    ·rw[AT];rfl
    ·rw[beq_eq_false_iff_ne.2 AT,beq_eq_false_iff_ne]
     intro h;exact AT (UInt8.toNat_inj.1 (show(ss.getD 0 0).toNat=45 by omega))
   have Ax: (0:Int)<ss.length:=by omega
   have y0:=HF.out.y0;have y1:=HF.out.y1;have HG:=A0 hg;have AP:=A0 Af;clear hS AA AH hg Af AL Av Au;generalize (ss.getD 0 0).toNat=b0 at*;go_wp2_with fail
   refine(AS.out _).mono ?_;rintro e w4 ⟨rfl,AV⟩;have a1:=(AV.block w.heap.size (A8 HG.out)).trans HG.out;have AI:Below w.heap.size w w4:=AP.out.trans (AV.mono AP.out.size);have A1:=A0 a1;have Ac:=A0 AI;clear a1 AI AV HG AP AS Ah;have AJ:∀w5:World,Below w4.heap.size w4 w5->w5.heap[w.heap.size]?=some (.cells #[.int .u64 0,.int .i64 0] 126 (0,0))/\Below w.heap.size w w5:=λw5 AE=>⟨(AE.block w.heap.size (A8 A1.out)).trans A1.out,Ac.out.trans (AE.mono Ac.out.size)⟩;have AD:=A0 AJ;clear AJ;cases AM
   ·obtain⟨e1,e2⟩:=h2 rfl
    subst e1;subst e2;have HT:=A0 (tOf w4 s1 n1 (by omega) (by omega) (by omega));clear h1 h2;go_wp2_with fail
    refine HT.out.mono ?_;rintro e w5 ⟨rfl,AE⟩;obtain⟨a1,AC⟩:=AD.out w5 AE;have z0:=Lib.frozen_of_heap a1 0;have z1:=Lib.frozen_of_heap a1 1;have d0:w5.cell? ⟨w.heap.size,0,none⟩=some (.int .u64 0):=by rw[Lib.cell_of_heap a1];rfl
    have d1:w5.cell? ⟨w.heap.size,1,none⟩=some (.int .i64 0):=by rw[Lib.cell_of_heap a1];rfl
    have A2:=A0 (B6 (i:=1) (.int .i64 (s1+62135596800)) (B6 (i:=0) (.int .u64 n1) a1));have AO:=A0 ((AC.setCell (p:=⟨w.heap.size,0,none⟩) (Nat.le_refl _) (.int .u64 n1)).setCell (p:=⟨w.heap.size,1,none⟩) (Nat.le_refl _) (.int .i64 (s1+62135596800)));clear a1 AC AE HT AD;go_wp2_with fail
    exact A5M w.heap.size n1 (s1+62135596800) .nilIface _ rfl rfl rfl rfl A2.out ⟨rfl,AO.out⟩
   ·obtain⟨e1,e2⟩:=h1 rfl
    have As:IntKind.i64.wrap (-1*y)= -y:=by rw[IntWalk.i64_in _ (by omega)];omega
    have Ak:IntKind.i64.wrap (-y)= -y:=by rw[IntWalk.i64_in _ (by omega)]
    have ht:=B6F w4 x (-y) (by omega) (by omega) (by omega);rw[show-y+1000000000=n1 by omega,show x-1=s1 by omega] at ht;have HT:=A0 ht;clear h1 h2 ht e1 e2;go_wp2_with fail
    refine HT.out.mono ?_;rintro e w5 ⟨rfl,AE⟩;obtain⟨a1,AC⟩:=AD.out w5 AE;have z0:=Lib.frozen_of_heap a1 0;have z1:=Lib.frozen_of_heap a1 1;have d0:w5.cell? ⟨w.heap.size,0,none⟩=some (.int .u64 0):=by rw[Lib.cell_of_heap a1];rfl
    have d1:w5.cell? ⟨w.heap.size,1,none⟩=some (.int .i64 0):=by rw[Lib.cell_of_heap a1];rfl
    have A2:=A0 (B6 (i:=1) (.int .i64 (s1+62135596800)) (B6 (i:=0) (.int .u64 n1) a1));have AO:=A0 ((AC.setCell (p:=⟨w.heap.size,0,none⟩) (Nat.le_refl _) (.int .u64 n1)).setCell (p:=⟨w.heap.size,1,none⟩) (Nat.le_refl _) (.int .i64 (s1+62135596800)));clear a1 AC AE HT AD;go_wp2_with fail
    exact A5M w.heap.size n1 (s1+62135596800) .nilIface _ rfl rfl rfl rfl A2.out ⟨rfl,AO.out⟩
theorem A3h (w:World) (s n:Int) (hn:0<=n/\n<1000000000) (hs: -100000000000000000<=s/\s<=100000000000000000):Calls Tryz.prog 209 #[str (C9 s n)] w (A6h s n w):=by
 by_cases h0:n=0
 ·subst h0;exact A9N w s hs
 by_cases AA:s<0
 ·obtain⟨p,hf⟩:=A7x s n AA (by omega) (by omega) hn.2
  have hl: (itoa (-(s+1))).length<=21:=itoa_length_le _ (by omega) (by omega);exact A5G w _ _ p _ _ hf true (by simp) (by simp;omega) rfl (by omega) n s (λ_=>⟨by omega,by omega⟩) (λh=>by cases h)
 ·obtain⟨p,hf⟩:=A7y s n (by omega) (by omega) (by omega) hn.2
  have hl: (itoa s).length<=21:=itoa_length_le _ (by omega) (by omega);have e:=A2H s (by omega);have AB:=A8s s.toNat;rw[e] at hf hl;refine A5G w _ _ p _ _ hf false (List.length_pos_iff.2 AB) (by omega) ?_ (by omega) n s (λh=>by cases h) (λ_=>⟨rfl,rfl⟩);rw[beq_eq_false_iff_ne];intro AC
  have hm: (decDigits s.toNat).getD 0 0∈decDigits s.toNat:=by
   rw[List.getD_eq_getElem?_getD,List.getElem?_eq_getElem (List.length_pos_iff.2 AB)];exact List.getElem_mem _
  have:=Y1 _ _ hm;rw[AC] at this;revert this;decide
end Go.Proofs.YtkanmkcojlefbaaGreatDoor
namespace Go.Proofs.YtkanmkcojlefbaaGreatDoor
open Go.RowKit Go.Maps Go.WideMaps Go.ChangeMaps
def K9 (w:World) (b r n:Nat) (m:List UInt8->Option (List UInt8)) (AA:List UInt8->Bool) (AB:Nat):Prop:=
 ∃ (D:DataW Unit) (left:Lit->Bool),w.ranges Tryz.prog 9 (plainElem Tryz.prog 9) b r n D left AB/\A4i D m/\∀k,left (.string k)=AA k
theorem K9.owns {w:World} {b r n:Nat} {m:List UInt8->Option (List UInt8)} {AA:List UInt8->Bool} {AB:Nat} (h:K9 w b r n m AA AB):M9 w b n m:=by
 obtain⟨D,left,h1,h2,h3⟩:=h;exact⟨D,h1.owns,h2⟩
theorem K9.left_eq {w:World} {b r n:Nat} {m:List UInt8->Option (List UInt8)} {AA:List UInt8->Bool} {AB:Nat} (h:K9 w b r n m AA AB):w.rangeLeft b r=AB:=by
 obtain⟨D,left,h1,h2,h3⟩:=h;exact h1.left_eq
theorem K9.lt {w:World} {b r n:Nat} {m:List UInt8->Option (List UInt8)} {AA:List UInt8->Bool} {AB:Nat} (h:K9 w b r n m AA AB):r<w.heap.size:=by
 obtain⟨D,left,h1,h2,h3⟩:=h;exact h1.lt
theorem K9.block {w w':World} {b r n:Nat} {m:List UInt8->Option (List UInt8)} {AC:List UInt8->Bool} {AE:Nat} (h:K9 w b r n m AC AE) (hb:w'.heap[b]?=w.heap[b]?) (hr:w'.heap[r]?=w.heap[r]?):K9 w' b r n m AC AE:=by
 obtain⟨D,left,⟨es,AA,AB,AD,c0,x1,x2,x3,x4,x5,x6⟩,h2,h3⟩:=h;exact⟨D,left,⟨es,AA,AB,AD,c0,hb.trans x1,x2,x3,x4,hr.trans x5,x6⟩,h2,h3⟩
theorem K9.below {w w':World} {b r n:Nat} {m:List UInt8->Option (List UInt8)} {AA:List UInt8->Bool} {AB:Nat} (h:K9 w b r n m AA AB) (f:Below w.heap.size w w'):K9 w' b r n m AA AB:=
 h.block (f.block b h.owns.lt) (f.block r h.lt)
theorem B3T (s:ByteArray): (Value.string s)=str s.data.toList:=by
 show _=Value.string ⟨s.data.toList.toArray⟩
 rw[Array.toArray_toList]
theorem A1Q {key:Value} {kl:Lit} (h:keyOf Tryz.prog 9 key=some kl):∃k:List UInt8,key=str k/\kl= .string k/\k.length<=maxLen:=by
 cases key<;>simp[keyOf,Tryz.underlying9,mapKey] at h
 rename_i s;obtain⟨hl,rfl⟩:=h;exact⟨s.data.toList,B3T s,rfl,hl⟩
theorem A7B {w:World} {b n:Nat} {D:DataW Unit} (h:w.ownsMap Tryz.prog 9 (plainElem Tryz.prog 9) b n D):Maps.size D<=n:=by
 obtain⟨es,AA,h1,h2,h3,rfl⟩:=h;rw[size_eq,length_sorted];simpa using h3
section
variable {ops:Array Oper} {rest:List Oper} {o:Oper} {a:Act} {Q:Exit->Act->World->Prop}
theorem X3 (w:World) (hg:o.guard=none) (mo:Operand) (AC:o.op=Op.range 127 mo) (b n:Nat) (m:List UInt8->Option (List UInt8)) (hm:a.eval mo= .map (some b)) (h:M9 w b n m)
  (hK:∀w' AB,K9 w' b w.heap.size n m (λk=>(m k).isSome) AB->AB<=n->w.grownBy w' none->w'.heap.size=w.heap.size+1->wpList Tryz.prog ops Q rest (a.put o.dst (.pointer (some ⟨w.heap.size,0,none⟩))) w'):
  wpList Tryz.prog ops Q (o::rest) a w:=by
 obtain⟨D,h1,h2⟩:=h;refine wpList_range_own w hg mo 127 AC 9 9 A4x Tryz.underlying127 (plainElem Tryz.prog 9) b n D hm h1 (λw' r1 r2 r3=>hK w' (Maps.size D) ⟨D,Maps.has D,r1,h2,λk=> ?_⟩ (A7B h1) r2 r3);have:=h2 k;cases AA:m k with
 |none=>rw[AA] at this;show has D _=(m k).isSome;rw[AA];exact this
 |some v=>rw[AA] at this;show has D _=(m k).isSome;rw[AA];exact this.1
theorem Z1 (w:World) (hg:o.guard=none) (it:Operand) (AS:o.op=Op.next it false) (b r n:Nat) (m:List UInt8->Option (List UInt8)) (AA:List UInt8->Bool) (AE:Nat) (AL:a.eval it= .pointer (some ⟨r,0,none⟩)) (h:K9 w b r n m AA AE)
  (AC:AE=0->(∀k,AA k=false)->wpList Tryz.prog ops Q rest (a.put o.dst (.tuple #[.bool false])) w)
  (AD:∀ (k v:List UInt8) (w':World) (AB:Nat),k.length<=maxLen->v.length<=maxLen->AA k=true->m k=some v->K9 w' b r n m (λz=>AA z&& !decide (z=k)) AB->AB<AE->
   Fr w.heap.size [r] w w'->w'.heap.size=w.heap.size->(Instr.entry (.pointer (some ⟨r,0,none⟩))).run Tryz.prog w'= .ok (.tuple #[str k,str v]) w'->wpList Tryz.prog ops Q rest (a.put o.dst (.tuple #[.bool true,str k,str v])) w'):
  wpList Tryz.prog ops Q (o::rest) a w:=by
 obtain⟨D,left,h1,h2,h3⟩:=h
 refine wpList_next_ranges w hg it AS 9 A4x (plainElem Tryz.prog 9) (λl:List UInt8=>str l) (λl:List UInt8=>str l) (λkey kl hk=>by obtain⟨k,rfl,-,-⟩:=A1Q hk;exact⟨k,rfl⟩)
  (λv y hv=>by obtain⟨s,rfl,-,-⟩:=plainElem_string_inv Tryz.underlying9 hv;exact⟨_,B3T s⟩) b r n D left AE AL h1 (λc0 hl=>AC c0 (λk=>by rw[<-h3 k];exact hl _)) ?_
 intro k v kl y w' AB AG AP hv AH AT AQ AJ AV AI;obtain⟨k2,AM,rfl,AO⟩:=A1Q AG
 obtain rfl:k=k2:=by
  have: (⟨k.toArray⟩:ByteArray)=⟨k2.toArray⟩:=by injection AM
  have:=congrArg (λb:ByteArray=>b.data.toList) this;simpa using this
 obtain⟨s,hs,rfl,AW⟩:=plainElem_string_inv Tryz.underlying9 hv;have AU: (⟨v.toArray⟩:ByteArray)=s:=by injection hs
 subst AU
 have AR:m k=some v:=by
  have hk:=h2 k;cases hm:m k with
  |none=>
   rw[hm] at hk;simp only at hk;have h5:=AH .nil;rw[atKey_of_not_has hk] at h5;cases h5
  |some u=>
   rw[hm] at hk;simp only at hk;have h5:=AH .nil;rw[hk.2] at h5;simp at h5;rw[h5]
 have AX:∀z:List UInt8,(left (.string z)&& !(Lit.string z).sameKey (.string k))=(AA z&& !decide (z=k)):=λz=>by
  rw[h3 z];refine congrArg (λb=>AA z&& !b) ?_;by_cases hz:z=k
  ·subst hz;simp[Lit.sameKey]
  ·simp[Lit.sameKey,hz]
 exact AD k v w' AB AO AW (by rw[<-h3 k];exact AP) AR ⟨D,_,AT,h2,AX⟩ AQ (A0w AJ _) AV AI
end
theorem M9.len_run {w:World} {b n:Nat} {m:List UInt8->Option (List UInt8)} (h:M9 w b n m):∃c:Nat,(∀ty,(Builtin.len_ #[127] ty #[.map (some b)]).run Tryz.prog w= .ok (.int .i64 c) w)/\c<=n/\(c=0↔∀k,m k=none):=by
 obtain⟨D,h1,h2⟩:=h;refine⟨Maps.size D,λty=>h1.len Tryz.underlying127 ty,A7B h1,?_,?_⟩
 ·intro h0 k
  obtain⟨es,rfl⟩:=h1.isMap;have:es=[]:=List.eq_nil_of_length_eq_zero h0;subst this;have:=h2 k;cases hm:m k with
  |none=>rfl
  |some v=>rw[hm] at this;exact absurd this.1 (by simp[has_eq])
 ·intro hn
  obtain⟨es,he,AE,hk⟩:=h1.entries A4x;subst he;cases es with
  |nil=>rfl
  |cons p r=>
   exfalso
   obtain⟨AB,AA,h3,F,h4,h5⟩:=h1
   have hp:p∈(AB.toList.map (Go.WideElems.rg Tryz.prog 9 (plainElem Tryz.prog 9))):=by
    have h6: (DataW.map (p::r):DataW Unit)=_:=h5;injection h6 with h6
    rw[<-Go.mem_sorted,<-h6];simp
   obtain⟨k,AC⟩:=fit_keys F p hp;obtain⟨kk,rfl,AD,-⟩:=A1Q AC;have:=h2 kk;rw[hn kk] at this;simp only at this;rw[has_eq,List.any_eq_false] at this;exact this p (by simp) (by rw[AD];simp[Lit.sameKey])
theorem A4B (w:World) (ty:TypeId): (Builtin.len_ #[127] ty #[.map none]).run Tryz.prog w= .ok (.int .i64 0) w:=Maps.len_nil Tryz.underlying127 ty
end Go.Proofs.YtkanmkcojlefbaaGreatDoor
namespace Go.Proofs.YtkanmkcojlefbaaGreatDoor
open Go.RowKit
theorem B2i (w:World) (b:Nat) (v:Value) (n:Int) (h:w.heap[b]?=some (.cells #[v,.int .i64 n] 148)): (method 511 146 (.pointer (some ⟨b,0,none⟩)) "tapearchives/pub/gotar.physicalRemaining").run Tryz.prog w=
  .ok (348,.agg #[v,.int .i64 n]) w:=by
 have f0:w.cell? ⟨b,0,none⟩=some v:=by rw[Lib.cell_of_heap h];rfl
 have f1:w.cell? ⟨b,1,none⟩=some (.int .i64 n):=by rw[Lib.cell_of_heap h];rfl
 have h: (method 511 146 (.pointer (some ⟨b,0,none⟩)) "tapearchives/pub/gotar.physicalRemaining").run Tryz.prog w=
  ((loadVar 148 ⟨b,0,none⟩).bind λv=>pure (348,v)).run Tryz.prog w:=by kernel_rfl
 rw[h]
 have hl: (loadVar 148 ⟨b,0,none⟩).run Tryz.prog w= .ok (.agg #[v,.int .i64 n]) w:=by
  simp[loadVar,go_sem,f0,f1]
 exact(Sem.run_bind ..).trans (by rw[hl];rfl)
theorem B7P (w:World) (v:Value) (n:Int):Calls Tryz.prog 348 #[.agg #[v,.int .i64 n]] w λe w'=>e= .returned (.int .i64 n)/\Below w.heap.size w w':=by
 go_enter Tryz.func348,Tryz.ntmps348
 go_wp2
 go_ret
 exact⟨rfl,(Below.refl _ _).alloc (Nat.le_refl _) _⟩
def FRd (fr r:Nat) (nb:Int) (w:World):Prop:=w.heap[fr]?=some (.cells #[.iface 84 (.pointer (some ⟨r,0,none⟩)),.int .i64 nb] 148)
end Go.Proofs.YtkanmkcojlefbaaGreatDoor
