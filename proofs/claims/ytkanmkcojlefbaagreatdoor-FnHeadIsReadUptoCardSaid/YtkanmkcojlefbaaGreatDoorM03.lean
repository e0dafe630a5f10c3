/-
  Part of the proof; holds the texts HeadEnd, Oct8, Shelf2.
-/
import Derived.Test.YtkanmkcojlefbaaGreatDoorM02
import Derived.Shelf.Strings.OnBuilder
import Derived.Shelf.Small.Utf8
import Derived.Shelf.Strings.BuilderK
import Derived.Shelf.Strconv.Itoa4
import Derived.Shelf.Strconv.ErrVarParseInt
import Derived.Shelf.Strings.LastIndexAll
import Derived.Shelf.Strings.Repeat
import Derived.Shelf.Path.Join
set_option maxRecDepth 100000
set_option linter.unusedSimpArgs false
set_option linter.unusedVariables false
namespace Go.Proofs.YtkanmkcojlefbaaGreatDoor
open Go.RowKit
theorem O1 (w:World) (g o c:Nat) (l:List UInt8) (h:At w g o (Lib.byteCells l)): (convert 35 9 (.slice (some ⟨g,o,none⟩) l.length c)).run Tryz.prog w= .ok (.string ⟨l.toArray⟩) w:=
 run_convert_bytes_back w 35 9 5 ⟨g,o,none⟩ c l Tryz.underlying35 Tryz.underlying5 Tryz.underlying9 (λj hj=>h.src j _ (by simp[Lib.byteCells,hj]))
theorem A1K (w:World) (g1 o1 n1 c1 g2 o2 n2 c2:Nat) (xs ys:List UInt8) (h1:At w g1 o1 (Lib.byteCells xs)) (h2:At w g2 o2 (Lib.byteCells ys)) (e1:xs.length=n1) (e2:ys.length=n2):
  Calls Tryz.prog 197 #[.slice (some ⟨g1,o1,none⟩) n1 c1,.slice (some ⟨g2,o2,none⟩) n2 c2] w λe w'=>e= .returned (.bool (xs==ys))/\w=w':=by
 subst e1;subst e2;refine(Tryz.bytes_Equal_strs _ _ _ _ w (O1 w g1 o1 c1 xs h1) (O1 w g2 o2 c2 ys h2)).mono ?_;rintro e w' ⟨rfl,rfl⟩;simp
theorem A5u (rv AE AA AD:Value) (AC AB:List Value) (k:AC.length=512) (k2:AB.length=512):
  splice (rv::AE::AA::(AC++[AD])) 3 AB=rv::AE::AA::(AB++[AD]):=by
 simp[splice,k2,k]
def TR (tr r:Nat) (AD:Int) (AA:Value) (AB:List Value) (AC:Value) (w:World):Prop:=
 w.heap[tr]?=some (.cells (N8 (.iface 84 (.pointer (some ⟨r,0,none⟩))) (.int .i64 AD) AA AB AC) 152 (0,0))/\AB.length=512
theorem O4 {w:World} {tr:Nat} {rv AD AA AC:Value} {AB:List Value} (hk:AB.length=512) (hW:w.heap[tr]?=some (.cells (N8 rv AD AA AB AC) 152 (0,0))):
  w.cell? ⟨tr,0,none⟩=some rv/\w.cell? ⟨tr,1,none⟩=some AD/\w.cell? ⟨tr,2,none⟩=some AA/\w.cell? ⟨tr,515,none⟩=some AC/\w.frozen? ⟨tr,1,none⟩=false/\w.frozen? ⟨tr,2,none⟩=false/\w.frozen? ⟨tr,515,none⟩=false:=
 ⟨by rw[Lib.cell_of_heap hW];exact B3C ..,by rw[Lib.cell_of_heap hW];exact B3D ..,by rw[Lib.cell_of_heap hW];exact B3E ..,by rw[Lib.cell_of_heap hW];exact A5I _ _ _ _ _ hk,Lib.frozen_of_heap hW 1,Lib.frozen_of_heap hW 2,Lib.frozen_of_heap hW 515⟩
def A4h (tr r g n c i:Nat) (AC:Int) (AA:Value) (bs:List UInt8) (AB:Value) (w:World) (e:Ending) (w':World):Prop:=
 e= .returned (.tuple #[.int .i64 512,.nilIface])/\RD r g n c (i+512) w'/\TR tr r AC AA (Lib.byteCells ((bs.drop i).take 512)) AB w'/\Fr w.heap.size [r,tr] w w'
theorem A2I (w:World) (tr r g n c i:Nat) (AE:Int) (AA AD:Value) (bs:List UInt8) (AG:List Value) (h:RD r g n c i w) (ht:TR tr r AE AA AG AD w) (hi:i+512<=n) (AB:n<4611686018427387904) (AI:n<=c)
  (hb:bs.length=n) (AC:At w g 0 (Lib.byteCells bs)) (AH:g≠r):
  Calls Tryz.prog 196 #[.iface 84 (.pointer (some ⟨r,0,none⟩)),.slice (some ⟨tr,3,none⟩) 512 512] w (A4h tr r g n c i AE AA bs AD w):=by
 obtain⟨ht,hk⟩:=ht
 have AJ:tr≠r:=by
  rintro rfl;obtain⟨p,hr⟩:=h;rw[ht] at hr;cases hr
 refine(A5v w r g n c i tr 3 512 512 bs _ 152 h (by omega) (by omega) (Nat.le_refl _) AB AI hb AC ht (by simp[hk]) AJ AH).mono ?_;rintro e w' ⟨rfl,h2,h3,h4⟩;have hl: (Lib.byteCells ((bs.drop i).take 512)).length=512:=by rw[Lib.byteCells_length,List.length_take,List.length_drop,hb];omega
 rw[A5u _ _ _ _ _ _ hk hl] at h3;exact⟨rfl,h2,⟨h3,hl⟩,h4⟩
theorem TR.at {tr r:Nat} {AC:Int} {AA AB:Value} {l:List UInt8} {w:World} (h:TR tr r AC AA (Lib.byteCells l) AB w):At w tr 3 (Lib.byteCells l):=
 At.of_heap h.1 (λj v hj=>by rw[A9R _ _ _ _ _ h.2 j (by have:=(List.getElem?_eq_some_iff.1 hj).1;rw[h.2] at this;exact this)];exact hj)
theorem RD.alloc {r g n c i:Nat} {w:World} (h:RD r g n c i w) (o:Obj):RD r g n c i (w.alloc o):=by
 obtain⟨p,hr⟩:=h;exact⟨p,(Below.heap_alloc w o r (A8 hr)).trans hr⟩
theorem A3F (w:World):At (w.alloc (.cells Tryz.zeroCells132 132)).drew w.heap.size 0 (Lib.byteCells (List.replicate 512 0)):=
 At.of_heap (T:=132) (fz:=(0,0)) (heap_alloc_new w _) (λj v hj=>by rw[Nat.zero_add];exact A4m j v 512 (Nat.le_refl _) hj)
theorem At.frame {w w':World} {g o:Nat} {cs:List Value} (h:At w g o cs) {B:Nat} {S:List Nat} (f:Fr B S w w') (hB:w.heap.size<=B) (hg:g∉S):At w' g o cs:=λj v hj=>
 f.cell (h j v hj) hg (Nat.lt_of_lt_of_le (block_lt_of_cell (h j v hj)) hB)
theorem B5e (w:World):Calls Tryz.prog 260 #[.int .i64 8] w λe w'=>e= .returned (.bool true)/\w=w':=by
 go_enter Tryz.func260,Tryz.ntmps260
 go_wp2
 go_ret
 exact⟨rfl,rfl⟩
theorem tz8 (w:World) (AA:w.cell? ⟨15,7,none⟩=some (.int .u8 3)):Calls Tryz.prog 289 #[.int .u64 8] w λe w'=>e= .returned (.int .i64 3)/\w=w':=by
 have hv:IntKind.u64.wrap (bits BinOp.and IntKind.u64 8 (IntKind.u64.wrap (-8))*285870213051353865)/288230376151711744=7:=by kernel_rfl
 go_enter Tryz.func289,Tryz.ntmps289
 go_wp2
 go_ret
 exact⟨rfl,rfl⟩
theorem B8s (w:World) (AA:w.cell? ⟨15,7,none⟩=some (.int .u8 3)):Calls Tryz.prog 261 #[.int .u64 8] w λe w'=>e= .returned (.int .i64 3)/\w=w':=by
 have h:=tz8 w AA;go_enter Tryz.func261,Tryz.ntmps261
 go_wp2_with fail
 refine h.mono ?_;rintro e w1 ⟨rfl,rfl⟩;go_wp2_with fail
 go_ret
 exact⟨rfl,rfl⟩
def od (k:Nat):UInt8:=UInt8.ofNat (48+k)
def E3 (u:Nat):List UInt8:=if u<8 then [od u] else E3 (u/8)++[od (u% 8)]
termination_by u
decreasing_by omega
theorem U4 {u:Nat} (h:u<8):E3 u=[od u]:=by rw[E3,if_pos h]
theorem A0L {u:Nat} (h:8<=u):E3 u=E3 (u/8)++[od (u% 8)]:=by rw[E3,if_neg (by omega)]
theorem A1T:∀ (k u:Nat),u<8^ (k+1)->(E3 u).length<=k+1:=by
 intro k;induction k with
 |zero=>intro u h;rw[U4 (by omega)];simp
 |succ k ih=>
  intro u h;by_cases h8:u<8
  ·rw[U4 h8];simp
  ·rw[A0L (by omega),List.length_append]
   have:u/8<8^ (k+1):=by rw[Nat.div_lt_iff_lt_mul (by omega),<-Nat.pow_succ];exact h
   have:=ih _ this;simp;omega
def A7e:ByteArray:=⟨#[48,49,50,51,52,53,54,55,56,57,97,98,99,100,101,102,103,104,105,106,107,108,109,110,111,112,113,114,115,116,117,118,119,120,121,122]⟩
theorem B0A (k:Nat) (h:k<8) (h2:k<A7e.size):A7e[k]'h2=od k:=by
 match k,h with
 |0,_=>rfl
 |1,_=>rfl
 |2,_=>rfl
 |3,_=>rfl
 |4,_=>rfl
 |5,_=>rfl
 |6,_=>rfl
 |7,_=>rfl
theorem B8C (v:Nat) (h:v<9223372036854775808):bits .and .u64 (v:Int) 7=((v% 8:Nat):Int):=by
 rw[show(7:Int)=((7:Nat):Int) from rfl,u64_and_nat v 7 (by omega) (by omega)];rw[show 7=2^3-1 from rfl,Nat.and_two_pow_sub_one_eq_mod]
theorem B4m:Tryz.zeroCells336=([]++Lib.byteCells (List.replicate 65 0)++[]).toArray:=by kernel_rfl
theorem A0n (u:Nat):1<=(E3 u).length:=by rw[E3];split<;>simp
theorem B5N (z:Int) (k:Nat) (hz:z.toNat=k) (hk:k<8) (h2:z.toNat< (⟨#[48,49,50,51,52,53,54,55,56,57,97,98,99,100,101,102,103,104,105,106,107,108,109,110,111,112,113,114,115,116,117,118,119,120,121,122]⟩:ByteArray).size): (⟨#[48,49,50,51,52,53,54,55,56,57,97,98,99,100,101,102,103,104,105,106,107,108,109,110,111,112,113,114,115,116,117,118,119,120,121,122]⟩:ByteArray)[z.toNat]'h2=od k:=by subst hz;exact B0A _ hk h2
theorem A7g (u:Nat) (w:World) (hu:u<9223372036854775808) (AD:w.cell? ⟨15,7,none⟩=some (.int .u8 3)):
  Calls Tryz.prog 224 #[.slice none 0 0,.int .u64 u,.int .i64 8,.bool false,.bool false] w λe w'=>e= .returned (.tuple #[.slice none 0 0,str (E3 u)])/\Below w.heap.size w w':=by
 have hp:=λw=>B5e w;have AC: (w.alloc (.cells (Tryz.zeroCells336) 336)).cell? ⟨15,7,none⟩=some (.int .u8 3):=((Below.refl w.heap.size w).alloc (Nat.le_refl _) _).cell (block_lt_of_cell AD)|>.trans AD;have ht:=B8s _ AC;have hS:E4 (w.alloc (.cells (Tryz.zeroCells336) 336)) w.heap.size 336 [] (List.replicate 65 0) []:=by rw[E4,<-B4m];exact heap_alloc_new w _
 have AI:=(Below.refl w.heap.size w).alloc (Nat.le_refl _) (.cells (Tryz.zeroCells336) 336);have AL:=A1T 20 u (by omega);go_enter Tryz.func224,Tryz.ntmps224
 go_wp2_with fail
 refine(hp _).mono ?_;rintro e w1 ⟨rfl,rfl⟩;go_wp2_with fail
 refine ht.mono ?_;rintro e w1 ⟨rfl,rfl⟩;go_wp2_with fail
 generalize w.alloc (.cells (Tryz.zeroCells336) 336)=w1 at*;go_loopw [1,13] (λa b wr=>∃ (v i:Nat) (AA:List UInt8),a= .int .u64 v/\b= .int .i64 i/\E3 u=E3 v++AA/\i+AA.length=65/\v<9223372036854775808/\E4 wr w.heap.size 336 [] (List.replicate i 0++AA) []/\Below w.heap.size w wr) (λa _ _=>(intOf a).toNat)
 case atStart=>exact⟨u,65,[],rfl,rfl,by simp,rfl,hu,by simpa using hS,AI⟩
 case round=>
  obtain⟨v,i,AA,rfl,rfl,he,hi,hv,hs,hb⟩:=hrel;have AT:=A0n v;have hl: (E3 u).length=(E3 v).length+AA.length:=by rw[he,List.length_append]
  obtain⟨m,rfl⟩:∃m,i=m+1:=⟨i-1,by omega⟩;have hm:m<65:=by omega
  have hx: (List.replicate (m+1) (0:UInt8)++AA)[m]?=some 0:=by rw[List.getElem?_append_left (by simp)];simp
  have c1:=hs.cell m 0 hx;have z1:=hs.frozen m;simp only[List.length_nil,Nat.zero_add] at c1 z1
  have AB:∀d,(List.replicate (m+1) (0:UInt8)++AA).set m d=List.replicate m 0++d::AA:=λd=>by
   rw[List.replicate_succ',List.append_assoc,List.set_append_right _ _ (by simp)];simp
  have h7:=B8C v hv;have AU:IntKind.i64.wrap (((m+1:Nat):Int)-1)=(m:Int):=by rw[IntWalk.i64_in _ (by omega)];omega
  have AP: (m:Int)<65:=by omega
  have Hs:=A0 hs;have He:=A0 he;clear hs he hx hl;by_cases h8:8<=v
  ·have AH: (8:Int)<=v:=by omega
   have hd:=B5N (v% 8:Int) (v% 8) (by omega) (by omega);go_wp2
   go_roundw
   case rel=>
    refine⟨v/8,m,od (v% 8)::AA,by go_num,rfl,by rw[He.out,A0L h8,List.append_assoc];rfl,by simp;omega,by omega,?_,hb.setCell (Nat.le_refl _) _⟩;have h2:=Hs.out.set m (by simp;omega) (od (v% 8));rw[AB] at h2;simp only[List.length_nil,Nat.zero_add] at h2;exact h2
   case measure=>simp[intOf];omega
  ·have AH:¬(8:Int)<=v:=by omega
   have AM: (v:Int)<36:=by omega
   have hd:∀h2:v< (⟨#[48,49,50,51,52,53,54,55,56,57,97,98,99,100,101,102,103,104,105,106,107,108,109,110,111,112,113,114,115,116,117,118,119,120,121,122]⟩:ByteArray).size,(⟨#[48,49,50,51,52,53,54,55,56,57,97,98,99,100,101,102,103,104,105,106,107,108,109,110,111,112,113,114,115,116,117,118,119,120,121,122]⟩:ByteArray)[v]'h2=od v:=λh2=>B0A v (by omega) h2;have AO:Tryz.prog.arrayLen 336=65:=by kernel_rfl
   have AQ: (m:Int)<=65:=by omega
   have AR:¬m=65:=by omega
   have AS:¬65=m:=by omega
   have h2:=Hs.out.set m (by simp;omega) (od v);rw[AB] at h2;simp only[List.length_nil,Nat.zero_add] at h2;have AE:Below w.heap.size w (wr.setCell ⟨w.heap.size,m,none⟩ (.int .u8 (od v).toNat)):=hb.setCell (Nat.le_refl _) _;have e1:E3 u=od v::AA:=by rw[He.out,U4 (by omega)];rfl
   have e2:65-m=(od v::AA).length:=by simp;omega
   have ha:At (wr.setCell ⟨w.heap.size,m,none⟩ (.int .u8 (od v).toNat)) w.heap.size m (Lib.byteCells (od v::AA)):=by
    refine At.of_heap h2 λj x hj=> ?_;rw[List.getElem?_toArray,List.nil_append,List.append_nil,Lib.byteCells_append,List.getElem?_append_right (by simp[Lib.byteCells_length])];simpa[Lib.byteCells_length] using hj
   have AJ:=O1 _ w.heap.size m (65-m) (od v::AA) ha;rw[<-e2,<-e1] at AJ;have AG:=A0 AE;clear AE ha h2 e1 e2 hb h7;go_wp2
   go_ret2
   exact⟨rfl,AG.out⟩
theorem A7h (x:Int) (w:World) (h0:0<=x) (hu:x<9223372036854775808) (AA:w.cell? ⟨15,7,none⟩=some (.int .u8 3)):
  Calls Tryz.prog 168 #[.int .i64 x,.int .i64 8] w λe w'=>e= .returned (str (E3 x.toNat))/\Below w.heap.size w w':=by
 obtain⟨u,rfl⟩:∃u:Nat,x=u:=⟨x.toNat,by omega⟩;have h:=A7g u w (by omega) AA;have h1:¬(u:Int)<0:=by omega
 go_enter Tryz.func168,Tryz.ntmps168
 go_wp2_with fail
 refine h.mono ?_;rintro e w1 ⟨rfl,hb⟩;go_wp2_with fail
 go_ret
 exact⟨rfl,hb⟩
theorem A4t (x:Int) (w:World) (h0:0<=x) (hu:x<9223372036854775808) (AA:w.cell? ⟨15,7,none⟩=some (.int .u8 3)):
  Calls Tryz.prog 101 #[.int .i64 x,.int .i64 8] w λe w'=>e= .returned (str (E3 x.toNat))/\Below w.heap.size w w':=by
 have h:=A7h x w h0 hu AA;go_enter Tryz.func101,Tryz.ntmps101
 go_wp2_with fail
 refine h.mono ?_;rintro e w1 ⟨rfl,hb⟩;go_wp2_with fail
 go_ret
 exact⟨rfl,hb⟩
end Go.Proofs.YtkanmkcojlefbaaGreatDoor
namespace Go.Proofs
open Go.Shelf
def Tryz.laysM171_ren:Go.Shelf.Ren:=⟨fun|171=>190|243=>231|246=>168|283=>221|284=>222|285=>223|286=>224|129=>258|317=>257|318=>259|319=>260|320=>261|337=>288|338=>289|n=>n,fun|3=>3|9=>9|2=>2|4=>4|171=>294|0=>0|53=>124|37=>35|5=>5|173=>297|212=>335|51=>331|20=>20|213=>336|46=>167|232=>381|233=>382|n=>n,fun|17=>10|18=>14|19=>15|n=>n⟩
theorem Tryz.laysM171:Go.Proofs.LaysM.n171 Tryz.prog Tryz.laysM171_ren:= {
 mixed:=by kernel_rfl
 f129:=Tryz.func258.trans (congrArg some (by kernel_rfl))
 f171:=Tryz.func190.trans (congrArg some (by kernel_rfl))
 f243:=Tryz.func231.trans (congrArg some (by kernel_rfl))
 f246:=Tryz.func168.trans (congrArg some (by kernel_rfl))
 f283:=Tryz.func221.trans (congrArg some (by kernel_rfl))
 f284:=Tryz.func222.trans (congrArg some (by kernel_rfl))
 f285:=Tryz.func223.trans (congrArg some (by kernel_rfl))
 f286:=Tryz.func224.trans (congrArg some (by kernel_rfl))
 f317:=Tryz.func257.trans (congrArg some (by kernel_rfl))
 f318:=Tryz.func259.trans (congrArg some (by kernel_rfl))
 f319:=Tryz.func260.trans (congrArg some (by kernel_rfl))
 f320:=Tryz.func261.trans (congrArg some (by kernel_rfl))
 f337:=Tryz.func288.trans (congrArg some (by kernel_rfl))
 f338:=Tryz.func289.trans (congrArg some (by kernel_rfl))
 t0:=Tryz.underlying0
 a0:=Tryz.isAgg0
 z0:=Tryz.sizeOf0
 v0:=Tryz.zeroValue0
 t2:=Tryz.underlying2
 a2:=Tryz.isAgg2
 z2:=Tryz.sizeOf2
 v2:=Tryz.zeroValue2
 t3:=Tryz.underlying3
 a3:=Tryz.isAgg3
 z3:=Tryz.sizeOf3
 v3:=Tryz.zeroValue3
 t4:=Tryz.underlying4
 a4:=Tryz.isAgg4
 z4:=Tryz.sizeOf4
 v4:=Tryz.zeroValue4
 t5:=Tryz.underlying5
 a5:=Tryz.isAgg5
 z5:=Tryz.sizeOf5
 v5:=Tryz.zeroValue5
 t9:=Tryz.underlying9
 a9:=Tryz.isAgg9
 z9:=Tryz.sizeOf9
 v9:=Tryz.zeroValue9
 t20:=Tryz.underlying20
 a20:=Tryz.isAgg20
 z20:=Tryz.sizeOf20
 v20:=Tryz.zeroValue20
 t37:=Tryz.underlying35
 a37:=Tryz.isAgg35
 z37:=Tryz.sizeOf35
 v37:=Tryz.zeroValue35
 t46:=Tryz.underlying167
 a46:=Tryz.isAgg167
 z46:=Tryz.sizeOf167
 v46:=Tryz.zeroValue167
 t51:=Tryz.underlying331
 a51:=Tryz.isAgg331
 z51:=Tryz.sizeOf331
 v51:=Tryz.zeroValue331
 t53:=Tryz.underlying124
 a53:=Tryz.isAgg124
 z53:=Tryz.sizeOf124
 v53:=Tryz.zeroValue124
 t171:=Tryz.underlying294
 a171:=Tryz.isAgg294
 z171:=Tryz.sizeOf294
 v171:=Tryz.zeroValue294
 t173:=Tryz.underlying297
 a173:=Tryz.isAgg297
 z173:=Tryz.sizeOf297
 v173:=Tryz.zeroValue297
 t212:=Tryz.underlying335
 a212:=Tryz.isAgg335
 z212:=Tryz.sizeOf335
 v212:=Tryz.zeroValue335
 t213:=Tryz.underlying336
 a213:=Tryz.isAgg336
 z213:=Tryz.sizeOf336
 t232:=Tryz.underlying381
 a232:=Tryz.isAgg381
 z232:=Tryz.sizeOf381
 v232:=Tryz.zeroValue381
 t233:=Tryz.underlying382
 a233:=Tryz.isAgg382
 z233:=Tryz.sizeOf382
 v233:=Tryz.zeroValue382
 g17:=by kernel_rfl
 g18:=by kernel_rfl
 g19:=by kernel_rfl
 i0:=by kernel_rfl
 i2:=by kernel_rfl
 i3:=by kernel_rfl
 i4:=by kernel_rfl
 i5:=by kernel_rfl
 i9:=by kernel_rfl
 i20:=by kernel_rfl
 i37:=by kernel_rfl
 i46:=by kernel_rfl
 i51:=by kernel_rfl
 i53:=by kernel_rfl
 i171:=by kernel_rfl
 i173:=by kernel_rfl
 i212:=by kernel_rfl
 i232:=by kernel_rfl
 i233:=by kernel_rfl
 m17:=by kernel_rfl
 m18:=by kernel_rfl
 m19:=by kernel_rfl}
open Go.RowKit Go.Sort Go.Lib in
theorem Tryz.strconv_Itoa (n:Int) (h0: -9223372036854775808<=n) (h1:n<=9223372036854775807) (w:World) (AA:Lib.TabIs Tryz.prog w "internal/strconv.uint64pow10" .u64 Lib.pow10Tab):
  Calls Tryz.prog 190 #[.int .i64 n] w λe w'=>e= .returned (.string ⟨(Lib.itoa n).toArray⟩)/\∃k os,w'=grow (w.drewN k) os:=Any.strconv_Itoa Tryz.laysM171 n h0 h1 w AA
def Tryz.laysM173_ren:Go.Shelf.Ren:=⟨fun|173=>101|246=>168|283=>221|284=>222|285=>223|286=>224|129=>258|317=>257|318=>259|319=>260|320=>261|337=>288|338=>289|n=>n,fun|2=>2|3=>3|9=>9|4=>4|171=>294|0=>0|53=>124|37=>35|5=>5|173=>297|212=>335|51=>331|20=>20|213=>336|46=>167|232=>381|233=>382|n=>n,fun|17=>10|18=>14|19=>15|n=>n⟩
theorem Tryz.laysM173:Go.Proofs.LaysM.n173 Tryz.prog Tryz.laysM173_ren:= {
 mixed:=by kernel_rfl
 f129:=Tryz.func258.trans (congrArg some (by kernel_rfl))
 f173:=Tryz.func101.trans (congrArg some (by kernel_rfl))
 f246:=Tryz.func168.trans (congrArg some (by kernel_rfl))
 f283:=Tryz.func221.trans (congrArg some (by kernel_rfl))
 f284:=Tryz.func222.trans (congrArg some (by kernel_rfl))
 f285:=Tryz.func223.trans (congrArg some (by kernel_rfl))
 f286:=Tryz.func224.trans (congrArg some (by kernel_rfl))
 f317:=Tryz.func257.trans (congrArg some (by kernel_rfl))
 f318:=Tryz.func259.trans (congrArg some (by kernel_rfl))
 f319:=Tryz.func260.trans (congrArg some (by kernel_rfl))
 f320:=Tryz.func261.trans (congrArg some (by kernel_rfl))
 f337:=Tryz.func288.trans (congrArg some (by kernel_rfl))
 f338:=Tryz.func289.trans (congrArg some (by kernel_rfl))
 t0:=Tryz.underlying0
 a0:=Tryz.isAgg0
 z0:=Tryz.sizeOf0
 v0:=Tryz.zeroValue0
 t2:=Tryz.underlying2
 a2:=Tryz.isAgg2
 z2:=Tryz.sizeOf2
 v2:=Tryz.zeroValue2
 t3:=Tryz.underlying3
 a3:=Tryz.isAgg3
 z3:=Tryz.sizeOf3
 v3:=Tryz.zeroValue3
 t4:=Tryz.underlying4
 a4:=Tryz.isAgg4
 z4:=Tryz.sizeOf4
 v4:=Tryz.zeroValue4
 t5:=Tryz.underlying5
 a5:=Tryz.isAgg5
 z5:=Tryz.sizeOf5
 v5:=Tryz.zeroValue5
 t9:=Tryz.underlying9
 a9:=Tryz.isAgg9
 z9:=Tryz.sizeOf9
 v9:=Tryz.zeroValue9
 t20:=Tryz.underlying20
 a20:=Tryz.isAgg20
 z20:=Tryz.sizeOf20
 v20:=Tryz.zeroValue20
 t37:=Tryz.underlying35
 a37:=Tryz.isAgg35
 z37:=Tryz.sizeOf35
 v37:=Tryz.zeroValue35
 t46:=Tryz.underlying167
 a46:=Tryz.isAgg167
 z46:=Tryz.sizeOf167
 v46:=Tryz.zeroValue167
 t51:=Tryz.underlying331
 a51:=Tryz.isAgg331
 z51:=Tryz.sizeOf331
 v51:=Tryz.zeroValue331
 t53:=Tryz.underlying124
 a53:=Tryz.isAgg124
 z53:=Tryz.sizeOf124
 v53:=Tryz.zeroValue124
 t171:=Tryz.underlying294
 a171:=Tryz.isAgg294
 z171:=Tryz.sizeOf294
 v171:=Tryz.zeroValue294
 t173:=Tryz.underlying297
 a173:=Tryz.isAgg297
 z173:=Tryz.sizeOf297
 v173:=Tryz.zeroValue297
 t212:=Tryz.underlying335
 a212:=Tryz.isAgg335
 z212:=Tryz.sizeOf335
 v212:=Tryz.zeroValue335
 t213:=Tryz.underlying336
 a213:=Tryz.isAgg336
 z213:=Tryz.sizeOf336
 t232:=Tryz.underlying381
 a232:=Tryz.isAgg381
 z232:=Tryz.sizeOf381
 v232:=Tryz.zeroValue381
 t233:=Tryz.underlying382
 a233:=Tryz.isAgg382
 z233:=Tryz.sizeOf382
 v233:=Tryz.zeroValue382
 g17:=by kernel_rfl
 g18:=by kernel_rfl
 g19:=by kernel_rfl
 i0:=by kernel_rfl
 i2:=by kernel_rfl
 i3:=by kernel_rfl
 i4:=by kernel_rfl
 i5:=by kernel_rfl
 i9:=by kernel_rfl
 i20:=by kernel_rfl
 i37:=by kernel_rfl
 i46:=by kernel_rfl
 i51:=by kernel_rfl
 i53:=by kernel_rfl
 i171:=by kernel_rfl
 i173:=by kernel_rfl
 i212:=by kernel_rfl
 i232:=by kernel_rfl
 i233:=by kernel_rfl
 m17:=by kernel_rfl
 m18:=by kernel_rfl
 m19:=by kernel_rfl}
open Go.RowKit Go.Sort Go.Lib in
theorem Tryz.strconv_FormatInt_10 (n:Int) (h0: -9223372036854775808<=n) (h1:n<=9223372036854775807) (w:World) (AA:Lib.TabIs Tryz.prog w "internal/strconv.uint64pow10" .u64 Lib.pow10Tab):
  Calls Tryz.prog 101 #[.int .i64 n,.int .i64 10] w λe w'=>e= .returned (.string ⟨(Lib.itoa n).toArray⟩)/\∃k os,w'=grow (w.drewN k) os:=Any.strconv_FormatInt_10 Tryz.laysM173 n h0 h1 w AA
def Tryz.laysC174_ren:Go.Shelf.Ren:=⟨fun|174=>208|247=>240|245=>241|287=>278|279=>279|280=>280|281=>281|282=>282|321=>305|322=>306|316=>307|171=>190|205=>87|243=>231|246=>168|283=>221|284=>222|285=>223|286=>224|129=>258|317=>257|318=>259|319=>260|320=>261|337=>288|338=>289|n=>n,fun|9=>9|3=>3|2=>2|75=>72|85=>269|4=>4|167=>355|5=>5|53=>124|175=>351|46=>167|168=>356|37=>35|0=>0|210=>378|21=>21|127=>264|145=>247|143=>245|171=>294|173=>297|212=>335|51=>331|20=>20|213=>336|232=>381|233=>382|80=>214|n=>n,fun|15=>12|16=>13|17=>10|18=>14|19=>15|n=>n⟩
theorem Tryz.laysC174:Go.Proofs.LaysC.n174 Tryz.prog Tryz.laysC174_ren:= {
 mixed:=by kernel_rfl
 f129:=Tryz.func258.trans (congrArg some (by kernel_rfl))
 f171:=Tryz.func190.trans (congrArg some (by kernel_rfl))
 f174:=Tryz.func208.trans (congrArg some (by kernel_rfl))
 f205:=Tryz.func87.trans (congrArg some (by kernel_rfl))
 f243:=Tryz.func231.trans (congrArg some (by kernel_rfl))
 f245:=Tryz.func241.trans (congrArg some (by kernel_rfl))
 f246:=Tryz.func168.trans (congrArg some (by kernel_rfl))
 f247:=Tryz.func240.trans (congrArg some (by kernel_rfl))
 f279:=Tryz.func279.trans (congrArg some (by kernel_rfl))
 f280:=Tryz.func280.trans (congrArg some (by kernel_rfl))
 f281:=Tryz.func281.trans (congrArg some (by kernel_rfl))
 f282:=Tryz.func282.trans (congrArg some (by kernel_rfl))
 f283:=Tryz.func221.trans (congrArg some (by kernel_rfl))
 f284:=Tryz.func222.trans (congrArg some (by kernel_rfl))
 f285:=Tryz.func223.trans (congrArg some (by kernel_rfl))
 f286:=Tryz.func224.trans (congrArg some (by kernel_rfl))
 f287:=Tryz.func278.trans (congrArg some (by kernel_rfl))
 f316:=Tryz.func307.trans (congrArg some (by kernel_rfl))
 f317:=Tryz.func257.trans (congrArg some (by kernel_rfl))
 f318:=Tryz.func259.trans (congrArg some (by kernel_rfl))
 f319:=Tryz.func260.trans (congrArg some (by kernel_rfl))
 f320:=Tryz.func261.trans (congrArg some (by kernel_rfl))
 f321:=Tryz.func305.trans (congrArg some (by kernel_rfl))
 f322:=Tryz.func306.trans (congrArg some (by kernel_rfl))
 f337:=Tryz.func288.trans (congrArg some (by kernel_rfl))
 f338:=Tryz.func289.trans (congrArg some (by kernel_rfl))
 t0:=Tryz.underlying0
 a0:=Tryz.isAgg0
 z0:=Tryz.sizeOf0
 v0:=Tryz.zeroValue0
 t2:=Tryz.underlying2
 a2:=Tryz.isAgg2
 z2:=Tryz.sizeOf2
 v2:=Tryz.zeroValue2
 t3:=Tryz.underlying3
 a3:=Tryz.isAgg3
 z3:=Tryz.sizeOf3
 v3:=Tryz.zeroValue3
 t4:=Tryz.underlying4
 a4:=Tryz.isAgg4
 z4:=Tryz.sizeOf4
 v4:=Tryz.zeroValue4
 t5:=Tryz.underlying5
 a5:=Tryz.isAgg5
 z5:=Tryz.sizeOf5
 v5:=Tryz.zeroValue5
 t9:=Tryz.underlying9
 a9:=Tryz.isAgg9
 z9:=Tryz.sizeOf9
 v9:=Tryz.zeroValue9
 t20:=Tryz.underlying20
 a20:=Tryz.isAgg20
 z20:=Tryz.sizeOf20
 v20:=Tryz.zeroValue20
 t21:=Tryz.underlying21
 a21:=Tryz.isAgg21
 z21:=Tryz.sizeOf21
 v21:=Tryz.zeroValue21
 t37:=Tryz.underlying35
 a37:=Tryz.isAgg35
 z37:=Tryz.sizeOf35
 v37:=Tryz.zeroValue35
 t46:=Tryz.underlying167
 a46:=Tryz.isAgg167
 z46:=Tryz.sizeOf167
 v46:=Tryz.zeroValue167
 t51:=Tryz.underlying331
 a51:=Tryz.isAgg331
 z51:=Tryz.sizeOf331
 v51:=Tryz.zeroValue331
 t53:=Tryz.underlying124
 a53:=Tryz.isAgg124
 z53:=Tryz.sizeOf124
 v53:=Tryz.zeroValue124
 t75:=Tryz.underlying72
 a75:=Tryz.isAgg72
 z75:=Tryz.sizeOf72
 v75:=Tryz.zeroValue72
 t85:=Tryz.underlying269
 a85:=Tryz.isAgg269
 z85:=Tryz.sizeOf269
 v85:=Tryz.zeroValue269
 t127:=Tryz.underlying264
 a127:=Tryz.isAgg264
 z127:=Tryz.sizeOf264
 v127:=Tryz.zeroValue264
 t143:=Tryz.underlying245
 a143:=Tryz.isAgg245
 z143:=Tryz.sizeOf245
 v143:=Tryz.zeroValue245
 t145:=Tryz.underlying247
 a145:=Tryz.isAgg247
 z145:=Tryz.sizeOf247
 v145:=Tryz.zeroValue247
 t167:=Tryz.underlying355
 a167:=Tryz.isAgg355
 z167:=Tryz.sizeOf355
 v167:=Tryz.zeroValue355
 t168:=Tryz.underlying356
 a168:=Tryz.isAgg356
 z168:=Tryz.sizeOf356
 v168:=Tryz.zeroValue356
 t171:=Tryz.underlying294
 a171:=Tryz.isAgg294
 z171:=Tryz.sizeOf294
 v171:=Tryz.zeroValue294
 t173:=Tryz.underlying297
 a173:=Tryz.isAgg297
 z173:=Tryz.sizeOf297
 v173:=Tryz.zeroValue297
 t175:=Tryz.underlying351
 a175:=Tryz.isAgg351
 z175:=Tryz.sizeOf351
 v175:=Tryz.zeroValue351
 t210:=Tryz.underlying378
 a210:=Tryz.isAgg378
 z210:=Tryz.sizeOf378
 v210:=Tryz.zeroValue378
 t212:=Tryz.underlying335
 a212:=Tryz.isAgg335
 z212:=Tryz.sizeOf335
 v212:=Tryz.zeroValue335
 t213:=Tryz.underlying336
 a213:=Tryz.isAgg336
 z213:=Tryz.sizeOf336
 t232:=Tryz.underlying381
 a232:=Tryz.isAgg381
 z232:=Tryz.sizeOf381
 v232:=Tryz.zeroValue381
 t233:=Tryz.underlying382
 a233:=Tryz.isAgg382
 z233:=Tryz.sizeOf382
 v233:=Tryz.zeroValue382
 g15:=by kernel_rfl
 g16:=by kernel_rfl
 g17:=by kernel_rfl
 g18:=by kernel_rfl
 g19:=by kernel_rfl
 t80:=Tryz.underlying214
 a80:=Tryz.isAgg214
 z80:=Tryz.sizeOf214
 v80:=Tryz.zeroValue214
 i0:=by kernel_rfl
 i2:=by kernel_rfl
 i3:=by kernel_rfl
 i4:=by kernel_rfl
 i5:=by kernel_rfl
 i9:=by kernel_rfl
 i20:=by kernel_rfl
 i21:=by kernel_rfl
 i37:=by kernel_rfl
 i46:=by kernel_rfl
 i51:=by kernel_rfl
 i53:=by kernel_rfl
 i75:=by kernel_rfl
 i80:=by kernel_rfl
 i85:=by kernel_rfl
 i127:=by kernel_rfl
 i143:=by kernel_rfl
 i145:=by kernel_rfl
 i167:=by kernel_rfl
 i168:=by kernel_rfl
 i171:=by kernel_rfl
 i173:=by kernel_rfl
 i175:=by kernel_rfl
 i210:=by kernel_rfl
 i212:=by kernel_rfl
 i232:=by kernel_rfl
 i233:=by kernel_rfl
 m15:=by kernel_rfl
 m16:=by kernel_rfl
 m17:=by kernel_rfl
 m18:=by kernel_rfl
 m19:=by kernel_rfl
 c0:=by kernel_rfl
 c2:=by kernel_rfl
 c3:=by kernel_rfl
 c4:=by kernel_rfl
 c5:=by kernel_rfl
 c9:=by kernel_rfl
 c20:=by kernel_rfl
 c21:=by kernel_rfl
 c37:=by kernel_rfl
 c46:=by kernel_rfl
 c51:=by kernel_rfl
 c53:=by kernel_rfl
 c75:=by kernel_rfl
 c80:=by kernel_rfl
 c85:=by kernel_rfl
 c127:=by kernel_rfl
 c143:=by kernel_rfl
 c145:=by kernel_rfl
 c167:=by kernel_rfl
 c168:=by kernel_rfl
 c171:=by kernel_rfl
 c173:=by kernel_rfl
 c175:=by kernel_rfl
 c210:=by kernel_rfl
 c212:=by kernel_rfl
 c213:=by kernel_rfl
 c232:=by kernel_rfl
 c233:=by kernel_rfl}
open Go.RowKit in
theorem Tryz.strconv_ParseInt_10_at0_ok (s:ByteArray) (AA:s.size<=9223372036854775806) (v:Int) (h:Lib.parseIntB 64 s.data.toList= .ok v) (w:World):
  Calls Tryz.prog 208 #[.string s,.int .i64 10,.int .i64 0] w λe w'=>e= .returned (.tuple #[.int .i64 v,.nilIface])/\(w'=w\/∃t,w'=Lib.bytesWorld w 5 t):=Any.strconv_ParseInt_10_at0_ok Tryz.laysC174 s AA v h w
open Go.RowKit in
theorem Tryz.strconv_ParseInt_10_at64_ok (s:ByteArray) (AA:s.size<=9223372036854775806) (v:Int) (h:Lib.parseIntB 64 s.data.toList= .ok v) (w:World):
  Calls Tryz.prog 208 #[.string s,.int .i64 10,.int .i64 64] w λe w'=>e= .returned (.tuple #[.int .i64 v,.nilIface])/\(w'=w\/∃t,w'=Lib.bytesWorld w 5 t):=Any.strconv_ParseInt_10_at64_ok Tryz.laysC174 s AA v h w
def Tryz.lays148_ren:Go.Shelf.Ren:=⟨fun|148=>167|222=>192|223=>220|269=>256|n=>n,fun|9=>9|3=>3|4=>4|5=>5|146=>332|51=>331|46=>167|n=>n,fun|n=>n⟩
theorem Tryz.lays148:Go.Proofs.Lays.n148 Tryz.prog Tryz.lays148_ren:= {
 mixed:=by kernel_rfl
 f148:=Tryz.func167.trans (congrArg some (by kernel_rfl))
 f222:=Tryz.func192.trans (congrArg some (by kernel_rfl))
 f223:=Tryz.func220.trans (congrArg some (by kernel_rfl))
 f269:=Tryz.func256.trans (congrArg some (by kernel_rfl))
 t3:=Tryz.underlying3
 a3:=Tryz.isAgg3
 z3:=Tryz.sizeOf3
 v3:=Tryz.zeroValue3
 t4:=Tryz.underlying4
 a4:=Tryz.isAgg4
 z4:=Tryz.sizeOf4
 v4:=Tryz.zeroValue4
 t5:=Tryz.underlying5
 a5:=Tryz.isAgg5
 z5:=Tryz.sizeOf5
 v5:=Tryz.zeroValue5
 t9:=Tryz.underlying9
 a9:=Tryz.isAgg9
 z9:=Tryz.sizeOf9
 v9:=Tryz.zeroValue9
 t46:=Tryz.underlying167
 a46:=Tryz.isAgg167
 z46:=Tryz.sizeOf167
 v46:=Tryz.zeroValue167
 t51:=Tryz.underlying331
 a51:=Tryz.isAgg331
 z51:=Tryz.sizeOf331
 v51:=Tryz.zeroValue331
 t146:=Tryz.underlying332
 a146:=Tryz.isAgg332
 z146:=Tryz.sizeOf332
 v146:=Tryz.zeroValue332}
open Go.RowKit Go.Lib in
theorem Tryz.strings_LastIndex (s AA:ByteArray) (hs:s.size<4611686018427387904) (w:World):
  Calls Tryz.prog 167 #[.string s,.string AA] w λe w'=>e= .returned (.int .i64 (Lib.lastIndex s.data.toList AA.data.toList))/\w'=w:=Any.strings_LastIndex Tryz.lays148 s AA hs w
def Tryz.lays99_ren:Go.Shelf.Ren:=⟨fun|99=>125|206=>172|n=>n,fun|9=>9|4=>4|3=>3|n=>n,fun|n=>n⟩
theorem Tryz.lays99:Go.Proofs.Lays.n99 Tryz.prog Tryz.lays99_ren:= {
 mixed:=by kernel_rfl
 f99:=Tryz.func125.trans (congrArg some (by kernel_rfl))
 f206:=Tryz.func172.trans (congrArg some (by kernel_rfl))
 t3:=Tryz.underlying3
 a3:=Tryz.isAgg3
 z3:=Tryz.sizeOf3
 v3:=Tryz.zeroValue3
 t4:=Tryz.underlying4
 a4:=Tryz.isAgg4
 z4:=Tryz.sizeOf4
 v4:=Tryz.zeroValue4
 t9:=Tryz.underlying9
 a9:=Tryz.isAgg9
 z9:=Tryz.sizeOf9
 v9:=Tryz.zeroValue9}
open Go.RowKit Go.Lib in
theorem Tryz.strings_HasPrefix (s p:ByteArray) (w:World):
  Calls Tryz.prog 125 #[.string s,.string p] w λe w'=>e= .returned (.bool (Lib.hasPrefix s.data.toList p.data.toList))/\w'=w:=Any.strings_HasPrefix Tryz.lays99 s p w
def Tryz.lays100_ren:Go.Shelf.Ren:=⟨fun|100=>63|207=>88|n=>n,fun|9=>9|4=>4|3=>3|n=>n,fun|n=>n⟩
theorem Tryz.lays100:Go.Proofs.Lays.n100 Tryz.prog Tryz.lays100_ren:= {
 mixed:=by kernel_rfl
 f100:=Tryz.func63.trans (congrArg some (by kernel_rfl))
 f207:=Tryz.func88.trans (congrArg some (by kernel_rfl))
 t3:=Tryz.underlying3
 a3:=Tryz.isAgg3
 z3:=Tryz.sizeOf3
 v3:=Tryz.zeroValue3
 t4:=Tryz.underlying4
 a4:=Tryz.isAgg4
 z4:=Tryz.sizeOf4
 v4:=Tryz.zeroValue4
 t9:=Tryz.underlying9
 a9:=Tryz.isAgg9
 z9:=Tryz.sizeOf9
 v9:=Tryz.zeroValue9}
open Go.RowKit Go.Lib in
theorem Tryz.strings_HasSuffix (s p:ByteArray) (w:World) (hs:s.size<=9223372036854775807):
  Calls Tryz.prog 63 #[.string s,.string p] w λe w'=>e= .returned (.bool (Lib.hasSuffix s.data.toList p.data.toList))/\w'=w:=Any.strings_HasSuffix Tryz.lays100 s p w hs
def Tryz.lays105_ren:Go.Shelf.Ren:=⟨fun|105=>175|212=>225|99=>125|165=>226|166=>137|170=>227|169=>140|263=>262|264=>263|206=>172|240=>191|241=>264|276=>232|277=>290|n=>n,fun|9=>9|3=>3|4=>4|20=>20|0=>0|46=>167|109=>299|5=>5|72=>203|76=>92|51=>331|146=>332|53=>124|148=>338|70=>201|37=>35|75=>72|127=>264|164=>305|80=>214|n=>n,fun|n=>n⟩
theorem Tryz.lays105:Go.Proofs.Lays.n105 Tryz.prog Tryz.lays105_ren:= {
 mixed:=by kernel_rfl
 f99:=Tryz.func125.trans (congrArg some (by kernel_rfl))
 f105:=Tryz.func175.trans (congrArg some (by kernel_rfl))
 f165:=Tryz.func226.trans (congrArg some (by kernel_rfl))
 f166:=Tryz.func137.trans (congrArg some (by kernel_rfl))
 f169:=Tryz.func140.trans (congrArg some (by kernel_rfl))
 f170:=Tryz.func227.trans (congrArg some (by kernel_rfl))
 f206:=Tryz.func172.trans (congrArg some (by kernel_rfl))
 f212:=Tryz.func225.trans (congrArg some (by kernel_rfl))
 f240:=Tryz.func191.trans (congrArg some (by kernel_rfl))
 f241:=Tryz.func264.trans (congrArg some (by kernel_rfl))
 f263:=Tryz.func262.trans (congrArg some (by kernel_rfl))
 f264:=Tryz.func263.trans (congrArg some (by kernel_rfl))
 f276:=Tryz.func232.trans (congrArg some (by kernel_rfl))
 f277:=Tryz.func290.trans (congrArg some (by kernel_rfl))
 t0:=Tryz.underlying0
 a0:=Tryz.isAgg0
 z0:=Tryz.sizeOf0
 v0:=Tryz.zeroValue0
 t3:=Tryz.underlying3
 a3:=Tryz.isAgg3
 z3:=Tryz.sizeOf3
 v3:=Tryz.zeroValue3
 t4:=Tryz.underlying4
 a4:=Tryz.isAgg4
 z4:=Tryz.sizeOf4
 v4:=Tryz.zeroValue4
 t5:=Tryz.underlying5
 a5:=Tryz.isAgg5
 z5:=Tryz.sizeOf5
 v5:=Tryz.zeroValue5
 t9:=Tryz.underlying9
 a9:=Tryz.isAgg9
 z9:=Tryz.sizeOf9
 v9:=Tryz.zeroValue9
 t20:=Tryz.underlying20
 a20:=Tryz.isAgg20
 z20:=Tryz.sizeOf20
 v20:=Tryz.zeroValue20
 t37:=Tryz.underlying35
 a37:=Tryz.isAgg35
 z37:=Tryz.sizeOf35
 v37:=Tryz.zeroValue35
 t46:=Tryz.underlying167
 a46:=Tryz.isAgg167
 z46:=Tryz.sizeOf167
 v46:=Tryz.zeroValue167
 t51:=Tryz.underlying331
 a51:=Tryz.isAgg331
 z51:=Tryz.sizeOf331
 v51:=Tryz.zeroValue331
 t53:=Tryz.underlying124
 a53:=Tryz.isAgg124
 z53:=Tryz.sizeOf124
 v53:=Tryz.zeroValue124
 t70:=Tryz.underlying201
 a70:=Tryz.isAgg201
 z70:=Tryz.sizeOf201
 v70:=Tryz.zeroValue201
 t72:=Tryz.underlying203
 a72:=Tryz.isAgg203
 z72:=Tryz.sizeOf203
 v72:=Tryz.zeroValue203
 t75:=Tryz.underlying72
 a75:=Tryz.isAgg72
 z75:=Tryz.sizeOf72
 v75:=Tryz.zeroValue72
 t76:=Tryz.underlying92
 a76:=Tryz.isAgg92
 z76:=Tryz.sizeOf92
 v76:=Tryz.zeroValue92
 t109:=Tryz.underlying299
 a109:=Tryz.isAgg299
 z109:=Tryz.sizeOf299
 v109:=Tryz.zeroValue299
 t127:=Tryz.underlying264
 a127:=Tryz.isAgg264
 z127:=Tryz.sizeOf264
 v127:=Tryz.zeroValue264
 t146:=Tryz.underlying332
 a146:=Tryz.isAgg332
 z146:=Tryz.sizeOf332
 v146:=Tryz.zeroValue332
 t148:=Tryz.underlying338
 a148:=Tryz.isAgg338
 z148:=Tryz.sizeOf338
 v148:=Tryz.zeroValue338
 t164:=Tryz.underlying305
 a164:=Tryz.isAgg305
 z164:=Tryz.sizeOf305
 v164:=Tryz.zeroValue305}
theorem Tryz.Builder_Extra_105:Builder.Extra Tryz.prog Tryz.lays105_ren:= {
 sizeBuilder:=by kernel_rfl
 liesBuilder:=by kernel_rfl
 t5:=Tryz.underlying5
 a5:=Tryz.isAgg5
 z5:=Tryz.sizeOf5
 v5:=Tryz.zeroValue5
 infoByte:=by kernel_rfl
 cellsByte:=by kernel_rfl
 sizeByte:=by kernel_rfl
 neB5:=by decide}
open Go.RowKit Go.Lib in
theorem Tryz.strings_Repeat (s:ByteArray) (c:Nat) (w:World) (hc:c<=9223372036854775807) (AA:s.size*c<=140737488355328):
  Calls Tryz.prog 175 #[.string s,.int .i64 c] w λe w'=>e= .returned (.string ⟨(Lib.repeatL s.data.toList c).toArray⟩)/\Below w.heap.size w w':=Any.strings_Repeat Tryz.lays105 Tryz.Builder_Extra_105 s c w hc AA
def Tryz.lays187_ren:Go.Shelf.Ren:=⟨fun|187=>212|255=>242|n=>n,fun|37=>35|5=>5|3=>3|n=>n,fun|n=>n⟩
theorem Tryz.lays187:Go.Proofs.Lays.n187 Tryz.prog Tryz.lays187_ren:= {
 mixed:=by kernel_rfl
 f187:=Tryz.func212.trans (congrArg some (by kernel_rfl))
 f255:=Tryz.func242.trans (congrArg some (by kernel_rfl))
 t3:=Tryz.underlying3
 a3:=Tryz.isAgg3
 z3:=Tryz.sizeOf3
 v3:=Tryz.zeroValue3
 t5:=Tryz.underlying5
 a5:=Tryz.isAgg5
 z5:=Tryz.sizeOf5
 v5:=Tryz.zeroValue5
 t37:=Tryz.underlying35
 a37:=Tryz.isAgg35
 z37:=Tryz.sizeOf35
 v37:=Tryz.zeroValue35}
def Tryz.laysPa29_ren:Go.Shelf.Ren:=⟨fun|29=>138|45=>192|n=>n,fun|9=>9|5=>5|3=>3|4=>4|n=>n,fun|n=>n⟩
theorem Tryz.laysPa29:Go.Proofs.Lays.p29 Tryz.prog Tryz.laysPa29_ren:= {
 mixed:=by kernel_rfl
 f29:=Tryz.func138.trans (congrArg some (by kernel_rfl))
 f45:=Tryz.func192.trans (congrArg some (by kernel_rfl))
 t3:=Tryz.underlying3
 a3:=Tryz.isAgg3
 z3:=Tryz.sizeOf3
 v3:=Tryz.zeroValue3
 t4:=Tryz.underlying4
 a4:=Tryz.isAgg4
 z4:=Tryz.sizeOf4
 v4:=Tryz.zeroValue4
 t5:=Tryz.underlying5
 a5:=Tryz.isAgg5
 z5:=Tryz.sizeOf5
 v5:=Tryz.zeroValue5
 t9:=Tryz.underlying9
 a9:=Tryz.isAgg9
 z9:=Tryz.sizeOf9
 v9:=Tryz.zeroValue9}
open Go.RowKit Go.Lib in
theorem Tryz.path_Split (s:ByteArray) (w:World) (hs:s.size<=9223372036854775807):
  Calls Tryz.prog 138 #[.string s] w λe w'=>e= .returned (.tuple #[.string ⟨(Pa.split s.data.toList).1.toArray⟩,.string ⟨(Pa.split s.data.toList).2.toArray⟩])/\∃n,w'=w.drewN n:=Any.path_Split Tryz.laysPa29 s w hs
def Tryz.laysPah31_ren:Go.Shelf.Ren:=⟨fun|31=>139|30=>193|46=>233|47=>234|48=>235|n=>n,fun|26=>54|9=>9|3=>3|0=>0|4=>4|30=>35|5=>5|42=>308|48=>349|n=>n,fun|n=>n⟩
theorem Tryz.laysPah31:Go.Proofs.Lays.ph31 Tryz.prog Tryz.laysPah31_ren:= {
 mixed:=by kernel_rfl
 f30:=Tryz.func193.trans (congrArg some (by kernel_rfl))
 f31:=Tryz.func139.trans (congrArg some (by kernel_rfl))
 f46:=Tryz.func233.trans (congrArg some (by kernel_rfl))
 f47:=Tryz.func234.trans (congrArg some (by kernel_rfl))
 f48:=Tryz.func235.trans (congrArg some (by kernel_rfl))
 t0:=Tryz.underlying0
 a0:=Tryz.isAgg0
 z0:=Tryz.sizeOf0
 v0:=Tryz.zeroValue0
 t3:=Tryz.underlying3
 a3:=Tryz.isAgg3
 z3:=Tryz.sizeOf3
 v3:=Tryz.zeroValue3
 t4:=Tryz.underlying4
 a4:=Tryz.isAgg4
 z4:=Tryz.sizeOf4
 v4:=Tryz.zeroValue4
 t5:=Tryz.underlying5
 a5:=Tryz.isAgg5
 z5:=Tryz.sizeOf5
 v5:=Tryz.zeroValue5
 t9:=Tryz.underlying9
 a9:=Tryz.isAgg9
 z9:=Tryz.sizeOf9
 v9:=Tryz.zeroValue9
 t26:=Tryz.underlying54
 a26:=Tryz.isAgg54
 z26:=Tryz.sizeOf54
 v26:=Tryz.zeroValue54
 t30:=Tryz.underlying35
 a30:=Tryz.isAgg35
 z30:=Tryz.sizeOf35
 v30:=Tryz.zeroValue35
 t42:=Tryz.underlying308
 a42:=Tryz.isAgg308
 z42:=Tryz.sizeOf308
 v42:=Tryz.zeroValue308
 t48:=Tryz.underlying349
 a48:=Tryz.isAgg349
 z48:=Tryz.sizeOf349
 v48:=Tryz.zeroValue349
 info5:=by kernel_rfl}
open Go.RowKit Go.Lib in
theorem Tryz.path_Join (bk o c:Nat) (xs:List ByteArray) (w:World) (AA:∀ (j:Nat) x,xs[j]?=some x->w.cell? ⟨bk,o+j,none⟩=some (.string x)) (AC:bk<w.heap.size) (AB:Pa.lens (xs.map (·.data.toList))+xs.length<=281474976710656):
  Calls Tryz.prog 139 #[.slice (some ⟨bk,o,none⟩) xs.length c] w λe w'=>e= .returned (.string ⟨(Pa.joinL (xs.map (·.data.toList))).toArray⟩)/\Below w.heap.size w w':=Any.path_Join Tryz.laysPah31 bk o c xs w AA AC AB
theorem Tryz.bytes_IndexByte (b o n c:Nat) (xs:List Int) (cv:Int) (w:World) (hx:xs.length=n) (hc:∀i,i<n->w.cell? ⟨b,o+i,none⟩=some (.int .u8 (xs.getD i 0))):
  Calls Tryz.prog 212 #[.slice (some ⟨b,o,none⟩) n c,.int .u8 cv] w λe w'=>e= .returned (.int .i64 (Lib.indexByte (Lib.bytesOf xs) cv.toNat.toUInt8))/\w'=w:=Any.bytes_IndexByte Tryz.lays187 b o n c xs cv w hx hc
end Go.Proofs
