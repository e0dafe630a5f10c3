/-
  Part of the proof; holds the texts SetG, WData, WRaw.
-/
import Derived.Test.YtkanmkcojlefbaaGreatDoorM19
import Derived.Stop.Asserts
set_option maxHeartbeats 4000000
set_option maxRecDepth 100000
set_option linter.unusedSimpArgs false
set_option linter.unusedVariables false
namespace Go.Proofs.YtkanmkcojlefbaaGreatDoor
open Go.RowKit
def C1.gnu (b:C1):C1:= {b with magic:=[117,115,116,97,114,32],ver:=[32,0]}
theorem A2X (w:World) (g:Nat) (T:TypeId) (AA:List Value) (b:C1) (post:List Value) (ok:b.Ok) (h:E4 w g T AA b.bytes post) (hg:g≠15) (AD:w.cell? ⟨15,7,none⟩=some (.int .u8 3)):
  Calls Tryz.prog 132 #[.pointer (some ⟨g,AA.length,none⟩),.int .i64 8] w λe w'=>e= .returned (.tuple #[])/\E4 w' g T AA b.gnu.summed.bytes post/\Fr w.heap.size [g] w w':=by
 have n1:∀w',Calls Tryz.prog 66 #[.int .i64 8,.int .i64 1] w' (C4 w' (.bool false)):=λw'=>O8 w' 8 1 (by kernel_rfl);have n2:∀w',Calls Tryz.prog 66 #[.int .i64 8,.int .i64 8] w' (C4 w' (.bool true)):=λw'=>A3D w' 8 8 (by kernel_rfl);obtain⟨w1,c1,s1,F1⟩:=A2G w g 6 255 [117,115,116,97,114,32] T _ _ _ h.get_magic ok.magic rfl _ (ok.off_magic AA);have s1:=s1.put_magic;have AO:=ok.put_magic [117,115,116,97,114,32] rfl;obtain⟨w2,c2,s2,F2⟩:=A2G w1 g 2 249 [32,0] T _ _ _ s1.get_ver AO.ver rfl _ (AO.off_ver AA);have s2:=s2.put_ver;have AC:b.gnu.Ok:=AO.put_ver [32,0] rfl;change E4 w2 g T AA b.gnu.bytes post at s2
 have AH:=AC.len;have AM:Fr w.heap.size [g] w w2:=F1.trans (F2.wide F1.size (by simp));have AP:=AM.cell AD (by simpa using Ne.symm hg) (block_lt_of_cell AD);have AE:=A2w (w2.alloc (.cells #[.nilIface] 196)) g T AA _ post (s2.below ((Below.refl _ w2).alloc (Nat.le_refl _) _)) AH;have AS:=A0l b.gnu.bytes 512;have AL:b.gnu.summed.bytes= {b.gnu with chk:=C2 7 (X8 b.gnu.bytes 512)++[32]}.bytes:=rfl;have AU:b.gnu.chk=b.gnu.chk.take 7++b.gnu.chk.drop 7:=(List.take_append_drop 7 _).symm;generalize AV:X8 b.gnu.bytes 512=sm at*;have AI:B8 7 (sm:Int)=true:=by simp[B8];omega
 have AB:∀nd,Calls Tryz.prog 130 #[.pointer (some ⟨w2.heap.size,0,none⟩),.slice (some ⟨g,AA.length+148,none⟩) 7 364,.int .i64 sm] ((w2.alloc (.cells #[.nilIface] 196)).drewN nd) λe w'=>e= .returned (.tuple #[])/\
   E4 w' g T (AA++Lib.byteCells b.gnu.bef_chk) (C2 7 sm++b.gnu.chk.drop 7) (Lib.byteCells b.gnu.aft_chk++post)/\Fr w.heap.size [g] w w':=λnd=>by
  have s3:E4 ((w2.alloc (.cells #[.nilIface] 196)).drewN nd) g T (AA++Lib.byteCells b.gnu.bef_chk) b.gnu.chk (Lib.byteCells b.gnu.aft_chk++post):=(s2.below ((Below.refl _ w2).alloc (Nat.le_refl _) _)).get_chk;rw[AU] at s3;have F3:Fr w.heap.size [g] w ((w2.alloc (.cells #[.nilIface] 196)).drewN nd):=(AM.alloc _).drewN nd;have AQ:=F3.cell AD (by simpa using Ne.symm hg) (block_lt_of_cell AD);have:=U1 ((w2.alloc (.cells #[.nilIface] 196)).drewN nd) w2.heap.size g 7 364 sm T _ _ _ (E4.first.1 s3) (by rw[List.length_take,AC.chk];rfl) (.inl rfl) (by omega) AI hg AQ;rw[AC.off_chk] at this;refine this.mono ?_;rintro e w' ⟨rfl,h1,h2⟩;exact⟨rfl,E4.first.2 h1,F3.trans (h2.wide F3.size (by simp))⟩
 have AR: (C2 7 sm).length=7:=D2 7 sm (by omega) (by omega)
 obtain⟨c8,AT⟩:∃c8,b.gnu.chk.drop 7=[c8]:=by
  have: (b.gnu.chk.drop 7).length=1:=by rw[List.length_drop,AC.chk]
  exact List.length_eq_one_iff.1 this
 rw[AT] at AB;have AJ:=AC.off_chk AA
 have AG:∀w5,E4 w5 g T (AA++Lib.byteCells b.gnu.bef_chk) (C2 7 sm++[c8]) (Lib.byteCells b.gnu.aft_chk++post)->w5.cell? ⟨g,AA.length+148+7,none⟩=some (.int .u8 c8.toNat)/\w5.frozen? ⟨g,AA.length+148+7,none⟩=false/\
   E4 (w5.setCell ⟨g,AA.length+148+7,none⟩ (.int .u8 32)) g T AA b.gnu.summed.bytes post:=λw5 h5=>by
  have a1:=h5.cell 7 c8 (by rw[List.getElem?_append_right (by omega),AR];rfl);have a2:=h5.frozen 7;have a3:=h5.set 7 (by simp;omega) 32;rw[List.set_append_right _ _ (by omega),AR] at a3;rw[AJ] at a1 a2 a3;refine⟨a1,a2,?_⟩;rw[AL];exact a3.put_chk
 have v7:=A0 A5Z;have vu:=A0 A8Y;have vm:=A0 B5S;have vv:=A0 B2N;have vc:=A0 B0M;have N1:=A0 n1;have N2:=A0 n2;have H:=A0 h;have S2:=A0 s2;have HF:=A0 AM;have HC:=A0 AE;have HS:=A0 AB;have HN:=A0 AG;clear h s1 s2 F1 F2 AM AP AL AU AV AO AC AR AT AJ n1 n2 AE AB AG AI AH AS ok AD;go_enter Tryz.func132,Tryz.ntmps132
 go_wp2_with fail
 refine(N1.out _).mono ?_;rintro e wx ⟨rfl,rfl⟩;go_wp2_with fail
 refine(N2.out _).mono ?_;rintro e wx ⟨rfl,rfl⟩;go_wp2_with fail
 refine(vu.out _ _).mono ?_;rintro e wx ⟨rfl,rfl⟩;go_wp2_with fail
 refine(vm.out _ _ _).mono ?_;rintro e wx ⟨rfl,rfl⟩;go_wp2_with fail
 refine(vu.out _ _).mono ?_;rintro e wx ⟨rfl,rfl⟩;go_wp2_with fail
 refine(vv.out _ _ _).mono ?_;rintro e wx ⟨rfl,rfl⟩;go_wp2_with fail
 refine(v7.out _ _).mono ?_;rintro e wx ⟨rfl,rfl⟩;go_wp2_with fail
 refine(vc.out _ _ _).mono ?_;rintro e wx ⟨rfl,rfl⟩;go_wp2_with fail
 refine HC.out.mono ?_;rintro e wx ⟨⟨z,rfl⟩,nd,rfl⟩;go_wp2_with fail
 refine(HS.out nd).mono ?_;rintro e w5 ⟨rfl,h5,F5⟩;obtain⟨a1,a2,a3⟩:=HN.out w5 h5;have A3:=A0 a3;clear a3 h5;go_wp2_with fail
 go_end0
 exact⟨rfl,A3.out,F5.setCell (p:=⟨g,AA.length+148+7,none⟩) (.inl (by simp)) _⟩
theorem B6B:SF 8 [117,115,116,97,114,32] [32,0]:=⟨rfl,rfl,λw g T AA b post ok h hg hd=>A2X w g T AA b post ok h hg hd⟩
theorem A7n (w:World) (a:Addr): (method 511 119 (.pointer (some a)) "Write").run Tryz.prog w= .ok (342,.pointer (some a)) w:=by kernel_rfl
theorem B2k (w:World) (a:Addr): (method 511 73 (.pointer (some a)) "Write").run Tryz.prog w= .ok (40,.pointer (some a)) w:=by kernel_rfl
theorem B3y (w:World) (B b fw:Nat) (bs ds:List UInt8) (g o n c:Nat) (nb:Int) (hB:W3 B b bs w) (AJ:B<=w.heap.size) (hf:FW fw b nb w) (hn:ds.length=n) (h0:n≠0) (AM: (n:Int)<=nb) (AO:nb<=9223372036854775807) (AL:g≠b) (AG:At w g o (Lib.byteCells ds)) (AC:bs.length+n<=140737488355328):
  Calls Tryz.prog 342 #[.pointer (some ⟨fw,0,none⟩),.slice (some ⟨g,o,none⟩) n c] w λe w'=>e= .returned (.tuple #[.int .i64 n,.nilIface])/\W3 B b (bs++ds) w'/\FW fw b (nb-n) w'/\Fr B [b,fw] w w':=by
 have HC:=A0 (A2u B b bs ds g o n c w hB AJ hn AL AG AC);have m2:=A4Y;have c0:w.cell? ⟨fw,0,none⟩=some (.iface 75 (.pointer (some ⟨b,0,none⟩))):=by rw[Lib.cell_of_heap hf];rfl
 have c1:w.cell? ⟨fw,1,none⟩=some (.int .i64 nb):=by rw[Lib.cell_of_heap hf];rfl
 have hb:=hB.ne hf (by decide);have h1:¬nb< (n:Int):=by omega
 have h2: (0:Int)< (n:Int):=by omega
 have HF:=A0 hf;clear AG hn hB hf AM;go_enter Tryz.func342,Tryz.ntmps342
 go_wp2_with fail
 refine HC.out.mono ?_;rintro e w2 ⟨rfl,AE,AB⟩;have AA:FW fw b nb w2:=AB.cells HF.out (by simpa using hb) (.inr (by decide));have AP:w2.cell? ⟨fw,1,none⟩=some (.int .i64 nb):=by rw[Lib.cell_of_heap AA];rfl
 have AQ:w2.frozen? ⟨fw,1,none⟩=false:=Lib.frozen_of_heap AA 1;have AH:=A0 AE;have AI:=A0 AB;have AD:=A0 AA;clear AE AB AA c0 c1 HC;go_wp2_with fail
 go_ret2
 have q:=B6 (i:=1) (.int .i64 (nb-n)) AD.out;refine⟨rfl,AH.out.setCell (p:=⟨fw,1,none⟩) AD.out (by decide) (by decide) _,q,(AI.out.wide (Nat.le_refl _) (by simp)).setCell (p:=⟨fw,1,none⟩) (.inl (by simp)) _⟩
theorem B2M (w:World) (b fw:Nat) (p:Option Addr) (c:Nat) (nb:Int) (hf:FW fw b nb w) (AA:0<=nb):
  Calls Tryz.prog 342 #[.pointer (some ⟨fw,0,none⟩),.slice p 0 c] w (C4 w (.tuple #[.int .i64 0,.nilIface])):=by
 have c1:w.cell? ⟨fw,1,none⟩=some (.int .i64 nb):=by rw[Lib.cell_of_heap hf];rfl
 have h1:¬nb< (0:Int):=by omega
 clear hf;go_enter Tryz.func342,Tryz.ntmps342
 go_wp2_with fail
 go_ret2
 exact⟨rfl,rfl⟩
theorem B4j (w:World) (B b tw fw:Nat) (AM:Int) (AI AD:List Value) (bs ds:List UInt8) (g o n c:Nat) (nb:Int) (hW:TW tw b fw AM AI AD .nilIface w) (hB:W3 B b bs w) (AQ:B<=w.heap.size) (hf:FW fw b nb w) (hn:ds.length=n) (h0:n≠0) (AL: (n:Int)<=nb) (AB:nb<=9223372036854775807) (AR:g≠b) (AH:At w g o (Lib.byteCells ds)) (AA:bs.length+n<=140737488355328):
  Calls Tryz.prog 40 #[.pointer (some ⟨tw,0,none⟩),.slice (some ⟨g,o,none⟩) n c] w λe w'=>e= .returned (.tuple #[.int .i64 n,.nilIface])/\TW tw b fw AM AI AD .nilIface w'/\W3 B b (bs++ds) w'/\FW fw b (nb-n) w'/\Fr B [b,fw] w w':=by
 have HC:=A0 (B3y w B b fw bs ds g o n c nb hB AQ hf hn h0 AL AB AR AH AA);have m2:=A7n;have c2:w.cell? ⟨tw,2,none⟩=some (.iface 119 (.pointer (some ⟨fw,0,none⟩))):=by rw[Lib.cell_of_heap hW.1];exact A3U ..
 obtain⟨-,-,aA,-,-⟩:=V7 hW.2.1 hW.2.2 hW.1;have AS:tw≠b:=hB.ne hW.1 (by decide);have AT:tw≠fw:=by rintro rfl;have:=hW.1;rw[hf] at this;cases this
 have HW:=A0 hW;clear AH hn hB hf AL hW;go_enter Tryz.func40,Tryz.ntmps40
 go_wp2_with fail
 refine HC.out.mono ?_;rintro e w2 ⟨rfl,AE,AJ,AG⟩;have AO:=A0 AE;have AC:=A0 AG;have AP:=A0 AJ;clear AE AG AJ c2 aA HC;go_wp2_with fail
 go_ret2
 exact⟨rfl,⟨AC.out.cells HW.out.1 (by simp;exact⟨AS,AT⟩) (.inr (by decide)),HW.out.2⟩,AO.out,AP.out,AC.out⟩
theorem B3Y (w:World) (b tw fw:Nat) (AD:Int) (AB AA:List Value) (p:Option Addr) (c:Nat) (nb:Int) (hW:TW tw b fw AD AB AA .nilIface w) (hf:FW fw b nb w) (AC:0<=nb):
  Calls Tryz.prog 40 #[.pointer (some ⟨tw,0,none⟩),.slice p 0 c] w (C4 w (.tuple #[.int .i64 0,.nilIface])):=by
 have HC:=A0 (B2M w b fw p c nb hf AC);have m2:=A7n;have c2:w.cell? ⟨tw,2,none⟩=some (.iface 119 (.pointer (some ⟨fw,0,none⟩))):=by rw[Lib.cell_of_heap hW.1];exact A3U ..
 obtain⟨-,-,aA,-,-⟩:=V7 hW.2.1 hW.2.2 hW.1;clear hf hW;go_enter Tryz.func40,Tryz.ntmps40
 go_wp2_with fail
 refine HC.out.mono ?_;rintro e w2 ⟨rfl,rfl⟩;go_wp2_with fail
 go_ret2
 exact⟨rfl,rfl⟩
theorem B7g (w:World) (a:Addr): (Instr.typeAssert (.iface 73 (.pointer (some a))) 118 312 true).run Tryz.prog w= .ok (.tuple #[.nilIface,.bool false]) w:=run_typeAssert_lacksB Tryz.underlying312 (by kernel_rfl) (by kernel_rfl) _ 118 w
theorem A8q (w:World) (l:List UInt8):∃cap w',(convert 9 35 (str l)).run Tryz.prog w= .ok (.slice (some ⟨w.heap.size,0,none⟩) l.length cap) w'/\Below w.heap.size w w'/\At w' w.heap.size 0 (Lib.byteCells l)/\(∃c fz,w'.heap[w.heap.size]?=some (.cells c 5 fz)):=by
 have h:=run_bytes_of_string (P:=Tryz.prog) w 9 35 5 ⟨l.toArray⟩ Tryz.underlying9 Tryz.underlying35 Tryz.underlying5;rw[I6] at h;generalize AB:grownCap w l.length 0 5=cap at h;have AA: (w.drew.alloc (.cells (bytesRow ⟨l.toArray⟩ cap) 5 ((bytesRow ⟨l.toArray⟩ cap).size,(bytesRow ⟨l.toArray⟩ cap).size+1))).heap[w.heap.size]?=some (.cells (bytesRow ⟨l.toArray⟩ cap) 5 ((bytesRow ⟨l.toArray⟩ cap).size,(bytesRow ⟨l.toArray⟩ cap).size+1)):=heap_alloc_new w.drew _;refine⟨cap,_,h,(Below.refl _ w).drew.alloc (Nat.le_refl _) _,At.of_heap AA (λj v hj=> ?_),_,_,AA⟩;rw[Nat.zero_add,bytesRow]
 have AC:j<l.length:=by
  have:=(List.getElem?_eq_some_iff.1 hj).1;rwa [Lib.byteCells_length] at this
 rw[Array.getElem?_append_left (by simpa using AC)];simpa[Lib.byteCells] using hj
theorem B3c (w:World) (B b tw fw:Nat) (AE:Int) (AD AC:List Value) (bs ds:List UInt8) (nb:Int) (hW:TW tw b fw AE AD AC .nilIface w) (hB:W3 B b bs w) (AM:B<=w.heap.size) (hf:FW fw b nb w) (AS: (ds.length:Int)<=nb) (AJ:nb<=9223372036854775807) (AI:bs.length+ds.length<=140737488355328):
  Calls Tryz.prog 194 #[.iface 73 (.pointer (some ⟨tw,0,none⟩)),str ds] w λe w'=>e= .returned (.tuple #[.int .i64 ds.length,.nilIface])/\TW tw b fw AE AD AC .nilIface w'/\W3 B b (bs++ds) w'/\FW fw b (nb-ds.length) w'/\Fr B [b,fw] w w':=by
 have m2:=B2k;have ta:=B7g;obtain⟨cap,w1,AO,AA,AG,c,fz,AB⟩:=A8q w ds;have AR:=A8 hW.1;have AQ:=A8 hf;have W1:TW tw b fw AE AD AC .nilIface w1:=⟨(AA.block tw AR).trans hW.1,hW.2⟩;have B1:W3 B b bs w1:=hB.carry (B':=w.heap.size) (S:=[]) (Fr.of_below AA _ _) (Nat.le_refl _) (by simp) (by simp);have F1:FW fw b nb w1:=(AA.block fw AQ).trans hf;have AP:w.heap.size≠b:=B1.ne AB (by decide);have AH:Fr B [b,fw] w w1:=(Fr.of_below AA w.heap.size [b,fw]).wide AM (λk hk _=>hk);have AL:=A0 AH;have HW:=A0 W1;cases hz:ds with
 |nil=>
  subst hz;have HC:=A0 (B3Y w1 b tw fw AE AD AC (some ⟨w.heap.size,0,none⟩) cap nb W1 F1 (by omega));have HB:=A0 B1;have HF:=A0 F1;clear hW hB hf AG AB AA W1 B1 F1 AH;rw[List.length_nil] at AO;go_enter Tryz.func194,Tryz.ntmps194
  go_wp2_with fail
  refine HC.out.mono ?_;rintro e w2 ⟨rfl,rfl⟩;go_wp2_with fail
  go_ret2
  refine⟨rfl,HW.out,by rw[List.append_nil];exact HB.out,?_,AL.out⟩;show FW fw b (nb- ((([]:List UInt8).length:Nat):Int)) _
  rw[List.length_nil,Int.natCast_zero,Int.sub_zero];exact HF.out
 |cons d0 dr=>
  have h0:ds.length≠0:=by rw[hz];simp
  rw[<-hz];clear hz;have HC:=A0 (B4j w1 B b tw fw AE AD AC bs ds w.heap.size 0 ds.length cap nb W1 B1 (Nat.le_trans AM AA.size) F1 rfl h0 AS AJ AP AG AI);clear hW hB hf AG AB AA W1 B1 F1 AH;go_enter Tryz.func194,Tryz.ntmps194
  go_wp2_with fail
  refine HC.out.mono ?_;rintro e w2 ⟨rfl,r1,r2,r3,r4⟩;have HR:=A0 (And.intro r1 (And.intro r2 (And.intro r3 r4)));clear r1 r2 r3 r4;go_wp2_with fail
  go_ret2
  obtain⟨r1,r2,r3,r4⟩:=HR.out;exact⟨rfl,r1,r2,r3,AL.out.trans r4⟩
theorem WS.next1 {G0:Nat} {E:Nat->Addr} {B tw b fw AC:Nat} {H:Hd} {AD AA bs:List UInt8} {AB:Value} {w w':World} (h:WS G0 E B tw b fw AC H AD bs AB w) (f:Fr w.heap.size [tw] w w')
  (hW:TW tw b fw AC H.cells (Lib.byteCells AA) AB w') (h2:AA.length=512):WS G0 E B tw b fw AC H AA bs AB w':=by
 refine⟨hW,h.buf.carry (B':=w.heap.size) (S:=[tw]) f (Nat.le_refl _) (by simp;exact Ne.symm h.tb) ?_,f.cells h.F (by simpa using h.tf) (.inr (by decide)),h.gl.fr f h.gl.le (by simpa using h.tG),h.BG,h.tG,h.fG,Nat.le_trans h.Bw f.size,h2⟩;intro k hk c fz e;obtain rfl:=List.mem_singleton.1 hk;rw[h.W.1] at e;cases e
structure A6A (mg vr:List UInt8) (flag:Int) (n:Nat) (B:C1):Prop where
 ok:B.Ok
 typ:B.typ=[UInt8.ofNat flag.toNat]
 name:∃nm,D6 nm=true/\V9 (List.replicate 100 0) nm B.name
 link:B.link=List.replicate 100 0
 user:B.user=List.replicate 32 0
 group:B.group=List.replicate 32 0
 mode:B.mode=C2 8 0
 uid:B.uid=C2 8 0
 gid:B.gid=C2 8 0
 size:B.size=C2 12 n
 mtime:B.mtime=C2 12 0
 maj:B.maj=List.replicate 8 0
 mnr:B.mnr=List.replicate 8 0
 magic:B.magic=mg
 ver:B.ver=vr
 chk:B.chk=C2 7 (X8 B.bytes 512)++[32]
 rest:B.rest=List.replicate 167 0
abbrev B0Q:=A6A [117,115,116,97,114,0] [48,48]
theorem Y0 {l m:List UInt8} (h:D6 l=true) (hs:∀b∈m,b∈l):D6 m=true:=by
 simp only[D6,List.all_eq_true] at h⊢;exact λb hb=>h b (hs b hb)
theorem A6k {l:List UInt8} (h:D6 l=true) (c:UInt8):D6 (L5 l c)=true:=by
 refine Y0 h λb hb=> ?_;rw[L5,List.mem_reverse] at hb;exact List.mem_reverse.1 ((List.dropWhile_suffix (p:=(·==c)) (l:=l.reverse)).subset hb)
theorem B3X (l:List UInt8) (c:UInt8): (L5 l c).length<=l.length:=by
 unfold L5;rw[List.length_reverse];have h:=(List.dropWhile_suffix (p:=(·==c)) (l:=l.reverse)).length_le;rwa [List.length_reverse] at h
theorem A2Y (f:Int) (mg vr:List UInt8) (AP:SF f mg vr) (G0:Nat) (E:Nat->Addr) (B tw b fw AG:Nat) (H:Hd) (Bc bs nm ds:List UInt8) (AA:Int) (w:World) (h:WS G0 E B tw b fw AG H Bc bs .nilIface w) (hp:AG<512) (Bl:nm.length<=1048576) (By:ds.length<=1048576) (Bz:0<=AA/\AA<256) (BM:D1 AA=false) (Bh:bs.length+AG+512+ds.length<=140737488355328):
  Calls Tryz.prog 141 #[.pointer (some ⟨tw,0,none⟩),str nm,str ds,.int .u8 AA,.int .i64 f] w λe w'=>e= .returned .nilIface/\∃AH B2,A6A mg vr AA ds.length B2/\WS G0 E B tw b AH (E7 ds.length).toNat H B2.bytes (bs++List.replicate AG 0++B2.bytes++ds) .nilIface w'/\w.heap.size<=AH/\Fr B [b,tw] w w':=by
 have hr:=A0h w tw 134 _ _ _ h.W.seg h.blk512 23 (by simp[h.W.2.1]);have HH:=A0 h;have BY:=A0 BM;have Al:=A0 AP;clear h BM AP;go_enter Tryz.func141,Tryz.ntmps141
 go_wp2_with fail
 refine hr.mono ?_;rintro e w1 ⟨rfl,s1,F1⟩;rw[<-C1.zero_bytes] at s1;have AW:WS G0 E B tw b fw AG H C1.zero.bytes bs .nilIface w1:=HH.out.next1 F1 (TW.of_seg s1 HH.out.W.2.1 C1.zero_ok.len) C1.zero_ok.len;have AR:=A0 AW;have Ai:=A0 (F1.wide (B':=w.heap.size) (S':=[tw]) (Nat.le_refl _) (λk hk _=>hk));have BR:=Z8 nm w1 Bl;clear hr s1 F1 AW;go_wp2_with fail
 refine BR.mono ?_;rintro e w2 ⟨⟨m,rfl,Bj,Ae,Bk⟩,An⟩;have AX:=AR.out.below An;have AS:=A0 AX;have Au:=A0 An;have Aq:m.length<=1048576:=by omega
 have HA:=A0 Ae;clear BR Bj Ae Bk AX An;go_upto_if 24 with fail
 go_cut [1] (λs1 wx=>(∃m2:List UInt8,(m2.length<=100/\D6 m2=true)/\s1=str m2)/\wx=w2)
 case first=>
  by_cases Ad:m.length<=100
  ·go_wp2_with fail
   go_meet
   exact⟨⟨m,⟨Ad,HA.out⟩,rfl⟩,rfl⟩
  ·have he:=L3 m 0 100
   have Bg: ((m.drop 0).take (100-0)).length<=100:=by rw[List.length_take];omega
   go_wp2_with fail
   go_meet
   refine⟨⟨(m.drop 0).take (100-0),⟨Bg,Y0 HA.out (λb hb=>List.mem_of_mem_drop (List.mem_of_mem_take hb))⟩,?_⟩,rfl⟩;first|rfl|(rw[<-he])
 case rest=>
  obtain⟨⟨m2,⟨Ae,ha2⟩,rfl⟩,rfl⟩:=hcut;have BV:=A0 (A6k ha2 47);clear ha2;have BS:=A0O m2 47 wc (by omega);clear Aq;go_wp2_with fail
  refine BS.mono ?_;rintro e w3 ⟨rfl,Aa⟩;have Aq: (L5 m2 47).length<=100:=Nat.le_trans (B3X _ _) Ae
  have Ao:∀B,Below B wc w3:=by
   obtain⟨k,rfl⟩:=Aa;intro B;exact⟨rfl,rfl,rfl,Nat.le_refl _,λ_ _=>rfl⟩
  have AY:=AS.out.below (Ao _);have AD:=A0 AY;have Ak:=A0 (Au.out.trans (Ao _));clear BS Ae Aa AY Ao;generalize L5 m2 47=m3 at*;have AI:=AD.out.below ((Below.refl _ w3).alloc (Nat.le_refl _) (.cells #[.nilIface] 196));have Ap:=heap_alloc_new w3 (.cells #[.nilIface] 196)
  have BI:TB tw b fw AG H.cells w3.heap.size .nilIface (E 3) C1.zero (w3.alloc (.cells #[.nilIface] 196)):=
   ⟨AI.W,C1.zero_ok,Ap,AI.gl.db,AI.gl.err 3 (by decide),by have:=AI.tG;have:=AI.gl.g19;omega,by have:=AI.tG;have:=AI.gl.g19;omega,by have:=AD.out.gl.le;have:=AD.out.gl.g19;omega,by have:=AD.out.gl.le;have:=AD.out.gl.g19;omega⟩
  have BJ:w3.heap.size≠tw:=by have:=A8 AD.out.W.1;omega
  have Be:G0<=w3.heap.size:=AD.out.gl.le;have Bp:w.heap.size<=w3.heap.size:=Nat.le_trans Ai.out.size Ak.out.size;have BE:Fr B [tw] w (w3.alloc (.cells #[.nilIface] 196)):=((Ai.out.wide (S':=[tw]) HH.out.Bw (λk hk _=>hk)).trans ((Fr.of_below Ak.out w1.heap.size [tw]).wide (B':=B) (S':=[tw]) (Nat.le_trans HH.out.Bw Ai.out.size) (λk hk _=>hk))).alloc _;have Ay:=A0 AI;have HT:=A0 BI;have Aw:=A0 Ap;have BW:=A0 BE;clear AI BI Ap BE AD AS AR Au Ak Ai;generalize Bn:w3.alloc (.cells #[.nilIface] 196)=wa at*;generalize Ac:w3.heap.size=fb at*;have Bu:=A0 Ac;have v7:=A0 A5Z;have vt:=A0 A3t;have s0:=HT.out.seg.get_typ;have AV:C1.zero.typ=[0]:=rfl;have tc:=s0.cell 0 0 (by rw[AV];rfl);have tz:=s0.frozen 0;rw[HT.out.ok.off_typ,HT.out.pre] at tc tz;clear s0 AV;have Bs:wa.cell? ⟨tw,179,none⟩=some (.int .u8 0):=tc;have Bt:wa.frozen? ⟨tw,179,none⟩=false:=tz;clear tc tz;go_wp2_with fail
  refine(v7.out _ _).mono ?_;rintro e wx ⟨rfl,rfl⟩;clear Ac Bn;go_wp2_with fail
  refine(vt.out _ _ _).mono ?_;rintro e wx ⟨rfl,rfl⟩;have va:=A0 A0q;go_wp2_with fail
  refine(va.out _ _ _).mono ?_;rintro e wx ⟨rfl,rfl⟩;have Bf:wa.heap[fb]?=some (.cells #[.nilIface] 196):=Aw.out
  have BH:=(HT.out.next (w':=wa.setCell ⟨tw,179,none⟩ (.int .u8 AA)) (ferr2:= .nilIface) (B2:= {C1.zero with typ:=[UInt8.ofNat AA.toNat]}) (by
   have q:=HT.out.seg.get_typ.set 0 (by show 0<1;omega) (UInt8.ofNat AA.toNat);rw[HT.out.ok.off_typ,HT.out.pre] at q;have e3: ((UInt8.ofNat AA.toNat).toNat:Int)=AA:=by rw[UInt8.toNat_ofNat'];omega
   rw[e3] at q;exact q.put_typ) (C1.zero_ok.put_typ _ rfl) ((C0 _ BJ).trans HT.out.F) ((Fr.refl _ _ wa).setCell (.inl (by simp)) _))
  have BD:Fr wa.heap.size [tw,fb] wa (wa.setCell ⟨tw,179,none⟩ (.int .u8 AA)):=(Fr.refl _ _ wa).setCell (.inl (by simp)) _;have AB:=A0 BH;have As:=A0 BD;clear BH BD Bs Bt HT va;have HT:=AB;clear AB;generalize (wa.setCell ⟨tw,179,none⟩ (.int .u8 AA))=v0 at*;have HC:=A0 (Y4 HT.out m3 (by omega));go_wp2_with fail
  refine HC.out.mono ?_;rintro e v1 ⟨rfl,Bq,r1,BT,q1,T4,F4⟩;obtain rfl:r1= .nilIface:=q1 Aq;have G1:=A0 (As.out.trans (F4.wide (B':=wa.heap.size) (S':=[tw,fb]) As.out.size (λk hk _=>hk)));have AB:=A0 T4;have KK:=A0 BT;clear BT q1;clear T4 F4 HC HT;have HT:=AB;clear AB;have va:=A0 A0F;go_wp2_with fail
  refine(va.out _ _ _).mono ?_;rintro e wx ⟨rfl,rfl⟩;have HC:=A0 (A0X HT.out 0 (by omega) (by omega));go_wp2_with fail
  refine HC.out.mono ?_;rintro e v2 ⟨rfl,r2,q2,T4,F4⟩;obtain rfl:r2= .nilIface:=q2 (by decide);have G2:=A0 (G1.out.trans (F4.wide (B':=wa.heap.size) (S':=[tw,fb]) G1.out.size (λk hk _=>hk)));have AB:=A0 T4;clear q2;clear T4 F4 HC HT va;have HT:=AB;clear AB;have va:=A0 A1g;go_wp2_with fail
  refine(va.out _ _ _).mono ?_;rintro e wx ⟨rfl,rfl⟩;have HC:=A0 (A1D HT.out 0 (by omega) (by omega));go_wp2_with fail
  refine HC.out.mono ?_;rintro e v3 ⟨rfl,r3,q3,T4,F4⟩;obtain rfl:r3= .nilIface:=q3 (by decide);have G3:=A0 (G2.out.trans (F4.wide (B':=wa.heap.size) (S':=[tw,fb]) G2.out.size (λk hk _=>hk)));have AB:=A0 T4;clear q3;clear T4 F4 HC HT va;have HT:=AB;clear AB;have va:=A0 A1f;go_wp2_with fail
  refine(va.out _ _ _).mono ?_;rintro e wx ⟨rfl,rfl⟩;have HC:=A0 (A1C HT.out 0 (by omega) (by omega));go_wp2_with fail
  refine HC.out.mono ?_;rintro e v4 ⟨rfl,r4,q4,T4,F4⟩;obtain rfl:r4= .nilIface:=q4 (by decide);have G4:=A0 (G3.out.trans (F4.wide (B':=wa.heap.size) (S':=[tw,fb]) G3.out.size (λk hk _=>hk)));have AB:=A0 T4;clear q4;clear T4 F4 HC HT va;have HT:=AB;clear AB;have va:=A0 A0G;go_wp2_with fail
  refine(va.out _ _ _).mono ?_;rintro e wx ⟨rfl,rfl⟩;have HC:=A0 (A0Y HT.out ds.length (by omega) (by omega));go_wp2_with fail
  refine HC.out.mono ?_;rintro e v5 ⟨rfl,r5,q5,T4,F4⟩;obtain rfl:r5= .nilIface:=q5 (by simp[B8];omega);have G5:=A0 (G4.out.trans (F4.wide (B':=wa.heap.size) (S':=[tw,fb]) G4.out.size (λk hk _=>hk)));have AB:=A0 T4;clear q5;clear T4 F4 HC HT va;have HT:=AB;clear AB;have va:=A0 V8;go_wp2_with fail
  refine(va.out _ _ _).mono ?_;rintro e wx ⟨rfl,rfl⟩;have HC:=A0 (Z6 HT.out 0 (by omega) (by omega));go_wp2_with fail
  refine HC.out.mono ?_;rintro e v6 ⟨rfl,r6,q6,T4,F4⟩;obtain rfl:r6= .nilIface:=q6 (by decide);have G6:=A0 (G5.out.trans (F4.wide (B':=wa.heap.size) (S':=[tw,fb]) G5.out.size (λk hk _=>hk)));have AB:=A0 T4;clear q6;clear T4 F4 HC HT va;have HT:=AB;clear AB;have AL:=fun(o:Nat) (ho: (A3S b fw AG H.cells).length=o)=>Al.out.2.2 v6 tw 134 _ _ _ HT.out.ok HT.out.seg HT.out.tw15 HT.out.db;have AP:=AL 23 HT.out.pre;rw[HT.out.pre] at AP;have Af:=HT.out.ok;generalize BC: ({({({({({({({C1.zero with typ:=[UInt8.ofNat AA.toNat]}:C1) with name:=Bq}:C1) with mode:=C2 8 (if B8 8 0 then(0:Int).toNat else 0)}:C1) with uid:=C2 8 (if B8 8 0 then(0:Int).toNat else 0)}:C1) with gid:=C2 8 (if B8 8 0 then(0:Int).toNat else 0)}:C1) with size:=C2 12 (if B8 12 ds.length then(ds.length:Int).toNat else 0)}:C1) with mtime:=C2 12 (if B8 12 0 then(0:Int).toNat else 0)}:C1)=B4 at*;have Av:=A0 BC;have BA:=A0 AP;have AQ:=A0 Af;clear AL AP Af BC;go_wp2_with fail
  refine BA.out.mono ?_;rintro e w5 ⟨rfl,BQ,Am⟩;have BU:=AQ.out.put_magic mg Al.out.1;have AO: (B4.mag mg vr).Ok:=BU.put_ver vr Al.out.2.1;have Bd:=A0l (B4.mag mg vr).bytes 512;have Ar: (C2 7 (X8 (B4.mag mg vr).bytes 512)).length=7:=D2 7 _ (by omega) (by omega);have Ah: (B4.mag mg vr).summed.Ok:=AO.put_chk _ (by rw[List.length_append,Ar];rfl);have AU:TW tw b fw AG H.cells (Lib.byteCells (B4.mag mg vr).summed.bytes) .nilIface w5:=TW.of_seg BQ HT.out.W.2.1 Ah.len;have Aj:Fr wa.heap.size [tw,fb] wa w5:=G6.out.trans (Am.wide G6.out.size (by simp));have AE:=Ay.out.next Aj Aw.out Be AU Ah.len;have Ab:=Am.cells HT.out.F (by simpa using BJ) (.inr (by decide));have c5:w5.cell? ⟨fb,0,none⟩=some .nilIface:=by rw[Lib.cell_of_heap Ab];rfl
  have AZ: (B4.mag mg vr).summed.chk=C2 7 (X8 (B4.mag mg vr).summed.bytes 512)++[32]:=by
   show C2 7 (X8 (B4.mag mg vr).bytes 512)++[32]=C2 7 (X8 (B4.mag mg vr).summed.bytes 512)++[32]
   rw[show X8 (B4.mag mg vr).summed.bytes 512=X8 (B4.mag mg vr).bytes 512 from A2F (B4.mag mg vr) AO (C2 7 (X8 (B4.mag mg vr).bytes 512)++[32]) (by rw[List.length_append,Ar];rfl)]
  have hR:A6A mg vr AA ds.length (B4.mag mg vr).summed:=by
   have e:=Av.out;have Br:B8 12 (ds.length:Int)=true:=by simp[B8];omega
   refine⟨Ah,?_,⟨m3,BV.out,?_⟩,?_,?_,?_,?_,?_,?_,?_,?_,?_,?_,rfl,rfl,AZ,?_⟩
   ·rw[<-e];rfl
   ·rw[<-e];exact KK.out
   ·rw[<-e];rfl
   ·rw[<-e];rfl
   ·rw[<-e];rfl
   ·rw[<-e];rfl
   ·rw[<-e];rfl
   ·rw[<-e];rfl
   ·rw[<-e]
    show C2 12 (if B8 12 (ds.length:Int)=true then(ds.length:Int).toNat else 0)=_
    rw[if_pos Br];rfl
   ·rw[<-e];rfl
   ·rw[<-e];rfl
   ·rw[<-e];rfl
   ·rw[<-e];rfl
  have BP:=X4 w5 B tw b fw AG hp bs (B4.mag mg vr).summed.bytes H.cells ds.length ds.length AA AE.buf AE.Bw AE.W AE.F (by omega) (by omega) (by omega) (by rw[BY.out];rfl)
  have BF:Fr B [b,tw] w w5:=((BW.out.wide (S':=[b,tw,fb]) (Nat.le_refl _) (λk hk _=>by rw[List.mem_singleton.1 hk];simp)).trans (Aj.wide (B':=B) (S':=[b,tw,fb]) Ay.out.Bw (λk hk _=>List.mem_cons_of_mem _ hk))).wide (Nat.le_refl _) (λk hk Bi=>by
   rcases List.mem_cons.1 hk with h|hk
   ·rw[h];simp
   ·rcases List.mem_cons.1 hk with h|hk
    ·rw[h];simp
    ·have:=List.mem_singleton.1 hk;omega)
  have Ba:=A0 BP;have HR:=A0 hR;have AC:=A0 AE;have Ax:=A0 BF;clear BQ Am BU AO Bd Ar AU Aj Ab AZ BP hR AE BF HT Av AQ BA;have AM:=Ah.len;generalize (B4.mag mg vr).summed=B5 at*;have Az:=A0 AM;clear Ah AM;go_wp2_with fail
  refine Ba.out.mono ?_;rintro e w6 ⟨rfl,AH,r1,r2,r3,r4,r5,r6⟩;have BO: (bs++List.replicate AG 0++B5.bytes).length=bs.length+AG+512:=by simp[Az.out];omega
  have AT:B<=w6.heap.size:=Nat.le_trans AC.out.Bw r6.size;have Ag:=B3c w6 B b tw AH (E7 ds.length) H.cells (Lib.byteCells B5.bytes) _ ds ds.length r2 r1 AT r3 (by omega) (by omega) (by rw[BO];omega);have BL:=AC.out.gl.fr r6 AC.out.BG (by simp;exact⟨AC.out.bG,AC.out.tG⟩);have Bb:=A0 Ag;have BX:=A0 BL;have BZ:=A0 r6;have Bv:=A0 r2;have Bo:w.heap.size<=AH:=Nat.le_trans Ax.out.size r4;clear Ag BL r6 r1 r2 r3 BO c5;go_wp2_with fail
  refine Bb.out.mono ?_;rintro e w7 ⟨rfl,s1,s2,s3,s4⟩;have HS:=A0 (And.intro s1 (And.intro s2 (And.intro s3 s4)));clear s1 s2 s3 s4;go_wp2_with fail
  go_ret
  obtain⟨s1,s2,s3,s4⟩:=HS.out;have Bm: ((E7 ds.length).toNat:Int)=E7 ds.length:=Int.toNat_of_nonneg (by unfold E7;omega);have AJ:G0<=AH:=by have:=HH.out.gl.le;omega
  refine⟨rfl,AH,B5,HR.out,⟨by rw[Bm];exact s1,s2,?_,BX.out.fr s4 AC.out.BG (by simp;exact⟨AC.out.bG,AJ⟩),AC.out.BG,AC.out.tG,AJ,Nat.le_trans AT s4.size,Az.out⟩,Bo,?_⟩
  ·rw[Int.sub_self] at s3;exact s3
  ·exact((Ax.out.trans BZ.out).wide (S':=[b,tw,AH]) (Nat.le_refl _) (λk hk _=>by
    rcases List.mem_cons.1 hk with h|hk
    ·rw[h];simp
    ·rw[List.mem_singleton.1 hk];simp)).trans (s4.wide (S':=[b,tw,AH]) (Nat.le_refl _) (λk hk _=>by
    rcases List.mem_cons.1 hk with h|hk
    ·rw[h];simp
    ·rw[List.mem_singleton.1 hk];simp))|>.wide (Nat.le_refl _) (λk hk Bi=>by
    rcases List.mem_cons.1 hk with h|hk
    ·rw[h];simp
    ·rcases List.mem_cons.1 hk with h|hk
     ·rw[h];simp
     ·have:=List.mem_singleton.1 hk;omega)
theorem A7L (G0:Nat) (E:Nat->Addr) (B tw b fw AB:Nat) (H:Hd) (AD bs nm ds:List UInt8) (AA:Int) (w:World) (h:WS G0 E B tw b fw AB H AD bs .nilIface w) (hp:AB<512) (AJ:nm.length<=1048576) (AG:ds.length<=1048576) (AH:0<=AA/\AA<256) (AI:D1 AA=false) (AC:bs.length+AB+512+ds.length<=140737488355328):
  Calls Tryz.prog 141 #[.pointer (some ⟨tw,0,none⟩),str nm,str ds,.int .u8 AA,.int .i64 4] w λe w'=>e= .returned .nilIface/\∃AE B2,B0Q AA ds.length B2/\WS G0 E B tw b AE (E7 ds.length).toNat H B2.bytes (bs++List.replicate AB 0++B2.bytes++ds) .nilIface w'/\w.heap.size<=AE/\Fr B [b,tw] w w':=
 A2Y 4 _ _ B3K G0 E B tw b fw AB H AD bs nm ds AA w h hp AJ AG AH AI AC
end Go.Proofs.YtkanmkcojlefbaaGreatDoor
