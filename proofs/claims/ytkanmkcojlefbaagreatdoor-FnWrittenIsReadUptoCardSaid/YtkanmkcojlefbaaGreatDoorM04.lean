/-
  Part of the proof; holds the texts Tim, Step.
-/
import Derived.Test.YtkanmkcojlefbaaGreatDoorM03
set_option maxRecDepth 100000
set_option linter.unusedSimpArgs false
set_option linter.unusedVariables false
namespace Go.Proofs.YtkanmkcojlefbaaGreatDoor
open Go.RowKit
abbrev tmV (n x:Int):Value:= .agg #[.int .u64 n,.int .i64 x]
theorem A4l (n:Int) (h0:0<=n) (h1:n<1000000000):bits .and .u64 n 9223372036854775808=0:=by
 obtain⟨k,rfl⟩:∃k:Nat,n=k:=⟨n.toNat,by omega⟩;rw[show(9223372036854775808:Int)=((9223372036854775808:Nat):Int) from rfl,u64_and_nat k _ (by omega) (by omega)]
 have:k&&&9223372036854775808=0:=by
  apply Nat.eq_of_testBit_eq;intro i;rw[Nat.testBit_and,Nat.zero_testBit,show 9223372036854775808=2^63 from rfl,Nat.testBit_two_pow];by_cases hi:63=i
  ·subst hi
   have:k.testBit 63=false:=Nat.testBit_lt_two_pow (by omega);simp[this]
  ·simp[hi]
 rw[this];rfl
theorem A7S (n:Int) (h0:0<=n) (h1:n<1000000000):bits .and .u64 n 1073741823=n:=by
 obtain⟨k,rfl⟩:∃k:Nat,n=k:=⟨n.toNat,by omega⟩;rw[show(1073741823:Int)=((1073741823:Nat):Int) from rfl,u64_and_nat k _ (by omega) (by omega),show 1073741823=2^30-1 from rfl,Nat.and_two_pow_sub_one_eq_mod,Nat.mod_eq_of_lt (by omega)]
theorem B4i (w:World) (g o:Nat) (n x:Int) (h0:0<=n) (h1:n<1000000000) (c0:w.cell? ⟨g,o,none⟩=some (.int .u64 n)) (c1:w.cell? ⟨g,o+1,none⟩=some (.int .i64 x)):
  Calls Tryz.prog 163 #[.pointer (some ⟨g,o,none⟩)] w (C4 w (.int .i64 x)):=by
 have e:=A4l n h0 h1;go_enter Tryz.func163,Tryz.ntmps163
 go_wp2_with fail
 go_ret
 exact⟨rfl,rfl⟩
theorem A6b (w:World) (g o:Nat) (n x:Int) (h0:0<=n) (h1:n<1000000000) (c0:w.cell? ⟨g,o,none⟩=some (.int .u64 n)) (c1:w.cell? ⟨g,o+1,none⟩=some (.int .i64 x)):
  Calls Tryz.prog 164 #[.pointer (some ⟨g,o,none⟩)] w (C4 w (.int .i32 n)):=by
 have e:=A7S n h0 h1;go_enter Tryz.func164,Tryz.ntmps164
 go_wp2_with fail
 go_ret
 exact⟨rfl,rfl⟩
theorem B3U (w:World) (g o:Nat) (n x:Int) (h0:0<=n) (h1:n<1000000000) (hx: -100000000000000000<=x-62135596800/\x-62135596800<=100000000000000000) (c0:w.cell? ⟨g,o,none⟩=some (.int .u64 n)) (c1:w.cell? ⟨g,o+1,none⟩=some (.int .i64 x)):
  Calls Tryz.prog 169 #[.pointer (some ⟨g,o,none⟩)] w (C4 w (.int .i64 (x-62135596800))):=by
 have h:=B4i w g o n x h0 h1 c0 c1;have e:IntKind.i64.wrap (x+ -62135596800)=x-62135596800:=by rw[zQ _ (by omega)];omega
 go_enter Tryz.func169,Tryz.ntmps169
 go_wp2_with fail
 refine h.mono ?_;rintro e w1 ⟨rfl,rfl⟩;go_wp2_with fail
 go_ret
 exact⟨rfl,rfl⟩
theorem A0k (w:World) (n x:Int) (h0:0<=n) (h1:n<1000000000) (hx: -100000000000000000<=x-62135596800/\x-62135596800<=100000000000000000):
  Calls Tryz.prog 103 #[tmV n x] w λe w'=>e= .returned (.int .i64 (x-62135596800))/\Below w.heap.size w w':=by
 have a1:=zI w (.cells #[.int .u64 n,.int .i64 x] 126);have h:=B3U (w.alloc (.cells #[.int .u64 n,.int .i64 x] 126)) w.heap.size 0 n x h0 h1 hx (by rw[zA a1];rfl) (by rw[zA a1];rfl);go_enter Tryz.func103,Tryz.ntmps103
 go_wp2_with fail
 refine h.mono ?_;rintro e w1 ⟨rfl,rfl⟩;go_wp2_with fail
 go_ret
 exact⟨rfl,(zD _ w).alloc (zB _) _⟩
theorem A6a (w:World) (n x:Int) (h0:0<=n) (h1:n<1000000000):
  Calls Tryz.prog 104 #[tmV n x] w λe w'=>e= .returned (.int .i64 n)/\Below w.heap.size w w':=by
 have a1:=zI w (.cells #[.int .u64 n,.int .i64 x] 126);have h:=A6b (w.alloc (.cells #[.int .u64 n,.int .i64 x] 126)) w.heap.size 0 n x h0 h1 (by rw[zA a1];rfl) (by rw[zA a1];rfl);go_enter Tryz.func104,Tryz.ntmps104
 go_wp2_with fail
 refine h.mono ?_;rintro e w1 ⟨rfl,rfl⟩;go_wp2_with fail
 go_ret
 exact⟨rfl,(zD _ w).alloc (zB _) _⟩
def E5 (n x:Int):Bool:=decide (n=0/\x=0)
theorem V6 (w:World) (n x:Int):
  Calls Tryz.prog 74 #[tmV n x] w λe w'=>e= .returned (.bool (E5 n x))/\Below w.heap.size w w':=by
 by_cases hn:n=0
 ·have e:E5 n x=(x==0):=by by_cases hx:x=0<;>simp[E5,hn,hx]
  rw[e];subst hn;go_enter Tryz.func74,Tryz.ntmps74
  go_wp2
  go_ret
  exact⟨rfl,(zD _ w).alloc (zB _) _⟩
 ·have e:E5 n x=false:=by simp[E5,hn]
  rw[e];have AA: (n==0)=false:=by simp[hn]
  go_enter Tryz.func74,Tryz.ntmps74
  go_wp2
  go_ret
  exact⟨rfl,(zD _ w).alloc (zB _) _⟩
theorem A0M {R:Ending->World->Prop} {fn:Func} {t:Tmp} {a:Act} (g:Nat) (n x:Int) (w:World) (hr:fn.results=#[.cell t 126]) (hp:a.tmps.getD t undef= .pointer (some ⟨g,0,none⟩)) (hd:a.defers=[])
  (hg:w.heap[g]?=some (.cells #[.int .u64 n,.int .i64 x] 126 (0,0))) (hR:R (.returned (tmV n x)) w):bodyPost Tryz.prog fn R .ret a w:=
 bodyPost_ret (results_cell_row hr _ _ g 126 #[.int .u64 n,.int .i64 x] (0,0) _ hp hg Tryz.underlying126 rfl (by kernel_rfl)) hd hR
theorem A6c (w:World) (s n:Int) (h0:0<=n) (h1:n<1000000000) (hs: -100000000000000000<=s/\s<=100000000000000000):
  Calls Tryz.prog 145 #[.int .i64 s,.int .i32 n] w λe w'=>e= .returned (tmV n (s+62135596800))/\Below w.heap.size w w':=by
 have e:IntKind.i64.wrap (s+62135596800)=s+62135596800:=by rw[zQ _ (by omega)]
 go_enter Tryz.func145,Tryz.ntmps145
 go_wp2
 exact A0M w.heap.size n (s+62135596800) _ rfl rfl rfl (zI w _) ⟨rfl,(zD _ w).alloc (zB _) _⟩
theorem tOf (w:World) (s n:Int) (h0:0<=n) (h1:n<1000000000) (hs: -100000000000000000<=s/\s<=100000000000000000):
  Calls Tryz.prog 70 #[.int .i64 s,.int .i64 n] w λe w'=>e= .returned (tmV n (s+62135596800))/\Below w.heap.size w w':=by
 have h:=λw'=>A6c w' s n h0 h1 hs;have h2:¬n<0:=by omega
 have h3:¬(1000000000:Int)<=n:=by omega
 go_enter Tryz.func70,Tryz.ntmps70
 go_wp2_with fail
 refine(h _).mono ?_;rintro e w1 ⟨rfl,hb⟩;have a1:=(hb.block w.heap.size (by simp)).trans (zI w (.cells #[.int .u64 0,.int .i64 0] 126));have AA:Below w.heap.size w w1:=((zD _ w).alloc (zB _) _).trans (hb.mono (by simp));have z0:=zE a1 0;have z1:=zE a1 1;have d0:w1.cell? ⟨w.heap.size,0,none⟩=some (.int .u64 0):=by rw[zA a1];rfl
 have d1:w1.cell? ⟨w.heap.size,1,none⟩=some (.int .i64 0):=by rw[zA a1];rfl
 have a2:=B6 (i:=1) (.int .i64 (s+62135596800)) (B6 (i:=0) (.int .u64 n) a1);have AB:=(AA.setCell (p:=⟨w.heap.size,0,none⟩) (zB _) (.int .u64 n)).setCell (p:=⟨w.heap.size,1,none⟩) (zB _) (.int .i64 (s+62135596800));have A2:=A0 a2;have HB:=A0 AB;clear a1 a2 AB hb AA h;go_wp2_with fail
 exact A0M w.heap.size n (s+62135596800) _ rfl rfl rfl A2.out ⟨rfl,HB.out⟩
structure TB (tw b fw:Nat) (pad:Int) (hdr:List Value) (fb:Nat) (ferr:Value) (aE:Addr) (B:C1) (w:World):Prop where
 W:TW tw b fw pad hdr (Lib.byteCells B.bytes) .nilIface w
 ok:B.Ok
 F:w.heap[fb]?=some (.cells #[ferr] 196 (0,0))
 db:w.cell? ⟨15,7,none⟩=some (.int .u8 3)
 e3:w.cell? ⟨3,0,none⟩=some (I7 aE)
 tw15:tw≠15
 tw3:tw≠3
 f15:fb≠15
 f3:fb≠3
def A3S (b fw:Nat) (pad:Int) (hdr:List Value):List Value:= .iface 75 (.pointer (some ⟨b,0,none⟩))::.int .i64 pad::.iface 119 (.pointer (some ⟨fw,0,none⟩))::hdr
theorem TB.pre {tw b fw:Nat} {pad:Int} {hdr:List Value} {fb:Nat} {ferr:Value} {aE:Addr} {B:C1} {w:World} (h:TB tw b fw pad hdr fb ferr aE B w): (A3S b fw pad hdr).length=23:=by simp[A3S,h.W.2.1]
theorem TB.seg {tw b fw:Nat} {pad:Int} {hdr:List Value} {fb:Nat} {ferr:Value} {aE:Addr} {B:C1} {w:World} (h:TB tw b fw pad hdr fb ferr aE B w):E4 w tw 134 (A3S b fw pad hdr) B.bytes [.nilIface]:=h.W.seg
theorem TB.ne {tw b fw:Nat} {pad:Int} {hdr:List Value} {fb:Nat} {ferr:Value} {aE:Addr} {B:C1} {w:World} (h:TB tw b fw pad hdr fb ferr aE B w):fb≠tw:=by
 rintro rfl;have:=h.F;rw[h.W.1] at this;cases this
theorem TB.next {tw b fw:Nat} {pad:Int} {hdr:List Value} {fb:Nat} {ferr ferr2:Value} {aE:Addr} {B B2:C1} {w w':World} (h:TB tw b fw pad hdr fb ferr aE B w) (hs:E4 w' tw 134 (A3S b fw pad hdr) B2.bytes [.nilIface]) (ok:B2.Ok) (hf:w'.heap[fb]?=some (.cells #[ferr2] 196 (0,0))) (hF:Fr w.heap.size [tw,fb] w w'):
  TB tw b fw pad hdr fb ferr2 aE B2 w':=
 ⟨TW.of_seg hs h.W.2.1 ok.len,ok,hf,hF.cell h.db (by simp[Ne.symm h.tw15,Ne.symm h.f15]) (zC h.db),hF.cell h.e3 (by simp[Ne.symm h.tw3,Ne.symm h.f3]) (zC h.e3),h.tw15,h.tw3,h.f15,h.f3⟩
section
variable {tw b fw:Nat} {pad:Int} {hdr:List Value} {fb:Nat} {ferr:Value} {aE:Addr} {B:C1} {w:World}
theorem Y4 (h:TB tw b fw pad hdr fb ferr aE B w) (s:List UInt8) (hl:s.length<=1048576):
  Calls Tryz.prog 129 #[.pointer (some ⟨fb,0,none⟩),.slice (some ⟨tw,23,none⟩) 100 512,str s] w λe w'=>e= .returned (.tuple #[])/\∃AA ferr2,V9 B.name s AA/\(s.length<=100->ferr2=ferr)/\TB tw b fw pad hdr fb ferr2 aE {B with name:=AA} w'/\Fr w.heap.size [tw,fb] w w':=by
 have hp:=h.pre;have k:=R5 w fb tw 100 512 s 134 _ _ _ ferr aE h.seg.get_name h.ok.name (by omega) (by omega) (by omega) hl h.F h.ne h.e3;rw[h.ok.off_name,hp] at k;refine k.mono ?_;rintro e w' ⟨rfl,AA,ferr2,k1,k2,k3,k4,k5⟩;exact⟨rfl,AA,ferr2,k1,k2,h.next k3.put_name (h.ok.put_name AA (k1.len.trans h.ok.name)) k4 k5,k5⟩
theorem A0Z (h:TB tw b fw pad hdr fb ferr aE B w) (s:List UInt8) (hl:s.length<=1048576):
  Calls Tryz.prog 129 #[.pointer (some ⟨fb,0,none⟩),.slice (some ⟨tw,180,none⟩) 100 355,str s] w λe w'=>e= .returned (.tuple #[])/\∃AA ferr2,V9 B.link s AA/\(s.length<=100->ferr2=ferr)/\TB tw b fw pad hdr fb ferr2 aE {B with link:=AA} w'/\Fr w.heap.size [tw,fb] w w':=by
 have hp:=h.pre;have k:=R5 w fb tw 100 355 s 134 _ _ _ ferr aE h.seg.get_link h.ok.link (by omega) (by omega) (by omega) hl h.F h.ne h.e3;rw[h.ok.off_link,hp] at k;refine k.mono ?_;rintro e w' ⟨rfl,AA,ferr2,k1,k2,k3,k4,k5⟩;exact⟨rfl,AA,ferr2,k1,k2,h.next k3.put_link (h.ok.put_link AA (k1.len.trans h.ok.link)) k4 k5,k5⟩
theorem A0a (h:TB tw b fw pad hdr fb ferr aE B w) (s:List UInt8) (hl:s.length<=1048576):
  Calls Tryz.prog 129 #[.pointer (some ⟨fb,0,none⟩),.slice (some ⟨tw,288,none⟩) 32 247,str s] w λe w'=>e= .returned (.tuple #[])/\∃AA ferr2,V9 B.user s AA/\(s.length<=32->ferr2=ferr)/\TB tw b fw pad hdr fb ferr2 aE {B with user:=AA} w'/\Fr w.heap.size [tw,fb] w w':=by
 have hp:=h.pre;have k:=R5 w fb tw 32 247 s 134 _ _ _ ferr aE h.seg.get_user h.ok.user (by omega) (by omega) (by omega) hl h.F h.ne h.e3;rw[h.ok.off_user,hp] at k;refine k.mono ?_;rintro e w' ⟨rfl,AA,ferr2,k1,k2,k3,k4,k5⟩;exact⟨rfl,AA,ferr2,k1,k2,h.next k3.put_user (h.ok.put_user AA (k1.len.trans h.ok.user)) k4 k5,k5⟩
theorem Z7 (h:TB tw b fw pad hdr fb ferr aE B w) (s:List UInt8) (hl:s.length<=1048576):
  Calls Tryz.prog 129 #[.pointer (some ⟨fb,0,none⟩),.slice (some ⟨tw,320,none⟩) 32 215,str s] w λe w'=>e= .returned (.tuple #[])/\∃AA ferr2,V9 B.group s AA/\(s.length<=32->ferr2=ferr)/\TB tw b fw pad hdr fb ferr2 aE {B with group:=AA} w'/\Fr w.heap.size [tw,fb] w w':=by
 have hp:=h.pre;have k:=R5 w fb tw 32 215 s 134 _ _ _ ferr aE h.seg.get_group h.ok.group (by omega) (by omega) (by omega) hl h.F h.ne h.e3;rw[h.ok.off_group,hp] at k;refine k.mono ?_;rintro e w' ⟨rfl,AA,ferr2,k1,k2,k3,k4,k5⟩;exact⟨rfl,AA,ferr2,k1,k2,h.next k3.put_group (h.ok.put_group AA (k1.len.trans h.ok.group)) k4 k5,k5⟩
theorem A0X (h:TB tw b fw pad hdr fb ferr aE B w) (x:Int) (AA: -9223372036854775808<=x) (AB:x<=9223372036854775807):
  Calls Tryz.prog 130 #[.pointer (some ⟨fb,0,none⟩),.slice (some ⟨tw,123,none⟩) 8 412,.int .i64 x] w λe w'=>e= .returned (.tuple #[])/\∃ferr2,(B8 8 x=true->ferr2=ferr)/\TB tw b fw pad hdr fb ferr2 aE {B with mode:=C2 8 (if B8 8 x then x.toNat else 0)} w'/\Fr w.heap.size [tw,fb] w w':=by
 have hp:=h.pre;have k:=N0 w fb tw 8 412 x 134 _ _ _ ferr aE h.seg.get_mode h.ok.mode (by omega) (by omega) AA AB h.tw15 h.db h.F h.ne h.f15 h.e3;rw[h.ok.off_mode,hp] at k;refine k.mono ?_;rintro e w' ⟨rfl,ferr2,k2,k3,k4,k5⟩;refine⟨rfl,ferr2,k2,h.next k3.put_mode (h.ok.put_mode _ (D2 _ _ (by omega) ?_)) k4 k5,k5⟩;split
 ·rename_i hf
  simp only[B8,decide_eq_true_eq] at hf;omega
 ·omega
theorem A1D (h:TB tw b fw pad hdr fb ferr aE B w) (x:Int) (AA: -9223372036854775808<=x) (AB:x<=9223372036854775807):
  Calls Tryz.prog 130 #[.pointer (some ⟨fb,0,none⟩),.slice (some ⟨tw,131,none⟩) 8 404,.int .i64 x] w λe w'=>e= .returned (.tuple #[])/\∃ferr2,(B8 8 x=true->ferr2=ferr)/\TB tw b fw pad hdr fb ferr2 aE {B with uid:=C2 8 (if B8 8 x then x.toNat else 0)} w'/\Fr w.heap.size [tw,fb] w w':=by
 have hp:=h.pre;have k:=N0 w fb tw 8 404 x 134 _ _ _ ferr aE h.seg.get_uid h.ok.uid (by omega) (by omega) AA AB h.tw15 h.db h.F h.ne h.f15 h.e3;rw[h.ok.off_uid,hp] at k;refine k.mono ?_;rintro e w' ⟨rfl,ferr2,k2,k3,k4,k5⟩;refine⟨rfl,ferr2,k2,h.next k3.put_uid (h.ok.put_uid _ (D2 _ _ (by omega) ?_)) k4 k5,k5⟩;split
 ·rename_i hf
  simp only[B8,decide_eq_true_eq] at hf;omega
 ·omega
theorem A1C (h:TB tw b fw pad hdr fb ferr aE B w) (x:Int) (AA: -9223372036854775808<=x) (AB:x<=9223372036854775807):
  Calls Tryz.prog 130 #[.pointer (some ⟨fb,0,none⟩),.slice (some ⟨tw,139,none⟩) 8 396,.int .i64 x] w λe w'=>e= .returned (.tuple #[])/\∃ferr2,(B8 8 x=true->ferr2=ferr)/\TB tw b fw pad hdr fb ferr2 aE {B with gid:=C2 8 (if B8 8 x then x.toNat else 0)} w'/\Fr w.heap.size [tw,fb] w w':=by
 have hp:=h.pre;have k:=N0 w fb tw 8 396 x 134 _ _ _ ferr aE h.seg.get_gid h.ok.gid (by omega) (by omega) AA AB h.tw15 h.db h.F h.ne h.f15 h.e3;rw[h.ok.off_gid,hp] at k;refine k.mono ?_;rintro e w' ⟨rfl,ferr2,k2,k3,k4,k5⟩;refine⟨rfl,ferr2,k2,h.next k3.put_gid (h.ok.put_gid _ (D2 _ _ (by omega) ?_)) k4 k5,k5⟩;split
 ·rename_i hf
  simp only[B8,decide_eq_true_eq] at hf;omega
 ·omega
theorem A0Y (h:TB tw b fw pad hdr fb ferr aE B w) (x:Int) (AA: -9223372036854775808<=x) (AB:x<=9223372036854775807):
  Calls Tryz.prog 130 #[.pointer (some ⟨fb,0,none⟩),.slice (some ⟨tw,147,none⟩) 12 388,.int .i64 x] w λe w'=>e= .returned (.tuple #[])/\∃ferr2,(B8 12 x=true->ferr2=ferr)/\TB tw b fw pad hdr fb ferr2 aE {B with size:=C2 12 (if B8 12 x then x.toNat else 0)} w'/\Fr w.heap.size [tw,fb] w w':=by
 have hp:=h.pre;have k:=N0 w fb tw 12 388 x 134 _ _ _ ferr aE h.seg.get_size h.ok.size (by omega) (by omega) AA AB h.tw15 h.db h.F h.ne h.f15 h.e3;rw[h.ok.off_size,hp] at k;refine k.mono ?_;rintro e w' ⟨rfl,ferr2,k2,k3,k4,k5⟩;refine⟨rfl,ferr2,k2,h.next k3.put_size (h.ok.put_size _ (D2 _ _ (by omega) ?_)) k4 k5,k5⟩;split
 ·rename_i hf
  simp only[B8,decide_eq_true_eq] at hf;omega
 ·omega
theorem Z6 (h:TB tw b fw pad hdr fb ferr aE B w) (x:Int) (AA: -9223372036854775808<=x) (AB:x<=9223372036854775807):
  Calls Tryz.prog 130 #[.pointer (some ⟨fb,0,none⟩),.slice (some ⟨tw,159,none⟩) 12 376,.int .i64 x] w λe w'=>e= .returned (.tuple #[])/\∃ferr2,(B8 12 x=true->ferr2=ferr)/\TB tw b fw pad hdr fb ferr2 aE {B with mtime:=C2 12 (if B8 12 x then x.toNat else 0)} w'/\Fr w.heap.size [tw,fb] w w':=by
 have hp:=h.pre;have k:=N0 w fb tw 12 376 x 134 _ _ _ ferr aE h.seg.get_mtime h.ok.mtime (by omega) (by omega) AA AB h.tw15 h.db h.F h.ne h.f15 h.e3;rw[h.ok.off_mtime,hp] at k;refine k.mono ?_;rintro e w' ⟨rfl,ferr2,k2,k3,k4,k5⟩;refine⟨rfl,ferr2,k2,h.next k3.put_mtime (h.ok.put_mtime _ (D2 _ _ (by omega) ?_)) k4 k5,k5⟩;split
 ·rename_i hf
  simp only[B8,decide_eq_true_eq] at hf;omega
 ·omega
theorem A2L (h:TB tw b fw pad hdr fb ferr aE B w) (x:Int) (AA: -9223372036854775808<=x) (AB:x<=9223372036854775807):
  Calls Tryz.prog 130 #[.pointer (some ⟨fb,0,none⟩),.slice (some ⟨tw,352,none⟩) 8 183,.int .i64 x] w λe w'=>e= .returned (.tuple #[])/\∃ferr2,(B8 8 x=true->ferr2=ferr)/\TB tw b fw pad hdr fb ferr2 aE {B with maj:=C2 8 (if B8 8 x then x.toNat else 0)} w'/\Fr w.heap.size [tw,fb] w w':=by
 have hp:=h.pre;have k:=N0 w fb tw 8 183 x 134 _ _ _ ferr aE h.seg.get_maj h.ok.maj (by omega) (by omega) AA AB h.tw15 h.db h.F h.ne h.f15 h.e3;rw[h.ok.off_maj,hp] at k;refine k.mono ?_;rintro e w' ⟨rfl,ferr2,k2,k3,k4,k5⟩;refine⟨rfl,ferr2,k2,h.next k3.put_maj (h.ok.put_maj _ (D2 _ _ (by omega) ?_)) k4 k5,k5⟩;split
 ·rename_i hf
  simp only[B8,decide_eq_true_eq] at hf;omega
 ·omega
theorem A2M (h:TB tw b fw pad hdr fb ferr aE B w) (x:Int) (AA: -9223372036854775808<=x) (AB:x<=9223372036854775807):
  Calls Tryz.prog 130 #[.pointer (some ⟨fb,0,none⟩),.slice (some ⟨tw,360,none⟩) 8 175,.int .i64 x] w λe w'=>e= .returned (.tuple #[])/\∃ferr2,(B8 8 x=true->ferr2=ferr)/\TB tw b fw pad hdr fb ferr2 aE {B with mnr:=C2 8 (if B8 8 x then x.toNat else 0)} w'/\Fr w.heap.size [tw,fb] w w':=by
 have hp:=h.pre;have k:=N0 w fb tw 8 175 x 134 _ _ _ ferr aE h.seg.get_mnr h.ok.mnr (by omega) (by omega) AA AB h.tw15 h.db h.F h.ne h.f15 h.e3;rw[h.ok.off_mnr,hp] at k;refine k.mono ?_;rintro e w' ⟨rfl,ferr2,k2,k3,k4,k5⟩;refine⟨rfl,ferr2,k2,h.next k3.put_mnr (h.ok.put_mnr _ (D2 _ _ (by omega) ?_)) k4 k5,k5⟩;split
 ·rename_i hf
  simp only[B8,decide_eq_true_eq] at hf;omega
 ·omega
end
end Go.Proofs.YtkanmkcojlefbaaGreatDoor
