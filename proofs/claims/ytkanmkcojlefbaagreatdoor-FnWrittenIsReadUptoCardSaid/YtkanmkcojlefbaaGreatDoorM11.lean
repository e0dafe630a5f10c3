/-
  Part of the proof; holds the texts SetG.
-/
import Derived.Test.YtkanmkcojlefbaaGreatDoorM03
set_option maxRecDepth 100000
set_option linter.unusedSimpArgs false
set_option linter.unusedVariables false
namespace Go.Proofs.YtkanmkcojlefbaaGreatDoor
open Go.RowKit
def C1.gnu (b:C1):C1:= {b with magic:=[117,115,116,97,114,32],ver:=[32,0]}
theorem A2X (w:World) (g:Nat) (T:TypeId) (AA:List Value) (b:C1) (post:List Value) (ok:b.Ok) (h:E4 w g T AA b.bytes post) (hg:g≠15) (AD:w.cell? ⟨15,7,none⟩=some (.int .u8 3)):
  Calls Tryz.prog 132 #[.pointer (some ⟨g,AA.length,none⟩),.int .i64 8] w λe w'=>e= .returned (.tuple #[])/\E4 w' g T AA b.gnu.summed.bytes post/\Fr w.heap.size [g] w w':=by
 have n1:∀w',Calls Tryz.prog 66 #[.int .i64 8,.int .i64 1] w' (C4 w' (.bool false)):=λw'=>O8 w' 8 1 (by kernel_rfl);have n2:∀w',Calls Tryz.prog 66 #[.int .i64 8,.int .i64 8] w' (C4 w' (.bool true)):=λw'=>A3D w' 8 8 (by kernel_rfl);obtain⟨w1,c1,s1,F1⟩:=A2G w g 6 255 [117,115,116,97,114,32] T _ _ _ h.get_magic ok.magic rfl _ (ok.off_magic AA);have s1:=s1.put_magic;have AO:=ok.put_magic [117,115,116,97,114,32] rfl;obtain⟨w2,c2,s2,F2⟩:=A2G w1 g 2 249 [32,0] T _ _ _ s1.get_ver AO.ver rfl _ (AO.off_ver AA);have s2:=s2.put_ver;have AC:b.gnu.Ok:=AO.put_ver [32,0] rfl;change E4 w2 g T AA b.gnu.bytes post at s2
 have AH:=AC.len;have AM:Fr w.heap.size [g] w w2:=F1.trans (F2.wide F1.size (by simp));have AP:=AM.cell AD (by simpa using Ne.symm hg) (zC AD);have AE:=A2w (w2.alloc (.cells #[.nilIface] 196)) g T AA _ post (s2.below ((zD _ w2).alloc (zB _) _)) AH;have AS:=A0l b.gnu.bytes 512;have AL:b.gnu.summed.bytes= {b.gnu with chk:=C2 7 (X8 b.gnu.bytes 512)++[32]}.bytes:=rfl;have AU:b.gnu.chk=b.gnu.chk.take 7++b.gnu.chk.drop 7:=(List.take_append_drop 7 _).symm;generalize AV:X8 b.gnu.bytes 512=sm at*;have AI:B8 7 (sm:Int)=true:=by simp[B8];omega
 have AB:∀nd,Calls Tryz.prog 130 #[.pointer (some ⟨w2.heap.size,0,none⟩),.slice (some ⟨g,AA.length+148,none⟩) 7 364,.int .i64 sm] ((w2.alloc (.cells #[.nilIface] 196)).drewN nd) λe w'=>e= .returned (.tuple #[])/\
   E4 w' g T (AA++Lib.byteCells b.gnu.bef_chk) (C2 7 sm++b.gnu.chk.drop 7) (Lib.byteCells b.gnu.aft_chk++post)/\Fr w.heap.size [g] w w':=λnd=>by
  have s3:E4 ((w2.alloc (.cells #[.nilIface] 196)).drewN nd) g T (AA++Lib.byteCells b.gnu.bef_chk) b.gnu.chk (Lib.byteCells b.gnu.aft_chk++post):=(s2.below ((zD _ w2).alloc (zB _) _)).get_chk;rw[AU] at s3;have F3:Fr w.heap.size [g] w ((w2.alloc (.cells #[.nilIface] 196)).drewN nd):=(AM.alloc _).drewN nd;have AQ:=F3.cell AD (by simpa using Ne.symm hg) (zC AD);have:=U1 ((w2.alloc (.cells #[.nilIface] 196)).drewN nd) w2.heap.size g 7 364 sm T _ _ _ (E4.first.1 s3) (by rw[zR,AC.chk];rfl) (.inl rfl) (by omega) AI hg AQ;rw[AC.off_chk] at this;refine this.mono ?_;rintro e w' ⟨rfl,h1,h2⟩;exact⟨rfl,E4.first.2 h1,F3.trans (h2.wide F3.size (by simp))⟩
 have AR: (C2 7 sm).length=7:=D2 7 sm (by omega) (by omega)
 obtain⟨c8,AT⟩:∃c8,b.gnu.chk.drop 7=[c8]:=by
  have: (b.gnu.chk.drop 7).length=1:=by rw[List.length_drop,AC.chk]
  exact List.length_eq_one_iff.1 this
 rw[AT] at AB;have AJ:=AC.off_chk AA
 have AG:∀w5,E4 w5 g T (AA++Lib.byteCells b.gnu.bef_chk) (C2 7 sm++[c8]) (Lib.byteCells b.gnu.aft_chk++post)->w5.cell? ⟨g,AA.length+148+7,none⟩=some (.int .u8 c8.toNat)/\w5.frozen? ⟨g,AA.length+148+7,none⟩=false/\
   E4 (w5.setCell ⟨g,AA.length+148+7,none⟩ (.int .u8 32)) g T AA b.gnu.summed.bytes post:=λw5 h5=>by
  have a1:=h5.cell 7 c8 (by rw[zT (by omega),AR];rfl);have a2:=h5.frozen 7;have a3:=h5.set 7 (by simp;omega) 32;rw[List.set_append_right _ _ (by omega),AR] at a3;rw[AJ] at a1 a2 a3;refine⟨a1,a2,?_⟩;rw[AL];exact a3.put_chk
 have v7:=A0 A5Z;have vu:=A0 A8Y;have vm:=A0 B5S;have vv:=A0 B2N;have vc:=A0 B0M;have N1:=A0 n1;have N2:=A0 n2;have H:=A0 h;have S2:=A0 s2;have HF:=A0 AM;have HC:=A0 AE;have HS:=A0 AB;have HN:=A0 AG;clear h s1 s2 F1 F2 AM AP AL AU AV AO AC AR AT AJ n1 n2 AE AB AG AI AH AS ok AD;go_enter Tryz.func132,Tryz.ntmps132
 go_wp2_with fail
 refine(N1.out _).mono ?_;rintro e wx ⟨rfl,rfl⟩;go_wp2_with fail
 refine(N2.out _).mono ?_;rintro e wx ⟨rfl,rfl⟩;go_wp2_with fail
 refine(vu.out _ _).mono ?_;rintro e wx ⟨rfl,rfl⟩;go_wp2_with fail
 refine(vm.out _ _ _).mono ?_;rintro e wx ⟨rfl,rfl⟩;go_wp2_with fail
 refine(vu.out _ _).mono ?_;rintro e wx ⟨rfl,rfl⟩;go_wp2_with fail
 refine(vv.out _ _ _).mono ?_;rintro e wx ⟨rfl,rfl⟩;go_wp2_with fail
 refine(v7.out _ _).mono ?_;rintro e wx ⟨rfl,rfl⟩;go_wp2_with fail
 refine(vc.out _ _ _).mono ?_;rintro e wx ⟨rfl,rfl⟩;go_wp2_with fail
 refine HC.out.mono ?_;rintro e wx ⟨⟨z,rfl⟩,nd,rfl⟩;go_wp2_with fail
 refine(HS.out nd).mono ?_;rintro e w5 ⟨rfl,h5,F5⟩;obtain⟨a1,a2,a3⟩:=HN.out w5 h5;have A3:=A0 a3;clear a3 h5;go_wp2_with fail
 go_end0
 exact⟨rfl,A3.out,F5.setCell (p:=⟨g,AA.length+148+7,none⟩) (.inl (by simp)) _⟩
theorem B6B:SF 8 [117,115,116,97,114,32] [32,0]:=⟨rfl,rfl,λw g T AA b post ok h hg hd=>A2X w g T AA b post ok h hg hd⟩
end Go.Proofs.YtkanmkcojlefbaaGreatDoor
