/-
  Part of the proof; holds the texts StepP.
-/
import Derived.Test.YtkanmkcojlefbaaGreatDoorM05
set_option maxRecDepth 100000
set_option linter.unusedSimpArgs false
set_option linter.unusedVariables false
namespace Go.Proofs.YtkanmkcojlefbaaGreatDoor
open Go.RowKit
def A0s (s s2:List UInt8):Prop:=(D6 s=true->s2=s)/\D6 s2=true
section
variable {w:World} {tw b fw fb:Nat} {pad:Int} {hdr:List Value} {ferr:Value} {aE:Addr} {B:C1}
theorem A5W (h:TB tw b fw pad hdr fb ferr aE B w) (s:List UInt8) (hl:s.length<=1048576):
  Calls Tryz.prog 142 #[.slice (some ⟨tw,23,none⟩) 100 512,str s,.pointer (some ⟨fb,0,none⟩)] w λe w'=>e= .returned (.tuple #[])/\∃s2 AA ferr2,A0s s s2/\V9 B.name s2 AA/\TB tw b fw pad hdr fb ferr2 aE {B with name:=AA} w'/\Fr w.heap.size [tw,fb] w w':=by
 have ht:=Z8 s w hl;have H:=A0 h;clear h;go_enter Tryz.func142,Tryz.ntmps142
 go_wp2_with fail
 refine ht.mono ?_;rintro e w1 ⟨⟨m,rfl,AB,AC,AD⟩,hb⟩;have hs:=Y4 (H.out.below hb) m (by omega);have HM:Hid (A0s s m):=A0 ⟨AB,AC⟩;have HB:=A0 hb;clear ht AB AC AD hb;go_wp2_with fail
 refine hs.mono ?_;rintro e w2 ⟨rfl,AA,ferr2,k1,k2,k3,k4⟩;go_wp2_with fail
 go_end0
 exact⟨rfl,m,AA,ferr2,HM.out,k1,k3,(Fr.of_below HB.out w.heap.size [tw,fb]).trans (k4.wide HB.out.size (λk hk _=>hk))⟩
theorem A5V (h:TB tw b fw pad hdr fb ferr aE B w) (s:List UInt8) (hl:s.length<=1048576):
  Calls Tryz.prog 142 #[.slice (some ⟨tw,180,none⟩) 100 355,str s,.pointer (some ⟨fb,0,none⟩)] w λe w'=>e= .returned (.tuple #[])/\∃s2 AA ferr2,A0s s s2/\V9 B.link s2 AA/\TB tw b fw pad hdr fb ferr2 aE {B with link:=AA} w'/\Fr w.heap.size [tw,fb] w w':=by
 have ht:=Z8 s w hl;have H:=A0 h;clear h;go_enter Tryz.func142,Tryz.ntmps142
 go_wp2_with fail
 refine ht.mono ?_;rintro e w1 ⟨⟨m,rfl,AB,AC,AD⟩,hb⟩;have hs:=A0Z (H.out.below hb) m (by omega);have HM:Hid (A0s s m):=A0 ⟨AB,AC⟩;have HB:=A0 hb;clear ht AB AC AD hb;go_wp2_with fail
 refine hs.mono ?_;rintro e w2 ⟨rfl,AA,ferr2,k1,k2,k3,k4⟩;go_wp2_with fail
 go_end0
 exact⟨rfl,m,AA,ferr2,HM.out,k1,k3,(Fr.of_below HB.out w.heap.size [tw,fb]).trans (k4.wide HB.out.size (λk hk _=>hk))⟩
theorem A5X (h:TB tw b fw pad hdr fb ferr aE B w) (s:List UInt8) (hl:s.length<=1048576):
  Calls Tryz.prog 142 #[.slice (some ⟨tw,288,none⟩) 32 247,str s,.pointer (some ⟨fb,0,none⟩)] w λe w'=>e= .returned (.tuple #[])/\∃s2 AA ferr2,A0s s s2/\V9 B.user s2 AA/\TB tw b fw pad hdr fb ferr2 aE {B with user:=AA} w'/\Fr w.heap.size [tw,fb] w w':=by
 have ht:=Z8 s w hl;have H:=A0 h;clear h;go_enter Tryz.func142,Tryz.ntmps142
 go_wp2_with fail
 refine ht.mono ?_;rintro e w1 ⟨⟨m,rfl,AB,AC,AD⟩,hb⟩;have hs:=A0a (H.out.below hb) m (by omega);have HM:Hid (A0s s m):=A0 ⟨AB,AC⟩;have HB:=A0 hb;clear ht AB AC AD hb;go_wp2_with fail
 refine hs.mono ?_;rintro e w2 ⟨rfl,AA,ferr2,k1,k2,k3,k4⟩;go_wp2_with fail
 go_end0
 exact⟨rfl,m,AA,ferr2,HM.out,k1,k3,(Fr.of_below HB.out w.heap.size [tw,fb]).trans (k4.wide HB.out.size (λk hk _=>hk))⟩
theorem A4J (h:TB tw b fw pad hdr fb ferr aE B w) (s:List UInt8) (hl:s.length<=1048576):
  Calls Tryz.prog 142 #[.slice (some ⟨tw,320,none⟩) 32 215,str s,.pointer (some ⟨fb,0,none⟩)] w λe w'=>e= .returned (.tuple #[])/\∃s2 AA ferr2,A0s s s2/\V9 B.group s2 AA/\TB tw b fw pad hdr fb ferr2 aE {B with group:=AA} w'/\Fr w.heap.size [tw,fb] w w':=by
 have ht:=Z8 s w hl;have H:=A0 h;clear h;go_enter Tryz.func142,Tryz.ntmps142
 go_wp2_with fail
 refine ht.mono ?_;rintro e w1 ⟨⟨m,rfl,AB,AC,AD⟩,hb⟩;have hs:=Z7 (H.out.below hb) m (by omega);have HM:Hid (A0s s m):=A0 ⟨AB,AC⟩;have HB:=A0 hb;clear ht AB AC AD hb;go_wp2_with fail
 refine hs.mono ?_;rintro e w2 ⟨rfl,AA,ferr2,k1,k2,k3,k4⟩;go_wp2_with fail
 go_end0
 exact⟨rfl,m,AA,ferr2,HM.out,k1,k3,(Fr.of_below HB.out w.heap.size [tw,fb]).trans (k4.wide HB.out.size (λk hk _=>hk))⟩
end
end Go.Proofs.YtkanmkcojlefbaaGreatDoor
