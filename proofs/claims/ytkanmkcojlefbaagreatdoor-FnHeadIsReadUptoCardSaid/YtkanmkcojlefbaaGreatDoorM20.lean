/-
  Part of the proof; holds the texts HIns, HIn1, HIn2, HIn3.
-/
import Derived.Test.YtkanmkcojlefbaaGreatDoorM19
set_option maxHeartbeats 8000000
set_option maxRecDepth 100000
set_option linter.unusedSimpArgs false
set_option linter.unusedVariables false
namespace Go.Proofs.YtkanmkcojlefbaaGreatDoor
open Go.RowKit
def E8 (L:List (List UInt8×List UInt8)):List Value:=L.flatMap λp=> [str p.1,str p.2]
theorem A8n:E8 []=[]:=rfl
theorem S6 (p:List UInt8×List UInt8) (L:List (List UInt8×List UInt8)):E8 (p::L)=str p.1::str p.2::E8 L:=rfl
theorem Y7 (L M:List (List UInt8×List UInt8)):E8 (L++M)=E8 L++E8 M:=by simp[E8]
theorem S4 (L:List (List UInt8×List UInt8)): (E8 L).length=L.length*2:=by
 induction L with
 |nil=>rfl
 |cons p L ih=>rw[S6,List.length_cons,List.length_cons,ih,List.length_cons];omega
theorem A7b (L:List (List UInt8×List UInt8)):∀i,(E8 L).take (i*2)=E8 (L.take i):=by
 induction L with
 |nil=>intro i;simp[E8]
 |cons p L ih=>
  intro i;cases i with
  |zero=>rfl
  |succ i=>rw[S6,show(i+1)*2=i*2+1+1 by omega,List.take_succ_cons,List.take_succ_cons,List.take_succ_cons,S6,ih i]
theorem A3z (L:List (List UInt8×List UInt8)):∀i,(E8 L).drop (i*2)=E8 (L.drop i):=by
 induction L with
 |nil=>intro i;simp[E8]
 |cons p L ih=>
  intro i;cases i with
  |zero=>rfl
  |succ i=>rw[S6,show(i+1)*2=i*2+1+1 by omega,List.drop_succ_cons,List.drop_succ_cons,List.drop_succ_cons,ih i]
theorem A1L (L:List (List UInt8×List UInt8)) (i:Nat) (hi:i<L.length): (E8 L)[i*2]?=some (str L[i].1)/\(E8 L)[i*2+1]?=some (str L[i].2):=by
 have h:=A3z L i;rw[List.drop_eq_getElem_cons hi,S6] at h;constructor
 ·have:=congrArg (λl=>l[0]?) h
  simpa using this
 ·have:=congrArg (λl=>l[1]?) h
  simpa using this
theorem A8o (L:List (List UInt8×List UInt8)):∀v∈E8 L,v.oneCell'=true:=by
 intro v hv;simp only[E8,List.mem_flatMap,List.mem_cons,List.not_mem_nil,or_false] at hv;obtain⟨p,-,rfl|rfl⟩:=hv<;>rfl
theorem B5C:Tryz.prog.underlying 24=some (.slice 59):=Tryz.underlying24
theorem B3L: (Tryz.prog.info? 59).map (·.size)=some 2:=by kernel_rfl
theorem B1L (w:World) (g o AA AC:Nat) (a:Addr) (AB AG:Nat) (cur:Array Value) (t:TypeId) (cs:List Value)
  (hg:w.heap[g]?=some (.cells cur t (0,0))) (hn:cs.length=Nat.min AB AA*2)
  (AE:∀j v,cs[j]?=some v->w.cell? (a.add j)=some v) (AD:o+cs.length<=cur.size) (h1:∀v∈cs,v.oneCell'=true):
  (Builtin.copy_ #[24,24] 3 #[.slice (some ⟨g,o,none⟩) AA AC,.slice (some a) AB AG]).run Tryz.prog w=
   .ok (goInt (Nat.min AB AA)) (w.setRow g (cur.toList.take o++cs++cur.toList.drop (o+cs.length)).toArray):=by
 have hl:=run_loadCells_list (P:=Tryz.prog) w a cs AE;have AH:=run_storeCells_at Tryz.prog g o t cs 0 cur w hg (by simpa using AD) h1;cases hq:Tryz.prog.info? 59 with
 |none=>have:=B3L;rw[hq] at this;cases this
 |some i=>
  have hi:i.size=2:=by have:=B3L;rw[hq] at this;simpa using this
  simp[Builtin.copy_,run_underlying B5C,Builtin.lenOf,Builtin.firstCells,sizeOf,typeInfo,hq,hi,<-hn,hl,AH]
theorem B0k (L:List (List UInt8×List UInt8)) (i:Nat) (hi:i<=L.length) (p:List UInt8×List UInt8) (AA:List Value):
  ((((E8 L++[str [],str []]++AA).take ((i+1)*2)++E8 (L.drop i)++(E8 L++[str [],str []]++AA).drop ((i+1)*2+(E8 (L.drop i)).length)).set (i*2) (str p.1)).set (i*2+1) (str p.2))=E8 (L.take i++p::L.drop i)++AA:=by
 have e1: (E8 L++[str [],str []]++AA)=E8 (L++[([],[])])++AA:=by rw[Y7];rfl
 have AC: (E8 (L++[([],[])])).length=(L.length+1)*2:=by rw[S4,List.length_append];rfl
 have hd: (i+1)*2+(E8 (L.drop i)).length=(L.length+1)*2:=by rw[S4,List.length_drop];omega
 rw[e1,hd,List.drop_left' AC,List.take_append_of_le_length (by rw[AC];omega),A7b];have AD:i< (L++[(([]:List UInt8),([]:List UInt8))]).length:=by rw[List.length_append];simp;omega
 rw[List.take_succ_eq_append_getElem AD,Y7,List.take_append_of_le_length hi];generalize (L++[(([]:List UInt8),([]:List UInt8))])[i]=q;have AB: (E8 (L.take i)).length=i*2:=by rw[S4,List.length_take];omega
 rw[Y7,S6,S6,A8n];simp only[List.append_assoc,List.cons_append,List.nil_append];rw[List.set_append_right _ _ (by omega),AB,Nat.sub_self,List.set_cons_zero,List.set_append_right _ _ (by omega),AB,show i*2+1-i*2=0+1 by omega,List.set_cons_succ,List.set_cons_zero]
noncomputable def B5M:Code:=(A2B 11 (Tryz.f38.body.getD .skip)).getD .skip
noncomputable def B2C:Code:=(A2B 14 (Tryz.f38.body.getD .skip)).getD .skip
theorem B4C (w:World) (hb g2 g3 r0:Nat) (k v:List UInt8) (L:List (List UInt8×List UInt8)) (p:Option Addr) (c:Nat) (AD:w.cell? ⟨g3,19,none⟩=some (.slice p L.length c)) (hp:∀ (j:Nat) (hj:j<L.length),∃g,p=some ⟨g,0,none⟩/\w.cell? ⟨g,j*2,none⟩=some (str L[j].1)) (hl:L.length<=4294967296)
  (Q:Exit->Act->World->Prop) {c1 c6 c7 c8 c9 dR dS dT dU dV dW dX dY dZ dQ c20 c21 eA eC eD eH eJ eK eO eR eS eV eW eX eY eZ fA c37 fB fC fD fE fH fI fJ fK c46 fL fN fO fP c51 fQ c53 fR fS fT fU fV fW fX fY fZ gA gB gC gD gE gF gG gH gI gJ gK gL c75 gM gN gO gP c80 gQ gR gT gU c85 gW gX gY gZ hJ hZ iA iB iC iD iE iF iG aB aC aD aF aG aH aI aJ aK aL aM aN aO aP aQ aR aS aT aU aV aW aX aY aZ bB bC bD c127 bE bF bG bH bI bJ bK bL bM bN bO bP bQ bR bS c143 aA:Value}
  (hQ:∀ (iH iI bT bU bV bW bX bY bZ cA cB cC cD cE cF cG cH cI cJ cL cM cO cP cQ cS cT cU cV cW cX cY cZ dA dB dC dD dE dF dG dH dI dJ dL dM dO dP:Value) (i:Nat),i<=L.length->Code.wp Tryz.prog B2C Q ⟨(.pointer (some ⟨hb,0,none⟩)::c1::.pointer (some ⟨g2,0,none⟩)::.pointer (some ⟨g3,0,none⟩)::str k::str v::.int .i64 i::c7::c8::c9::dR::dS::dT::dU::dV::dW::dX::dY::dZ::dQ::c20::c21::eA::eC::eD::eH::eJ::eK::eO::eR::eS::eV::eW::eX::eY::eZ::fA::c37::fB::fC::fD::fE::fH::fI::fJ::fK::c46::fL::fN::fO::fP::c51::fQ::c53::fR::fS::fT::fU::fV::fW::fX::fY::fZ::gA::gB::gC::gD::gE::gF::gG::gH::gI::gJ::gK::gL::c75::gM::gN::gO::gP::c80::gQ::gR::gT::gU::c85::gW::gX::gY::gZ::hJ::hZ::iA::iB::iC::iD::iE::.pointer (some ⟨r0,0,none⟩)::iH::iI::bT::bU::bV::bW::bX::bY::bZ::cA::cB::cC::cD::cE::cF::cG::cH::cI::cJ::cL::cM::cO::cP::cQ::cS::cT::cU::cV::cW::cX::cY::cZ::dA::dB::dC::dD::dE::dF::dG::dH::dI::dJ::dL::dM::dO::dP::aA::[]).toArray,[]⟩ w):
  Code.wp Tryz.prog B5M Q ⟨(.pointer (some ⟨hb,0,none⟩)::c1::.pointer (some ⟨g2,0,none⟩)::.pointer (some ⟨g3,0,none⟩)::str k::str v::c6::c7::c8::c9::dR::dS::dT::dU::dV::dW::dX::dY::dZ::dQ::c20::c21::eA::eC::eD::eH::eJ::eK::eO::eR::eS::eV::eW::eX::eY::eZ::fA::c37::fB::fC::fD::fE::fH::fI::fJ::fK::c46::fL::fN::fO::fP::c51::fQ::c53::fR::fS::fT::fU::fV::fW::fX::fY::fZ::gA::gB::gC::gD::gE::gF::gG::gH::gI::gJ::gK::gL::c75::gM::gN::gO::gP::c80::gQ::gR::gT::gU::c85::gW::gX::gY::gZ::hJ::hZ::iA::iB::iC::iD::iE::.pointer (some ⟨r0,0,none⟩)::iF::iG::aB::aC::aD::aF::aG::aH::aI::aJ::aK::aL::aM::aN::aO::aP::aQ::aR::aS::aT::aU::aV::aW::aX::aY::aZ::bB::bC::bD::c127::bE::bF::bG::bH::bI::bJ::bK::bL::bM::bN::bO::bP::bQ::bR::bS::c143::aA::[]).toArray,[]⟩ w:=by
 conv=>arg 2;whnf
 have HQ:=A0 hQ;have HP:=A0 hp;clear hQ hp;go_wp2_with fail
 rename_i K1 AA;have HK:=A0 AA;clear AA;go_loopw [6] (λs6 wr=>∃i:Nat,i<=L.length/\s6= .int .i64 i/\wr=w) (λs6 _=>(intOf s6).toNat)
 case atStart=>exact⟨L.length,Nat.le_refl _,rfl,rfl⟩
 case round=>
  obtain⟨i,hi,rfl,rfl⟩:=hrel;rcases Nat.eq_zero_or_pos i with hz|hz
  ·subst hz
   go_wp2_with fail
   refine HK.out _ _ ?_;exact HQ.out _ _ _ _ _ _ _ _ _ _ _ _ _ _ _ _ _ _ _ _ _ _ _ _ _ _ _ _ _ _ _ _ _ _ _ _ _ _ _ _ _ _ _ _ _ _ 0 (Nat.zero_le _)
  ·obtain⟨j,AB⟩:∃j,i=j+1:=⟨i-1,by omega⟩
   have hj:j<L.length:=by omega
   obtain⟨g,rfl,hc⟩:=HP.out j hj;have AE: (0:Int)< (i:Int):=by omega
   have hw:IntKind.i64.wrap ((i:Int)-1)=(j:Int):=by rw[IntWalk.i64_in _ (by omega)];omega
   have AG: (0:Int)<=(j:Int):=by omega
   have AH: (j:Int)< (L.length:Int):=by omega
   have HI:=A0 (And.intro hi AB);generalize AC:L[j].1=kk at*;clear hi AB AC;go_wp2_with fail
   ·exact⟨⟨j,by have:=HI.out;omega,rfl,trivial⟩,by have:=HI.out;simp[intOf];omega⟩
   ·refine HK.out _ _ ?_
    exact HQ.out _ _ _ _ _ _ _ _ _ _ _ _ _ _ _ _ _ _ _ _ _ _ _ _ _ _ _ _ _ _ _ _ _ _ _ _ _ _ _ _ _ _ _ _ _ _ i HI.out.1
end Go.Proofs.YtkanmkcojlefbaaGreatDoor
namespace Go.Proofs.YtkanmkcojlefbaaGreatDoor
open Go.RowKit
variable {c1 c7 c8 c9 dR dS dT dU dV dW dX dY dZ dQ c20 c21 eA eC eD eH eJ eK eO eR eS eV eW eX eY eZ fA c37 fB fC fD fE fH fI fJ fK c46 fL fN fO fP c51 fQ c53 fR fS fT fU fV fW fX fY fZ gA gB gC gD gE gF gG gH gI gJ gK gL c75 gM gN gO gP c80 gQ gR gT gU c85 gW gX gY gZ hJ hZ iA iB iC iD iE iF iG aB aC aD aF aG aH aI aJ aK aL aM aN aO aP aQ aR aS aT aU aV aW aX aY aZ bB bC bD c127 bE bF bG bH bI bJ bK bL bM bN bO bP bQ bR bS c143 aA:Value}
noncomputable def B2D:Code:=(A2B 15 (Tryz.f38.body.getD .skip)).getD .skip
theorem B5b: (Tryz.prog.info? 59).map (λi=>(i.zero,i.size,i.bytes))=some (some (.agg #[str [],str []]),2,32):=by kernel_rfl
structure Kp (w0:World) (g3:Nat) (w w':World):Prop where
 B:Below w0.heap.size w0 w'
 K:∀k o,w.heap[k]?=some o->k≠g3->(∀c fz,o≠ .cells c 59 fz)->w'.heap[k]?=some o
 size:w.heap.size<=w'.heap.size
theorem A6J {w w':World} {B:Nat} {e:TypeId} {s:Nat} {v:Value} {n:Nat} {xs:List Value} (h:w.ownsRow B e s v n xs) (f:Below w.heap.size w w'):w'.ownsRow B e s v n xs:=by
 refine⟨h.1,?_⟩;rcases h.2 with h|⟨g,cap,cur,h1,h2,h3,h4⟩
 ·exact .inl h
 ·exact .inr ⟨g,cap,cur,h1,h2,(f.block g (A8 h3)).trans h3,h4⟩
theorem A8w {w w':World} {B n:Nat} {v:Value} {xs:List Value} (h:w.ownsRow B 59 2 v n xs) (hg:w.grownBy w' v.ownBlock) (k:Nat) (o:Obj) (hk:w.heap[k]?=some o) (ho:∀c fz,o≠ .cells c 59 fz):w'.heap[k]?=some o:=by
 have AA:v.ownBlock≠some k:=by
  intro e;rcases h.2 with ⟨rfl,-⟩|⟨g,cap,cur,rfl,h2,h3,h4⟩
  ·cases e
  ·cases e
   rw[hk] at h3;injection h3 with h3
   exact ho _ _ h3
 exact(hg.block k (A8 hk) (λe=>AA e.symm)).trans hk
theorem A7j {w w' w0:World} {n:Nat} {v:Value} {xs:List Value} (h:w.ownsRow w0.heap.size 59 2 v n xs) (hg:w.grownBy w' v.ownBlock) (hB:Below w0.heap.size w0 w):Below w0.heap.size w0 w':=
 ⟨hg.os.trans hB.os,hg.tape.trans hB.tape,hg.output.trans hB.output,Nat.le_trans hB.size hg.size,λk hk=>by
  have AA:v.ownBlock≠some k:=by
   intro e;rcases h.2 with ⟨rfl,-⟩|⟨g,cap,cur,rfl,h2,h3,h4⟩
   ·cases e
   ·cases e;have h9:g<w0.heap.size:=hk;omega
  exact(hg.block k (Nat.lt_of_lt_of_le hk hB.size) (λe=>AA e.symm)).trans (hB.block k hk)⟩
theorem B4D (w w0:World) (hb g2 g3 r0:Nat) (k v:List UInt8) (i n:Nat) (X:IH) (xs:List Value) (hB:Below w0.heap.size w0 w) (hg:w0.heap.size<=g3) (AL:w.heap[g3]?=some (.cells X.cells.toArray 26 (0,0))) (AI:w.ownsRow w0.heap.size 59 2 X.recs n xs) (hn:n<=4294967296)
  (Q:Exit->Act->World->Prop)
  (hQ:∀ (iH iI bT bU bV bW bX bY bZ cA cB cC cD cE cF cG cH cI cJ cL cM cO cP cQ cS cT cU cV cW cX cY cZ dA dB dC dD dE dF dG dH dI dJ dL dM dO dP:Value) (rv:Value) (w':World),Kp w0 g3 w w'->w'.heap[g3]?=some (.cells ({X with recs:=rv}:IH).cells.toArray 26 (0,0))->w'.ownsRow w0.heap.size 59 2 rv (n+1) (xs++[str [],str []])->Code.wp Tryz.prog B2D Q ⟨(.pointer (some ⟨hb,0,none⟩)::c1::.pointer (some ⟨g2,0,none⟩)::.pointer (some ⟨g3,0,none⟩)::str k::str v::.int .i64 i::c7::c8::c9::dR::dS::dT::dU::dV::dW::dX::dY::dZ::dQ::c20::c21::eA::eC::eD::eH::eJ::eK::eO::eR::eS::eV::eW::eX::eY::eZ::fA::c37::fB::fC::fD::fE::fH::fI::fJ::fK::c46::fL::fN::fO::fP::c51::fQ::c53::fR::fS::fT::fU::fV::fW::fX::fY::fZ::gA::gB::gC::gD::gE::gF::gG::gH::gI::gJ::gK::gL::c75::gM::gN::gO::gP::c80::gQ::gR::gT::gU::c85::gW::gX::gY::gZ::hJ::hZ::iA::iB::iC::iD::iE::.pointer (some ⟨r0,0,none⟩)::iH::iI::bT::bU::bV::bW::bX::bY::bZ::cA::cB::cC::cD::cE::cF::cG::cH::cI::cJ::cL::cM::cO::cP::cQ::cS::cT::cU::cV::cW::cX::cY::cZ::dA::dB::dC::dD::dE::dF::dG::dH::dI::dJ::dL::dM::dO::dP::aA::[]).toArray,[]⟩ w'):
  Code.wp Tryz.prog B2C Q ⟨(.pointer (some ⟨hb,0,none⟩)::c1::.pointer (some ⟨g2,0,none⟩)::.pointer (some ⟨g3,0,none⟩)::str k::str v::.int .i64 i::c7::c8::c9::dR::dS::dT::dU::dV::dW::dX::dY::dZ::dQ::c20::c21::eA::eC::eD::eH::eJ::eK::eO::eR::eS::eV::eW::eX::eY::eZ::fA::c37::fB::fC::fD::fE::fH::fI::fJ::fK::c46::fL::fN::fO::fP::c51::fQ::c53::fR::fS::fT::fU::fV::fW::fX::fY::fZ::gA::gB::gC::gD::gE::gF::gG::gH::gI::gJ::gK::gL::c75::gM::gN::gO::gP::c80::gQ::gR::gT::gU::c85::gW::gX::gY::gZ::hJ::hZ::iA::iB::iC::iD::iE::.pointer (some ⟨r0,0,none⟩)::iF::iG::aB::aC::aD::aF::aG::aH::aI::aJ::aK::aL::aM::aN::aO::aP::aQ::aR::aS::aT::aU::aV::aW::aX::aY::aZ::bB::bC::bD::c127::bE::bF::bG::bH::bI::bJ::bK::bL::bM::bN::bO::bP::bQ::bR::bS::c143::aA::[]).toArray,[]⟩ w:=by
 conv=>arg 2;whnf
 have HQ:=A0 hQ;clear hQ;obtain⟨i5,AV,AX,AY,AZ⟩:=info_parts B5b;have AE:Below w.heap.size w (w.alloc (.cells #[.string {data:=#[]},.string {data:=#[]}] 59)):=(Below.refl _ w).alloc (Nat.le_refl _) _;have AH:=heap_alloc_new w (.cells #[.string {data:=#[]},.string {data:=#[]}] 59);have AA:=A6J AI AE;have AP:Below w0.heap.size w0 (w.alloc (.cells #[.string {data:=#[]},.string {data:=#[]}] 59)):=hB.trans (AE.mono hB.size);have AG:=(AE.block g3 (A8 AL)).trans AL
 have AW:∀j u,([str [],str []]:List Value)[j]?=some u->(w.alloc (.cells #[.string {data:=#[]},.string {data:=#[]}] 59)).cell? ((⟨w.heap.size,0,none⟩:Addr).add j)=some u:=by
  intro j u hj;rw[Lib.addr_add,Nat.zero_add];rw[Lib.cell_of_heap AH];match j,hj with
  |0,hj=>exact hj
  |1,hj=>exact hj
  |j+2,hj=>simp at hj
 obtain⟨v2,w2,hr,AM,AC,-⟩:=run_append_own (P:=Tryz.prog) (w.alloc (.cells #[.string {data:=#[]},.string {data:=#[]}] 59)) w0.heap.size 24 24 59 i5 (.agg #[str [],str []]) 2 32 B5C AV AX AY AZ rfl (by omega) X.recs n xs AA ⟨w.heap.size,0,none⟩ 1 1 [str [],str []] rfl AW (by intro u hu;simp at hu;subst hu;rfl) (by simp only[maxLen];omega) (by omega) AP.size
 obtain⟨gg,cap,Ae⟩:∃gg cap,v2= .slice (some ⟨gg,0,none⟩) (n+1) cap:=by
  rcases AM.2 with ⟨-,h0⟩|⟨gg,cap,cur,h1,-⟩
  ·omega
  ·exact⟨gg,cap,h1⟩
 have AQ:=A8w AA AC;have AS:=A7j AA AC AP;have AB:=AQ g3 _ AG (λc fz e=>by cases e);have dQ:w.cell? ⟨g3,19,none⟩=some X.recs:=by rw[Lib.cell_of_heap AL];rfl
 have iJ:w2.cell? ⟨g3,19,none⟩=some X.recs:=by rw[Lib.cell_of_heap AB];rfl
 have Af:w2.frozen? ⟨g3,19,none⟩=false:=Lib.frozen_of_heap AB 19;have AJ:=B6 (i:=19) v2 AB;have AR:=AC.size;have AU:Kp w0 g3 w (w2.setCell ⟨g3,19,none⟩ v2):=⟨AS.setCell (p:=⟨g3,19,none⟩) hg v2,λq o hq Ad ho=>(C0 (a:=⟨g3,19,none⟩) v2 Ad).trans (AQ q o ((AE.block q (A8 hq)).trans hq) ho),by have:=AE.size;simp only[World.setCell,Array.size_modify] at*;first|omega|(simp;omega)⟩
 have AD: (w2.setCell ⟨g3,19,none⟩ v2).ownsRow w0.heap.size 59 2 v2 (n+1) (xs++[str [],str []]):=by
  refine⟨AM.1,?_⟩;rcases AM.2 with h|⟨gg,cap,cur,h1,h2,h3,h4⟩
  ·exact .inl h
  ·refine .inr ⟨gg,cap,cur,h1,h2,(C0 (a:=⟨g3,19,none⟩) v2 (λe=> ?_)).trans h3,h4⟩
   subst e;rw[AB] at h3;injection h3 with h3
   injection h3 with _ t _
   exact absurd t (by decide)
 subst Ae;have Ab:=A0 AU;have Ac:=A0 AD;have AO:=A0 AJ;have HR:=A0 hr;clear AH AA AP AG AW AM AC AQ AS AB AJ AR AU AD hr AI AL hB AE AV AX AY AZ;refine wp_seq_k (λK1 AT=> ?_);have Aa:=A0 AT;clear AT;go_wp2_with (first|(at_builtin;refine X2 rfl (.tmp 122) (.tmp 124) 24 rfl _ _ rfl rfl _ w2 HR.out ?_)|fail)
 refine Aa.out _ _ ?_;exact HQ.out _ _ _ _ _ _ _ _ _ _ _ _ _ _ _ _ _ _ _ _ _ _ _ _ _ _ _ _ _ _ _ _ _ _ _ _ _ _ _ _ _ _ _ _ _ _ (.slice (some ⟨gg,0,none⟩) (n+1) cap) _ Ab.out AO.out Ac.out
end Go.Proofs.YtkanmkcojlefbaaGreatDoor
namespace Go.Proofs.YtkanmkcojlefbaaGreatDoor
open Go.RowKit
variable {c1 c7 c8 c9 dR dS dT dU dV dW dX dY dZ dQ c20 c21 eA eC eD eH eJ eK eO eR eS eV eW eX eY eZ fA c37 fB fC fD fE fH fI fJ fK c46 fL fN fO fP c51 fQ c53 fR fS fT fU fV fW fX fY fZ gA gB gC gD gE gF gG gH gI gJ gK gL c75 gM gN gO gP c80 gQ gR gT gU c85 gW gX gY gZ hJ hZ iA iB iC iD iE iF iG aB aC aD aF aG aH aI aJ aK aL aM aN aO aP aQ aR aS aT aU aV aW aX aY aZ bB bC bD c127 bE bF bG bH bI bJ bK bL bM bN bO bP bQ bR bS c143 aA:Value}
theorem B4b (w:World) (g n cap l:Nat) (h:l<=n) (hc:n<=cap): (Instr.sliceAt 24 (.slice (some ⟨g,0,none⟩) n cap) (some (.int .i64 l)) none none).run Tryz.prog w= .ok (.slice (some ⟨g,if cap=l then 0 else l*2,none⟩) (n-l) (cap-l)) w:=by
 have AB:∀w,(sizeOf (Tryz.prog.elem 24)).run Tryz.prog w= .ok 2 w:=by intro w;kernel_rfl
 have hu:Tryz.prog.underlying 24=some (.slice (Tryz.prog.elem 24)):=by kernel_rfl
 have h2: ((l:Nat):Int).toNat=l:=Int.toNat_natCast l;rw[run_sliceAt_slice (h:=hu),run_slice_any (ht:=hu)]
 have hb: (Instr.sliceBounds true n cap (some (.int .i64 l)) none none).run Tryz.prog w= .ok (l,n,cap) w:=by
  have e1: (0:Int)<=(l:Int):=by omega
  have e2: (l:Int)<=(n:Int):=by omega
  simp[Instr.sliceBounds,run_sliceBound,e1,e2,h2,h]
 rw[hb];simp only[Result.andThen,AB,sliced];by_cases AA:cap=l
 ·rw[if_pos AA,if_pos AA]
 ·rw[if_neg AA,if_neg AA]
  simp[Lib.addr_add]
theorem A8Q (w:World) (g n cap l:Nat) (h:l<=n) (hc:n<=cap): (Instr.slice 24 (.slice (some ⟨g,0,none⟩) n cap) (some (.int .i64 l)) none none).run Tryz.prog w= .ok (.slice (some ⟨g,if cap=l then 0 else l*2,none⟩) (n-l) (cap-l)) w:=
 (run_sliceAt_slice (h:=by kernel_rfl) ..).symm.trans (B4b w g n cap l h hc)
section
variable {ops:Array Oper} {o:Oper} {a:Act} {w:World} {K:Act->World->Prop} {Q:Exit->Act->World->Prop}
theorem A5w {E:Prop} (hg:o.guard=none) (s x:Operand) (AA:o.op=Op.call {callee:=Callee.builtin Builtin.copy,args:=#[s,x],argTypes:=#[24,24]}) (u v:Value) (hs:a.eval s=u) (hx:a.eval x=v) (v':Value) (w':World) (hr: (Builtin.copy_ #[24,24] o.type #[u,v]).run Tryz.prog w= .ok v' w') (hK:K (a.put o.dst v') w'):
  if Region.wanted o (yielded ops a.tmps)=true then Oper.wp Tryz.prog o a w K Q else E:=by
 have hw:Region.wanted o (yielded ops a.tmps)=true:=by simp[Region.wanted,hg]
 rw[if_pos hw];unfold Oper.wp;simp[execOp,AA,resolve,invoke,builtin,hs,hx,hr,Result.andThen];exact hK
end
theorem B5d (w w0:World) (hb g2 g3 r0:Nat) (k v:List UInt8) (i n:Nat) (X:IH) (L:List (List UInt8×List UInt8)) (AJ:L.length=n) (hi:i<=n) (hn:n<=4294967296) (rv:Value) (hB:Below w0.heap.size w0 w) (AQ:w.heap[g3]?=some (.cells ({X with recs:=rv}:IH).cells.toArray 26 (0,0))) (AI:w.ownsRow w0.heap.size 59 2 rv (n+1) (E8 L++[str [],str []]))
  (Q:Exit->Act->World->Prop)
  (hQ:∀ (iH iI bT bU bV bW bX bY bZ cA cB cC cD cE cF cG cH cI cJ cL cM cO cP cQ cS cT cU cV cW cX cY cZ dA dB dC dD dE dF dG dH dI dJ dL dM dO dP:Value) (w':World),Kp w0 g3 w w'->w'.heap[g3]?=some (.cells ({X with recs:=rv}:IH).cells.toArray 26 (0,0))->w'.ownsRow w0.heap.size 59 2 rv (n+1) (E8 (L.take i++(k,v)::L.drop i))->Q .normal ⟨(.pointer (some ⟨hb,0,none⟩)::c1::.pointer (some ⟨g2,0,none⟩)::.pointer (some ⟨g3,0,none⟩)::str k::str v::.int .i64 i::c7::c8::c9::dR::dS::dT::dU::dV::dW::dX::dY::dZ::dQ::c20::c21::eA::eC::eD::eH::eJ::eK::eO::eR::eS::eV::eW::eX::eY::eZ::fA::c37::fB::fC::fD::fE::fH::fI::fJ::fK::c46::fL::fN::fO::fP::c51::fQ::c53::fR::fS::fT::fU::fV::fW::fX::fY::fZ::gA::gB::gC::gD::gE::gF::gG::gH::gI::gJ::gK::gL::c75::gM::gN::gO::gP::c80::gQ::gR::gT::gU::c85::gW::gX::gY::gZ::hJ::hZ::iA::iB::iC::iD::iE::.pointer (some ⟨r0,0,none⟩)::iH::iI::bT::bU::bV::bW::bX::bY::bZ::cA::cB::cC::cD::cE::cF::cG::cH::cI::cJ::cL::cM::cO::cP::cQ::cS::cT::cU::cV::cW::cX::cY::cZ::dA::dB::dC::dD::dE::dF::dG::dH::dI::dJ::dL::dM::dO::dP::aA::[]).toArray,[]⟩ w'):
  Code.wp Tryz.prog B2D Q ⟨(.pointer (some ⟨hb,0,none⟩)::c1::.pointer (some ⟨g2,0,none⟩)::.pointer (some ⟨g3,0,none⟩)::str k::str v::.int .i64 i::c7::c8::c9::dR::dS::dT::dU::dV::dW::dX::dY::dZ::dQ::c20::c21::eA::eC::eD::eH::eJ::eK::eO::eR::eS::eV::eW::eX::eY::eZ::fA::c37::fB::fC::fD::fE::fH::fI::fJ::fK::c46::fL::fN::fO::fP::c51::fQ::c53::fR::fS::fT::fU::fV::fW::fX::fY::fZ::gA::gB::gC::gD::gE::gF::gG::gH::gI::gJ::gK::gL::c75::gM::gN::gO::gP::c80::gQ::gR::gT::gU::c85::gW::gX::gY::gZ::hJ::hZ::iA::iB::iC::iD::iE::.pointer (some ⟨r0,0,none⟩)::iF::iG::aB::aC::aD::aF::aG::aH::aI::aJ::aK::aL::aM::aN::aO::aP::aQ::aR::aS::aT::aU::aV::aW::aX::aY::aZ::bB::bC::bD::c127::bE::bF::bG::bH::bI::bJ::bK::bL::bM::bN::bO::bP::bQ::bR::bS::c143::aA::[]).toArray,[]⟩ w:=by
 conv=>arg 2;whnf
 obtain⟨Aa,AI⟩:=AI;rcases AI with ⟨-,h0⟩|⟨gg,cap,cur,rfl,Ad,AM,Af,Ax,AL,An⟩
 ·omega
 have HQ:=A0 hQ;clear hQ;have AC:cur.toList=E8 L++[str [],str []]++cur.toList.drop ((n+1)*2):=by rw[<-An,List.take_append_drop]
 generalize AX:cur.toList.drop ((n+1)*2)=AY at AC;have Ay: (E8 L).length=n*2:=by rw[S4,AJ]
 have AR: (E8 (L.drop i)).length=(n-i)*2:=by rw[S4,List.length_drop,AJ]
 have AH:gg≠g3:=by
  rintro rfl;rw[AM] at AQ;injection AQ with h;injection h with _ t _;exact absurd t (by decide)
 obtain⟨l1,Ae⟩:∃l1,l1=i+1:=⟨_,rfl⟩;have Ai:=λwx=>A8Q wx gg (n+1) cap l1 (by omega) Af;have AU:=λwx=>A8Q wx gg (n+1) cap i (by omega) Af;have Aw:¬cap=i:=by omega
 simp only[if_neg Aw] at AU
 have AV:∀j u,(E8 (L.drop i))[j]?=some u->w.drew.cell? ((⟨gg,i*2,none⟩:Addr).add j)=some u:=by
  intro j u hj;rw[Lib.addr_add];have BH:=(List.getElem?_eq_some_iff.1 hj).1;rw[Lib.cell_of_heap (w:=w.drew) AM];show cur[i*2+j]?=some u
  rw[<-Array.getElem?_toList,AC,List.append_assoc,List.getElem?_append_left (by omega),<-List.getElem?_drop,A3z];exact hj
 have AB:=B1L w.drew gg (if cap=i+1 then 0 else(i+1)*2) (n+1- (i+1)) (cap- (i+1)) ⟨gg,i*2,none⟩ (n+1-i) (cap-i) cur 59 (E8 (L.drop i)) AM (by
   rw[AR,show Nat.min (n+1-i) (n+1- (i+1))=n-i from by(show min _ _=_;omega)]) AV (by rw[AR,AL];split<;>omega) (A8o _)
 have AS:cur.toList.take (if cap=i+1 then 0 else(i+1)*2)++E8 (L.drop i)++cur.toList.drop ((if cap=i+1 then 0 else(i+1)*2)+(E8 (L.drop i)).length)=cur.toList.take ((i+1)*2)++E8 (L.drop i)++cur.toList.drop ((i+1)*2+(E8 (L.drop i)).length):=by
  by_cases hc:cap=i+1
  ·have BF:i=n:=by omega
   have Ag:E8 (L.drop i)=[]:=List.eq_nil_of_length_eq_zero (by rw[AR];omega);rw[if_pos hc,Ag];simp
  ·rw[if_neg hc]
 rw[AS] at AB;generalize Ah:cur.toList.take ((i+1)*2)++E8 (L.drop i)++cur.toList.drop ((i+1)*2+(E8 (L.drop i)).length)=nv at AB;have AG:=B0k L i (by omega) (k,v) AY;rw[<-AC,Ah] at AG
 have AZ:nv.length=cap*2:=by
  have h1:cur.toList.length=cap*2:=by rw[Array.length_toList,AL]
  rw[<-Ah,List.length_append,List.length_append,List.length_take,List.length_drop,h1,AR];omega
 have AT:=setRow_heap w.drew gg cur nv.toArray 59 (0,0) AM;have AD:∀q,q≠gg->(w.drew.setRow gg nv.toArray).heap[q]?=w.heap[q]?:=λq hq=>setRow_other w.drew gg q _ hq;have AE:=(AD g3 (Ne.symm AH)).trans AQ;have dQ:w.drew.cell? ⟨g3,19,none⟩=some (.slice (some ⟨gg,0,none⟩) (n+1) cap):=by rw[Lib.cell_of_heap (w:=w.drew) AQ];rfl
 have iJ: (w.drew.setRow gg nv.toArray).cell? ⟨g3,19,none⟩=some (.slice (some ⟨gg,0,none⟩) (n+1) cap):=by rw[Lib.cell_of_heap AE];rfl
 have Ak:Below w0.heap.size w0 (w.drew.setRow gg nv.toArray):=⟨hB.os,hB.tape,hB.output,by simpa using hB.size,λq hq=>(AD q (by omega)).trans (hB.block q hq)⟩;rw[<-Ae] at AB;have BA:IntKind.i64.wrap ((i:Int)+1)=(l1:Int):=by rw[IntWalk.i64_in _ (by omega)];omega
 have AW: (w.drew.setRow gg nv.toArray).heap.size=w.heap.size:=by simp
 have Ar:=A0 AM;have BC:=A0 Ae;clear Ae;have Ab:=A0 AB;have AP:=A0 AD;have AA:=A0 AT;have Aq:=A0 Ak;have AO:=A0 AG;have Ac:=A0 AE;have Au:=A0 AW;have HN:=A0 (And.intro AZ (And.intro AL (And.intro Aa AJ)));clear AB AD AT Ak AG AE AQ hB AM AC AX AV AS Ah AR Ay An AW AZ AL Aa AJ;generalize w.drew.setRow gg nv.toArray=w2 at*;refine wp_seq_k (λK1 Aj=> ?_);have As:=A0 Aj;clear Aj;go_region_held3 (λw'=>w'.cell? ⟨g3,19,none⟩=some (.slice (some ⟨gg,0,none⟩) (n+1) cap)) (first|go_keep|assumption) (first|(refine A5w rfl _ _ rfl _ _ rfl rfl _ _ Ab.out ?_))
 refine As.out _ _ ?_;obtain⟨AZ,AL,Aa,AJ⟩:=HN.out;obtain⟨x0,Ao⟩:∃x,nv[i*2]?=some x:=⟨_,List.getElem?_eq_getElem (by omega)⟩;obtain⟨x1,Ap⟩:∃x,nv[i*2+1]?=some x:=⟨_,List.getElem?_eq_getElem (by omega)⟩;have y0:w2.cell? ⟨gg,i*2,none⟩=some x0:=by rw[Lib.cell_of_heap AA.out,List.getElem?_toArray];exact Ao
 have y1:w2.cell? ⟨gg,i*2+1,none⟩=some x1:=by rw[Lib.cell_of_heap AA.out,List.getElem?_toArray];exact Ap
 have z0:w2.frozen? ⟨gg,i*2,none⟩=false:=Lib.frozen_of_heap AA.out _;have z1:w2.frozen? ⟨gg,i*2+1,none⟩=false:=Lib.frozen_of_heap AA.out _;have BD: (0:Int)<=(i:Int):=by omega
 have BE: (i:Int)< (n:Int)+1:=by omega
 clear Ao Ap Ai AU BA AZ AL Aa AJ;go_wp2_with fail
 all_goals
  have s1:=B6 (i:=i*2) (str k) AA.out;have s2:=B6 (i:=i*2+1) (str v) s1;rw[List.setIfInBounds_toArray,List.setIfInBounds_toArray,AO.out] at s2
  have Am:∀q,q≠gg->((w2.setCell ⟨gg,i*2,none⟩ (str k)).setCell ⟨gg,i*2+1,none⟩ (str v)).heap[q]?=w.heap[q]?:=λq hq=>
   (C0 (a:=⟨gg,i*2+1,none⟩) (str v) hq).trans ((C0 (a:=⟨gg,i*2,none⟩) (str k) hq).trans (AP.out q hq))
  have Av: (L.take i++(k,v)::L.drop i).length=n+1:=by
   rw[List.length_append,List.length_take,List.length_cons,List.length_drop,HN.out.2.2.2];omega
  have Al: (E8 (L.take i++(k,v)::L.drop i)).length=(n+1)*2:=by rw[S4,Av]
  refine HQ.out _ _ _ _ _ _ _ _ _ _ _ _ _ _ _ _ _ _ _ _ _ _ _ _ _ _ _ _ _ _ _ _ _ _ _ _ _ _ _ _ _ _ _ _ _ _ _ ⟨(Aq.out.setCell (p:=⟨gg,i*2,none⟩) Ad (str k)).setCell (p:=⟨gg,i*2+1,none⟩) Ad (str v),λq o hq BI ho=> ?_,?_⟩ ((Am g3 (Ne.symm AH)).trans ((AP.out g3 (Ne.symm AH)).symm.trans Ac.out)) ⟨Al,.inr ⟨gg,cap,_,rfl,Ad,s2,Af,Ax,?_,?_⟩⟩
  ·have Az:q≠gg:=by
    rintro rfl;rw[Ar.out] at hq;injection hq with hq
    exact ho _ _ hq.symm
   exact(Am q Az).trans hq
  ·have:=Au.out
   simp only[World.setCell,Array.size_modify];omega
  ·have:=congrArg List.length AO.out
   rw[List.length_set,List.length_set] at this;rw[List.size_toArray,<-this];exact HN.out.1
  ·show(E8 (L.take i++(k,v)::L.drop i)++AY).take ((n+1)*2)=_
   rw[<-Al,List.take_left]
end Go.Proofs.YtkanmkcojlefbaaGreatDoor
