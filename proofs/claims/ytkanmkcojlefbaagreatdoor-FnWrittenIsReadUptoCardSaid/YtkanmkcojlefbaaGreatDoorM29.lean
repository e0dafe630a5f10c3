/-
  Part of the proof; holds the texts HOf2, TkA, HOf17, HIns, HIn1, HIn2, HIn3.
-/
import Derived.Test.YtkanmkcojlefbaaGreatDoorM28
set_option maxHeartbeats 8000000
set_option maxRecDepth 100000
set_option linter.unusedSimpArgs false
set_option linter.unusedVariables false
namespace Go.Proofs.YtkanmkcojlefbaaGreatDoor
open Go.RowKit
theorem L7 {w:World} {g:Nat} {H:Hd} (hh:w.heap[g]?=some (.cells H.cells.toArray 130 (0,0))) (k:Nat) (v:Value) (hv:H.cells[k]?=some v):w.cell? ⟨g,k,none⟩=some v:=by
 rw[zA hh,List.getElem?_toArray];exact hv
theorem ld5 {w:World} {p:Addr} {v:Value} (h:w.cell? p=some v): (loadVar 5 p).run Tryz.prog w= .ok v w:=by simp[loadVar,go_sem,h]
theorem ld9 {w:World} {p:Addr} {v:Value} (h:w.cell? p=some v): (loadVar 9 p).run Tryz.prog w= .ok v w:=by simp[loadVar,go_sem,h]
theorem ld2 {w:World} {p:Addr} {v:Value} (h:w.cell? p=some v): (loadVar 2 p).run Tryz.prog w= .ok v w:=by simp[loadVar,go_sem,h]
theorem ld3 {w:World} {p:Addr} {v:Value} (h:w.cell? p=some v): (loadVar 3 p).run Tryz.prog w= .ok v w:=by simp[loadVar,go_sem,h]
theorem ld4 {w:World} {p:Addr} {v:Value} (h:w.cell? p=some v): (loadVar 4 p).run Tryz.prog w= .ok v w:=by simp[loadVar,go_sem,h]
theorem B7G {w:World} {p:Addr} {v:Value} (h:w.cell? p=some v): (loadVar 128 p).run Tryz.prog w= .ok v w:=by simp[loadVar,go_sem,h]
theorem B2e {w:World} {g k:Nat} {u v:Value} (h0:w.cell? ⟨g,k,none⟩=some u) (h1:w.cell? ⟨g,k+1,none⟩=some v): (loadVar 126 ⟨g,k,none⟩).run Tryz.prog w= .ok (.agg #[u,v]) w:=by simp[loadVar,go_sem,h0,h1]
section
variable {ops:Array Oper} {S:World->Prop} {op:Oper} {a:Act} {w:World} {K:Act->World->Prop} {Q:Exit->Act->World->Prop}
theorem C3 (hw:Region.wanted op (yielded ops a.tmps)=true) (ty:TypeId) (x:Operand) (ho:op.op= .load ty x) (p:Addr) (hx:a.eval x= .pointer (some p)) (v:Value) (hS:∀w,S w->(loadVar ty p).run Tryz.prog w= .ok v w):YieldsIf Tryz.prog ops S op v a:=
 .inl ⟨hw,λw AA=>by
  unfold execOp;simp only[ho,hx,Instr.loadAt,Instr.sureAddr,Sem.run_bind,Sem.run_pure,Result.andThen_ok,hS w AA]⟩
theorem O3 {E:Prop} (hg:op.guard=none) (t:TypeId) (x y:Operand) (AB:op.op=Op.store t x y) (p:Addr) (hx:a.eval x= .pointer (some p)) (v:Value) (hy:a.eval y=v) (w':World) (AA: (storeVar t p v).run Tryz.prog w= .ok () w') (hK:K (a.put op.dst undef) w'):
  if Region.wanted op (yielded ops a.tmps)=true then Oper.wp Tryz.prog op a w K Q else E:=by
 have hw:Region.wanted op (yielded ops a.tmps)=true:=by simp[Region.wanted,hg]
 rw[if_pos hw];unfold Oper.wp execOp;simp only[AB,hx,hy,Instr.storeAt,Instr.sureAddr,Sem.run_bind,Sem.run_pure,Result.andThen_ok,AA];exact hK
end
section
variable {ops ops0:Array Oper} {Q:Exit->Act->World->Prop} {S:World->Prop}
theorem J1 {id n:Nat} {l0:Array Bool} {a:Act} {w:World} (hm:Tryz.prog.follows .mixedOrders=true) (hn:ops0.size=n) (hl:Array.replicate n false=l0) (hS:S w.drew)
  (h:∀ops,Hid (ops=ops0)->S w.drew->wpAnyH Tryz.prog .any ops Q S n l0 a w.drew): (Code.region id ops0 true).wp Tryz.prog Q a w:=by
 subst hn;subst hl;exact wp_region_held_drew hm hS (h ops0 (A0 rfl))
theorem B7 {md:Region.Mode} (AA:ops=ops0) {i:Nat} {oi:Oper} {v:Value} {fuel:Nat} {listed l':Array Bool} {a a':Act} {w:World} {d:Option Tmp} (hi:ops0[i]?=some oi)
  (hs:Region.noSelect ops0=true) (hf:Region.free md ops0 listed i=true) (hr: (Region.ready md ops0 listed).contains i=true)
  (hQ:∀c a w,Q (.panic c) (a.put d v) w->Q (.panic c) a w) (hy:YieldsIf Tryz.prog ops S oi v a) (hS:S w) (hd:oi.dst=d) (ha:a.put d v=a') (hl:listed.setIfInBounds i true=l')
  (h:wpAnyH Tryz.prog md ops Q S fuel l' a' w):wpAnyH Tryz.prog md ops Q S (fuel+1) listed a w:=by
 subst AA;subst hd;subst ha;subst hl;exact wpAnyH_take hi hs hf hr hQ hy hS h
theorem D5 {md:Region.Mode} (AA:ops=ops0) {i:Nat} {o:Oper} {fuel:Nat} {listed l':Array Bool} {a:Act} {w:World} {rs:List Nat} (ho:ops0[i]?=some o) (hl:listed.setIfInBounds i true=l')
  (h:∀K':Act->World->Prop,Hid (∀a w,S w->(S w->wpAnyH Tryz.prog md ops Q S fuel l' a w)->K' a w)->if Region.wanted o (yielded ops a.tmps)=true then Oper.wp Tryz.prog o a w K' Q else K' (a.put o.dst undef) w)
  (hs:AllReadyH Tryz.prog md ops Q S fuel listed a w rs):AllReadyH Tryz.prog md ops Q S fuel listed a w (i::rs):=by
 subst AA;subst hl;exact AllReadyH.cons ho h hs
end
theorem B5a (h:IH) (hr:h.recs.oneCell'=true):∀v∈h.cells,v.oneCell'=true:=by
 intro v hv;simp only[IH.cells,List.mem_cons,List.not_mem_nil,or_false] at hv;rcases hv with rfl|rfl|rfl|rfl|rfl|rfl|rfl|rfl|rfl|rfl|rfl|rfl|rfl|rfl|rfl|rfl|rfl|rfl|rfl|rfl|rfl<;>first|rfl|exact hr
theorem B2W: (Tryz.prog.info? 26).map (·.size)=some 21:=by kernel_rfl
theorem A0i {w:World} {g:Nat} {z:Array Value} (h:IH) (hr:h.recs.oneCell'=true) (hz:z.size=21) (hg:w.heap[g]?=some (.cells z 26 (0,0))):
  ∃w',(storeVar 26 ⟨g,0,none⟩ (.agg h.cells.toArray)).run Tryz.prog w= .ok () w'/\w'.heap[g]?=some (.cells h.cells.toArray 26 (0,0))/\(∀k,k≠g->w'.heap[k]?=w.heap[k]?)/\(∀ (B:Nat) (w0:World),Below B w0 w->B<=g->Below B w0 w'):=by
 have hs:=A1V w g 0 26 26 z h.cells.toArray hg (by rw[B2W];rfl) (by rw[hz];exact zB 21) (by simpa using B5a h hr)
 have e:z.toList.take 0++h.cells.toArray.toList++z.toList.drop (0+h.cells.toArray.size)=h.cells:=by
  rw[List.take_zero,List.nil_append,List.drop_eq_nil_of_le (by rw[Array.length_toList,hz];exact zB 21),QH]
 rw[e] at hs;refine⟨_,hs,setRow_heap w g z _ 26 _ hg,λk hk=>setRow_other w g k _ hk,λB w0 hb hB=> ?_⟩;exact⟨hb.os,hb.tape,hb.output,by simpa using hb.size,λk hk=>(setRow_other w g k _ (by omega)).trans (hb.block k hk)⟩
structure Hd.InO (H:Hd):Prop where
 mw:0<=H.mw/\H.mw<1000000000
 mx: -100000000000000000<=H.mx-62135596800/\H.mx-62135596800<=100000000000000000
 aw:0<=H.aw/\H.aw<1000000000
 ax: -100000000000000000<=H.ax-62135596800/\H.ax-62135596800<=100000000000000000
 cw:0<=H.cw/\H.cw<1000000000
 cx: -100000000000000000<=H.cx-62135596800/\H.cx-62135596800<=100000000000000000
 fmt:H.fmt=2\/H.fmt=4\/H.fmt=8
def ih0 (H:Hd):IH:=⟨H.typ,H.name,H.link,H.size,H.mode,H.uid,H.gid,H.user,H.group,H.mx-62135596800,H.mw,!E5 H.aw H.ax,0,0,!E5 H.cw H.cx,0,0,H.maj,H.mnr,.slice none 0 0,A6p H.fmt⟩
def ih1 (H:Hd):IH:= {ih0 H with ats:=if E5 H.aw H.ax then 0 else H.ax-62135596800,atn:=if E5 H.aw H.ax then 0 else H.aw}
def A0e (H:Hd):IH:= {ih1 H with cts:=if E5 H.cw H.cx then 0 else H.cx-62135596800,ctn:=if E5 H.cw H.cx then 0 else H.cw}
structure A8j (R:KV) (L:List (List UInt8×List UInt8)):Prop where
 nd: (L.map (·.1)).Nodup
 mem:∀p∈L,R p.1=some p.2
 all:∀k v,R k=some v->(k,v)∈L
def A3v (H:Hd) (R:KV) (w:World) (e:Ending) (w':World):Prop:=
 ∃rv L,e= .returned (.agg ({A0e H with recs:=rv}:IH).cells.toArray)/\N5 w' rv L/\(∀p n c,rv= .slice (some p) n c->w.heap.size<=p.block/\∃cur fz,w'.heap[p.block]?=some (.cells cur 59 fz))/\A8j R L/\Below w.heap.size w w'
theorem B0h (w:World) (f:Int) (h:f=2\/f=4\/f=8):Calls Tryz.prog 75 #[.int .i64 f] w λe w'=>e= .returned (.int .i64 (A6p f))/\Below w.heap.size w w':=by
 refine(B2K w f h).mono ?_;rintro e w' ⟨rfl,rfl⟩;exact⟨rfl,zD _ _⟩
noncomputable def B5v:Code:=I2 4 (Tryz.f38.body.getD .skip)
noncomputable def A9X:Code:=I2 8 (Tryz.f38.body.getD .skip)
section
variable {ops ops0:Array Oper} {Q:Exit->Act->World->Prop} {S:World->Prop} {md:Region.Mode} {oi:Oper} {fuel:Nat} {listed:Array Bool} {a:Act} {w:World}
theorem tkA (AA:ops=ops0) (i:Nat) {d:Option Tmp} {v:Value} {a':Act} (h:wpAnyH Tryz.prog md ops Q S fuel (listed.setIfInBounds i true) a' w)
  (hi:ops0[i]?=some oi:=by(simp only[I8,I9,J0];exact rfl)) (hd:oi.dst=d:=by rfl)
  (hy:∀w,S w->(execOp a.eval oi).run Tryz.prog w= .ok (.value v) w:=by(intro w AB;go_simp;try with_reducible rfl)) (ha:a.put d v=a':=by(simp only[Act.put,C5,C6,C7];exact rfl))
  (hs:Region.noSelect ops0=true:=by kernel_rfl) (hf:Region.free md ops0 listed i=true:=by kernel_rfl) (hr: (Region.ready md ops0 listed).contains i=true:=by kernel_rfl)
  (hQ:∀c a w,Q (.panic c) (a.put d v) w->Q (.panic c) a w:=by exact λ_ _ _ h=>h) (hw:Region.wanted oi (yielded ops0 a.tmps)=true:=by kernel_rfl) (hS:S w:=by assumption):wpAnyH Tryz.prog md ops Q S (fuel+1) listed a w:=by
 subst AA;subst hd;subst ha;exact wpAnyH_take hi hs hf hr hQ (.inl ⟨hw,hy⟩) hS h
theorem tkU (AA:ops=ops0) (i:Nat) {d:Option Tmp} {a':Act} (h:wpAnyH Tryz.prog md ops Q S fuel (listed.setIfInBounds i true) a' w)
  (hi:ops0[i]?=some oi:=by(simp only[I8,I9,J0];exact rfl)) (hd:oi.dst=d:=by rfl)
  (ha:a.put d undef=a':=by(simp only[Act.put,C5,C6,C7];exact rfl))
  (hs:Region.noSelect ops0=true:=by kernel_rfl) (hf:Region.free md ops0 listed i=true:=by kernel_rfl) (hr: (Region.ready md ops0 listed).contains i=true:=by kernel_rfl)
  (hQ:∀c a w,Q (.panic c) (a.put d undef) w->Q (.panic c) a w:=by exact λ_ _ _ h=>h) (hw:Region.wanted oi (yielded ops0 a.tmps)=false:=by kernel_rfl) (hS:S w:=by assumption):wpAnyH Tryz.prog md ops Q S (fuel+1) listed a w:=by
 subst AA;subst hd;subst ha;exact wpAnyH_take hi hs hf hr hQ (.inr ⟨hw,rfl⟩) hS h
theorem tkL (AA:ops=ops0) (i:Nat) {d:Option Tmp} {p:Addr} {v:Value} {a':Act} {ty:TypeId} {x:Operand} (hv:∀w,S w->(loadVar ty p).run Tryz.prog w= .ok v w) (h:wpAnyH Tryz.prog md ops Q S fuel (listed.setIfInBounds i true) a' w)
  (hi:ops0[i]?=some oi:=by(simp only[I8,I9,J0];exact rfl)) (hd:oi.dst=d:=by rfl)
  (ho:oi.op= .load ty x:=by rfl) (hx:a.eval x= .pointer (some p):=by rfl) (ha:a.put d v=a':=by(simp only[Act.put,C5,C6,C7];exact rfl))
  (hs:Region.noSelect ops0=true:=by kernel_rfl) (hf:Region.free md ops0 listed i=true:=by kernel_rfl) (hr: (Region.ready md ops0 listed).contains i=true:=by kernel_rfl)
  (hQ:∀c a w,Q (.panic c) (a.put d v) w->Q (.panic c) a w:=by exact λ_ _ _ h=>h) (hw:Region.wanted oi (yielded ops0 a.tmps)=true:=by kernel_rfl) (hS:S w:=by assumption):wpAnyH Tryz.prog md ops Q S (fuel+1) listed a w:=by
 subst AA;subst hd;subst ha;exact wpAnyH_take hi hs hf hr hQ (C3 hw _ _ ho p hx v hv) hS h
end
noncomputable def B4X:Code:=I2 17 (Tryz.f38.body.getD .skip)
theorem B7h:∃d,Tryz.prog.underlying 26=some d/\B1s d=true:=⟨_,Tryz.underlying26,rfl⟩
theorem B7Y {R:Ending->World->Prop} {fn:Func} {t:Tmp} {a:Act} (g:Nat) (cs:Array Value) (AA:cs.size=21) (w:World) (hr:fn.results=#[.cell t 26]) (hp:a.tmps.getD t undef= .pointer (some ⟨g,0,none⟩)) (hd:a.defers=[])
  (hg:w.heap[g]?=some (.cells cs 26 (0,0))) (hR:R (.returned (.agg cs)) w):bodyPost Tryz.prog fn R .ret a w:=
 bodyPost_ret (results_cell_row hr _ _ g 26 cs (0,0) _ hp hg Tryz.underlying26 rfl (by rw[AA];kernel_rfl)) hd hR
theorem B7C (g2 g3:Nat) (X:IH) (hX:X.recs.oneCell'=true) (w w0:World) (hB:Below w0.heap.size w0 w) (h2:w0.heap.size<=g2) (AL:g2≠g3) (AB:w.heap[g3]?=some (.cells X.cells.toArray 26 (0,0))) (z:Array Value) (hz:z.size=21) (AA:w.heap[g2]?=some (.cells z 26 (0,0)))
  (Rr:Ending->World->Prop) (hR:∀w',Below w0.heap.size w0 w'->(∀k,k≠g2->w'.heap[k]?=w.heap[k]?)->w.heap.size<=w'.heap.size->Rr (.returned (.agg X.cells.toArray)) w') {c0 c1 c4 c5 c6 c7 c8 c9 bV bW bX bY bZ cA cB cC bU bT c20 c21 cD cE cF cG cH cI cJ cL cM cO cP cQ cS cT cU c37 cV cW cX cY cZ dA dB dC c46 dD dE dF dG c51 dH c53 dI dJ dL dM dO dP dQ dR dS dT dU dV dW dX dY dZ eA eC eD eH eJ c75 eK eO eR eS c80 eV eW eX eY c85 eZ fA fB fC fD fE fH fI fJ fK fL iJ iF iG aB aD aF aG aH aI aJ aK aL aM aN aO aP aQ aR aS aT aU aV aW aX aY aZ bA bB bC bD c127 bE bF bG bH bI bJ bK bL bM bN bO bP bQ bR bS c143 aA:Value}:
  Code.wp Tryz.prog B4X (bodyPost Tryz.prog Tryz.f38 Rr) ⟨(c0::c1::.pointer (some ⟨g2,0,none⟩)::.pointer (some ⟨g3,0,none⟩)::c4::c5::c6::c7::c8::c9::bV::bW::bX::bY::bZ::cA::cB::cC::bU::bT::c20::c21::cD::cE::cF::cG::cH::cI::cJ::cL::cM::cO::cP::cQ::cS::cT::cU::c37::cV::cW::cX::cY::cZ::dA::dB::dC::c46::dD::dE::dF::dG::c51::dH::c53::dI::dJ::dL::dM::dO::dP::dQ::dR::dS::dT::dU::dV::dW::dX::dY::dZ::eA::eC::eD::eH::eJ::c75::eK::eO::eR::eS::c80::eV::eW::eX::eY::c85::eZ::fA::fB::fC::fD::fE::fH::fI::fJ::fK::fL::iJ::iF::iG::aB::aD::aF::aG::aH::aI::aJ::aK::aL::aM::aN::aO::aP::aQ::aR::aS::aT::aU::aV::aW::aX::aY::aZ::bA::bB::bC::bD::c127::bE::bF::bG::bH::bI::bJ::bK::bL::bM::bN::bO::bP::bQ::bR::bS::c143::aA::[]).toArray,[]⟩ w:=by
 conv=>arg 2;whnf
 obtain⟨d,u1,u2⟩:=B7h;have AE:=A2A w g3 0 26 X.cells.toArray (At.of_heap AB (λj v hj=>by rw[Nat.zero_add];simpa using hj)) d u1 u2 (by rw[B2W];rfl);obtain⟨w2,AG,hg,ho,AD⟩:=A0i X hX hz AA;have AC:=AD _ _ hB h2
 have AH:w.heap.size<=w2.heap.size:=by
  rcases Nat.lt_or_ge w2.heap.size w.heap.size with h|h
  ·exfalso
   have l2:=A8 AA;have l3:=A8 hg;have:=ho w2.heap.size (by omega);rw[Array.getElem?_eq_none (zB _),Array.getElem?_eq_getElem h] at this;cases this
  ·exact h
 have AI:=A0 AE;have AJ:=A0 AG;have HG:=A0 hg;have HR:=A0 (hR w2 AC ho AH);clear AE AG hg ho AD hR AB AA AC hB u1 u2 AH hz hX;go_wp2_with (first|(refine D3 rfl 26 _ rfl ⟨g3,0,none⟩ rfl _ AI.out ?_)|(refine E6 rfl 26 _ _ rfl ⟨g2,0,none⟩ rfl _ rfl w2 AJ.out ?_)|fail)
 refine B7Y g2 X.cells.toArray rfl w2 rfl rfl rfl HG.out HR.out
theorem B8F (w0:World) (hb g2 g3:Nat) (H:Hd) (R:KV) (AR:hb<w0.heap.size) (AJ:H.recs= .map none) (hn:∀k,R k=none) (AP:H.InO) (w:World) (hH:w.heap[hb]?=some (.cells H.cells.toArray 130 (0,0))) (hB:Below w0.heap.size w0 w) (h2:w0.heap.size<=g2) (h3:w0.heap.size<=g3) (AM:g2≠g3) (AG:w.heap[g3]?=some (.cells (A0e H).cells.toArray 26 (0,0))) (z:Array Value) (hz:z.size=21) (AE:w.heap[g2]?=some (.cells z 26 (0,0)))
  (Rr:Ending->World->Prop) (hR:∀e w',A3v H R w0 e w'->Rr e w') {c1 c4 c5 c6 c7 c8 c9 bV bW bX bY bZ cA cB cC bU bT c20 c21 cD cE cF cG cH cI cJ cL cM cO cP cQ cS cT cU c37 cV cW cX cY cZ dA dB dC c46 dD dE dF dG c51 dH c53 dI dJ dL dM dO dP dQ dR dS dT dU dV dW dX dY dZ eA eC eD eH eJ c75 eK eO eR eS c80 eV eW eX eY c85 eZ fA fB fC fD fE fH fI fJ fK fL iJ iF iG aB aD aF aG aH aI aJ aK aL aM aN aO aP aQ aR aS aT aU aV aW aX aY aZ bA bB bC bD c127 bE bF bG bH bI bJ bK bL bM bN bO bP bQ bR bS c143 aA:Value}:
  Code.wp Tryz.prog A9X (bodyPost Tryz.prog Tryz.f38 Rr) ⟨(.pointer (some ⟨hb,0,none⟩)::c1::.pointer (some ⟨g2,0,none⟩)::.pointer (some ⟨g3,0,none⟩)::c4::c5::c6::c7::c8::c9::bV::bW::bX::bY::bZ::cA::cB::cC::bU::bT::c20::c21::cD::cE::cF::cG::cH::cI::cJ::cL::cM::cO::cP::cQ::cS::cT::cU::c37::cV::cW::cX::cY::cZ::dA::dB::dC::c46::dD::dE::dF::dG::c51::dH::c53::dI::dJ::dL::dM::dO::dP::dQ::dR::dS::dT::dU::dV::dW::dX::dY::dZ::eA::eC::eD::eH::eJ::c75::eK::eO::eR::eS::c80::eV::eW::eX::eY::c85::eZ::fA::fB::fC::fD::fE::fH::fI::fJ::fK::fL::iJ::iF::iG::aB::aD::aF::aG::aH::aI::aJ::aK::aL::aM::aN::aO::aP::aQ::aR::aS::aT::aU::aV::aW::aX::aY::aZ::bA::bB::bC::bD::c127::bE::bF::bG::bH::bI::bJ::bK::bL::bM::bN::bO::bP::bQ::bR::bS::c143::aA::[]).toArray,[]⟩ w:=by
 conv=>arg 2;whnf
 have hr:=run_range_nilMap (P:=Tryz.prog) w 127 9 9 Tryz.underlying127;have AS:=λty=>run_next_nilMap (P:=Tryz.prog) w ty 0 0 #[];have bU:w.cell? ⟨hb,18,none⟩=some (.map none):=by rw[zA hH,<-AJ];rfl
 have AH:Below w0.heap.size w0 (w.alloc (.mapIter none 0 #[] 0)):=hB.alloc hB.size _;have AB:=(zO w (.mapIter none 0 #[] 0) g3 (A8 AG)).trans AG;have AA:=(zO w (.mapIter none 0 #[] 0) g2 (A8 AE)).trans AE;have HR:=A0 hR;have HN:=A0 hn;have AL:=A0 AH;have AD:=A0 AB;have AC:=A0 AA;clear hH AG AE AH AB AA hR hn AJ AP;go_upto_region 8 with fail
 rename_i K1 AI K2 AQ;have HK:=A0 AI;clear AI;go_wp2_with fail
 refine wp_loop_once ?_;go_wp2_with fail
 refine HK.out _ _ ?_;refine B7C g2 g3 (A0e H) rfl _ w0 AL.out h2 AM AD.out z hz AC.out Rr (λw' AO hk hs=>HR.out _ _ ?_);exact⟨.slice none 0 0,[],rfl,⟨none,0,rfl,λj hj=>absurd hj (Nat.not_lt_zero _)⟩,(by intro p n c e;cases e),⟨List.nodup_nil,λp hp=>(by cases hp),λk v e=>by rw[HN.out k] at e;cases e⟩,AO⟩
def E8 (L:List (List UInt8×List UInt8)):List Value:=L.flatMap λp=> [str p.1,str p.2]
theorem A8n:E8 []=[]:=rfl
theorem S6 (p:List UInt8×List UInt8) (L:List (List UInt8×List UInt8)):E8 (p::L)=str p.1::str p.2::E8 L:=rfl
theorem Y7 (L M:List (List UInt8×List UInt8)):E8 (L++M)=E8 L++E8 M:=by simp[E8]
theorem S4 (L:List (List UInt8×List UInt8)): (E8 L).length=L.length*2:=by
 induction L with
 |nil=>rfl
 |cons p L ih=>rw[S6,List.length_cons,List.length_cons,ih,List.length_cons];omega
theorem A7b (L:List (List UInt8×List UInt8)):∀i,(E8 L).take (i*2)=E8 (L.take i):=by
 induction L with
 |nil=>intro i;simp[E8]
 |cons p L ih=>
  intro i;cases i with
  |zero=>rfl
  |succ i=>rw[S6,show(i+1)*2=i*2+1+1 by omega,List.take_succ_cons,List.take_succ_cons,List.take_succ_cons,S6,ih i]
theorem A3z (L:List (List UInt8×List UInt8)):∀i,(E8 L).drop (i*2)=E8 (L.drop i):=by
 induction L with
 |nil=>intro i;simp[E8]
 |cons p L ih=>
  intro i;cases i with
  |zero=>rfl
  |succ i=>rw[S6,show(i+1)*2=i*2+1+1 by omega,List.drop_succ_cons,List.drop_succ_cons,List.drop_succ_cons,ih i]
theorem A1L (L:List (List UInt8×List UInt8)) (i:Nat) (hi:i<L.length): (E8 L)[i*2]?=some (str L[i].1)/\(E8 L)[i*2+1]?=some (str L[i].2):=by
 have h:=A3z L i;rw[List.drop_eq_getElem_cons hi,S6] at h;constructor
 ·have:=congrArg (λl=>l[0]?) h
  simpa using this
 ·have:=congrArg (λl=>l[1]?) h
  simpa using this
theorem A8o (L:List (List UInt8×List UInt8)):∀v∈E8 L,v.oneCell'=true:=by
 intro v hv;simp only[E8,List.mem_flatMap,List.mem_cons,List.not_mem_nil,or_false] at hv;obtain⟨p,-,rfl|rfl⟩:=hv<;>rfl
theorem B5C:Tryz.prog.underlying 24=some (.slice 59):=Tryz.underlying24
theorem B3L: (Tryz.prog.info? 59).map (·.size)=some 2:=by kernel_rfl
theorem B1L (w:World) (g o AA AC:Nat) (a:Addr) (AB AG:Nat) (cur:Array Value) (t:TypeId) (cs:List Value)
  (hg:w.heap[g]?=some (.cells cur t (0,0))) (hn:cs.length=Nat.min AB AA*2)
  (AE:∀j v,cs[j]?=some v->w.cell? (a.add j)=some v) (AD:o+cs.length<=cur.size) (h1:∀v∈cs,v.oneCell'=true):
  (Builtin.copy_ #[24,24] 3 #[.slice (some ⟨g,o,none⟩) AA AC,.slice (some a) AB AG]).run Tryz.prog w=
   .ok (goInt (Nat.min AB AA)) (w.setRow g (cur.toList.take o++cs++cur.toList.drop (o+cs.length)).toArray):=by
 have hl:=run_loadCells_list (P:=Tryz.prog) w a cs AE;have AH:=run_storeCells_at Tryz.prog g o t cs 0 cur w hg (by simpa using AD) h1;cases hq:Tryz.prog.info? 59 with
 |none=>have:=B3L;rw[hq] at this;cases this
 |some i=>
  have hi:i.size=2:=by have:=B3L;rw[hq] at this;simpa using this
  simp[Builtin.copy_,run_underlying B5C,Builtin.lenOf,Builtin.firstCells,sizeOf,typeInfo,hq,hi,<-hn,hl,AH]
theorem B0k (L:List (List UInt8×List UInt8)) (i:Nat) (hi:i<=L.length) (p:List UInt8×List UInt8) (AA:List Value):
  ((((E8 L++[str [],str []]++AA).take ((i+1)*2)++E8 (L.drop i)++(E8 L++[str [],str []]++AA).drop ((i+1)*2+(E8 (L.drop i)).length)).set (i*2) (str p.1)).set (i*2+1) (str p.2))=E8 (L.take i++p::L.drop i)++AA:=by
 have e1: (E8 L++[str [],str []]++AA)=E8 (L++[([],[])])++AA:=by rw[Y7];rfl
 have AC: (E8 (L++[([],[])])).length=(L.length+1)*2:=by rw[S4,zH];rfl
 have hd: (i+1)*2+(E8 (L.drop i)).length=(L.length+1)*2:=by rw[S4,List.length_drop];omega
 rw[e1,hd,List.drop_left' AC,List.take_append_of_le_length (by rw[AC];omega),A7b];have AD:i< (L++[(([]:List UInt8),([]:List UInt8))]).length:=by rw[zH];simp;omega
 rw[zU AD,Y7,List.take_append_of_le_length hi];generalize (L++[(([]:List UInt8),([]:List UInt8))])[i]=q;have AB: (E8 (L.take i)).length=i*2:=by rw[S4,zR];omega
 rw[Y7,S6,S6,A8n];simp only[List.append_assoc,List.cons_append,List.nil_append];rw[List.set_append_right _ _ (by omega),AB,Nat.sub_self,List.set_cons_zero,List.set_append_right _ _ (by omega),AB,show i*2+1-i*2=0+1 by omega,List.set_cons_succ,List.set_cons_zero]
noncomputable def B5M:Code:=(A2B 11 (Tryz.f38.body.getD .skip)).getD .skip
noncomputable def B2C:Code:=(A2B 14 (Tryz.f38.body.getD .skip)).getD .skip
theorem B4C (w:World) (hb g2 g3 r0:Nat) (k v:List UInt8) (L:List (List UInt8×List UInt8)) (p:Option Addr) (c:Nat) (AD:w.cell? ⟨g3,19,none⟩=some (.slice p L.length c)) (hp:∀ (j:Nat) (hj:j<L.length),∃g,p=some ⟨g,0,none⟩/\w.cell? ⟨g,j*2,none⟩=some (str L[j].1)) (hl:L.length<=4294967296)
  (Q:Exit->Act->World->Prop) {c1 c6 c7 c8 c9 bV bW bX bY bZ cA cB cC bU bT c20 c21 cD cE cF cG cH cI cJ cL cM cO cP cQ cS cT cU c37 cV cW cX cY cZ dA dB dC c46 dD dE dF dG c51 dH c53 dI dJ dL dM dO dP dQ dR dS dT dU dV dW dX dY dZ eA eC eD eH eJ c75 eK eO eR eS c80 eV eW eX eY c85 eZ fA fB fC fD fE fH fI fJ fK fL iF iG aB aD aF aG aH aI aJ aK aL aM aN aO aP aQ aR aS aT aU aV aW aX aY aZ bA bB bC bD c127 bE bF bG bH bI bJ bK bL bM bN bO bP bQ bR bS c143 aA:Value}
  (hQ:∀ (iH iI fN fO fP fQ fR fS fT fU fV fW fX fY fZ gA gB gC gD gE gF gG gH gI gJ gK gL gM gN gO gP gQ gR gT gU gW gX gY gZ hJ hZ iA iB iC iD iE:Value) (i:Nat),i<=L.length->Code.wp Tryz.prog B2C Q ⟨(.pointer (some ⟨hb,0,none⟩)::c1::.pointer (some ⟨g2,0,none⟩)::.pointer (some ⟨g3,0,none⟩)::str k::str v::.int .i64 i::c7::c8::c9::bV::bW::bX::bY::bZ::cA::cB::cC::bU::bT::c20::c21::cD::cE::cF::cG::cH::cI::cJ::cL::cM::cO::cP::cQ::cS::cT::cU::c37::cV::cW::cX::cY::cZ::dA::dB::dC::c46::dD::dE::dF::dG::c51::dH::c53::dI::dJ::dL::dM::dO::dP::dQ::dR::dS::dT::dU::dV::dW::dX::dY::dZ::eA::eC::eD::eH::eJ::c75::eK::eO::eR::eS::c80::eV::eW::eX::eY::c85::eZ::fA::fB::fC::fD::fE::fH::fI::fJ::fK::fL::.pointer (some ⟨r0,0,none⟩)::iH::iI::fN::fO::fP::fQ::fR::fS::fT::fU::fV::fW::fX::fY::fZ::gA::gB::gC::gD::gE::gF::gG::gH::gI::gJ::gK::gL::gM::gN::gO::gP::gQ::gR::gT::gU::gW::gX::gY::gZ::hJ::hZ::iA::iB::iC::iD::iE::aA::[]).toArray,[]⟩ w):
  Code.wp Tryz.prog B5M Q ⟨(.pointer (some ⟨hb,0,none⟩)::c1::.pointer (some ⟨g2,0,none⟩)::.pointer (some ⟨g3,0,none⟩)::str k::str v::c6::c7::c8::c9::bV::bW::bX::bY::bZ::cA::cB::cC::bU::bT::c20::c21::cD::cE::cF::cG::cH::cI::cJ::cL::cM::cO::cP::cQ::cS::cT::cU::c37::cV::cW::cX::cY::cZ::dA::dB::dC::c46::dD::dE::dF::dG::c51::dH::c53::dI::dJ::dL::dM::dO::dP::dQ::dR::dS::dT::dU::dV::dW::dX::dY::dZ::eA::eC::eD::eH::eJ::c75::eK::eO::eR::eS::c80::eV::eW::eX::eY::c85::eZ::fA::fB::fC::fD::fE::fH::fI::fJ::fK::fL::.pointer (some ⟨r0,0,none⟩)::iF::iG::aB::aD::aF::aG::aH::aI::aJ::aK::aL::aM::aN::aO::aP::aQ::aR::aS::aT::aU::aV::aW::aX::aY::aZ::bA::bB::bC::bD::c127::bE::bF::bG::bH::bI::bJ::bK::bL::bM::bN::bO::bP::bQ::bR::bS::c143::aA::[]).toArray,[]⟩ w:=by
 conv=>arg 2;whnf
 have HQ:=A0 hQ;have HP:=A0 hp;clear hQ hp;go_wp2_with fail
 rename_i K1 AA;have HK:=A0 AA;clear AA;go_loopw [6] (λs6 wr=>∃i:Nat,i<=L.length/\s6= .int .i64 i/\wr=w) (λs6 _=>(intOf s6).toNat)
 case atStart=>exact⟨L.length,zB _,rfl,rfl⟩
 case round=>
  obtain⟨i,hi,rfl,rfl⟩:=hrel;rcases Nat.eq_zero_or_pos i with hz|hz
  ·subst hz
   go_wp2_with fail
   refine HK.out _ _ ?_;exact HQ.out _ _ _ _ _ _ _ _ _ _ _ _ _ _ _ _ _ _ _ _ _ _ _ _ _ _ _ _ _ _ _ _ _ _ _ _ _ _ _ _ _ _ _ _ _ _ 0 (zW _)
  ·obtain⟨j,AB⟩:∃j,i=j+1:=⟨i-1,by omega⟩
   have hj:j<L.length:=by omega
   obtain⟨g,rfl,hc⟩:=HP.out j hj;have AE: (0:Int)< (i:Int):=by omega
   have hw:IntKind.i64.wrap ((i:Int)-1)=(j:Int):=by rw[zQ _ (by omega)];omega
   have AG: (0:Int)<=(j:Int):=by omega
   have AH: (j:Int)< (L.length:Int):=by omega
   have HI:=A0 (And.intro hi AB);generalize AC:L[j].1=kk at*;clear hi AB AC;go_wp2_with fail
   ·exact⟨⟨j,by have:=HI.out;omega,rfl,trivial⟩,by have:=HI.out;simp[intOf];omega⟩
   ·refine HK.out _ _ ?_
    exact HQ.out _ _ _ _ _ _ _ _ _ _ _ _ _ _ _ _ _ _ _ _ _ _ _ _ _ _ _ _ _ _ _ _ _ _ _ _ _ _ _ _ _ _ _ _ _ _ i HI.out.1
end Go.Proofs.YtkanmkcojlefbaaGreatDoor
namespace Go.Proofs.YtkanmkcojlefbaaGreatDoor
open Go.RowKit
variable {c1 c7 c8 c9 bV bW bX bY bZ cA cB cC bU bT c20 c21 cD cE cF cG cH cI cJ cL cM cO cP cQ cS cT cU c37 cV cW cX cY cZ dA dB dC c46 dD dE dF dG c51 dH c53 dI dJ dL dM dO dP dQ dR dS dT dU dV dW dX dY dZ eA eC eD eH eJ c75 eK eO eR eS c80 eV eW eX eY c85 eZ fA fB fC fD fE fH fI fJ fK fL iF iG aB aD aF aG aH aI aJ aK aL aM aN aO aP aQ aR aS aT aU aV aW aX aY aZ bA bB bC bD c127 bE bF bG bH bI bJ bK bL bM bN bO bP bQ bR bS c143 aA:Value}
noncomputable def B2D:Code:=(A2B 15 (Tryz.f38.body.getD .skip)).getD .skip
theorem B5b: (Tryz.prog.info? 59).map (λi=>(i.zero,i.size,i.bytes))=some (some (.agg #[str [],str []]),2,32):=by kernel_rfl
structure Kp (w0:World) (g3:Nat) (w w':World):Prop where
 B:Below w0.heap.size w0 w'
 K:∀k o,w.heap[k]?=some o->k≠g3->(∀c fz,o≠ .cells c 59 fz)->w'.heap[k]?=some o
 size:w.heap.size<=w'.heap.size
theorem A6J {w w':World} {B:Nat} {e:TypeId} {s:Nat} {v:Value} {n:Nat} {xs:List Value} (h:w.ownsRow B e s v n xs) (f:Below w.heap.size w w'):w'.ownsRow B e s v n xs:=by
 refine⟨h.1,?_⟩;rcases h.2 with h|⟨g,cap,cur,h1,h2,h3,h4⟩
 ·exact .inl h
 ·exact .inr ⟨g,cap,cur,h1,h2,(f.block g (A8 h3)).trans h3,h4⟩
theorem A8w {w w':World} {B n:Nat} {v:Value} {xs:List Value} (h:w.ownsRow B 59 2 v n xs) (hg:w.grownBy w' v.ownBlock) (k:Nat) (o:Obj) (hk:w.heap[k]?=some o) (ho:∀c fz,o≠ .cells c 59 fz):w'.heap[k]?=some o:=by
 have AA:v.ownBlock≠some k:=by
  intro e;rcases h.2 with ⟨rfl,-⟩|⟨g,cap,cur,rfl,h2,h3,h4⟩
  ·cases e
  ·cases e
   rw[hk] at h3;injection h3 with h3
   exact ho _ _ h3
 exact(hg.block k (A8 hk) (λe=>AA e.symm)).trans hk
theorem A7j {w w' w0:World} {n:Nat} {v:Value} {xs:List Value} (h:w.ownsRow w0.heap.size 59 2 v n xs) (hg:w.grownBy w' v.ownBlock) (hB:Below w0.heap.size w0 w):Below w0.heap.size w0 w':=
 ⟨hg.os.trans hB.os,hg.tape.trans hB.tape,hg.output.trans hB.output,zP hB.size hg.size,λk hk=>by
  have AA:v.ownBlock≠some k:=by
   intro e;rcases h.2 with ⟨rfl,-⟩|⟨g,cap,cur,rfl,h2,h3,h4⟩
   ·cases e
   ·cases e;have h9:g<w0.heap.size:=hk;omega
  exact(hg.block k (zL hk hB.size) (λe=>AA e.symm)).trans (hB.block k hk)⟩
theorem B4D (w w0:World) (hb g2 g3 r0:Nat) (k v:List UInt8) (i n:Nat) (X:IH) (xs:List Value) (hB:Below w0.heap.size w0 w) (hg:w0.heap.size<=g3) (AL:w.heap[g3]?=some (.cells X.cells.toArray 26 (0,0))) (AI:w.ownsRow w0.heap.size 59 2 X.recs n xs) (hn:n<=4294967296)
  (Q:Exit->Act->World->Prop)
  (hQ:∀ (iH iI fN fO fP fQ fR fS fT fU fV fW fX fY fZ gA gB gC gD gE gF gG gH gI gJ gK gL gM gN gO gP gQ gR gT gU gW gX gY gZ hJ hZ iA iB iC iD iE:Value) (rv:Value) (w':World),Kp w0 g3 w w'->w'.heap[g3]?=some (.cells ({X with recs:=rv}:IH).cells.toArray 26 (0,0))->w'.ownsRow w0.heap.size 59 2 rv (n+1) (xs++[str [],str []])->Code.wp Tryz.prog B2D Q ⟨(.pointer (some ⟨hb,0,none⟩)::c1::.pointer (some ⟨g2,0,none⟩)::.pointer (some ⟨g3,0,none⟩)::str k::str v::.int .i64 i::c7::c8::c9::bV::bW::bX::bY::bZ::cA::cB::cC::bU::bT::c20::c21::cD::cE::cF::cG::cH::cI::cJ::cL::cM::cO::cP::cQ::cS::cT::cU::c37::cV::cW::cX::cY::cZ::dA::dB::dC::c46::dD::dE::dF::dG::c51::dH::c53::dI::dJ::dL::dM::dO::dP::dQ::dR::dS::dT::dU::dV::dW::dX::dY::dZ::eA::eC::eD::eH::eJ::c75::eK::eO::eR::eS::c80::eV::eW::eX::eY::c85::eZ::fA::fB::fC::fD::fE::fH::fI::fJ::fK::fL::.pointer (some ⟨r0,0,none⟩)::iH::iI::fN::fO::fP::fQ::fR::fS::fT::fU::fV::fW::fX::fY::fZ::gA::gB::gC::gD::gE::gF::gG::gH::gI::gJ::gK::gL::gM::gN::gO::gP::gQ::gR::gT::gU::gW::gX::gY::gZ::hJ::hZ::iA::iB::iC::iD::iE::aA::[]).toArray,[]⟩ w'):
  Code.wp Tryz.prog B2C Q ⟨(.pointer (some ⟨hb,0,none⟩)::c1::.pointer (some ⟨g2,0,none⟩)::.pointer (some ⟨g3,0,none⟩)::str k::str v::.int .i64 i::c7::c8::c9::bV::bW::bX::bY::bZ::cA::cB::cC::bU::bT::c20::c21::cD::cE::cF::cG::cH::cI::cJ::cL::cM::cO::cP::cQ::cS::cT::cU::c37::cV::cW::cX::cY::cZ::dA::dB::dC::c46::dD::dE::dF::dG::c51::dH::c53::dI::dJ::dL::dM::dO::dP::dQ::dR::dS::dT::dU::dV::dW::dX::dY::dZ::eA::eC::eD::eH::eJ::c75::eK::eO::eR::eS::c80::eV::eW::eX::eY::c85::eZ::fA::fB::fC::fD::fE::fH::fI::fJ::fK::fL::.pointer (some ⟨r0,0,none⟩)::iF::iG::aB::aD::aF::aG::aH::aI::aJ::aK::aL::aM::aN::aO::aP::aQ::aR::aS::aT::aU::aV::aW::aX::aY::aZ::bA::bB::bC::bD::c127::bE::bF::bG::bH::bI::bJ::bK::bL::bM::bN::bO::bP::bQ::bR::bS::c143::aA::[]).toArray,[]⟩ w:=by
 conv=>arg 2;whnf
 have HQ:=A0 hQ;clear hQ;obtain⟨i5,AV,AX,AY,AZ⟩:=info_parts B5b;have AE:Below w.heap.size w (w.alloc (.cells #[.string {data:=#[]},.string {data:=#[]}] 59)):=(zD _ w).alloc (zB _) _;have AH:=zI w (.cells #[.string {data:=#[]},.string {data:=#[]}] 59);have AA:=A6J AI AE;have AP:Below w0.heap.size w0 (w.alloc (.cells #[.string {data:=#[]},.string {data:=#[]}] 59)):=hB.trans (AE.mono hB.size);have AG:=(AE.block g3 (A8 AL)).trans AL
 have AW:∀j u,([str [],str []]:List Value)[j]?=some u->(w.alloc (.cells #[.string {data:=#[]},.string {data:=#[]}] 59)).cell? ((⟨w.heap.size,0,none⟩:Addr).add j)=some u:=by
  intro j u hj;rw[Lib.addr_add,Nat.zero_add];rw[zA AH];match j,hj with
  |0,hj=>exact hj
  |1,hj=>exact hj
  |j+2,hj=>simp at hj
 obtain⟨v2,w2,hr,AM,AC,-⟩:=run_append_own (P:=Tryz.prog) (w.alloc (.cells #[.string {data:=#[]},.string {data:=#[]}] 59)) w0.heap.size 24 24 59 i5 (.agg #[str [],str []]) 2 32 B5C AV AX AY AZ rfl (by omega) X.recs n xs AA ⟨w.heap.size,0,none⟩ 1 1 [str [],str []] rfl AW (by intro u hu;simp at hu;subst hu;rfl) (by simp only[maxLen];omega) (by omega) AP.size
 obtain⟨gg,cap,Ae⟩:∃gg cap,v2= .slice (some ⟨gg,0,none⟩) (n+1) cap:=by
  rcases AM.2 with ⟨-,h0⟩|⟨gg,cap,cur,h1,-⟩
  ·omega
  ·exact⟨gg,cap,h1⟩
 have AQ:=A8w AA AC;have AS:=A7j AA AC AP;have AB:=AQ g3 _ AG (λc fz e=>by cases e);have bT:w.cell? ⟨g3,19,none⟩=some X.recs:=by rw[zA AL];rfl
 have iK:w2.cell? ⟨g3,19,none⟩=some X.recs:=by rw[zA AB];rfl
 have Af:w2.frozen? ⟨g3,19,none⟩=false:=zE AB 19;have AJ:=B6 (i:=19) v2 AB;have AR:=AC.size;have AU:Kp w0 g3 w (w2.setCell ⟨g3,19,none⟩ v2):=⟨AS.setCell (p:=⟨g3,19,none⟩) hg v2,λq o hq Ad ho=>(C0 (a:=⟨g3,19,none⟩) v2 Ad).trans (AQ q o ((AE.block q (A8 hq)).trans hq) ho),by have:=AE.size;simp only[World.setCell,Array.size_modify] at*;first|omega|(simp;omega)⟩
 have AD: (w2.setCell ⟨g3,19,none⟩ v2).ownsRow w0.heap.size 59 2 v2 (n+1) (xs++[str [],str []]):=by
  refine⟨AM.1,?_⟩;rcases AM.2 with h|⟨gg,cap,cur,h1,h2,h3,h4⟩
  ·exact .inl h
  ·refine .inr ⟨gg,cap,cur,h1,h2,(C0 (a:=⟨g3,19,none⟩) v2 (λe=> ?_)).trans h3,h4⟩
   subst e;rw[AB] at h3;injection h3 with h3
   injection h3 with _ t _
   exact absurd t (by decide)
 subst Ae;have Ab:=A0 AU;have Ac:=A0 AD;have AO:=A0 AJ;have HR:=A0 hr;clear AH AA AP AG AW AM AC AQ AS AB AJ AR AU AD hr AI AL hB AE AV AX AY AZ;refine wp_seq_k (λK1 AT=> ?_);have Aa:=A0 AT;clear AT;go_wp2_with (first|(at_builtin;refine X2 rfl (.tmp 122) (.tmp 124) 24 rfl _ _ rfl rfl _ w2 HR.out ?_)|fail)
 refine Aa.out _ _ ?_;exact HQ.out _ _ _ _ _ _ _ _ _ _ _ _ _ _ _ _ _ _ _ _ _ _ _ _ _ _ _ _ _ _ _ _ _ _ _ _ _ _ _ _ _ _ _ _ _ _ (.slice (some ⟨gg,0,none⟩) (n+1) cap) _ Ab.out AO.out Ac.out
end Go.Proofs.YtkanmkcojlefbaaGreatDoor
namespace Go.Proofs.YtkanmkcojlefbaaGreatDoor
open Go.RowKit
variable {c1 c7 c8 c9 bV bW bX bY bZ cA cB cC bU bT c20 c21 cD cE cF cG cH cI cJ cL cM cO cP cQ cS cT cU c37 cV cW cX cY cZ dA dB dC c46 dD dE dF dG c51 dH c53 dI dJ dL dM dO dP dQ dR dS dT dU dV dW dX dY dZ eA eC eD eH eJ c75 eK eO eR eS c80 eV eW eX eY c85 eZ fA fB fC fD fE fH fI fJ fK fL iF iG aB aD aF aG aH aI aJ aK aL aM aN aO aP aQ aR aS aT aU aV aW aX aY aZ bA bB bC bD c127 bE bF bG bH bI bJ bK bL bM bN bO bP bQ bR bS c143 aA:Value}
theorem B4b (w:World) (g n cap l:Nat) (h:l<=n) (hc:n<=cap): (Instr.sliceAt 24 (.slice (some ⟨g,0,none⟩) n cap) (some (.int .i64 l)) none none).run Tryz.prog w= .ok (.slice (some ⟨g,if cap=l then 0 else l*2,none⟩) (n-l) (cap-l)) w:=by
 have AB:∀w,(sizeOf (Tryz.prog.elem 24)).run Tryz.prog w= .ok 2 w:=by intro w;kernel_rfl
 have hu:Tryz.prog.underlying 24=some (.slice (Tryz.prog.elem 24)):=by kernel_rfl
 have h2: ((l:Nat):Int).toNat=l:=Int.toNat_natCast l;rw[run_sliceAt_slice (h:=hu),run_slice_any (ht:=hu)]
 have hb: (Instr.sliceBounds true n cap (some (.int .i64 l)) none none).run Tryz.prog w= .ok (l,n,cap) w:=by
  have e1: (0:Int)<=(l:Int):=by omega
  have e2: (l:Int)<=(n:Int):=by omega
  simp[Instr.sliceBounds,run_sliceBound,e1,e2,h2,h]
 rw[hb];simp only[Result.andThen,AB,sliced];by_cases AA:cap=l
 ·rw[if_pos AA,if_pos AA]
 ·rw[if_neg AA,if_neg AA]
  simp[Lib.addr_add]
theorem A8Q (w:World) (g n cap l:Nat) (h:l<=n) (hc:n<=cap): (Instr.slice 24 (.slice (some ⟨g,0,none⟩) n cap) (some (.int .i64 l)) none none).run Tryz.prog w= .ok (.slice (some ⟨g,if cap=l then 0 else l*2,none⟩) (n-l) (cap-l)) w:=
 (run_sliceAt_slice (h:=by kernel_rfl) ..).symm.trans (B4b w g n cap l h hc)
section
variable {ops:Array Oper} {o:Oper} {a:Act} {w:World} {K:Act->World->Prop} {Q:Exit->Act->World->Prop}
theorem A5w {E:Prop} (hg:o.guard=none) (s x:Operand) (AA:o.op=Op.call {callee:=Callee.builtin Builtin.copy,args:=#[s,x],argTypes:=#[24,24]}) (u v:Value) (hs:a.eval s=u) (hx:a.eval x=v) (v':Value) (w':World) (hr: (Builtin.copy_ #[24,24] o.type #[u,v]).run Tryz.prog w= .ok v' w') (hK:K (a.put o.dst v') w'):
  if Region.wanted o (yielded ops a.tmps)=true then Oper.wp Tryz.prog o a w K Q else E:=by
 have hw:Region.wanted o (yielded ops a.tmps)=true:=by simp[Region.wanted,hg]
 rw[if_pos hw];unfold Oper.wp;simp[execOp,AA,resolve,invoke,builtin,hs,hx,hr,Result.andThen];exact hK
end
theorem B5d (w w0:World) (hb g2 g3 r0:Nat) (k v:List UInt8) (i n:Nat) (X:IH) (L:List (List UInt8×List UInt8)) (AJ:L.length=n) (hi:i<=n) (hn:n<=4294967296) (rv:Value) (hB:Below w0.heap.size w0 w) (AQ:w.heap[g3]?=some (.cells ({X with recs:=rv}:IH).cells.toArray 26 (0,0))) (AI:w.ownsRow w0.heap.size 59 2 rv (n+1) (E8 L++[str [],str []]))
  (Q:Exit->Act->World->Prop)
  (hQ:∀ (iH iI fN fO fP fQ fR fS fT fU fV fW fX fY fZ gA gB gC gD gE gF gG gH gI gJ gK gL gM gN gO gP gQ gR gT gU gW gX gY gZ hJ hZ iA iB iC iD iE:Value) (w':World),Kp w0 g3 w w'->w'.heap[g3]?=some (.cells ({X with recs:=rv}:IH).cells.toArray 26 (0,0))->w'.ownsRow w0.heap.size 59 2 rv (n+1) (E8 (L.take i++(k,v)::L.drop i))->Q .normal ⟨(.pointer (some ⟨hb,0,none⟩)::c1::.pointer (some ⟨g2,0,none⟩)::.pointer (some ⟨g3,0,none⟩)::str k::str v::.int .i64 i::c7::c8::c9::bV::bW::bX::bY::bZ::cA::cB::cC::bU::bT::c20::c21::cD::cE::cF::cG::cH::cI::cJ::cL::cM::cO::cP::cQ::cS::cT::cU::c37::cV::cW::cX::cY::cZ::dA::dB::dC::c46::dD::dE::dF::dG::c51::dH::c53::dI::dJ::dL::dM::dO::dP::dQ::dR::dS::dT::dU::dV::dW::dX::dY::dZ::eA::eC::eD::eH::eJ::c75::eK::eO::eR::eS::c80::eV::eW::eX::eY::c85::eZ::fA::fB::fC::fD::fE::fH::fI::fJ::fK::fL::.pointer (some ⟨r0,0,none⟩)::iH::iI::fN::fO::fP::fQ::fR::fS::fT::fU::fV::fW::fX::fY::fZ::gA::gB::gC::gD::gE::gF::gG::gH::gI::gJ::gK::gL::gM::gN::gO::gP::gQ::gR::gT::gU::gW::gX::gY::gZ::hJ::hZ::iA::iB::iC::iD::iE::aA::[]).toArray,[]⟩ w'):
  Code.wp Tryz.prog B2D Q ⟨(.pointer (some ⟨hb,0,none⟩)::c1::.pointer (some ⟨g2,0,none⟩)::.pointer (some ⟨g3,0,none⟩)::str k::str v::.int .i64 i::c7::c8::c9::bV::bW::bX::bY::bZ::cA::cB::cC::bU::bT::c20::c21::cD::cE::cF::cG::cH::cI::cJ::cL::cM::cO::cP::cQ::cS::cT::cU::c37::cV::cW::cX::cY::cZ::dA::dB::dC::c46::dD::dE::dF::dG::c51::dH::c53::dI::dJ::dL::dM::dO::dP::dQ::dR::dS::dT::dU::dV::dW::dX::dY::dZ::eA::eC::eD::eH::eJ::c75::eK::eO::eR::eS::c80::eV::eW::eX::eY::c85::eZ::fA::fB::fC::fD::fE::fH::fI::fJ::fK::fL::.pointer (some ⟨r0,0,none⟩)::iF::iG::aB::aD::aF::aG::aH::aI::aJ::aK::aL::aM::aN::aO::aP::aQ::aR::aS::aT::aU::aV::aW::aX::aY::aZ::bA::bB::bC::bD::c127::bE::bF::bG::bH::bI::bJ::bK::bL::bM::bN::bO::bP::bQ::bR::bS::c143::aA::[]).toArray,[]⟩ w:=by
 conv=>arg 2;whnf
 obtain⟨Aa,AI⟩:=AI;rcases AI with ⟨-,h0⟩|⟨gg,cap,cur,rfl,Ad,AM,Af,Ax,AL,An⟩
 ·omega
 have HQ:=A0 hQ;clear hQ;have AC:cur.toList=E8 L++[str [],str []]++cur.toList.drop ((n+1)*2):=by rw[<-An,List.take_append_drop]
 generalize AX:cur.toList.drop ((n+1)*2)=AY at AC;have Ay: (E8 L).length=n*2:=by rw[S4,AJ]
 have AR: (E8 (L.drop i)).length=(n-i)*2:=by rw[S4,List.length_drop,AJ]
 have AH:gg≠g3:=by
  rintro rfl;rw[AM] at AQ;injection AQ with h;injection h with _ t _;exact absurd t (by decide)
 obtain⟨l1,Ae⟩:∃l1,l1=i+1:=⟨_,rfl⟩;have Ai:=λwx=>A8Q wx gg (n+1) cap l1 (by omega) Af;have AU:=λwx=>A8Q wx gg (n+1) cap i (by omega) Af;have Aw:¬cap=i:=by omega
 simp only[if_neg Aw] at AU
 have AV:∀j u,(E8 (L.drop i))[j]?=some u->w.drew.cell? ((⟨gg,i*2,none⟩:Addr).add j)=some u:=by
  intro j u hj;rw[Lib.addr_add];have BH:=(zM.1 hj).1;rw[zA (w:=w.drew) AM];show cur[i*2+j]?=some u
  rw[<-Array.getElem?_toList,AC,QG,zX (by omega),<-List.getElem?_drop,A3z];exact hj
 have AB:=B1L w.drew gg (if cap=i+1 then 0 else(i+1)*2) (n+1- (i+1)) (cap- (i+1)) ⟨gg,i*2,none⟩ (n+1-i) (cap-i) cur 59 (E8 (L.drop i)) AM (by
   rw[AR,show Nat.min (n+1-i) (n+1- (i+1))=n-i from by(show min _ _=_;omega)]) AV (by rw[AR,AL];split<;>omega) (A8o _)
 have AS:cur.toList.take (if cap=i+1 then 0 else(i+1)*2)++E8 (L.drop i)++cur.toList.drop ((if cap=i+1 then 0 else(i+1)*2)+(E8 (L.drop i)).length)=cur.toList.take ((i+1)*2)++E8 (L.drop i)++cur.toList.drop ((i+1)*2+(E8 (L.drop i)).length):=by
  by_cases hc:cap=i+1
  ·have BF:i=n:=by omega
   have Ag:E8 (L.drop i)=[]:=List.eq_nil_of_length_eq_zero (by rw[AR];omega);rw[if_pos hc,Ag];simp
  ·rw[if_neg hc]
 rw[AS] at AB;generalize Ah:cur.toList.take ((i+1)*2)++E8 (L.drop i)++cur.toList.drop ((i+1)*2+(E8 (L.drop i)).length)=nv at AB;have AG:=B0k L i (by omega) (k,v) AY;rw[<-AC,Ah] at AG
 have AZ:nv.length=cap*2:=by
  have h1:cur.toList.length=cap*2:=by rw[Array.length_toList,AL]
  rw[<-Ah,zH,zH,zR,List.length_drop,h1,AR];omega
 have AT:=setRow_heap w.drew gg cur nv.toArray 59 (0,0) AM;have AD:∀q,q≠gg->(w.drew.setRow gg nv.toArray).heap[q]?=w.heap[q]?:=λq hq=>setRow_other w.drew gg q _ hq;have AE:=(AD g3 (Ne.symm AH)).trans AQ;have bT:w.drew.cell? ⟨g3,19,none⟩=some (.slice (some ⟨gg,0,none⟩) (n+1) cap):=by rw[zA (w:=w.drew) AQ];rfl
 have iK: (w.drew.setRow gg nv.toArray).cell? ⟨g3,19,none⟩=some (.slice (some ⟨gg,0,none⟩) (n+1) cap):=by rw[zA AE];rfl
 have Ak:Below w0.heap.size w0 (w.drew.setRow gg nv.toArray):=⟨hB.os,hB.tape,hB.output,by simpa using hB.size,λq hq=>(AD q (by omega)).trans (hB.block q hq)⟩;rw[<-Ae] at AB;have BA:IntKind.i64.wrap ((i:Int)+1)=(l1:Int):=by rw[zQ _ (by omega)];omega
 have AW: (w.drew.setRow gg nv.toArray).heap.size=w.heap.size:=by simp
 have Ar:=A0 AM;have BC:=A0 Ae;clear Ae;have Ab:=A0 AB;have AP:=A0 AD;have AA:=A0 AT;have Aq:=A0 Ak;have AO:=A0 AG;have Ac:=A0 AE;have Au:=A0 AW;have HN:=A0 (And.intro AZ (And.intro AL (And.intro Aa AJ)));clear AB AD AT Ak AG AE AQ hB AM AC AX AV AS Ah AR Ay An AW AZ AL Aa AJ;generalize w.drew.setRow gg nv.toArray=w2 at*;refine wp_seq_k (λK1 Aj=> ?_);have As:=A0 Aj;clear Aj;go_region_held3 (λw'=>w'.cell? ⟨g3,19,none⟩=some (.slice (some ⟨gg,0,none⟩) (n+1) cap)) (first|go_keep|assumption) (first|(refine A5w rfl _ _ rfl _ _ rfl rfl _ _ Ab.out ?_))
 refine As.out _ _ ?_;obtain⟨AZ,AL,Aa,AJ⟩:=HN.out;obtain⟨x0,Ao⟩:∃x,nv[i*2]?=some x:=⟨_,zF (by omega)⟩;obtain⟨x1,Ap⟩:∃x,nv[i*2+1]?=some x:=⟨_,zF (by omega)⟩;have y0:w2.cell? ⟨gg,i*2,none⟩=some x0:=by rw[zA AA.out,List.getElem?_toArray];exact Ao
 have y1:w2.cell? ⟨gg,i*2+1,none⟩=some x1:=by rw[zA AA.out,List.getElem?_toArray];exact Ap
 have z0:w2.frozen? ⟨gg,i*2,none⟩=false:=zE AA.out _;have z1:w2.frozen? ⟨gg,i*2+1,none⟩=false:=zE AA.out _;have BD: (0:Int)<=(i:Int):=by omega
 have BE: (i:Int)< (n:Int)+1:=by omega
 clear Ao Ap Ai AU BA AZ AL Aa AJ;go_wp2_with fail
 all_goals
  have s1:=B6 (i:=i*2) (str k) AA.out;have s2:=B6 (i:=i*2+1) (str v) s1;rw[List.setIfInBounds_toArray,List.setIfInBounds_toArray,AO.out] at s2
  have Am:∀q,q≠gg->((w2.setCell ⟨gg,i*2,none⟩ (str k)).setCell ⟨gg,i*2+1,none⟩ (str v)).heap[q]?=w.heap[q]?:=λq hq=>
   (C0 (a:=⟨gg,i*2+1,none⟩) (str v) hq).trans ((C0 (a:=⟨gg,i*2,none⟩) (str k) hq).trans (AP.out q hq))
  have Av: (L.take i++(k,v)::L.drop i).length=n+1:=by
   rw[zH,zR,List.length_cons,List.length_drop,HN.out.2.2.2];omega
  have Al: (E8 (L.take i++(k,v)::L.drop i)).length=(n+1)*2:=by rw[S4,Av]
  refine HQ.out _ _ _ _ _ _ _ _ _ _ _ _ _ _ _ _ _ _ _ _ _ _ _ _ _ _ _ _ _ _ _ _ _ _ _ _ _ _ _ _ _ _ _ _ _ _ _ ⟨(Aq.out.setCell (p:=⟨gg,i*2,none⟩) Ad (str k)).setCell (p:=⟨gg,i*2+1,none⟩) Ad (str v),λq o hq BI ho=> ?_,?_⟩ ((Am g3 (Ne.symm AH)).trans ((AP.out g3 (Ne.symm AH)).symm.trans Ac.out)) ⟨Al,.inr ⟨gg,cap,_,rfl,Ad,s2,Af,Ax,?_,?_⟩⟩
  ·have Az:q≠gg:=by
    rintro rfl;rw[Ar.out] at hq;injection hq with hq
    exact ho _ _ hq.symm
   exact(Am q Az).trans hq
  ·have:=Au.out
   simp only[World.setCell,Array.size_modify];omega
  ·have:=congrArg List.length AO.out
   rw[List.length_set,List.length_set] at this;rw[List.size_toArray,<-this];exact HN.out.1
  ·show(E8 (L.take i++(k,v)::L.drop i)++AY).take ((n+1)*2)=_
   rw[<-Al,List.take_left]
end Go.Proofs.YtkanmkcojlefbaaGreatDoor
