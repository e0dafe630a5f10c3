/-
  Part of the proof; holds the texts Tk.
-/
import Derived.Test.YtkanmkcojlefbaaGreatDoorM19
set_option maxRecDepth 100000
set_option linter.unusedSimpArgs false
set_option linter.unusedVariables false
namespace Go.Proofs.YtkanmkcojlefbaaGreatDoor
open Go.RowKit
def S0 (n k:Nat):Array Bool:=((List.range n).map λi=>Nat.testBit k i).toArray
section
variable {ops ops0:Array Oper} {Q:Exit->Act->World->Prop} {S:World->Prop} {md:Region.Mode} {oi:Oper} {fuel:Nat} {listed:Array Bool} {a:Act} {w:World}
theorem tk (AA:ops=ops0) (i:Nat) (d:Option Tmp) (n k:Nat) (v:Value) (a':Act)
  (hy:∀w,S w->(execOp a.eval oi).run Tryz.prog w= .ok (.value v) w) (ha:a.put d v=a') (h:wpAnyH Tryz.prog md ops Q S fuel (S0 n k) a' w)
  (hi:ops0[i]?=some oi:=by(simp only[I8,I9,J0];exact rfl))
  (hs:Region.noSelect ops0=true:=by kernel_rfl) (hf:Region.free md ops0 listed i=true:=by kernel_rfl) (hr: (Region.ready md ops0 listed).contains i=true:=by kernel_rfl)
  (hQ:∀c a w,Q (.panic c) (a.put d v) w->Q (.panic c) a w:=by exact λ_ _ _ h=>h) (hw:Region.wanted oi (yielded ops a.tmps)=true:=by rfl) (hS:S w:=by assumption) (hd:oi.dst=d:=by rfl) (hl:listed.setIfInBounds i true=S0 n k:=by kernel_rfl):wpAnyH Tryz.prog md ops Q S (fuel+1) listed a w:=by
 subst AA;subst hd;subst ha;rw[<-hl] at h;exact wpAnyH_take hi hs hf hr hQ (.inl ⟨hw,hy⟩) hS h
theorem tkg (AA:ops=ops0) (i:Nat) (d:Option Tmp) (n k:Nat) (v:Value) (a':Act)
  (hy:∀w,S w->(execOp a.eval oi).run Tryz.prog w= .ok (.value v) w) (ha:a.put d v=a') (h:wpAnyH Tryz.prog md ops Q S fuel (S0 n k) a' w)
  (hi:ops0[i]?=some oi:=by(simp only[I8,I9,J0];exact rfl))
  (hs:Region.noSelect ops0=true:=by kernel_rfl) (hf:Region.free md ops0 listed i=true:=by kernel_rfl) (hr: (Region.ready md ops0 listed).contains i=true:=by kernel_rfl)
  (hQ:∀c a w,Q (.panic c) (a.put d v) w->Q (.panic c) a w:=by exact λ_ _ _ h=>h) (hw:Region.wanted oi (yielded ops0 a.tmps)=true:=by kernel_rfl) (hS:S w:=by assumption) (hd:oi.dst=d:=by rfl) (hl:listed.setIfInBounds i true=S0 n k:=by kernel_rfl):wpAnyH Tryz.prog md ops Q S (fuel+1) listed a w:=by
 subst AA;subst hd;subst ha;rw[<-hl] at h;exact wpAnyH_take hi hs hf hr hQ (.inl ⟨hw,hy⟩) hS h
theorem tku (AA:ops=ops0) (i:Nat) (d:Option Tmp) (n k:Nat) (a':Act)
  (ha:a.put d undef=a') (h:wpAnyH Tryz.prog md ops Q S fuel (S0 n k) a' w)
  (hi:ops0[i]?=some oi:=by(simp only[I8,I9,J0];exact rfl))
  (hs:Region.noSelect ops0=true:=by kernel_rfl) (hf:Region.free md ops0 listed i=true:=by kernel_rfl) (hr: (Region.ready md ops0 listed).contains i=true:=by kernel_rfl)
  (hQ:∀c a w,Q (.panic c) (a.put d undef) w->Q (.panic c) a w:=by exact λ_ _ _ h=>h) (hw:Region.wanted oi (yielded ops0 a.tmps)=false:=by kernel_rfl) (hS:S w:=by assumption) (hd:oi.dst=d:=by rfl) (hl:listed.setIfInBounds i true=S0 n k:=by kernel_rfl):wpAnyH Tryz.prog md ops Q S (fuel+1) listed a w:=by
 subst AA;subst hd;subst ha;rw[<-hl] at h;exact wpAnyH_take hi hs hf hr hQ (.inr ⟨hw,rfl⟩) hS h
theorem tkl (AA:ops=ops0) (i:Nat) (d:Option Tmp) (n k:Nat) (p:Addr) (v:Value) (a':Act) {ty:TypeId} {x:Operand} (hv:∀w,S w->(loadVar ty p).run Tryz.prog w= .ok v w)
  (ha:a.put d v=a') (h:wpAnyH Tryz.prog md ops Q S fuel (S0 n k) a' w)
  (hi:ops0[i]?=some oi:=by(simp only[I8,I9,J0];exact rfl))
  (ho:oi.op= .load ty x:=by rfl) (hx:a.eval x= .pointer (some p):=by rfl)
  (hs:Region.noSelect ops0=true:=by kernel_rfl) (hf:Region.free md ops0 listed i=true:=by kernel_rfl) (hr: (Region.ready md ops0 listed).contains i=true:=by kernel_rfl)
  (hQ:∀c a w,Q (.panic c) (a.put d v) w->Q (.panic c) a w:=by exact λ_ _ _ h=>h) (hw:Region.wanted oi (yielded ops0 a.tmps)=true:=by kernel_rfl) (hS:S w:=by assumption) (hd:oi.dst=d:=by rfl) (hl:listed.setIfInBounds i true=S0 n k:=by kernel_rfl):wpAnyH Tryz.prog md ops Q S (fuel+1) listed a w:=by
 subst AA;subst hd;subst ha;rw[<-hl] at h;exact wpAnyH_take hi hs hf hr hQ (C3 hw _ _ ho p hx v hv) hS h
theorem rdy (AA:ops=ops0) (i:Nat) (n k:Nat)
  (h:∀K':Act->World->Prop,Hid (∀a w,S w->(S w->wpAnyH Tryz.prog md ops Q S fuel (S0 n k) a w)->K' a w)->if Region.wanted oi (yielded ops a.tmps)=true then Oper.wp Tryz.prog oi a w K' Q else K' (a.put oi.dst undef) w)
  (hi:ops0[i]?=some oi:=by(simp only[I8,I9,J0];exact rfl))
  (hr:Region.ready md ops0 listed=[i]:=by kernel_rfl) (hl:listed.setIfInBounds i true=S0 n k:=by kernel_rfl):wpAnyH Tryz.prog md ops Q S (fuel+1) listed a w:=by
 subst AA;rw[<-hl] at h;exact wpAnyH_ready hr (by simp) (AllReadyH.cons hi h AllReadyH.nil)
end
end Go.Proofs.YtkanmkcojlefbaaGreatDoor
