/-
  Part of the proof; holds the texts Lw2.
-/
import Derived.Test.YtkanmkcojlefbaaGreatDoorM47
set_option maxRecDepth 100000
set_option linter.unusedSimpArgs false
set_option linter.unusedVariables false
namespace Go.Proofs.YtkanmkcojlefbaaGreatDoor
open Go.RowKit
section
variable {ops : Array Oper} {op : Oper} {a : Act} {w : World} {K : Act → World → Prop} {Q : Exit → Act → World → Prop}
theorem step_app_run {E : Prop} (hg : op.guard = none) (s x : Operand) (t : TypeId) (ho : op.op = .call { callee := .builtin .append,args := #[s,x],argTypes := #[t,t] }) (v u : Value) (hs : a.eval s = v) (hx : a.eval x = u) (v' : Value) (w' : World)
    (hr : (Builtin.append_ #[t,t] op.type #[v,u]).run Tryz.prog w = .ok v' w') (hK : K (a.put op.dst v') w') : if Region.wanted op (yielded ops a.tmps) = true then Oper.wp Tryz.prog op a w K Q else E := by
  have hw : Region.wanted op (yielded ops a.tmps) = true := by simp [Region.wanted,hg]
  rw [if_pos hw]
  unfold Oper.wp execOp
  simp only [ho,resolve,invoke,builtin,Sem.run_bind,Sem.run_pure,Result.andThen_ok,List.map_toArray,List.map_cons,List.map_nil,hs,hx,hr]
  exact hK
theorem step_load_run {E : Prop} (hg : op.guard = none) (t : TypeId) (x : Operand) (hop : op.op = Op.load t x) (p : Addr) (hx : a.eval x = .pointer (some p)) (v : Value) (hrun : (loadVar t p).run Tryz.prog w = .ok v w) (hK : K (a.put op.dst v) w) :
    if Region.wanted op (yielded ops a.tmps) = true then Oper.wp Tryz.prog op a w K Q else E := by
  have hw : Region.wanted op (yielded ops a.tmps) = true := by simp [Region.wanted,hg]
  rw [if_pos hw]
  unfold Oper.wp execOp
  simp only [hop,hx,Instr.loadAt,Instr.sureAddr,Sem.run_bind,Sem.run_pure,Result.andThen_ok,hrun]
  exact hK
end
theorem st24 {w : World} {B n : Nat} {v : Value} {xs : List Value} (h : w.ownsRow B 59 2 v n xs) {a : Addr} {u : Value} (hc : w.cell? a = some u) (hz : w.frozen? a = false) : (storeVar 24 a v).run Tryz.prog w = .ok () (w.setCell a v) := by
  obtain ⟨p,m,c,rfl⟩ : ∃ p m c,v = .slice p m c := by
    rcases h.2 with ⟨rfl,-⟩ | ⟨g,cap,cur,rfl,-⟩
    · exact ⟨_,_,_,rfl⟩
    · exact ⟨_,_,_,rfl⟩
  simp [storeVar,go_sem,hc,hz]
theorem below_low {B0 B : Nat} {w0 u w : World} (h : Below B0 w0 u) (f : Below B u w) (hB : B0 ≤ B) : Below B0 w0 w := h.trans (f.mono hB)
def LRel (hb g5 : Nat) (h want : IH) (vals : List (List UInt8)) (B : Nat) (w0 : World) (i : Nat) (wr : World) : Prop :=
  ∃ rv,wr.heap[hb]? = some (.cells ({ h with recs := rv } : IH).cells.toArray 26 (0,0)) ∧ wr.ownsRow B 59 2 rv i (cells2 ((tenKeys.zip vals).take i)) ∧ SB g5 want wr ∧ Below w0.heap.size w0 wr ∧ B ≤ wr.heap.size ∧ ∀ p ∈ (tenKeys.zip vals).take i,p.2 ≠ []
theorem zip_take {vals : List (List UInt8)} {i : Nat} {kk vv : List UInt8} (hk : tenKeys[i]? = some kk) (hv : vals[i]? = some vv) : (tenKeys.zip vals).take (i + 1) = (tenKeys.zip vals).take i ++ [(kk,vv)] := by
  have h : (tenKeys.zip vals)[i]? = some (kk,vv) := by
    rw [List.getElem?_zip_eq_some]; exact ⟨hk,hv⟩
  obtain ⟨hlt,e⟩ := List.getElem?_eq_some_iff.1 h
  rw [List.take_succ_eq_append_getElem hlt,e]
theorem lrel_step {hb g5 : Nat} {h want : IH} {vals : List (List UInt8)} {B : Nat} {w0 w2 : World} {i : Nat} {rv v2 : Value} {kk vv : List UInt8} (hI : w2.heap[hb]? = some (.cells ({ h with recs := rv } : IH).cells.toArray 26 (0,0)))
    (hI9 : (w2.setCell ⟨hb,19,none⟩ v2).heap[hb]? = some (.cells ({ h with recs := v2 } : IH).cells.toArray 26 (0,0))) (hO : w2.ownsRow B 59 2 v2 (i + 1) (cells2 ((tenKeys.zip vals).take i) ++ [str kk,str vv])) (hS : SB g5 want w2) (hB : Below w0.heap.size w0 w2) (hZ : B ≤ w2.heap.size)
    (hk : tenKeys[i]? = some kk) (hv : vals[i]? = some vv) (hne : ∀ p ∈ (tenKeys.zip vals).take i,p.2 ≠ []) (hnv : vv ≠ []) (_ : w0.heap.size ≤ B) (h0 : w0.heap.size ≤ hb) : LRel hb g5 h want vals B w0 (i + 1) (w2.setCell ⟨hb,19,none⟩ v2) := by
  have hz := zip_take hk hv
  have hg : hb ≠ g5 := by
    rintro rfl
    unfold SB at hS
    rw [hI] at hS
    injection hS with hS
    injection hS with _ t _
    exact absurd t (by decide)
  refine ⟨v2,hI9,?_,(heap_set_other (a := ⟨hb,19,none⟩) v2 (Ne.symm hg)).trans hS,hB.setCell (p := ⟨hb,19,none⟩) h0 v2,by simp only [World.setCell,Array.size_modify]; exact hZ,?_⟩
  · rw [hz,cells2_append]
    refine own_keep hO (fun q c hq => (heap_set_other (a := ⟨hb,19,none⟩) v2 (fun e => ?_)).trans hq)
    subst e
    rw [hI] at hq
    injection hq with hq
    injection hq with _ t _
    exact absurd t (by decide)
  · rw [hz]
    intro p hp
    rcases List.mem_append.1 hp with hp | hp
    · exact hne p hp
    · rw [List.mem_singleton.1 hp]; exact hnv
noncomputable def restL8 : Code := tailFrom 8 (Tryz.f6.body.getD .skip)
set_option maxHeartbeats 16000000 in
theorem law8 (G0 : Nat) (E : Nat → Addr) (w w0 : World) (hgl : Gl G0 E w0) (h want : IH) (hb g5 : Nat) (hH : w.heap[hb]? = some (.cells ({ h with recs := .slice none 0 0 } : IH).cells.toArray 26 (0,0))) (hW : SB g5 want w) (hB : Below w0.heap.size w0 w) (hb0 : w0.heap.size ≤ hb)
    (aE : Addr) (hE : w0.cell? ⟨0,0,none⟩ = some (errV aE)) (k : CanOk h) (g : h.Rng) (hf : h.fmt = 2) (hw : ∃ r f,want = { h.sprom with recs := r,fmt := f }) (vals : List (List UInt8)) (p : Option Addr) (c : Nat) (hv : StrS w0 (.slice p vals.length c) vals) (hfit : Fits6 vals) {c0 c3 c4 c6 c7 c8 c9 c10 c11 c12 c13 c14 c15 c16 c17 c18 c19 c20 c21 c22 c23 c24 c25 c26 c27 c28 c29 c30 c31 c32 c33 c34 c35 c36 c37 c38 c39 c40 c41 c42 c43 c44 c45 c46 c47 c48 c49 c50 c51 c52 c53 c54 c55 c56 c57 c58 c59 c60 c61 c62 c63 c64 c65 c66 c67 c68 c69 c70 c71 c72 c73 c74 c75 c76 c77 c78 c79 c80 c81 c82 c83 c84 c85 c86 c87 c88 c89 c90 c91 c92 c93 c94 c95 c96 : Value} :
    Code.wp Tryz.prog restL8 (bodyPost Tryz.prog Tryz.f6 (LawTrue w0)) ⟨(c0::.slice p vals.length c::.pointer (some ⟨hb,0,none⟩)::c3::c4::.pointer (some ⟨g5,0,none⟩)::c6::c7::c8::c9::c10::c11::c12::c13::c14::c15::c16::c17::c18::c19::c20::c21::c22::c23::c24::c25::c26::c27::c28::c29::c30::c31::c32::c33::c34::c35::c36::c37::c38::c39::c40::c41::c42::c43::c44::c45::c46::c47::c48::c49::c50::c51::c52::c53::c54::c55::c56::c57::c58::c59::c60::c61::c62::c63::c64::c65::c66::c67::c68::c69::c70::c71::c72::c73::c74::c75::c76::c77::c78::c79::c80::c81::c82::c83::c84::c85::c86::c87::c88::c89::c90::c91::c92::c93::c94::c95::c96::[]).toArray,[]⟩ w := by
  conv => arg 2; whnf
  refine wp_seq_k (fun K1 hK1 => ?_)
  have HK1 := Lib.hid hK1
  clear hK1
  have l0 := block_lt_of_cell hE
  obtain ⟨p',c',hpc,hcl⟩ := hv
  injection hpc with hp1 hp2 hp3
  subst hp1 hp3
  have hR0 : LRel hb g5 h want vals w.heap.size w0 0 w := ⟨.slice none 0 0,hH,World.ownsRow_nil _ _ _ _,hW,hB,Nat.le_refl _,fun q hq => by simp at hq⟩
  have HR0 := Lib.hid hR0; have HCL := Lib.hid hcl; have HGL := Lib.hid hgl; have HE := Lib.hid hE; have HF6 := Lib.hid hfit
  have HK := Lib.hid k; have HG := Lib.hid g; have HF := Lib.hid hf; have HW := Lib.hid hw
  have HBB : Hid (w0.heap.size ≤ w.heap.size) := Lib.hid hB.size
  have HH0 := Lib.hid hb0
  obtain ⟨B,hBe⟩ : ∃ B,B = w.heap.size := ⟨_,rfl⟩
  rw [← hBe] at HR0 HBB
  clear hH hW hB hb0 hE k g hf hw hcl hgl hfit hR0 hBe
  go_wp2_with fail
  go_loopw [34] (fun s34 wr => ∃ i : Nat,s34 = .int .i64 i ∧ i ≤ vals.length ∧ i ≤ 10 ∧ Hid (LRel hb g5 h want vals B w0 i wr)) (fun s34 _ => vals.length - (intOf s34).toNat)
  case atStart => exact ⟨0,rfl,Nat.zero_le _,Nat.zero_le _,HR0⟩
  case round =>
    obtain ⟨i,rfl,hi,hi10,hR⟩ := hrel
    clear HR0
    obtain ⟨rv,hI,hO,hS,hBl,hZ,hne⟩ := hR.out
    clear hR
    by_cases hlt : i < vals.length
    · obtain ⟨rg,ro,rfl,hrg,k1⟩ := HCL.out i hlt
      have cv : wr.cell? ⟨rg,ro + i,none⟩ = some (str vals[i]) := (hBl.cell (p := ⟨rg,ro + i,none⟩) hrg).trans k1
      have HVV := Lib.hid (List.getElem?_eq_getElem hlt)
      have hvl := HF6.out.2 vals[i] (List.getElem_mem hlt)
      have HNE := Lib.hid hne; have HI := Lib.hid hI; have HO := Lib.hid hO; have HS := Lib.hid hS; have HB := Lib.hid hBl; have HZ := Lib.hid hZ
      clear k1 hne hI hO hS hBl hZ
      generalize vals[i] = vv at *
      have hut := Lib.hid (specUTF8 vv wr (by omega))
      go_wp2_with fail
      refine hut.out.mono ?_
      rintro e w2 ⟨b,rfl,hb2,-⟩
      have HI2 := Lib.hid ((hb2.block hb (lt_of_heap HI.out)).trans HI.out); have HO2 := Lib.hid (own_belowT HO.out hb2); have HS2 := Lib.hid (HS.out.below hb2 (lt_of_heap HS.out)); have HB2 := Lib.hid (HB.out.trans (hb2.mono HB.out.size)); have HZ2 : Hid (B ≤ w2.heap.size) := Lib.hid (Nat.le_trans HZ.out hb2.size)
      clear hut HI HO HS HB HZ hb2 cv
      cases b with
      | false =>
        go_wp2_with fail
        go_ret
        exact ⟨rfl,HB2.out⟩
      | true =>
        cases hem : vv.isEmpty with
        | true =>
          go_wp2_with fail
          go_ret
          exact ⟨rfl,HB2.out⟩
        | false =>
          have HNV : Hid (vv ≠ []) := Lib.hid (fun e => by rw [e] at hem; cases hem)
          have HKY := Lib.hid (specKeys w2)
          by_cases h10 : (10 : Int) ≤ i
          · go_wp2_with fail
            refine HKY.out.mono ?_
            rintro e w3 ⟨gk,rfl,-,-,-,hb3⟩
            have HB3 := Lib.hid (HB2.out.trans (hb3.mono HB2.out.size))
            clear hb3
            go_wp2_with fail
            go_ret
            exact ⟨rfl,HB3.out⟩
          · obtain ⟨kk,hkk⟩ : ∃ kk,tenKeys[i]? = some kk := ⟨_,List.getElem?_eq_getElem (show i < tenKeys.length by show i < 10; omega)⟩
            have HKK := Lib.hid hkk
            clear hkk
            go_wp2_with fail
            refine HKY.out.mono ?_
            rintro e w3 ⟨gk,rfl,-,-,-,hb3⟩
            have HI := Lib.hid ((hb3.block hb (lt_of_heap HI2.out)).trans HI2.out); have HO := Lib.hid (own_belowT HO2.out hb3); have HS := Lib.hid (HS2.out.below hb3 (lt_of_heap HS2.out)); have HB := Lib.hid (HB2.out.trans (hb3.mono HB2.out.size)); have HZ : Hid (B ≤ w3.heap.size) := Lib.hid (Nat.le_trans HZ2.out hb3.size)
            clear hb3 HI2 HO2 HS2 HB2 HZ2 HKY hem
            go_upto_region 13 with fail
            refine region_named (S := fun _ => True) (n := 12) (l0 := (bt 12 0)) (by kernel_rfl) rfl (by kernel_rfl) trivial (fun ops HOPS hHeld => ?_)
            have HI0 : Hid (w3.drew.heap[hb]? = some (.cells ({ h with recs := rv } : IH).cells.toArray 26 (0,0))) := HI
            have HO0 : Hid (w3.drew.ownsRow B 59 2 rv i (cells2 ((tenKeys.zip vals).take i))) := HO
            have HS0 : Hid (SB g5 want w3.drew) := HS
            have HB0 : Hid (Below w0.heap.size w0 w3.drew) := Lib.hid HB.out.drew
            have HZ0 : Hid (B ≤ w3.drew.heap.size) := HZ
            clear HI HO HS HB HZ
            generalize w3.drew = u0 at *
            refine take_named HOPS.out (i := 0) (d := (some 52)) (v := ?v0) (a' := ?a0) (l' := (bt 12 1)) (by simp only [ga1,ga2,ga3]; exact rfl) (by kernel_rfl) (by kernel_rfl) (by kernel_rfl) (fun _ _ _ h => h) (Or.inl ⟨by rfl,?hy0⟩) (by assumption) (by rfl) ?ha0 (by kernel_rfl) ?r0
            case hy0 => intro w hSw; go_simp; try with_reducible rfl
            case ha0 => simp only [Act.put,sa1,sa2,sa3]; exact rfl
            refine take_named HOPS.out (i := 3) (d := (some 55)) (v := ?v3) (a' := ?a3) (l' := (bt 12 9)) (by simp only [ga1,ga2,ga3]; exact rfl) (by kernel_rfl) (by kernel_rfl) (by kernel_rfl) (fun _ _ _ h => h) (Or.inl ⟨by rfl,?hy3⟩) (by assumption) (by rfl) ?ha3 (by kernel_rfl) ?r3
            case hy3 => intro w hSw; go_simp; try with_reducible rfl
            case ha3 => simp only [Act.put,sa1,sa2,sa3]; exact rfl
            refine take_named HOPS.out (i := 6) (d := (some 58)) (v := ?v6) (a' := ?a6) (l' := (bt 12 73)) (by simp only [ga1,ga2,ga3]; exact rfl) (by kernel_rfl) (by kernel_rfl) (by kernel_rfl) (fun _ _ _ h => h) (Or.inl ⟨by rfl,?hy6⟩) (by assumption) (by rfl) ?ha6 (by kernel_rfl) ?r6
            case hy6 => intro w hSw; go_simp; try with_reducible rfl
            case ha6 => simp only [Act.put,sa1,sa2,sa3]; exact rfl
            refine wpAnyH_ready (rs := [1,2]) (by rw [HOPS.out]; kernel_rfl) (by simp) ?_
            refine ready_named HOPS.out (l' := (bt 12 75)) (by simp only [ga1,ga2,ga3]; exact rfl) (by kernel_rfl) (fun K hK => ?_) (ready_named HOPS.out (l' := (bt 12 77)) (by simp only [ga1,ga2,ga3]; exact rfl) (by kernel_rfl) (fun K hK => ?_) AllReadyH.nil)
            · refine step_load_run rfl 24 _ rfl ⟨hb,19,none⟩ rfl rv (ld24 (ih_cell1 HI0.out 19 rv rfl)) ?_
              refine hK.out _ _ trivial (fun hHeld => ?_)
              clear hK K
              try simp only [Act.put,sa1,sa2,sa3]
              refine wpAnyH_ready (rs := [2]) (by rw [HOPS.out]; kernel_rfl) (by simp) ?_
              refine ready_named HOPS.out (l' := (bt 12 79)) (by simp only [ga1,ga2,ga3]; exact rfl) (by kernel_rfl) (fun K hK => ?_) AllReadyH.nil
              go_simp
              go_at_call 22
              refine (specKeys u0).mono ?_
              rintro e u1 ⟨gk,rfl,hkat,hk1,hk2,hb1⟩
              have HI_1 := Lib.hid ((hb1.block hb (lt_of_heap HI0.out)).trans HI0.out)
              have HO_1 := Lib.hid (own_belowT HO0.out hb1); have HS_1 := Lib.hid (HS0.out.below hb1 (lt_of_heap HS0.out)); have HB_1 := Lib.hid (HB0.out.trans (hb1.mono HB0.out.size))
              have HZ_1 : Hid (B ≤ u1.heap.size) := Lib.hid (Nat.le_trans HZ0.out hb1.size)
              have ck : u1.cell? ⟨gk,i,none⟩ = some (str kk) := by
                have := hkat i (str kk) (by rw [List.getElem?_map,HKK.out]; rfl)
                rwa [Nat.zero_add] at this
              refine hK.out _ _ trivial (fun hHeld => ?_)
              clear hK K
              try simp only [Act.put,sa1,sa2,sa3]
              clear hb1 hkat
              refine take_named HOPS.out (i := 4) (d := (some 56)) (v := ?vq1x4) (a' := ?aq1x4) (l' := (bt 12 95)) (by simp only [ga1,ga2,ga3]; exact rfl) (by kernel_rfl) (by kernel_rfl) (by kernel_rfl) (fun _ _ _ h => h) (Or.inl ⟨by rfl,?hyq1x4⟩) (by assumption) (by rfl) ?haq1x4 (by kernel_rfl) ?rq1x4
              case hyq1x4 => intro w hSw; go_simp; try with_reducible rfl
              case haq1x4 => simp only [Act.put,sa1,sa2,sa3]; exact rfl
              refine wpAnyH_ready (rs := [5]) (by rw [HOPS.out]; kernel_rfl) (by simp) ?_
              refine ready_named HOPS.out (l' := (bt 12 127)) (by simp only [ga1,ga2,ga3]; exact rfl) (by kernel_rfl) (fun K hK => ?_) AllReadyH.nil
              go_simp
              refine hK.out _ _ trivial (fun hHeld => ?_)
              clear hK K
              try simp only [Act.put,sa1,sa2,sa3]
              clear ck
              refine take_named HOPS.out (i := 7) (d := (some 59)) (v := ?vq2x7) (a' := ?aq2x7) (l' := (bt 12 255)) (by simp only [ga1,ga2,ga3]; exact rfl) (by kernel_rfl) (by kernel_rfl) (by kernel_rfl) (fun _ _ _ h => h) (Or.inl ⟨by rfl,?hyq2x7⟩) (by assumption) (by rfl) ?haq2x7 (by kernel_rfl) ?rq2x7
              case hyq2x7 => intro w hSw; go_simp; try with_reducible rfl
              case haq2x7 => simp only [Act.put,sa1,sa2,sa3]; exact rfl
              refine wpAnyH_ready (rs := [8]) (by rw [HOPS.out]; kernel_rfl) (by simp) ?_
              refine ready_named HOPS.out (l' := (bt 12 511)) (by simp only [ga1,ga2,ga3]; exact rfl) (by kernel_rfl) (fun K hK => ?_) AllReadyH.nil
              go_simp
              have hbn : Below u1.heap.size u1 (u1.alloc (.cells #[str kk,str vv] 59)) := (Below.refl _ u1).alloc (Nat.le_refl _) _
              have hat : At (u1.alloc (.cells #[str kk,str vv] 59)) u1.heap.size 0 [str kk,str vv] := at_new u1 [str kk,str vv] 59
              obtain ⟨u2,hw2⟩ : ∃ x,x = u1.alloc (.cells #[str kk,str vv] 59) := ⟨_,rfl⟩
              obtain ⟨gn,hgn⟩ : ∃ x,x = u1.heap.size := ⟨_,rfl⟩
              rw [← hw2] at hbn hat ⊢
              have HI_2 := Lib.hid ((hbn.block hb (lt_of_heap HI_1.out)).trans HI_1.out)
              have HO_2 := Lib.hid (own_belowT HO_1.out hbn); have HS_2 := Lib.hid (HS_1.out.below hbn (lt_of_heap HS_1.out)); have HB_2 := Lib.hid (HB_1.out.trans (hbn.mono HB_1.out.size))
              have HZ_2 : Hid (B ≤ u2.heap.size) := Lib.hid (Nat.le_trans HZ_1.out hbn.size)
              rw [← hgn] at hat ⊢
              have HAT := Lib.hid hat
              clear hbn hat hw2 hgn
              refine hK.out _ _ trivial (fun hHeld => ?_)
              clear hK K
              try simp only [Act.put,sa1,sa2,sa3]
              obtain ⟨v2,w2,hr,ho2,hb2,hs2,hk2⟩ := appendPair und24 info59 HO_2.out gn kk vv HAT.out (by omega) HZ_2.out
              have HR := Lib.hid hr; have HO2 := Lib.hid ho2
              have HI3 := Lib.hid (hk2 hb _ HI_2.out (fun c fz e => by cases e))
              have HS3 : Hid (SB g5 want w2) := Lib.hid (hk2 g5 _ HS_2.out (fun c fz e => by cases e))
              have HB3 : Hid (Below w0.heap.size w0 w2) := Lib.hid (below_low HB_2.out (hb2 u2 ((Below.refl _ u2).mono HZ_2.out)) HBB.out)
              have HZ3 : Hid (B ≤ w2.heap.size) := Lib.hid (Nat.le_trans HZ_2.out hs2)
              clear hr ho2 hb2 hs2 hk2
              refine wpAnyH_ready (rs := [9]) (by rw [HOPS.out]; kernel_rfl) (by simp) ?_
              refine ready_named HOPS.out (l' := (bt 12 1023)) (by simp only [ga1,ga2,ga3]; exact rfl) (by kernel_rfl) (fun K hK => ?_) AllReadyH.nil
              refine step_app_run rfl _ _ 24 rfl _ _ rfl rfl v2 w2 HR.out ?_
              refine hK.out _ _ trivial (fun hHeld => ?_)
              clear hK K
              try simp only [Act.put,sa1,sa2,sa3]
              refine take_named HOPS.out (i := 10) (d := (some 62)) (v := ?vq3x10) (a' := ?aq3x10) (l' := (bt 12 2047)) (by simp only [ga1,ga2,ga3]; exact rfl) (by kernel_rfl) (by kernel_rfl) (by kernel_rfl) (fun _ _ _ h => h) (Or.inl ⟨by rfl,?hyq3x10⟩) (by assumption) (by rfl) ?haq3x10 (by kernel_rfl) ?rq3x10
              case hyq3x10 => intro w hSw; go_simp; try with_reducible rfl
              case haq3x10 => simp only [Act.put,sa1,sa2,sa3]; exact rfl
              refine wpAnyH_ready (rs := [11]) (by rw [HOPS.out]; kernel_rfl) (by simp) ?_
              refine ready_named HOPS.out (l' := (bt 12 4095)) (by simp only [ga1,ga2,ga3]; exact rfl) (by kernel_rfl) (fun K hK => ?_) AllReadyH.nil
              have c19 := ih_cell1 HI3.out 19 rv rfl
              have z19 : w2.frozen? ⟨hb,19,none⟩ = false := Lib.frozen_of_heap HI3.out 19
              have hh9 := heap_set_same (i := 19) v2 HI3.out
              rw [List.setIfInBounds_toArray] at hh9
              have HI9 : Hid ((w2.setCell ⟨hb,19,none⟩ v2).heap[hb]? = some (.cells ({ h with recs := v2 } : IH).cells.toArray 26 (0,0))) := Lib.hid hh9
              have HREL : Hid (LRel hb g5 h want vals B w0 (i + 1) (w2.setCell ⟨hb,19,none⟩ v2)) := Lib.hid (lrel_step HI3.out HI9.out HO2.out HS3.out HB3.out HZ3.out HKK.out HVV.out HNE.out HNV.out HBB.out HH0.out)
              clear hh9
              refine step_store_run rfl 24 _ _ rfl ⟨hb,19,none⟩ rfl _ rfl (w2.setCell ⟨hb,19,none⟩ v2) (st24 HO2.out c19 z19) ?_
              refine hK.out _ _ trivial (fun hHeld => ?_)
              clear hK K
              try simp only [Act.put,sa1,sa2,sa3]
              refine wpAnyH_done (by rw [HOPS.out]; kernel_rfl) ?_ _
              clear HI3 HS3 HB3 HZ3 HR HAT c19 z19 HOPS hHeld HO2
              go_wp2_with fail
              go_roundw
              case rel => exact ⟨i + 1,by go_num,by omega,by omega,HREL⟩
              case measure => simp [intOf]; omega
            · go_simp
              go_at_call 22
              refine (specKeys u0).mono ?_
              rintro e u3 ⟨gk,rfl,hkat,hk1,hk2,hb1⟩
              have HI_3 := Lib.hid ((hb1.block hb (lt_of_heap HI0.out)).trans HI0.out)
              have HO_3 := Lib.hid (own_belowT HO0.out hb1); have HS_3 := Lib.hid (HS0.out.below hb1 (lt_of_heap HS0.out)); have HB_3 := Lib.hid (HB0.out.trans (hb1.mono HB0.out.size))
              have HZ_3 : Hid (B ≤ u3.heap.size) := Lib.hid (Nat.le_trans HZ0.out hb1.size)
              have ck : u3.cell? ⟨gk,i,none⟩ = some (str kk) := by
                have := hkat i (str kk) (by rw [List.getElem?_map,HKK.out]; rfl)
                rwa [Nat.zero_add] at this
              refine hK.out _ _ trivial (fun hHeld => ?_)
              clear hK K
              try simp only [Act.put,sa1,sa2,sa3]
              clear hb1 hkat
              refine take_named HOPS.out (i := 4) (d := (some 56)) (v := ?vq4x4) (a' := ?aq4x4) (l' := (bt 12 93)) (by simp only [ga1,ga2,ga3]; exact rfl) (by kernel_rfl) (by kernel_rfl) (by kernel_rfl) (fun _ _ _ h => h) (Or.inl ⟨by rfl,?hyq4x4⟩) (by assumption) (by rfl) ?haq4x4 (by kernel_rfl) ?rq4x4
              case hyq4x4 => intro w hSw; go_simp; try with_reducible rfl
              case haq4x4 => simp only [Act.put,sa1,sa2,sa3]; exact rfl
              refine wpAnyH_ready (rs := [1,5]) (by rw [HOPS.out]; kernel_rfl) (by simp) ?_
              refine ready_named HOPS.out (l' := (bt 12 95)) (by simp only [ga1,ga2,ga3]; exact rfl) (by kernel_rfl) (fun K hK => ?_) (ready_named HOPS.out (l' := (bt 12 125)) (by simp only [ga1,ga2,ga3]; exact rfl) (by kernel_rfl) (fun K hK => ?_) AllReadyH.nil)
              · refine step_load_run rfl 24 _ rfl ⟨hb,19,none⟩ rfl rv (ld24 (ih_cell1 HI_3.out 19 rv rfl)) ?_
                refine hK.out _ _ trivial (fun hHeld => ?_)
                clear hK K
                try simp only [Act.put,sa1,sa2,sa3]
                refine wpAnyH_ready (rs := [5]) (by rw [HOPS.out]; kernel_rfl) (by simp) ?_
                refine ready_named HOPS.out (l' := (bt 12 127)) (by simp only [ga1,ga2,ga3]; exact rfl) (by kernel_rfl) (fun K hK => ?_) AllReadyH.nil
                go_simp
                refine hK.out _ _ trivial (fun hHeld => ?_)
                clear hK K
                try simp only [Act.put,sa1,sa2,sa3]
                clear ck
                refine take_named HOPS.out (i := 7) (d := (some 59)) (v := ?vq5x7) (a' := ?aq5x7) (l' := (bt 12 255)) (by simp only [ga1,ga2,ga3]; exact rfl) (by kernel_rfl) (by kernel_rfl) (by kernel_rfl) (fun _ _ _ h => h) (Or.inl ⟨by rfl,?hyq5x7⟩) (by assumption) (by rfl) ?haq5x7 (by kernel_rfl) ?rq5x7
                case hyq5x7 => intro w hSw; go_simp; try with_reducible rfl
                case haq5x7 => simp only [Act.put,sa1,sa2,sa3]; exact rfl
                refine wpAnyH_ready (rs := [8]) (by rw [HOPS.out]; kernel_rfl) (by simp) ?_
                refine ready_named HOPS.out (l' := (bt 12 511)) (by simp only [ga1,ga2,ga3]; exact rfl) (by kernel_rfl) (fun K hK => ?_) AllReadyH.nil
                go_simp
                have hbn : Below u3.heap.size u3 (u3.alloc (.cells #[str kk,str vv] 59)) := (Below.refl _ u3).alloc (Nat.le_refl _) _
                have hat : At (u3.alloc (.cells #[str kk,str vv] 59)) u3.heap.size 0 [str kk,str vv] := at_new u3 [str kk,str vv] 59
                obtain ⟨u4,hw2⟩ : ∃ x,x = u3.alloc (.cells #[str kk,str vv] 59) := ⟨_,rfl⟩
                obtain ⟨gn,hgn⟩ : ∃ x,x = u3.heap.size := ⟨_,rfl⟩
                rw [← hw2] at hbn hat ⊢
                have HI_4 := Lib.hid ((hbn.block hb (lt_of_heap HI_3.out)).trans HI_3.out)
                have HO_4 := Lib.hid (own_belowT HO_3.out hbn); have HS_4 := Lib.hid (HS_3.out.below hbn (lt_of_heap HS_3.out)); have HB_4 := Lib.hid (HB_3.out.trans (hbn.mono HB_3.out.size))
                have HZ_4 : Hid (B ≤ u4.heap.size) := Lib.hid (Nat.le_trans HZ_3.out hbn.size)
                rw [← hgn] at hat ⊢
                have HAT := Lib.hid hat
                clear hbn hat hw2 hgn
                refine hK.out _ _ trivial (fun hHeld => ?_)
                clear hK K
                try simp only [Act.put,sa1,sa2,sa3]
                obtain ⟨v2,w2,hr,ho2,hb2,hs2,hk2⟩ := appendPair und24 info59 HO_4.out gn kk vv HAT.out (by omega) HZ_4.out
                have HR := Lib.hid hr; have HO2 := Lib.hid ho2
                have HI3 := Lib.hid (hk2 hb _ HI_4.out (fun c fz e => by cases e))
                have HS3 : Hid (SB g5 want w2) := Lib.hid (hk2 g5 _ HS_4.out (fun c fz e => by cases e))
                have HB3 : Hid (Below w0.heap.size w0 w2) := Lib.hid (below_low HB_4.out (hb2 u4 ((Below.refl _ u4).mono HZ_4.out)) HBB.out)
                have HZ3 : Hid (B ≤ w2.heap.size) := Lib.hid (Nat.le_trans HZ_4.out hs2)
                clear hr ho2 hb2 hs2 hk2
                refine wpAnyH_ready (rs := [9]) (by rw [HOPS.out]; kernel_rfl) (by simp) ?_
                refine ready_named HOPS.out (l' := (bt 12 1023)) (by simp only [ga1,ga2,ga3]; exact rfl) (by kernel_rfl) (fun K hK => ?_) AllReadyH.nil
                refine step_app_run rfl _ _ 24 rfl _ _ rfl rfl v2 w2 HR.out ?_
                refine hK.out _ _ trivial (fun hHeld => ?_)
                clear hK K
                try simp only [Act.put,sa1,sa2,sa3]
                refine take_named HOPS.out (i := 10) (d := (some 62)) (v := ?vq6x10) (a' := ?aq6x10) (l' := (bt 12 2047)) (by simp only [ga1,ga2,ga3]; exact rfl) (by kernel_rfl) (by kernel_rfl) (by kernel_rfl) (fun _ _ _ h => h) (Or.inl ⟨by rfl,?hyq6x10⟩) (by assumption) (by rfl) ?haq6x10 (by kernel_rfl) ?rq6x10
                case hyq6x10 => intro w hSw; go_simp; try with_reducible rfl
                case haq6x10 => simp only [Act.put,sa1,sa2,sa3]; exact rfl
                refine wpAnyH_ready (rs := [11]) (by rw [HOPS.out]; kernel_rfl) (by simp) ?_
                refine ready_named HOPS.out (l' := (bt 12 4095)) (by simp only [ga1,ga2,ga3]; exact rfl) (by kernel_rfl) (fun K hK => ?_) AllReadyH.nil
                have c19 := ih_cell1 HI3.out 19 rv rfl
                have z19 : w2.frozen? ⟨hb,19,none⟩ = false := Lib.frozen_of_heap HI3.out 19
                have hh9 := heap_set_same (i := 19) v2 HI3.out
                rw [List.setIfInBounds_toArray] at hh9
                have HI9 : Hid ((w2.setCell ⟨hb,19,none⟩ v2).heap[hb]? = some (.cells ({ h with recs := v2 } : IH).cells.toArray 26 (0,0))) := Lib.hid hh9
                have HREL : Hid (LRel hb g5 h want vals B w0 (i + 1) (w2.setCell ⟨hb,19,none⟩ v2)) := Lib.hid (lrel_step HI3.out HI9.out HO2.out HS3.out HB3.out HZ3.out HKK.out HVV.out HNE.out HNV.out HBB.out HH0.out)
                clear hh9
                refine step_store_run rfl 24 _ _ rfl ⟨hb,19,none⟩ rfl _ rfl (w2.setCell ⟨hb,19,none⟩ v2) (st24 HO2.out c19 z19) ?_
                refine hK.out _ _ trivial (fun hHeld => ?_)
                clear hK K
                try simp only [Act.put,sa1,sa2,sa3]
                refine wpAnyH_done (by rw [HOPS.out]; kernel_rfl) ?_ _
                clear HI3 HS3 HB3 HZ3 HR HAT c19 z19 HOPS hHeld HO2
                go_wp2_with fail
                go_roundw
                case rel => exact ⟨i + 1,by go_num,by omega,by omega,HREL⟩
                case measure => simp [intOf]; omega
              · go_simp
                refine hK.out _ _ trivial (fun hHeld => ?_)
                clear hK K
                try simp only [Act.put,sa1,sa2,sa3]
                clear ck
                refine take_named HOPS.out (i := 7) (d := (some 59)) (v := ?vq7x7) (a' := ?aq7x7) (l' := (bt 12 253)) (by simp only [ga1,ga2,ga3]; exact rfl) (by kernel_rfl) (by kernel_rfl) (by kernel_rfl) (fun _ _ _ h => h) (Or.inl ⟨by rfl,?hyq7x7⟩) (by assumption) (by rfl) ?haq7x7 (by kernel_rfl) ?rq7x7
                case hyq7x7 => intro w hSw; go_simp; try with_reducible rfl
                case haq7x7 => simp only [Act.put,sa1,sa2,sa3]; exact rfl
                refine wpAnyH_ready (rs := [1,8]) (by rw [HOPS.out]; kernel_rfl) (by simp) ?_
                refine ready_named HOPS.out (l' := (bt 12 255)) (by simp only [ga1,ga2,ga3]; exact rfl) (by kernel_rfl) (fun K hK => ?_) (ready_named HOPS.out (l' := (bt 12 509)) (by simp only [ga1,ga2,ga3]; exact rfl) (by kernel_rfl) (fun K hK => ?_) AllReadyH.nil)
                · refine step_load_run rfl 24 _ rfl ⟨hb,19,none⟩ rfl rv (ld24 (ih_cell1 HI_3.out 19 rv rfl)) ?_
                  refine hK.out _ _ trivial (fun hHeld => ?_)
                  clear hK K
                  try simp only [Act.put,sa1,sa2,sa3]
                  refine wpAnyH_ready (rs := [8]) (by rw [HOPS.out]; kernel_rfl) (by simp) ?_
                  refine ready_named HOPS.out (l' := (bt 12 511)) (by simp only [ga1,ga2,ga3]; exact rfl) (by kernel_rfl) (fun K hK => ?_) AllReadyH.nil
                  go_simp
                  have hbn : Below u3.heap.size u3 (u3.alloc (.cells #[str kk,str vv] 59)) := (Below.refl _ u3).alloc (Nat.le_refl _) _
                  have hat : At (u3.alloc (.cells #[str kk,str vv] 59)) u3.heap.size 0 [str kk,str vv] := at_new u3 [str kk,str vv] 59
                  obtain ⟨u5,hw2⟩ : ∃ x,x = u3.alloc (.cells #[str kk,str vv] 59) := ⟨_,rfl⟩
                  obtain ⟨gn,hgn⟩ : ∃ x,x = u3.heap.size := ⟨_,rfl⟩
                  rw [← hw2] at hbn hat ⊢
                  have HI_5 := Lib.hid ((hbn.block hb (lt_of_heap HI_3.out)).trans HI_3.out)
                  have HO_5 := Lib.hid (own_belowT HO_3.out hbn); have HS_5 := Lib.hid (HS_3.out.below hbn (lt_of_heap HS_3.out)); have HB_5 := Lib.hid (HB_3.out.trans (hbn.mono HB_3.out.size))
                  have HZ_5 : Hid (B ≤ u5.heap.size) := Lib.hid (Nat.le_trans HZ_3.out hbn.size)
                  rw [← hgn] at hat ⊢
                  have HAT := Lib.hid hat
                  clear hbn hat hw2 hgn
                  refine hK.out _ _ trivial (fun hHeld => ?_)
                  clear hK K
                  try simp only [Act.put,sa1,sa2,sa3]
                  obtain ⟨v2,w2,hr,ho2,hb2,hs2,hk2⟩ := appendPair und24 info59 HO_5.out gn kk vv HAT.out (by omega) HZ_5.out
                  have HR := Lib.hid hr; have HO2 := Lib.hid ho2
                  have HI3 := Lib.hid (hk2 hb _ HI_5.out (fun c fz e => by cases e))
                  have HS3 : Hid (SB g5 want w2) := Lib.hid (hk2 g5 _ HS_5.out (fun c fz e => by cases e))
                  have HB3 : Hid (Below w0.heap.size w0 w2) := Lib.hid (below_low HB_5.out (hb2 u5 ((Below.refl _ u5).mono HZ_5.out)) HBB.out)
                  have HZ3 : Hid (B ≤ w2.heap.size) := Lib.hid (Nat.le_trans HZ_5.out hs2)
                  clear hr ho2 hb2 hs2 hk2
                  refine wpAnyH_ready (rs := [9]) (by rw [HOPS.out]; kernel_rfl) (by simp) ?_
                  refine ready_named HOPS.out (l' := (bt 12 1023)) (by simp only [ga1,ga2,ga3]; exact rfl) (by kernel_rfl) (fun K hK => ?_) AllReadyH.nil
                  refine step_app_run rfl _ _ 24 rfl _ _ rfl rfl v2 w2 HR.out ?_
                  refine hK.out _ _ trivial (fun hHeld => ?_)
                  clear hK K
                  try simp only [Act.put,sa1,sa2,sa3]
                  refine take_named HOPS.out (i := 10) (d := (some 62)) (v := ?vq8x10) (a' := ?aq8x10) (l' := (bt 12 2047)) (by simp only [ga1,ga2,ga3]; exact rfl) (by kernel_rfl) (by kernel_rfl) (by kernel_rfl) (fun _ _ _ h => h) (Or.inl ⟨by rfl,?hyq8x10⟩) (by assumption) (by rfl) ?haq8x10 (by kernel_rfl) ?rq8x10
                  case hyq8x10 => intro w hSw; go_simp; try with_reducible rfl
                  case haq8x10 => simp only [Act.put,sa1,sa2,sa3]; exact rfl
                  refine wpAnyH_ready (rs := [11]) (by rw [HOPS.out]; kernel_rfl) (by simp) ?_
                  refine ready_named HOPS.out (l' := (bt 12 4095)) (by simp only [ga1,ga2,ga3]; exact rfl) (by kernel_rfl) (fun K hK => ?_) AllReadyH.nil
                  have c19 := ih_cell1 HI3.out 19 rv rfl
                  have z19 : w2.frozen? ⟨hb,19,none⟩ = false := Lib.frozen_of_heap HI3.out 19
                  have hh9 := heap_set_same (i := 19) v2 HI3.out
                  rw [List.setIfInBounds_toArray] at hh9
                  have HI9 : Hid ((w2.setCell ⟨hb,19,none⟩ v2).heap[hb]? = some (.cells ({ h with recs := v2 } : IH).cells.toArray 26 (0,0))) := Lib.hid hh9
                  have HREL : Hid (LRel hb g5 h want vals B w0 (i + 1) (w2.setCell ⟨hb,19,none⟩ v2)) := Lib.hid (lrel_step HI3.out HI9.out HO2.out HS3.out HB3.out HZ3.out HKK.out HVV.out HNE.out HNV.out HBB.out HH0.out)
                  clear hh9
                  refine step_store_run rfl 24 _ _ rfl ⟨hb,19,none⟩ rfl _ rfl (w2.setCell ⟨hb,19,none⟩ v2) (st24 HO2.out c19 z19) ?_
                  refine hK.out _ _ trivial (fun hHeld => ?_)
                  clear hK K
                  try simp only [Act.put,sa1,sa2,sa3]
                  refine wpAnyH_done (by rw [HOPS.out]; kernel_rfl) ?_ _
                  clear HI3 HS3 HB3 HZ3 HR HAT c19 z19 HOPS hHeld HO2
                  go_wp2_with fail
                  go_roundw
                  case rel => exact ⟨i + 1,by go_num,by omega,by omega,HREL⟩
                  case measure => simp [intOf]; omega
                · go_simp
                  have hbn : Below u3.heap.size u3 (u3.alloc (.cells #[str kk,str vv] 59)) := (Below.refl _ u3).alloc (Nat.le_refl _) _
                  have hat : At (u3.alloc (.cells #[str kk,str vv] 59)) u3.heap.size 0 [str kk,str vv] := at_new u3 [str kk,str vv] 59
                  obtain ⟨u6,hw2⟩ : ∃ x,x = u3.alloc (.cells #[str kk,str vv] 59) := ⟨_,rfl⟩
                  obtain ⟨gn,hgn⟩ : ∃ x,x = u3.heap.size := ⟨_,rfl⟩
                  rw [← hw2] at hbn hat ⊢
                  have HI_6 := Lib.hid ((hbn.block hb (lt_of_heap HI_3.out)).trans HI_3.out)
                  have HO_6 := Lib.hid (own_belowT HO_3.out hbn); have HS_6 := Lib.hid (HS_3.out.below hbn (lt_of_heap HS_3.out)); have HB_6 := Lib.hid (HB_3.out.trans (hbn.mono HB_3.out.size))
                  have HZ_6 : Hid (B ≤ u6.heap.size) := Lib.hid (Nat.le_trans HZ_3.out hbn.size)
                  rw [← hgn] at hat ⊢
                  have HAT := Lib.hid hat
                  clear hbn hat hw2 hgn
                  refine hK.out _ _ trivial (fun hHeld => ?_)
                  clear hK K
                  try simp only [Act.put,sa1,sa2,sa3]
                  refine wpAnyH_ready (rs := [1]) (by rw [HOPS.out]; kernel_rfl) (by simp) ?_
                  refine ready_named HOPS.out (l' := (bt 12 511)) (by simp only [ga1,ga2,ga3]; exact rfl) (by kernel_rfl) (fun K hK => ?_) AllReadyH.nil
                  refine step_load_run rfl 24 _ rfl ⟨hb,19,none⟩ rfl rv (ld24 (ih_cell1 HI_6.out 19 rv rfl)) ?_
                  refine hK.out _ _ trivial (fun hHeld => ?_)
                  clear hK K
                  try simp only [Act.put,sa1,sa2,sa3]
                  obtain ⟨v2,w2,hr,ho2,hb2,hs2,hk2⟩ := appendPair und24 info59 HO_6.out gn kk vv HAT.out (by omega) HZ_6.out
                  have HR := Lib.hid hr; have HO2 := Lib.hid ho2
                  have HI3 := Lib.hid (hk2 hb _ HI_6.out (fun c fz e => by cases e))
                  have HS3 : Hid (SB g5 want w2) := Lib.hid (hk2 g5 _ HS_6.out (fun c fz e => by cases e))
                  have HB3 : Hid (Below w0.heap.size w0 w2) := Lib.hid (below_low HB_6.out (hb2 u6 ((Below.refl _ u6).mono HZ_6.out)) HBB.out)
                  have HZ3 : Hid (B ≤ w2.heap.size) := Lib.hid (Nat.le_trans HZ_6.out hs2)
                  clear hr ho2 hb2 hs2 hk2
                  refine wpAnyH_ready (rs := [9]) (by rw [HOPS.out]; kernel_rfl) (by simp) ?_
                  refine ready_named HOPS.out (l' := (bt 12 1023)) (by simp only [ga1,ga2,ga3]; exact rfl) (by kernel_rfl) (fun K hK => ?_) AllReadyH.nil
                  refine step_app_run rfl _ _ 24 rfl _ _ rfl rfl v2 w2 HR.out ?_
                  refine hK.out _ _ trivial (fun hHeld => ?_)
                  clear hK K
                  try simp only [Act.put,sa1,sa2,sa3]
                  refine take_named HOPS.out (i := 10) (d := (some 62)) (v := ?vq9x10) (a' := ?aq9x10) (l' := (bt 12 2047)) (by simp only [ga1,ga2,ga3]; exact rfl) (by kernel_rfl) (by kernel_rfl) (by kernel_rfl) (fun _ _ _ h => h) (Or.inl ⟨by rfl,?hyq9x10⟩) (by assumption) (by rfl) ?haq9x10 (by kernel_rfl) ?rq9x10
                  case hyq9x10 => intro w hSw; go_simp; try with_reducible rfl
                  case haq9x10 => simp only [Act.put,sa1,sa2,sa3]; exact rfl
                  refine wpAnyH_ready (rs := [11]) (by rw [HOPS.out]; kernel_rfl) (by simp) ?_
                  refine ready_named HOPS.out (l' := (bt 12 4095)) (by simp only [ga1,ga2,ga3]; exact rfl) (by kernel_rfl) (fun K hK => ?_) AllReadyH.nil
                  have c19 := ih_cell1 HI3.out 19 rv rfl
                  have z19 : w2.frozen? ⟨hb,19,none⟩ = false := Lib.frozen_of_heap HI3.out 19
                  have hh9 := heap_set_same (i := 19) v2 HI3.out
                  rw [List.setIfInBounds_toArray] at hh9
                  have HI9 : Hid ((w2.setCell ⟨hb,19,none⟩ v2).heap[hb]? = some (.cells ({ h with recs := v2 } : IH).cells.toArray 26 (0,0))) := Lib.hid hh9
                  have HREL : Hid (LRel hb g5 h want vals B w0 (i + 1) (w2.setCell ⟨hb,19,none⟩ v2)) := Lib.hid (lrel_step HI3.out HI9.out HO2.out HS3.out HB3.out HZ3.out HKK.out HVV.out HNE.out HNV.out HBB.out HH0.out)
                  clear hh9
                  refine step_store_run rfl 24 _ _ rfl ⟨hb,19,none⟩ rfl _ rfl (w2.setCell ⟨hb,19,none⟩ v2) (st24 HO2.out c19 z19) ?_
                  refine hK.out _ _ trivial (fun hHeld => ?_)
                  clear hK K
                  try simp only [Act.put,sa1,sa2,sa3]
                  refine wpAnyH_done (by rw [HOPS.out]; kernel_rfl) ?_ _
                  clear HI3 HS3 HB3 HZ3 HR HAT c19 z19 HOPS hHeld HO2
                  go_wp2_with fail
                  go_roundw
                  case rel => exact ⟨i + 1,by go_num,by omega,by omega,HREL⟩
                  case measure => simp [intOf]; omega
    · have hie : i = vals.length := by omega
      have hlen : ((tenKeys.zip vals).take i).length = i := by
        rw [List.length_take,List.length_zip]
        show min i (min 10 vals.length) = i
        omega
      have HFR : FldRecs ((tenKeys.zip vals).take i) := ⟨fun p hp => (List.of_mem_zip (List.mem_of_mem_take hp)).1,hne,by rw [hlen]; exact hi10⟩
      have HLN : ∀ p ∈ (tenKeys.zip vals).take i,p.2.length ≤ 2147483647 := fun p hp => HF6.out.2 p.2 (List.of_mem_zip (List.mem_of_mem_take hp)).2
      have HRS : RecS wr rv ((tenKeys.zip vals).take i) := own_recsT (T := 59) (by rw [hlen]; exact hO)
      have H15 := Lib.hid (And.intro hI (And.intro hS (And.intro hBl (And.intro HFR (And.intro HLN HRS)))))
      clear hI hO hS hBl hZ hne hlen HFR HLN HRS
      subst hie
      go_wp2_with fail
      refine HK1.out _ _ ?_
      obtain ⟨hI,hS,hBl,HFR,HLN,HRS⟩ := H15.out
      have g := HG.out
      exact law15 G0 E wr w0 (HGL.out.below hBl) { h with recs := rv } want hb g5 hI hS hBl HH0.out aE ((hBl.cell (p := ⟨0,0,none⟩) l0).trans HE.out) HK.out ⟨g.typ,g.size,g.mode,g.uid,g.gid,g.maj,g.mnr⟩ HF.out HW.out _ HRS HFR HLN
end Go.Proofs.YtkanmkcojlefbaaGreatDoor
