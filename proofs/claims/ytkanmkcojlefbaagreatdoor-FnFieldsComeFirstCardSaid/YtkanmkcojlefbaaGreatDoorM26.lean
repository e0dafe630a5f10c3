/-
  Part of the proof; holds the texts RNT, HOf2.
-/
import Derived.Test.YtkanmkcojlefbaaGreatDoorM25
import Derived.Test.YtkanmkcojlefbaaGreatDoorM18
import Derived.Test.YtkanmkcojlefbaaGreatDoorM19
import Derived.Deep.DeepCutAuto
import Derived.Deep.RegionHeld3
set_option maxRecDepth 100000
set_option linter.unusedSimpArgs false
set_option linter.unusedVariables false
namespace Go.Proofs.YtkanmkcojlefbaaGreatDoor
open Go.RowKit
variable {c1 c2 c3 c8 c9 c10 c13 c14 c15 c16 c17 c18 c19 c20 c21 c22 c23 c24 c25 c26 c27 c28 c29 c30 c31 c32 c33 c34 c35 c36 c37 c38 c39 c40 c41 c42 c43 c44 c45 c46 c47 c48 c49 c50 c51 c52 c53 c54 c55 c56 c57 c58 c59 c60 c61 c62 c63 c64 c65 c66 c67 c68 c69 c70 c71 c72 c73 c74 c75 c76 c77 c78 c79 c80 c81 c82 c83 c84 c85 c86 c87 c88 c89 c90 c91 c92 c93 c94 c95 c96 c97 c98 c99 c100 c101 c102 c103 c104 c105 c106 c107 c108 c109 c110 c111 c112 c113 c114 c115 c116 c117 c118 c119 c120 c121 c122 c123 c124 c125 c126 c127 c128 c129 c130 c131 c132 c133 c134 c135 c136 c137 c138 c139 c140 c141 c142 c143 c144 c145 c146 c147 c148 c149 c150 c151 c152 c153 c154 c155 c156 c157 c158 c159 c160 c161 c162 c163 c164 c165 c166 c167 c168 c169 c170 c171 c172 c173 c174 c175 c176 c177 c178 c179 c180 c181 c182 c183 c184 c185 c186 c187 c188 c189 c190 c191 c192 c193 c194 c195 c196 c197 c198 c199 c200 c201 c202 c203 : Value}
theorem RecMap.fr {w w' : World} {v : Value} {R : KV} {B : Nat} {S : List Nat} (h : RecMap w v R w.heap.size) (f : Fr B S w w') (hS : ∀ q ∈ S,∀ es cl,w.heap[q]? ≠ some (.map es cl)) : RecMap w' v R w'.heap.size := by
  rcases h with h | ⟨rb,n,h1,h2,h3,h4⟩
  · exact .inl h
  · refine .inr ⟨rb,n,h1,Nat.lt_of_lt_of_le h2 f.size,h3.fr f (fun hm => ?_),h4⟩
    obtain ⟨D,⟨es,clock,he,_⟩,_⟩ := h3
    exact hS rb hm es clock he
theorem RD.off {r g n c i fb : Nat} {w : World} (h : RD r g n c i w) (hne : r ≠ fb) (v : Value) : RD r g n c i (w.setCell ⟨fb,0,none⟩ v) := by
  obtain ⟨p,hr⟩ := h
  exact ⟨p,NB.offC hr hne _⟩
structure RdE (tr r g n c i fb hb fr : Nat) (pu pp : Bool) (bs : List UInt8) (aE : Addr) (blk : List Value) (H : Hd) (R : KV) (nb : Int) (v0 w : World) : Prop where
  nbx : NB tr r g fb pu pp false bs aE v0 w
  Hh : w.heap[hb]? = some (.cells H.cells.toArray 130 (0,0))
  Rd : RD r g n c i w
  T : TR tr r (padOf nb) (.iface 146 (.pointer (some ⟨fr,0,none⟩))) blk .nilIface w
  F : FRd fr r nb w
  M : RecMap w H.recs R w.heap.size
  hb0 : v0.heap.size ≤ hb
  fr0 : v0.heap.size ≤ fr
theorem RdE.fin {tr r g n c i fb hb fr : Nat} {pu pp : Bool} {bs : List UInt8} {aE : Addr} {blk : List Value} {H2 : Hd} {R : KV} {nb : Int} {v0 w : World} (hN : NB tr r g fb pu pp false bs aE v0 w) (hH : w.heap[hb]? = some (.cells H2.cells.toArray 130 (0,0))) (hR : RD r g n c i w) (hT : TR tr r (padOf nb) (.iface 146 (.pointer (some ⟨fr,0,none⟩))) blk .nilIface w) (hF : FRd fr r nb w) (hM : RecMap w H2.recs R w.heap.size) (f : Int)
    (h1 : r ≠ hb) (h2 : tr ≠ hb) (h3 : v0.heap.size ≤ hb) (h4 : hb ≠ fb) (h5 : fr ≠ hb) (h6 : v0.heap.size ≤ fr) (_h7 : True) : RdE tr r g n c i fb hb fr pu pp bs aE blk { H2 with fmt := f } R nb v0 (w.setCell ⟨hb,19,none⟩ (.int .i64 f)) := by
  have fr1 : Fr w.heap.size [hb] w (w.setCell ⟨hb,19,none⟩ (.int .i64 f)) := (Fr.refl _ _ w).setCell (p := ⟨hb,19,none⟩) (.inl (by simp)) _
  have hs := heap_set_same (i := 19) (.int .i64 f) hH
  exact ⟨hN.step fr1 (by simp; exact .inr (.inr ⟨h3,h4⟩)),hs,hR.fr fr1 (by simpa using h1),hT.fr fr1 (by simpa using h2),fr1.cells hF (by simpa using h5) (.inr (by decide)),hM.fr fr1 (fun q hq es cl e => by obtain rfl := List.mem_singleton.1 hq; rw [hH] at e; cases e),h3,h6⟩
set_option maxHeartbeats 8000000 in
theorem rdTU (tr r g n c i fb hb : Nat) (pad : Int) (curr : Value) (blk : List Value) (bs : List UInt8) (aE : Addr) (H H2 : Hd) (m4 : Value) (R : KV) (nb : Int) (v0 w : World) (hnb : NB tr r g fb true true false bs aE v0 w) (h : RD r g n c i w) (ht : TR tr r pad curr blk .nilIface w) (hh : w.heap[hb]? = some (.cells H.cells.toArray 130 (0,0))) (hbl : v0.heap.size ≤ hb)
    (hM : Calls Tryz.prog 151 #[.pointer (some ⟨hb,0,none⟩),m4] w fun e w' => e = .returned .nilIface ∧ w'.heap[hb]? = some (.cells H2.cells.toArray 130 (0,0)) ∧ Fr w.heap.size [hb] w w')
    (hty : 48 ≤ H.typ ∧ H.typ ≤ 55) (h2t : H2.typ = H.typ) (hr : RecMap w H2.recs R w.heap.size) (k1 : R kMajor = none) (k2 : R kMinor = none) (k3 : R kMap = none) (hnbv : nb = if hdrOnly H2.typ then 0 else H2.size) (h0 : 0 ≤ nb) (h1 : nb ≤ 9223372036854775807)
    (Q : Exit → Act → World → Prop)
    (hQ : ∀ (d0 d1 d4 d5 d6 d7 d8 d9 d10 d11 d12 d13 d14 d15 d16 d17 d18 d19 d20 d21 d22 d23 d24 d25 d26 d27 d28 d29 d30 d31 d32 d33 d34 d35 d36 d37 d38 d39 d40 d41 d42 d43 d44 d45 d46 d47 d48 d49 d50 d51 d52 d53 d54 d55 d56 d57 d58 d59 d60 d61 d62 d63 d64 d65 d66 d67 d68 d69 d70 d71 d72 d73 d74 d75 d76 d77 d78 d79 d80 d81 d82 d83 d84 d85 d86 d87 d88 d89 d90 d91 d92 d93 d94 d95 d96 d97 d98 d99 d100 d101 d102 d103 d104 d105 d106 d107 d108 d109 d110 d111 d112 d113 d114 d115 d116 d117 d118 d119 d120 d121 d122 d123 d124 d125 d126 d127 d128 d129 d130 d131 d132 d133 d134 d135 d136 d137 d138 d139 d140 d141 d142 d143 d144 d145 d146 d147 d148 d149 d150 d151 d152 d153 d154 d155 d156 d157 d158 d159 d160 d161 d162 d163 d164 d165 d166 d167 d168 d169 d170 d171 d172 d173 d174 d175 d176 d177 d178 d179 d180 d181 d182 d183 d184 d185 d186 d187 d188 d189 d190 d191 d192 d193 d194 d195 d196 d197 d198 d199 d200 d201 d202 d203 : Value) (fr : Nat) (w' : World),RdE tr r g n c i fb hb fr true false bs aE blk { H2 with fmt := 2 } R nb v0 w' → Q .ret ⟨(d0::d1::.pointer (some ⟨hb,0,none⟩)::.nilIface::d4::d5::d6::d7::d8::d9::d10::d11::d12::d13::d14::d15::d16::d17::d18::d19::d20::d21::d22::d23::d24::d25::d26::d27::d28::d29::d30::d31::d32::d33::d34::d35::d36::d37::d38::d39::d40::d41::d42::d43::d44::d45::d46::d47::d48::d49::d50::d51::d52::d53::d54::d55::d56::d57::d58::d59::d60::d61::d62::d63::d64::d65::d66::d67::d68::d69::d70::d71::d72::d73::d74::d75::d76::d77::d78::d79::d80::d81::d82::d83::d84::d85::d86::d87::d88::d89::d90::d91::d92::d93::d94::d95::d96::d97::d98::d99::d100::d101::d102::d103::d104::d105::d106::d107::d108::d109::d110::d111::d112::d113::d114::d115::d116::d117::d118::d119::d120::d121::d122::d123::d124::d125::d126::d127::d128::d129::d130::d131::d132::d133::d134::d135::d136::d137::d138::d139::d140::d141::d142::d143::d144::d145::d146::d147::d148::d149::d150::d151::d152::d153::d154::d155::d156::d157::d158::d159::d160::d161::d162::d163::d164::d165::d166::d167::d168::d169::d170::d171::d172::d173::d174::d175::d176::d177::d178::d179::d180::d181::d182::d183::d184::d185::d186::d187::d188::d189::d190::d191::d192::d193::d194::d195::d196::d197::d198::d199::d200::d201::d202::d203::[]).toArray,[]⟩ w') :
    Code.wp Tryz.prog half72 Q ⟨(.pointer (some ⟨tr,0,none⟩)::c1::c2::c3::m4::.string { data := #[] }::.string { data := #[] }::.pointer (some ⟨fb,0,none⟩)::c8::c9::c10::.pointer (some ⟨hb,0,none⟩)::.pointer (some ⟨tr,3,none⟩)::c13::c14::c15::c16::c17::c18::c19::c20::c21::c22::c23::c24::c25::c26::c27::c28::c29::c30::c31::c32::c33::c34::c35::c36::c37::c38::c39::c40::c41::c42::c43::c44::c45::c46::c47::c48::c49::c50::c51::c52::c53::c54::c55::c56::c57::c58::c59::c60::c61::c62::c63::c64::c65::c66::c67::c68::c69::c70::c71::c72::c73::c74::c75::c76::c77::c78::c79::c80::c81::c82::c83::c84::c85::c86::c87::c88::c89::c90::c91::c92::c93::c94::c95::c96::c97::c98::c99::c100::c101::c102::c103::c104::c105::c106::c107::c108::c109::c110::c111::c112::c113::c114::c115::c116::c117::c118::c119::c120::c121::c122::c123::c124::c125::c126::c127::c128::c129::c130::c131::c132::c133::c134::c135::c136::c137::c138::c139::c140::c141::c142::c143::c144::c145::c146::c147::c148::c149::c150::c151::c152::c153::c154::c155::c156::c157::c158::c159::c160::c161::c162::c163::c164::c165::c166::c167::c168::c169::c170::c171::c172::c173::c174::c175::c176::c177::c178::c179::c180::c181::c182::c183::c184::c185::c186::c187::c188::c189::c190::c191::c192::c193::c194::c195::c196::c197::c198::c199::c200::c201::c202::c203::[]).toArray,[]⟩ w := by
  conv => arg 2; whnf
  have HQ := Lib.hid hQ; have HM := Lib.hid hM; have HNBV := Lib.hid hnbv
  have q120 : (H.typ == 120) = false := by rw [beq_eq_false_iff_ne]; omega
  have q103 : (H.typ == 103) = false := by rw [beq_eq_false_iff_ne]; omega
  have q76 : (H.typ == 76) = false := by rw [beq_eq_false_iff_ne]; omega
  have q75 : (H.typ == 75) = false := by rw [beq_eq_false_iff_ne]; omega
  have q0 : (H2.typ == 0) = false := by rw [beq_eq_false_iff_ne]; omega
  have n83 : H2.typ ≠ 83 := by omega
  have c0 : w.cell? ⟨hb,0,none⟩ = some (.int .u8 H.typ) := by rw [Lib.cell_of_heap hh]; rfl
  have hnp : ∀ q ∈ [hb,tr,fb],∀ es cl,w.heap[q]? ≠ some (.map es cl) := by
    intro q hq es cl e
    simp at hq
    rcases hq with rfl | rfl | rfl
    · rw [hh] at e; cases e
    · rw [ht.1] at e; cases e
    · rw [hnb.C] at e; cases e
  have hfb : hb ≠ fb := by
    rintro rfl
    have := hnb.C; rw [hh] at this; injection this with this; injection this with _ t _; exact absurd t (by decide)
  have htl := hnb.tl; have hrl := hnb.rl; have hlf := hnb.lfb; have hg0 := hnb.G.size; have hl1 := lt_of_heap hh; have hl2 := lt_of_heap hnb.C
  have hrt : r ≠ tr := by
    obtain ⟨p,hr⟩ := h
    rintro rfl
    rw [ht.1] at hr
    cases hr
  have HN := Lib.hid hnb; have HR := Lib.hid h; have HT := Lib.hid ht; have HH := Lib.hid hh; have HRM := Lib.hid hr; have HNP := Lib.hid hnp
  clear hQ hM hnbv hnb h ht hh hr hnp hty h2t
  go_wp2_with fail
  refine HM.out.mono ?_
  rintro e w1 ⟨rfl,hh1,hf1⟩
  have HN1 := Lib.hid (HN.out.step hf1 (by simp; omega))
  have HT1 := Lib.hid (HT.out.fr hf1 (by simp; omega))
  have HR1 := Lib.hid (HR.out.fr hf1 (by simp; omega))
  have HRM1 := Lib.hid (HRM.out.fr hf1 (fun q hq => HNP.out q (by simp at hq ⊢; exact .inl hq)))
  have HH1 := Lib.hid hh1; have HF1 := Lib.hid hf1
  have d0 : w1.cell? ⟨hb,0,none⟩ = some (.int .u8 H2.typ) := by rw [Lib.cell_of_heap hh1]; rfl
  have hg1 := hf1.size
  clear HM HN HT HR HH HRM hh1 hf1 c0
  go_wp2_with fail
  refine (handleReg w1 tr r _ _ .nilIface _ hb H2 nb HT1.out HH1.out HNBV.out h0 h1).mono ?_
  rintro e w2 ⟨fr2,rfl,hf2,hle2,ht2,hF2⟩
  have HN2 := Lib.hid (HN1.out.step hF2 (by simp))
  have HH2 := Lib.hid (hF2.cells HH1.out (by simp; omega) (.inr (by decide)))
  have HR2 := Lib.hid (HR1.out.fr hF2 (by simp; exact hrt))
  have hnp1 : ∀ q ∈ [tr],∀ es cl,w1.heap[q]? ≠ some (.map es cl) := by
    intro q hq es cl e
    obtain rfl := List.mem_singleton.1 hq
    rw [HT1.out.1] at e; cases e
  have HRM2 := Lib.hid (HRM1.out.fr hF2 hnp1)
  have HT2 := Lib.hid ht2; have HF2 := Lib.hid hf2
  have hg2 := hF2.size
  clear HN1 HH1 HR1 HT1 HRM1 hf2 ht2 hF2 hnp1 d0
  go_wp2_with fail
  refine (handleSparse w2 tr hb _ H2 R _ HH2.out HRM2.out n83 k1 k2 k3).mono ?_
  rintro e w3 ⟨rfl,hd⟩
  obtain ⟨nd,rfl⟩ := hd
  have hb3 := bdn (Below.refl w2.heap.size w2) nd
  have HN3 := Lib.hid (HN2.out.below hb3); have HH3 := Lib.hid ((hb3.block hb (lt_of_heap HH2.out)).trans HH2.out); have HR3 := Lib.hid (HR2.out.below hb3); have HT3 := Lib.hid (HT2.out.below hb3)
  have HF3 := Lib.hid ((hb3.block fr2 (lt_of_heap HF2.out)).trans HF2.out); have HRM3 := Lib.hid (HRM2.out.fr (Fr.of_below hb3 w2.heap.size []) (by simp))
  have hg3 : (w2.drewN nd).heap.size = w2.heap.size := rfl
  clear HN2 HH2 HR2 HT2 HF2 HRM2 hb3
  generalize w2.drewN nd = w3 at *
  have e0 : w3.cell? ⟨fb,0,none⟩ = some (.int .i64 (fm true true false)) := by rw [Lib.cell_of_heap HN3.out.C]; rfl
  have c19 : w3.cell? ⟨hb,19,none⟩ = some (.int .i64 H2.fmt) := by rw [Lib.cell_of_heap HH3.out]; rfl
  have z19 : w3.frozen? ⟨hb,19,none⟩ = false := Lib.frozen_of_heap HH3.out 19
  have HA := Lib.hid (hasF w3 true true false true false false); have HB := Lib.hid (hasF w3 true true false false true false); have HC := Lib.hid (mayOnlyBe w3 fb true true false true false false HN3.out.C)
  simp only [Bool.and_true,Bool.and_false,Bool.or_false,Bool.false_and,Bool.true_and,Bool.or_true,Bool.true_or] at HA HB HC
  have HFU : Hid (fm true false false = 2) := Lib.hid rfl
  have HFP : Hid (fm false true false = 4) := Lib.hid rfl
  have HFB : Hid (fm true true false = 6) := Lib.hid rfl
  rw [show fm true true false = 6 from rfl] at e0
  rw [show fm true true false = 6 from rfl,show fm true false false = 2 from rfl] at HA
  rw [show fm true true false = 6 from rfl,show fm false true false = 4 from rfl] at HB
  rw [show fm true false false = 2 from rfl] at HC
  have z19b : (w3.setCell ⟨fb,0,none⟩ (.int .i64 2)).frozen? ⟨hb,19,none⟩ = false := Lib.frozen_of_heap (NB.offC HH3.out hfb _) 19
  have c19b : (w3.setCell ⟨fb,0,none⟩ (.int .i64 2)).cell? ⟨hb,19,none⟩ = some (.int .i64 H2.fmt) := by rw [Lib.cell_of_heap (NB.offC HH3.out hfb _)]; rfl
  go_wp2_with (first | (go_at_call 66; refine HA.out.mono ?_; rintro e wx ⟨rfl,rfl⟩) | (go_at_call 66; refine HB.out.mono ?_; rintro e wx ⟨rfl,rfl⟩) | (go_at_call 123; refine HC.out.mono ?_; rintro e wx ⟨rfl,rfl⟩) | fail)
  refine HQ.out _ _ _ _ _ _ _ _ _ _ _ _ _ _ _ _ _ _ _ _ _ _ _ _ _ _ _ _ _ _ _ _ _ _ _ _ _ _ _ _ _ _ _ _ _ _ _ _ _ _ _ _ _ _ _ _ _ _ _ _ _ _ _ _ _ _ _ _ _ _ _ _ _ _ _ _ _ _ _ _ _ _ _ _ _ _ _ _ _ _ _ _ _ _ _ _ _ _ _ _ _ _ _ _ _ _ _ _ _ _ _ _ _ _ _ _ _ _ _ _ _ _ _ _ _ _ _ _ _ _ _ _ _ _ _ _ _ _ _ _ _ _ _ _ _ _ _ _ _ _ _ _ _ _ _ _ _ _ _ _ _ _ _ _ _ _ _ _ _ _ _ _ _ _ _ _ _ _ _ _ _ _ _ _ _ _ _ _ _ _ _ _ _ _ _ _ _ _ _ _ _ _ fr2 _ ?_
  have HN4 := HN3.out.setC true false false
  rw [show fm true false false = 2 from rfl] at HN4
  have hw : (w3.setCell ⟨fb,0,none⟩ (.int .i64 2)).heap[hb]? = some (.cells H2.cells.toArray 130 (0,0)) := NB.offC HH3.out hfb _
  exact RdE.fin HN4 hw (HR3.out.off (by omega) _) ⟨NB.offC HT3.out.1 (by omega) _,HT3.out.2⟩ (NB.offC HF3.out (by omega) _) (HRM3.out.fr ((Fr.refl w3.heap.size [fb] w3).setCell (.inl (by simp)) _) (fun q hq => by obtain rfl := List.mem_singleton.1 hq; intro es cl e; rw [HN3.out.C] at e; cases e)) 2 (by omega) (by omega) hbl hfb (by omega) (by omega) trivial
set_option maxHeartbeats 8000000 in
theorem rdTP (tr r g n c i fb hb : Nat) (pad : Int) (curr : Value) (blk : List Value) (bs : List UInt8) (aE : Addr) (H H2 : Hd) (m4 : Value) (R : KV) (nb : Int) (v0 w : World) (hnb : NB tr r g fb false true false bs aE v0 w) (h : RD r g n c i w) (ht : TR tr r pad curr blk .nilIface w) (hh : w.heap[hb]? = some (.cells H.cells.toArray 130 (0,0))) (hbl : v0.heap.size ≤ hb)
    (hM : Calls Tryz.prog 151 #[.pointer (some ⟨hb,0,none⟩),m4] w fun e w' => e = .returned .nilIface ∧ w'.heap[hb]? = some (.cells H2.cells.toArray 130 (0,0)) ∧ Fr w.heap.size [hb] w w')
    (hty : 48 ≤ H.typ ∧ H.typ ≤ 55) (h2t : H2.typ = H.typ) (hr : RecMap w H2.recs R w.heap.size) (k1 : R kMajor = none) (k2 : R kMinor = none) (k3 : R kMap = none) (hnbv : nb = if hdrOnly H2.typ then 0 else H2.size) (h0 : 0 ≤ nb) (h1 : nb ≤ 9223372036854775807)
    (Q : Exit → Act → World → Prop)
    (hQ : ∀ (d0 d1 d4 d5 d6 d7 d8 d9 d10 d11 d12 d13 d14 d15 d16 d17 d18 d19 d20 d21 d22 d23 d24 d25 d26 d27 d28 d29 d30 d31 d32 d33 d34 d35 d36 d37 d38 d39 d40 d41 d42 d43 d44 d45 d46 d47 d48 d49 d50 d51 d52 d53 d54 d55 d56 d57 d58 d59 d60 d61 d62 d63 d64 d65 d66 d67 d68 d69 d70 d71 d72 d73 d74 d75 d76 d77 d78 d79 d80 d81 d82 d83 d84 d85 d86 d87 d88 d89 d90 d91 d92 d93 d94 d95 d96 d97 d98 d99 d100 d101 d102 d103 d104 d105 d106 d107 d108 d109 d110 d111 d112 d113 d114 d115 d116 d117 d118 d119 d120 d121 d122 d123 d124 d125 d126 d127 d128 d129 d130 d131 d132 d133 d134 d135 d136 d137 d138 d139 d140 d141 d142 d143 d144 d145 d146 d147 d148 d149 d150 d151 d152 d153 d154 d155 d156 d157 d158 d159 d160 d161 d162 d163 d164 d165 d166 d167 d168 d169 d170 d171 d172 d173 d174 d175 d176 d177 d178 d179 d180 d181 d182 d183 d184 d185 d186 d187 d188 d189 d190 d191 d192 d193 d194 d195 d196 d197 d198 d199 d200 d201 d202 d203 : Value) (fr : Nat) (w' : World),RdE tr r g n c i fb hb fr false true bs aE blk { H2 with fmt := 4 } R nb v0 w' → Q .ret ⟨(d0::d1::.pointer (some ⟨hb,0,none⟩)::.nilIface::d4::d5::d6::d7::d8::d9::d10::d11::d12::d13::d14::d15::d16::d17::d18::d19::d20::d21::d22::d23::d24::d25::d26::d27::d28::d29::d30::d31::d32::d33::d34::d35::d36::d37::d38::d39::d40::d41::d42::d43::d44::d45::d46::d47::d48::d49::d50::d51::d52::d53::d54::d55::d56::d57::d58::d59::d60::d61::d62::d63::d64::d65::d66::d67::d68::d69::d70::d71::d72::d73::d74::d75::d76::d77::d78::d79::d80::d81::d82::d83::d84::d85::d86::d87::d88::d89::d90::d91::d92::d93::d94::d95::d96::d97::d98::d99::d100::d101::d102::d103::d104::d105::d106::d107::d108::d109::d110::d111::d112::d113::d114::d115::d116::d117::d118::d119::d120::d121::d122::d123::d124::d125::d126::d127::d128::d129::d130::d131::d132::d133::d134::d135::d136::d137::d138::d139::d140::d141::d142::d143::d144::d145::d146::d147::d148::d149::d150::d151::d152::d153::d154::d155::d156::d157::d158::d159::d160::d161::d162::d163::d164::d165::d166::d167::d168::d169::d170::d171::d172::d173::d174::d175::d176::d177::d178::d179::d180::d181::d182::d183::d184::d185::d186::d187::d188::d189::d190::d191::d192::d193::d194::d195::d196::d197::d198::d199::d200::d201::d202::d203::[]).toArray,[]⟩ w') :
    Code.wp Tryz.prog half72 Q ⟨(.pointer (some ⟨tr,0,none⟩)::c1::c2::c3::m4::.string { data := #[] }::.string { data := #[] }::.pointer (some ⟨fb,0,none⟩)::c8::c9::c10::.pointer (some ⟨hb,0,none⟩)::.pointer (some ⟨tr,3,none⟩)::c13::c14::c15::c16::c17::c18::c19::c20::c21::c22::c23::c24::c25::c26::c27::c28::c29::c30::c31::c32::c33::c34::c35::c36::c37::c38::c39::c40::c41::c42::c43::c44::c45::c46::c47::c48::c49::c50::c51::c52::c53::c54::c55::c56::c57::c58::c59::c60::c61::c62::c63::c64::c65::c66::c67::c68::c69::c70::c71::c72::c73::c74::c75::c76::c77::c78::c79::c80::c81::c82::c83::c84::c85::c86::c87::c88::c89::c90::c91::c92::c93::c94::c95::c96::c97::c98::c99::c100::c101::c102::c103::c104::c105::c106::c107::c108::c109::c110::c111::c112::c113::c114::c115::c116::c117::c118::c119::c120::c121::c122::c123::c124::c125::c126::c127::c128::c129::c130::c131::c132::c133::c134::c135::c136::c137::c138::c139::c140::c141::c142::c143::c144::c145::c146::c147::c148::c149::c150::c151::c152::c153::c154::c155::c156::c157::c158::c159::c160::c161::c162::c163::c164::c165::c166::c167::c168::c169::c170::c171::c172::c173::c174::c175::c176::c177::c178::c179::c180::c181::c182::c183::c184::c185::c186::c187::c188::c189::c190::c191::c192::c193::c194::c195::c196::c197::c198::c199::c200::c201::c202::c203::[]).toArray,[]⟩ w := by
  conv => arg 2; whnf
  have HQ := Lib.hid hQ; have HM := Lib.hid hM; have HNBV := Lib.hid hnbv
  have q120 : (H.typ == 120) = false := by rw [beq_eq_false_iff_ne]; omega
  have q103 : (H.typ == 103) = false := by rw [beq_eq_false_iff_ne]; omega
  have q76 : (H.typ == 76) = false := by rw [beq_eq_false_iff_ne]; omega
  have q75 : (H.typ == 75) = false := by rw [beq_eq_false_iff_ne]; omega
  have q0 : (H2.typ == 0) = false := by rw [beq_eq_false_iff_ne]; omega
  have n83 : H2.typ ≠ 83 := by omega
  have c0 : w.cell? ⟨hb,0,none⟩ = some (.int .u8 H.typ) := by rw [Lib.cell_of_heap hh]; rfl
  have hnp : ∀ q ∈ [hb,tr,fb],∀ es cl,w.heap[q]? ≠ some (.map es cl) := by
    intro q hq es cl e
    simp at hq
    rcases hq with rfl | rfl | rfl
    · rw [hh] at e; cases e
    · rw [ht.1] at e; cases e
    · rw [hnb.C] at e; cases e
  have hfb : hb ≠ fb := by
    rintro rfl
    have := hnb.C; rw [hh] at this; injection this with this; injection this with _ t _; exact absurd t (by decide)
  have htl := hnb.tl; have hrl := hnb.rl; have hlf := hnb.lfb; have hg0 := hnb.G.size; have hl1 := lt_of_heap hh; have hl2 := lt_of_heap hnb.C
  have hrt : r ≠ tr := by
    obtain ⟨p,hr⟩ := h
    rintro rfl
    rw [ht.1] at hr
    cases hr
  have HN := Lib.hid hnb; have HR := Lib.hid h; have HT := Lib.hid ht; have HH := Lib.hid hh; have HRM := Lib.hid hr; have HNP := Lib.hid hnp
  clear hQ hM hnbv hnb h ht hh hr hnp hty h2t
  go_wp2_with fail
  refine HM.out.mono ?_
  rintro e w1 ⟨rfl,hh1,hf1⟩
  have HN1 := Lib.hid (HN.out.step hf1 (by simp; omega))
  have HT1 := Lib.hid (HT.out.fr hf1 (by simp; omega))
  have HR1 := Lib.hid (HR.out.fr hf1 (by simp; omega))
  have HRM1 := Lib.hid (HRM.out.fr hf1 (fun q hq => HNP.out q (by simp at hq ⊢; exact .inl hq)))
  have HH1 := Lib.hid hh1; have HF1 := Lib.hid hf1
  have d0 : w1.cell? ⟨hb,0,none⟩ = some (.int .u8 H2.typ) := by rw [Lib.cell_of_heap hh1]; rfl
  have hg1 := hf1.size
  clear HM HN HT HR HH HRM hh1 hf1 c0
  go_wp2_with fail
  refine (handleReg w1 tr r _ _ .nilIface _ hb H2 nb HT1.out HH1.out HNBV.out h0 h1).mono ?_
  rintro e w2 ⟨fr2,rfl,hf2,hle2,ht2,hF2⟩
  have HN2 := Lib.hid (HN1.out.step hF2 (by simp))
  have HH2 := Lib.hid (hF2.cells HH1.out (by simp; omega) (.inr (by decide)))
  have HR2 := Lib.hid (HR1.out.fr hF2 (by simp; exact hrt))
  have hnp1 : ∀ q ∈ [tr],∀ es cl,w1.heap[q]? ≠ some (.map es cl) := by
    intro q hq es cl e
    obtain rfl := List.mem_singleton.1 hq
    rw [HT1.out.1] at e; cases e
  have HRM2 := Lib.hid (HRM1.out.fr hF2 hnp1)
  have HT2 := Lib.hid ht2; have HF2 := Lib.hid hf2
  have hg2 := hF2.size
  clear HN1 HH1 HR1 HT1 HRM1 hf2 ht2 hF2 hnp1 d0
  go_wp2_with fail
  refine (handleSparse w2 tr hb _ H2 R _ HH2.out HRM2.out n83 k1 k2 k3).mono ?_
  rintro e w3 ⟨rfl,hd⟩
  obtain ⟨nd,rfl⟩ := hd
  have hb3 := bdn (Below.refl w2.heap.size w2) nd
  have HN3 := Lib.hid (HN2.out.below hb3); have HH3 := Lib.hid ((hb3.block hb (lt_of_heap HH2.out)).trans HH2.out); have HR3 := Lib.hid (HR2.out.below hb3); have HT3 := Lib.hid (HT2.out.below hb3)
  have HF3 := Lib.hid ((hb3.block fr2 (lt_of_heap HF2.out)).trans HF2.out); have HRM3 := Lib.hid (HRM2.out.fr (Fr.of_below hb3 w2.heap.size []) (by simp))
  have hg3 : (w2.drewN nd).heap.size = w2.heap.size := rfl
  clear HN2 HH2 HR2 HT2 HF2 HRM2 hb3
  generalize w2.drewN nd = w3 at *
  have e0 : w3.cell? ⟨fb,0,none⟩ = some (.int .i64 (fm false true false)) := by rw [Lib.cell_of_heap HN3.out.C]; rfl
  have c19 : w3.cell? ⟨hb,19,none⟩ = some (.int .i64 H2.fmt) := by rw [Lib.cell_of_heap HH3.out]; rfl
  have z19 : w3.frozen? ⟨hb,19,none⟩ = false := Lib.frozen_of_heap HH3.out 19
  have HA := Lib.hid (hasF w3 false true false true false false); have HB := Lib.hid (hasF w3 false true false false true false); have HC := Lib.hid (mayOnlyBe w3 fb false true false true false false HN3.out.C)
  simp only [Bool.and_true,Bool.and_false,Bool.or_false,Bool.false_and,Bool.true_and,Bool.or_true,Bool.true_or] at HA HB HC
  have HFU : Hid (fm true false false = 2) := Lib.hid rfl
  have HFP : Hid (fm false true false = 4) := Lib.hid rfl
  have HFB : Hid (fm true true false = 6) := Lib.hid rfl
  rw [show fm false true false = 4 from rfl] at e0
  rw [show fm false true false = 4 from rfl,show fm true false false = 2 from rfl] at HA
  rw [show fm false true false = 4 from rfl] at HB
  go_wp2_with (first | (go_at_call 66; refine HA.out.mono ?_; rintro e wx ⟨rfl,rfl⟩) | (go_at_call 66; refine HB.out.mono ?_; rintro e wx ⟨rfl,rfl⟩) | fail)
  refine HQ.out _ _ _ _ _ _ _ _ _ _ _ _ _ _ _ _ _ _ _ _ _ _ _ _ _ _ _ _ _ _ _ _ _ _ _ _ _ _ _ _ _ _ _ _ _ _ _ _ _ _ _ _ _ _ _ _ _ _ _ _ _ _ _ _ _ _ _ _ _ _ _ _ _ _ _ _ _ _ _ _ _ _ _ _ _ _ _ _ _ _ _ _ _ _ _ _ _ _ _ _ _ _ _ _ _ _ _ _ _ _ _ _ _ _ _ _ _ _ _ _ _ _ _ _ _ _ _ _ _ _ _ _ _ _ _ _ _ _ _ _ _ _ _ _ _ _ _ _ _ _ _ _ _ _ _ _ _ _ _ _ _ _ _ _ _ _ _ _ _ _ _ _ _ _ _ _ _ _ _ _ _ _ _ _ _ _ _ _ _ _ _ _ _ _ _ _ _ _ _ _ _ _ fr2 _ ?_
  exact RdE.fin HN3.out HH3.out HR3.out HT3.out HF3.out HRM3.out 4 (by omega) (by omega) hbl hfb (by omega) (by omega) trivial
end Go.Proofs.YtkanmkcojlefbaaGreatDoor
namespace Go.Proofs.YtkanmkcojlefbaaGreatDoor
open Go.RowKit
theorem hd_cell1 {w : World} {g : Nat} {H : Hd} (hh : w.heap[g]? = some (.cells H.cells.toArray 130 (0,0))) (k : Nat) (v : Value) (hv : H.cells[k]? = some v) : w.cell? ⟨g,k,none⟩ = some v := by
  rw [Lib.cell_of_heap hh,List.getElem?_toArray]; exact hv
theorem ld5 {w : World} {p : Addr} {v : Value} (h : w.cell? p = some v) : (loadVar 5 p).run Tryz.prog w = .ok v w := by simp [loadVar,go_sem,h]
theorem ld9 {w : World} {p : Addr} {v : Value} (h : w.cell? p = some v) : (loadVar 9 p).run Tryz.prog w = .ok v w := by simp [loadVar,go_sem,h]
theorem ld2 {w : World} {p : Addr} {v : Value} (h : w.cell? p = some v) : (loadVar 2 p).run Tryz.prog w = .ok v w := by simp [loadVar,go_sem,h]
theorem ld3 {w : World} {p : Addr} {v : Value} (h : w.cell? p = some v) : (loadVar 3 p).run Tryz.prog w = .ok v w := by simp [loadVar,go_sem,h]
theorem ld4 {w : World} {p : Addr} {v : Value} (h : w.cell? p = some v) : (loadVar 4 p).run Tryz.prog w = .ok v w := by simp [loadVar,go_sem,h]
theorem ld128 {w : World} {p : Addr} {v : Value} (h : w.cell? p = some v) : (loadVar 128 p).run Tryz.prog w = .ok v w := by simp [loadVar,go_sem,h]
theorem ld126 {w : World} {g k : Nat} {u v : Value} (h0 : w.cell? ⟨g,k,none⟩ = some u) (h1 : w.cell? ⟨g,k + 1,none⟩ = some v) : (loadVar 126 ⟨g,k,none⟩).run Tryz.prog w = .ok (.agg #[u,v]) w := by simp [loadVar,go_sem,h0,h1]
section
variable {ops : Array Oper} {S : World → Prop} {op : Oper} {a : Act} {w : World} {K : Act → World → Prop} {Q : Exit → Act → World → Prop}
theorem yieldsIf_load_run (hw : Region.wanted op (yielded ops a.tmps) = true) (ty : TypeId) (x : Operand) (ho : op.op = .load ty x) (p : Addr) (hx : a.eval x = .pointer (some p)) (v : Value) (hS : ∀ w,S w → (loadVar ty p).run Tryz.prog w = .ok v w) : YieldsIf Tryz.prog ops S op v a :=
  .inl ⟨hw,fun w hw' => by
    unfold execOp
    simp only [ho,hx,Instr.loadAt,Instr.sureAddr,Sem.run_bind,Sem.run_pure,Result.andThen_ok,hS w hw']⟩
theorem step_store_run {E : Prop} (hg : op.guard = none) (t : TypeId) (x y : Operand) (hop : op.op = Op.store t x y) (p : Addr) (hx : a.eval x = .pointer (some p)) (v : Value) (hy : a.eval y = v) (w' : World) (hrun : (storeVar t p v).run Tryz.prog w = .ok () w') (hK : K (a.put op.dst undef) w') :
    if Region.wanted op (yielded ops a.tmps) = true then Oper.wp Tryz.prog op a w K Q else E := by
  have hw : Region.wanted op (yielded ops a.tmps) = true := by simp [Region.wanted,hg]
  rw [if_pos hw]
  unfold Oper.wp execOp
  simp only [hop,hx,hy,Instr.storeAt,Instr.sureAddr,Sem.run_bind,Sem.run_pure,Result.andThen_ok,hrun]
  exact hK
end
section
variable {ops ops0 : Array Oper} {Q : Exit → Act → World → Prop} {S : World → Prop}
theorem region_named {id n : Nat} {l0 : Array Bool} {a : Act} {w : World} (hm : Tryz.prog.follows .mixedOrders = true) (hn : ops0.size = n) (hl : Array.replicate n false = l0) (hS : S w.drew)
    (h : ∀ ops,Hid (ops = ops0) → S w.drew → wpAnyH Tryz.prog .any ops Q S n l0 a w.drew) : (Code.region id ops0 true).wp Tryz.prog Q a w := by
  subst hn; subst hl
  exact wp_region_held_drew hm hS (h ops0 (Lib.hid rfl))
theorem take_named {md : Region.Mode} (hops : ops = ops0) {i : Nat} {oi : Oper} {v : Value} {fuel : Nat} {listed l' : Array Bool} {a a' : Act} {w : World} {d : Option Tmp} (hi : ops0[i]? = some oi)
    (hs : Region.noSelect ops0 = true) (hf : Region.free md ops0 listed i = true) (hr : (Region.ready md ops0 listed).contains i = true)
    (hQ : ∀ c a w,Q (.panic c) (a.put d v) w → Q (.panic c) a w) (hy : YieldsIf Tryz.prog ops S oi v a) (hS : S w) (hd : oi.dst = d) (ha : a.put d v = a') (hl : listed.setIfInBounds i true = l')
    (h : wpAnyH Tryz.prog md ops Q S fuel l' a' w) : wpAnyH Tryz.prog md ops Q S (fuel + 1) listed a w := by
  subst hops; subst hd; subst ha; subst hl
  exact wpAnyH_take hi hs hf hr hQ hy hS h
theorem ready_named {md : Region.Mode} (hops : ops = ops0) {i : Nat} {o : Oper} {fuel : Nat} {listed l' : Array Bool} {a : Act} {w : World} {rs : List Nat} (ho : ops0[i]? = some o) (hl : listed.setIfInBounds i true = l')
    (h : ∀ K' : Act → World → Prop,Hid (∀ a w,S w → (S w → wpAnyH Tryz.prog md ops Q S fuel l' a w) → K' a w) → if Region.wanted o (yielded ops a.tmps) = true then Oper.wp Tryz.prog o a w K' Q else K' (a.put o.dst undef) w)
    (hs : AllReadyH Tryz.prog md ops Q S fuel listed a w rs) : AllReadyH Tryz.prog md ops Q S fuel listed a w (i::rs) := by
  subst hops; subst hl
  exact AllReadyH.cons ho h hs
end
theorem ih_one (h : IH) (hr : h.recs.oneCell' = true) : ∀ v ∈ h.cells,v.oneCell' = true := by
  intro v hv
  simp only [IH.cells,List.mem_cons,List.not_mem_nil,or_false] at hv
  rcases hv with rfl | rfl | rfl | rfl | rfl | rfl | rfl | rfl | rfl | rfl | rfl | rfl | rfl | rfl | rfl | rfl | rfl | rfl | rfl | rfl | rfl <;> first | rfl | exact hr
theorem info26 : (Tryz.prog.info? 26).map (·.size) = some 21 := by kernel_rfl
theorem store26 {w : World} {g : Nat} {z : Array Value} (h : IH) (hr : h.recs.oneCell' = true) (hz : z.size = 21) (hg : w.heap[g]? = some (.cells z 26 (0,0))) :
    ∃ w',(storeVar 26 ⟨g,0,none⟩ (.agg h.cells.toArray)).run Tryz.prog w = .ok () w' ∧ w'.heap[g]? = some (.cells h.cells.toArray 26 (0,0)) ∧ (∀ k,k ≠ g → w'.heap[k]? = w.heap[k]?) ∧ (∀ (B : Nat) (w0 : World),Below B w0 w → B ≤ g → Below B w0 w') := by
  have hs := run_store_at w g 0 26 26 z h.cells.toArray hg (by rw [info26]; rfl) (by rw [hz]; exact Nat.le_refl 21) (by simpa using ih_one h hr)
  have e : z.toList.take 0 ++ h.cells.toArray.toList ++ z.toList.drop (0 + h.cells.toArray.size) = h.cells := by
    rw [List.take_zero,List.nil_append,List.drop_eq_nil_of_le (by rw [Array.length_toList,hz]; exact Nat.le_refl 21),List.append_nil]
  rw [e] at hs
  refine ⟨_,hs,setRow_heap w g z _ 26 _ hg,fun k hk => setRow_other w g k _ hk,fun B w0 hb hB => ?_⟩
  exact ⟨hb.os,hb.tape,hb.output,by simpa using hb.size,fun k hk => (setRow_other w g k _ (by omega)).trans (hb.block k hk)⟩
structure Hd.InO (H : Hd) : Prop where
  mw : 0 ≤ H.mw ∧ H.mw < 1000000000
  mx : -100000000000000000 ≤ H.mx - 62135596800 ∧ H.mx - 62135596800 ≤ 100000000000000000
  aw : 0 ≤ H.aw ∧ H.aw < 1000000000
  ax : -100000000000000000 ≤ H.ax - 62135596800 ∧ H.ax - 62135596800 ≤ 100000000000000000
  cw : 0 ≤ H.cw ∧ H.cw < 1000000000
  cx : -100000000000000000 ≤ H.cx - 62135596800 ∧ H.cx - 62135596800 ≤ 100000000000000000
  fmt : H.fmt = 2 ∨ H.fmt = 4
def ih0 (H : Hd) : IH := ⟨H.typ,H.name,H.link,H.size,H.mode,H.uid,H.gid,H.user,H.group,H.mx - 62135596800,H.mw,!tZero H.aw H.ax,0,0,!tZero H.cw H.cx,0,0,H.maj,H.mnr,.slice none 0 0,fmtBack H.fmt⟩
def ih1 (H : Hd) : IH := { ih0 H with ats := if tZero H.aw H.ax then 0 else H.ax - 62135596800,atn := if tZero H.aw H.ax then 0 else H.aw }
def ihOf (H : Hd) : IH := { ih1 H with cts := if tZero H.cw H.cx then 0 else H.cx - 62135596800,ctn := if tZero H.cw H.cx then 0 else H.cw }
structure RecL (R : KV) (L : List (List UInt8 × List UInt8)) : Prop where
  nd : (L.map (·.1)).Nodup
  mem : ∀ p ∈ L,R p.1 = some p.2
  all : ∀ k v,R k = some v → (k,v) ∈ L
def HdOut (H : Hd) (R : KV) (w : World) (e : Ending) (w' : World) : Prop :=
  ∃ rv L,e = .returned (.agg ({ ihOf H with recs := rv } : IH).cells.toArray) ∧ RecS w' rv L ∧ (∀ p n c,rv = .slice (some p) n c → w.heap.size ≤ p.block) ∧ RecL R L ∧ Below w.heap.size w w'
theorem formatOfB (w : World) (f : Int) (h : f = 2 ∨ f = 4) : Calls Tryz.prog 75 #[.int .i64 f] w fun e w' => e = .returned (.int .i64 (fmtBack f)) ∧ Below w.heap.size w w' := by
  refine (formatOf w f h).mono ?_
  rintro e w' ⟨rfl,rfl⟩
  exact ⟨rfl,Below.refl _ _⟩
noncomputable def restO4 : Code := tailFrom 4 (Tryz.f38.body.getD .skip)
noncomputable def restO8 : Code := tailFrom 8 (Tryz.f38.body.getD .skip)
end Go.Proofs.YtkanmkcojlefbaaGreatDoor
