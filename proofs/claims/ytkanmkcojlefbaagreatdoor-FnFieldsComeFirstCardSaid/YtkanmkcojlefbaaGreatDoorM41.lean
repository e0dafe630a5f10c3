/-
  Part of the proof; holds the texts RN1, RNX, RNext.
-/
import Derived.Test.YtkanmkcojlefbaaGreatDoorM25
import Derived.Test.YtkanmkcojlefbaaGreatDoorM26
set_option maxRecDepth 100000
set_option linter.unusedSimpArgs false
set_option linter.unusedVariables false
namespace Go.Proofs.YtkanmkcojlefbaaGreatDoor
open Go.RowKit
variable {c1 c2 c3 c4 c5 c6 c8 c9 c10 c11 c12 c13 c14 c15 c16 c17 c18 c19 c20 c21 c22 c23 c24 c25 c26 c27 c28 c29 c30 c31 c32 c33 c34 c35 c36 c37 c38 c39 c40 c41 c42 c43 c44 c45 c46 c47 c48 c49 c50 c51 c52 c53 c54 c55 c56 c57 c58 c59 c60 c61 c62 c63 c64 c65 c66 c67 c68 c69 c70 c71 c72 c73 c74 c75 c76 c77 c78 c79 c80 c81 c82 c83 c84 c85 c86 c87 c88 c89 c90 c91 c92 c93 c94 c95 c96 c97 c98 c99 c100 c101 c102 c103 c104 c105 c106 c107 c108 c109 c110 c111 c112 c113 c114 c115 c116 c117 c118 c119 c120 c121 c122 c123 c124 c125 c126 c127 c128 c129 c130 c131 c132 c133 c134 c135 c136 c137 c138 c139 c140 c141 c142 c143 c144 c145 c146 c147 c148 c149 c150 c151 c152 c153 c154 c155 c156 c157 c158 c159 c160 c161 c162 c163 c164 c165 c166 c167 c168 c169 c170 c171 c172 c173 c174 c175 c176 c177 c178 c179 c180 c181 c182 c183 c184 c185 c186 c187 c188 c189 c190 c191 c192 c193 c194 c195 c196 c197 c198 c199 c200 c201 c202 c203 : Value}
structure Rd1 (tr r g n c i fb : Nat) (pu pp : Bool) (bs : List UInt8) (aE : Addr) (B : Blk) (V : RdV) (nb : Int) (hb fr : Nat) (v0 w0 w : World) : Prop where
  nbx : NB tr r g fb pu pp false bs aE v0 w
  H : w.heap[hb]? = some (.cells (rdHd B V).cells.toArray 130 (0,0))
  R : RD r g n c (i + 512) w
  T : TR tr r (padOf nb) (.iface 146 (.pointer (some ⟨fr,0,none⟩))) (Lib.byteCells B.bytes) .nilIface w
  F : FRd fr r nb w
  hb0 : v0.heap.size ≤ hb
  fr0 : v0.heap.size ≤ fr
  hbf : hb ≠ fb
  frf : fr ≠ fb
  lb : w0.heap.size ≤ hb
  fw : Fr w0.heap.size [r,tr,fb] w0 w
set_option maxHeartbeats 8000000 in
theorem rd1 (tr r g n c i pad fb fr0 : Nat) (pu pp pg : Bool) (bs : List UInt8) (aE : Addr) (B : Blk) (V : RdV) (nb : Int) (blk : List Value) (v0 w : World) (hR : RdF B V) (hnb : NB tr r g fb pu pp pg bs aE v0 w) (h : RD r g n c i w) (hf : FRd fr0 r 0 w) (ht : TR tr r pad (.iface 146 (.pointer (some ⟨fr0,0,none⟩))) blk .nilIface w)
    (hi : i + pad + 512 ≤ n) (hp : pad < 512) (hbig : n < 4611686018427387904) (hnc : n ≤ c) (hb' : bs.length = n) (hB : (bs.drop (i + pad)).take 512 = B.bytes) (hnbv : nb = if hdrOnly (rdHd B V).typ then 0 else (rdHd B V).size) (h0 : 0 ≤ nb) (h1 : nb ≤ 9223372036854775807) (hfl : fb < w.heap.size)
    (Q : Exit → Act → World → Prop)
    (hQ : ∀ (d1 d2 d3 d8 d9 d10 d13 d14 d15 d16 d17 d18 d19 d20 d21 d22 d23 d24 d25 d26 d27 d28 d29 d30 d31 d32 d33 d34 d35 d36 d37 d38 d39 d40 d41 d42 d43 d44 d45 d46 d47 d48 d49 d50 d51 d52 d53 d54 d55 d56 d57 d58 d59 d60 d61 d62 d63 d64 d65 d66 d67 d68 d69 d70 d71 d72 d73 d74 d75 d76 d77 d78 d79 d80 d81 d82 d83 d84 d85 d86 d87 d88 d89 d90 d91 d92 d93 d94 d95 d96 d97 d98 d99 d100 d101 d102 d103 d104 d105 d106 d107 d108 d109 d110 d111 d112 d113 d114 d115 d116 d117 d118 d119 d120 d121 d122 d123 d124 d125 d126 d127 d128 d129 d130 d131 d132 d133 d134 d135 d136 d137 d138 d139 d140 d141 d142 d143 d144 d145 d146 d147 d148 d149 d150 d151 d152 d153 d154 d155 d156 d157 d158 d159 d160 d161 d162 d163 d164 d165 d166 d167 d168 d169 d170 d171 d172 d173 d174 d175 d176 d177 d178 d179 d180 d181 d182 d183 d184 d185 d186 d187 d188 d189 d190 d191 d192 d193 d194 d195 d196 d197 d198 d199 d200 d201 d202 d203 : Value) (hb fr : Nat) (w' : World),Rd1 tr r g n c (i + pad) fb pu pp bs aE B V nb hb fr v0 w w' → Code.wp Tryz.prog half72 Q ⟨(.pointer (some ⟨tr,0,none⟩)::d1::d2::d3::c4::c5::c6::.pointer (some ⟨fb,0,none⟩)::d8::d9::d10::.pointer (some ⟨hb,0,none⟩)::.pointer (some ⟨tr,3,none⟩)::d13::d14::d15::d16::d17::d18::d19::d20::d21::d22::d23::d24::d25::d26::d27::d28::d29::d30::d31::d32::d33::d34::d35::d36::d37::d38::d39::d40::d41::d42::d43::d44::d45::d46::d47::d48::d49::d50::d51::d52::d53::d54::d55::d56::d57::d58::d59::d60::d61::d62::d63::d64::d65::d66::d67::d68::d69::d70::d71::d72::d73::d74::d75::d76::d77::d78::d79::d80::d81::d82::d83::d84::d85::d86::d87::d88::d89::d90::d91::d92::d93::d94::d95::d96::d97::d98::d99::d100::d101::d102::d103::d104::d105::d106::d107::d108::d109::d110::d111::d112::d113::d114::d115::d116::d117::d118::d119::d120::d121::d122::d123::d124::d125::d126::d127::d128::d129::d130::d131::d132::d133::d134::d135::d136::d137::d138::d139::d140::d141::d142::d143::d144::d145::d146::d147::d148::d149::d150::d151::d152::d153::d154::d155::d156::d157::d158::d159::d160::d161::d162::d163::d164::d165::d166::d167::d168::d169::d170::d171::d172::d173::d174::d175::d176::d177::d178::d179::d180::d181::d182::d183::d184::d185::d186::d187::d188::d189::d190::d191::d192::d193::d194::d195::d196::d197::d198::d199::d200::d201::d202::d203::[]).toArray,[]⟩ w') :
    Code.wp Tryz.prog round72 Q ⟨(.pointer (some ⟨tr,0,none⟩)::c1::c2::c3::c4::c5::c6::.pointer (some ⟨fb,0,none⟩)::c8::c9::c10::c11::c12::c13::c14::c15::c16::c17::c18::c19::c20::c21::c22::c23::c24::c25::c26::c27::c28::c29::c30::c31::c32::c33::c34::c35::c36::c37::c38::c39::c40::c41::c42::c43::c44::c45::c46::c47::c48::c49::c50::c51::c52::c53::c54::c55::c56::c57::c58::c59::c60::c61::c62::c63::c64::c65::c66::c67::c68::c69::c70::c71::c72::c73::c74::c75::c76::c77::c78::c79::c80::c81::c82::c83::c84::c85::c86::c87::c88::c89::c90::c91::c92::c93::c94::c95::c96::c97::c98::c99::c100::c101::c102::c103::c104::c105::c106::c107::c108::c109::c110::c111::c112::c113::c114::c115::c116::c117::c118::c119::c120::c121::c122::c123::c124::c125::c126::c127::c128::c129::c130::c131::c132::c133::c134::c135::c136::c137::c138::c139::c140::c141::c142::c143::c144::c145::c146::c147::c148::c149::c150::c151::c152::c153::c154::c155::c156::c157::c158::c159::c160::c161::c162::c163::c164::c165::c166::c167::c168::c169::c170::c171::c172::c173::c174::c175::c176::c177::c178::c179::c180::c181::c182::c183::c184::c185::c186::c187::c188::c189::c190::c191::c192::c193::c194::c195::c196::c197::c198::c199::c200::c201::c202::c203::[]).toArray,[]⟩ w := by
  conv => arg 2; whnf
  have HQ := Lib.hid hQ; have HRF := Lib.hid hR; have HNBV := Lib.hid hnbv
  clear hQ hR hnbv
  have hgr : g ≠ r := by have := hnb.gS; simp at this; exact this.1
  obtain ⟨c0,c1,c2,c515,z1,z2,z515⟩ := trCells ht.2 ht.1
  have mp := m_phys w.drew fr0 _ _ hf
  have ltr := lt_of_heap ht.1
  have lfr := lt_of_heap hf
  have HN := Lib.hid hnb; have HR := Lib.hid h; have HT := Lib.hid ht; have HB' := Lib.hid hb'; have HB := Lib.hid hB; have HI := Lib.hid hi
  clear hnb h hf ht z1 z2 z515 c515 hb' hB hi
  go_wp2_with fail
  go_region_held3 (fun w' => w'.cell? ⟨tr,0,none⟩ = some (.iface 84 (.pointer (some ⟨r,0,none⟩))) ∧ w'.cell? ⟨tr,2,none⟩ = some (.iface 146 (.pointer (some ⟨fr0,0,none⟩)))) (first | go_keep | (refine And.intro ?_ ?_ <;> assumption))
    (first | (go_at_call 348; refine (phys _ _ _).mono ?_; rintro e w2 ⟨rfl,hb2⟩; have HB2 := Lib.hid hb2; have d0 := (hb2.cell (p := ⟨tr,0,none⟩) ltr).trans c0; have d2 := (hb2.cell (p := ⟨tr,2,none⟩) ltr).trans c2; have HE2 := Lib.hid ((hb2.cell (p := ⟨0,0,none⟩) (block_lt_of_cell HN.out.E)).trans HN.out.E); clear hb2) | (go_at_call 146; refine (discard_none _ r aE HE2.out).mono ?_; rintro e w3 ⟨rfl,hb3⟩; have HB3 := Lib.hid hb3; have e0 := (hb3.cell (p := ⟨tr,0,none⟩) (Nat.lt_of_lt_of_le ltr HB2.out.size)).trans d0; have e2 := (hb3.cell (p := ⟨tr,2,none⟩) (Nat.lt_of_lt_of_le ltr HB2.out.size)).trans d2; clear hb3))
  have hbw : Below w.heap.size w w3 := (((Below.refl _ w).drew).trans HB2.out).trans (HB3.out.mono (by have := HB2.out.size; simpa using this))
  have HN3 := Lib.hid (HN.out.below hbw); have HR3 := Lib.hid (HR.out.below hbw); have HT3 := Lib.hid (HT.out.below hbw)
  have hsz3 : w.heap.size ≤ w3.heap.size := hbw.size
  have HG3 := Lib.hid (Fr.of_below hbw w.heap.size [r,tr,fb])
  clear mp d0 d2 HE2 HB2 HB3 hbw HN HR HT c0 c1 c2 ltr lfr e0 e2
  obtain ⟨e0,e1,-⟩ := trCells HT3.out.2 HT3.out.1
  have HC := Lib.hid (padRead w3.drew tr r g n c i pad _ _ bs blk aE pad HR3.out HT3.out (by have := HI.out; omega) hp hbig hnc HB'.out HN3.out.S hgr HN3.out.E HN3.out.zS)
  have hp2 : (pad : Int) ≤ 512 := by omega
  have hp3 : (0 : Int) ≤ pad := by omega
  go_wp2_with fail
  go_region_held3 (fun w' => w'.cell? ⟨tr,0,none⟩ = some (.iface 84 (.pointer (some ⟨r,0,none⟩))) ∧ w'.cell? ⟨tr,1,none⟩ = some (.int .i64 pad)) (first | go_keep | (refine And.intro ?_ ?_ <;> assumption)) (first | (go_at_call 147; refine HC.out.mono ?_; rintro e w4 ⟨rfl,hr4,⟨blk4,ht4⟩,hf4⟩; have HR4 := Lib.hid hr4; have HT4 := Lib.hid ht4; have HF4 := Lib.hid ((Fr.refl w3.heap.size [r,tr] w3).drew.trans hf4); obtain ⟨g0,g1,-,-,y1,-⟩ := trCells ht4.2 ht4.1; clear hr4 ht4 hf4))
  have HN4 := Lib.hid (HN3.out.step (w' := w4) HF4.out (by simp))
  have hsz4 : w3.heap.size ≤ w4.heap.size := HF4.out.size
  have HG4 := Lib.hid (HG3.out.thn HF4.out hsz3 (by simp))
  clear HG3
  have hrt : r ≠ tr := by
    obtain ⟨p,hr⟩ := HR4.out
    rintro rfl
    rw [HT4.out.1] at hr
    cases hr
  clear HC HF4 e0 e1 HN3 HR3 HT3
  go_wp2_with fail
  have hF5 : Fr w4.heap.size [r,tr] w4 (w4.setCell ⟨tr,1,none⟩ (.int .i64 0)) := (Fr.refl _ _ w4).setCell (p := ⟨tr,1,none⟩) (.inl (by simp)) _
  have HN5 := Lib.hid (HN4.out.step hF5 (by simp))
  have HG5 := Lib.hid (HG4.out.thn hF5 (by omega) (by simp))
  have HR5 : Hid (RD r g n c (i + pad) (w4.setCell ⟨tr,1,none⟩ (.int .i64 0))) := by
    obtain ⟨p,hr⟩ := HR4.out
    exact ⟨p,(heap_set_other (a := ⟨tr,1,none⟩) _ hrt).trans hr⟩
  have HT5 : Hid (TR tr r 0 (.iface 146 (.pointer (some ⟨fr0,0,none⟩))) blk4 .nilIface (w4.setCell ⟨tr,1,none⟩ (.int .i64 0))) := by
    have := heap_set_same (i := 1) (.int .i64 0) HT4.out.1
    rw [rcells_set1] at this
    exact ⟨this,HT4.out.2⟩
  have hsz5 : (w4.setCell ⟨tr,1,none⟩ (.int .i64 0)).heap.size = w4.heap.size := by simp [World.setCell]
  clear HG4 hF5 HN4 HR4 HT4 g0 g1 y1 hrt
  generalize w4.setCell ⟨tr,1,none⟩ (.int .i64 0) = w5 at *
  refine (readHeader w5 tr r g n c (i + pad) 0 _ _ bs blk4 B V HRF.out HR5.out HT5.out HI.out hbig hnc HB'.out HN5.out.S HN5.out.gS HB.out).mono ?_
  rintro e w6 ⟨hb,rfl,hH6,hr6,ht6,hF6,hle6⟩
  have HN6 := Lib.hid (HN5.out.step hF6 (by simp))
  have HG6 := Lib.hid (HG5.out.thn hF6 (by omega) (by simp))
  have HH6 := Lib.hid hH6; have HR6 := Lib.hid hr6; have HT6 := Lib.hid ht6
  have htl := HN6.out.tl; have hlf := HN6.out.lfb; have hg6 := HN5.out.G.size
  have hsz6 : w5.heap.size ≤ w6.heap.size := hF6.size
  have hlt6 := lt_of_heap hH6
  clear hH6 hr6 ht6 hF6 HN5 HR5 HT5
  go_wp2_with fail
  refine (handleReg w6 tr r 0 _ .nilIface _ hb (rdHd B V) nb HT6.out HH6.out HNBV.out h0 h1).mono ?_
  rintro e w7 ⟨fr7,rfl,hf7,hle7,ht7,hF7⟩
  have HN7 := Lib.hid (HN6.out.step hF7 (by simp))
  have HG7 := Lib.hid (HG6.out.thn hF7 (by omega) (by simp))
  clear HG5 HG6
  have HH7 := Lib.hid (hF7.cells HH6.out (by simp; omega) (.inr (by decide)))
  have HR7 := Lib.hid (HR6.out.fr hF7 (by have := HN6.out.rl; obtain ⟨p,hr⟩ := HR6.out; rintro hm; simp at hm; subst hm; rw [HT6.out.1] at hr; cases hr))
  have HT7 := Lib.hid ht7; have HF7 := Lib.hid hf7
  clear hf7 ht7 hF7 HN6 HH6 HR6 HT6
  have c19 : w7.cell? ⟨hb,19,none⟩ = some (.int .i64 6) := by rw [Lib.cell_of_heap HH7.out]; rfl
  go_upto_region 17 with fail
  rename_i K1 hK1
  have HK1 := Lib.hid hK1
  clear hK1
  have HM := Lib.hid (mayOnlyBe w7 fb pu pp pg true true false HN7.out.C)
  go_wp2_with fail
  refine HM.out.mono ?_
  rintro e w8 ⟨rfl,rfl⟩
  go_wp2_with fail
  refine HK1.out _ _ ?_
  refine HQ.out _ _ _ _ _ _ _ _ _ _ _ _ _ _ _ _ _ _ _ _ _ _ _ _ _ _ _ _ _ _ _ _ _ _ _ _ _ _ _ _ _ _ _ _ _ _ _ _ _ _ _ _ _ _ _ _ _ _ _ _ _ _ _ _ _ _ _ _ _ _ _ _ _ _ _ _ _ _ _ _ _ _ _ _ _ _ _ _ _ _ _ _ _ _ _ _ _ _ _ _ _ _ _ _ _ _ _ _ _ _ _ _ _ _ _ _ _ _ _ _ _ _ _ _ _ _ _ _ _ _ _ _ _ _ _ _ _ _ _ _ _ _ _ _ _ _ _ _ _ _ _ _ _ _ _ _ _ _ _ _ _ _ _ _ _ _ _ _ _ _ _ _ _ _ _ _ _ _ _ _ _ _ _ _ _ _ _ _ _ _ _ _ _ _ _ _ _ hb fr7 _ ?_
  have hfb1 : hb ≠ fb := by omega
  have hfb2 : fr7 ≠ fb := by omega
  have hrf : r ≠ fb := by have := HN7.out.rl; omega
  refine ⟨?_,NB.offC HH7.out hfb1 _,?_,⟨NB.offC HT7.out.1 (by omega) _,HT7.out.2⟩,NB.offC HF7.out hfb2 _,by omega,by omega,hfb1,hfb2,by omega,HG7.out.setCell (p := ⟨fb,0,none⟩) (.inl (by simp)) _⟩
  · have := HN7.out.setC (pu && true) (pp && true) (pg && false)
    simpa using this
  · obtain ⟨p,hr⟩ := HR7.out
    exact ⟨p,NB.offC hr hrf _⟩
end Go.Proofs.YtkanmkcojlefbaaGreatDoor
namespace Go.Proofs.YtkanmkcojlefbaaGreatDoor
open Go.RowKit
structure RdX (tr r g n c i fb fr mb : Nat) (pad : Int) (pp : Bool) (bs : List UInt8) (aE : Addr) (blk : List Value) (L : List (List UInt8 × List UInt8)) (v0 w0 w : World) : Prop where
  nbx : NB tr r g fb false pp false bs aE v0 w
  Rd : RD r g n c i w
  T : TR tr r pad (.iface 146 (.pointer (some ⟨fr,0,none⟩))) blk .nilIface w
  F : FRd fr r 0 w
  M : SMap w mb L.length (putAll (fun _ => none) L)
  le : w0.heap.size ≤ w.heap.size
  lfb : fb < w.heap.size
set_option maxHeartbeats 8000000 in
theorem rdX (tr r g n c i fb hb fr nb : Nat) (pad : Int) (pu pp : Bool) (blk : List Value) (bs : List UInt8) (aE : Addr) (H : Hd) (L : List (List UInt8 × List UInt8)) (v0 w : World) (hnb : NB tr r g fb pu pp false bs aE v0 w) (h : RD r g n c i w) (hf : FRd fr r nb w) (ht : TR tr r pad (.iface 146 (.pointer (some ⟨fr,0,none⟩))) blk .nilIface w) (hh : w.heap[hb]? = some (.cells H.cells.toArray 130 (0,0))) (hbl : v0.heap.size ≤ hb) (hfl : v0.heap.size ≤ fr)
    (hty : H.typ = 120) (hnbl : nb ≤ 1048576) (hin : i + nb ≤ n) (hbig : n < 4611686018427387904) (hnc : n ≤ c) (hb' : bs.length = n) (hL : (bs.drop i).take nb = recsB L) (hn0 : 0 < nb) (hok : RecsOk L)
    (Q : Exit → Act → World → Prop) {c1 c2 c3 c4 c8 c9 c10 c13 c14 c15 c16 c17 c18 c19 c20 c21 c22 c23 c24 c25 c26 c27 c28 c29 c30 c31 c32 c33 c34 c35 c36 c37 c38 c39 c40 c41 c42 c43 c44 c45 c46 c47 c48 c49 c50 c51 c52 c53 c54 c55 c56 c57 c58 c59 c60 c61 c62 c63 c64 c65 c66 c67 c68 c69 c70 c71 c72 c73 c74 c75 c76 c77 c78 c79 c80 c81 c82 c83 c84 c85 c86 c87 c88 c89 c90 c91 c92 c93 c94 c95 c96 c97 c98 c99 c100 c101 c102 c103 c104 c105 c106 c107 c108 c109 c110 c111 c112 c113 c114 c115 c116 c117 c118 c119 c120 c121 c122 c123 c124 c125 c126 c127 c128 c129 c130 c131 c132 c133 c134 c135 c136 c137 c138 c139 c140 c141 c142 c143 c144 c145 c146 c147 c148 c149 c150 c151 c152 c153 c154 c155 c156 c157 c158 c159 c160 c161 c162 c163 c164 c165 c166 c167 c168 c169 c170 c171 c172 c173 c174 c175 c176 c177 c178 c179 c180 c181 c182 c183 c184 c185 c186 c187 c188 c189 c190 c191 c192 c193 c194 c195 c196 c197 c198 c199 c200 c201 c202 c203 : Value}
    (hQ : ∀ (d1 d2 d3 d8 d9 d10 d11 d12 d13 d14 d15 d16 d17 d18 d19 d20 d21 d22 d23 d24 d25 d26 d27 d28 d29 d30 d31 d32 d33 d34 d35 d36 d37 d38 d39 d40 d41 d42 d43 d44 d45 d46 d47 d48 d49 d50 d51 d52 d53 d54 d55 d56 d57 d58 d59 d60 d61 d62 d63 d64 d65 d66 d67 d68 d69 d70 d71 d72 d73 d74 d75 d76 d77 d78 d79 d80 d81 d82 d83 d84 d85 d86 d87 d88 d89 d90 d91 d92 d93 d94 d95 d96 d97 d98 d99 d100 d101 d102 d103 d104 d105 d106 d107 d108 d109 d110 d111 d112 d113 d114 d115 d116 d117 d118 d119 d120 d121 d122 d123 d124 d125 d126 d127 d128 d129 d130 d131 d132 d133 d134 d135 d136 d137 d138 d139 d140 d141 d142 d143 d144 d145 d146 d147 d148 d149 d150 d151 d152 d153 d154 d155 d156 d157 d158 d159 d160 d161 d162 d163 d164 d165 d166 d167 d168 d169 d170 d171 d172 d173 d174 d175 d176 d177 d178 d179 d180 d181 d182 d183 d184 d185 d186 d187 d188 d189 d190 d191 d192 d193 d194 d195 d196 d197 d198 d199 d200 d201 d202 d203 : Value) (mb : Nat) (w' : World),RdX tr r g n c (i + nb) fb fr mb pad pp bs aE blk L v0 w w' → Q (.exit 1) ⟨(.pointer (some ⟨tr,0,none⟩)::d1::d2::d3::.map (some mb)::.string { data := #[] }::.string { data := #[] }::.pointer (some ⟨fb,0,none⟩)::d8::d9::d10::d11::d12::d13::d14::d15::d16::d17::d18::d19::d20::d21::d22::d23::d24::d25::d26::d27::d28::d29::d30::d31::d32::d33::d34::d35::d36::d37::d38::d39::d40::d41::d42::d43::d44::d45::d46::d47::d48::d49::d50::d51::d52::d53::d54::d55::d56::d57::d58::d59::d60::d61::d62::d63::d64::d65::d66::d67::d68::d69::d70::d71::d72::d73::d74::d75::d76::d77::d78::d79::d80::d81::d82::d83::d84::d85::d86::d87::d88::d89::d90::d91::d92::d93::d94::d95::d96::d97::d98::d99::d100::d101::d102::d103::d104::d105::d106::d107::d108::d109::d110::d111::d112::d113::d114::d115::d116::d117::d118::d119::d120::d121::d122::d123::d124::d125::d126::d127::d128::d129::d130::d131::d132::d133::d134::d135::d136::d137::d138::d139::d140::d141::d142::d143::d144::d145::d146::d147::d148::d149::d150::d151::d152::d153::d154::d155::d156::d157::d158::d159::d160::d161::d162::d163::d164::d165::d166::d167::d168::d169::d170::d171::d172::d173::d174::d175::d176::d177::d178::d179::d180::d181::d182::d183::d184::d185::d186::d187::d188::d189::d190::d191::d192::d193::d194::d195::d196::d197::d198::d199::d200::d201::d202::d203::[]).toArray,[]⟩ w') :
    Code.wp Tryz.prog half72 Q ⟨(.pointer (some ⟨tr,0,none⟩)::c1::c2::c3::c4::.string { data := #[] }::.string { data := #[] }::.pointer (some ⟨fb,0,none⟩)::c8::c9::c10::.pointer (some ⟨hb,0,none⟩)::.pointer (some ⟨tr,3,none⟩)::c13::c14::c15::c16::c17::c18::c19::c20::c21::c22::c23::c24::c25::c26::c27::c28::c29::c30::c31::c32::c33::c34::c35::c36::c37::c38::c39::c40::c41::c42::c43::c44::c45::c46::c47::c48::c49::c50::c51::c52::c53::c54::c55::c56::c57::c58::c59::c60::c61::c62::c63::c64::c65::c66::c67::c68::c69::c70::c71::c72::c73::c74::c75::c76::c77::c78::c79::c80::c81::c82::c83::c84::c85::c86::c87::c88::c89::c90::c91::c92::c93::c94::c95::c96::c97::c98::c99::c100::c101::c102::c103::c104::c105::c106::c107::c108::c109::c110::c111::c112::c113::c114::c115::c116::c117::c118::c119::c120::c121::c122::c123::c124::c125::c126::c127::c128::c129::c130::c131::c132::c133::c134::c135::c136::c137::c138::c139::c140::c141::c142::c143::c144::c145::c146::c147::c148::c149::c150::c151::c152::c153::c154::c155::c156::c157::c158::c159::c160::c161::c162::c163::c164::c165::c166::c167::c168::c169::c170::c171::c172::c173::c174::c175::c176::c177::c178::c179::c180::c181::c182::c183::c184::c185::c186::c187::c188::c189::c190::c191::c192::c193::c194::c195::c196::c197::c198::c199::c200::c201::c202::c203::[]).toArray,[]⟩ w := by
  conv => arg 2; whnf
  have HQ := Lib.hid hQ; have HL := Lib.hid hL; have HOK := Lib.hid hok; have HB' := Lib.hid hb'
  have hfb : hb ≠ fb := by
    rintro rfl
    have := hnb.C; rw [hh] at this; injection this with this; injection this with _ t _; exact absurd t (by decide)
  have hff : fr ≠ fb := by
    rintro rfl
    have := hnb.C; rw [hf] at this; injection this with this; injection this with _ t _; exact absurd t (by decide)
  have hhf : hb ≠ fr := by
    rintro rfl
    rw [hf] at hh; injection hh with this; injection this with _ t _; exact absurd t (by decide)
  have htl := hnb.tl; have hrl := hnb.rl; have hlf := hnb.lfb; have hg0 := hnb.G.size; have hgl := hnb.gl; have hzl := hnb.zl; have hl2 := lt_of_heap hnb.C
  have hgS := hnb.gS; have hzS := hnb.zS
  simp at hgS hzS
  have hrt : r ≠ tr := by
    obtain ⟨p,hr⟩ := h
    rintro rfl
    rw [ht.1] at hr
    cases hr
  have hHM := hnb.setC (pu && false) (pp && true) (false && false)
  have c0 : w.cell? ⟨hb,0,none⟩ = some (.int .u8 120) := by rw [Lib.cell_of_heap hh,← hty]; rfl
  have HM := Lib.hid (mayOnlyBe w fb pu pp false false true false hnb.C)
  have HR1 := Lib.hid (h.off (fb := fb) (by omega) (.int .i64 (fm (pu && false) (pp && true) (false && false))))
  have HT1 : Hid (TR tr r pad (.iface 146 (.pointer (some ⟨fr,0,none⟩))) blk .nilIface (w.setCell ⟨fb,0,none⟩ (.int .i64 (fm (pu && false) (pp && true) (false && false))))) := ⟨NB.offC ht.1 (by omega) _,ht.2⟩
  have HF1 : Hid (FRd fr r nb (w.setCell ⟨fb,0,none⟩ (.int .i64 (fm (pu && false) (pp && true) (false && false))))) := NB.offC hf hff _
  have HH1 := Lib.hid (NB.offC hh hfb (.int .i64 (fm (pu && false) (pp && true) (false && false))))
  have hsz : (w.setCell ⟨fb,0,none⟩ (.int .i64 (fm (pu && false) (pp && true) (false && false)))).heap.size = w.heap.size := by simp [World.setCell]
  have HN1 := Lib.hid hHM
  clear hQ hL hok hb' hnb h hf ht hh hHM
  go_wp2_with fail
  refine HM.out.mono ?_
  rintro e wx ⟨rfl,rfl⟩
  clear HM c0
  generalize w.setCell ⟨fb,0,none⟩ (.int .i64 (fm (pu && false) (pp && true) (false && false))) = w1 at *
  go_wp2_with fail
  refine (parsePAX w1 tr r g n c i nb fr pad blk bs aE L HR1.out HF1.out HT1.out hnbl hin hbig hnc HB'.out HN1.out.S (by omega) (by simp; omega) (by simp; omega) HN1.out.E (by simp; omega) HL.out hn0 HOK.out).mono ?_
  rintro e w2 ⟨mb,rfl,hmb,hsm,hr2,hf2,hF2⟩
  have HN2 := Lib.hid (HN1.out.step hF2 (by simp; omega))
  have HH2 := Lib.hid (hF2.cells HH1.out (by simp; omega) (.inr (by decide)))
  have HT2 := Lib.hid (HT1.out.fr hF2 (by simp; omega))
  have c0 : w2.cell? ⟨hb,0,none⟩ = some (.int .u8 120) := by rw [Lib.cell_of_heap HH2.out,← hty]; rfl
  have hg2 := hF2.size
  have HSM := Lib.hid hsm; have HR2 := Lib.hid hr2; have HF2 := Lib.hid hf2
  clear HN1 HH1 HT1 HR1 HF1 hsm hr2 hf2 hF2 HL HOK HB' hty
  go_wp2_with fail
  refine HQ.out _ _ _ _ _ _ _ _ _ _ _ _ _ _ _ _ _ _ _ _ _ _ _ _ _ _ _ _ _ _ _ _ _ _ _ _ _ _ _ _ _ _ _ _ _ _ _ _ _ _ _ _ _ _ _ _ _ _ _ _ _ _ _ _ _ _ _ _ _ _ _ _ _ _ _ _ _ _ _ _ _ _ _ _ _ _ _ _ _ _ _ _ _ _ _ _ _ _ _ _ _ _ _ _ _ _ _ _ _ _ _ _ _ _ _ _ _ _ _ _ _ _ _ _ _ _ _ _ _ _ _ _ _ _ _ _ _ _ _ _ _ _ _ _ _ _ _ _ _ _ _ _ _ _ _ _ _ _ _ _ _ _ _ _ _ _ _ _ _ _ _ _ _ _ _ _ _ _ _ _ _ _ _ _ _ _ _ _ _ _ _ _ _ _ _ _ _ _ _ mb _ ⟨?_,HR2.out,HT2.out,HF2.out,HSM.out,by omega,by omega⟩
  have := HN2.out
  simpa using this
theorem inBlock_exit {id : Nat} {Q : Exit → Act → World → Prop} {a : Act} {w : World} (h : Q .normal a w) : Exit.inBlock id Q (.exit id) a w := by
  simp only [Exit.inBlock,if_true]; exact h
def NextOut (tr r g n c i : Nat) (B : Blk) (H : Hd) (R : KV) (nb : Int) (w : World) (e : Ending) (w' : World) : Prop :=
  ∃ hb fr,e = .returned (.tuple #[.pointer (some ⟨hb,0,none⟩),.nilIface]) ∧ w'.heap[hb]? = some (.cells H.cells.toArray 130 (0,0)) ∧ RecMap w' H.recs R w'.heap.size ∧ RD r g n c i w' ∧ TR tr r (padOf nb) (.iface 146 (.pointer (some ⟨fr,0,none⟩))) (Lib.byteCells B.bytes) .nilIface w' ∧ FRd fr r nb w' ∧ Fr w.heap.size [r,tr] w w' ∧ w.heap.size ≤ hb ∧ w.heap.size ≤ fr
theorem At.lt {w : World} {g o : Nat} {cs : List Value} (h : At w g o cs) (hc : 0 < cs.length) : g < w.heap.size := block_lt_of_cell (h 0 cs[0] (List.getElem?_eq_getElem hc))
theorem newNB (w : World) (tr r g n : Nat) (bs : List UInt8) (aE : Addr) (hn : 0 < n) (hb' : bs.length = n) (hsrc : At w g 0 (Lib.byteCells bs)) (hE : w.cell? ⟨0,0,none⟩ = some (errV aE)) (hgS : g ∉ [r,tr]) (hE0 : 0 ∉ [r,tr]) (hr : r < w.heap.size) (ht : tr < w.heap.size) :
    NB tr r g w.heap.size true true true bs aE w (w.alloc (.cells #[.int .i64 14] 128)) := by
  have hb : Below w.heap.size w (w.alloc (.cells #[.int .i64 14] 128)) := (Below.refl _ _).alloc (Nat.le_refl _) _
  have f := Fr.of_below hb w.heap.size [r,tr]
  have hgl := hsrc.lt (by rw [Lib.byteCells_length]; omega)
  exact ⟨hsrc.frame f (Nat.le_refl _) hgS,f.cell hE hE0 (block_lt_of_cell hE),heap_alloc_new w _,f,Nat.le_refl _,hgS,hE0,hr,ht,hgl,block_lt_of_cell hE⟩
set_option maxHeartbeats 4000000 in
theorem nextU (w : World) (tr r g n c i fr : Nat) (bs : List UInt8) (blk : List Value) (aE : Addr) (B : Blk) (V : RdV) (nb : Int) (hR : RdF B V) (h : RD r g n c i w) (hf : FRd fr r 0 w) (ht : TR tr r 0 (.iface 146 (.pointer (some ⟨fr,0,none⟩))) blk .nilIface w) (hi : i + 512 ≤ n) (hbig : n < 4611686018427387904) (hnc : n ≤ c)
    (hb' : bs.length = n) (hsrc : At w g 0 (Lib.byteCells bs)) (hgS : g ∉ [r,tr]) (hB : (bs.drop i).take 512 = B.bytes) (hE : w.cell? ⟨0,0,none⟩ = some (errV aE)) (hE0 : 0 ∉ [r,tr]) (hty : 48 ≤ rdTyp B ∧ rdTyp B ≤ 55) (hnbv : nb = if hdrOnly (rdHd B V).typ then 0 else (rdHd B V).size) (h0 : 0 ≤ nb) (h1 : nb ≤ 9223372036854775807) :
    Calls Tryz.prog 72 #[.pointer (some ⟨tr,0,none⟩)] w (NextOut tr r g n c (i + 512) B { rdHd B V with fmt := 2 } (fun _ => none) nb w) := by
  have hrl : r < w.heap.size := by obtain ⟨p,hr⟩ := h; exact lt_of_heap hr
  have hNB := newNB w tr r g n bs aE (by omega) hb' hsrc hE hgS hE0 hrl (lt_of_heap ht.1)
  have hbw : Below w.heap.size w (w.alloc (.cells #[.int .i64 14] 128)) := (Below.refl _ _).alloc (Nat.le_refl _) _
  have hsz : (w.alloc (.cells #[.int .i64 14] 128)).heap.size = w.heap.size + 1 := Array.size_push ..
  have HN := Lib.hid hNB; have HR := Lib.hid (h.below hbw); have HT := Lib.hid (ht.below hbw); have HF : Hid (FRd fr r 0 (w.alloc (.cells #[.int .i64 14] 128))) := Lib.hid ((hbw.block fr (lt_of_heap hf)).trans hf)
  have HRF := Lib.hid hR; have HB := Lib.hid hB; have HB' := Lib.hid hb'; have HNBV := Lib.hid hnbv; have HSZ := Lib.hid hsz
  clear hNB hbw hsz h hf ht hsrc hE hR hB hb' hnbv hrl
  go_enter Tryz.func72,Tryz.ntmps72
  go_upto_region 3 with fail
  rename_i K1 hK1
  have HK1 := Lib.hid hK1
  clear hK1
  go_wp2_with fail
  refine HK1.out _ _ ?_
  refine wp_block ?_
  refine wp_loop_once ?_
  refine wp_block ?_
  refine rd1 tr r g n c i 0 w.heap.size fr true true true bs aE B V nb blk w _ HRF.out HN.out HR.out HF.out HT.out (by omega) (by omega) hbig hnc HB'.out HB.out HNBV.out h0 h1 (by rw [HSZ.out]; omega) _ ?_
  intros
  rename_i hb fr7 w7 h7
  refine rdTU tr r g n c _ w.heap.size hb _ _ _ bs aE (rdHd B V) (rdHd B V) (.map none) (fun _ => none) nb w w7 h7.nbx h7.R h7.T h7.H h7.hb0 ?_ hty rfl (.inl ⟨rfl,fun _ => rfl⟩) rfl rfl rfl HNBV.out h0 h1 _ ?_
  · exact mergeNil w7 hb (rdHd B V) ⟨none,none,none,none,none,none,none,none,none,none⟩ h7.H
  · intros
    rename_i fr9 w9 h9
    go_ret2
    exact ⟨hb,fr9,rfl,h9.Hh,h9.M,h9.Rd,h9.T,h9.F,h9.nbx.G,h9.hb0,h9.fr0⟩
set_option maxHeartbeats 4000000 in
theorem nextP (w : World) (tr r g n c i fr nx pad : Nat) (bs : List UInt8) (blk : List Value) (aE : Addr) (Bx B : Blk) (Vx V : RdV) (L : List (List UInt8 × List UInt8)) (P : Pax) (nb : Int) (hRx : RdF Bx Vx) (hR : RdF B V) (h : RD r g n c i w) (hf : FRd fr r 0 w) (ht : TR tr r 0 (.iface 146 (.pointer (some ⟨fr,0,none⟩))) blk .nilIface w) (hi : i + 512 + nx + pad + 512 ≤ n) (hp : pad < 512) (hpv : padOf nx = pad) (hbig : n < 4611686018427387904) (hnc : n ≤ c)
    (hb' : bs.length = n) (hsrc : At w g 0 (Lib.byteCells bs)) (hgS : g ∉ [r,tr]) (hBx : (bs.drop i).take 512 = Bx.bytes) (hL : (bs.drop (i + 512)).take nx = recsB L) (hB : (bs.drop (i + 512 + nx + pad)).take 512 = B.bytes) (hE : w.cell? ⟨0,0,none⟩ = some (errV aE)) (hE0 : 0 ∉ [r,tr]) (htx : rdTyp Bx = 120) (hsx : Vx.size = nx) (hn0 : 0 < nx) (hnx : nx ≤ 1048576) (hok : RecsOk L) (hmo : MOk (putAll (fun _ => none) L) P)
    (k1 : putAll (fun _ => none) L kMajor = none) (k2 : putAll (fun _ => none) L kMinor = none) (k3 : putAll (fun _ => none) L kMap = none)
    (hty : 48 ≤ rdTyp B ∧ rdTyp B ≤ 55) (H2 : Hd) (hH2 : H2 = mrg (rdHd B V) P (fun k => (putAll (fun _ => none) L k).isSome)) (nb1 : Int) (hnb1 : nb1 = if hdrOnly (rdHd B V).typ then 0 else (rdHd B V).size) (h01 : 0 ≤ nb1) (h11 : nb1 ≤ 9223372036854775807) (hnbv : nb = if hdrOnly H2.typ then 0 else H2.size) (h0 : 0 ≤ nb) (h1 : nb ≤ 9223372036854775807) :
    Calls Tryz.prog 72 #[.pointer (some ⟨tr,0,none⟩)] w fun e w' => ∃ mb,NextOut tr r g n c (i + 512 + nx + pad + 512) B { H2 with recs := .map (some mb),fmt := 4 } (putAll (fun _ => none) L) nb w e w' := by
  have hrl : r < w.heap.size := by obtain ⟨p,hr⟩ := h; exact lt_of_heap hr
  have hNB := newNB w tr r g n bs aE (by omega) hb' hsrc hE hgS hE0 hrl (lt_of_heap ht.1)
  have hbw : Below w.heap.size w (w.alloc (.cells #[.int .i64 14] 128)) := (Below.refl _ _).alloc (Nat.le_refl _) _
  have hsz : (w.alloc (.cells #[.int .i64 14] 128)).heap.size = w.heap.size + 1 := Array.size_push ..
  have hLl : L.length ≤ 4294967296 := by
    have h1 := recsB_len L hok
    have h2 : (recsB L).length ≤ nx := by rw [← hL,List.length_take]; omega
    omega
  have hnx1 : (nx : Int) = if hdrOnly (rdHd Bx Vx).typ then 0 else (rdHd Bx Vx).size := by
    show (nx : Int) = if hdrOnly (rdTyp Bx) then 0 else (Vx.size : Int)
    rw [htx,hsx]; rfl
  have HN := Lib.hid hNB; have HR := Lib.hid (h.below hbw); have HT := Lib.hid (ht.below hbw); have HF : Hid (FRd fr r 0 (w.alloc (.cells #[.int .i64 14] 128))) := Lib.hid ((hbw.block fr (lt_of_heap hf)).trans hf)
  have HRF := Lib.hid hR; have HRX := Lib.hid hRx; have HB := Lib.hid hB; have HBX := Lib.hid hBx; have HB' := Lib.hid hb'; have HNBV := Lib.hid hnbv; have HNB1 := Lib.hid hnb1; have HSZ := Lib.hid hsz; have HNX := Lib.hid hnx1; have HL := Lib.hid hL; have HMO := Lib.hid hmo; have HOK := Lib.hid hok; have HH2 := Lib.hid hH2; have HPV := Lib.hid hpv; have HTX := Lib.hid htx
  have KM1 := Lib.hid k1; have KM2 := Lib.hid k2; have KM3 := Lib.hid k3
  clear hNB hbw hsz h hf ht hsrc hE hR hRx hB hBx hb' hnbv hnb1 hnx1 hrl hL hmo hok hH2 hpv htx k1 k2 k3 hsx
  go_enter Tryz.func72,Tryz.ntmps72
  go_upto_region 3 with fail
  rename_i K1 hK1
  have HK1 := Lib.hid hK1
  clear hK1
  go_wp2_with fail
  refine HK1.out _ _ ?_
  refine wp_block ?_
  refine wp_loop_rounds 2 ?_
  rw [rounds_succ]
  refine wp_block ?_
  refine rd1 tr r g n c i 0 w.heap.size fr true true true bs aE Bx Vx nx blk w _ HRX.out HN.out HR.out HF.out HT.out (by omega) (by omega) hbig hnc HB'.out HBX.out HNX.out (by omega) (by omega) (by rw [HSZ.out]; omega) _ ?_
  intros
  rename_i hbx frx wx hx
  refine rdX tr r g n c _ w.heap.size hbx frx nx _ true true _ bs aE (rdHd Bx Vx) L w wx hx.nbx hx.R hx.F hx.T hx.H hx.hb0 hx.fr0 HTX.out hnx (by omega) hbig hnc HB'.out HL.out hn0 HOK.out _ ?_
  intros
  rename_i mb wy hy
  refine inBlock_exit ?_
  show Code.rounds _ _ _ 1 _ _
  rw [rounds_succ]
  refine wp_block ?_
  have HTy := Lib.hid hy.T
  rw [HPV.out] at HTy
  refine rd1 tr r g n c (i + 512 + nx) pad w.heap.size frx false true false bs aE B V nb1 _ w wy HRF.out hy.nbx hy.Rd hy.F HTy.out (by omega) hp hbig hnc HB'.out HB.out HNB1.out h01 h11 hy.lfb _ ?_
  intros
  rename_i hb fr7 w7 h7
  have hrm : RecMap w7 (.map (some mb)) (putAll (fun _ => none) L) w7.heap.size := by
    have h0 : RecMap wy (.map (some mb)) (putAll (fun _ => none) L) wy.heap.size := .inr ⟨mb,L.length,rfl,hy.M.lt,hy.M,hLl⟩
    refine h0.fr h7.fw (fun q hq es cl e => ?_)
    simp at hq
    rcases hq with rfl | rfl | rfl
    · obtain ⟨p,hr⟩ := hy.Rd; rw [hr] at e; cases e
    · rw [hy.T.1] at e; cases e
    · rw [hy.nbx.C] at e; cases e
  have hsm : SMap w7 mb L.length (putAll (fun _ => none) L) := by
    refine hy.M.fr h7.fw (fun hm => ?_)
    obtain ⟨D,⟨es,cl,e,_⟩,_⟩ := hy.M
    simp at hm
    rcases hm with rfl | rfl | rfl
    · obtain ⟨p,hr⟩ := hy.Rd; rw [hr] at e; cases e
    · rw [hy.T.1] at e; cases e
    · rw [hy.nbx.C] at e; cases e
  refine rdTP tr r g n c _ w.heap.size hb _ _ _ bs aE (rdHd B V) { H2 with recs := .map (some mb) } (.map (some mb)) (putAll (fun _ => none) L) nb w w7 h7.nbx h7.R h7.T h7.H h7.hb0 ?_ hty ?_ hrm KM1.out KM2.out KM3.out HNBV.out h0 h1 _ ?_
  · rw [HH2.out]
    exact mergePAX w7 hb mb L.length (rdHd B V) _ P h7.H hsm HMO.out
  · show H2.typ = _
    rw [HH2.out]; rfl
  · intros
    rename_i fr9 w9 h9
    go_ret2
    exact ⟨mb,hb,fr9,rfl,h9.Hh,h9.M,h9.Rd,h9.T,h9.F,h9.nbx.G,h9.hb0,h9.fr0⟩
end Go.Proofs.YtkanmkcojlefbaaGreatDoor
