/-
  Part of the proof; holds the texts AllowB, AllowCF, AllowCT.
-/
import Derived.Test.YtkanmkcojlefbaaGreatDoorM17
set_option maxRecDepth 100000
set_option linter.unusedSimpArgs false
set_option linter.unusedVariables false
namespace Go.Proofs.YtkanmkcojlefbaaGreatDoor
open Go.RowKit
variable {c0 c5 c6 c7 c9 c10 c11 c12 c13 c14 c15 c16 c17 c18 c19 c20 c21 c22 c23 c24 c25 c26 c27 c28 c29 c30 c31 c32 c33 c34 c35 c36 c37 c38 c39 c40 c41 c42 c43 c44 c45 c46 c47 c48 c49 c50 c51 c52 c53 c54 c55 c56 c57 c58 c59 c60 c61 c62 c63 c64 c65 c66 c67 c68 c69 c70 c71 c72 c73 c74 c75 c76 c77 c78 c79 c80 c81 c82 c83 c84 c85 c86 c87 c88 c89 c90 c91 c92 c93 c94 c95 c96 c97 c98 c99 c100 c101 c102 c103 c104 c105 c106 c107 c108 c109 c110 c111 c112 c113 c114 c115 c116 c117 c118 c119 c120 c121 c122 c123 c124 c125 c126 c127 c128 c129 c130 c131 c132 c133 c134 c135 c136 c137 c138 c139 c140 c141 c142 c143 c144 c145 c146 c147 c148 c149 c150 c151 c152 c153 c154 c155 c156 c157 c158 c159 c160 c161 c162 c163 c164 c165 c166 c167 c168 c169 c170 c171 c172 c173 c174 c175 c176 c177 c178 c179 c180 c181 c182 c183 c184 c185 c186 c187 c188 c189 c190 c191 c192 c193 c194 c195 c196 c197 c198 c199 c200 c201 c202 c203 c204 c205 c206 c207 c208 c209 c210 c211 c212 c213 c214 c215 c216 c217 c218 c219 c220 c221 c222 c223 c224 c225 c226 c227 c228 c229 c230 c231 c232 c233 c234 c235 c236 c237 c238 c239 c240 c241 c242 c243 c244 c245 c246 c247 c248 c249 c250 c251 c252 c253 c254 c255 c256 c257 c258 c259 c260 c261 c262 c263 c264 c265 c266 c267 c268 c269 c270 c271 c272 c273 c274 c275 c276 c277 c278 c279 c280 c281 c282 c283 c284 c285 c286 c287 c288 c289 c290 c291 c292 : Value}
set_option maxHeartbeats 8000000 in
theorem allow_restB (G0 : Nat) (E : Nat → Addr) (b0 : Nat) (H : Hd) (R : KV) (u2 p g2 q : Bool) (M : KV) (n2 : Nat) (w w2 : World) (hb0 : w.heap.size = b0)
    (hval : ∀ k v,M k = some v → validRec k v = true ∧ k.length ≤ 2305843009213693952 ∧ v.length ≤ 2305843009213693952)
    (hfmt : H.fmt = 0 ∨ H.fmt = 2 ∨ H.fmt = 4 ∨ H.fmt = 8) (hne : fm (finF u2 p g2 q H.fmt).1 (finF u2 p g2 q H.fmt).2.1 (finF u2 p g2 q H.fmt).2.2 ≠ 0)
    (hA2 : AF G0 E b0 H R u2 p g2 q M n2 w2) (hn2 : n2 ≤ 4294967400) (hbl2 : Below b0 w w2) :
    Code.wp Tryz.prog restB (bodyPost Tryz.prog Tryz.f65 (AllowOut G0 E (finF u2 p g2 q H.fmt) M w)) ⟨(c0::.pointer (some ⟨b0,0,none⟩)::.pointer (some ⟨b0 + 1,0,none⟩)::.pointer (some ⟨b0 + 2,0,none⟩)::.nilIface::c5::c6::c7::.pointer (some ⟨b0 + 7,0,none⟩)::c9::c10::c11::c12::c13::c14::c15::c16::c17::c18::c19::c20::c21::c22::c23::c24::c25::c26::c27::c28::c29::c30::c31::c32::c33::c34::c35::c36::c37::c38::c39::c40::c41::c42::c43::c44::c45::c46::c47::c48::c49::c50::c51::c52::c53::c54::c55::c56::c57::c58::c59::c60::c61::c62::c63::c64::c65::c66::c67::c68::c69::c70::c71::c72::c73::c74::c75::c76::c77::c78::c79::c80::c81::c82::c83::c84::c85::c86::c87::c88::c89::c90::c91::c92::c93::c94::c95::c96::c97::c98::c99::c100::c101::c102::c103::c104::c105::c106::c107::c108::c109::c110::c111::c112::c113::c114::c115::c116::c117::c118::c119::c120::c121::c122::c123::c124::c125::c126::c127::c128::c129::c130::c131::c132::c133::c134::c135::c136::c137::c138::c139::c140::c141::c142::c143::c144::c145::c146::c147::c148::c149::c150::c151::c152::c153::c154::c155::c156::c157::c158::c159::c160::c161::c162::c163::c164::c165::c166::c167::c168::c169::c170::c171::c172::c173::c174::c175::c176::c177::c178::c179::c180::c181::c182::c183::c184::c185::c186::c187::c188::c189::c190::c191::c192::c193::c194::c195::c196::c197::c198::c199::c200::c201::c202::c203::c204::c205::c206::c207::c208::c209::c210::c211::c212::c213::c214::c215::c216::c217::c218::c219::c220::c221::c222::c223::c224::c225::c226::c227::c228::c229::c230::c231::c232::c233::c234::c235::c236::c237::c238::c239::c240::c241::c242::c243::c244::c245::c246::c247::c248::c249::c250::c251::c252::c253::c254::c255::c256::c257::c258::c259::c260::c261::c262::c263::c264::c265::c266::c267::c268::c269::c270::c271::c272::c273::c274::c275::c276::c277::c278::c279::c280::c281::c282::c283::c284::c285::c286::c287::c288::c289::c290::c291::c292::[]).toArray,[]⟩ w2 := by
  conv => arg 2; whnf
  have HBZ := Lib.hid hb0; have HVAL := Lib.hid hval; have HFM := Lib.hid hfmt; have HNE := Lib.hid hne
  clear hb0 hval hfmt hne
  have c3 : w2.cell? ⟨b0 + 2,0,none⟩ = some (.map (some (b0 + 3))) := by rw [Lib.cell_of_heap hA2.fM]; rfl
  have hmp := hA2.mp
  have HA2 := Lib.hid hA2
  have hlt7 := hA2.lt
  clear hA2
  go_wp2_with (at_range; refine wpList_range_s _ rfl _ rfl (b0 + 3) n2 M rfl hmp ?_; intro w0 cnt0 hrg0 hcn hg0 hs0)
  go_frame
  have HR1 : Hid (ValLoop G0 E b0 H R u2 p g2 q M n2 w2.heap.size w2 w0) := Lib.hid ⟨_,cnt0,hrg0,HA2.out.other (j := w2.heap.size) (grown_fr (hg0.but (some w2.heap.size)) _) (by omega),Fr.below_of (grown_fr (hg0.but (some w2.heap.size)) w2.heap.size) (by omega) (by simp; omega)⟩
  clear hrg0 hcn hg0 hs0 c3 hmp
  have HBL2 := Lib.hid hbl2
  clear hbl2
  obtain ⟨r1,hr1⟩ : ∃ r1,r1 = w2.heap.size := ⟨_,rfl⟩
  rw [← hr1] at HR1 hlt7 ⊢
  have HR0 := Lib.hid hr1
  clear hr1
  go_loopw [4,25] (fun s4 _ wr => s4 = .nilIface ∧ Hid (ValLoop G0 E b0 H R u2 p g2 q M n2 r1 w2 wr)) (fun _ _ wr => wr.rangeLeft (b0 + 3) r1)
  case atStart => exact ⟨rfl,HR1⟩
  case round =>
    obtain ⟨rfl,hrel⟩ := hrel
    obtain ⟨todo,cnt,hrg,hAF,hbl⟩ := hrel.out
    have HAF := Lib.hid hAF; have HBL := Lib.hid hbl; have HRG := Lib.hid hrg
    clear hrel hAF hbl
    go_wp2_with (at_next; refine wpList_next_s _ rfl _ rfl (b0 + 3) r1 n2 M todo cnt rfl hrg ?_ ?_)
    · intro hc0 htd
      clear hrg hc0 htd HRG
      have hF := HAF.out.fF
      have hQ := HAF.out.pr
      have cf := HAF.out.hd 19 (.int .i64 H.fmt) rfl
      have h8 := lt_of_heap hQ
      go_upto_if 250 with fail
      have hA0 := HAF.out.below ((Below.refl _ wr).alloc (Nat.le_refl _) (.cells #[.int .i64 H.fmt] 128))
      have hfb := heap_alloc_new wr (.cells #[.int .i64 H.fmt] 128)
      have hB0 : Below b0 wr (wr.alloc (.cells #[.int .i64 H.fmt] 128)) := (Below.refl b0 wr).alloc (by omega) _
      generalize wr.alloc (.cells #[.int .i64 H.fmt] 128) = W at *
      generalize hfbn : wr.heap.size = fb at *
      generalize hff : finF u2 p g2 q H.fmt = ff at *
      generalize hx : H.fmt = x at *
      have HA0 := Lib.hid hA0; have HB0 := Lib.hid hB0; have HFF := Lib.hid hff; have HX := Lib.hid hx; have HFBN := Lib.hid hfbn
      have hF0 := hA0.fF
      have hQ0 : W.cell? ⟨b0 + 7,0,none⟩ = some (.bool q) := by rw [Lib.cell_of_heap hA0.pr]; rfl
      have c27 : W.cell? ⟨fb,0,none⟩ = some (.int .i64 x) := by rw [Lib.cell_of_heap hfb]; rfl
      have hne1 : fb ≠ b0 + 1 := by omega
      have hne7 : fb ≠ b0 + 7 := by omega
      have hfw : fb < W.heap.size := lt_of_heap hfb
      clear hA0 hB0 hff hx hF hQ cf hfbn
      go_cut [] (fun wx => AF G0 E b0 H R ff.1 ff.2.1 ff.2.2 q M n2 wx ∧ Below b0 wr wx)
      case first =>
        rcases HFM.out with rfl | rfl | rfl | rfl
        · clear hF0
          go_wp2_with fail
          go_meet
          refine ⟨?_,HB0.out⟩
          have e := HFF.out
          simp only [finF,if_true] at e
          rw [← e]
          exact HA0.out
        · have hh : Calls Tryz.prog 66 #[.int .i64 2,.int .i64 4] W (RetSame W (.bool false)) := hasF W true false false false true false
          have hm : Calls Tryz.prog 123 #[.pointer (some ⟨b0 + 1,0,none⟩),.int .i64 2] W (RetSame (W.setCell ⟨b0 + 1,0,none⟩ (.int .i64 (fm u2 false false))) (.tuple #[])) := by
            have := mayOnlyBe W (b0 + 1) u2 p g2 true false false hF0
            rw [Bool.and_true,Bool.and_false,Bool.and_false] at this
            exact this
          have hA3 := HA0.out.setF u2 false false
          have HA3 := Lib.hid hA3
          clear hF0 hA3
          go_wp2_with (first | (go_at_call 66; refine hh.mono ?_; rintro e w' ⟨rfl,rfl⟩) | (go_at_call 123; refine hm.mono ?_; rintro e w' ⟨rfl,rfl⟩))
          go_meet
          refine ⟨?_,HB0.out.setCell (p := ⟨b0 + 1,0,none⟩) (by simp) _⟩
          have e : finF u2 p g2 q 2 = ff := HFF.out
          rw [show finF u2 p g2 q 2 = (u2,false,false) from rfl] at e
          rw [← e]
          exact HA3.out
        · have hh : Calls Tryz.prog 66 #[.int .i64 4,.int .i64 4] W (RetSame W (.bool true)) := hasF W false true false false true false
          have e : finF u2 p g2 q 4 = ff := HFF.out
          rw [show finF u2 p g2 q 4 = (u2 && !q,p,false) from rfl] at e
          have HE := Lib.hid e
          clear e
          cases q
          · have hb : Calls Tryz.prog 127 #[.pointer (some ⟨fb,0,none⟩),.int .i64 2] W (RetSame (W.setCell ⟨fb,0,none⟩ (.int .i64 6)) (.tuple #[])) := mayBe W fb false true false true false false hfb
            have hA4 := HA0.out.other (j := fb) ((Fr.refl W.heap.size [fb] W).setCell (p := ⟨fb,0,none⟩) (.inl (by simp)) (.int .i64 6)) (by omega)
            have c28 : (W.setCell ⟨fb,0,none⟩ (.int .i64 6)).cell? ⟨fb,0,none⟩ = some (.int .i64 6) := by
              rw [Lib.cell_of_heap (heap_set_same _ hfb)]; rfl
            have hm : Calls Tryz.prog 123 #[.pointer (some ⟨b0 + 1,0,none⟩),.int .i64 6] (W.setCell ⟨fb,0,none⟩ (.int .i64 6)) (RetSame ((W.setCell ⟨fb,0,none⟩ (.int .i64 6)).setCell ⟨b0 + 1,0,none⟩ (.int .i64 (fm u2 p false))) (.tuple #[])) := by
              have := mayOnlyBe _ (b0 + 1) u2 p g2 true true false hA4.fF
              rw [Bool.and_true,Bool.and_true,Bool.and_false] at this
              exact this
            have hA3 := hA4.setF u2 p false
            have HA3 := Lib.hid hA3
            clear hF0 hA3 hA4
            go_wp2_with (first | (go_at_call 66; refine hh.mono ?_; rintro e w' ⟨rfl,rfl⟩) | (go_at_call 127; refine hb.mono ?_; rintro e w' ⟨rfl,rfl⟩) | (go_at_call 123; refine hm.mono ?_; rintro e w' ⟨rfl,rfl⟩))
            go_meet
            refine ⟨?_,(HB0.out.setCell (p := ⟨fb,0,none⟩) (by show b0 ≤ fb; omega) _).setCell (p := ⟨b0 + 1,0,none⟩) (by simp) _⟩
            have e := HE.out
            rw [Bool.not_false,Bool.and_true] at e
            rw [← e]
            exact HA3.out
          · have hm : Calls Tryz.prog 123 #[.pointer (some ⟨b0 + 1,0,none⟩),.int .i64 4] W (RetSame (W.setCell ⟨b0 + 1,0,none⟩ (.int .i64 (fm false p false))) (.tuple #[])) := by
              have := mayOnlyBe W (b0 + 1) u2 p g2 false true false hF0
              rw [Bool.and_true,Bool.and_false,Bool.and_false] at this
              exact this
            have hA3 := HA0.out.setF false p false
            have HA3 := Lib.hid hA3
            clear hF0 hA3
            go_wp2_with (first | (go_at_call 66; refine hh.mono ?_; rintro e w' ⟨rfl,rfl⟩) | (go_at_call 123; refine hm.mono ?_; rintro e w' ⟨rfl,rfl⟩))
            go_meet
            refine ⟨?_,HB0.out.setCell (p := ⟨b0 + 1,0,none⟩) (by simp) _⟩
            have e := HE.out
            rw [Bool.not_true,Bool.and_false] at e
            rw [← e]
            exact HA3.out
        · have hh : Calls Tryz.prog 66 #[.int .i64 8,.int .i64 4] W (RetSame W (.bool false)) := hasF W false false true false true false
          have hm : Calls Tryz.prog 123 #[.pointer (some ⟨b0 + 1,0,none⟩),.int .i64 8] W (RetSame (W.setCell ⟨b0 + 1,0,none⟩ (.int .i64 (fm false false g2))) (.tuple #[])) := by
            have := mayOnlyBe W (b0 + 1) u2 p g2 false false true hF0
            rw [Bool.and_true,Bool.and_false,Bool.and_false] at this
            exact this
          have hA3 := HA0.out.setF false false g2
          have HA3 := Lib.hid hA3
          clear hF0 hA3
          go_wp2_with (first | (go_at_call 66; refine hh.mono ?_; rintro e w' ⟨rfl,rfl⟩) | (go_at_call 123; refine hm.mono ?_; rintro e w' ⟨rfl,rfl⟩))
          go_meet
          refine ⟨?_,HB0.out.setCell (p := ⟨b0 + 1,0,none⟩) (by simp) _⟩
          have e : finF u2 p g2 q 8 = ff := HFF.out
          rw [show finF u2 p g2 q 8 = (false,false,g2) from rfl] at e
          rw [← e]
          exact HA3.out
      case rest =>
        obtain ⟨hA9,hb9⟩ := hcut
        clear hfb hF0 hQ0 c27 hne1 hne7 hfw HA0 HB0 HFF HAF
        obtain ⟨w9,rfl⟩ : ∃ w9 : World,w9 = wc := ⟨_,rfl⟩
        have hz9 : (fm ff.1 ff.2.1 ff.2.2 == 0) = false := by rw [beq_eq_false_iff_ne]; exact HNE.out
        have c2 : w9.cell? ⟨b0 + 1,0,none⟩ = some (.int .i64 (fm ff.1 ff.2.1 ff.2.2)) := by rw [Lib.cell_of_heap hA9.fF]; rfl
        have c3 : w9.cell? ⟨b0 + 2,0,none⟩ = some (.map (some (b0 + 3))) := by rw [Lib.cell_of_heap hA9.fM]; rfl
        have z2 : w9.frozen? ⟨b0 + 1,0,none⟩ = false := Lib.frozen_of_heap hA9.fF 0
        have z3 : w9.frozen? ⟨b0 + 2,0,none⟩ = false := Lib.frozen_of_heap hA9.fM 0
        have HA9 := Lib.hid hA9; have HB9 := Lib.hid hb9
        generalize hfv : fm ff.1 ff.2.1 ff.2.2 = fv at *
        have HFV := Lib.hid hfv
        clear hA9 hb9 hfv
        go_wp2_with fail
        go_region
        go_wp2_with fail
        have hA9 := HA9.out
        have h1 := heap_set_same (i := 0) (.int .i64 fv) hA9.fF
        have h1b := (heap_set_other (w := w9.setCell ⟨b0 + 1,0,none⟩ (.int .i64 fv)) (a := ⟨b0 + 2,0,none⟩) (k := b0 + 1) (.map (some (b0 + 3))) (by show b0 + 1 ≠ b0 + 2; omega)).trans h1
        have h2 := (heap_set_other (w := w9) (a := ⟨b0 + 1,0,none⟩) (k := b0 + 2) (.int .i64 fv) (by show b0 + 2 ≠ b0 + 1; omega)).trans hA9.fM
        have h2b := heap_set_same (i := 0) (.map (some (b0 + 3))) h2
        have F9 : Fr b0 [b0 + 1,b0 + 2] w9 ((w9.setCell ⟨b0 + 1,0,none⟩ (.int .i64 fv)).setCell ⟨b0 + 2,0,none⟩ (.map (some (b0 + 3)))).drew := (((Fr.refl _ _ w9).setCell (p := ⟨b0 + 1,0,none⟩) (.inl (by simp)) _).setCell (p := ⟨b0 + 2,0,none⟩) (.inl (by simp)) _).drew
        have hle := hA9.le
        refine bodyPost_ret (results_cct rfl _ _ ⟨b0 + 1,0,none⟩ ⟨b0 + 2,0,none⟩ (.int .i64 fv) (.map (some (b0 + 3))) rfl rfl ?_ ?_) rfl ⟨b0 + 3,n2,?_,?_,?_,?_,?_,?_⟩
        · exact (Lib.cell_of_heap h1b 0).trans rfl
        · exact (Lib.cell_of_heap h2b 0).trans rfl
        · rw [HFV.out]; rfl
        · exact hA9.mp.fr F9 (by simp)
        · omega
        · rw [HBZ.out]; omega
        · exact hA9.gl.fr F9 hle (by simp; omega)
        · rw [HBZ.out]
          exact (((HBL2.out.trans (HBL.out.trans HB9.out)).setCell (p := ⟨b0 + 1,0,none⟩) (by simp) _).setCell (p := ⟨b0 + 2,0,none⟩) (by simp) _).drew
    · intro k v w1 cnt1 hkl hvl htk hMk hrg1 hlt hf1 hs1 hen
      have hA1 := HAF.out.other hf1 hlt7
      have hb1 : Below b0 wr w1 := Fr.below_of hf1 (by have := HAF.out.lt; omega) (by simp; omega)
      obtain ⟨hv1,hv2,hv3⟩ := HVAL.out k v hMk
      have hvc := validRec_calls w1 k v hv2 hv3 hv1
      have HA1 := Lib.hid hA1; have HRG1 := Lib.hid hrg1; have HB1 := Lib.hid hb1; have HLT := Lib.hid hlt
      clear hrg hA1 hrg1 hb1 hlt hv1 hf1 htk hMk hs1
      go_wp2_with (go_at_call 126; refine hvc.mono ?_; rintro e w' ⟨rfl,rfl⟩)
      go_roundw
      case rel => exact ⟨rfl,Lib.hid ⟨_,cnt1,HRG1.out,HA1.out,HBL.out.trans HB1.out⟩⟩
      case measure => rw [HRG1.out.left_eq,HRG.out.left_eq]; exact HLT.out
end Go.Proofs.YtkanmkcojlefbaaGreatDoor
namespace Go.Proofs.YtkanmkcojlefbaaGreatDoor
open Go.RowKit
variable {c0 c5 c6 c7 c9 c10 c11 c12 c13 c14 c15 c16 c17 c18 c19 c20 c21 c22 c23 c24 c25 c26 c27 c28 c29 c30 c31 c32 c33 c34 c35 c36 c37 c38 c39 c40 c41 c42 c43 c44 c45 c46 c47 c48 c49 c50 c51 c52 c53 c54 c55 c56 c57 c58 c59 c60 c61 c62 c63 c64 c65 c66 c67 c68 c69 c70 c71 c72 c73 c74 c75 c76 c77 c78 c79 c80 c81 c82 c83 c84 c85 c86 c87 c88 c89 c90 c91 c92 c93 c94 c95 c96 c97 c98 c99 c100 c101 c102 c103 c104 c105 c106 c107 c108 c109 c110 c111 c112 c113 c114 c115 c116 c117 c118 c119 c120 c121 c122 c123 c124 c125 c126 c127 c128 c129 c130 c131 c132 c133 c134 c135 c136 c137 c138 c139 c140 c141 c142 c143 c144 c145 c146 c147 c148 c149 c150 c151 c152 c153 c154 c155 c156 c157 c158 c159 c160 c161 c162 c163 c164 c165 c166 c167 c168 c169 c170 c171 c172 c173 c174 c175 c176 c177 c178 c179 c180 c181 c182 c183 c184 c185 c186 c187 c188 c189 c190 c191 c192 c193 c194 c195 c196 c197 c198 c199 c200 c201 c202 c203 c204 c205 c206 c207 c208 c209 c210 c211 c212 c213 c214 c215 c216 c217 c218 c219 c220 c221 c222 c223 c224 c225 c226 c227 c228 c229 c230 c231 c232 c233 c234 c235 c236 c237 c238 c239 c240 c241 c242 c243 c244 c245 c246 c247 c248 c249 c250 c251 c252 c253 c254 c255 c256 c257 c258 c259 c260 c261 c262 c263 c264 c265 c266 c267 c268 c269 c270 c271 c272 c273 c274 c275 c276 c277 c278 c279 c280 c281 c282 c283 c284 c285 c286 c287 c288 c289 c290 c291 c292 : Value}
set_option maxHeartbeats 8000000 in
theorem allow_restCf (G0 : Nat) (E : Nat → Addr) (b0 : Nat) (H : Hd) (R : KV) (S : St) (w wc : World) (hb0 : w.heap.size = b0) (hxa : H.xattr = .map none)
    (hval : ∀ k v,recM S.m R H.typ k = some v → validRec k v = true ∧ k.length ≤ 2305843009213693952 ∧ v.length ≤ 2305843009213693952)
    (hh0 : ∀ k,R k = none) (hfmt : H.fmt = 0 ∨ H.fmt = 2 ∨ H.fmt = 4 ∨ H.fmt = 8)
    (hne : fm (finF (S.u && !false) S.p (S.g && !false) S.q H.fmt).1 (finF (S.u && !false) S.p (S.g && !false) S.q H.fmt).2.1 (finF (S.u && !false) S.p (S.g && !false) S.q H.fmt).2.2 ≠ 0)
    (hA : AFS G0 E b0 H R S 26 wc) (hB : Below b0 w wc) :
    Code.wp Tryz.prog restC (bodyPost Tryz.prog Tryz.f65 (AllowOut G0 E (finF (S.u && !false) S.p (S.g && !false) S.q H.fmt) (recM S.m R H.typ) w)) ⟨(c0::.pointer (some ⟨b0,0,none⟩)::.pointer (some ⟨b0 + 1,0,none⟩)::.pointer (some ⟨b0 + 2,0,none⟩)::.nilIface::c5::c6::c7::.pointer (some ⟨b0 + 7,0,none⟩)::c9::c10::c11::c12::c13::c14::c15::c16::c17::c18::c19::c20::c21::c22::c23::c24::c25::c26::c27::c28::c29::c30::c31::c32::c33::c34::c35::c36::c37::c38::c39::c40::c41::c42::c43::c44::c45::c46::c47::c48::c49::c50::c51::c52::c53::c54::c55::c56::c57::c58::c59::c60::c61::c62::c63::c64::c65::c66::c67::c68::c69::c70::c71::c72::c73::c74::c75::c76::c77::c78::c79::c80::c81::c82::c83::c84::c85::c86::c87::c88::c89::c90::c91::c92::c93::c94::c95::c96::c97::c98::c99::c100::c101::c102::c103::c104::c105::c106::c107::c108::c109::c110::c111::c112::c113::c114::c115::c116::c117::c118::c119::c120::c121::c122::c123::c124::c125::c126::c127::c128::c129::c130::c131::c132::c133::c134::c135::c136::c137::c138::c139::c140::c141::c142::c143::c144::c145::c146::c147::c148::c149::c150::c151::c152::c153::c154::c155::c156::c157::c158::c159::c160::c161::c162::c163::c164::c165::c166::c167::c168::c169::c170::c171::c172::c173::c174::c175::c176::c177::c178::c179::c180::c181::c182::c183::c184::c185::c186::c187::c188::c189::c190::c191::c192::c193::c194::c195::c196::c197::c198::c199::c200::c201::c202::c203::c204::c205::c206::c207::c208::c209::c210::c211::c212::c213::c214::c215::c216::c217::c218::c219::c220::c221::c222::c223::c224::c225::c226::c227::c228::c229::c230::c231::c232::c233::c234::c235::c236::c237::c238::c239::c240::c241::c242::c243::c244::c245::c246::c247::c248::c249::c250::c251::c252::c253::c254::c255::c256::c257::c258::c259::c260::c261::c262::c263::c264::c265::c266::c267::c268::c269::c270::c271::c272::c273::c274::c275::c276::c277::c278::c279::c280::c281::c282::c283::c284::c285::c286::c287::c288::c289::c290::c291::c292::[]).toArray,[]⟩ wc := by
  conv => arg 2; whnf
  have HVAL := Lib.hid hval; have HFM := Lib.hid hfmt; have HNE := Lib.hid hne
  have HBZ := Lib.hid hb0; have HA := Lib.hid hA; have HB := Lib.hid hB
  have HXA := Lib.hid hxa; have HH0 := Lib.hid hh0
  clear hxa hh0
  clear hb0 hval hfmt hne hA hB
  have hx := HA.out.hd 17 H.xattr rfl
  rw [HXA.out] at hx
  have hrc := HA.out.hd 18 H.recs rfl
  have hxl := nil_len_run wc 3
  go_upto_region 53 with fail
  go_cut [196] (fun s196 wx => s196 = .bool false ∧ wx = wc)
  case first =>
    rcases HA.out.rm with ⟨hn,hR⟩ | ⟨rb,nR,hv,hlt,hm,hnb⟩
    · rw [hn] at hrc
      go_wp2_with fail
      go_meet
      exact ⟨rfl,rfl⟩
    · rw [hv] at hrc
      obtain ⟨c,hc1,hc2,hc3⟩ := hm.len_run
      have hl3 := hc1 3
      have : c = 0 := hc3.2 HH0.out
      subst this
      go_wp2_with fail
      go_meet
      exact ⟨rfl,rfl⟩
  case rest =>
    obtain ⟨rfl,rfl⟩ := hcut
    clear hx hxl hrc
    rename_i K1 hK1 K2 hK2
    have HK := Lib.hid hK1
    clear hK1
    go_wp2_with fail
    refine HK.out _ _ ?_
    have e := recM_none S.m R H.typ HH0.out
    refine allow_restB G0 E b0 H R (S.u && !false) S.p (S.g && !false) S.q (recM S.m R H.typ) 26 w wc HBZ.out HVAL.out HFM.out HNE.out ?_ (by omega) HB.out
    rw [e,Bool.not_false,Bool.and_true,Bool.and_true]
    exact HA.out
end Go.Proofs.YtkanmkcojlefbaaGreatDoor
namespace Go.Proofs.YtkanmkcojlefbaaGreatDoor
open Go.RowKit
variable {c0 c5 c6 c7 c9 c10 c11 c12 c13 c14 c15 c16 c17 c18 c19 c20 c21 c22 c23 c24 c25 c26 c27 c28 c29 c30 c31 c32 c33 c34 c35 c36 c37 c38 c39 c40 c41 c42 c43 c44 c45 c46 c47 c48 c49 c50 c51 c52 c53 c54 c55 c56 c57 c58 c59 c60 c61 c62 c63 c64 c65 c66 c67 c68 c69 c70 c71 c72 c73 c74 c75 c76 c77 c78 c79 c80 c81 c82 c83 c84 c85 c86 c87 c88 c89 c90 c91 c92 c93 c94 c95 c96 c97 c98 c99 c100 c101 c102 c103 c104 c105 c106 c107 c108 c109 c110 c111 c112 c113 c114 c115 c116 c117 c118 c119 c120 c121 c122 c123 c124 c125 c126 c127 c128 c129 c130 c131 c132 c133 c134 c135 c136 c137 c138 c139 c140 c141 c142 c143 c144 c145 c146 c147 c148 c149 c150 c151 c152 c153 c154 c155 c156 c157 c158 c159 c160 c161 c162 c163 c164 c165 c166 c167 c168 c169 c170 c171 c172 c173 c174 c175 c176 c177 c178 c179 c180 c181 c182 c183 c184 c185 c186 c187 c188 c189 c190 c191 c192 c193 c194 c195 c196 c197 c198 c199 c200 c201 c202 c203 c204 c205 c206 c207 c208 c209 c210 c211 c212 c213 c214 c215 c216 c217 c218 c219 c220 c221 c222 c223 c224 c225 c226 c227 c228 c229 c230 c231 c232 c233 c234 c235 c236 c237 c238 c239 c240 c241 c242 c243 c244 c245 c246 c247 c248 c249 c250 c251 c252 c253 c254 c255 c256 c257 c258 c259 c260 c261 c262 c263 c264 c265 c266 c267 c268 c269 c270 c271 c272 c273 c274 c275 c276 c277 c278 c279 c280 c281 c282 c283 c284 c285 c286 c287 c288 c289 c290 c291 c292 : Value}
set_option maxHeartbeats 8000000 in
theorem allow_restCt (G0 : Nat) (E : Nat → Addr) (b0 : Nat) (H : Hd) (R : KV) (S : St) (w wc : World) (hb0 : w.heap.size = b0) (hty : 48 ≤ H.typ ∧ H.typ ≤ 55)
    (hval : ∀ k v,recM S.m R H.typ k = some v → validRec k v = true ∧ k.length ≤ 2305843009213693952 ∧ v.length ≤ 2305843009213693952)
    (hh1 : ∃ k,R k ≠ none) (hfmt : H.fmt = 0 ∨ H.fmt = 2 ∨ H.fmt = 4 ∨ H.fmt = 8)
    (hne : fm (finF (S.u && !true) S.p (S.g && !true) S.q H.fmt).1 (finF (S.u && !true) S.p (S.g && !true) S.q H.fmt).2.1 (finF (S.u && !true) S.p (S.g && !true) S.q H.fmt).2.2 ≠ 0)
    (hA : AFS G0 E b0 H R S 26 wc) (hB : Below b0 w wc) :
    Code.wp Tryz.prog restC (bodyPost Tryz.prog Tryz.f65 (AllowOut G0 E (finF (S.u && !true) S.p (S.g && !true) S.q H.fmt) (recM S.m R H.typ) w)) ⟨(c0::.pointer (some ⟨b0,0,none⟩)::.pointer (some ⟨b0 + 1,0,none⟩)::.pointer (some ⟨b0 + 2,0,none⟩)::.nilIface::c5::c6::c7::.pointer (some ⟨b0 + 7,0,none⟩)::c9::c10::c11::c12::c13::c14::c15::c16::c17::c18::c19::c20::c21::c22::c23::c24::c25::c26::c27::c28::c29::c30::c31::c32::c33::c34::c35::c36::c37::c38::c39::c40::c41::c42::c43::c44::c45::c46::c47::c48::c49::c50::c51::c52::c53::c54::c55::c56::c57::c58::c59::c60::c61::c62::c63::c64::c65::c66::c67::c68::c69::c70::c71::c72::c73::c74::c75::c76::c77::c78::c79::c80::c81::c82::c83::c84::c85::c86::c87::c88::c89::c90::c91::c92::c93::c94::c95::c96::c97::c98::c99::c100::c101::c102::c103::c104::c105::c106::c107::c108::c109::c110::c111::c112::c113::c114::c115::c116::c117::c118::c119::c120::c121::c122::c123::c124::c125::c126::c127::c128::c129::c130::c131::c132::c133::c134::c135::c136::c137::c138::c139::c140::c141::c142::c143::c144::c145::c146::c147::c148::c149::c150::c151::c152::c153::c154::c155::c156::c157::c158::c159::c160::c161::c162::c163::c164::c165::c166::c167::c168::c169::c170::c171::c172::c173::c174::c175::c176::c177::c178::c179::c180::c181::c182::c183::c184::c185::c186::c187::c188::c189::c190::c191::c192::c193::c194::c195::c196::c197::c198::c199::c200::c201::c202::c203::c204::c205::c206::c207::c208::c209::c210::c211::c212::c213::c214::c215::c216::c217::c218::c219::c220::c221::c222::c223::c224::c225::c226::c227::c228::c229::c230::c231::c232::c233::c234::c235::c236::c237::c238::c239::c240::c241::c242::c243::c244::c245::c246::c247::c248::c249::c250::c251::c252::c253::c254::c255::c256::c257::c258::c259::c260::c261::c262::c263::c264::c265::c266::c267::c268::c269::c270::c271::c272::c273::c274::c275::c276::c277::c278::c279::c280::c281::c282::c283::c284::c285::c286::c287::c288::c289::c290::c291::c292::[]).toArray,[]⟩ wc := by
  conv => arg 2; whnf
  have HVAL := Lib.hid hval; have HFM := Lib.hid hfmt; have HNE := Lib.hid hne
  have HBZ := Lib.hid hb0; have HA := Lib.hid hA; have HB := Lib.hid hB
  have HTY := Lib.hid hty; have HH1 := Lib.hid hh1
  clear hty hh1
  clear hb0 hval hfmt hne hA hB
  obtain ⟨rb,nR,hv,hlt,hm,hnb⟩ : ∃ rb n,H.recs = .map (some rb) ∧ rb < b0 ∧ SMap wc rb n R ∧ n ≤ 4294967296 := by
    rcases HA.out.rm with ⟨hn,hR⟩ | h
    · obtain ⟨k,hk⟩ := HH1.out
      exact absurd (hR k) hk
    · exact h
  have hrc2 := HA.out.hd 18 H.recs rfl
  rw [hv] at hrc2
  have HV := Lib.hid hv
  obtain ⟨c,hc1,hc2,hc3⟩ := hm.len_run
  have hl3 := hc1 3
  have hc0 : (0 : Int) < c := by
    rcases Nat.eq_zero_or_pos c with h | h
    · obtain ⟨k,hk⟩ := HH1.out
      exact absurd (hc3.1 h k) hk
    · omega
  have hc00 : decide ((0 : Int) < c) = true := decide_eq_true hc0
  have hc01 : decide (0 < c) = true := decide_eq_true (by omega)
  clear hv hc1 hc2 hc3
  go_upto_region 53 with fail
  first | rename_i K1 hK1 K2 hK2 | rename_i K1 hK1
  have HK := Lib.hid hK1
  clear hK1
  go_wp2_with (at_range; refine wpList_range_s _ rfl _ rfl rb nR R rfl hm ?_; intro w0 cnt0 hrg0 hcn hg0 hs0)
  go_frame
  have hlt7 := HA.out.lt
  have HR1 : Hid (RecLoop G0 E b0 H R S rb nR wc.heap.size wc w0) := Lib.hid ⟨_,cnt0,26,hrg0,by rw [recT_start]; exact HA.out.other (j := wc.heap.size) (grown_fr (hg0.but (some wc.heap.size)) _) (by omega),by omega,Fr.below_of (grown_fr (hg0.but (some wc.heap.size)) wc.heap.size) (by omega) (by simp; omega)⟩
  have hr7 : b0 + 7 < wc.heap.size := hlt7
  have HW0 := Lib.hid (rfl : wc = wc)
  clear hrg0 hcn hg0 hs0 hrc2 hlt7 hm hl3 hc0 hc00 hc01
  obtain ⟨r0,hr0⟩ : ∃ r0,r0 = wc.heap.size := ⟨_,rfl⟩
  rw [← hr0] at HR1 hr7 ⊢
  have HR0 := Lib.hid hr0
  clear hr0
  go_loopw [21] (fun _ wr => Hid (RecLoop G0 E b0 H R S rb nR r0 wc wr)) (fun _ wr => wr.rangeLeft rb r0)
  case atStart => exact HR1
  case round =>
    obtain ⟨todo,cnt,n2,hrg,hAF,hcn,hbl⟩ := hrel.out
    have HAF := Lib.hid hAF; have HBL := Lib.hid hbl; have HRG := Lib.hid hrg
    clear hrel hAF hbl
    go_wp2_with (at_next; refine wpList_next_s _ rfl _ rfl rb r0 nR R todo cnt rfl hrg ?_ ?_)
    · intro hc0 htd
      have hF := HAF.out.fF
      have hmo := mayOnlyBe wr (b0 + 1) S.u S.p S.g false true false hF
      rw [show fm false true false = 4 from rfl] at hmo
      have hA2 := HAF.out.setF (S.u && false) (S.p && true) (S.g && false)
      have HMO := Lib.hid hmo; have HA2 := Lib.hid hA2
      have HTD := Lib.hid htd
      clear hrg hF hmo hA2 htd
      go_wp2_with (go_at_call 123; refine HMO.out.mono ?_; rintro e w' ⟨rfl,rfl⟩)
      refine HK.out _ _ ?_
      refine allow_restB G0 E b0 H R (S.u && !true) S.p (S.g && !true) S.q (recM S.m R H.typ) n2 w _ HBZ.out HVAL.out HFM.out HNE.out ?_ (by have := hnb; omega) (HB.out.trans (HBL.out.setCell (p := ⟨b0 + 1,0,none⟩) (by simp) _))
      have := HA2.out
      rw [recT_end _ _ _ _ HTD.out] at this
      simp only [Bool.and_true,Bool.and_false,Bool.not_true] at this ⊢
      exact this
    · intro k v w1 cnt1 hkl hvl htk hRk hrg1 hlt hf1 hs1 hen
      have hA1 := HAF.out.other hf1 hr7
      have hb1 : Below b0 wr w1 := Fr.below_of hf1 (by have := HAF.out.lt; omega) (by simp; omega)
      have hl7 : (recT S.m R H.typ todo) k = S.m k := recT_look _ _ _ _ _ htk
      have hlk := hA1.mp.look2 und127 k (by unfold maxLen at hkl; omega)
      rw [hl7] at hlk
      have c3 : w1.cell? ⟨b0 + 2,0,none⟩ = some (.map (some (b0 + 3))) := by rw [Lib.cell_of_heap hA1.fM]; rfl
      have ct := hA1.hd 0 (.int .u8 H.typ) rfl
      obtain ⟨mb,hmb,cg,hks⟩ := hA1.gl.keys
      have hkl2 := hks.look k (by unfold maxLen at hkl ⊢; omega)
      have hpf := hasPrefix1 w1 k [71,78,85,46,115,112,97,114,115,101,46]
      have q103 : (H.typ == 103) = false := by have := HTY.out; rw [beq_eq_false_iff_ne]; omega
      have q103n : ¬ H.typ = 103 := by have := HTY.out; omega
      have HA1 := Lib.hid hA1; have HRG1 := Lib.hid hrg1; have HB1 := Lib.hid hb1; have HKS := Lib.hid hks
      have hkl3 : k.length ≤ 9223372036854775807 := by unfold maxLen at hkl; omega
      have hvl3 : v.length ≤ 9223372036854775807 := by unfold maxLen at hvl; omega
      clear hrg hA1 hrg1 hb1 hl7 hf1 hks
      have HLT := Lib.hid hlt; have HTK := Lib.hid htk; have HRK := Lib.hid hRk; have HQ := Lib.hid q103n
      clear hlt htk hRk q103n hs1
      cases hmk : S.m k with
      | some u =>
        rw [hmk] at hlk
        have HMK := Lib.hid hmk
        clear hmk hpf hkl2
        go_wp2_with fail
        go_roundw
        case rel => exact Lib.hid ⟨_,cnt1,n2,HRG1.out,by rw [recT_keep _ _ _ _ _ _ HMK.out]; exact HA1.out,by have := HLT.out; omega,HBL.out.trans HB1.out⟩
        case measure => rw [HRG1.out.left_eq,HRG.out.left_eq]; exact HLT.out
      | none =>
        rw [hmk] at hlk
        have HMK := Lib.hid hmk
        clear hmk
        have eI : (Option.isSome (none : Option (List UInt8))) = false := rfl
        have eG : (Option.getD (none : Option (List UInt8)) []) = [] := rfl
        rw [eI,eG] at hlk
        clear eI eG
        by_cases hten : k ∈ tenKeys
        · rw [decide_eq_true hten] at hkl2
          have HTEN := Lib.hid hten
          clear hten hpf
          go_wp2_with fail
          go_roundw
          case rel => exact Lib.hid ⟨_,cnt1,n2,HRG1.out,by rw [recT_skip _ _ _ _ _ HTK.out (fun h => by rcases h with h | h; exact HQ.out h; exact h.1 HTEN.out)]; exact HA1.out,by have := HLT.out; omega,HBL.out.trans HB1.out⟩
          case measure => rw [HRG1.out.left_eq,HRG.out.left_eq]; exact HLT.out
        · rw [decide_eq_false hten] at hkl2
          have HTEN := Lib.hid hten
          clear hten
          cases hpre : Lib.hasPrefix k [71,78,85,46,115,112,97,114,115,101,46]
          · rw [hpre] at hpf
            have HPR := Lib.hid hpre
            obtain ⟨w2,hup,hA2,hb2,hk2⟩ := HA1.out.put2 (by have := hnb; omega) k v hkl3 hvl3
            have HA2 := Lib.hid hA2; have HB2 := Lib.hid hb2
            have hrg2 : SRange w2 rb r0 nR R (fun z => todo z && !decide (z = k)) cnt1 := HRG1.out.block (hk2 rb (by omega) HRG1.out.owns.lt) (hk2 r0 (by omega) HRG1.out.lt)
            have HRG2 := Lib.hid hrg2
            clear hpre hA2 hb2 hk2 hrg2
            go_wp2_with (go_at_call 125; refine hpf.mono ?_; rintro e w' ⟨rfl,rfl⟩)
            go_roundw
            case rel => exact Lib.hid ⟨_,cnt1,n2 + 1,HRG2.out,by have := HA2.out; rw [recT_put _ _ _ _ _ _ HMK.out HRK.out (.inr ⟨HTEN.out,HPR.out⟩)] at this; exact this,by have := HLT.out; omega,(HBL.out.trans HB1.out).trans HB2.out⟩
            case measure => rw [HRG2.out.left_eq,HRG.out.left_eq]; exact HLT.out
          · rw [hpre] at hpf
            have HPR := Lib.hid hpre
            clear hpre
            go_wp2_with (go_at_call 125; refine hpf.mono ?_; rintro e w' ⟨rfl,rfl⟩)
            go_roundw
            case rel => exact Lib.hid ⟨_,cnt1,n2,HRG1.out,by rw [recT_skip _ _ _ _ _ HTK.out (fun h => by rcases h with h | h; exact HQ.out h; rw [HPR.out] at h; cases h.2)]; exact HA1.out,by have := HLT.out; omega,HBL.out.trans HB1.out⟩
            case measure => rw [HRG1.out.left_eq,HRG.out.left_eq]; exact HLT.out
end Go.Proofs.YtkanmkcojlefbaaGreatDoor
