/-
  Part of the proof; holds the texts Ref9.
-/
import Derived.Test.YtkanmkcojlefbaaGreatDoorM37
set_option maxRecDepth 100000
set_option linter.unusedSimpArgs false
set_option linter.unusedVariables false
namespace Go.Proofs.YtkanmkcojlefbaaGreatDoor
open Go.RowKit
variable {c0 c3 c6 c7 c8 c9 c10 c11 c12 c13 c14 c15 c16 c17 c18 c19 c20 c21 c22 c23 c24 c25 c26 c27 c28 c29 c30 c31 c32 c33 c34 c35 c36 c37 c38 c39 c40 c41 c42 c43 c44 c45 c46 c47 c48 c49 c50 c51 c52 c53 c54 c55 c56 c57 c58 c59 c60 c61 c62 c63 c64 c65 c66 c67 c68 c69 c70 c71 c72 c73 c74 c75 c76 c77 c78 c79 c80 c81 c82 c83 c84 c85 c86 c87 c88 c89 c90 c91 c92 c93 c94 c95 c96 c97 c98 c99 c100 c101 c102 c103 c104 c105 c106 c107 c108 c109 c110 c111 c112 c113 c114 c115 c116 c117 c118 c119 c120 c121 c122 c123 c124 c125 c126 c127 c128 c129 c130 c131 c132 c133 c134 c135 c136 c137 c138 c139 c140 c141 c142 c143 c144 c145 c146 c147 c148 c149 c150 c151 c152 c153 c154 c155 c156 c157 c158 c159 c160 c161 c162 c163 c164 c165 c166 c167 c168 c169 c170 c171 c172 c173 c174 c175 c176 c177 c178 c179 c180 c181 c182 c183 c184 c185 c186 c187 c188 c189 c190 c191 c192 c193 c194 c195 c196 c197 c198 c199 c200 c201 c202 c203 c204 c205 c206 c207 c208 c209 c210 c211 c212 c213 c214 c215 c216 c217 c218 c219 c220 c221 c222 c223 c224 c225 c226 c227 c228 c229 c230 c231 c232 c233 c234 c235 c236 c237 c238 c239 c240 c241 c242 c243 c244 c245 c246 c247 c248 c249 c250 c251 c252 : Value}
noncomputable def restC12 : Code := tailFrom 12 (Tryz.f27.body.getD .skip)
noncomputable def restC13 : Code := tailFrom 13 (Tryz.f27.body.getD .skip)
noncomputable def restC14 : Code := tailFrom 14 (Tryz.f27.body.getD .skip)
noncomputable def restC15 : Code := tailFrom 15 (Tryz.f27.body.getD .skip)
noncomputable def restC19 : Code := tailFrom 19 (Tryz.f27.body.getD .skip)
noncomputable def restC21 : Code := tailFrom 21 (Tryz.f27.body.getD .skip)
noncomputable def restC23 : Code := tailFrom 23 (Tryz.f27.body.getD .skip)
def CF21 (h : IH) : Prop := h.hasC = true → MomentOk h.cts h.ctn 2
def CF19 (h : IH) : Prop := (h.hasA = true → MomentOk h.ats h.atn 2) ∧ CF21 h
def CF15 (h : IH) : Prop := (0 ≤ h.size ∧ (0 < h.size → h.typ ≠ 49 ∧ h.typ ≠ 50)) ∧ CF19 h
def CF14 (h : IH) : Prop := MomentOk h.ms h.mn 2 ∧ CF15 h
def CF13 (h : IH) : Prop := (SmallOk h.mode 2 false ∧ SmallOk h.uid 2 true ∧ SmallOk h.gid 2 true ∧ SmallOk h.maj 2 false ∧ SmallOk h.mnr 2 false) ∧ CF14 h
def CF12 (h : IH) (v6 : Int) : Prop := (v6 = 1 ∧ TextOk h.link 100 2 ∧ OwnerOk h.user 2 ∧ OwnerOk h.group 2) ∧ CF13 h
def tri (v : Int) : Prop := v = 0 ∨ v = 1 ∨ v = 2
structure CS (hb : Nat) (h : IH) (w0 w : World) : Prop where
  S : SB hb h w
  B : Below w0.heap.size w0 w
  h0 : w0.heap.size ≤ hb
theorem CS.below {hb : Nat} {h : IH} {w0 w w' : World} (k : CS hb h w0 w) (f : Below w.heap.size w w') : CS hb h w0 w' := ⟨k.S.below f (lt_of_heap k.S),k.B.trans (f.mono k.B.size),k.h0⟩
theorem CS.alloc {hb : Nat} {h : IH} {w0 w w' : World} (k : CS hb h w0 w) (o : Obj) (f : Below (w.alloc o).heap.size (w.alloc o) w') : CS hb h w0 w' := (k.below ((Below.refl _ w).alloc (Nat.le_refl _) o)).below f
theorem tri_two {v m : Int} (h1 : tri v) (h2 : tri m) : ∀ x ∈ [v,m],x = 0 ∨ x = 1 ∨ x = 2 := by
  intro x hx; simp at hx; rcases hx with rfl | rfl <;> assumption
set_option maxHeartbeats 4000000 in
theorem can23 (h : IH) (hb : Nat) (v v4 : Int) (w w0 : World) (K : CS hb h w0 w) (hv : tri v) (p : Option Addr) (c : Nat) (hr : h.recs = .slice p 0 c) (P : Prop) (hP : v = 1 → True → P) :
    Code.wp Tryz.prog restC23 (bodyPost Tryz.prog Tryz.f27 (VRight P w0)) ⟨(c0::.int .i64 2::.pointer (some ⟨hb,0,none⟩)::c3::.int .i64 v4::.int .i64 v::c6::c7::c8::c9::c10::c11::c12::c13::c14::c15::c16::c17::c18::c19::c20::c21::c22::c23::c24::c25::c26::c27::c28::c29::c30::c31::c32::c33::c34::c35::c36::c37::c38::c39::c40::c41::c42::c43::c44::c45::c46::c47::c48::c49::c50::c51::c52::c53::c54::c55::c56::c57::c58::c59::c60::c61::c62::c63::c64::c65::c66::c67::c68::c69::c70::c71::c72::c73::c74::c75::c76::c77::c78::c79::c80::c81::c82::c83::c84::c85::c86::c87::c88::c89::c90::c91::c92::c93::c94::c95::c96::c97::c98::c99::c100::c101::c102::c103::c104::c105::c106::c107::c108::c109::c110::c111::c112::c113::c114::c115::c116::c117::c118::c119::c120::c121::c122::c123::c124::c125::c126::c127::c128::c129::c130::c131::c132::c133::c134::c135::c136::c137::c138::c139::c140::c141::c142::c143::c144::c145::c146::c147::c148::c149::c150::c151::c152::c153::c154::c155::c156::c157::c158::c159::c160::c161::c162::c163::c164::c165::c166::c167::c168::c169::c170::c171::c172::c173::c174::c175::c176::c177::c178::c179::c180::c181::c182::c183::c184::c185::c186::c187::c188::c189::c190::c191::c192::c193::c194::c195::c196::c197::c198::c199::c200::c201::c202::c203::c204::c205::c206::c207::c208::c209::c210::c211::c212::c213::c214::c215::c216::c217::c218::c219::c220::c221::c222::c223::c224::c225::c226::c227::c228::c229::c230::c231::c232::c233::c234::c235::c236::c237::c238::c239::c240::c241::c242::c243::c244::c245::c246::c247::c248::c249::c250::c251::c252::[]).toArray,[]⟩ w := by
  conv => arg 2; whnf
  have HK := Lib.hid K; have HP := Lib.hid hP; have HV := Lib.hid hv; have HR := Lib.hid hr
  clear K hP hv hr
  have c19 := HK.out.S.cell 19 (.slice p 0 c) (by rw [← HR.out]; rfl)
  refine wp_seq_k (fun K1 hK1 => ?_)
  have HK1 := Lib.hid hK1
  clear hK1
  go_wp2_with fail
  refine HK1.out _ _ ?_
  go_wp2_with fail
  refine wp_loop_once ?_
  go_wp2_with fail
  go_ret
  exact ⟨v,rfl,HK.out.B,HV.out,fun e => HP.out e trivial⟩
set_option maxHeartbeats 4000000 in
theorem can21 (h : IH) (hb : Nat) (v v4 : Int) (w w0 : World) (K : CS hb h w0 w) (hv : tri v) (p : Option Addr) (c : Nat) (hr : h.recs = .slice p 0 c) (P : Prop) (hP : v = 1 → CF21 h → P) :
    Code.wp Tryz.prog restC21 (bodyPost Tryz.prog Tryz.f27 (VRight P w0)) ⟨(c0::.int .i64 2::.pointer (some ⟨hb,0,none⟩)::c3::.int .i64 v4::.int .i64 v::c6::c7::c8::c9::c10::c11::c12::c13::c14::c15::c16::c17::c18::c19::c20::c21::c22::c23::c24::c25::c26::c27::c28::c29::c30::c31::c32::c33::c34::c35::c36::c37::c38::c39::c40::c41::c42::c43::c44::c45::c46::c47::c48::c49::c50::c51::c52::c53::c54::c55::c56::c57::c58::c59::c60::c61::c62::c63::c64::c65::c66::c67::c68::c69::c70::c71::c72::c73::c74::c75::c76::c77::c78::c79::c80::c81::c82::c83::c84::c85::c86::c87::c88::c89::c90::c91::c92::c93::c94::c95::c96::c97::c98::c99::c100::c101::c102::c103::c104::c105::c106::c107::c108::c109::c110::c111::c112::c113::c114::c115::c116::c117::c118::c119::c120::c121::c122::c123::c124::c125::c126::c127::c128::c129::c130::c131::c132::c133::c134::c135::c136::c137::c138::c139::c140::c141::c142::c143::c144::c145::c146::c147::c148::c149::c150::c151::c152::c153::c154::c155::c156::c157::c158::c159::c160::c161::c162::c163::c164::c165::c166::c167::c168::c169::c170::c171::c172::c173::c174::c175::c176::c177::c178::c179::c180::c181::c182::c183::c184::c185::c186::c187::c188::c189::c190::c191::c192::c193::c194::c195::c196::c197::c198::c199::c200::c201::c202::c203::c204::c205::c206::c207::c208::c209::c210::c211::c212::c213::c214::c215::c216::c217::c218::c219::c220::c221::c222::c223::c224::c225::c226::c227::c228::c229::c230::c231::c232::c233::c234::c235::c236::c237::c238::c239::c240::c241::c242::c243::c244::c245::c246::c247::c248::c249::c250::c251::c252::[]).toArray,[]⟩ w := by
  conv => arg 2; whnf
  have HK := Lib.hid K; have HP := Lib.hid hP; have HV := Lib.hid hv; have HR := Lib.hid hr
  clear K hP hv hr
  cases hc : h.hasC with
  | false =>
    have c1 := HK.out.S.cell 12 (.bool false) (by rw [← hc]; rfl)
    have HC := Lib.hid hc
    clear hc
    refine wp_seq_k (fun K1 hK1 => ?_)
    have HK1 := Lib.hid hK1
    clear hK1
    go_wp2_with fail
    refine HK1.out _ _ ?_
    exact can23 h hb v v4 w w0 HK.out HV.out p c HR.out P (fun e k => HP.out e (fun e => by rw [HC.out] at e; cases e))
  | true =>
    have c1 := HK.out.S.cell 12 (.bool true) (by rw [← hc]; rfl)
    have c2 := HK.out.S.cell 15 (.int .i64 h.cts) rfl
    have c3 := HK.out.S.cell 16 (.int .i64 h.ctn) rfl
    have HC := Lib.hid hc
    clear hc
    refine wp_seq_k (fun K1 hK1 => ?_)
    have HK1 := Lib.hid hK1
    clear hK1
    go_wp2_with fail
    refine (specMoment h.cts h.ctn 2 w).mono ?_
    rintro e w1 ⟨m,rfl,hb1,hm,hp1⟩
    have HK5 := Lib.hid (HK.out.below hb1); have HM := Lib.hid hm; have HP1 := Lib.hid hp1
    clear hb1 hm hp1 c1 c2 c3
    go_wp2_with fail
    refine (specAll [v,m] w1.heap.size 2 _ (at_new w1 [.int .i64 v,.int .i64 m] 3) (tri_two HV.out HM.out) (by simp)).mono ?_
    rintro e w2 ⟨v2,rfl,hb2,hv2,hp2⟩
    have HK6 := Lib.hid (HK5.out.alloc _ hb2); have HV2 := Lib.hid hv2; have HP2 := Lib.hid hp2
    clear hb2 hv2 hp2
    go_wp2_with fail
    refine HK1.out _ _ ?_
    exact can23 h hb v2 v4 w2 w0 HK6.out HV2.out p c HR.out P (fun e k => HP.out (HP2.out e v (by simp)) (fun _ => HP1.out (HP2.out e m (by simp))))
set_option maxHeartbeats 4000000 in
theorem can19 (h : IH) (hb : Nat) (v v4 : Int) (w w0 : World) (K : CS hb h w0 w) (hv : tri v) (p : Option Addr) (c : Nat) (hr : h.recs = .slice p 0 c) (P : Prop) (hP : v = 1 → CF19 h → P) :
    Code.wp Tryz.prog restC19 (bodyPost Tryz.prog Tryz.f27 (VRight P w0)) ⟨(c0::.int .i64 2::.pointer (some ⟨hb,0,none⟩)::c3::.int .i64 v4::.int .i64 v::c6::c7::c8::c9::c10::c11::c12::c13::c14::c15::c16::c17::c18::c19::c20::c21::c22::c23::c24::c25::c26::c27::c28::c29::c30::c31::c32::c33::c34::c35::c36::c37::c38::c39::c40::c41::c42::c43::c44::c45::c46::c47::c48::c49::c50::c51::c52::c53::c54::c55::c56::c57::c58::c59::c60::c61::c62::c63::c64::c65::c66::c67::c68::c69::c70::c71::c72::c73::c74::c75::c76::c77::c78::c79::c80::c81::c82::c83::c84::c85::c86::c87::c88::c89::c90::c91::c92::c93::c94::c95::c96::c97::c98::c99::c100::c101::c102::c103::c104::c105::c106::c107::c108::c109::c110::c111::c112::c113::c114::c115::c116::c117::c118::c119::c120::c121::c122::c123::c124::c125::c126::c127::c128::c129::c130::c131::c132::c133::c134::c135::c136::c137::c138::c139::c140::c141::c142::c143::c144::c145::c146::c147::c148::c149::c150::c151::c152::c153::c154::c155::c156::c157::c158::c159::c160::c161::c162::c163::c164::c165::c166::c167::c168::c169::c170::c171::c172::c173::c174::c175::c176::c177::c178::c179::c180::c181::c182::c183::c184::c185::c186::c187::c188::c189::c190::c191::c192::c193::c194::c195::c196::c197::c198::c199::c200::c201::c202::c203::c204::c205::c206::c207::c208::c209::c210::c211::c212::c213::c214::c215::c216::c217::c218::c219::c220::c221::c222::c223::c224::c225::c226::c227::c228::c229::c230::c231::c232::c233::c234::c235::c236::c237::c238::c239::c240::c241::c242::c243::c244::c245::c246::c247::c248::c249::c250::c251::c252::[]).toArray,[]⟩ w := by
  conv => arg 2; whnf
  have HK := Lib.hid K; have HP := Lib.hid hP; have HV := Lib.hid hv; have HR := Lib.hid hr
  clear K hP hv hr
  cases hc : h.hasA with
  | false =>
    have c1 := HK.out.S.cell 11 (.bool false) (by rw [← hc]; rfl)
    have HC := Lib.hid hc
    clear hc
    refine wp_seq_k (fun K1 hK1 => ?_)
    have HK1 := Lib.hid hK1
    clear hK1
    go_wp2_with fail
    refine HK1.out _ _ ?_
    exact can21 h hb v v4 w w0 HK.out HV.out p c HR.out P (fun e k => HP.out e ⟨fun e => (by rw [HC.out] at e; cases e),k⟩)
  | true =>
    have c1 := HK.out.S.cell 11 (.bool true) (by rw [← hc]; rfl)
    have c2 := HK.out.S.cell 13 (.int .i64 h.ats) rfl
    have c3 := HK.out.S.cell 14 (.int .i64 h.atn) rfl
    have HC := Lib.hid hc
    clear hc
    refine wp_seq_k (fun K1 hK1 => ?_)
    have HK1 := Lib.hid hK1
    clear hK1
    go_wp2_with fail
    refine (specMoment h.ats h.atn 2 w).mono ?_
    rintro e w1 ⟨m,rfl,hb1,hm,hp1⟩
    have HK5 := Lib.hid (HK.out.below hb1); have HM := Lib.hid hm; have HP1 := Lib.hid hp1
    clear hb1 hm hp1 c1 c2 c3
    go_wp2_with fail
    refine (specAll [v,m] w1.heap.size 2 _ (at_new w1 [.int .i64 v,.int .i64 m] 3) (tri_two HV.out HM.out) (by simp)).mono ?_
    rintro e w2 ⟨v2,rfl,hb2,hv2,hp2⟩
    have HK6 := Lib.hid (HK5.out.alloc _ hb2); have HV2 := Lib.hid hv2; have HP2 := Lib.hid hp2
    clear hb2 hv2 hp2
    go_wp2_with fail
    refine HK1.out _ _ ?_
    exact can21 h hb v2 v4 w2 w0 HK6.out HV2.out p c HR.out P (fun e k => HP.out (HP2.out e v (by simp)) ⟨fun _ => HP1.out (HP2.out e m (by simp)),k⟩)
set_option maxHeartbeats 4000000 in
theorem can15 (h : IH) (hb : Nat) (v v4 : Int) (w w0 : World) (K : CS hb h w0 w) (hv : tri v) (p : Option Addr) (c : Nat) (hr : h.recs = .slice p 0 c) (P : Prop) (hP : v = 1 → CF15 h → P) :
    Code.wp Tryz.prog restC15 (bodyPost Tryz.prog Tryz.f27 (VRight P w0)) ⟨(c0::.int .i64 2::.pointer (some ⟨hb,0,none⟩)::c3::.int .i64 v4::.int .i64 v::c6::c7::c8::c9::c10::c11::c12::c13::c14::c15::c16::c17::c18::c19::c20::c21::c22::c23::c24::c25::c26::c27::c28::c29::c30::c31::c32::c33::c34::c35::c36::c37::c38::c39::c40::c41::c42::c43::c44::c45::c46::c47::c48::c49::c50::c51::c52::c53::c54::c55::c56::c57::c58::c59::c60::c61::c62::c63::c64::c65::c66::c67::c68::c69::c70::c71::c72::c73::c74::c75::c76::c77::c78::c79::c80::c81::c82::c83::c84::c85::c86::c87::c88::c89::c90::c91::c92::c93::c94::c95::c96::c97::c98::c99::c100::c101::c102::c103::c104::c105::c106::c107::c108::c109::c110::c111::c112::c113::c114::c115::c116::c117::c118::c119::c120::c121::c122::c123::c124::c125::c126::c127::c128::c129::c130::c131::c132::c133::c134::c135::c136::c137::c138::c139::c140::c141::c142::c143::c144::c145::c146::c147::c148::c149::c150::c151::c152::c153::c154::c155::c156::c157::c158::c159::c160::c161::c162::c163::c164::c165::c166::c167::c168::c169::c170::c171::c172::c173::c174::c175::c176::c177::c178::c179::c180::c181::c182::c183::c184::c185::c186::c187::c188::c189::c190::c191::c192::c193::c194::c195::c196::c197::c198::c199::c200::c201::c202::c203::c204::c205::c206::c207::c208::c209::c210::c211::c212::c213::c214::c215::c216::c217::c218::c219::c220::c221::c222::c223::c224::c225::c226::c227::c228::c229::c230::c231::c232::c233::c234::c235::c236::c237::c238::c239::c240::c241::c242::c243::c244::c245::c246::c247::c248::c249::c250::c251::c252::[]).toArray,[]⟩ w := by
  conv => arg 2; whnf
  have HK := Lib.hid K; have HP := Lib.hid hP; have HV := Lib.hid hv; have HR := Lib.hid hr
  clear K hP hv hr
  have c3 := HK.out.S.cell 3 (.int .i64 h.size) rfl
  have c0 := HK.out.S.cell 0 (.int .u8 h.typ) rfl
  by_cases s0 : h.size < 0
  · refine wp_seq_k (fun K1 hK1 => ?_)
    have HK1 := Lib.hid hK1
    clear hK1
    go_wp2_with fail
    refine (specAll [v,0] w.heap.size 2 _ (at_new w [.int .i64 v,.int .i64 0] 3) (tri_two HV.out (.inl rfl)) (by simp)).mono ?_
    rintro e w2 ⟨v2,rfl,hb2,hv2,hp2⟩
    have HK6 := Lib.hid (HK.out.alloc _ hb2); have HV2 := Lib.hid hv2; have HP2 := Lib.hid hp2
    clear hb2 hv2 hp2
    go_wp2_with fail
    refine HK1.out _ _ ?_
    refine wp_seq_k (fun K2 hK2 => ?_)
    have HK2 := Lib.hid hK2
    clear hK2
    go_wp2_with fail
    refine HK2.out _ _ ?_
    exact can19 h hb v2 v4 w2 w0 HK6.out HV2.out p c HR.out P (fun e _ => absurd (HP2.out e 0 (by simp)) (by decide))
  by_cases s1 : 0 < h.size
  · by_cases t1 : h.typ = 49
    · refine wp_seq_k (fun K1 hK1 => ?_)
      have HK1 := Lib.hid hK1
      clear hK1
      go_wp2_with fail
      refine (specAll [v,0] w.heap.size 2 _ (at_new w [.int .i64 v,.int .i64 0] 3) (tri_two HV.out (.inl rfl)) (by simp)).mono ?_
      rintro e w2 ⟨v2,rfl,hb2,hv2,hp2⟩
      have HK6 := Lib.hid (HK.out.alloc _ hb2); have HV2 := Lib.hid hv2; have HP2 := Lib.hid hp2
      clear hb2 hv2 hp2
      go_wp2_with fail
      refine HK1.out _ _ ?_
      refine wp_seq_k (fun K2 hK2 => ?_)
      have HK2 := Lib.hid hK2
      clear hK2
      go_wp2_with fail
      refine HK2.out _ _ ?_
      exact can19 h hb v2 v4 w2 w0 HK6.out HV2.out p c HR.out P (fun e _ => absurd (HP2.out e 0 (by simp)) (by decide))
    · by_cases t2 : h.typ = 50
      · refine wp_seq_k (fun K1 hK1 => ?_)
        have HK1 := Lib.hid hK1
        clear hK1
        go_wp2_with fail
        refine (specAll [v,0] w.heap.size 2 _ (at_new w [.int .i64 v,.int .i64 0] 3) (tri_two HV.out (.inl rfl)) (by simp)).mono ?_
        rintro e w2 ⟨v2,rfl,hb2,hv2,hp2⟩
        have HK6 := Lib.hid (HK.out.alloc _ hb2); have HV2 := Lib.hid hv2; have HP2 := Lib.hid hp2
        clear hb2 hv2 hp2
        go_wp2_with fail
        refine HK1.out _ _ ?_
        refine wp_seq_k (fun K2 hK2 => ?_)
        have HK2 := Lib.hid hK2
        clear hK2
        go_wp2_with fail
        refine HK2.out _ _ ?_
        exact can19 h hb v2 v4 w2 w0 HK6.out HV2.out p c HR.out P (fun e _ => absurd (HP2.out e 0 (by simp)) (by decide))
      · have HF : Hid ((0 ≤ h.size ∧ (0 < h.size → h.typ ≠ 49 ∧ h.typ ≠ 50))) := Lib.hid ⟨by omega,fun _ => ⟨t1,t2⟩⟩
        have e1 : (h.typ == 49) = false := by simpa using t1
        have e2 : (h.typ == 50) = false := by simpa using t2
        refine wp_seq_k (fun K1 hK1 => ?_)
        have HK1 := Lib.hid hK1
        clear hK1
        go_wp2_with fail
        refine HK1.out _ _ ?_
        refine wp_seq_k (fun K2 hK2 => ?_)
        have HK2 := Lib.hid hK2
        clear hK2
        go_wp2_with fail
        refine HK2.out _ _ ?_
        exact can19 h hb v v4 w w0 HK.out HV.out p c HR.out P (fun e k => HP.out e ⟨HF.out,k⟩)
  · have HF : Hid ((0 ≤ h.size ∧ (0 < h.size → h.typ ≠ 49 ∧ h.typ ≠ 50))) := Lib.hid ⟨by omega,fun e => absurd e s1⟩
    refine wp_seq_k (fun K1 hK1 => ?_)
    have HK1 := Lib.hid hK1
    clear hK1
    go_wp2_with fail
    refine HK1.out _ _ ?_
    refine wp_seq_k (fun K2 hK2 => ?_)
    have HK2 := Lib.hid hK2
    clear hK2
    go_wp2_with fail
    refine HK2.out _ _ ?_
    exact can19 h hb v v4 w w0 HK.out HV.out p c HR.out P (fun e k => HP.out e ⟨HF.out,k⟩)
theorem ld28 {w : World} {g k : Nat} {u v : Value} (h0 : w.cell? ⟨g,k,none⟩ = some u) (h1 : w.cell? ⟨g,k + 1,none⟩ = some v) : (loadVar 28 ⟨g,k,none⟩).run Tryz.prog w = .ok (.agg #[u,v]) w := by simp [loadVar,go_sem,h0,h1]
set_option maxHeartbeats 16000000 in
theorem can14 (h : IH) (hb : Nat) (v v4 : Int) (w w0 : World) (K : CS hb h w0 w) (hv : tri v) (p : Option Addr) (c : Nat) (hr : h.recs = .slice p 0 c) (P : Prop) (hP : v = 1 → CF14 h → P) :
    Code.wp Tryz.prog restC14 (bodyPost Tryz.prog Tryz.f27 (VRight P w0)) ⟨(c0::.int .i64 2::.pointer (some ⟨hb,0,none⟩)::c3::.int .i64 v4::.int .i64 v::c6::c7::c8::c9::c10::c11::c12::c13::c14::c15::c16::c17::c18::c19::c20::c21::c22::c23::c24::c25::c26::c27::c28::c29::c30::c31::c32::c33::c34::c35::c36::c37::c38::c39::c40::c41::c42::c43::c44::c45::c46::c47::c48::c49::c50::c51::c52::c53::c54::c55::c56::c57::c58::c59::c60::c61::c62::c63::c64::c65::c66::c67::c68::c69::c70::c71::c72::c73::c74::c75::c76::c77::c78::c79::c80::c81::c82::c83::c84::c85::c86::c87::c88::c89::c90::c91::c92::c93::c94::c95::c96::c97::c98::c99::c100::c101::c102::c103::c104::c105::c106::c107::c108::c109::c110::c111::c112::c113::c114::c115::c116::c117::c118::c119::c120::c121::c122::c123::c124::c125::c126::c127::c128::c129::c130::c131::c132::c133::c134::c135::c136::c137::c138::c139::c140::c141::c142::c143::c144::c145::c146::c147::c148::c149::c150::c151::c152::c153::c154::c155::c156::c157::c158::c159::c160::c161::c162::c163::c164::c165::c166::c167::c168::c169::c170::c171::c172::c173::c174::c175::c176::c177::c178::c179::c180::c181::c182::c183::c184::c185::c186::c187::c188::c189::c190::c191::c192::c193::c194::c195::c196::c197::c198::c199::c200::c201::c202::c203::c204::c205::c206::c207::c208::c209::c210::c211::c212::c213::c214::c215::c216::c217::c218::c219::c220::c221::c222::c223::c224::c225::c226::c227::c228::c229::c230::c231::c232::c233::c234::c235::c236::c237::c238::c239::c240::c241::c242::c243::c244::c245::c246::c247::c248::c249::c250::c251::c252::[]).toArray,[]⟩ w := by
  conv => arg 2; whnf
  have HK := Lib.hid K; have HP := Lib.hid hP; have HV := Lib.hid hv; have HR := Lib.hid hr
  clear K hP hv hr
  by_cases s0 : h.size < 0
  · cases hd : hasDataB h.typ with
    | false =>
      refine wp_seq_k (fun K1 hK1 => ?_)
      have HK1 := Lib.hid hK1
      clear hK1
      refine region_named (S := fun w' => SB hb h w') (n := 27) (l0 := (bt 27 0)) (by kernel_rfl) rfl (by kernel_rfl) HK.out.S (fun ops HOPS hHeld => ?_)
      have HS0 : Hid (CS hb h w0 w.drew) := Lib.hid (HK.out.below ((Below.refl _ w).drew))
      clear HK
      generalize w.drew = u0 at *
      refine take_named HOPS.out (i := 0) (d := (some 138)) (v := ?vb0) (a' := ?ab0) (l' := (bt 27 1)) (by simp only [ga1,ga2,ga3]; exact rfl) (by kernel_rfl) (by kernel_rfl) (by kernel_rfl) (fun _ _ _ h => h) (Or.inl ⟨by rfl,?hyb0⟩) (by assumption) (by rfl) ?hab0 (by kernel_rfl) ?rb0
      case hyb0 => intro w hSw; go_simp; try with_reducible rfl
      case hab0 => simp only [Act.put,sa1,sa2,sa3]; exact rfl
      refine take_named HOPS.out (i := 1) (d := (some 139)) (v := ?vb1) (a' := ?ab1) (l' := (bt 27 3)) (by simp only [ga1,ga2,ga3]; exact rfl) (by kernel_rfl) (by kernel_rfl) (by kernel_rfl) (fun _ _ _ h => h) (Or.inl ⟨by rfl,?hyb1⟩) (by assumption) (by rfl) ?hab1 (by kernel_rfl) ?rb1
      case hyb1 => intro w hSw; go_simp; try with_reducible rfl
      case hab1 => simp only [Act.put,sa1,sa2,sa3]; exact rfl
      refine take_named HOPS.out (i := 2) (d := (some 140)) (a' := ?ab2) (l' := (bt 27 7)) (by simp only [ga1,ga2,ga3]; exact rfl) (by kernel_rfl) (by kernel_rfl) (by kernel_rfl) (fun _ _ _ h => h) (yieldsIf_load_run (by rfl) _ _ rfl ⟨hb,3,none⟩ rfl (.int .i64 h.size) (fun w' hw' => ld2 (hw'.cell 3 (.int .i64 h.size) rfl))) (by assumption) (by rfl) ?hab2 (by kernel_rfl) ?rb2
      case hab2 => simp only [Act.put,sa1,sa2,sa3]; exact rfl
      refine take_named HOPS.out (i := 3) (d := (some 141)) (v := .bool false) (a' := ?ab3) (l' := (bt 27 15)) (by simp only [ga1,ga2,ga3]; exact rfl) (by kernel_rfl) (by kernel_rfl) (by kernel_rfl) (fun _ _ _ h => h) (Or.inl ⟨by rfl,?hyb3⟩) (by assumption) (by rfl) ?hab3 (by kernel_rfl) ?rb3
      case hyb3 => intro w hSw; go_simp; try with_reducible rfl
      case hab3 => simp only [Act.put,sa1,sa2,sa3]; exact rfl
      refine take_named HOPS.out (i := 4) (d := (some 142)) (v := ?vb4) (a' := ?ab4) (l' := (bt 27 31)) (by simp only [ga1,ga2,ga3]; exact rfl) (by kernel_rfl) (by kernel_rfl) (by kernel_rfl) (fun _ _ _ h => h) (Or.inl ⟨by rfl,?hyb4⟩) (by assumption) (by rfl) ?hab4 (by kernel_rfl) ?rb4
      case hyb4 => intro w hSw; go_simp; try with_reducible rfl
      case hab4 => simp only [Act.put,sa1,sa2,sa3]; exact rfl
      refine take_named HOPS.out (i := 20) (d := (some 158)) (v := ?vb20) (a' := ?ab20) (l' := (bt 27 1048607)) (by simp only [ga1,ga2,ga3]; exact rfl) (by kernel_rfl) (by kernel_rfl) (by kernel_rfl) (fun _ _ _ h => h) (Or.inl ⟨by rfl,?hyb20⟩) (by assumption) (by rfl) ?hab20 (by kernel_rfl) ?rb20
      case hyb20 => intro w hSw; go_simp; try with_reducible rfl
      case hab20 => simp only [Act.put,sa1,sa2,sa3]; exact rfl
      refine take_named HOPS.out (i := 21) (d := (some 159)) (a' := ?ab21) (l' := (bt 27 3145759)) (by simp only [ga1,ga2,ga3]; exact rfl) (by kernel_rfl) (by kernel_rfl) (by kernel_rfl) (fun _ _ _ h => h) (yieldsIf_load_run (by rfl) _ _ rfl ⟨hb,9,none⟩ rfl (.agg #[.int .i64 h.ms,.int .i64 h.mn]) (fun w' hw' => ld28 (hw'.cell 9 (.int .i64 h.ms) rfl) (hw'.cell 10 (.int .i64 h.mn) rfl))) (by assumption) (by rfl) ?hab21 (by kernel_rfl) ?rb21
      case hab21 => simp only [Act.put,sa1,sa2,sa3]; exact rfl
      refine take_named HOPS.out (i := 22) (d := (some 160)) (v := ?vb22) (a' := ?ab22) (l' := (bt 27 7340063)) (by simp only [ga1,ga2,ga3]; exact rfl) (by kernel_rfl) (by kernel_rfl) (by kernel_rfl) (fun _ _ _ h => h) (Or.inl ⟨by rfl,?hyb22⟩) (by assumption) (by rfl) ?hab22 (by kernel_rfl) ?rb22
      case hyb22 => intro w hSw; go_simp; try with_reducible rfl
      case hab22 => simp only [Act.put,sa1,sa2,sa3]; exact rfl
      refine take_named HOPS.out (i := 5) (d := (some 143)) (v := ?vb5) (a' := ?ab5) (l' := (bt 27 7340095)) (by simp only [ga1,ga2,ga3]; exact rfl) (by kernel_rfl) (by kernel_rfl) (by kernel_rfl) (fun _ _ _ h => h) (Or.inl ⟨by rw [HOPS.out]; kernel_rfl,?hyb5⟩) (by assumption) (by rfl) ?hab5 (by kernel_rfl) ?rb5
      case hyb5 => intro w hSw; go_simp; try with_reducible rfl
      case hab5 => simp only [Act.put,sa1,sa2,sa3]; exact rfl
      refine take_named HOPS.out (i := 6) (d := (some 144)) (a' := ?ab6) (l' := (bt 27 7340159)) (by simp only [ga1,ga2,ga3]; exact rfl) (by kernel_rfl) (by kernel_rfl) (by kernel_rfl) (fun _ _ _ h => h) (yieldsIf_load_run (by rw [HOPS.out]; kernel_rfl) _ _ rfl ⟨hb,0,none⟩ rfl (.int .u8 h.typ) (fun w' hw' => ld5 (hw'.cell 0 (.int .u8 h.typ) rfl))) (by assumption) (by rfl) ?hab6 (by kernel_rfl) ?rb6
      case hab6 => simp only [Act.put,sa1,sa2,sa3]; exact rfl
      refine wpAnyH_ready (rs := [7]) (by rw [HOPS.out]; kernel_rfl) (by simp) ?_
      refine ready_named HOPS.out (l' := (bt 27 7340287)) (by simp only [ga1,ga2,ga3]; exact rfl) (by kernel_rfl) (fun K hK => ?_) AllReadyH.nil
      rw [if_pos (by rw [HOPS.out]; kernel_rfl)]
      go_simp
      go_at_call 44
      refine (specHasData h.typ u0).mono ?_
      rw [hd]
      rintro e ux ⟨rfl,rfl⟩
      refine hK.out _ _ HS0.out.S (fun hHeld => ?_)
      clear hK K
      try simp only [Act.put,sa1,sa2,sa3]
      refine take_named HOPS.out (i := 8) (d := (some 146)) (v := ?vb8) (a' := ?ab8) (l' := (bt 27 7340543)) (by simp only [ga1,ga2,ga3]; exact rfl) (by kernel_rfl) (by kernel_rfl) (by kernel_rfl) (fun _ _ _ h => h) (Or.inl ⟨by rw [HOPS.out]; kernel_rfl,?hyb8⟩) (by assumption) (by rfl) ?hab8 (by kernel_rfl) ?rb8
      case hyb8 => intro w hSw; go_simp; try with_reducible rfl
      case hab8 => simp only [Act.put,sa1,sa2,sa3]; exact rfl
      refine take_named HOPS.out (i := 9) (d := (some 147)) (v := ?vb9) (a' := ?ab9) (l' := (bt 27 7341055)) (by simp only [ga1,ga2,ga3]; exact rfl) (by kernel_rfl) (by kernel_rfl) (by kernel_rfl) (fun _ _ _ h => h) (Or.inl ⟨by rfl,?hyb9⟩) (by assumption) (by rfl) ?hab9 (by kernel_rfl) ?rb9
      case hyb9 => intro w hSw; go_simp; try with_reducible rfl
      case hab9 => simp only [Act.put,sa1,sa2,sa3]; exact rfl
      refine take_named HOPS.out (i := 10) (d := (some 148)) (v := ?vb10) (a' := ?ab10) (l' := (bt 27 7342079)) (by simp only [ga1,ga2,ga3]; exact rfl) (by kernel_rfl) (by kernel_rfl) (by kernel_rfl) (fun _ _ _ h => h) (Or.inl ⟨by rfl,?hyb10⟩) (by assumption) (by rfl) ?hab10 (by kernel_rfl) ?rb10
      case hyb10 => intro w hSw; go_simp; try with_reducible rfl
      case hab10 => simp only [Act.put,sa1,sa2,sa3]; exact rfl
      refine take_named HOPS.out (i := 11) (d := (some 149)) (v := ?vb11) (a' := ?ab11) (l' := (bt 27 7344127)) (by simp only [ga1,ga2,ga3]; exact rfl) (by kernel_rfl) (by kernel_rfl) (by kernel_rfl) (fun _ _ _ h => h) (Or.inl ⟨by rw [HOPS.out]; kernel_rfl,?hyb11⟩) (by assumption) (by rfl) ?hab11 (by kernel_rfl) ?rb11
      case hyb11 => intro w hSw; go_simp; try with_reducible rfl
      case hab11 => simp only [Act.put,sa1,sa2,sa3]; exact rfl
      refine take_named HOPS.out (i := 12) (d := (some 150)) (v := .bool true) (a' := ?ab12) (l' := (bt 27 7348223)) (by simp only [ga1,ga2,ga3]; exact rfl) (by kernel_rfl) (by kernel_rfl) (by kernel_rfl) (fun _ _ _ h => h) (Or.inl ⟨by rw [HOPS.out]; kernel_rfl,?hyb12⟩) (by assumption) (by rfl) ?hab12 (by kernel_rfl) ?rb12
      case hyb12 => intro w hSw; go_simp; try with_reducible rfl
      case hab12 => simp only [Act.put,sa1,sa2,sa3]; exact rfl
      refine take_named HOPS.out (i := 13) (d := (some 151)) (v := ?vb13) (a' := ?ab13) (l' := (bt 27 7356415)) (by simp only [ga1,ga2,ga3]; exact rfl) (by kernel_rfl) (by kernel_rfl) (by kernel_rfl) (fun _ _ _ h => h) (Or.inl ⟨by rw [HOPS.out]; kernel_rfl,?hyb13⟩) (by assumption) (by rfl) ?hab13 (by kernel_rfl) ?rb13
      case hyb13 => intro w hSw; go_simp; try with_reducible rfl
      case hab13 => simp only [Act.put,sa1,sa2,sa3]; exact rfl
      refine take_named HOPS.out (i := 14) (d := (some 152)) (v := undef) (a' := ?ab14) (l' := (bt 27 7372799)) (by simp only [ga1,ga2,ga3]; exact rfl) (by kernel_rfl) (by kernel_rfl) (by kernel_rfl) (fun _ _ _ h => h) (Or.inr ⟨by rw [HOPS.out]; kernel_rfl,rfl⟩) (by assumption) (by rfl) ?hab14 (by kernel_rfl) ?rb14
      case hab14 => simp only [Act.put,sa1,sa2,sa3]; exact rfl
      refine take_named HOPS.out (i := 15) (d := (some 153)) (v := undef) (a' := ?ab15) (l' := (bt 27 7405567)) (by simp only [ga1,ga2,ga3]; exact rfl) (by kernel_rfl) (by kernel_rfl) (by kernel_rfl) (fun _ _ _ h => h) (Or.inr ⟨by rw [HOPS.out]; kernel_rfl,rfl⟩) (by assumption) (by rfl) ?hab15 (by kernel_rfl) ?rb15
      case hab15 => simp only [Act.put,sa1,sa2,sa3]; exact rfl
      refine take_named HOPS.out (i := 16) (d := (some 154)) (v := undef) (a' := ?ab16) (l' := (bt 27 7471103)) (by simp only [ga1,ga2,ga3]; exact rfl) (by kernel_rfl) (by kernel_rfl) (by kernel_rfl) (fun _ _ _ h => h) (Or.inr ⟨by rw [HOPS.out]; kernel_rfl,rfl⟩) (by assumption) (by rfl) ?hab16 (by kernel_rfl) ?rb16
      case hab16 => simp only [Act.put,sa1,sa2,sa3]; exact rfl
      refine take_named HOPS.out (i := 17) (d := (some 155)) (v := ?vb17) (a' := ?ab17) (l' := (bt 27 7602175)) (by simp only [ga1,ga2,ga3]; exact rfl) (by kernel_rfl) (by kernel_rfl) (by kernel_rfl) (fun _ _ _ h => h) (Or.inl ⟨by rw [HOPS.out]; kernel_rfl,?hyb17⟩) (by assumption) (by rfl) ?hab17 (by kernel_rfl) ?rb17
      case hyb17 => intro w hSw; go_simp; try with_reducible rfl
      case hab17 => simp only [Act.put,sa1,sa2,sa3]; exact rfl
      refine take_named HOPS.out (i := 18) (d := (some 156)) (v := ?vb18) (a' := ?ab18) (l' := (bt 27 7864319)) (by simp only [ga1,ga2,ga3]; exact rfl) (by kernel_rfl) (by kernel_rfl) (by kernel_rfl) (fun _ _ _ h => h) (Or.inl ⟨by rfl,?hyb18⟩) (by assumption) (by rfl) ?hab18 (by kernel_rfl) ?rb18
      case hyb18 => intro w hSw; go_simp; try with_reducible rfl
      case hab18 => simp only [Act.put,sa1,sa2,sa3]; exact rfl
      refine wpAnyH_ready (rs := [19]) (by rw [HOPS.out]; kernel_rfl) (by simp) ?_
      refine ready_named HOPS.out (l' := (bt 27 8388607)) (by simp only [ga1,ga2,ga3]; exact rfl) (by kernel_rfl) (fun K hK => ?_) AllReadyH.nil
      go_simp
      go_at_call 55
      refine (specWhen _ _).mono ?_
      rintro e ux ⟨rfl,rfl⟩
      refine hK.out _ _ HS0.out.S (fun hHeld => ?_)
      clear hK K
      try simp only [Act.put,sa1,sa2,sa3]
      refine wpAnyH_ready (rs := [23]) (by rw [HOPS.out]; kernel_rfl) (by simp) ?_
      refine ready_named HOPS.out (l' := (bt 27 16777215)) (by simp only [ga1,ga2,ga3]; exact rfl) (by kernel_rfl) (fun K hK => ?_) AllReadyH.nil
      go_simp
      go_at_call 60
      refine (specMoment h.ms h.mn 2 _).mono ?_
      rintro e u1 ⟨x1,rfl,hb1,hx1,hp1⟩
      have HS1 := Lib.hid (HS0.out.below hb1); have HX1 := Lib.hid hx1; have HQ1 := Lib.hid hp1
      refine hK.out _ _ HS1.out.S (fun hHeld => ?_)
      clear hK K hb1 hx1 hp1
      try simp only [Act.put,sa1,sa2,sa3]
      refine wpAnyH_ready (rs := [24]) (by rw [HOPS.out]; kernel_rfl) (by simp) ?_
      refine ready_named HOPS.out (l' := (bt 27 33554431)) (by simp only [ga1,ga2,ga3]; exact rfl) (by kernel_rfl) (fun K hK => ?_) AllReadyH.nil
      go_simp
      refine hK.out _ _ (HS1.out.below ((Below.refl _ _).alloc (Nat.le_refl _) _)).S (fun hHeld => ?_)
      clear hK K
      try simp only [Act.put,sa1,sa2,sa3]
      refine wpAnyH_ready (rs := [25]) (by rw [HOPS.out]; kernel_rfl) (by simp) ?_
      refine ready_named HOPS.out (l' := (bt 27 67108863)) (by simp only [ga1,ga2,ga3]; exact rfl) (by kernel_rfl) (fun K hK => ?_) AllReadyH.nil
      go_simp
      go_at_call 57
      refine (specAll [v,whenV true,x1] u1.heap.size 3 _ (at_new u1 [.int .i64 v,.int .i64 (whenV true),.int .i64 x1] 3) ?_ (by simp)).mono ?_
      · intro x hx
        simp only [List.mem_cons,List.not_mem_nil,or_false] at hx
        rcases hx with rfl | rfl | rfl
        · exact HV.out
        · exact whenV_in _
        · exact HX1.out
      rintro e u9 ⟨v2,rfl,hb9,hv9,hp9⟩
      have HK9 := Lib.hid (HS1.out.alloc _ hb9); have HV9 := Lib.hid hv9; have HP9 := Lib.hid hp9
      refine hK.out _ _ HK9.out.S (fun hHeld => ?_)
      clear hK K hb9 hv9 hp9
      try simp only [Act.put,sa1,sa2,sa3]
      refine take_named HOPS.out (i := 26) (d := (some 5)) (v := ?vb26) (a' := ?ab26) (l' := (bt 27 134217727)) (by simp only [ga1,ga2,ga3]; exact rfl) (by kernel_rfl) (by kernel_rfl) (by kernel_rfl) (fun _ _ _ h => h) (Or.inl ⟨by rfl,?hyb26⟩) (by assumption) (by rfl) ?hab26 (by kernel_rfl) ?rb26
      case hyb26 => intro w hSw; go_simp; try with_reducible rfl
      case hab26 => simp only [Act.put,sa1,sa2,sa3]; exact rfl
      refine wpAnyH_done (by rw [HOPS.out]; kernel_rfl) ?_ _
      refine HK1.out _ _ ?_
      exact can15 h hb v2 v4 _ w0 HK9.out HV9.out p c HR.out P (fun e k => HP.out (HP9.out e v (by simp)) ⟨HQ1.out (HP9.out e x1 (by simp)),k⟩)
    | true =>
      refine wp_seq_k (fun K1 hK1 => ?_)
      have HK1 := Lib.hid hK1
      clear hK1
      refine region_named (S := fun w' => SB hb h w') (n := 27) (l0 := (bt 27 0)) (by kernel_rfl) rfl (by kernel_rfl) HK.out.S (fun ops HOPS hHeld => ?_)
      have HS0 : Hid (CS hb h w0 w.drew) := Lib.hid (HK.out.below ((Below.refl _ w).drew))
      clear HK
      generalize w.drew = u0 at *
      refine take_named HOPS.out (i := 0) (d := (some 138)) (v := ?vc0) (a' := ?ac0) (l' := (bt 27 1)) (by simp only [ga1,ga2,ga3]; exact rfl) (by kernel_rfl) (by kernel_rfl) (by kernel_rfl) (fun _ _ _ h => h) (Or.inl ⟨by rfl,?hyc0⟩) (by assumption) (by rfl) ?hac0 (by kernel_rfl) ?rc0
      case hyc0 => intro w hSw; go_simp; try with_reducible rfl
      case hac0 => simp only [Act.put,sa1,sa2,sa3]; exact rfl
      refine take_named HOPS.out (i := 1) (d := (some 139)) (v := ?vc1) (a' := ?ac1) (l' := (bt 27 3)) (by simp only [ga1,ga2,ga3]; exact rfl) (by kernel_rfl) (by kernel_rfl) (by kernel_rfl) (fun _ _ _ h => h) (Or.inl ⟨by rfl,?hyc1⟩) (by assumption) (by rfl) ?hac1 (by kernel_rfl) ?rc1
      case hyc1 => intro w hSw; go_simp; try with_reducible rfl
      case hac1 => simp only [Act.put,sa1,sa2,sa3]; exact rfl
      refine take_named HOPS.out (i := 2) (d := (some 140)) (a' := ?ac2) (l' := (bt 27 7)) (by simp only [ga1,ga2,ga3]; exact rfl) (by kernel_rfl) (by kernel_rfl) (by kernel_rfl) (fun _ _ _ h => h) (yieldsIf_load_run (by rfl) _ _ rfl ⟨hb,3,none⟩ rfl (.int .i64 h.size) (fun w' hw' => ld2 (hw'.cell 3 (.int .i64 h.size) rfl))) (by assumption) (by rfl) ?hac2 (by kernel_rfl) ?rc2
      case hac2 => simp only [Act.put,sa1,sa2,sa3]; exact rfl
      refine take_named HOPS.out (i := 3) (d := (some 141)) (v := .bool false) (a' := ?ac3) (l' := (bt 27 15)) (by simp only [ga1,ga2,ga3]; exact rfl) (by kernel_rfl) (by kernel_rfl) (by kernel_rfl) (fun _ _ _ h => h) (Or.inl ⟨by rfl,?hyc3⟩) (by assumption) (by rfl) ?hac3 (by kernel_rfl) ?rc3
      case hyc3 => intro w hSw; go_simp; try with_reducible rfl
      case hac3 => simp only [Act.put,sa1,sa2,sa3]; exact rfl
      refine take_named HOPS.out (i := 4) (d := (some 142)) (v := ?vc4) (a' := ?ac4) (l' := (bt 27 31)) (by simp only [ga1,ga2,ga3]; exact rfl) (by kernel_rfl) (by kernel_rfl) (by kernel_rfl) (fun _ _ _ h => h) (Or.inl ⟨by rfl,?hyc4⟩) (by assumption) (by rfl) ?hac4 (by kernel_rfl) ?rc4
      case hyc4 => intro w hSw; go_simp; try with_reducible rfl
      case hac4 => simp only [Act.put,sa1,sa2,sa3]; exact rfl
      refine take_named HOPS.out (i := 20) (d := (some 158)) (v := ?vc20) (a' := ?ac20) (l' := (bt 27 1048607)) (by simp only [ga1,ga2,ga3]; exact rfl) (by kernel_rfl) (by kernel_rfl) (by kernel_rfl) (fun _ _ _ h => h) (Or.inl ⟨by rfl,?hyc20⟩) (by assumption) (by rfl) ?hac20 (by kernel_rfl) ?rc20
      case hyc20 => intro w hSw; go_simp; try with_reducible rfl
      case hac20 => simp only [Act.put,sa1,sa2,sa3]; exact rfl
      refine take_named HOPS.out (i := 21) (d := (some 159)) (a' := ?ac21) (l' := (bt 27 3145759)) (by simp only [ga1,ga2,ga3]; exact rfl) (by kernel_rfl) (by kernel_rfl) (by kernel_rfl) (fun _ _ _ h => h) (yieldsIf_load_run (by rfl) _ _ rfl ⟨hb,9,none⟩ rfl (.agg #[.int .i64 h.ms,.int .i64 h.mn]) (fun w' hw' => ld28 (hw'.cell 9 (.int .i64 h.ms) rfl) (hw'.cell 10 (.int .i64 h.mn) rfl))) (by assumption) (by rfl) ?hac21 (by kernel_rfl) ?rc21
      case hac21 => simp only [Act.put,sa1,sa2,sa3]; exact rfl
      refine take_named HOPS.out (i := 22) (d := (some 160)) (v := ?vc22) (a' := ?ac22) (l' := (bt 27 7340063)) (by simp only [ga1,ga2,ga3]; exact rfl) (by kernel_rfl) (by kernel_rfl) (by kernel_rfl) (fun _ _ _ h => h) (Or.inl ⟨by rfl,?hyc22⟩) (by assumption) (by rfl) ?hac22 (by kernel_rfl) ?rc22
      case hyc22 => intro w hSw; go_simp; try with_reducible rfl
      case hac22 => simp only [Act.put,sa1,sa2,sa3]; exact rfl
      refine take_named HOPS.out (i := 5) (d := (some 143)) (v := ?vc5) (a' := ?ac5) (l' := (bt 27 7340095)) (by simp only [ga1,ga2,ga3]; exact rfl) (by kernel_rfl) (by kernel_rfl) (by kernel_rfl) (fun _ _ _ h => h) (Or.inl ⟨by rw [HOPS.out]; kernel_rfl,?hyc5⟩) (by assumption) (by rfl) ?hac5 (by kernel_rfl) ?rc5
      case hyc5 => intro w hSw; go_simp; try with_reducible rfl
      case hac5 => simp only [Act.put,sa1,sa2,sa3]; exact rfl
      refine take_named HOPS.out (i := 6) (d := (some 144)) (a' := ?ac6) (l' := (bt 27 7340159)) (by simp only [ga1,ga2,ga3]; exact rfl) (by kernel_rfl) (by kernel_rfl) (by kernel_rfl) (fun _ _ _ h => h) (yieldsIf_load_run (by rw [HOPS.out]; kernel_rfl) _ _ rfl ⟨hb,0,none⟩ rfl (.int .u8 h.typ) (fun w' hw' => ld5 (hw'.cell 0 (.int .u8 h.typ) rfl))) (by assumption) (by rfl) ?hac6 (by kernel_rfl) ?rc6
      case hac6 => simp only [Act.put,sa1,sa2,sa3]; exact rfl
      refine wpAnyH_ready (rs := [7]) (by rw [HOPS.out]; kernel_rfl) (by simp) ?_
      refine ready_named HOPS.out (l' := (bt 27 7340287)) (by simp only [ga1,ga2,ga3]; exact rfl) (by kernel_rfl) (fun K hK => ?_) AllReadyH.nil
      rw [if_pos (by rw [HOPS.out]; kernel_rfl)]
      go_simp
      go_at_call 44
      refine (specHasData h.typ u0).mono ?_
      rw [hd]
      rintro e ux ⟨rfl,rfl⟩
      refine hK.out _ _ HS0.out.S (fun hHeld => ?_)
      clear hK K
      try simp only [Act.put,sa1,sa2,sa3]
      refine take_named HOPS.out (i := 8) (d := (some 146)) (v := ?vc8) (a' := ?ac8) (l' := (bt 27 7340543)) (by simp only [ga1,ga2,ga3]; exact rfl) (by kernel_rfl) (by kernel_rfl) (by kernel_rfl) (fun _ _ _ h => h) (Or.inl ⟨by rw [HOPS.out]; kernel_rfl,?hyc8⟩) (by assumption) (by rfl) ?hac8 (by kernel_rfl) ?rc8
      case hyc8 => intro w hSw; go_simp; try with_reducible rfl
      case hac8 => simp only [Act.put,sa1,sa2,sa3]; exact rfl
      refine take_named HOPS.out (i := 9) (d := (some 147)) (v := ?vc9) (a' := ?ac9) (l' := (bt 27 7341055)) (by simp only [ga1,ga2,ga3]; exact rfl) (by kernel_rfl) (by kernel_rfl) (by kernel_rfl) (fun _ _ _ h => h) (Or.inl ⟨by rfl,?hyc9⟩) (by assumption) (by rfl) ?hac9 (by kernel_rfl) ?rc9
      case hyc9 => intro w hSw; go_simp; try with_reducible rfl
      case hac9 => simp only [Act.put,sa1,sa2,sa3]; exact rfl
      refine take_named HOPS.out (i := 10) (d := (some 148)) (v := ?vc10) (a' := ?ac10) (l' := (bt 27 7342079)) (by simp only [ga1,ga2,ga3]; exact rfl) (by kernel_rfl) (by kernel_rfl) (by kernel_rfl) (fun _ _ _ h => h) (Or.inl ⟨by rfl,?hyc10⟩) (by assumption) (by rfl) ?hac10 (by kernel_rfl) ?rc10
      case hyc10 => intro w hSw; go_simp; try with_reducible rfl
      case hac10 => simp only [Act.put,sa1,sa2,sa3]; exact rfl
      refine take_named HOPS.out (i := 11) (d := (some 149)) (v := undef) (a' := ?ac11) (l' := (bt 27 7344127)) (by simp only [ga1,ga2,ga3]; exact rfl) (by kernel_rfl) (by kernel_rfl) (by kernel_rfl) (fun _ _ _ h => h) (Or.inr ⟨by rw [HOPS.out]; kernel_rfl,rfl⟩) (by assumption) (by rfl) ?hac11 (by kernel_rfl) ?rc11
      case hac11 => simp only [Act.put,sa1,sa2,sa3]; exact rfl
      refine take_named HOPS.out (i := 12) (d := (some 150)) (v := undef) (a' := ?ac12) (l' := (bt 27 7348223)) (by simp only [ga1,ga2,ga3]; exact rfl) (by kernel_rfl) (by kernel_rfl) (by kernel_rfl) (fun _ _ _ h => h) (Or.inr ⟨by rw [HOPS.out]; kernel_rfl,rfl⟩) (by assumption) (by rfl) ?hac12 (by kernel_rfl) ?rc12
      case hac12 => simp only [Act.put,sa1,sa2,sa3]; exact rfl
      refine take_named HOPS.out (i := 13) (d := (some 151)) (v := undef) (a' := ?ac13) (l' := (bt 27 7356415)) (by simp only [ga1,ga2,ga3]; exact rfl) (by kernel_rfl) (by kernel_rfl) (by kernel_rfl) (fun _ _ _ h => h) (Or.inr ⟨by rw [HOPS.out]; kernel_rfl,rfl⟩) (by assumption) (by rfl) ?hac13 (by kernel_rfl) ?rc13
      case hac13 => simp only [Act.put,sa1,sa2,sa3]; exact rfl
      refine take_named HOPS.out (i := 14) (d := (some 152)) (v := undef) (a' := ?ac14) (l' := (bt 27 7372799)) (by simp only [ga1,ga2,ga3]; exact rfl) (by kernel_rfl) (by kernel_rfl) (by kernel_rfl) (fun _ _ _ h => h) (Or.inr ⟨by rw [HOPS.out]; kernel_rfl,rfl⟩) (by assumption) (by rfl) ?hac14 (by kernel_rfl) ?rc14
      case hac14 => simp only [Act.put,sa1,sa2,sa3]; exact rfl
      refine take_named HOPS.out (i := 15) (d := (some 153)) (v := undef) (a' := ?ac15) (l' := (bt 27 7405567)) (by simp only [ga1,ga2,ga3]; exact rfl) (by kernel_rfl) (by kernel_rfl) (by kernel_rfl) (fun _ _ _ h => h) (Or.inr ⟨by rw [HOPS.out]; kernel_rfl,rfl⟩) (by assumption) (by rfl) ?hac15 (by kernel_rfl) ?rc15
      case hac15 => simp only [Act.put,sa1,sa2,sa3]; exact rfl
      refine take_named HOPS.out (i := 16) (d := (some 154)) (v := undef) (a' := ?ac16) (l' := (bt 27 7471103)) (by simp only [ga1,ga2,ga3]; exact rfl) (by kernel_rfl) (by kernel_rfl) (by kernel_rfl) (fun _ _ _ h => h) (Or.inr ⟨by rw [HOPS.out]; kernel_rfl,rfl⟩) (by assumption) (by rfl) ?hac16 (by kernel_rfl) ?rc16
      case hac16 => simp only [Act.put,sa1,sa2,sa3]; exact rfl
      refine take_named HOPS.out (i := 17) (d := (some 155)) (v := undef) (a' := ?ac17) (l' := (bt 27 7602175)) (by simp only [ga1,ga2,ga3]; exact rfl) (by kernel_rfl) (by kernel_rfl) (by kernel_rfl) (fun _ _ _ h => h) (Or.inr ⟨by rw [HOPS.out]; kernel_rfl,rfl⟩) (by assumption) (by rfl) ?hac17 (by kernel_rfl) ?rc17
      case hac17 => simp only [Act.put,sa1,sa2,sa3]; exact rfl
      refine take_named HOPS.out (i := 18) (d := (some 156)) (v := ?vc18) (a' := ?ac18) (l' := (bt 27 7864319)) (by simp only [ga1,ga2,ga3]; exact rfl) (by kernel_rfl) (by kernel_rfl) (by kernel_rfl) (fun _ _ _ h => h) (Or.inl ⟨by rfl,?hyc18⟩) (by assumption) (by rfl) ?hac18 (by kernel_rfl) ?rc18
      case hyc18 => intro w hSw; go_simp; try with_reducible rfl
      case hac18 => simp only [Act.put,sa1,sa2,sa3]; exact rfl
      refine wpAnyH_ready (rs := [19]) (by rw [HOPS.out]; kernel_rfl) (by simp) ?_
      refine ready_named HOPS.out (l' := (bt 27 8388607)) (by simp only [ga1,ga2,ga3]; exact rfl) (by kernel_rfl) (fun K hK => ?_) AllReadyH.nil
      go_simp
      go_at_call 55
      refine (specWhen _ _).mono ?_
      rintro e ux ⟨rfl,rfl⟩
      refine hK.out _ _ HS0.out.S (fun hHeld => ?_)
      clear hK K
      try simp only [Act.put,sa1,sa2,sa3]
      refine wpAnyH_ready (rs := [23]) (by rw [HOPS.out]; kernel_rfl) (by simp) ?_
      refine ready_named HOPS.out (l' := (bt 27 16777215)) (by simp only [ga1,ga2,ga3]; exact rfl) (by kernel_rfl) (fun K hK => ?_) AllReadyH.nil
      go_simp
      go_at_call 60
      refine (specMoment h.ms h.mn 2 _).mono ?_
      rintro e u1 ⟨x1,rfl,hb1,hx1,hp1⟩
      have HS1 := Lib.hid (HS0.out.below hb1); have HX1 := Lib.hid hx1; have HQ1 := Lib.hid hp1
      refine hK.out _ _ HS1.out.S (fun hHeld => ?_)
      clear hK K hb1 hx1 hp1
      try simp only [Act.put,sa1,sa2,sa3]
      refine wpAnyH_ready (rs := [24]) (by rw [HOPS.out]; kernel_rfl) (by simp) ?_
      refine ready_named HOPS.out (l' := (bt 27 33554431)) (by simp only [ga1,ga2,ga3]; exact rfl) (by kernel_rfl) (fun K hK => ?_) AllReadyH.nil
      go_simp
      refine hK.out _ _ (HS1.out.below ((Below.refl _ _).alloc (Nat.le_refl _) _)).S (fun hHeld => ?_)
      clear hK K
      try simp only [Act.put,sa1,sa2,sa3]
      refine wpAnyH_ready (rs := [25]) (by rw [HOPS.out]; kernel_rfl) (by simp) ?_
      refine ready_named HOPS.out (l' := (bt 27 67108863)) (by simp only [ga1,ga2,ga3]; exact rfl) (by kernel_rfl) (fun K hK => ?_) AllReadyH.nil
      go_simp
      go_at_call 57
      refine (specAll [v,whenV false,x1] u1.heap.size 3 _ (at_new u1 [.int .i64 v,.int .i64 (whenV false),.int .i64 x1] 3) ?_ (by simp)).mono ?_
      · intro x hx
        simp only [List.mem_cons,List.not_mem_nil,or_false] at hx
        rcases hx with rfl | rfl | rfl
        · exact HV.out
        · exact whenV_in _
        · exact HX1.out
      rintro e u9 ⟨v2,rfl,hb9,hv9,hp9⟩
      have HK9 := Lib.hid (HS1.out.alloc _ hb9); have HV9 := Lib.hid hv9; have HP9 := Lib.hid hp9
      refine hK.out _ _ HK9.out.S (fun hHeld => ?_)
      clear hK K hb9 hv9 hp9
      try simp only [Act.put,sa1,sa2,sa3]
      refine take_named HOPS.out (i := 26) (d := (some 5)) (v := ?vc26) (a' := ?ac26) (l' := (bt 27 134217727)) (by simp only [ga1,ga2,ga3]; exact rfl) (by kernel_rfl) (by kernel_rfl) (by kernel_rfl) (fun _ _ _ h => h) (Or.inl ⟨by rfl,?hyc26⟩) (by assumption) (by rfl) ?hac26 (by kernel_rfl) ?rc26
      case hyc26 => intro w hSw; go_simp; try with_reducible rfl
      case hac26 => simp only [Act.put,sa1,sa2,sa3]; exact rfl
      refine wpAnyH_done (by rw [HOPS.out]; kernel_rfl) ?_ _
      refine HK1.out _ _ ?_
      exact can15 h hb v2 v4 _ w0 HK9.out HV9.out p c HR.out P (fun e k => HP.out (HP9.out e v (by simp)) ⟨HQ1.out (HP9.out e x1 (by simp)),k⟩)
  · have s1 : 0 ≤ h.size := by omega
    refine wp_seq_k (fun K1 hK1 => ?_)
    have HK1 := Lib.hid hK1
    clear hK1
    refine region_named (S := fun w' => SB hb h w') (n := 27) (l0 := (bt 27 0)) (by kernel_rfl) rfl (by kernel_rfl) HK.out.S (fun ops HOPS hHeld => ?_)
    have HS0 : Hid (CS hb h w0 w.drew) := Lib.hid (HK.out.below ((Below.refl _ w).drew))
    clear HK
    generalize w.drew = u0 at *
    refine take_named HOPS.out (i := 0) (d := (some 138)) (v := ?va0) (a' := ?aa0) (l' := (bt 27 1)) (by simp only [ga1,ga2,ga3]; exact rfl) (by kernel_rfl) (by kernel_rfl) (by kernel_rfl) (fun _ _ _ h => h) (Or.inl ⟨by rfl,?hya0⟩) (by assumption) (by rfl) ?haa0 (by kernel_rfl) ?ra0
    case hya0 => intro w hSw; go_simp; try with_reducible rfl
    case haa0 => simp only [Act.put,sa1,sa2,sa3]; exact rfl
    refine take_named HOPS.out (i := 1) (d := (some 139)) (v := ?va1) (a' := ?aa1) (l' := (bt 27 3)) (by simp only [ga1,ga2,ga3]; exact rfl) (by kernel_rfl) (by kernel_rfl) (by kernel_rfl) (fun _ _ _ h => h) (Or.inl ⟨by rfl,?hya1⟩) (by assumption) (by rfl) ?haa1 (by kernel_rfl) ?ra1
    case hya1 => intro w hSw; go_simp; try with_reducible rfl
    case haa1 => simp only [Act.put,sa1,sa2,sa3]; exact rfl
    refine take_named HOPS.out (i := 2) (d := (some 140)) (a' := ?aa2) (l' := (bt 27 7)) (by simp only [ga1,ga2,ga3]; exact rfl) (by kernel_rfl) (by kernel_rfl) (by kernel_rfl) (fun _ _ _ h => h) (yieldsIf_load_run (by rfl) _ _ rfl ⟨hb,3,none⟩ rfl (.int .i64 h.size) (fun w' hw' => ld2 (hw'.cell 3 (.int .i64 h.size) rfl))) (by assumption) (by rfl) ?haa2 (by kernel_rfl) ?ra2
    case haa2 => simp only [Act.put,sa1,sa2,sa3]; exact rfl
    refine take_named HOPS.out (i := 3) (d := (some 141)) (v := .bool true) (a' := ?aa3) (l' := (bt 27 15)) (by simp only [ga1,ga2,ga3]; exact rfl) (by kernel_rfl) (by kernel_rfl) (by kernel_rfl) (fun _ _ _ h => h) (Or.inl ⟨by rfl,?hya3⟩) (by assumption) (by rfl) ?haa3 (by kernel_rfl) ?ra3
    case hya3 => intro w hSw; go_simp; try with_reducible rfl
    case haa3 => simp only [Act.put,sa1,sa2,sa3]; exact rfl
    refine take_named HOPS.out (i := 4) (d := (some 142)) (v := ?va4) (a' := ?aa4) (l' := (bt 27 31)) (by simp only [ga1,ga2,ga3]; exact rfl) (by kernel_rfl) (by kernel_rfl) (by kernel_rfl) (fun _ _ _ h => h) (Or.inl ⟨by rfl,?hya4⟩) (by assumption) (by rfl) ?haa4 (by kernel_rfl) ?ra4
    case hya4 => intro w hSw; go_simp; try with_reducible rfl
    case haa4 => simp only [Act.put,sa1,sa2,sa3]; exact rfl
    refine take_named HOPS.out (i := 20) (d := (some 158)) (v := ?va20) (a' := ?aa20) (l' := (bt 27 1048607)) (by simp only [ga1,ga2,ga3]; exact rfl) (by kernel_rfl) (by kernel_rfl) (by kernel_rfl) (fun _ _ _ h => h) (Or.inl ⟨by rfl,?hya20⟩) (by assumption) (by rfl) ?haa20 (by kernel_rfl) ?ra20
    case hya20 => intro w hSw; go_simp; try with_reducible rfl
    case haa20 => simp only [Act.put,sa1,sa2,sa3]; exact rfl
    refine take_named HOPS.out (i := 21) (d := (some 159)) (a' := ?aa21) (l' := (bt 27 3145759)) (by simp only [ga1,ga2,ga3]; exact rfl) (by kernel_rfl) (by kernel_rfl) (by kernel_rfl) (fun _ _ _ h => h) (yieldsIf_load_run (by rfl) _ _ rfl ⟨hb,9,none⟩ rfl (.agg #[.int .i64 h.ms,.int .i64 h.mn]) (fun w' hw' => ld28 (hw'.cell 9 (.int .i64 h.ms) rfl) (hw'.cell 10 (.int .i64 h.mn) rfl))) (by assumption) (by rfl) ?haa21 (by kernel_rfl) ?ra21
    case haa21 => simp only [Act.put,sa1,sa2,sa3]; exact rfl
    refine take_named HOPS.out (i := 22) (d := (some 160)) (v := ?va22) (a' := ?aa22) (l' := (bt 27 7340063)) (by simp only [ga1,ga2,ga3]; exact rfl) (by kernel_rfl) (by kernel_rfl) (by kernel_rfl) (fun _ _ _ h => h) (Or.inl ⟨by rfl,?hya22⟩) (by assumption) (by rfl) ?haa22 (by kernel_rfl) ?ra22
    case hya22 => intro w hSw; go_simp; try with_reducible rfl
    case haa22 => simp only [Act.put,sa1,sa2,sa3]; exact rfl
    refine take_named HOPS.out (i := 5) (d := (some 143)) (v := undef) (a' := ?aa5) (l' := (bt 27 7340095)) (by simp only [ga1,ga2,ga3]; exact rfl) (by kernel_rfl) (by kernel_rfl) (by kernel_rfl) (fun _ _ _ h => h) (Or.inr ⟨by rw [HOPS.out]; kernel_rfl,rfl⟩) (by assumption) (by rfl) ?haa5 (by kernel_rfl) ?ra5
    case haa5 => simp only [Act.put,sa1,sa2,sa3]; exact rfl
    refine take_named HOPS.out (i := 6) (d := (some 144)) (v := undef) (a' := ?aa6) (l' := (bt 27 7340159)) (by simp only [ga1,ga2,ga3]; exact rfl) (by kernel_rfl) (by kernel_rfl) (by kernel_rfl) (fun _ _ _ h => h) (Or.inr ⟨by rw [HOPS.out]; kernel_rfl,rfl⟩) (by assumption) (by rfl) ?haa6 (by kernel_rfl) ?ra6
    case haa6 => simp only [Act.put,sa1,sa2,sa3]; exact rfl
    refine take_named HOPS.out (i := 7) (d := (some 145)) (v := undef) (a' := ?aa7) (l' := (bt 27 7340287)) (by simp only [ga1,ga2,ga3]; exact rfl) (by kernel_rfl) (by kernel_rfl) (by kernel_rfl) (fun _ _ _ h => h) (Or.inr ⟨by rw [HOPS.out]; kernel_rfl,rfl⟩) (by assumption) (by rfl) ?haa7 (by kernel_rfl) ?ra7
    case haa7 => simp only [Act.put,sa1,sa2,sa3]; exact rfl
    refine take_named HOPS.out (i := 8) (d := (some 146)) (v := undef) (a' := ?aa8) (l' := (bt 27 7340543)) (by simp only [ga1,ga2,ga3]; exact rfl) (by kernel_rfl) (by kernel_rfl) (by kernel_rfl) (fun _ _ _ h => h) (Or.inr ⟨by rw [HOPS.out]; kernel_rfl,rfl⟩) (by assumption) (by rfl) ?haa8 (by kernel_rfl) ?ra8
    case haa8 => simp only [Act.put,sa1,sa2,sa3]; exact rfl
    refine take_named HOPS.out (i := 9) (d := (some 147)) (v := ?va9) (a' := ?aa9) (l' := (bt 27 7341055)) (by simp only [ga1,ga2,ga3]; exact rfl) (by kernel_rfl) (by kernel_rfl) (by kernel_rfl) (fun _ _ _ h => h) (Or.inl ⟨by rfl,?hya9⟩) (by assumption) (by rfl) ?haa9 (by kernel_rfl) ?ra9
    case hya9 => intro w hSw; go_simp; try with_reducible rfl
    case haa9 => simp only [Act.put,sa1,sa2,sa3]; exact rfl
    refine take_named HOPS.out (i := 10) (d := (some 148)) (v := ?va10) (a' := ?aa10) (l' := (bt 27 7342079)) (by simp only [ga1,ga2,ga3]; exact rfl) (by kernel_rfl) (by kernel_rfl) (by kernel_rfl) (fun _ _ _ h => h) (Or.inl ⟨by rfl,?hya10⟩) (by assumption) (by rfl) ?haa10 (by kernel_rfl) ?ra10
    case hya10 => intro w hSw; go_simp; try with_reducible rfl
    case haa10 => simp only [Act.put,sa1,sa2,sa3]; exact rfl
    refine take_named HOPS.out (i := 11) (d := (some 149)) (v := ?va11) (a' := ?aa11) (l' := (bt 27 7344127)) (by simp only [ga1,ga2,ga3]; exact rfl) (by kernel_rfl) (by kernel_rfl) (by kernel_rfl) (fun _ _ _ h => h) (Or.inl ⟨by rw [HOPS.out]; kernel_rfl,?hya11⟩) (by assumption) (by rfl) ?haa11 (by kernel_rfl) ?ra11
    case hya11 => intro w hSw; go_simp; try with_reducible rfl
    case haa11 => simp only [Act.put,sa1,sa2,sa3]; exact rfl
    refine take_named HOPS.out (i := 12) (d := (some 150)) (v := .bool true) (a' := ?aa12) (l' := (bt 27 7348223)) (by simp only [ga1,ga2,ga3]; exact rfl) (by kernel_rfl) (by kernel_rfl) (by kernel_rfl) (fun _ _ _ h => h) (Or.inl ⟨by rw [HOPS.out]; kernel_rfl,?hya12⟩) (by assumption) (by rfl) ?haa12 (by kernel_rfl) ?ra12
    case hya12 => intro w hSw; go_simp; try with_reducible rfl
    case haa12 => simp only [Act.put,sa1,sa2,sa3]; exact rfl
    refine take_named HOPS.out (i := 13) (d := (some 151)) (v := ?va13) (a' := ?aa13) (l' := (bt 27 7356415)) (by simp only [ga1,ga2,ga3]; exact rfl) (by kernel_rfl) (by kernel_rfl) (by kernel_rfl) (fun _ _ _ h => h) (Or.inl ⟨by rw [HOPS.out]; kernel_rfl,?hya13⟩) (by assumption) (by rfl) ?haa13 (by kernel_rfl) ?ra13
    case hya13 => intro w hSw; go_simp; try with_reducible rfl
    case haa13 => simp only [Act.put,sa1,sa2,sa3]; exact rfl
    refine take_named HOPS.out (i := 14) (d := (some 152)) (v := undef) (a' := ?aa14) (l' := (bt 27 7372799)) (by simp only [ga1,ga2,ga3]; exact rfl) (by kernel_rfl) (by kernel_rfl) (by kernel_rfl) (fun _ _ _ h => h) (Or.inr ⟨by rw [HOPS.out]; kernel_rfl,rfl⟩) (by assumption) (by rfl) ?haa14 (by kernel_rfl) ?ra14
    case haa14 => simp only [Act.put,sa1,sa2,sa3]; exact rfl
    refine take_named HOPS.out (i := 15) (d := (some 153)) (v := undef) (a' := ?aa15) (l' := (bt 27 7405567)) (by simp only [ga1,ga2,ga3]; exact rfl) (by kernel_rfl) (by kernel_rfl) (by kernel_rfl) (fun _ _ _ h => h) (Or.inr ⟨by rw [HOPS.out]; kernel_rfl,rfl⟩) (by assumption) (by rfl) ?haa15 (by kernel_rfl) ?ra15
    case haa15 => simp only [Act.put,sa1,sa2,sa3]; exact rfl
    refine take_named HOPS.out (i := 16) (d := (some 154)) (v := undef) (a' := ?aa16) (l' := (bt 27 7471103)) (by simp only [ga1,ga2,ga3]; exact rfl) (by kernel_rfl) (by kernel_rfl) (by kernel_rfl) (fun _ _ _ h => h) (Or.inr ⟨by rw [HOPS.out]; kernel_rfl,rfl⟩) (by assumption) (by rfl) ?haa16 (by kernel_rfl) ?ra16
    case haa16 => simp only [Act.put,sa1,sa2,sa3]; exact rfl
    refine take_named HOPS.out (i := 17) (d := (some 155)) (v := ?va17) (a' := ?aa17) (l' := (bt 27 7602175)) (by simp only [ga1,ga2,ga3]; exact rfl) (by kernel_rfl) (by kernel_rfl) (by kernel_rfl) (fun _ _ _ h => h) (Or.inl ⟨by rw [HOPS.out]; kernel_rfl,?hya17⟩) (by assumption) (by rfl) ?haa17 (by kernel_rfl) ?ra17
    case hya17 => intro w hSw; go_simp; try with_reducible rfl
    case haa17 => simp only [Act.put,sa1,sa2,sa3]; exact rfl
    refine take_named HOPS.out (i := 18) (d := (some 156)) (v := ?va18) (a' := ?aa18) (l' := (bt 27 7864319)) (by simp only [ga1,ga2,ga3]; exact rfl) (by kernel_rfl) (by kernel_rfl) (by kernel_rfl) (fun _ _ _ h => h) (Or.inl ⟨by rfl,?hya18⟩) (by assumption) (by rfl) ?haa18 (by kernel_rfl) ?ra18
    case hya18 => intro w hSw; go_simp; try with_reducible rfl
    case haa18 => simp only [Act.put,sa1,sa2,sa3]; exact rfl
    refine wpAnyH_ready (rs := [19]) (by rw [HOPS.out]; kernel_rfl) (by simp) ?_
    refine ready_named HOPS.out (l' := (bt 27 8388607)) (by simp only [ga1,ga2,ga3]; exact rfl) (by kernel_rfl) (fun K hK => ?_) AllReadyH.nil
    go_simp
    go_at_call 55
    refine (specWhen _ _).mono ?_
    rintro e ux ⟨rfl,rfl⟩
    refine hK.out _ _ HS0.out.S (fun hHeld => ?_)
    clear hK K
    try simp only [Act.put,sa1,sa2,sa3]
    refine wpAnyH_ready (rs := [23]) (by rw [HOPS.out]; kernel_rfl) (by simp) ?_
    refine ready_named HOPS.out (l' := (bt 27 16777215)) (by simp only [ga1,ga2,ga3]; exact rfl) (by kernel_rfl) (fun K hK => ?_) AllReadyH.nil
    go_simp
    go_at_call 60
    refine (specMoment h.ms h.mn 2 _).mono ?_
    rintro e u1 ⟨x1,rfl,hb1,hx1,hp1⟩
    have HS1 := Lib.hid (HS0.out.below hb1); have HX1 := Lib.hid hx1; have HQ1 := Lib.hid hp1
    refine hK.out _ _ HS1.out.S (fun hHeld => ?_)
    clear hK K hb1 hx1 hp1
    try simp only [Act.put,sa1,sa2,sa3]
    refine wpAnyH_ready (rs := [24]) (by rw [HOPS.out]; kernel_rfl) (by simp) ?_
    refine ready_named HOPS.out (l' := (bt 27 33554431)) (by simp only [ga1,ga2,ga3]; exact rfl) (by kernel_rfl) (fun K hK => ?_) AllReadyH.nil
    go_simp
    refine hK.out _ _ (HS1.out.below ((Below.refl _ _).alloc (Nat.le_refl _) _)).S (fun hHeld => ?_)
    clear hK K
    try simp only [Act.put,sa1,sa2,sa3]
    refine wpAnyH_ready (rs := [25]) (by rw [HOPS.out]; kernel_rfl) (by simp) ?_
    refine ready_named HOPS.out (l' := (bt 27 67108863)) (by simp only [ga1,ga2,ga3]; exact rfl) (by kernel_rfl) (fun K hK => ?_) AllReadyH.nil
    go_simp
    go_at_call 57
    refine (specAll [v,whenV true,x1] u1.heap.size 3 _ (at_new u1 [.int .i64 v,.int .i64 (whenV true),.int .i64 x1] 3) ?_ (by simp)).mono ?_
    · intro x hx
      simp only [List.mem_cons,List.not_mem_nil,or_false] at hx
      rcases hx with rfl | rfl | rfl
      · exact HV.out
      · exact whenV_in _
      · exact HX1.out
    rintro e u9 ⟨v2,rfl,hb9,hv9,hp9⟩
    have HK9 := Lib.hid (HS1.out.alloc _ hb9); have HV9 := Lib.hid hv9; have HP9 := Lib.hid hp9
    refine hK.out _ _ HK9.out.S (fun hHeld => ?_)
    clear hK K hb9 hv9 hp9
    try simp only [Act.put,sa1,sa2,sa3]
    refine take_named HOPS.out (i := 26) (d := (some 5)) (v := ?va26) (a' := ?aa26) (l' := (bt 27 134217727)) (by simp only [ga1,ga2,ga3]; exact rfl) (by kernel_rfl) (by kernel_rfl) (by kernel_rfl) (fun _ _ _ h => h) (Or.inl ⟨by rfl,?hya26⟩) (by assumption) (by rfl) ?haa26 (by kernel_rfl) ?ra26
    case hya26 => intro w hSw; go_simp; try with_reducible rfl
    case haa26 => simp only [Act.put,sa1,sa2,sa3]; exact rfl
    refine wpAnyH_done (by rw [HOPS.out]; kernel_rfl) ?_ _
    refine HK1.out _ _ ?_
    exact can15 h hb v2 v4 _ w0 HK9.out HV9.out p c HR.out P (fun e k => HP.out (HP9.out e v (by simp)) ⟨HQ1.out (HP9.out e x1 (by simp)),k⟩)
set_option maxHeartbeats 16000000 in
theorem can13 (h : IH) (hb : Nat) (v v4 : Int) (w w0 : World) (K : CS hb h w0 w) (hv : tri v) (p : Option Addr) (c : Nat) (hr : h.recs = .slice p 0 c) (P : Prop) (hP : v = 1 → CF13 h → P) :
    Code.wp Tryz.prog restC13 (bodyPost Tryz.prog Tryz.f27 (VRight P w0)) ⟨(c0::.int .i64 2::.pointer (some ⟨hb,0,none⟩)::c3::.int .i64 v4::.int .i64 v::c6::c7::c8::c9::c10::c11::c12::c13::c14::c15::c16::c17::c18::c19::c20::c21::c22::c23::c24::c25::c26::c27::c28::c29::c30::c31::c32::c33::c34::c35::c36::c37::c38::c39::c40::c41::c42::c43::c44::c45::c46::c47::c48::c49::c50::c51::c52::c53::c54::c55::c56::c57::c58::c59::c60::c61::c62::c63::c64::c65::c66::c67::c68::c69::c70::c71::c72::c73::c74::c75::c76::c77::c78::c79::c80::c81::c82::c83::c84::c85::c86::c87::c88::c89::c90::c91::c92::c93::c94::c95::c96::c97::c98::c99::c100::c101::c102::c103::c104::c105::c106::c107::c108::c109::c110::c111::c112::c113::c114::c115::c116::c117::c118::c119::c120::c121::c122::c123::c124::c125::c126::c127::c128::c129::c130::c131::c132::c133::c134::c135::c136::c137::c138::c139::c140::c141::c142::c143::c144::c145::c146::c147::c148::c149::c150::c151::c152::c153::c154::c155::c156::c157::c158::c159::c160::c161::c162::c163::c164::c165::c166::c167::c168::c169::c170::c171::c172::c173::c174::c175::c176::c177::c178::c179::c180::c181::c182::c183::c184::c185::c186::c187::c188::c189::c190::c191::c192::c193::c194::c195::c196::c197::c198::c199::c200::c201::c202::c203::c204::c205::c206::c207::c208::c209::c210::c211::c212::c213::c214::c215::c216::c217::c218::c219::c220::c221::c222::c223::c224::c225::c226::c227::c228::c229::c230::c231::c232::c233::c234::c235::c236::c237::c238::c239::c240::c241::c242::c243::c244::c245::c246::c247::c248::c249::c250::c251::c252::[]).toArray,[]⟩ w := by
  conv => arg 2; whnf
  have HK := Lib.hid K; have HP := Lib.hid hP; have HV := Lib.hid hv; have HR := Lib.hid hr
  clear K hP hv hr
  refine wp_seq_k (fun K1 hK1 => ?_)
  have HK1 := Lib.hid hK1
  clear hK1
  refine region_named (S := fun w' => SB hb h w') (n := 24) (l0 := (bt 24 0)) (by kernel_rfl) rfl (by kernel_rfl) HK.out.S (fun ops HOPS hHeld => ?_)
  have HS0 : Hid (CS hb h w0 w.drew) := Lib.hid (HK.out.below ((Below.refl _ w).drew))
  clear HK
  generalize w.drew = u0 at *
  refine take_named HOPS.out (i := 0) (d := (some 115)) (v := ?v0) (a' := ?a0) (l' := (bt 24 1)) (by simp only [ga1,ga2,ga3]; exact rfl) (by kernel_rfl) (by kernel_rfl) (by kernel_rfl) (fun _ _ _ h => h) (Or.inl ⟨by rfl,?hy0⟩) (by assumption) (by rfl) ?ha0 (by kernel_rfl) ?r0
  case hy0 => intro w hSw; go_simp; try with_reducible rfl
  case ha0 => simp only [Act.put,sa1,sa2,sa3]; exact rfl
  refine take_named HOPS.out (i := 1) (d := (some 116)) (v := ?v1) (a' := ?a1) (l' := (bt 24 3)) (by simp only [ga1,ga2,ga3]; exact rfl) (by kernel_rfl) (by kernel_rfl) (by kernel_rfl) (fun _ _ _ h => h) (Or.inl ⟨by rfl,?hy1⟩) (by assumption) (by rfl) ?ha1 (by kernel_rfl) ?r1
  case hy1 => intro w hSw; go_simp; try with_reducible rfl
  case ha1 => simp only [Act.put,sa1,sa2,sa3]; exact rfl
  refine take_named HOPS.out (i := 2) (d := (some 117)) (a' := ?a2) (l' := (bt 24 7)) (by simp only [ga1,ga2,ga3]; exact rfl) (by kernel_rfl) (by kernel_rfl) (by kernel_rfl) (fun _ _ _ h => h) (yieldsIf_load_run (by rfl) _ _ rfl ⟨hb,4,none⟩ rfl (.int .i64 h.mode) (fun w' hw' => ld2 (hw'.cell 4 (.int .i64 h.mode) rfl))) (by assumption) (by rfl) ?ha2 (by kernel_rfl) ?r2
  case ha2 => simp only [Act.put,sa1,sa2,sa3]; exact rfl
  refine take_named HOPS.out (i := 3) (d := (some 118)) (v := ?v3) (a' := ?a3) (l' := (bt 24 15)) (by simp only [ga1,ga2,ga3]; exact rfl) (by kernel_rfl) (by kernel_rfl) (by kernel_rfl) (fun _ _ _ h => h) (Or.inl ⟨by rfl,?hy3⟩) (by assumption) (by rfl) ?ha3 (by kernel_rfl) ?r3
  case hy3 => intro w hSw; go_simp; try with_reducible rfl
  case ha3 => simp only [Act.put,sa1,sa2,sa3]; exact rfl
  refine take_named HOPS.out (i := 5) (d := (some 120)) (v := ?v5) (a' := ?a5) (l' := (bt 24 47)) (by simp only [ga1,ga2,ga3]; exact rfl) (by kernel_rfl) (by kernel_rfl) (by kernel_rfl) (fun _ _ _ h => h) (Or.inl ⟨by rfl,?hy5⟩) (by assumption) (by rfl) ?ha5 (by kernel_rfl) ?r5
  case hy5 => intro w hSw; go_simp; try with_reducible rfl
  case ha5 => simp only [Act.put,sa1,sa2,sa3]; exact rfl
  refine take_named HOPS.out (i := 6) (d := (some 121)) (a' := ?a6) (l' := (bt 24 111)) (by simp only [ga1,ga2,ga3]; exact rfl) (by kernel_rfl) (by kernel_rfl) (by kernel_rfl) (fun _ _ _ h => h) (yieldsIf_load_run (by rfl) _ _ rfl ⟨hb,5,none⟩ rfl (.int .i64 h.uid) (fun w' hw' => ld2 (hw'.cell 5 (.int .i64 h.uid) rfl))) (by assumption) (by rfl) ?ha6 (by kernel_rfl) ?r6
  case ha6 => simp only [Act.put,sa1,sa2,sa3]; exact rfl
  refine take_named HOPS.out (i := 7) (d := (some 122)) (v := ?v7) (a' := ?a7) (l' := (bt 24 239)) (by simp only [ga1,ga2,ga3]; exact rfl) (by kernel_rfl) (by kernel_rfl) (by kernel_rfl) (fun _ _ _ h => h) (Or.inl ⟨by rfl,?hy7⟩) (by assumption) (by rfl) ?ha7 (by kernel_rfl) ?r7
  case hy7 => intro w hSw; go_simp; try with_reducible rfl
  case ha7 => simp only [Act.put,sa1,sa2,sa3]; exact rfl
  refine take_named HOPS.out (i := 9) (d := (some 124)) (v := ?v9) (a' := ?a9) (l' := (bt 24 751)) (by simp only [ga1,ga2,ga3]; exact rfl) (by kernel_rfl) (by kernel_rfl) (by kernel_rfl) (fun _ _ _ h => h) (Or.inl ⟨by rfl,?hy9⟩) (by assumption) (by rfl) ?ha9 (by kernel_rfl) ?r9
  case hy9 => intro w hSw; go_simp; try with_reducible rfl
  case ha9 => simp only [Act.put,sa1,sa2,sa3]; exact rfl
  refine take_named HOPS.out (i := 10) (d := (some 125)) (a' := ?a10) (l' := (bt 24 1775)) (by simp only [ga1,ga2,ga3]; exact rfl) (by kernel_rfl) (by kernel_rfl) (by kernel_rfl) (fun _ _ _ h => h) (yieldsIf_load_run (by rfl) _ _ rfl ⟨hb,6,none⟩ rfl (.int .i64 h.gid) (fun w' hw' => ld2 (hw'.cell 6 (.int .i64 h.gid) rfl))) (by assumption) (by rfl) ?ha10 (by kernel_rfl) ?r10
  case ha10 => simp only [Act.put,sa1,sa2,sa3]; exact rfl
  refine take_named HOPS.out (i := 11) (d := (some 126)) (v := ?v11) (a' := ?a11) (l' := (bt 24 3823)) (by simp only [ga1,ga2,ga3]; exact rfl) (by kernel_rfl) (by kernel_rfl) (by kernel_rfl) (fun _ _ _ h => h) (Or.inl ⟨by rfl,?hy11⟩) (by assumption) (by rfl) ?ha11 (by kernel_rfl) ?r11
  case hy11 => intro w hSw; go_simp; try with_reducible rfl
  case ha11 => simp only [Act.put,sa1,sa2,sa3]; exact rfl
  refine take_named HOPS.out (i := 13) (d := (some 128)) (v := ?v13) (a' := ?a13) (l' := (bt 24 12015)) (by simp only [ga1,ga2,ga3]; exact rfl) (by kernel_rfl) (by kernel_rfl) (by kernel_rfl) (fun _ _ _ h => h) (Or.inl ⟨by rfl,?hy13⟩) (by assumption) (by rfl) ?ha13 (by kernel_rfl) ?r13
  case hy13 => intro w hSw; go_simp; try with_reducible rfl
  case ha13 => simp only [Act.put,sa1,sa2,sa3]; exact rfl
  refine take_named HOPS.out (i := 14) (d := (some 129)) (a' := ?a14) (l' := (bt 24 28399)) (by simp only [ga1,ga2,ga3]; exact rfl) (by kernel_rfl) (by kernel_rfl) (by kernel_rfl) (fun _ _ _ h => h) (yieldsIf_load_run (by rfl) _ _ rfl ⟨hb,17,none⟩ rfl (.int .i64 h.maj) (fun w' hw' => ld2 (hw'.cell 17 (.int .i64 h.maj) rfl))) (by assumption) (by rfl) ?ha14 (by kernel_rfl) ?r14
  case ha14 => simp only [Act.put,sa1,sa2,sa3]; exact rfl
  refine take_named HOPS.out (i := 15) (d := (some 130)) (v := ?v15) (a' := ?a15) (l' := (bt 24 61167)) (by simp only [ga1,ga2,ga3]; exact rfl) (by kernel_rfl) (by kernel_rfl) (by kernel_rfl) (fun _ _ _ h => h) (Or.inl ⟨by rfl,?hy15⟩) (by assumption) (by rfl) ?ha15 (by kernel_rfl) ?r15
  case hy15 => intro w hSw; go_simp; try with_reducible rfl
  case ha15 => simp only [Act.put,sa1,sa2,sa3]; exact rfl
  refine take_named HOPS.out (i := 17) (d := (some 132)) (v := ?v17) (a' := ?a17) (l' := (bt 24 192239)) (by simp only [ga1,ga2,ga3]; exact rfl) (by kernel_rfl) (by kernel_rfl) (by kernel_rfl) (fun _ _ _ h => h) (Or.inl ⟨by rfl,?hy17⟩) (by assumption) (by rfl) ?ha17 (by kernel_rfl) ?r17
  case hy17 => intro w hSw; go_simp; try with_reducible rfl
  case ha17 => simp only [Act.put,sa1,sa2,sa3]; exact rfl
  refine take_named HOPS.out (i := 18) (d := (some 133)) (a' := ?a18) (l' := (bt 24 454383)) (by simp only [ga1,ga2,ga3]; exact rfl) (by kernel_rfl) (by kernel_rfl) (by kernel_rfl) (fun _ _ _ h => h) (yieldsIf_load_run (by rfl) _ _ rfl ⟨hb,18,none⟩ rfl (.int .i64 h.mnr) (fun w' hw' => ld2 (hw'.cell 18 (.int .i64 h.mnr) rfl))) (by assumption) (by rfl) ?ha18 (by kernel_rfl) ?r18
  case ha18 => simp only [Act.put,sa1,sa2,sa3]; exact rfl
  refine take_named HOPS.out (i := 19) (d := (some 134)) (v := ?v19) (a' := ?a19) (l' := (bt 24 978671)) (by simp only [ga1,ga2,ga3]; exact rfl) (by kernel_rfl) (by kernel_rfl) (by kernel_rfl) (fun _ _ _ h => h) (Or.inl ⟨by rfl,?hy19⟩) (by assumption) (by rfl) ?ha19 (by kernel_rfl) ?r19
  case hy19 => intro w hSw; go_simp; try with_reducible rfl
  case ha19 => simp only [Act.put,sa1,sa2,sa3]; exact rfl
  refine wpAnyH_ready (rs := [4]) (by rw [HOPS.out]; kernel_rfl) (by simp) ?_
  refine ready_named HOPS.out (l' := (bt 24 978687)) (by simp only [ga1,ga2,ga3]; exact rfl) (by kernel_rfl) (fun K hK => ?_) AllReadyH.nil
  go_simp
  go_at_call 59
  refine (specSmall h.mode 2 false _).mono ?_
  rintro e u1 ⟨x1,rfl,hb1,hx1,hp1⟩
  have HS1 := Lib.hid (HS0.out.below hb1); have HX1 := Lib.hid hx1; have HQ1 := Lib.hid hp1
  refine hK.out _ _ HS1.out.S (fun hHeld => ?_)
  clear hK K hb1 hx1 hp1
  try simp only [Act.put,sa1,sa2,sa3]
  refine wpAnyH_ready (rs := [8]) (by rw [HOPS.out]; kernel_rfl) (by simp) ?_
  refine ready_named HOPS.out (l' := (bt 24 978943)) (by simp only [ga1,ga2,ga3]; exact rfl) (by kernel_rfl) (fun K hK => ?_) AllReadyH.nil
  go_simp
  go_at_call 59
  refine (specSmall h.uid 2 true _).mono ?_
  rintro e u2 ⟨x2,rfl,hb2,hx2,hp2⟩
  have HS2 := Lib.hid (HS1.out.below hb2); have HX2 := Lib.hid hx2; have HQ2 := Lib.hid hp2
  refine hK.out _ _ HS2.out.S (fun hHeld => ?_)
  clear hK K hb2 hx2 hp2
  try simp only [Act.put,sa1,sa2,sa3]
  refine wpAnyH_ready (rs := [12]) (by rw [HOPS.out]; kernel_rfl) (by simp) ?_
  refine ready_named HOPS.out (l' := (bt 24 983039)) (by simp only [ga1,ga2,ga3]; exact rfl) (by kernel_rfl) (fun K hK => ?_) AllReadyH.nil
  go_simp
  go_at_call 59
  refine (specSmall h.gid 2 true _).mono ?_
  rintro e u3 ⟨x3,rfl,hb3,hx3,hp3⟩
  have HS3 := Lib.hid (HS2.out.below hb3); have HX3 := Lib.hid hx3; have HQ3 := Lib.hid hp3
  refine hK.out _ _ HS3.out.S (fun hHeld => ?_)
  clear hK K hb3 hx3 hp3
  try simp only [Act.put,sa1,sa2,sa3]
  refine wpAnyH_ready (rs := [16]) (by rw [HOPS.out]; kernel_rfl) (by simp) ?_
  refine ready_named HOPS.out (l' := (bt 24 1048575)) (by simp only [ga1,ga2,ga3]; exact rfl) (by kernel_rfl) (fun K hK => ?_) AllReadyH.nil
  go_simp
  go_at_call 59
  refine (specSmall h.maj 2 false _).mono ?_
  rintro e u4 ⟨x4,rfl,hb4,hx4,hp4⟩
  have HS4 := Lib.hid (HS3.out.below hb4); have HX4 := Lib.hid hx4; have HQ4 := Lib.hid hp4
  refine hK.out _ _ HS4.out.S (fun hHeld => ?_)
  clear hK K hb4 hx4 hp4
  try simp only [Act.put,sa1,sa2,sa3]
  refine wpAnyH_ready (rs := [20]) (by rw [HOPS.out]; kernel_rfl) (by simp) ?_
  refine ready_named HOPS.out (l' := (bt 24 2097151)) (by simp only [ga1,ga2,ga3]; exact rfl) (by kernel_rfl) (fun K hK => ?_) AllReadyH.nil
  go_simp
  go_at_call 59
  refine (specSmall h.mnr 2 false _).mono ?_
  rintro e u5 ⟨x5,rfl,hb5,hx5,hp5⟩
  have HS5 := Lib.hid (HS4.out.below hb5); have HX5 := Lib.hid hx5; have HQ5 := Lib.hid hp5
  refine hK.out _ _ HS5.out.S (fun hHeld => ?_)
  clear hK K hb5 hx5 hp5
  try simp only [Act.put,sa1,sa2,sa3]
  refine wpAnyH_ready (rs := [21]) (by rw [HOPS.out]; kernel_rfl) (by simp) ?_
  refine ready_named HOPS.out (l' := (bt 24 4194303)) (by simp only [ga1,ga2,ga3]; exact rfl) (by kernel_rfl) (fun K hK => ?_) AllReadyH.nil
  go_simp
  refine hK.out _ _ (HS5.out.below ((Below.refl _ _).alloc (Nat.le_refl _) _)).S (fun hHeld => ?_)
  clear hK K
  try simp only [Act.put,sa1,sa2,sa3]
  refine wpAnyH_ready (rs := [22]) (by rw [HOPS.out]; kernel_rfl) (by simp) ?_
  refine ready_named HOPS.out (l' := (bt 24 8388607)) (by simp only [ga1,ga2,ga3]; exact rfl) (by kernel_rfl) (fun K hK => ?_) AllReadyH.nil
  go_simp
  go_at_call 57
  refine (specAll [v,x1,x2,x3,x4,x5] u5.heap.size 6 _ (at_new u5 [.int .i64 v,.int .i64 x1,.int .i64 x2,.int .i64 x3,.int .i64 x4,.int .i64 x5] 3) ?_ (by simp)).mono ?_
  · intro x hx
    simp only [List.mem_cons,List.not_mem_nil,or_false] at hx
    rcases hx with rfl | rfl | rfl | rfl | rfl | rfl
    · exact HV.out
    · exact HX1.out
    · exact HX2.out
    · exact HX3.out
    · exact HX4.out
    · exact HX5.out
  rintro e u9 ⟨v2,rfl,hb9,hv9,hp9⟩
  have HK9 := Lib.hid (HS5.out.alloc _ hb9); have HV9 := Lib.hid hv9; have HP9 := Lib.hid hp9
  refine hK.out _ _ HK9.out.S (fun hHeld => ?_)
  clear hK K hb9 hv9 hp9
  try simp only [Act.put,sa1,sa2,sa3]
  refine take_named HOPS.out (i := 23) (d := (some 5)) (v := ?v23) (a' := ?a23) (l' := (bt 24 16777215)) (by simp only [ga1,ga2,ga3]; exact rfl) (by kernel_rfl) (by kernel_rfl) (by kernel_rfl) (fun _ _ _ h => h) (Or.inl ⟨by rfl,?hy23⟩) (by assumption) (by rfl) ?ha23 (by kernel_rfl) ?r23
  case hy23 => intro w hSw; go_simp; try with_reducible rfl
  case ha23 => simp only [Act.put,sa1,sa2,sa3]; exact rfl
  refine wpAnyH_done (by rw [HOPS.out]; kernel_rfl) ?_ _
  refine HK1.out _ _ ?_
  exact can14 h hb v2 v4 _ w0 HK9.out HV9.out p c HR.out P (fun e k => HP.out (HP9.out e v (by simp)) ⟨⟨HQ1.out (HP9.out e x1 (by simp)),HQ2.out (HP9.out e x2 (by simp)),HQ3.out (HP9.out e x3 (by simp)),HQ4.out (HP9.out e x4 (by simp)),HQ5.out (HP9.out e x5 (by simp))⟩,k⟩)
set_option maxHeartbeats 16000000 in
theorem can12 (h : IH) (hb : Nat) (v v4 : Int) (w w0 : World) (K : CS hb h w0 w) (hv : tri v) (p : Option Addr) (c : Nat) (hr : h.recs = .slice p 0 c) (P : Prop) (v6 : Int) (hv6 : tri v6) (hn1 : h.link.length < 4611686018427387904) (hn2 : h.user.length < 4611686018427387904) (hn3 : h.group.length < 4611686018427387904) (hP : v = 1 → CF12 h v6 → P) :
    Code.wp Tryz.prog restC12 (bodyPost Tryz.prog Tryz.f27 (VRight P w0)) ⟨(c0::.int .i64 2::.pointer (some ⟨hb,0,none⟩)::c3::.int .i64 v4::.int .i64 v::.int .i64 v6::c7::c8::c9::c10::c11::c12::c13::c14::c15::c16::c17::c18::c19::c20::c21::c22::c23::c24::c25::c26::c27::c28::c29::c30::c31::c32::c33::c34::c35::c36::c37::c38::c39::c40::c41::c42::c43::c44::c45::c46::c47::c48::c49::c50::c51::c52::c53::c54::c55::c56::c57::c58::c59::c60::c61::c62::c63::c64::c65::c66::c67::c68::c69::c70::c71::c72::c73::c74::c75::c76::c77::c78::c79::c80::c81::c82::c83::c84::c85::c86::c87::c88::c89::c90::c91::c92::c93::c94::c95::c96::c97::c98::c99::c100::c101::c102::c103::c104::c105::c106::c107::c108::c109::c110::c111::c112::c113::c114::c115::c116::c117::c118::c119::c120::c121::c122::c123::c124::c125::c126::c127::c128::c129::c130::c131::c132::c133::c134::c135::c136::c137::c138::c139::c140::c141::c142::c143::c144::c145::c146::c147::c148::c149::c150::c151::c152::c153::c154::c155::c156::c157::c158::c159::c160::c161::c162::c163::c164::c165::c166::c167::c168::c169::c170::c171::c172::c173::c174::c175::c176::c177::c178::c179::c180::c181::c182::c183::c184::c185::c186::c187::c188::c189::c190::c191::c192::c193::c194::c195::c196::c197::c198::c199::c200::c201::c202::c203::c204::c205::c206::c207::c208::c209::c210::c211::c212::c213::c214::c215::c216::c217::c218::c219::c220::c221::c222::c223::c224::c225::c226::c227::c228::c229::c230::c231::c232::c233::c234::c235::c236::c237::c238::c239::c240::c241::c242::c243::c244::c245::c246::c247::c248::c249::c250::c251::c252::[]).toArray,[]⟩ w := by
  conv => arg 2; whnf
  have HK := Lib.hid K; have HP := Lib.hid hP; have HV := Lib.hid hv; have HR := Lib.hid hr
  clear K hP hv hr
  refine wp_seq_k (fun K1 hK1 => ?_)
  have HK1 := Lib.hid hK1
  clear hK1
  refine region_named (S := fun w' => SB hb h w') (n := 17) (l0 := (bt 17 0)) (by kernel_rfl) rfl (by kernel_rfl) HK.out.S (fun ops HOPS hHeld => ?_)
  have HS0 : Hid (CS hb h w0 w.drew) := Lib.hid (HK.out.below ((Below.refl _ w).drew))
  clear HK
  generalize w.drew = u0 at *
  refine take_named HOPS.out (i := 0) (d := (some 99)) (v := ?v0) (a' := ?a0) (l' := (bt 17 1)) (by simp only [ga1,ga2,ga3]; exact rfl) (by kernel_rfl) (by kernel_rfl) (by kernel_rfl) (fun _ _ _ h => h) (Or.inl ⟨by rfl,?hy0⟩) (by assumption) (by rfl) ?ha0 (by kernel_rfl) ?r0
  case hy0 => intro w hSw; go_simp; try with_reducible rfl
  case ha0 => simp only [Act.put,sa1,sa2,sa3]; exact rfl
  refine take_named HOPS.out (i := 1) (d := (some 100)) (v := ?v1) (a' := ?a1) (l' := (bt 17 3)) (by simp only [ga1,ga2,ga3]; exact rfl) (by kernel_rfl) (by kernel_rfl) (by kernel_rfl) (fun _ _ _ h => h) (Or.inl ⟨by rfl,?hy1⟩) (by assumption) (by rfl) ?ha1 (by kernel_rfl) ?r1
  case hy1 => intro w hSw; go_simp; try with_reducible rfl
  case ha1 => simp only [Act.put,sa1,sa2,sa3]; exact rfl
  refine take_named HOPS.out (i := 2) (d := (some 101)) (v := ?v2) (a' := ?a2) (l' := (bt 17 7)) (by simp only [ga1,ga2,ga3]; exact rfl) (by kernel_rfl) (by kernel_rfl) (by kernel_rfl) (fun _ _ _ h => h) (Or.inl ⟨by rfl,?hy2⟩) (by assumption) (by rfl) ?ha2 (by kernel_rfl) ?r2
  case hy2 => intro w hSw; go_simp; try with_reducible rfl
  case ha2 => simp only [Act.put,sa1,sa2,sa3]; exact rfl
  refine take_named HOPS.out (i := 3) (d := (some 102)) (a' := ?a3) (l' := (bt 17 15)) (by simp only [ga1,ga2,ga3]; exact rfl) (by kernel_rfl) (by kernel_rfl) (by kernel_rfl) (fun _ _ _ h => h) (yieldsIf_load_run (by rfl) _ _ rfl ⟨hb,2,none⟩ rfl (str h.link) (fun w' hw' => ld9 (hw'.cell 2 (str h.link) rfl))) (by assumption) (by rfl) ?ha3 (by kernel_rfl) ?r3
  case ha3 => simp only [Act.put,sa1,sa2,sa3]; exact rfl
  refine take_named HOPS.out (i := 4) (d := (some 103)) (v := ?v4) (a' := ?a4) (l' := (bt 17 31)) (by simp only [ga1,ga2,ga3]; exact rfl) (by kernel_rfl) (by kernel_rfl) (by kernel_rfl) (fun _ _ _ h => h) (Or.inl ⟨by rfl,?hy4⟩) (by assumption) (by rfl) ?ha4 (by kernel_rfl) ?r4
  case hy4 => intro w hSw; go_simp; try with_reducible rfl
  case ha4 => simp only [Act.put,sa1,sa2,sa3]; exact rfl
  refine take_named HOPS.out (i := 6) (d := (some 105)) (v := ?v6) (a' := ?a6) (l' := (bt 17 95)) (by simp only [ga1,ga2,ga3]; exact rfl) (by kernel_rfl) (by kernel_rfl) (by kernel_rfl) (fun _ _ _ h => h) (Or.inl ⟨by rfl,?hy6⟩) (by assumption) (by rfl) ?ha6 (by kernel_rfl) ?r6
  case hy6 => intro w hSw; go_simp; try with_reducible rfl
  case ha6 => simp only [Act.put,sa1,sa2,sa3]; exact rfl
  refine take_named HOPS.out (i := 7) (d := (some 106)) (a' := ?a7) (l' := (bt 17 223)) (by simp only [ga1,ga2,ga3]; exact rfl) (by kernel_rfl) (by kernel_rfl) (by kernel_rfl) (fun _ _ _ h => h) (yieldsIf_load_run (by rfl) _ _ rfl ⟨hb,7,none⟩ rfl (str h.user) (fun w' hw' => ld9 (hw'.cell 7 (str h.user) rfl))) (by assumption) (by rfl) ?ha7 (by kernel_rfl) ?r7
  case ha7 => simp only [Act.put,sa1,sa2,sa3]; exact rfl
  refine take_named HOPS.out (i := 8) (d := (some 107)) (v := ?v8) (a' := ?a8) (l' := (bt 17 479)) (by simp only [ga1,ga2,ga3]; exact rfl) (by kernel_rfl) (by kernel_rfl) (by kernel_rfl) (fun _ _ _ h => h) (Or.inl ⟨by rfl,?hy8⟩) (by assumption) (by rfl) ?ha8 (by kernel_rfl) ?r8
  case hy8 => intro w hSw; go_simp; try with_reducible rfl
  case ha8 => simp only [Act.put,sa1,sa2,sa3]; exact rfl
  refine take_named HOPS.out (i := 10) (d := (some 109)) (v := ?v10) (a' := ?a10) (l' := (bt 17 1503)) (by simp only [ga1,ga2,ga3]; exact rfl) (by kernel_rfl) (by kernel_rfl) (by kernel_rfl) (fun _ _ _ h => h) (Or.inl ⟨by rfl,?hy10⟩) (by assumption) (by rfl) ?ha10 (by kernel_rfl) ?r10
  case hy10 => intro w hSw; go_simp; try with_reducible rfl
  case ha10 => simp only [Act.put,sa1,sa2,sa3]; exact rfl
  refine take_named HOPS.out (i := 11) (d := (some 110)) (a' := ?a11) (l' := (bt 17 3551)) (by simp only [ga1,ga2,ga3]; exact rfl) (by kernel_rfl) (by kernel_rfl) (by kernel_rfl) (fun _ _ _ h => h) (yieldsIf_load_run (by rfl) _ _ rfl ⟨hb,8,none⟩ rfl (str h.group) (fun w' hw' => ld9 (hw'.cell 8 (str h.group) rfl))) (by assumption) (by rfl) ?ha11 (by kernel_rfl) ?r11
  case ha11 => simp only [Act.put,sa1,sa2,sa3]; exact rfl
  refine take_named HOPS.out (i := 12) (d := (some 111)) (v := ?v12) (a' := ?a12) (l' := (bt 17 7647)) (by simp only [ga1,ga2,ga3]; exact rfl) (by kernel_rfl) (by kernel_rfl) (by kernel_rfl) (fun _ _ _ h => h) (Or.inl ⟨by rfl,?hy12⟩) (by assumption) (by rfl) ?ha12 (by kernel_rfl) ?r12
  case hy12 => intro w hSw; go_simp; try with_reducible rfl
  case ha12 => simp only [Act.put,sa1,sa2,sa3]; exact rfl
  refine wpAnyH_ready (rs := [5]) (by rw [HOPS.out]; kernel_rfl) (by simp) ?_
  refine ready_named HOPS.out (l' := (bt 17 7679)) (by simp only [ga1,ga2,ga3]; exact rfl) (by kernel_rfl) (fun K hK => ?_) AllReadyH.nil
  go_simp
  go_at_call 54
  refine (specText h.link 100 2 _ hn1).mono ?_
  rintro e u1 ⟨x1,rfl,hb1,hx1,hp1⟩
  have HS1 := Lib.hid (HS0.out.below hb1); have HX1 := Lib.hid hx1; have HQ1 := Lib.hid hp1
  refine hK.out _ _ HS1.out.S (fun hHeld => ?_)
  clear hK K hb1 hx1 hp1
  try simp only [Act.put,sa1,sa2,sa3]
  refine wpAnyH_ready (rs := [9]) (by rw [HOPS.out]; kernel_rfl) (by simp) ?_
  refine ready_named HOPS.out (l' := (bt 17 8191)) (by simp only [ga1,ga2,ga3]; exact rfl) (by kernel_rfl) (fun K hK => ?_) AllReadyH.nil
  go_simp
  go_at_call 58
  refine (specOwner h.user 2 _ hn2).mono ?_
  rintro e u2 ⟨x2,rfl,hb2,hx2,hp2⟩
  have HS2 := Lib.hid (HS1.out.below hb2); have HX2 := Lib.hid hx2; have HQ2 := Lib.hid hp2
  refine hK.out _ _ HS2.out.S (fun hHeld => ?_)
  clear hK K hb2 hx2 hp2
  try simp only [Act.put,sa1,sa2,sa3]
  refine wpAnyH_ready (rs := [13]) (by rw [HOPS.out]; kernel_rfl) (by simp) ?_
  refine ready_named HOPS.out (l' := (bt 17 16383)) (by simp only [ga1,ga2,ga3]; exact rfl) (by kernel_rfl) (fun K hK => ?_) AllReadyH.nil
  go_simp
  go_at_call 58
  refine (specOwner h.group 2 _ hn3).mono ?_
  rintro e u3 ⟨x3,rfl,hb3,hx3,hp3⟩
  have HS3 := Lib.hid (HS2.out.below hb3); have HX3 := Lib.hid hx3; have HQ3 := Lib.hid hp3
  refine hK.out _ _ HS3.out.S (fun hHeld => ?_)
  clear hK K hb3 hx3 hp3
  try simp only [Act.put,sa1,sa2,sa3]
  refine wpAnyH_ready (rs := [14]) (by rw [HOPS.out]; kernel_rfl) (by simp) ?_
  refine ready_named HOPS.out (l' := (bt 17 32767)) (by simp only [ga1,ga2,ga3]; exact rfl) (by kernel_rfl) (fun K hK => ?_) AllReadyH.nil
  go_simp
  refine hK.out _ _ (HS3.out.below ((Below.refl _ _).alloc (Nat.le_refl _) _)).S (fun hHeld => ?_)
  clear hK K
  try simp only [Act.put,sa1,sa2,sa3]
  refine wpAnyH_ready (rs := [15]) (by rw [HOPS.out]; kernel_rfl) (by simp) ?_
  refine ready_named HOPS.out (l' := (bt 17 65535)) (by simp only [ga1,ga2,ga3]; exact rfl) (by kernel_rfl) (fun K hK => ?_) AllReadyH.nil
  go_simp
  go_at_call 57
  refine (specAll [v,v6,x1,x2,x3] u3.heap.size 5 _ (at_new u3 [.int .i64 v,.int .i64 v6,.int .i64 x1,.int .i64 x2,.int .i64 x3] 3) ?_ (by simp)).mono ?_
  · intro x hx
    simp only [List.mem_cons,List.not_mem_nil,or_false] at hx
    rcases hx with rfl | rfl | rfl | rfl | rfl
    · exact HV.out
    · exact hv6
    · exact HX1.out
    · exact HX2.out
    · exact HX3.out
  rintro e u9 ⟨v2,rfl,hb9,hv9,hp9⟩
  have HK9 := Lib.hid (HS3.out.alloc _ hb9); have HV9 := Lib.hid hv9; have HP9 := Lib.hid hp9
  refine hK.out _ _ HK9.out.S (fun hHeld => ?_)
  clear hK K hb9 hv9 hp9
  try simp only [Act.put,sa1,sa2,sa3]
  refine take_named HOPS.out (i := 16) (d := (some 5)) (v := ?v16) (a' := ?a16) (l' := (bt 17 131071)) (by simp only [ga1,ga2,ga3]; exact rfl) (by kernel_rfl) (by kernel_rfl) (by kernel_rfl) (fun _ _ _ h => h) (Or.inl ⟨by rfl,?hy16⟩) (by assumption) (by rfl) ?ha16 (by kernel_rfl) ?r16
  case hy16 => intro w hSw; go_simp; try with_reducible rfl
  case ha16 => simp only [Act.put,sa1,sa2,sa3]; exact rfl
  refine wpAnyH_done (by rw [HOPS.out]; kernel_rfl) ?_ _
  refine HK1.out _ _ ?_
  exact can13 h hb v2 v4 _ w0 HK9.out HV9.out p c HR.out P (fun e k => HP.out (HP9.out e v (by simp)) ⟨⟨HP9.out e v6 (by simp),HQ1.out (HP9.out e x1 (by simp)),HQ2.out (HP9.out e x2 (by simp)),HQ3.out (HP9.out e x3 (by simp))⟩,k⟩)
end Go.Proofs.YtkanmkcojlefbaaGreatDoor
