/-
  Part of the proof; holds the texts Ref10, Ref11.
-/
import Derived.Test.YtkanmkcojlefbaaGreatDoorM38
set_option maxRecDepth 100000
set_option linter.unusedSimpArgs false
set_option linter.unusedVariables false
namespace Go.Proofs.YtkanmkcojlefbaaGreatDoor
open Go.RowKit
variable {c0 c3 c6 c7 c8 c9 c10 c11 c12 c13 c14 c15 c16 c17 c18 c19 c20 c21 c22 c23 c24 c25 c26 c27 c28 c29 c30 c31 c32 c33 c34 c35 c36 c37 c38 c39 c40 c41 c42 c43 c44 c45 c46 c47 c48 c49 c50 c51 c52 c53 c54 c55 c56 c57 c58 c59 c60 c61 c62 c63 c64 c65 c66 c67 c68 c69 c70 c71 c72 c73 c74 c75 c76 c77 c78 c79 c80 c81 c82 c83 c84 c85 c86 c87 c88 c89 c90 c91 c92 c93 c94 c95 c96 c97 c98 c99 c100 c101 c102 c103 c104 c105 c106 c107 c108 c109 c110 c111 c112 c113 c114 c115 c116 c117 c118 c119 c120 c121 c122 c123 c124 c125 c126 c127 c128 c129 c130 c131 c132 c133 c134 c135 c136 c137 c138 c139 c140 c141 c142 c143 c144 c145 c146 c147 c148 c149 c150 c151 c152 c153 c154 c155 c156 c157 c158 c159 c160 c161 c162 c163 c164 c165 c166 c167 c168 c169 c170 c171 c172 c173 c174 c175 c176 c177 c178 c179 c180 c181 c182 c183 c184 c185 c186 c187 c188 c189 c190 c191 c192 c193 c194 c195 c196 c197 c198 c199 c200 c201 c202 c203 c204 c205 c206 c207 c208 c209 c210 c211 c212 c213 c214 c215 c216 c217 c218 c219 c220 c221 c222 c223 c224 c225 c226 c227 c228 c229 c230 c231 c232 c233 c234 c235 c236 c237 c238 c239 c240 c241 c242 c243 c244 c245 c246 c247 c248 c249 c250 c251 c252 : Value}
noncomputable def restC5 : Code := tailFrom 5 (Tryz.f27.body.getD .skip)
noncomputable def restC7 : Code := tailFrom 7 (Tryz.f27.body.getD .skip)
noncomputable def restC9 : Code := tailFrom 9 (Tryz.f27.body.getD .skip)
def CF9 (h : IH) : Prop := (TextOk h.name 256 2 ∧ TextOk h.link 100 2 ∧ OwnerOk h.user 2 ∧ OwnerOk h.group 2) ∧ CF13 h
def TypOk (h : IH) : Prop := 48 ≤ h.typ ∧ h.typ ≤ 55 ∧ h.name ≠ [] ∧ (slashB h.name = true → h.typ = 53)
def CF5 (h : IH) : Prop := TypOk h ∧ CF9 h
set_option maxHeartbeats 4000000 in
theorem can9 (h : IH) (hb : Nat) (v v4 : Int) (w w0 : World) (K : CS hb h w0 w) (hv : tri v) (p : Option Addr) (c : Nat) (hr : h.recs = .slice p 0 c) (P : Prop) (hn0 : h.name.length < 4611686018427387904) (hn1 : h.link.length < 4611686018427387904) (hn2 : h.user.length < 4611686018427387904) (hn3 : h.group.length < 4611686018427387904) (hP : v = 1 → CF9 h → P) :
    Code.wp Tryz.prog restC9 (bodyPost Tryz.prog Tryz.f27 (VRight P w0)) ⟨(c0::.int .i64 2::.pointer (some ⟨hb,0,none⟩)::c3::.int .i64 v4::.int .i64 v::c6::c7::c8::c9::c10::c11::c12::c13::c14::c15::c16::c17::c18::c19::c20::c21::c22::c23::c24::c25::c26::c27::c28::c29::c30::c31::c32::c33::c34::c35::c36::c37::c38::c39::c40::c41::c42::c43::c44::c45::c46::c47::c48::c49::c50::c51::c52::c53::c54::c55::c56::c57::c58::c59::c60::c61::c62::c63::c64::c65::c66::c67::c68::c69::c70::c71::c72::c73::c74::c75::c76::c77::c78::c79::c80::c81::c82::c83::c84::c85::c86::c87::c88::c89::c90::c91::c92::c93::c94::c95::c96::c97::c98::c99::c100::c101::c102::c103::c104::c105::c106::c107::c108::c109::c110::c111::c112::c113::c114::c115::c116::c117::c118::c119::c120::c121::c122::c123::c124::c125::c126::c127::c128::c129::c130::c131::c132::c133::c134::c135::c136::c137::c138::c139::c140::c141::c142::c143::c144::c145::c146::c147::c148::c149::c150::c151::c152::c153::c154::c155::c156::c157::c158::c159::c160::c161::c162::c163::c164::c165::c166::c167::c168::c169::c170::c171::c172::c173::c174::c175::c176::c177::c178::c179::c180::c181::c182::c183::c184::c185::c186::c187::c188::c189::c190::c191::c192::c193::c194::c195::c196::c197::c198::c199::c200::c201::c202::c203::c204::c205::c206::c207::c208::c209::c210::c211::c212::c213::c214::c215::c216::c217::c218::c219::c220::c221::c222::c223::c224::c225::c226::c227::c228::c229::c230::c231::c232::c233::c234::c235::c236::c237::c238::c239::c240::c241::c242::c243::c244::c245::c246::c247::c248::c249::c250::c251::c252::[]).toArray,[]⟩ w := by
  conv => arg 2; whnf
  have HK := Lib.hid K; have HP := Lib.hid hP; have HV := Lib.hid hv; have HR := Lib.hid hr
  clear K hP hv hr
  have c1 := HK.out.S.cell 1 (str h.name) rfl
  refine wp_seq_k (fun K1 hK1 => ?_)
  have HK1 := Lib.hid hK1
  clear hK1
  go_wp2_with fail
  refine (specText h.name 256 2 w hn0).mono ?_
  rintro e w1 ⟨v6,rfl,hb1,hv6,hp6⟩
  have HK5 := Lib.hid (HK.out.below hb1); have HV6 := Lib.hid hv6; have HP6 := Lib.hid hp6
  clear hb1 hv6 hp6 c1
  go_wp2_with fail
  refine HK1.out _ _ ?_
  refine wp_seq_k (fun K2 hK2 => ?_)
  have HK2 := Lib.hid hK2
  clear hK2
  go_wp2_with fail
  refine HK2.out _ _ ?_
  exact can12 h hb v v4 w1 w0 HK5.out HV.out p c HR.out P v6 HV6.out hn1 hn2 hn3 (fun e k => HP.out e ⟨⟨HP6.out k.1.1,k.1.2⟩,k.2⟩)
set_option maxHeartbeats 4000000 in
theorem can7 (h : IH) (hb : Nat) (v v4 : Int) (w w0 : World) (K : CS hb h w0 w) (hv : tri v) (p : Option Addr) (c : Nat) (hr : h.recs = .slice p 0 c) (P : Prop) (hn0 : h.name.length < 4611686018427387904) (hn1 : h.link.length < 4611686018427387904) (hn2 : h.user.length < 4611686018427387904) (hn3 : h.group.length < 4611686018427387904) (hP : v = 1 → CF9 h → P) :
    Code.wp Tryz.prog restC7 (bodyPost Tryz.prog Tryz.f27 (VRight P w0)) ⟨(c0::.int .i64 2::.pointer (some ⟨hb,0,none⟩)::c3::.int .i64 v4::.int .i64 v::c6::c7::c8::c9::c10::c11::c12::c13::c14::c15::c16::c17::c18::c19::c20::c21::c22::c23::c24::c25::c26::c27::c28::c29::c30::c31::c32::c33::c34::c35::c36::c37::c38::c39::c40::c41::c42::c43::c44::c45::c46::c47::c48::c49::c50::c51::c52::c53::c54::c55::c56::c57::c58::c59::c60::c61::c62::c63::c64::c65::c66::c67::c68::c69::c70::c71::c72::c73::c74::c75::c76::c77::c78::c79::c80::c81::c82::c83::c84::c85::c86::c87::c88::c89::c90::c91::c92::c93::c94::c95::c96::c97::c98::c99::c100::c101::c102::c103::c104::c105::c106::c107::c108::c109::c110::c111::c112::c113::c114::c115::c116::c117::c118::c119::c120::c121::c122::c123::c124::c125::c126::c127::c128::c129::c130::c131::c132::c133::c134::c135::c136::c137::c138::c139::c140::c141::c142::c143::c144::c145::c146::c147::c148::c149::c150::c151::c152::c153::c154::c155::c156::c157::c158::c159::c160::c161::c162::c163::c164::c165::c166::c167::c168::c169::c170::c171::c172::c173::c174::c175::c176::c177::c178::c179::c180::c181::c182::c183::c184::c185::c186::c187::c188::c189::c190::c191::c192::c193::c194::c195::c196::c197::c198::c199::c200::c201::c202::c203::c204::c205::c206::c207::c208::c209::c210::c211::c212::c213::c214::c215::c216::c217::c218::c219::c220::c221::c222::c223::c224::c225::c226::c227::c228::c229::c230::c231::c232::c233::c234::c235::c236::c237::c238::c239::c240::c241::c242::c243::c244::c245::c246::c247::c248::c249::c250::c251::c252::[]).toArray,[]⟩ w := by
  conv => arg 2; whnf
  have HK := Lib.hid K; have HP := Lib.hid hP; have HV := Lib.hid hv; have HR := Lib.hid hr
  clear K hP hv hr
  have c0 := HK.out.S.cell 0 (.int .u8 h.typ) rfl
  have c1 := HK.out.S.cell 17 (.int .i64 h.maj) rfl
  have c2 := HK.out.S.cell 18 (.int .i64 h.mnr) rfl
  by_cases t1 : h.typ = 51
  · refine wp_seq_k (fun K1 hK1 => ?_)
    have HK1 := Lib.hid hK1
    clear hK1
    go_wp2_with fail
    refine HK1.out _ _ ?_
    exact can9 h hb v v4 w w0 HK.out HV.out p c HR.out P hn0 hn1 hn2 hn3 (HP.out)
  have e1b : (h.typ != 51) = true := (by simpa using t1); have e1 : (h.typ == 51) = false := by simpa using t1
  by_cases t2 : h.typ = 52
  · refine wp_seq_k (fun K1 hK1 => ?_)
    have HK1 := Lib.hid hK1
    clear hK1
    go_wp2_with fail
    refine HK1.out _ _ ?_
    exact can9 h hb v v4 w w0 HK.out HV.out p c HR.out P hn0 hn1 hn2 hn3 (HP.out)
  have e2b : (h.typ != 52) = true := (by simpa using t2); have e2 : (h.typ == 52) = false := by simpa using t2
  by_cases m1 : h.maj = 0
  · by_cases m2 : h.mnr = 0
    · refine wp_seq_k (fun K1 hK1 => ?_)
      have HK1 := Lib.hid hK1
      clear hK1
      go_wp2_with fail
      refine HK1.out _ _ ?_
      exact can9 h hb v v4 w w0 HK.out HV.out p c HR.out P hn0 hn1 hn2 hn3 (HP.out)
    · have e4b : (h.mnr != 0) = true := (by simpa using m2); have e4 : (h.mnr == 0) = false := by simpa using m2
      refine wp_seq_k (fun K1 hK1 => ?_)
      have HK1 := Lib.hid hK1
      clear hK1
      go_wp2_with fail
      refine HK1.out _ _ ?_
      exact can9 h hb 0 v4 w w0 HK.out (.inl rfl) p c HR.out P hn0 hn1 hn2 hn3 (fun e _ => absurd e (by decide))
  · have e3b : (h.maj != 0) = true := (by simpa using m1); have e3 : (h.maj == 0) = false := by simpa using m1
    refine wp_seq_k (fun K1 hK1 => ?_)
    have HK1 := Lib.hid hK1
    clear hK1
    go_wp2_with fail
    refine HK1.out _ _ ?_
    exact can9 h hb 0 v4 w w0 HK.out (.inl rfl) p c HR.out P hn0 hn1 hn2 hn3 (fun e _ => absurd e (by decide))
set_option maxHeartbeats 8000000 in
theorem can5 (h : IH) (hb : Nat) (v4 : Int) (w w0 : World) (K : CS hb h w0 w) (p : Option Addr) (c : Nat) (hr : h.recs = .slice p 0 c) (P : Prop) (hn0 : h.name.length < 4611686018427387904) (hn1 : h.link.length < 4611686018427387904) (hn2 : h.user.length < 4611686018427387904) (hn3 : h.group.length < 4611686018427387904) (h0 : h.typ ≠ 0) (hP : CF5 h → P) :
    Code.wp Tryz.prog restC5 (bodyPost Tryz.prog Tryz.f27 (VRight P w0)) ⟨(c0::.int .i64 2::.pointer (some ⟨hb,0,none⟩)::c3::.int .i64 v4::.int .i64 1::c6::c7::c8::c9::c10::c11::c12::c13::c14::c15::c16::c17::c18::c19::c20::c21::c22::c23::c24::c25::c26::c27::c28::c29::c30::c31::c32::c33::c34::c35::c36::c37::c38::c39::c40::c41::c42::c43::c44::c45::c46::c47::c48::c49::c50::c51::c52::c53::c54::c55::c56::c57::c58::c59::c60::c61::c62::c63::c64::c65::c66::c67::c68::c69::c70::c71::c72::c73::c74::c75::c76::c77::c78::c79::c80::c81::c82::c83::c84::c85::c86::c87::c88::c89::c90::c91::c92::c93::c94::c95::c96::c97::c98::c99::c100::c101::c102::c103::c104::c105::c106::c107::c108::c109::c110::c111::c112::c113::c114::c115::c116::c117::c118::c119::c120::c121::c122::c123::c124::c125::c126::c127::c128::c129::c130::c131::c132::c133::c134::c135::c136::c137::c138::c139::c140::c141::c142::c143::c144::c145::c146::c147::c148::c149::c150::c151::c152::c153::c154::c155::c156::c157::c158::c159::c160::c161::c162::c163::c164::c165::c166::c167::c168::c169::c170::c171::c172::c173::c174::c175::c176::c177::c178::c179::c180::c181::c182::c183::c184::c185::c186::c187::c188::c189::c190::c191::c192::c193::c194::c195::c196::c197::c198::c199::c200::c201::c202::c203::c204::c205::c206::c207::c208::c209::c210::c211::c212::c213::c214::c215::c216::c217::c218::c219::c220::c221::c222::c223::c224::c225::c226::c227::c228::c229::c230::c231::c232::c233::c234::c235::c236::c237::c238::c239::c240::c241::c242::c243::c244::c245::c246::c247::c248::c249::c250::c251::c252::[]).toArray,[]⟩ w := by
  conv => arg 2; whnf
  have HK := Lib.hid K; have HP := Lib.hid hP; have HR := Lib.hid hr
  clear K hP hr
  have c0 := HK.out.S.cell 0 (.int .u8 h.typ) rfl
  have c1 := HK.out.S.cell 1 (str h.name) rfl
  have c2 := HK.out.S.cell 2 (str h.link) rfl
  have hsl := specSlashed h.name w hn0
  have e0b : (h.typ != 0) = true := (by simpa using h0); have e0 : (h.typ == 0) = false := by simpa using h0
  by_cases t1 : h.typ < 48
  · refine wp_seq_k (fun K1 hK1 => ?_)
    have HK1 := Lib.hid hK1
    clear hK1
    go_wp2_with (go_at_call 53; refine hsl.mono ?_; rintro e wx ⟨rfl,rfl⟩)
    refine HK1.out _ _ ?_
    exact can7 h hb 0 v4 w w0 HK.out (.inl rfl) p c HR.out P hn0 hn1 hn2 hn3 (fun e _ => absurd e (by decide))
  by_cases t2 : 55 < h.typ
  · refine wp_seq_k (fun K1 hK1 => ?_)
    have HK1 := Lib.hid hK1
    clear hK1
    go_wp2_with (go_at_call 53; refine hsl.mono ?_; rintro e wx ⟨rfl,rfl⟩)
    refine HK1.out _ _ ?_
    exact can7 h hb 0 v4 w w0 HK.out (.inl rfl) p c HR.out P hn0 hn1 hn2 hn3 (fun e _ => absurd e (by decide))
  cases hne : h.name.isEmpty with
  | true =>
    refine wp_seq_k (fun K1 hK1 => ?_)
    have HK1 := Lib.hid hK1
    clear hK1
    go_wp2_with (go_at_call 53; refine hsl.mono ?_; rintro e wx ⟨rfl,rfl⟩)
    refine HK1.out _ _ ?_
    exact can7 h hb 0 v4 w w0 HK.out (.inl rfl) p c HR.out P hn0 hn1 hn2 hn3 (fun e _ => absurd e (by decide))
  | false =>
    have HNE := Lib.hid hne
    cases hs : slashB h.name with
    | true =>
      have HS := Lib.hid hs
      rw [hs] at hsl
      clear hs
      by_cases t3 : h.typ = 53
      · have HF : Hid (TypOk h) := Lib.hid ⟨by omega,by omega,(fun e => by rw [e] at hne; cases hne),fun _ => t3⟩
        cases hle : h.link.isEmpty with
        | true =>
          refine wp_seq_k (fun K1 hK1 => ?_)
          have HK1 := Lib.hid hK1
          clear hK1
          go_wp2_with (go_at_call 53; refine hsl.mono ?_; rintro e wx ⟨rfl,rfl⟩)
          refine HK1.out _ _ ?_
          exact can7 h hb 1 v4 w w0 HK.out (.inr (.inl rfl)) p c HR.out P hn0 hn1 hn2 hn3 (fun e k => HP.out ⟨HF.out,k⟩)
        | false =>
          have e9 : (h.typ == 49) = false := by rw [t3]; rfl
          have e50 : (h.typ == 50) = false := by rw [t3]; rfl
          refine wp_seq_k (fun K1 hK1 => ?_)
          have HK1 := Lib.hid hK1
          clear hK1
          go_wp2_with (go_at_call 53; refine hsl.mono ?_; rintro e wx ⟨rfl,rfl⟩)
          refine HK1.out _ _ ?_
          exact can7 h hb 0 v4 w w0 HK.out (.inl rfl) p c HR.out P hn0 hn1 hn2 hn3 (fun e _ => absurd e (by decide))
      · have e3b : (h.typ != 53) = true := (by simpa using t3); have e3 : (h.typ == 53) = false := by simpa using t3
        refine wp_seq_k (fun K1 hK1 => ?_)
        have HK1 := Lib.hid hK1
        clear hK1
        go_wp2_with (go_at_call 53; refine hsl.mono ?_; rintro e wx ⟨rfl,rfl⟩)
        refine HK1.out _ _ ?_
        exact can7 h hb 0 v4 w w0 HK.out (.inl rfl) p c HR.out P hn0 hn1 hn2 hn3 (fun e _ => absurd e (by decide))
    | false =>
      have HF : Hid (TypOk h) := Lib.hid ⟨by omega,by omega,(fun e => by rw [e] at hne; cases hne),fun e => by rw [hs] at e; cases e⟩
      rw [hs] at hsl
      clear hs
      cases hle : h.link.isEmpty with
      | true =>
        refine wp_seq_k (fun K1 hK1 => ?_)
        have HK1 := Lib.hid hK1
        clear hK1
        go_wp2_with (go_at_call 53; refine hsl.mono ?_; rintro e wx ⟨rfl,rfl⟩)
        refine HK1.out _ _ ?_
        exact can7 h hb 1 v4 w w0 HK.out (.inr (.inl rfl)) p c HR.out P hn0 hn1 hn2 hn3 (fun e k => HP.out ⟨HF.out,k⟩)
      | false =>
        by_cases t9 : h.typ = 49
        · refine wp_seq_k (fun K1 hK1 => ?_)
          have HK1 := Lib.hid hK1
          clear hK1
          go_wp2_with (go_at_call 53; refine hsl.mono ?_; rintro e wx ⟨rfl,rfl⟩)
          refine HK1.out _ _ ?_
          exact can7 h hb 1 v4 w w0 HK.out (.inr (.inl rfl)) p c HR.out P hn0 hn1 hn2 hn3 (fun e k => HP.out ⟨HF.out,k⟩)
        · have e9b : (h.typ != 49) = true := (by simpa using t9); have e9 : (h.typ == 49) = false := by simpa using t9
          by_cases t50 : h.typ = 50
          · refine wp_seq_k (fun K1 hK1 => ?_)
            have HK1 := Lib.hid hK1
            clear hK1
            go_wp2_with (go_at_call 53; refine hsl.mono ?_; rintro e wx ⟨rfl,rfl⟩)
            refine HK1.out _ _ ?_
            exact can7 h hb 1 v4 w w0 HK.out (.inr (.inl rfl)) p c HR.out P hn0 hn1 hn2 hn3 (fun e k => HP.out ⟨HF.out,k⟩)
          · have e50b : (h.typ != 50) = true := (by simpa using t50); have e50 : (h.typ == 50) = false := by simpa using t50
            refine wp_seq_k (fun K1 hK1 => ?_)
            have HK1 := Lib.hid hK1
            clear hK1
            go_wp2_with (go_at_call 53; refine hsl.mono ?_; rintro e wx ⟨rfl,rfl⟩)
            refine HK1.out _ _ ?_
            exact can7 h hb 0 v4 w w0 HK.out (.inl rfl) p c HR.out P hn0 hn1 hn2 hn3 (fun e _ => absurd e (by decide))
theorem recS_nil (w : World) (p : Option Addr) (c : Nat) : RecS w (.slice p 0 c) [] := ⟨p,c,rfl,fun _ hj => absurd hj (Nat.not_lt_zero _)⟩
def CanOk (h : IH) : Prop := StrangeOk h [] ∧ CF5 h.sprom
theorem sprom_ne (h : IH) : h.sprom.typ ≠ 0 := by
  unfold IH.sprom
  simp only
  split
  · split <;> decide
  · assumption
set_option maxHeartbeats 8000000 in
theorem specCan (h : IH) (w : World) (p : Option Addr) (c : Nat) (hr : h.recs = .slice p 0 c) (hn0 : h.name.length ≤ 2147483647) (hn1 : h.link.length ≤ 2147483647) (hn2 : h.user.length ≤ 2147483647) (hn3 : h.group.length ≤ 2147483647) :
    Calls Tryz.prog 27 #[.agg h.scells.toArray,.int .i64 2] w (VRight (CanOk h) w) := by
  have a1 : SB w.heap.size h (w.alloc (.cells h.scells.toArray 31)) := heap_alloc_new w _
  have KA : CS w.heap.size h w (w.alloc (.cells h.scells.toArray 31)) := ⟨a1,(Below.refl _ w).alloc (Nat.le_refl _) _,Nat.le_refl _⟩
  obtain ⟨wA,hwA⟩ : ∃ wA,wA = w.alloc (.cells h.scells.toArray 31) := ⟨_,rfl⟩
  obtain ⟨hb,hhb⟩ : ∃ hb,hb = w.heap.size := ⟨_,rfl⟩
  rw [← hwA,← hhb] at KA
  have HST := Lib.hid (specStrange h [] wA (by rw [hr]; exact recS_nil wA p c) (by simp only [recSz]; omega))
  have HK := Lib.hid KA; have HR := Lib.hid hr; have HW := Lib.hid hwA; have HB := Lib.hid hhb
  clear a1 KA hr hwA hhb
  go_enter Tryz.func27,Tryz.ntmps27
  go_upto_region 1 with fail
  rw [← HW.out,← HB.out]
  have HLD := Lib.hid HK.out.S.load
  go_wp2_with (first | (refine wpList_load_run rfl 31 _ rfl ⟨hb,0,none⟩ rfl _ HLD.out ?_) | fail)
  refine HST.out.mono ?_
  rintro e w1 ⟨b,rfl,hb1,hp1⟩
  have HK1 := Lib.hid (HK.out.below hb1); have HP1 := Lib.hid hp1
  clear hb1 hp1 HST HLD
  cases b with
  | true =>
    go_wp2_with fail
    go_ret
    exact ⟨0,rfl,HK1.out.B,.inl rfl,fun e => absurd e (by decide)⟩
  | false =>
    have HLD := Lib.hid HK1.out.S.load
    have HPR := Lib.hid (specPromoted h (by rw [HR.out]; rfl) (by omega) w1)
    go_upto_region 4 with fail
    rename_i K1 hK1
    have HKK := Lib.hid hK1
    clear hK1
    go_wp2_with (first | (refine wpList_load_run rfl 31 _ rfl ⟨hb,0,none⟩ rfl _ HLD.out ?_) | fail)
    refine HPR.out.mono ?_
    rintro e w2 ⟨rfl,hb2⟩
    have K2 := HK1.out.below hb2
    obtain ⟨w3,hst,hg,ho,hz,hsz⟩ := store31 h.sprom (by show h.recs.oneCell' = true; rw [HR.out]; rfl) rfl K2.S
    have HST := Lib.hid hst
    have HK3 : Hid (CS hb h.sprom w w3) := Lib.hid ⟨hg,hz _ _ K2.B K2.h0,K2.h0⟩
    clear hst hg ho hz hsz K2 hb2 HPR HLD
    go_wp2_with (first | (refine wpList_store_run rfl 31 _ _ rfl ⟨hb,0,none⟩ rfl _ rfl w3 HST.out ?_) | fail)
    refine HKK.out _ _ ?_
    exact can5 h.sprom hb 0 w3 w HK3.out p c HR.out (CanOk h) (by show h.name.length < _; omega) (by show h.link.length < _; omega) (by show h.user.length < _; omega) (by show h.group.length < _; omega) (sprom_ne h) (fun k => ⟨HP1.out (by trivial),k⟩)
end Go.Proofs.YtkanmkcojlefbaaGreatDoor
namespace Go.Proofs.YtkanmkcojlefbaaGreatDoor
open Go.RowKit
theorem retCh {R : Ending → World → Prop} {fn : Func} {t u : Tmp} {a : Act} (g : Nat) (cs : Array Value) (hcs : cs.size = 21) (w : World) {ev : Value} (hr : fn.results = #[.cell t 31,.tmp u]) (hp : a.tmps.getD t undef = .pointer (some ⟨g,0,none⟩)) (he : a.tmps.getD u undef = ev) (hd : a.defers = [])
    (hg : w.heap[g]? = some (.cells cs 31 (0,0))) (hR : R (.returned (.tuple #[.agg cs,ev])) w) : bodyPost Tryz.prog fn R .ret a w := by
  refine bodyPost_ret (v := .tuple #[.agg cs,ev]) ?_ hd hR
  have hl := run_loadVar_row (P := Tryz.prog) w g 31 31 cs (0,0) _ hg Tryz.underlying31 rfl (by rw [hcs]; kernel_rfl)
  rw [results_cell_tmp hr,hp,he]
  simp [asAddr,Result.andThen,hl]
def ChooseOut (h : IH) (w : World) (e : Ending) (w' : World) : Prop := ∃ (h2 : IH) (v : Int),e = .returned (.tuple #[.agg h2.scells.toArray,.int .i64 v]) ∧ Below w.heap.size w w' ∧ tri v ∧ h2.recs.oneCell' = true ∧ (v = 1 → h2 = h.sprom ∧ CanOk h)
theorem W31.sprom {h : IH} {hb rb : Nat} {w0 w : World} (k : W31 h hb rb w0 w) (hr : h.recs.oneCell' = true) : ∃ w',(storeVar 31 ⟨rb,0,none⟩ (.agg h.sprom.scells.toArray)).run Tryz.prog w = .ok () w' ∧ (w'.heap[rb]? = some (.cells h.sprom.scells.toArray 31 (0,0)) ∧ SB hb h w') ∧ Below w0.heap.size w0 w' := by
  obtain ⟨z,z1,z2⟩ := k.Z
  obtain ⟨w',h1,h2,h3,h4,-⟩ := store31 h.sprom (by exact hr) z1 z2
  exact ⟨w',h1,⟨h2,(h3 hb k.ne).trans k.S⟩,h4 _ _ k.B k.r0⟩
set_option maxHeartbeats 8000000 in
theorem specChoose (h : IH) (w : World) (p : Option Addr) (c : Nat) (hr : h.recs = .slice p 0 c) (hf : h.fmt = 2) (hn0 : h.name.length ≤ 2147483647) (hn1 : h.link.length ≤ 2147483647) (hn2 : h.user.length ≤ 2147483647) (hn3 : h.group.length ≤ 2147483647) :
    Calls Tryz.prog 8 #[.agg h.scells.toArray] w (ChooseOut h w) := by
  have HR := Lib.hid hr; have HF := Lib.hid hf
  have HO : Hid (h.recs.oneCell' = true) := Lib.hid (by rw [hr]; rfl)
  clear hr hf
  go_enter Tryz.func8,Tryz.ntmps8
  go_upto_region 1 with fail
  obtain ⟨wA,hwA⟩ : ∃ wA,wA = (w.alloc (.cells h.scells.toArray 31)).alloc (.cells #[.int .u8 0,.string { data := #[] },.string { data := #[] },.int .i64 0,.int .i64 0,.int .i64 0,.int .i64 0,.string { data := #[] },.string { data := #[] },.int .i64 0,.int .i64 0,.bool false,.bool false,.int .i64 0,.int .i64 0,.int .i64 0,.int .i64 0,.int .i64 0,.int .i64 0,.slice none 0 0,.int .i64 0] 31) := ⟨_,rfl⟩
  rw [← hwA]
  have KA : W31 h w.heap.size (w.heap.size + 1) w wA := by rw [hwA]; exact W31.new h w _ rfl
  clear hwA
  obtain ⟨hb,hhb⟩ : ∃ hb,hb = w.heap.size := ⟨_,rfl⟩
  obtain ⟨rb,hrb⟩ : ∃ rb,rb = w.heap.size + 1 := ⟨_,rfl⟩
  rw [← hrb,← hhb] at KA
  rw [← hhb]
  rw [show hb + 1 = rb by omega]
  have HK := Lib.hid KA
  clear KA hhb hrb
  have HST := Lib.hid (specStrange h [] wA (by rw [HR.out]; exact recS_nil wA p c) (by simp only [recSz]; omega))
  have HLD := Lib.hid HK.out.S.load
  go_wp2_with (first | (refine wpList_load_run rfl 31 _ rfl ⟨hb,0,none⟩ rfl _ HLD.out ?_) | fail)
  refine HST.out.mono ?_
  rintro e w1 ⟨b,rfl,hb1,-⟩
  have HK5 := Lib.hid (HK.out.below hb1)
  clear hb1 HST HLD HK
  cases b with
  | true =>
    have HLD := Lib.hid HK5.out.S.load
    obtain ⟨w3,g1,g2,g3⟩ := HK5.out.fin (h3 := h) HO.out rfl
    have G1 := Lib.hid g1; have G2 := Lib.hid g2; have G3 := Lib.hid g3.2
    clear g1 g2 g3
    go_wp2_with (first | (refine wpList_load_run rfl 31 _ rfl ⟨hb,0,none⟩ rfl _ HLD.out ?_) | (refine wpList_store_run rfl 31 _ _ rfl ⟨rb,0,none⟩ rfl _ rfl w3 G1.out ?_) | fail)
    exact retCh rb _ rfl w3 rfl rfl rfl rfl G2.out ⟨h,0,rfl,G3.out,.inl rfl,HO.out,fun e => absurd e (by decide)⟩
  | false =>
    have c20 := HK5.out.S.cell 20 (.int .i64 2) (by rw [← HF.out]; rfl)
    go_upto_region 4 with fail
    rename_i K1 hK1
    have HK1 := Lib.hid hK1
    clear hK1
    refine region_named (S := fun w' => SB hb h w') (n := 8) (l0 := (bt 8 0)) (by kernel_rfl) rfl (by kernel_rfl) HK5.out.S (fun ops HOPS hHeld => ?_)
    have HKD : Hid (W31 h hb rb w w1.drew) := Lib.hid (HK5.out.below ((Below.refl _ w1).drew))
    clear HK5 c20
    generalize w1.drew = u0 at *
    refine take_named HOPS.out (i := 0) (d := (some 12)) (a' := ?a0) (l' := (bt 8 1)) (by simp only [ga1,ga2,ga3]; exact rfl) (by kernel_rfl) (by kernel_rfl) (by kernel_rfl) (fun _ _ _ h => h) (yieldsIf_load_run (by rfl) _ _ rfl ⟨hb,0,none⟩ rfl (.agg h.scells.toArray) (fun w' hw' => SB.load hw')) (by assumption) (by rfl) ?ha0 (by kernel_rfl) ?r0
    case ha0 => simp only [Act.put,sa1,sa2,sa3]; exact rfl
    refine take_named HOPS.out (i := 2) (d := (some 14)) (a' := ?a2) (l' := (bt 8 5)) (by simp only [ga1,ga2,ga3]; exact rfl) (by kernel_rfl) (by kernel_rfl) (by kernel_rfl) (fun _ _ _ h => h) (yieldsIf_load_run (by rfl) _ _ rfl ⟨hb,0,none⟩ rfl (.agg h.scells.toArray) (fun w' hw' => SB.load hw')) (by assumption) (by rfl) ?ha2 (by kernel_rfl) ?r2
    case ha2 => simp only [Act.put,sa1,sa2,sa3]; exact rfl
    refine take_named HOPS.out (i := 3) (d := (some 15)) (v := ?v3) (a' := ?a3) (l' := (bt 8 13)) (by simp only [ga1,ga2,ga3]; exact rfl) (by kernel_rfl) (by kernel_rfl) (by kernel_rfl) (fun _ _ _ h => h) (Or.inl ⟨by rfl,?hy3⟩) (by assumption) (by rfl) ?ha3 (by kernel_rfl) ?r3
    case hy3 => intro w hSw; go_simp; try with_reducible rfl
    case ha3 => simp only [Act.put,sa1,sa2,sa3]; exact rfl
    refine take_named HOPS.out (i := 4) (d := (some 16)) (a' := ?a4) (l' := (bt 8 29)) (by simp only [ga1,ga2,ga3]; exact rfl) (by kernel_rfl) (by kernel_rfl) (by kernel_rfl) (fun _ _ _ h => h) (yieldsIf_load_run (by rfl) _ _ rfl ⟨hb,20,none⟩ rfl (.int .i64 2) (fun w' hw' => ld3 (hw'.cell 20 (.int .i64 2) (by rw [← HF.out]; rfl)))) (by assumption) (by rfl) ?ha4 (by kernel_rfl) ?r4
    case ha4 => simp only [Act.put,sa1,sa2,sa3]; exact rfl
    refine wpAnyH_ready (rs := [1]) (by rw [HOPS.out]; kernel_rfl) (by simp) ?_
    refine ready_named HOPS.out (l' := (bt 8 31)) (by simp only [ga1,ga2,ga3]; exact rfl) (by kernel_rfl) (fun K hK => ?_) AllReadyH.nil
    go_simp
    go_at_call 26
    refine (specPromoted h HO.out (by omega) _).mono ?_
    rintro e u1 ⟨rfl,hb1⟩
    have K1' := Lib.hid (HKD.out.below hb1)
    refine hK.out _ _ K1'.out.S (fun hHeld => ?_)
    clear hK K hb1
    try simp only [Act.put,sa1,sa2,sa3]
    refine wpAnyH_ready (rs := [5]) (by rw [HOPS.out]; kernel_rfl) (by simp) ?_
    refine ready_named HOPS.out (l' := (bt 8 63)) (by simp only [ga1,ga2,ga3]; exact rfl) (by kernel_rfl) (fun K hK => ?_) AllReadyH.nil
    go_simp
    go_at_call 27
    refine (specCan h u1 p c HR.out hn0 hn1 hn2 hn3).mono ?_
    rintro e u2 ⟨v,rfl,hb2,hv2,hp2⟩
    have K2' := Lib.hid (K1'.out.below hb2); have HV := Lib.hid hv2; have HP := Lib.hid hp2
    refine hK.out _ _ K2'.out.S (fun hHeld => ?_)
    clear hK K hb2 hv2 hp2
    try simp only [Act.put,sa1,sa2,sa3]
    refine wpAnyH_ready (rs := [6]) (by rw [HOPS.out]; kernel_rfl) (by simp) ?_
    refine ready_named HOPS.out (l' := (bt 8 127)) (by simp only [ga1,ga2,ga3]; exact rfl) (by kernel_rfl) (fun K hK => ?_) AllReadyH.nil
    obtain ⟨w3,g1,g2,g3⟩ := (K2'.out.sprom HO.out)
    refine step_store_run rfl 31 _ _ rfl ⟨rb,0,none⟩ rfl _ rfl w3 g1 ?_
    have HG2 := Lib.hid g2.1; have HS3 := Lib.hid g2.2; have HG3 := Lib.hid g3
    refine hK.out _ _ HS3.out (fun hHeld => ?_)
    clear hK K g1 g2 g3
    try simp only [Act.put,sa1,sa2,sa3]
    refine take_named HOPS.out (i := 7) (d := (some 3)) (v := ?v7) (a' := ?a7) (l' := (bt 8 255)) (by simp only [ga1,ga2,ga3]; exact rfl) (by kernel_rfl) (by kernel_rfl) (by kernel_rfl) (fun _ _ _ h => h) (Or.inl ⟨by rfl,?hy7⟩) (by assumption) (by rfl) ?ha7 (by kernel_rfl) ?r7
    case hy7 => intro w hSw; go_simp; try with_reducible rfl
    case ha7 => simp only [Act.put,sa1,sa2,sa3]; exact rfl
    refine wpAnyH_done (by rw [HOPS.out]; kernel_rfl) ?_ _
    refine HK1.out _ _ ?_
    go_wp2_with fail
    exact retCh rb _ rfl w3 rfl rfl rfl rfl HG2.out ⟨h.sprom,v,rfl,HG3.out,HV.out,HO.out,fun e => ⟨rfl,HP.out e⟩⟩
end Go.Proofs.YtkanmkcojlefbaaGreatDoor
