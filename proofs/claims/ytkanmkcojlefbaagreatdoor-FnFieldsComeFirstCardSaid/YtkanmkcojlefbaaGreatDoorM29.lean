/-
  Part of the proof; holds the texts AllowA, Allow, StepP.
-/
import Derived.Test.YtkanmkcojlefbaaGreatDoorM28
import Derived.Test.YtkanmkcojlefbaaGreatDoorM16
import Derived.Test.YtkanmkcojlefbaaGreatDoorM01
set_option maxRecDepth 100000
set_option linter.unusedSimpArgs false
set_option linter.unusedVariables false
namespace Go.Proofs.YtkanmkcojlefbaaGreatDoor
open Go.RowKit
variable {c0 c5 c6 c7 c9 c10 c11 c12 c13 c14 c15 c16 c17 c18 c19 c20 c21 c22 c23 c24 c25 c26 c27 c28 c29 c30 c31 c32 c33 c34 c35 c36 c37 c38 c39 c40 c41 c42 c43 c44 c45 c46 c47 c48 c49 c50 c51 c52 c53 c54 c55 c56 c57 c58 c59 c60 c61 c62 c63 c64 c65 c66 c67 c68 c69 c70 c71 c72 c73 c74 c75 c76 c77 c78 c79 c80 c81 c82 c83 c84 c85 c86 c87 c88 c89 c90 c91 c92 c93 c94 c95 c96 c97 c98 c99 c100 c101 c102 c103 c104 c105 c106 c107 c108 c109 c110 c111 c112 c113 c114 c115 c116 c117 c118 c119 c120 c121 c122 c123 c124 c125 c126 c127 c128 c129 c130 c131 c132 c133 c134 c135 c136 c137 c138 c139 c140 c141 c142 c143 c144 c145 c146 c147 c148 c149 c150 c151 c152 c153 c154 c155 c156 c157 c158 c159 c160 c161 c162 c163 c164 c165 c166 c167 c168 c169 c170 c171 c172 c173 c174 c175 c176 c177 c178 c179 c180 c181 c182 c183 c184 c185 c186 c187 c188 c189 c190 c191 c192 c193 c194 c195 c196 c197 c198 c199 c200 c201 c202 c203 c204 c205 c206 c207 c208 c209 c210 c211 c212 c213 c214 c215 c216 c217 c218 c219 c220 c221 c222 c223 c224 c225 c226 c227 c228 c229 c230 c231 c232 c233 c234 c235 c236 c237 c238 c239 c240 c241 c242 c243 c244 c245 c246 c247 c248 c249 c250 c251 c252 c253 c254 c255 c256 c257 c258 c259 c260 c261 c262 c263 c264 c265 c266 c267 c268 c269 c270 c271 c272 c273 c274 c275 c276 c277 c278 c279 c280 c281 c282 c283 c284 c285 c286 c287 c288 c289 c290 c291 c292 : Value}
set_option maxHeartbeats 8000000 in
theorem allow_restA (G0 : Nat) (E : Nat → Addr) (b0 : Nat) (H : Hd) (R : KV) (S : St) (hasR : Bool) (w wc : World) (hb0 : w.heap.size = b0) (hty : 48 ≤ H.typ ∧ H.typ ≤ 55) (hsz : hdrOnly H.typ = true ∨ 0 ≤ H.size) (hxa : H.xattr = .map none)
    (hval : ∀ k v,recM S.m R H.typ k = some v → validRec k v = true ∧ k.length ≤ 2305843009213693952 ∧ v.length ≤ 2305843009213693952)
    (hh0 : hasR = false → ∀ k,R k = none) (hh1 : hasR = true → ∃ k,R k ≠ none) (hfmt : H.fmt = 0 ∨ H.fmt = 2 ∨ H.fmt = 4 ∨ H.fmt = 8)
    (hne : fm (finF (S.u && !hasR) S.p (S.g && !hasR) S.q H.fmt).1 (finF (S.u && !hasR) S.p (S.g && !hasR) S.q H.fmt).2.1 (finF (S.u && !hasR) S.p (S.g && !hasR) S.q H.fmt).2.2 ≠ 0)
    (hA : AFS G0 E b0 H R S 26 wc) (hB : Below b0 w wc) :
    Code.wp Tryz.prog restA (bodyPost Tryz.prog Tryz.f65 (AllowOut G0 E (finF (S.u && !hasR) S.p (S.g && !hasR) S.q H.fmt) (recM S.m R H.typ) w)) ⟨(c0::.pointer (some ⟨b0,0,none⟩)::.pointer (some ⟨b0 + 1,0,none⟩)::.pointer (some ⟨b0 + 2,0,none⟩)::.nilIface::c5::c6::c7::.pointer (some ⟨b0 + 7,0,none⟩)::c9::c10::c11::c12::c13::c14::c15::c16::c17::c18::c19::c20::c21::c22::c23::c24::c25::c26::c27::c28::c29::c30::c31::c32::c33::c34::c35::c36::c37::c38::c39::c40::c41::c42::c43::c44::c45::c46::c47::c48::c49::c50::c51::c52::c53::c54::c55::c56::c57::c58::c59::c60::c61::c62::c63::c64::c65::c66::c67::c68::c69::c70::c71::c72::c73::c74::c75::c76::c77::c78::c79::c80::c81::c82::c83::c84::c85::c86::c87::c88::c89::c90::c91::c92::c93::c94::c95::c96::c97::c98::c99::c100::c101::c102::c103::c104::c105::c106::c107::c108::c109::c110::c111::c112::c113::c114::c115::c116::c117::c118::c119::c120::c121::c122::c123::c124::c125::c126::c127::c128::c129::c130::c131::c132::c133::c134::c135::c136::c137::c138::c139::c140::c141::c142::c143::c144::c145::c146::c147::c148::c149::c150::c151::c152::c153::c154::c155::c156::c157::c158::c159::c160::c161::c162::c163::c164::c165::c166::c167::c168::c169::c170::c171::c172::c173::c174::c175::c176::c177::c178::c179::c180::c181::c182::c183::c184::c185::c186::c187::c188::c189::c190::c191::c192::c193::c194::c195::c196::c197::c198::c199::c200::c201::c202::c203::c204::c205::c206::c207::c208::c209::c210::c211::c212::c213::c214::c215::c216::c217::c218::c219::c220::c221::c222::c223::c224::c225::c226::c227::c228::c229::c230::c231::c232::c233::c234::c235::c236::c237::c238::c239::c240::c241::c242::c243::c244::c245::c246::c247::c248::c249::c250::c251::c252::c253::c254::c255::c256::c257::c258::c259::c260::c261::c262::c263::c264::c265::c266::c267::c268::c269::c270::c271::c272::c273::c274::c275::c276::c277::c278::c279::c280::c281::c282::c283::c284::c285::c286::c287::c288::c289::c290::c291::c292::[]).toArray,[]⟩ wc := by
  conv => arg 2; whnf
  have HTY := Lib.hid hty; have HSZ := Lib.hid hsz; have HXA := Lib.hid hxa; have HVAL := Lib.hid hval; have HH0 := Lib.hid hh0; have HH1 := Lib.hid hh1; have HFM := Lib.hid hfmt; have HNE := Lib.hid hne
  have HBZ := Lib.hid hb0; have HA := Lib.hid hA; have HB := Lib.hid hB
  have ht := HA.out.hd 0 (.int .u8 H.typ) rfl
  clear hb0 hty hsz hxa hval hh0 hh1 hfmt hne hA hB
  have hz3 := HA.out.hd 3 (.int .i64 H.size) rfl
  have hio := isHdrOnly wc H.typ
  go_upto_region 44 with fail
  go_cut [173] (fun s173 wx => s173 = .bool false ∧ wx = wc)
  case first =>
    cases ho : hdrOnly H.typ
    · rw [ho] at hio
      have hz0 : ¬ H.size < 0 := by
        rcases HSZ.out with h | h
        · rw [ho] at h; cases h
        · omega
      go_wp2_with (go_at_call 124; refine hio.mono ?_; rintro e w' ⟨rfl,rfl⟩)
      go_meet
      exact ⟨by simp; omega,rfl⟩
    · rw [ho] at hio
      go_wp2_with (go_at_call 124; refine hio.mono ?_; rintro e w' ⟨rfl,rfl⟩)
      go_meet
      exact ⟨rfl,rfl⟩
  case rest =>
    obtain ⟨rfl,rfl⟩ := hcut
    clear hz3 hio ht
    have hx := HA.out.hd 17 H.xattr rfl
    rw [HXA.out] at hx
    have hxl := nil_len_run wc 3
    go_upto_region 46 with fail
    rename_i K1 hK1 K2 hK2
    have HK := Lib.hid hK1
    clear hK1
    go_wp2_with fail
    refine HK.out _ _ ?_
    clear hx hxl HK
    cases hb : hasR
    · subst hb
      exact allow_restCf G0 E b0 H R S w wc HBZ.out HXA.out HVAL.out (HH0.out rfl) HFM.out HNE.out HA.out HB.out
    · subst hb
      exact allow_restCt G0 E b0 H R S w wc HBZ.out HTY.out HVAL.out (HH1.out rfl) HFM.out HNE.out HA.out HB.out
end Go.Proofs.YtkanmkcojlefbaaGreatDoor
namespace Go.Proofs.YtkanmkcojlefbaaGreatDoor
open Go.RowKit
set_option maxHeartbeats 8000000 in
theorem allowed (G0 : Nat) (E : Nat → Addr) (H : Hd) (R : KV) (hin : H.InT) (hR0 : R [] = none) (w : World) (hg : Gl G0 E w) (hr : RecMap w H.recs R w.heap.size) (hty : 48 ≤ H.typ ∧ H.typ ≤ 55)
    (hsl : slashEnd H.name = true → H.typ = 49 ∨ H.typ = 50 ∨ H.typ = 53 ∨ H.typ = 55) (hsz : hdrOnly H.typ = true ∨ 0 ≤ H.size) (hxa : H.xattr = .map none)
    (hval : ∀ k v,recM (H.st R).m R H.typ k = some v → validRec k v = true ∧ k.length ≤ 2305843009213693952 ∧ v.length ≤ 2305843009213693952)
    (hasR : Bool) (hh0 : hasR = false → ∀ k,R k = none) (hh1 : hasR = true → ∃ k,R k ≠ none) (hfmt : H.fmt = 0 ∨ H.fmt = 2 ∨ H.fmt = 4 ∨ H.fmt = 8)
    (hne : fm (finF ((H.st R).u && !hasR) (H.st R).p ((H.st R).g && !hasR) (H.st R).q H.fmt).1 (finF ((H.st R).u && !hasR) (H.st R).p ((H.st R).g && !hasR) (H.st R).q H.fmt).2.1 (finF ((H.st R).u && !hasR) (H.st R).p ((H.st R).g && !hasR) (H.st R).q H.fmt).2.2 ≠ 0) :
    Calls Tryz.prog 65 #[.agg H.cells.toArray] w (AllowOut G0 E (finF ((H.st R).u && !hasR) (H.st R).p ((H.st R).g && !hasR) (H.st R).q H.fmt) (recM (H.st R).m R H.typ) w) := by
  have HTY := Lib.hid hty; have HSL := Lib.hid hsl; have HSZ := Lib.hid hsz; have HXA := Lib.hid hxa; have HVAL := Lib.hid hval; have HH0 := Lib.hid hh0; have HH1 := Lib.hid hh1; have HFM := Lib.hid hfmt; have HNE := Lib.hid hne
  clear hty hsl hsz hxa hval hh0 hh1 hfmt hne
  have hmm := @run_makeMap Tryz.prog
  have v7 := Lib.hid toV7; have vu := Lib.hid toUSTAR; have vg := Lib.hid toGNU
  have haf := allowW_af w H R hg hr
  have hbel := allowW_below w H
  have HT0 := Lib.hid haf
  have HB0 := Lib.hid hbel
  clear haf hbel hg hr
  go_enter Tryz.func65,Tryz.ntmps65
  go_wp2_with fail
  refine (v7.out _ _).mono ?_
  rintro e wx ⟨rfl,rfl⟩
  go_wp2_with fail
  refine (vu.out _ _).mono ?_
  rintro e wx ⟨rfl,rfl⟩
  go_wp2_with fail
  refine (vg.out _ _).mono ?_
  rintro e wx ⟨rfl,rfl⟩
  go_wp2_with fail
  clear hmm
  change Code.wp _ _ _ _ (allowW w H)
  generalize allowW w H = w1 at *
  simp only [Nat.add_assoc,Nat.reduceAdd]
  generalize hb0 : w.heap.size = b0 at *
  have HBZ := Lib.hid hb0
  clear hb0
  have HT := HT0
  have HB := HB0
  clear HT0 HB0
  have c := HT.out.hd 1 (str H.name) rfl
  have HC := Lib.hid (vStr _ E _ H R _ _ _ _ _ 0 _ HT.out.drew H.name [78,97,109,101] kPath 100 hin.name (by decide) (by decide) (.inl rfl))
  have va := Lib.hid v7name
  go_region_held3 (fun w' => w'.cell? ⟨b0,1,none⟩ = some (str H.name)) (first | go_keep | assumption) (first | (go_at_call 109; refine (va.out _ _ _).mono ?_; rintro e wx ⟨rfl,rfl⟩) | (go_at_call 93; refine HC.out.mono ?_; rintro e v1 ⟨rfl,hA,hB⟩; have c4 := hA.hd 1 (str H.name) rfl))
  have HT2 := Lib.hid hA
  have HB2 := Lib.hid (HB.out.trans ((Below.refl _ _).drew.trans hB))
  clear c c4 hA hB HC va HT HB
  have HT := HT2
  have HB := HB2
  clear HT2 HB2
  have c := HT.out.hd 2 (str H.link) rfl
  have HC := Lib.hid (vStr _ E _ H R _ _ _ _ _ 2 _ HT.out.drew H.link [76,105,110,107,110,97,109,101] kLink 100 hin.link (by decide) (by decide) (.inr (.inl rfl)))
  have va := Lib.hid v7link
  go_wp2_with fail
  go_region_held3 (fun w' => w'.cell? ⟨b0,2,none⟩ = some (str H.link)) (first | go_keep | assumption) (first | (go_at_call 110; refine (va.out _ _ _).mono ?_; rintro e wx ⟨rfl,rfl⟩) | (go_at_call 93; refine HC.out.mono ?_; rintro e v2 ⟨rfl,hA,hB⟩; have c4 := hA.hd 2 (str H.link) rfl))
  have HT2 := Lib.hid hA
  have HB2 := Lib.hid (HB.out.trans ((Below.refl _ _).drew.trans hB))
  clear c c4 hA hB HC va HT HB
  have HT := HT2
  have HB := HB2
  clear HT2 HB2
  have c := HT.out.hd 7 (str H.user) rfl
  have HC := Lib.hid (vStr _ E _ H R _ _ _ _ _ 4 _ HT.out.drew H.user [85,110,97,109,101] kUname 32 hin.user (by decide) (by decide) (.inr (.inr (.inl rfl))))
  have va := Lib.hid uUser
  go_wp2_with fail
  go_region_held3 (fun w' => w'.cell? ⟨b0,7,none⟩ = some (str H.user)) (first | go_keep | assumption) (first | (go_at_call 111; refine (va.out _ _ _).mono ?_; rintro e wx ⟨rfl,rfl⟩) | (go_at_call 93; refine HC.out.mono ?_; rintro e v3 ⟨rfl,hA,hB⟩; have c4 := hA.hd 7 (str H.user) rfl))
  have HT2 := Lib.hid hA
  have HB2 := Lib.hid (HB.out.trans ((Below.refl _ _).drew.trans hB))
  clear c c4 hA hB HC va HT HB
  have HT := HT2
  have HB := HB2
  clear HT2 HB2
  have c := HT.out.hd 8 (str H.group) rfl
  have HC := Lib.hid (vStr _ E _ H R _ _ _ _ _ 6 _ HT.out.drew H.group [71,110,97,109,101] kGname 32 hin.group (by decide) (by decide) (.inr (.inr (.inr rfl))))
  have va := Lib.hid uGroup
  go_wp2_with fail
  go_region_held3 (fun w' => w'.cell? ⟨b0,8,none⟩ = some (str H.group)) (first | go_keep | assumption) (first | (go_at_call 112; refine (va.out _ _ _).mono ?_; rintro e wx ⟨rfl,rfl⟩) | (go_at_call 93; refine HC.out.mono ?_; rintro e v4 ⟨rfl,hA,hB⟩; have c4 := hA.hd 8 (str H.group) rfl))
  have HT2 := Lib.hid hA
  have HB2 := Lib.hid (HB.out.trans ((Below.refl _ _).drew.trans hB))
  clear c c4 hA hB HC va HT HB
  have HT := HT2
  have HB := HB2
  clear HT2 HB2
  have c := HT.out.hd 4 (.int .i64 H.mode) rfl
  have HC := Lib.hid (vNum_none _ E _ H R _ _ _ _ _ 8 _ HT.out.drew H.mode 8 [77,111,100,101] hin.mode (.inl rfl) (by decide) (by decide) hR0)
  have va := Lib.hid v7mode
  go_wp2_with fail
  go_region_held3 (fun w' => w'.cell? ⟨b0,4,none⟩ = some (.int .i64 H.mode)) (first | go_keep | assumption) (first | (go_at_call 113; refine (va.out _ _ _).mono ?_; rintro e wx ⟨rfl,rfl⟩) | (go_at_call 98; refine HC.out.mono ?_; rintro e v5 ⟨rfl,hA,hB⟩; have c4 := hA.hd 4 (.int .i64 H.mode) rfl))
  have HT2 := Lib.hid hA
  have HB2 := Lib.hid (HB.out.trans ((Below.refl _ _).drew.trans hB))
  clear c c4 hA hB HC va HT HB
  have HT := HT2
  have HB := HB2
  clear HT2 HB2
  have c := HT.out.hd 5 (.int .i64 H.uid) rfl
  have HC := Lib.hid (vNum_key _ E _ H R _ _ _ _ _ 10 _ HT.out.drew H.uid 8 [85,105,100] hin.uid (.inl rfl) (by decide) (by decide) kUid (by decide) rfl)
  have va := Lib.hid v7uid
  go_wp2_with fail
  go_region_held3 (fun w' => w'.cell? ⟨b0,5,none⟩ = some (.int .i64 H.uid)) (first | go_keep | assumption) (first | (go_at_call 114; refine (va.out _ _ _).mono ?_; rintro e wx ⟨rfl,rfl⟩) | (go_at_call 98; refine HC.out.mono ?_; rintro e v6 ⟨rfl,hA,hB⟩; have c4 := hA.hd 5 (.int .i64 H.uid) rfl))
  have HT2 := Lib.hid hA
  have HB2 := Lib.hid (HB.out.trans ((Below.refl _ _).drew.trans hB))
  clear c c4 hA hB HC va HT HB
  have HT := HT2
  have HB := HB2
  clear HT2 HB2
  have c := HT.out.hd 6 (.int .i64 H.gid) rfl
  have HC := Lib.hid (vNum_key _ E _ H R _ _ _ _ _ 12 _ HT.out.drew H.gid 8 [71,105,100] hin.gid (.inl rfl) (by decide) (by decide) kGid (by decide) rfl)
  have va := Lib.hid v7gid
  go_wp2_with fail
  go_region_held3 (fun w' => w'.cell? ⟨b0,6,none⟩ = some (.int .i64 H.gid)) (first | go_keep | assumption) (first | (go_at_call 115; refine (va.out _ _ _).mono ?_; rintro e wx ⟨rfl,rfl⟩) | (go_at_call 98; refine HC.out.mono ?_; rintro e v7 ⟨rfl,hA,hB⟩; have c4 := hA.hd 6 (.int .i64 H.gid) rfl))
  have HT2 := Lib.hid hA
  have HB2 := Lib.hid (HB.out.trans ((Below.refl _ _).drew.trans hB))
  clear c c4 hA hB HC va HT HB
  have HT := HT2
  have HB := HB2
  clear HT2 HB2
  have c := HT.out.hd 3 (.int .i64 H.size) rfl
  have HC := Lib.hid (vNum_key _ E _ H R _ _ _ _ _ 14 _ HT.out.drew H.size 12 [83,105,122,101] hin.size (.inr rfl) (by decide) (by decide) kSize (by decide) rfl)
  have va := Lib.hid v7size
  go_wp2_with fail
  go_region_held3 (fun w' => w'.cell? ⟨b0,3,none⟩ = some (.int .i64 H.size)) (first | go_keep | assumption) (first | (go_at_call 116; refine (va.out _ _ _).mono ?_; rintro e wx ⟨rfl,rfl⟩) | (go_at_call 98; refine HC.out.mono ?_; rintro e v8 ⟨rfl,hA,hB⟩; have c4 := hA.hd 3 (.int .i64 H.size) rfl))
  have HT2 := Lib.hid hA
  have HB2 := Lib.hid (HB.out.trans ((Below.refl _ _).drew.trans hB))
  clear c c4 hA hB HC va HT HB
  have HT := HT2
  have HB := HB2
  clear HT2 HB2
  have c := HT.out.hd 15 (.int .i64 H.maj) rfl
  have HC := Lib.hid (vNum_none _ E _ H R _ _ _ _ _ 16 _ HT.out.drew H.maj 8 [68,101,118,109,97,106,111,114] hin.maj (.inl rfl) (by decide) (by decide) hR0)
  have va := Lib.hid uMaj
  go_wp2_with fail
  go_region_held3 (fun w' => w'.cell? ⟨b0,15,none⟩ = some (.int .i64 H.maj)) (first | go_keep | assumption) (first | (go_at_call 117; refine (va.out _ _ _).mono ?_; rintro e wx ⟨rfl,rfl⟩) | (go_at_call 98; refine HC.out.mono ?_; rintro e v9 ⟨rfl,hA,hB⟩; have c4 := hA.hd 15 (.int .i64 H.maj) rfl))
  have HT2 := Lib.hid hA
  have HB2 := Lib.hid (HB.out.trans ((Below.refl _ _).drew.trans hB))
  clear c c4 hA hB HC va HT HB
  have HT := HT2
  have HB := HB2
  clear HT2 HB2
  have c := HT.out.hd 16 (.int .i64 H.mnr) rfl
  have HC := Lib.hid (vNum_none _ E _ H R _ _ _ _ _ 18 _ HT.out.drew H.mnr 8 [68,101,118,109,105,110,111,114] hin.mnr (.inl rfl) (by decide) (by decide) hR0)
  have va := Lib.hid uMin
  go_wp2_with fail
  go_region_held3 (fun w' => w'.cell? ⟨b0,16,none⟩ = some (.int .i64 H.mnr)) (first | go_keep | assumption) (first | (go_at_call 118; refine (va.out _ _ _).mono ?_; rintro e wx ⟨rfl,rfl⟩) | (go_at_call 98; refine HC.out.mono ?_; rintro e v10 ⟨rfl,hA,hB⟩; have c4 := hA.hd 16 (.int .i64 H.mnr) rfl))
  have HT2 := Lib.hid hA
  have HB2 := Lib.hid (HB.out.trans ((Below.refl _ _).drew.trans hB))
  clear c c4 hA hB HC va HT HB
  have HT := HT2
  have HB := HB2
  clear HT2 HB2
  have c := HT.out.hd 9 (.int .u64 H.mw) rfl
  have cc := HT.out.hd 10 (.int .i64 H.mx) rfl
  have HC := Lib.hid (vTim _ E _ H R _ _ _ _ _ 20 _ HT.out.drew H.mw H.mx [77,111,100,84,105,109,101] kMtime (by decide) (by decide) hin.mw.1 hin.mw.2 hin.mx (.inl rfl))
  have va := Lib.hid v7mtime
  go_wp2_with fail
  go_region_held3 (fun w' => w'.cell? ⟨b0,9,none⟩ = some (.int .u64 H.mw) ∧ w'.cell? ⟨b0,10,none⟩ = some (.int .i64 H.mx)) (first | go_keep | (refine And.intro ?_ ?_ <;> assumption)) (first | (go_at_call 119; refine (va.out _ _ _).mono ?_; rintro e wx ⟨rfl,rfl⟩) | (go_at_call 102; refine HC.out.mono ?_; rintro e v11 ⟨rfl,hA,hB⟩; have c4 := hA.hd 9 (.int .u64 H.mw) rfl; have c5 := hA.hd 10 (.int .i64 H.mx) rfl))
  have HT2 := Lib.hid hA
  have HB2 := Lib.hid (HB.out.trans ((Below.refl _ _).drew.trans hB))
  clear c c4 hA hB HC va HT HB cc c5
  have HT := HT2
  have HB := HB2
  clear HT2 HB2
  have c := HT.out.hd 11 (.int .u64 H.aw) rfl
  have cc := HT.out.hd 12 (.int .i64 H.ax) rfl
  have HC := Lib.hid (vTim _ E _ H R _ _ _ _ _ 22 _ HT.out.drew H.aw H.ax [65,99,99,101,115,115,84,105,109,101] kAtime (by decide) (by decide) hin.aw.1 hin.aw.2 hin.ax (.inr (.inl rfl)))
  have va := Lib.hid gAccess
  go_wp2_with fail
  go_region_held3 (fun w' => w'.cell? ⟨b0,11,none⟩ = some (.int .u64 H.aw) ∧ w'.cell? ⟨b0,12,none⟩ = some (.int .i64 H.ax)) (first | go_keep | (refine And.intro ?_ ?_ <;> assumption)) (first | (go_at_call 120; refine (va.out _ _ _).mono ?_; rintro e wx ⟨rfl,rfl⟩) | (go_at_call 102; refine HC.out.mono ?_; rintro e v12 ⟨rfl,hA,hB⟩; have c4 := hA.hd 11 (.int .u64 H.aw) rfl; have c5 := hA.hd 12 (.int .i64 H.ax) rfl))
  have HT2 := Lib.hid hA
  have HB2 := Lib.hid (HB.out.trans ((Below.refl _ _).drew.trans hB))
  clear c c4 hA hB HC va HT HB cc c5
  have HT := HT2
  have HB := HB2
  clear HT2 HB2
  have c := HT.out.hd 13 (.int .u64 H.cw) rfl
  have cc := HT.out.hd 14 (.int .i64 H.cx) rfl
  have HC := Lib.hid (vTim _ E _ H R _ _ _ _ _ 24 _ HT.out.drew H.cw H.cx [67,104,97,110,103,101,84,105,109,101] kCtime (by decide) (by decide) hin.cw.1 hin.cw.2 hin.cx (.inr (.inr rfl)))
  have va := Lib.hid gChange
  go_wp2_with fail
  go_region_held3 (fun w' => w'.cell? ⟨b0,13,none⟩ = some (.int .u64 H.cw) ∧ w'.cell? ⟨b0,14,none⟩ = some (.int .i64 H.cx)) (first | go_keep | (refine And.intro ?_ ?_ <;> assumption)) (first | (go_at_call 121; refine (va.out _ _ _).mono ?_; rintro e wx ⟨rfl,rfl⟩) | (go_at_call 102; refine HC.out.mono ?_; rintro e v13 ⟨rfl,hA,hB⟩; have c4 := hA.hd 13 (.int .u64 H.cw) rfl; have c5 := hA.hd 14 (.int .i64 H.cx) rfl))
  have HT2 := Lib.hid hA
  have HB2 := Lib.hid (HB.out.trans ((Below.refl _ _).drew.trans hB))
  clear c c4 hA hB HC va HT HB cc c5
  have HT := HT2
  have HB := HB2
  clear HT2 HB2
  have hA : AFS G0 E b0 H R (H.st R) 26 v13 := HT.out
  have HA := Lib.hid hA
  have hnl := hin.name
  generalize hSt : H.st R = S at *
  clear hA HT hSt hR0 hin v7 vu vg
  obtain ⟨hty1,hty2⟩ := HTY.out
  have ht := HA.out.hd 0 (.int .u8 H.typ) rfl
  have hn1 := HA.out.hd 1 (str H.name) rfl
  have hsf := hasSuffix1 v13 H.name (by omega)
  go_upto_block 0 with fail
  go_cut [4] (fun s4 wx => s4 = .nilIface ∧ wx = v13)
  case first =>
    cases hs : slashEnd H.name
    · rw [hs] at hsf
      go_wp2_with (go_at_call 63; refine hsf.mono ?_; rintro e w' ⟨rfl,rfl⟩)
      all_goals (go_meet; exact ⟨rfl,rfl⟩)
    · have ht4 := HSL.out hs
      have q1 : (H.typ == 48) = false := by rw [beq_eq_false_iff_ne]; omega
      have q2 : (H.typ == 51) = false := by rw [beq_eq_false_iff_ne]; omega
      have q3 : (H.typ == 52) = false := by rw [beq_eq_false_iff_ne]; omega
      have q4 : (H.typ == 54) = false := by rw [beq_eq_false_iff_ne]; omega
      clear hsf ht4
      go_wp2_with fail
      all_goals (go_meet; exact ⟨rfl,rfl⟩)
  case rest =>
    obtain ⟨rfl,rfl⟩ := hcut
    clear hn1 hsf ht
    rename_i K hK hH
    refine hK _ _ ?_
    exact allow_restA G0 E b0 H R S hasR w wc HBZ.out HTY.out HSZ.out HXA.out HVAL.out HH0.out HH1.out HFM.out HNE.out HA.out HB.out
def AscOf (s s2 : List UInt8) : Prop := (asciiB s = true → s2 = s) ∧ asciiB s2 = true
section
variable {w : World} {tw b fw fb : Nat} {pad : Int} {hdr : List Value} {ferr : Value} {aE : Addr} {B : Blk}
theorem stepP_name (h : TB tw b fw pad hdr fb ferr aE B w) (s : List UInt8) (hl : s.length ≤ 1048576) :
    Calls Tryz.prog 142 #[.slice (some ⟨tw,23,none⟩) 100 512,str s,.pointer (some ⟨fb,0,none⟩)] w fun e w' => e = .returned (.tuple #[]) ∧ ∃ s2 new ferr2,AscOf s s2 ∧ FmtS B.name s2 new ∧ TB tw b fw pad hdr fb ferr2 aE { B with name := new } w' ∧ Fr w.heap.size [tw,fb] w w' := by
  have ht := toASCII_any s w hl
  have H := Lib.hid h
  clear h
  go_enter Tryz.func142,Tryz.ntmps142
  go_wp2_with fail
  refine ht.mono ?_
  rintro e w1 ⟨⟨m,rfl,hm1,hm2,hm3⟩,hb⟩
  have hs := stepS_name (H.out.below hb) m (by omega)
  have HM : Hid (AscOf s m) := Lib.hid ⟨hm1,hm2⟩; have HB := Lib.hid hb
  clear ht hm1 hm2 hm3 hb
  go_wp2_with fail
  refine hs.mono ?_
  rintro e w2 ⟨rfl,new,ferr2,k1,k2,k3,k4⟩
  go_wp2_with fail
  go_end0
  exact ⟨rfl,m,new,ferr2,HM.out,k1,k3,(Fr.of_below HB.out w.heap.size [tw,fb]).trans (k4.wide HB.out.size (fun k hk _ => hk))⟩
theorem stepP_link (h : TB tw b fw pad hdr fb ferr aE B w) (s : List UInt8) (hl : s.length ≤ 1048576) :
    Calls Tryz.prog 142 #[.slice (some ⟨tw,180,none⟩) 100 355,str s,.pointer (some ⟨fb,0,none⟩)] w fun e w' => e = .returned (.tuple #[]) ∧ ∃ s2 new ferr2,AscOf s s2 ∧ FmtS B.link s2 new ∧ TB tw b fw pad hdr fb ferr2 aE { B with link := new } w' ∧ Fr w.heap.size [tw,fb] w w' := by
  have ht := toASCII_any s w hl
  have H := Lib.hid h
  clear h
  go_enter Tryz.func142,Tryz.ntmps142
  go_wp2_with fail
  refine ht.mono ?_
  rintro e w1 ⟨⟨m,rfl,hm1,hm2,hm3⟩,hb⟩
  have hs := stepS_link (H.out.below hb) m (by omega)
  have HM : Hid (AscOf s m) := Lib.hid ⟨hm1,hm2⟩; have HB := Lib.hid hb
  clear ht hm1 hm2 hm3 hb
  go_wp2_with fail
  refine hs.mono ?_
  rintro e w2 ⟨rfl,new,ferr2,k1,k2,k3,k4⟩
  go_wp2_with fail
  go_end0
  exact ⟨rfl,m,new,ferr2,HM.out,k1,k3,(Fr.of_below HB.out w.heap.size [tw,fb]).trans (k4.wide HB.out.size (fun k hk _ => hk))⟩
theorem stepP_user (h : TB tw b fw pad hdr fb ferr aE B w) (s : List UInt8) (hl : s.length ≤ 1048576) :
    Calls Tryz.prog 142 #[.slice (some ⟨tw,288,none⟩) 32 247,str s,.pointer (some ⟨fb,0,none⟩)] w fun e w' => e = .returned (.tuple #[]) ∧ ∃ s2 new ferr2,AscOf s s2 ∧ FmtS B.user s2 new ∧ TB tw b fw pad hdr fb ferr2 aE { B with user := new } w' ∧ Fr w.heap.size [tw,fb] w w' := by
  have ht := toASCII_any s w hl
  have H := Lib.hid h
  clear h
  go_enter Tryz.func142,Tryz.ntmps142
  go_wp2_with fail
  refine ht.mono ?_
  rintro e w1 ⟨⟨m,rfl,hm1,hm2,hm3⟩,hb⟩
  have hs := stepS_user (H.out.below hb) m (by omega)
  have HM : Hid (AscOf s m) := Lib.hid ⟨hm1,hm2⟩; have HB := Lib.hid hb
  clear ht hm1 hm2 hm3 hb
  go_wp2_with fail
  refine hs.mono ?_
  rintro e w2 ⟨rfl,new,ferr2,k1,k2,k3,k4⟩
  go_wp2_with fail
  go_end0
  exact ⟨rfl,m,new,ferr2,HM.out,k1,k3,(Fr.of_below HB.out w.heap.size [tw,fb]).trans (k4.wide HB.out.size (fun k hk _ => hk))⟩
theorem stepP_group (h : TB tw b fw pad hdr fb ferr aE B w) (s : List UInt8) (hl : s.length ≤ 1048576) :
    Calls Tryz.prog 142 #[.slice (some ⟨tw,320,none⟩) 32 215,str s,.pointer (some ⟨fb,0,none⟩)] w fun e w' => e = .returned (.tuple #[]) ∧ ∃ s2 new ferr2,AscOf s s2 ∧ FmtS B.group s2 new ∧ TB tw b fw pad hdr fb ferr2 aE { B with group := new } w' ∧ Fr w.heap.size [tw,fb] w w' := by
  have ht := toASCII_any s w hl
  have H := Lib.hid h
  clear h
  go_enter Tryz.func142,Tryz.ntmps142
  go_wp2_with fail
  refine ht.mono ?_
  rintro e w1 ⟨⟨m,rfl,hm1,hm2,hm3⟩,hb⟩
  have hs := stepS_group (H.out.below hb) m (by omega)
  have HM : Hid (AscOf s m) := Lib.hid ⟨hm1,hm2⟩; have HB := Lib.hid hb
  clear ht hm1 hm2 hm3 hb
  go_wp2_with fail
  refine hs.mono ?_
  rintro e w2 ⟨rfl,new,ferr2,k1,k2,k3,k4⟩
  go_wp2_with fail
  go_end0
  exact ⟨rfl,m,new,ferr2,HM.out,k1,k3,(Fr.of_below HB.out w.heap.size [tw,fb]).trans (k4.wide HB.out.size (fun k hk _ => hk))⟩
end
end Go.Proofs.YtkanmkcojlefbaaGreatDoor
