/-
  Part of the proof; holds the texts RH1, RH0, RNb.
-/
import Derived.Test.YtkanmkcojlefbaaGreatDoorM24
import Derived.Test.YtkanmkcojlefbaaGreatDoorM21
import Derived.Test.YtkanmkcojlefbaaGreatDoorM23
import Derived.Test.YtkanmkcojlefbaaGreatDoorM22
import Derived.Test.YtkanmkcojlefbaaGreatDoorM17
import Derived.LoopN
set_option maxRecDepth 100000
set_option linter.unusedSimpArgs false
set_option linter.unusedVariables false
namespace Go.Proofs.YtkanmkcojlefbaaGreatDoor
open Go.RowKit
set_option maxHeartbeats 8000000 in
theorem rh1 (tr r : Nat) (pad : Int) (curr err : Value) (B : Blk) (V : RdV) (pb hb : Nat) (v0 u0 : World) (hR : RdF B V) (h : RHS tr r pad curr err B pb hb Hd.nil v0 u0)
    (R : Ending → World → Prop) (hK : ∀ w',RHS tr r pad curr err B pb hb (rdHd B V) v0 w' → R (.returned (.tuple #[.pointer (some ⟨hb,0,none⟩),.pointer (some ⟨tr,3,none⟩),.nilIface])) w') {c1 c2 c3 c4 c5 c6 c7 c8 c12 c13 c14 c15 c16 c17 c18 c19 c20 c21 c22 c23 c24 c25 c26 c27 c28 c29 c30 c31 c32 c33 c34 c35 c36 c37 c38 c39 c40 c41 c42 c43 c44 c45 c46 c47 c48 c49 c50 c51 c52 c53 c54 c55 c56 c57 c58 c59 c60 c61 c62 c63 c64 c65 c66 c67 c68 c69 c70 c71 c72 c73 c74 c75 c76 c77 c78 c79 c80 c81 c82 c83 c84 c85 c86 c87 c88 c89 c90 c91 c92 c93 c94 c95 c96 c97 c98 c99 c100 c101 c102 c103 c104 c105 c106 c107 c108 c109 c110 c111 c112 c113 c114 c115 c116 c117 c118 c119 c120 c121 c122 c123 c124 c125 c126 c127 c128 c129 c130 c131 c132 c133 c134 c135 c136 c137 c138 c139 c140 c141 c142 c143 c144 c145 c146 c147 c148 c149 c150 c151 c152 c153 c154 c155 c156 c157 c158 c159 c160 c161 c162 c163 c164 c165 c166 c167 c168 c169 c170 c171 c172 c173 c174 c175 c176 c177 c178 c179 c180 c181 c182 c183 c184 c185 c186 c187 c188 c189 c190 c191 c192 c193 c194 c195 c196 c197 c198 c199 c200 c201 c202 c203 c204 c205 c206 c207 c208 c209 c210 c211 c212 c213 c214 c215 c216 c217 c218 c219 c220 c221 c222 c223 c224 c225 c226 c227 c228 c229 c230 c231 c232 c233 c234 c235 c236 c237 c238 c239 c240 c241 c242 c243 c244 c245 c246 c247 c248 c249 c250 c251 c252 c253 c254 c255 c256 c257 c258 c259 c260 c261 c262 c263 c264 c265 c266 c267 c268 c269 c270 c271 c272 c273 c274 c275 c276 c277 c278 c279 c280 c281 c282 c283 c284 c285 c286 c287 c288 c289 c290 c291 c292 c293 c294 c295 c296 c297 c298 c299 c300 c301 c302 c303 c304 c305 c306 c307 c308 c309 c310 c311 c312 c313 c314 c315 c316 c317 c318 c319 c320 c321 c322 c323 c324 c325 c326 c327 c328 c329 c330 c331 c332 c333 c334 : Value} :
    Code.wp Tryz.prog restH1 (bodyPost Tryz.prog Tryz.f148 R) ⟨(.pointer (some ⟨tr,0,none⟩)::c1::c2::c3::c4::c5::c6::c7::c8::.int .i64 6::.pointer (some ⟨pb,0,none⟩)::.pointer (some ⟨hb,0,none⟩)::c12::c13::c14::c15::c16::c17::c18::c19::c20::c21::c22::c23::c24::c25::c26::c27::c28::c29::c30::c31::c32::c33::c34::c35::c36::c37::c38::c39::c40::c41::c42::c43::c44::c45::c46::c47::c48::c49::c50::c51::c52::c53::c54::c55::c56::c57::c58::c59::c60::c61::c62::c63::c64::c65::c66::c67::c68::c69::c70::c71::c72::c73::c74::c75::c76::c77::c78::c79::c80::c81::c82::c83::c84::c85::c86::c87::c88::c89::c90::c91::c92::c93::c94::c95::c96::c97::c98::c99::c100::c101::c102::c103::c104::c105::c106::c107::c108::c109::c110::c111::c112::c113::c114::c115::c116::c117::c118::c119::c120::c121::c122::c123::c124::c125::c126::c127::c128::c129::c130::c131::c132::c133::c134::c135::c136::c137::c138::c139::c140::c141::c142::c143::c144::c145::c146::c147::c148::c149::c150::c151::c152::c153::c154::c155::c156::c157::c158::c159::c160::c161::c162::c163::c164::c165::c166::c167::c168::c169::c170::c171::c172::c173::c174::c175::c176::c177::c178::c179::c180::c181::c182::c183::c184::c185::c186::c187::c188::c189::c190::c191::c192::c193::c194::c195::c196::c197::c198::c199::c200::c201::c202::c203::c204::c205::c206::c207::c208::c209::c210::c211::c212::c213::c214::c215::c216::c217::c218::c219::c220::c221::c222::c223::c224::c225::c226::c227::c228::c229::c230::c231::c232::c233::c234::c235::c236::c237::c238::c239::c240::c241::c242::c243::c244::c245::c246::c247::c248::c249::c250::c251::c252::c253::c254::c255::c256::c257::c258::c259::c260::c261::c262::c263::c264::c265::c266::c267::c268::c269::c270::c271::c272::c273::c274::c275::c276::c277::c278::c279::c280::c281::c282::c283::c284::c285::c286::c287::c288::c289::c290::c291::c292::c293::c294::c295::c296::c297::c298::c299::c300::c301::c302::c303::c304::c305::c306::c307::c308::c309::c310::c311::c312::c313::c314::c315::c316::c317::c318::c319::c320::c321::c322::c323::c324::c325::c326::c327::c328::c329::c330::c331::c332::c333::c334::[]).toArray,[]⟩ u0 := by
  conv => arg 2; whnf
  have HS := Lib.hid h
  have HR := Lib.hid hR; have HK := Lib.hid hK
  have vu := Lib.hid toV7; have v0' := Lib.hid v7type; have va := Lib.hid v7name; have vb := Lib.hid v7link; have vc := Lib.hid v7size; have vd := Lib.hid v7mode; have ve := Lib.hid v7uid; have vf := Lib.hid v7gid; have vg := Lib.hid v7mtime
  clear h hR hK
  go_wp2_with fail
  refine (vu.out _ _).mono ?_
  rintro e wx ⟨rfl,rfl⟩
  go_wp2_with fail
  refine (v0'.out _ _ _).mono ?_
  rintro e wx ⟨rfl,rfl⟩
  have z := HS.out.hz 0
  have hc := HS.out.hc 0 _ rfl
  have ht := at_cell (At.get_typ HR.out.ok HS.out.at) 0 (by rw [HR.out.ok.typ]; omega)
  rw [List.getD_eq_getElem?_getD] at ht
  go_wp2_with fail
  have HSn : Hid (RHS tr r pad curr err B pb hb ({ Hd.nil with typ := rdTyp B } : Hd) v0 (u0.setCell ⟨hb,0,none⟩ (.int .u8 (B.typ[0]?.getD 0).toNat))) := Lib.hid (HS.out.set 0 _ _ rfl)
  clear HS z hc ht
  have HS := HSn
  clear HSn
  generalize (u0.setCell ⟨hb,0,none⟩ (.int .u8 (B.typ[0]?.getD 0).toNat)) = u1 at *
  refine (va.out _ _ _).mono ?_
  rintro e wx ⟨rfl,rfl⟩
  have HPS := Lib.hid (parseString u1 (.pointer (some ⟨pb,0,none⟩)) tr 3 100 512 _ (At.get_name HR.out.ok HS.out.at) HR.out.ok.name (by omega))
  have z := HS.out.hz 1
  have hc := HS.out.hc 1 _ rfl
  go_wp2_with fail
  refine HPS.out.mono ?_
  rintro e wx ⟨rfl,rfl⟩
  go_wp2_with fail
  have HSn : Hid (RHS tr r pad curr err B pb hb ({ Hd.nil with typ := rdTyp B,name := cstr B.name } : Hd) v0 (u1.setCell ⟨hb,1,none⟩ (str (cstr B.name)))) := Lib.hid (HS.out.set 1 _ _ rfl)
  clear HPS HS z hc
  have HS := HSn
  clear HSn
  generalize (u1.setCell ⟨hb,1,none⟩ (str (cstr B.name))) = u2 at *
  refine (vb.out _ _ _).mono ?_
  rintro e wx ⟨rfl,rfl⟩
  have HPS := Lib.hid (parseString u2 (.pointer (some ⟨pb,0,none⟩)) tr 160 100 355 _ (At.get_link HR.out.ok HS.out.at) HR.out.ok.link (by omega))
  have z := HS.out.hz 2
  have hc := HS.out.hc 2 _ rfl
  go_wp2_with fail
  refine HPS.out.mono ?_
  rintro e wx ⟨rfl,rfl⟩
  go_wp2_with fail
  have HSn : Hid (RHS tr r pad curr err B pb hb ({ Hd.nil with typ := rdTyp B,name := cstr B.name,link := cstr B.link } : Hd) v0 (u2.setCell ⟨hb,2,none⟩ (str (cstr B.link)))) := Lib.hid (HS.out.set 2 _ _ rfl)
  clear HPS HS z hc
  have HS := HSn
  clear HSn
  generalize (u2.setCell ⟨hb,2,none⟩ (str (cstr B.link))) = u3 at *
  refine (vc.out _ _ _).mono ?_
  rintro e wx ⟨rfl,rfl⟩
  have HPS := Lib.hid (parseNumeric u3 (.pointer (some ⟨pb,0,none⟩)) tr 127 12 388 _ _ HR.out.size (At.get_size HR.out.ok HS.out.at) HR.out.ok.size (by omega) (by omega) (by omega))
  go_wp2_with fail
  refine HPS.out.mono ?_
  rintro e q ⟨rfl,hb1⟩
  have HQ := Lib.hid (HS.out.below hb1)
  clear hb1 HS
  have HS := HQ
  clear HQ
  have z := HS.out.hz 3
  have hc := HS.out.hc 3 _ rfl
  go_wp2_with fail
  have HSn : Hid (RHS tr r pad curr err B pb hb ({ Hd.nil with typ := rdTyp B,name := cstr B.name,link := cstr B.link,size := V.size } : Hd) v0 (q.setCell ⟨hb,3,none⟩ (.int .i64 V.size))) := Lib.hid (HS.out.set 3 _ _ rfl)
  clear HPS HS z hc
  have HS := HSn
  clear HSn
  generalize (q.setCell ⟨hb,3,none⟩ (.int .i64 V.size)) = u4 at *
  refine (vd.out _ _ _).mono ?_
  rintro e wx ⟨rfl,rfl⟩
  have HPS := Lib.hid (parseNumeric u4 (.pointer (some ⟨pb,0,none⟩)) tr 103 8 412 _ _ HR.out.mode (At.get_mode HR.out.ok HS.out.at) HR.out.ok.mode (by omega) (by omega) (by omega))
  go_wp2_with fail
  refine HPS.out.mono ?_
  rintro e q ⟨rfl,hb1⟩
  have HQ := Lib.hid (HS.out.below hb1)
  clear hb1 HS
  have HS := HQ
  clear HQ
  have z := HS.out.hz 4
  have hc := HS.out.hc 4 _ rfl
  go_wp2_with fail
  have HSn : Hid (RHS tr r pad curr err B pb hb ({ Hd.nil with typ := rdTyp B,name := cstr B.name,link := cstr B.link,size := V.size,mode := V.mode } : Hd) v0 (q.setCell ⟨hb,4,none⟩ (.int .i64 V.mode))) := Lib.hid (HS.out.set 4 _ _ rfl)
  clear HPS HS z hc
  have HS := HSn
  clear HSn
  generalize (q.setCell ⟨hb,4,none⟩ (.int .i64 V.mode)) = u5 at *
  refine (ve.out _ _ _).mono ?_
  rintro e wx ⟨rfl,rfl⟩
  have HPS := Lib.hid (parseNumeric u5 (.pointer (some ⟨pb,0,none⟩)) tr 111 8 404 _ _ HR.out.uid (At.get_uid HR.out.ok HS.out.at) HR.out.ok.uid (by omega) (by omega) (by omega))
  go_wp2_with fail
  refine HPS.out.mono ?_
  rintro e q ⟨rfl,hb1⟩
  have HQ := Lib.hid (HS.out.below hb1)
  clear hb1 HS
  have HS := HQ
  clear HQ
  have z := HS.out.hz 5
  have hc := HS.out.hc 5 _ rfl
  go_wp2_with fail
  have HSn : Hid (RHS tr r pad curr err B pb hb ({ Hd.nil with typ := rdTyp B,name := cstr B.name,link := cstr B.link,size := V.size,mode := V.mode,uid := V.uid } : Hd) v0 (q.setCell ⟨hb,5,none⟩ (.int .i64 V.uid))) := Lib.hid (HS.out.set 5 _ _ rfl)
  clear HPS HS z hc
  have HS := HSn
  clear HSn
  generalize (q.setCell ⟨hb,5,none⟩ (.int .i64 V.uid)) = u6 at *
  refine (vf.out _ _ _).mono ?_
  rintro e wx ⟨rfl,rfl⟩
  have HPS := Lib.hid (parseNumeric u6 (.pointer (some ⟨pb,0,none⟩)) tr 119 8 396 _ _ HR.out.gid (At.get_gid HR.out.ok HS.out.at) HR.out.ok.gid (by omega) (by omega) (by omega))
  go_wp2_with fail
  refine HPS.out.mono ?_
  rintro e q ⟨rfl,hb1⟩
  have HQ := Lib.hid (HS.out.below hb1)
  clear hb1 HS
  have HS := HQ
  clear HQ
  have z := HS.out.hz 6
  have hc := HS.out.hc 6 _ rfl
  go_upto_region 24 with fail
  rename_i K1 hK1
  have HK1 := Lib.hid hK1
  clear hK1
  have HSn : Hid (RHS tr r pad curr err B pb hb ({ Hd.nil with typ := rdTyp B,name := cstr B.name,link := cstr B.link,size := V.size,mode := V.mode,uid := V.uid,gid := V.gid } : Hd) v0 (q.setCell ⟨hb,6,none⟩ (.int .i64 V.gid))) := Lib.hid (HS.out.set 6 _ _ rfl)
  clear HPS HS z hc
  have HS := HSn
  clear HSn
  generalize (q.setCell ⟨hb,6,none⟩ (.int .i64 V.gid)) = u7 at *
  go_wp2_with fail
  refine (vg.out _ _ _).mono ?_
  rintro e wx ⟨rfl,rfl⟩
  have HPS := Lib.hid (parseNumeric u7 (.pointer (some ⟨pb,0,none⟩)) tr 139 12 376 _ _ HR.out.mtime (At.get_mtime HR.out.ok HS.out.at) HR.out.ok.mtime (by omega) (by omega) (by omega))
  go_wp2_with fail
  refine HPS.out.mono ?_
  rintro e q ⟨rfl,hb1⟩
  have HQ := Lib.hid (HS.out.below hb1)
  clear hb1 HS
  have HS := HQ
  clear HQ
  have hv := HR.out.mtime.lt
  have HT := Lib.hid (tOf q (V.mtime : Int) 0 (by omega) (by omega) (by omega))
  clear hv
  go_wp2_with fail
  refine HT.out.mono ?_
  rintro e q2 ⟨rfl,hb1⟩
  have HQ := Lib.hid (HS.out.below hb1)
  clear hb1 HS HT
  have HS := HQ
  clear HQ
  have z2 := HS.out.hz 10
  have hc2 := HS.out.hc 10 _ rfl
  have z := HS.out.hz 9
  have hc := HS.out.hc 9 _ rfl
  go_wp2_with fail
  have HSn : Hid (RHS tr r pad curr err B pb hb ({ Hd.nil with typ := rdTyp B,name := cstr B.name,link := cstr B.link,size := V.size,mode := V.mode,uid := V.uid,gid := V.gid,mx := V.mtime + 62135596800 } : Hd) v0 ((q2.setCell ⟨hb,9,none⟩ (.int .u64 0)).setCell ⟨hb,10,none⟩ (.int .i64 (V.mtime + 62135596800)))) := Lib.hid ((HS.out.set 9 (.int .u64 0) ({ Hd.nil with typ := rdTyp B,name := cstr B.name,link := cstr B.link,size := V.size,mode := V.mode,uid := V.uid,gid := V.gid } : Hd) rfl).set 10 (.int .i64 (V.mtime + 62135596800)) _ rfl)
  clear z2 hc2
  clear HPS HS z hc
  have HS := HSn
  clear HSn
  generalize ((q2.setCell ⟨hb,9,none⟩ (.int .u64 0)).setCell ⟨hb,10,none⟩ (.int .i64 (V.mtime + 62135596800))) = u8 at *
  refine HK1.out _ _ ?_
  exact rh2 tr r pad curr err B V pb hb v0 _ HR.out HS.out R HK.out
theorem TR.seg {tr r : Nat} {pad : Int} {curr err : Value} {l : List UInt8} {w : World} (h : TR tr r pad curr (Lib.byteCells l) err w) :
    Seg w tr 152 [.iface 84 (.pointer (some ⟨r,0,none⟩)),.int .i64 pad,curr] l [err] := by
  have := h.1
  unfold Seg
  rw [this]
  simp [rcells]
def RHOut (tr r g n c i : Nat) (pad : Int) (curr err : Value) (B : Blk) (H : Hd) (w : World) (e : Ending) (w' : World) : Prop :=
  ∃ hb,e = .returned (.tuple #[.pointer (some ⟨hb,0,none⟩),.pointer (some ⟨tr,3,none⟩),.nilIface]) ∧ w'.heap[hb]? = some (.cells H.cells.toArray 130 (0,0)) ∧ RD r g n c (i + 512) w' ∧ TR tr r pad curr (Lib.byteCells B.bytes) err w' ∧ Fr w.heap.size [r,tr] w w' ∧ w.heap.size ≤ hb
theorem blk_ne_zero {B : Blk} (hR : RdB B) : (B.bytes == List.replicate 512 0) = false := by
  rw [beq_eq_false_iff_ne]
  intro e
  have h1 : B.bytes[257]? = some 117 := by
    rw [Blk.at_magic,List.getElem?_append_right (by rw [hR.ok.bef_magic]; omega),hR.ok.bef_magic,hR.magic]; rfl
  rw [e,List.getElem?_replicate,if_pos (by omega)] at h1
  cases h1
set_option maxHeartbeats 4000000 in
theorem readHeader (w : World) (tr r g n c i : Nat) (pad : Int) (curr err : Value) (bs : List UInt8) (blk : List Value) (B : Blk) (V : RdV) (hR : RdF B V) (h : RD r g n c i w) (ht : TR tr r pad curr blk err w) (hi : i + 512 ≤ n) (hbig : n < 4611686018427387904) (hnc : n ≤ c)
    (hb : bs.length = n) (hsrc : At w g 0 (Lib.byteCells bs)) (hgS : g ∉ [r,tr]) (hB : (bs.drop i).take 512 = B.bytes) :
    Calls Tryz.prog 148 #[.pointer (some ⟨tr,0,none⟩)] w (RHOut tr r g n c i pad curr err B (rdHd B V) w) := by
  have hgr : g ≠ r := by simp at hgS; exact hgS.1
  have HC := readBlock w.drew tr r g n c i pad curr err bs blk h ht (by omega) hbig hnc hb hsrc hgr
  unfold GotBlock at HC
  rw [hB] at HC
  have HC := Lib.hid HC
  obtain ⟨c0,-⟩ := trCells ht.2 ht.1
  have HR := Lib.hid hR
  clear hR h ht hsrc
  go_enter Tryz.func148,Tryz.ntmps148
  go_wp2_with fail
  go_region_held3 (fun w' => w'.cell? ⟨tr,0,none⟩ = some (.iface 84 (.pointer (some ⟨r,0,none⟩)))) (first | go_keep | assumption) (first | (go_at_call 196; refine HC.out.mono ?_; rintro e w1 ⟨rfl,h2,h3,h4⟩; obtain ⟨d0,-⟩ := trCells h3.2 h3.1))
  go_wp2_with fail
  have ha1 := h3.at
  have hz := blk_ne_zero HR.out.toRdB
  have HE := bytesEqual (w1.alloc (.cells Tryz.zeroCells132 132)).drew tr 3 512 512 w1.heap.size 0 512 512 B.bytes (List.replicate 512 0) (ha1.carry (Below.heap_alloc w1 _ tr (lt_of_heap h3.1))) (newBlock w1) HR.out.ok.len (by simp)
  rw [hz] at HE
  have HE := Lib.hid HE
  clear ha1 hz
  go_region_held3 (fun _ => True) (trivial) (first | (go_at_call 197; refine HE.out.mono ?_; rintro e w2 ⟨rfl,rfl⟩))
  have hF2 : Fr w.heap.size [r,tr] w (w1.alloc (.cells Tryz.zeroCells132 132)).drew := (((Fr.refl _ _ w).drew.trans h4).alloc _).drew
  have ht2 : TR tr r pad curr (Lib.byteCells B.bytes) err (w1.alloc (.cells Tryz.zeroCells132 132)).drew := ⟨(Below.heap_alloc w1 _ tr (lt_of_heap h3.1)).trans h3.1,h3.2⟩
  have hr2 : RD r g n c (i + 512) (w1.alloc (.cells Tryz.zeroCells132 132)).drew := h2.alloc _
  clear d0 h2 h3 h4 HE HC c0
  generalize (w1.alloc (.cells Tryz.zeroCells132 132)).drew = w2 at *
  have HGF := Lib.hid (getFormat w2 tr 3 152 _ _ B HR.out.toRdB ht2.seg rfl)
  have HF2 := Lib.hid hF2; have HT2 := Lib.hid ht2; have HR2 := Lib.hid hr2
  clear hF2 ht2 hr2
  go_wp2_with fail
  refine HGF.out.mono ?_
  rintro e w3 ⟨rfl,hb3⟩
  have HF3 := Lib.hid (HF2.out.trans (Fr.of_below hb3 w.heap.size [r,tr])); have HT3 := Lib.hid (HT2.out.below hb3); have HR3 := Lib.hid (HR2.out.below hb3)
  clear HGF HF2 HT2 HR2 hb3
  go_upto_region 15 with fail
  rename_i K1 hK1
  have HK1 := Lib.hid hK1
  clear hK1
  go_wp2_with fail
  refine HK1.out _ _ ?_
  have hsz : w.heap.size ≤ w3.heap.size := HF3.out.size
  have hbw : Below w3.heap.size w3 ((w3.alloc (.cells #[.nilIface] 231)).alloc (.cells Hd.nil.cells.toArray 130)) := ((Below.refl _ w3).alloc (Nat.le_refl _) _).alloc (by simp) _
  refine rh1 tr r pad curr err B V w3.heap.size (w3.heap.size + 1) w3 _ HR.out ?_ _ (fun w' hS => ?_)
  · refine ⟨HT3.out.below hbw,?_,?_,hbw,by omega,by omega,lt_of_heap HT3.out.1⟩
    · rw [Lib.cell_of_heap (heap_alloc2_old w3 _ _)]; rfl
    · exact heap_alloc2_new w3 _ _
  · refine ⟨w3.heap.size + 1,rfl,hS.Hh,HR3.out.below hS.F,hS.T,HF3.out.trans (Fr.of_below hS.F _ _),by omega⟩
theorem Fr.thn {B B2 : Nat} {S S2 : List Nat} {a b c : World} (h : Fr B S a b) (k : Fr B2 S2 b c) (hB : B ≤ B2) (hS : ∀ q ∈ S2,q ∈ S ∨ a.heap.size ≤ q) : Fr B S a c :=
  ⟨k.os.trans h.os,k.tape.trans h.tape,k.output.trans h.output,Nat.le_trans h.size k.size,fun i o hi hn hb => k.block i o (h.block i o hi hn hb) (fun hm => by
    rcases hS i hm with h | h
    · exact hn h
    · have := lt_of_heap hi; omega) (fun hb2 => hb (Nat.le_trans hB hb2))⟩
structure NB (tr r g fb : Nat) (pu pp pg : Bool) (bs : List UInt8) (aE : Addr) (v0 w : World) : Prop where
  S : At w g 0 (Lib.byteCells bs)
  E : w.cell? ⟨0,0,none⟩ = some (errV aE)
  C : w.heap[fb]? = some (.cells #[.int .i64 (fm pu pp pg)] 128 (0,0))
  G : Fr v0.heap.size [r,tr] v0 w
  lfb : v0.heap.size ≤ fb
  gS : g ∉ [r,tr]
  zS : 0 ∉ [r,tr]
  rl : r < v0.heap.size
  tl : tr < v0.heap.size
  gl : g < v0.heap.size
  zl : 0 < v0.heap.size
theorem NB.step {tr r g fb : Nat} {pu pp pg : Bool} {bs : List UInt8} {aE : Addr} {v0 w w' : World} (h : NB tr r g fb pu pp pg bs aE v0 w) {S2 : List Nat} (f : Fr w.heap.size S2 w w') (hS : ∀ k ∈ S2,k = r ∨ k = tr ∨ (v0.heap.size ≤ k ∧ k ≠ fb)) : NB tr r g fb pu pp pg bs aE v0 w' := by
  have hg := h.gS; have hz := h.zS; have hgl := h.gl; have hzl := h.zl; have hrl := h.rl; have htl := h.tl; have hlf := h.lfb
  simp at hg hz
  have n1 : g ∉ S2 := fun hm => by rcases hS g hm with e | e | e <;> omega
  have n2 : 0 ∉ S2 := fun hm => by rcases hS 0 hm with e | e | e <;> omega
  have n3 : fb ∉ S2 := fun hm => by rcases hS fb hm with e | e | e <;> omega
  exact ⟨h.S.frame f (Nat.le_refl _) n1,f.cell h.E n2 (block_lt_of_cell h.E),f.cells h.C n3 (.inr (by decide)),h.G.thn f h.G.size (fun q hq => by
    rcases hS q hq with e | e | e
    · exact .inl (by simp [e])
    · exact .inl (by simp [e])
    · exact .inr e.1),h.lfb,h.gS,h.zS,h.rl,h.tl,h.gl,h.zl⟩
theorem NB.below {tr r g fb : Nat} {pu pp pg : Bool} {bs : List UInt8} {aE : Addr} {v0 w w' : World} (h : NB tr r g fb pu pp pg bs aE v0 w) (f : Below w.heap.size w w') : NB tr r g fb pu pp pg bs aE v0 w' :=
  h.step (S2 := []) (Fr.of_below f _ _) (by simp)
theorem NB.setC {tr r g fb : Nat} {pu pp pg : Bool} {bs : List UInt8} {aE : Addr} {v0 w : World} (h : NB tr r g fb pu pp pg bs aE v0 w) (qu qp qg : Bool) : NB tr r g fb qu qp qg bs aE v0 (w.setCell ⟨fb,0,none⟩ (.int .i64 (fm qu qp qg))) := by
  have hgl := h.gl; have hzl := h.zl; have hlf := h.lfb
  have f : Fr w.heap.size [fb] w (w.setCell ⟨fb,0,none⟩ (.int .i64 (fm qu qp qg))) := (Fr.refl _ _ w).setCell (.inl (by simp)) _
  refine ⟨h.S.frame f (Nat.le_refl _) (by simp; omega),f.cell h.E (by simp; omega) (block_lt_of_cell h.E),?_,h.G.thn f h.G.size (fun q hq => .inr (by simp at hq; omega)),h.lfb,h.gS,h.zS,h.rl,h.tl,h.gl,h.zl⟩
  have := heap_set_same (i := 0) (.int .i64 (fm qu qp qg)) h.C
  simpa using this
theorem NB.offC {w : World} {fb k : Nat} {o : Obj} (hk : w.heap[k]? = some o) (hne : k ≠ fb) (v : Value) : (w.setCell ⟨fb,0,none⟩ v).heap[k]? = some o := (heap_set_other (a := ⟨fb,0,none⟩) _ hne).trans hk
theorem rcells_splice2 (rv pad curr err : Value) (blk new : List Value) (k : blk.length = 512) (k2 : new.length ≤ 512) :
    splice (rv::pad::curr::(blk ++ [err])) 3 new = rv::pad::curr::((new ++ blk.drop new.length) ++ [err]) := by
  simp only [splice,List.take_succ_cons,List.take_zero,List.cons_append,List.nil_append,List.append_assoc]
  rw [show 3 + new.length = new.length + 1 + 1 + 1 by omega]
  simp only [List.drop_succ_cons]
  rw [List.drop_append_of_le_length (by omega)]
theorem padRead (w : World) (tr r g n c i pad : Nat) (curr err : Value) (bs : List UInt8) (blk : List Value) (aE : Addr) (pd : Int) (h : RD r g n c i w) (ht : TR tr r pd curr blk err w) (hi : i + pad ≤ n) (hp : pad < 512) (hbig : n < 4611686018427387904) (hnc : n ≤ c)
    (hb : bs.length = n) (hsrc : At w g 0 (Lib.byteCells bs)) (hgr : g ≠ r) (hE : w.cell? ⟨0,0,none⟩ = some (errV aE)) (hE0 : 0 ∉ [r,tr]) :
    Calls Tryz.prog 147 #[.iface 84 (.pointer (some ⟨r,0,none⟩)),.slice (some ⟨tr,3,none⟩) pad 512] w fun e w' => e = .returned (.tuple #[.int .i64 pad,.nilIface]) ∧ RD r g n c (i + pad) w' ∧ (∃ blk2,TR tr r pd curr blk2 err w') ∧ Fr w.heap.size [r,tr] w w' := by
  by_cases h0 : pad = 0
  · subst h0
    refine (tryReadFull_none w _ _ _ aE hE).mono ?_
    rintro e w' ⟨rfl,rfl⟩
    exact ⟨rfl,h,⟨blk,ht⟩,Fr.refl _ _ _⟩
  · have hne : tr ≠ r := by
      obtain ⟨p,hr⟩ := h
      rintro rfl
      rw [ht.1] at hr
      cases hr
    refine (tryReadFull_full w r g n c i tr 3 pad 512 bs _ 152 aE h (by omega) (by omega) (by omega) hbig hnc hb hsrc ht.1 (by simp [ht.2]; omega) hne hgr hE hE0).mono ?_
    rintro e w' ⟨rfl,h2,h3,h4⟩
    have hl : (Lib.byteCells ((bs.drop i).take pad)).length = pad := by rw [Lib.byteCells_length,List.length_take,List.length_drop,hb]; omega
    rw [rcells_splice2 _ _ _ _ _ _ ht.2 (by omega)] at h3
    refine ⟨rfl,h2,⟨_,h3,?_⟩,h4⟩
    rw [List.length_append,List.length_drop,hl,ht.2]; omega
def seekC (n : Nat) : Code → Option Code
  | .seq a b => match headIs n a with
    | true => some (.seq a b)
    | false => match seekC n a with
      | some c => some c
      | none => seekC n b
  | .cond _ a b => match seekC n a with
      | some c => some c
      | none => seekC n b
  | .block _ a => seekC n a
  | .loop a => seekC n a
  | _ => none
noncomputable def round72 : Code := (seekC 4 (Tryz.f72.body.getD .skip)).getD .skip
noncomputable def half72 : Code := (seekC 18 (Tryz.f72.body.getD .skip)).getD .skip
end Go.Proofs.YtkanmkcojlefbaaGreatDoor
