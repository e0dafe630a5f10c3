/-
  Part of the proof; holds the texts WPaxT, Iter, Bld, FRec.
-/
import Derived.Test.YtkanmkcojlefbaaGreatDoorM30
import Derived.Test.YtkanmkcojlefbaaGreatDoorM17
import Derived.Test.YtkanmkcojlefbaaGreatDoorM31
import Derived.Shelf.SlIter.Nil
import Derived.Shelf.SortM.Plain
import Derived.Shelf.SortM.SortNone
import Derived.Ground.GgzProg
import Derived.Ground.SlgmProg
import Derived.Test.YtkanmkcojlefbaaGreatDoorM15
import Derived.Test.YtkanmkcojlefbaaGreatDoorM05
import Derived.Test.YtkanmkcojlefbaaGreatDoorM01
import Derived.Test.YtkanmkcojlefbaaGreatDoorM13
set_option maxRecDepth 100000
set_option linter.unusedSimpArgs false
set_option linter.unusedVariables false
namespace Go.Proofs.YtkanmkcojlefbaaGreatDoor
open Go.RowKit
noncomputable def restP : Code := tailFrom 30 (Tryz.f68.body.getD .skip)
def PStr (n : Nat) (s fld : List UInt8) : Prop := ∃ s2,AscOf s s2 ∧ FmtS (List.replicate n 0) s2 fld
def octP (n : Nat) (x : Int) : List UInt8 := octField n (if octFits n x then x.toNat else 0)
structure PBlk (h : Hd) (B : Blk) : Prop where
  ok : B.Ok
  typ : B.typ = [UInt8.ofNat h.typ.toNat]
  name : PStr 100 h.name B.name
  link : PStr 100 h.link B.link
  user : PStr 32 h.user B.user
  group : PStr 32 h.group B.group
  mode : B.mode = octP 8 h.mode
  uid : B.uid = octP 8 h.uid
  gid : B.gid = octP 8 h.gid
  size : B.size = octP 12 h.size
  mtime : B.mtime = octP 12 h.sec
  maj : B.maj = octP 8 h.maj
  mnr : B.mnr = octP 8 h.mnr
  magic : B.magic = [117,115,116,97,114,0]
  ver : B.ver = [48,48]
  chk : B.chk = octField 7 (cks B.bytes 512) ++ [32]
  rest : B.rest = List.replicate 167 0
def PTail (B tw b pad : Nat) (H : Hd) (bs : List UInt8) (sz : Int) (w w' : World) : Prop :=
  ∃ fw2 B2,PBlk H B2 ∧ Buf B b (bs ++ List.replicate pad 0 ++ B2.bytes) w' ∧ TW tw b fw2 (padOf sz) H.cells (Lib.byteCells B2.bytes) .nilIface w' ∧ FW fw2 b sz w' ∧ w.heap.size ≤ fw2 ∧ fw2 < w'.heap.size ∧ Fr B [b,tw] w w'
set_option maxHeartbeats 4000000 in
theorem pax_rest (G0 : Nat) (E : Nat → Addr) (B tw b fw pad : Nat) (H : Hd) (blk bs : List UInt8) (w : World) (h : WS G0 E B tw b fw pad H blk bs .nilIface w) (hp : pad < 512) (hin : H.In) (sz : Int) (hsz : sz = if hdrOnly H.typ then 0 else H.size) (hsz0 : 0 ≤ sz) (hlim : bs.length + pad + 512 ≤ 140737488355328)
    (R : Ending → World → Prop) (hR : ∀ w',PTail B tw b pad H bs sz w w' → R (.returned .nilIface) w') {c2 c3 c4 c5 c6 c7 c8 c10 c11 c12 c13 c14 c15 c16 c17 c18 c19 c20 c21 c22 c23 c24 c25 c26 c27 c28 c29 c30 c31 c32 c33 c34 c35 c36 c37 c38 c39 c40 c41 c42 c43 c44 c45 c46 c47 c48 c49 c50 c51 c52 c53 c54 c55 c56 c57 c58 c59 c60 c61 c62 c63 c64 c65 c66 c67 c68 c69 c70 c71 c72 c73 c74 c75 c76 c77 c78 c79 c80 c81 c82 c83 c84 c85 c86 c87 c88 c89 c90 c91 c92 c93 c94 c95 c96 c97 c98 c99 c100 c101 c102 c103 c104 c105 c106 c107 c108 c109 c110 c111 c112 c113 c114 c115 c116 c117 : Value} :
    Code.wp Tryz.prog restP (bodyPost Tryz.prog Tryz.f68 R) ⟨(.pointer (some ⟨tw,0,none⟩)::.pointer (some ⟨tw,3,none⟩)::c2::c3::c4::c5::c6::c7::c8::.bool false::c10::c11::c12::c13::c14::c15::c16::c17::c18::c19::c20::c21::c22::c23::c24::c25::c26::c27::c28::c29::c30::c31::c32::c33::c34::c35::c36::c37::c38::c39::c40::c41::c42::c43::c44::c45::c46::c47::c48::c49::c50::c51::c52::c53::c54::c55::c56::c57::c58::c59::c60::c61::c62::c63::c64::c65::c66::c67::c68::c69::c70::c71::c72::c73::c74::c75::c76::c77::c78::c79::c80::c81::c82::c83::c84::c85::c86::c87::c88::c89::c90::c91::c92::c93::c94::c95::c96::c97::c98::c99::c100::c101::c102::c103::c104::c105::c106::c107::c108::c109::c110::c111::c112::c113::c114::c115::c116::c117::[]).toArray,[]⟩ w := by
  conv => arg 2; whnf
  have hMa := h.below ((Below.refl _ w).alloc (Nat.le_refl _) (.cells #[.nilIface] 196))
  have hfb := heap_alloc_new w (.cells #[.nilIface] 196)
  have hTB : TB tw b fw pad H.cells w.heap.size .nilIface (E 3) (blkOf blk) (w.alloc (.cells #[.nilIface] 196)) :=
    ⟨by rw [blkOf_bytes _ hMa.blk512]; exact hMa.W,blkOf_ok _ hMa.blk512,hfb,hMa.gl.db,hMa.gl.err 3 (by decide),by have := hMa.tG; have := hMa.gl.g19; omega,by have := hMa.tG; have := hMa.gl.g19; omega,by have := h.gl.le; have := h.gl.g19; omega,by have := h.gl.le; have := h.gl.g19; omega⟩
  have hT := templateP (w.alloc (.cells #[.nilIface] 196)) tw b fw w.heap.size pad H hin .nilIface (E 3) _ hTB
  have hft : w.heap.size ≠ tw := by have := lt_of_heap h.W.1; omega
  have hfG : G0 ≤ w.heap.size := h.gl.le
  have hFa : Fr B [tw] w (w.alloc (.cells #[.nilIface] 196)) := (Fr.refl _ _ w).alloc _
  have HT := Lib.hid hT; have HMa := Lib.hid hMa; have HFB := Lib.hid hfb; have HFa := Lib.hid hFa; have HIN := Lib.hid hin; have HSZ := Lib.hid hsz; have HRR := Lib.hid hR; have HBG := Lib.hid (And.intro h.BG (And.intro h.tG h.bG)); have HSZ0 := Lib.hid hsz0
  clear hT hMa hfb hFa hin hsz hR hTB h hsz0
  generalize hwa : w.alloc (.cells #[.nilIface] 196) = wa at *
  generalize hfbn : w.heap.size = fb at *
  have HBN := Lib.hid hfbn
  go_wp2_with fail
  refine HT.out.mono ?_
  clear hfbn hwa
  rintro e w3 ⟨rfl,n2,l2,u2,g2,B2,ferr2,hT2,hTm,a1,a2,a3,a4,hF3⟩
  have hWS3 := HMa.out.next hF3 HFB.out hfG hT2.W hT2.ok.len
  have hsetf := fun (o : Nat) (ho : (twPre b fw pad H.cells).length = o) => setFormat_ustar w3 tw 134 _ _ _ 4 (.inr rfl) hT2.ok hT2.seg hT2.tw15 hT2.db
  have hsf := hsetf 23 hT2.pre
  rw [hT2.pre] at hsf
  have HSF := Lib.hid hsf; have HW3 := Lib.hid hWS3; have HOKB := Lib.hid hT2.ok; have HTM := Lib.hid hTm; have HF3 := Lib.hid hF3; have HA := Lib.hid (And.intro a1 (And.intro a2 (And.intro a3 a4))); have HT2F := Lib.hid hT2.F
  clear hsf hsetf hWS3 hT2 hTm hF3 a1 a2 a3 a4 HT
  go_wp2_with fail
  refine HSF.out.mono ?_
  rintro e w5 ⟨rfl,hs5,hF5⟩
  have okM := HOKB.out.put_magic [117,115,116,97,114,0] rfl
  have ok5u : B2.ustar.Ok := okM.put_ver [48,48] rfl
  have hck := cks_le B2.ustar.bytes 512
  have hol : (octField 7 (cks B2.ustar.bytes 512)).length = 7 := octField_length 7 _ (by omega) (by omega)
  have ok5 : B2.ustar.summed.Ok := ok5u.put_chk _ (by rw [List.length_append,hol]; rfl)
  have hTW5 : TW tw b fw pad H.cells (Lib.byteCells B2.ustar.summed.bytes) .nilIface w5 := TW.of_seg hs5 rfl ok5.len
  have F65 : Fr wa.heap.size [tw,fb] wa w5 := HF3.out.trans (hF5.wide HF3.out.size (by simp))
  have hWS5 := HMa.out.next F65 HFB.out hfG hTW5 ok5.len
  have hchk : B2.ustar.summed.chk = octField 7 (cks B2.ustar.summed.bytes 512) ++ [32] := by
    show octField 7 (cks B2.ustar.bytes 512) ++ [32] = octField 7 (cks B2.ustar.summed.bytes 512) ++ [32]
    rw [show cks B2.ustar.summed.bytes 512 = cks B2.ustar.bytes 512 from cks_congr B2.ustar ok5u (octField 7 (cks B2.ustar.bytes 512) ++ [32]) (by rw [List.length_append,hol]; rfl)]
  have hPB : PBlk H B2.ustar.summed := by
    obtain ⟨a1,a2,a3,a4⟩ := HA.out
    have t := HTM.out
    exact ⟨ok5,t.typ,⟨n2,a1,t.name⟩,⟨l2,a2,t.link⟩,⟨u2,a3,t.user⟩,⟨g2,a4,t.group⟩,t.mode,t.uid,t.gid,t.size,t.mtime,t.maj,t.mnr,rfl,rfl,hchk,t.rest⟩
  have cs := hWS5.hdr 3 (.int .i64 H.size) rfl
  have ct := hWS5.hdr 0 (.int .u8 H.typ) rfl
  have hsz1 : sz ≤ 9223372036854775807 := by
    have h1 := HSZ.out; have h3 := HIN.out.size
    split at h1 <;> omega
  have hrh := writeRawHeader w5.drew B tw b fw pad hp bs B2.ustar.summed.bytes H.cells H.size sz H.typ hWS5.drew.buf hWS5.drew.Bw hWS5.drew.W hWS5.drew.F hlim HSZ0.out hsz1 HSZ.out
  have hFt : Fr B [b,tw] w w5.drew := (((HFa.out.wide (S' := [b,tw,fb]) (Nat.le_refl _) (fun k hk _ => by rw [List.mem_singleton.1 hk]; simp)).trans (F65.wide (B' := B) (S' := [b,tw,fb]) HMa.out.Bw (fun k hk _ => List.mem_cons_of_mem _ hk))).wide (Nat.le_refl _) (fun k hk hlt => by
      rcases List.mem_cons.1 hk with h | hk
      · rw [h]; simp
      · rcases List.mem_cons.1 hk with h | hk
        · rw [h]; simp
        · have := List.mem_singleton.1 hk; have := HBN.out; omega)).drew
  have HRH := Lib.hid hrh; have HP := Lib.hid hPB; have HFt := Lib.hid hFt
  clear hs5 hF5 okM ok5u hck hol hTW5 F65 hchk hrh hPB hFt HTM HA HOKB HSF HW3 HT2F ok5 hsz1 hWS5
  go_wp2_with fail
  go_region_held3 (fun w' => w'.cell? ⟨tw,6,none⟩ = some (.int .i64 H.size) ∧ w'.cell? ⟨tw,3,none⟩ = some (.int .u8 H.typ)) (first | go_keep | (refine And.intro ?_ ?_ <;> assumption)) (first | (go_at_call 133; refine HRH.out.mono ?_; rintro e w6 ⟨rfl,fw2,r1,r2,r3,r4,r5,r6⟩; have d0 := (hdr_cell r2 3 (.int .i64 H.size) rfl); have d1 := (hdr_cell r2 0 (.int .u8 H.typ) rfl)))
  have hwl : w.heap.size ≤ w5.drew.heap.size := HFt.out.size
  have hfin := HRR.out _ ⟨fw2,B2.ustar.summed,HP.out,r1,r2,r3,Nat.le_trans hwl r4,r5,HFt.out.trans (r6.wide (Nat.le_refl _) (fun k hk _ => hk))⟩
  have HFIN := Lib.hid hfin
  clear hfin r1 r2 r3 r4 r5 r6
  go_wp2_with fail
  exact HFIN.out
end Go.Proofs.YtkanmkcojlefbaaGreatDoor
namespace Go.Proofs
open Go.RowKit Go.Maps Go.Sort Go.Shelf
def Tryz.keys135_ren : Go.Shelf.Ren := ⟨fun | 7 => 135 | 10 => 189 | n => n,fun | 23 => 127 | 26 => 9 | 3 => 9 | 28 => 206 | 0 => 0 | 27 => 205 | 33 => 56 | 4 => 4 | n => n,fun | n => n⟩
theorem Tryz.keys135 : Go.Proofs.SlLaysZ.n7 Tryz.prog Tryz.keys135_ren := {
  mixed := by kernel_rfl
  f7 := ⟨Tryz.f135.name,by decide,Tryz.func135.trans (congrArg some (by kernel_rfl))⟩
  f10 := ⟨Tryz.f189.name,by decide,Tryz.func189.trans (congrArg some (by kernel_rfl))⟩
  t0 := Tryz.underlying0
  a0 := Tryz.isAgg0
  z0 := Tryz.sizeOf0
  v0 := Tryz.zeroValue0
  t4 := Tryz.underlying4
  a4 := Tryz.isAgg4
  z4 := Tryz.sizeOf4
  v4 := Tryz.zeroValue4
  t23 := Tryz.underlying127
  a23 := Tryz.isAgg127
  z23 := Tryz.sizeOf127
  v23 := Tryz.zeroValue127
  t26 := Tryz.underlying9
  a26 := Tryz.isAgg9
  z26 := Tryz.sizeOf9
  v26 := Tryz.zeroValue9
  t27 := Tryz.underlying205
  a27 := Tryz.isAgg205
  z27 := Tryz.sizeOf205
  v27 := Tryz.zeroValue205
  t28 := Tryz.underlying206
  a28 := Tryz.isAgg206
  z28 := Tryz.sizeOf206
  v28 := Tryz.zeroValue206
  t33 := Tryz.underlying56
  a33 := Tryz.isAgg56
  z33 := Tryz.sizeOf56
  v33 := Tryz.zeroValue56 }
def Tryz.sorted134_ren : Go.Shelf.Ren := ⟨fun | 6 => 134 | 8 => 187 | 9 => 188 | 11 => 228 | 13 => 230 | 12 => 229 | 23 => 274 | 24 => 258 | 14 => 265 | 15 => 266 | 16 => 267 | 17 => 268 | 18 => 269 | 19 => 270 | 20 => 271 | 21 => 272 | 22 => 273 | 25 => 291 | 26 => 292 | 27 => 293 | 28 => 294 | 29 => 295 | 30 => 296 | 31 => 311 | n => n,fun | 26 => 9 | 28 => 206 | 24 => 54 | 0 => 0 | 3 => 3 | 37 => 167 | 48 => 331 | 50 => 124 | 4 => 4 | 40 => 342 | 39 => 341 | 45 => 346 | 5 => 5 | 9 => 9 | 51 => 363 | 55 => 367 | 57 => 383 | 58 => 384 | 33 => 56 | n => n,fun | n => n⟩
theorem Tryz.sorted134 : Go.Proofs.SlLaysZ.n6 Tryz.prog Tryz.sorted134_ren := {
  mixed := by kernel_rfl
  f6 := ⟨Tryz.f134.name,by decide,Tryz.func134.trans (congrArg some (by kernel_rfl))⟩
  f8 := ⟨Tryz.f187.name,by decide,Tryz.func187.trans (congrArg some (by kernel_rfl))⟩
  f11 := ⟨Tryz.f228.name,by decide,Tryz.func228.trans (congrArg some (by kernel_rfl))⟩
  t0 := Tryz.underlying0
  a0 := Tryz.isAgg0
  z0 := Tryz.sizeOf0
  v0 := Tryz.zeroValue0
  t24 := Tryz.underlying54
  a24 := Tryz.isAgg54
  z24 := Tryz.sizeOf54
  v24 := Tryz.zeroValue54
  t26 := Tryz.underlying9
  a26 := Tryz.isAgg9
  z26 := Tryz.sizeOf9
  v26 := Tryz.zeroValue9
  t28 := Tryz.underlying206
  a28 := Tryz.isAgg206
  z28 := Tryz.sizeOf206
  v28 := Tryz.zeroValue206
  i26 := by kernel_rfl }
def Tryz.sort188_ren : Go.Shelf.Ren := ⟨fun | 6 => 188 | 8 => 230 | 9 => 229 | 19 => 274 | 20 => 258 | 21 => 265 | 22 => 266 | 23 => 267 | 24 => 268 | 25 => 269 | 26 => 270 | 27 => 271 | 28 => 272 | 29 => 273 | 36 => 291 | 31 => 292 | 32 => 293 | 37 => 294 | 38 => 295 | 39 => 296 | 41 => 311 | n => n,fun | 27 => 54 | 29 => 9 | 3 => 3 | 32 => 167 | 26 => 54 | 0 => 0 | 44 => 331 | 46 => 124 | 4 => 4 | 36 => 342 | 35 => 341 | 41 => 346 | 5 => 5 | 9 => 9 | 53 => 363 | 57 => 367 | 63 => 383 | 64 => 384 | n => n,fun | n => n⟩
theorem Tryz.sort188 : Go.Proofs.SlLaysM.n6 Tryz.prog Tryz.sort188_ren := {
  mixed := by kernel_rfl
  f6 := ⟨Tryz.f188.name,by decide,Tryz.func188.trans (congrArg some (by kernel_rfl))⟩
  f8 := Tryz.func230.trans (congrArg some (by kernel_rfl))
  f9 := ⟨Tryz.f229.name,by decide,Tryz.func229.trans (congrArg some (by kernel_rfl))⟩
  f19 := Tryz.func274.trans (congrArg some (by kernel_rfl))
  f20 := Tryz.func258.trans (congrArg some (by kernel_rfl))
  f21 := ⟨Tryz.f265.name,by decide,Tryz.func265.trans (congrArg some (by kernel_rfl))⟩
  f22 := ⟨Tryz.f266.name,by decide,Tryz.func266.trans (congrArg some (by kernel_rfl))⟩
  f23 := ⟨Tryz.f267.name,by decide,Tryz.func267.trans (congrArg some (by kernel_rfl))⟩
  f24 := ⟨Tryz.f268.name,by decide,Tryz.func268.trans (congrArg some (by kernel_rfl))⟩
  f25 := ⟨Tryz.f269.name,by decide,Tryz.func269.trans (congrArg some (by kernel_rfl))⟩
  f26 := ⟨Tryz.f270.name,by decide,Tryz.func270.trans (congrArg some (by kernel_rfl))⟩
  f27 := ⟨Tryz.f271.name,by decide,Tryz.func271.trans (congrArg some (by kernel_rfl))⟩
  f28 := ⟨Tryz.f272.name,by decide,Tryz.func272.trans (congrArg some (by kernel_rfl))⟩
  f29 := ⟨Tryz.f273.name,by decide,Tryz.func273.trans (congrArg some (by kernel_rfl))⟩
  f31 := Tryz.func292.trans (congrArg some (by kernel_rfl))
  f32 := Tryz.func293.trans (congrArg some (by kernel_rfl))
  f36 := ⟨Tryz.f291.name,by decide,Tryz.func291.trans (congrArg some (by kernel_rfl))⟩
  f37 := ⟨Tryz.f294.name,by decide,Tryz.func294.trans (congrArg some (by kernel_rfl))⟩
  f38 := ⟨Tryz.f295.name,by decide,Tryz.func295.trans (congrArg some (by kernel_rfl))⟩
  f39 := ⟨Tryz.f296.name,by decide,Tryz.func296.trans (congrArg some (by kernel_rfl))⟩
  f41 := ⟨Tryz.f311.name,by decide,Tryz.func311.trans (congrArg some (by kernel_rfl))⟩
  t0 := Tryz.underlying0
  a0 := Tryz.isAgg0
  z0 := Tryz.sizeOf0
  v0 := Tryz.zeroValue0
  t3 := Tryz.underlying3
  a3 := Tryz.isAgg3
  z3 := Tryz.sizeOf3
  v3 := Tryz.zeroValue3
  t4 := Tryz.underlying4
  a4 := Tryz.isAgg4
  z4 := Tryz.sizeOf4
  v4 := Tryz.zeroValue4
  t5 := Tryz.underlying5
  a5 := Tryz.isAgg5
  z5 := Tryz.sizeOf5
  v5 := Tryz.zeroValue5
  t9 := Tryz.underlying9
  a9 := Tryz.isAgg9
  z9 := Tryz.sizeOf9
  v9 := Tryz.zeroValue9
  t26 := Tryz.underlying54
  a26 := Tryz.isAgg54
  z26 := Tryz.sizeOf54
  v26 := Tryz.zeroValue54
  t27 := Tryz.underlying54
  a27 := Tryz.isAgg54
  z27 := Tryz.sizeOf54
  v27 := Tryz.zeroValue54
  t29 := Tryz.underlying9
  a29 := Tryz.isAgg9
  z29 := Tryz.sizeOf9
  v29 := Tryz.zeroValue9
  t32 := Tryz.underlying167
  a32 := Tryz.isAgg167
  z32 := Tryz.sizeOf167
  v32 := Tryz.zeroValue167
  t35 := Tryz.underlying341
  a35 := Tryz.isAgg341
  z35 := Tryz.sizeOf341
  v35 := Tryz.zeroValue341
  t36 := Tryz.underlying342
  a36 := Tryz.isAgg342
  z36 := Tryz.sizeOf342
  v36 := Tryz.zeroValue342
  t41 := Tryz.underlying346
  a41 := Tryz.isAgg346
  z41 := Tryz.sizeOf346
  v41 := Tryz.zeroValue346
  t44 := Tryz.underlying331
  a44 := Tryz.isAgg331
  z44 := Tryz.sizeOf331
  v44 := Tryz.zeroValue331
  t46 := Tryz.underlying124
  a46 := Tryz.isAgg124
  z46 := Tryz.sizeOf124
  v46 := Tryz.zeroValue124
  t53 := Tryz.underlying363
  a53 := Tryz.isAgg363
  z53 := Tryz.sizeOf363
  v53 := Tryz.zeroValue363
  t57 := Tryz.underlying367
  a57 := Tryz.isAgg367
  z57 := Tryz.sizeOf367
  v57 := Tryz.zeroValue367
  t63 := Tryz.underlying383
  a63 := Tryz.isAgg383
  z63 := Tryz.sizeOf383
  v63 := Tryz.zeroValue383
  t64 := Tryz.underlying384
  a64 := Tryz.isAgg384
  z64 := Tryz.sizeOf384
  v64 := Tryz.zeroValue384 }
theorem Tryz.sorts134 (m : Nat) : AnyZ.SortsIn Tryz.prog Tryz.sorted134_ren Fence.wide m :=
  ⟨fun blk off cap ss W hH hblk hsz => callsIn_wide.2 (AnyM.slices_Sort_string Tryz.sort188 blk off cap ss W hH hblk hsz),
   fun p cap W => callsIn_wide.2 (AnyM.slices_Sort_string_none Tryz.sort188 p cap W)⟩
theorem Tryz.maps_Keys_135 (mb : Option Nat) (W : World) : CallsIn Fence.wide 5 Tryz.prog 135 #[.map mb] W fun e w' => e = .returned (.func (.func 189) #[] #[.pointer (some ⟨W.heap.size,0,none⟩)]) ∧ w' = W.alloc (.cells #[.map mb] 127) :=
  AnyZ.keys_in Tryz.keys135 Fence.wide 5 trivial rfl mb W
set_option maxHeartbeats 1000000 in
theorem Tryz.slices_Sorted_keys_134_135 {H : Type} (b nn : Nat) (D0 : DataW H) (R : Value → Option (DataW H × List MemPlace)) (w : World) (hown : w.ownsMap Tryz.prog 9 R b nn D0) (hmax : Maps.size D0 ≤ maxLen) (hbytes : Maps.size D0 * 16 ≤ 140737488355328) :
    CallsIn Fence.wide 5 Tryz.prog 134 #[.func (.func 189) #[] #[.pointer (some ⟨w.heap.size,0,none⟩)]] (w.alloc (.cells #[.map (some b)] 127)) fun e w' => ∃ (v : Value) (ss : List (List UInt8)),e = .returned v ∧ ss.Perm (strKeys D0) ∧
      w'.ownsRow (w.alloc (.cells #[.map (some b)] 127)).heap.size 9 1 v ss.length ((ss.mergeSort (fun x y => decide (x ≤ y))).map encStr) ∧ (v = .slice none 0 0 ↔ ss = []) ∧ Below (w.alloc (.cells #[.map (some b)] 127)).heap.size (w.alloc (.cells #[.map (some b)] 127)) w' := by
  have hbl := hown.lt
  have hseq : SeqGives Fence.wide 2 Tryz.prog 189 #[.pointer (some ⟨w.heap.size,0,none⟩)] encStr (fun ss => ss.Perm (strKeys D0)) (Maps.size D0) (w.alloc (.cells #[.map (some b)] 127)) :=
    AnyZ.keys_gives (ρ := Tryz.keys135_ren) { Tryz.keys135 with } Fence.wide _ trivial rfl (by omega) w.heap.size b nn D0 _ (by simp) (by simp) (by
      obtain ⟨es,clock,hb,Ft,hs,hD⟩ := hown
      exact ⟨es,clock,(Below.heap_alloc _ _ b hbl).trans hb,Ft,hs,hD⟩)
  exact AnyZ.sorted_in Tryz.sorted134 Fence.wide 5 trivial trivial trivial trivial rfl (by omega) (Tryz.sorts134 _) (enters_of Tryz.func188 (by kernel_rfl) rfl) 189 #[.pointer (some ⟨w.heap.size,0,none⟩)] trivial (enters_of Tryz.func189 (by kernel_rfl) rfl) _ _ hmax hbytes _ hseq
end Go.Proofs
namespace Go.Proofs.YtkanmkcojlefbaaGreatDoor
open Go.RowKit Go.Maps Go.Sort Go.Shelf Go.WideMaps Go.ChangeMaps
theorem map_strs {w : World} {b n : Nat} {D : DataW Unit} (h : w.ownsMap Tryz.prog 9 (plainElem Tryz.prog 9) b n D) : ∃ es,D = .map es ∧ ∀ p ∈ es,∃ kk,p.1 = .string kk := by
  obtain ⟨es,he,hap,hk⟩ := h.entries key9
  refine ⟨es,he,fun p hp => ?_⟩
  obtain ⟨es0,clock,h3,F,h4,h5⟩ := h
  have hp : p ∈ (es0.toList.map (Go.WideElems.rg Tryz.prog 9 (plainElem Tryz.prog 9))) := by
    rw [he] at h5
    have h6 : (DataW.map es : DataW Unit) = _ := h5
    injection h6 with h6
    rw [← Go.mem_sorted,← h6]; exact hp
  obtain ⟨k,hk9⟩ := fit_keys F p hp
  obtain ⟨kk,rfl,hpe,-⟩ := keyOf9_inv hk9
  exact ⟨kk,hpe⟩
theorem keys_mem {w : World} {b n : Nat} {D : DataW Unit} {m : List UInt8 → Option (List UInt8)} (h : w.ownsMap Tryz.prog 9 (plainElem Tryz.prog 9) b n D) (hr : Reads D m) (k : List UInt8) : k ∈ strKeys D ↔ m k ≠ none := by
  obtain ⟨es,rfl,hs⟩ := map_strs h
  have hk := hr k
  have hmem : k ∈ strKeys (.map es : DataW Unit) ↔ has (.map es : DataW Unit) (.string k) = true := by
    rw [has_eq,List.any_eq_true]
    show k ∈ es.map (fun p => strOf p.1) ↔ _
    rw [List.mem_map]
    constructor
    · rintro ⟨p,hp,rfl⟩
      obtain ⟨kk,hkk⟩ := hs p hp
      exact ⟨p,hp,by rw [hkk]; simp [strOf,Lit.sameKey]⟩
    · rintro ⟨p,hp,he⟩
      obtain ⟨kk,hkk⟩ := hs p hp
      refine ⟨p,hp,?_⟩
      rw [hkk] at he ⊢
      simpa [strOf,Lit.sameKey] using he
  rw [hmem]
  cases hm : m k with
  | none => rw [hm] at hk; simp only at hk; rw [hk]; simp
  | some v => rw [hm] at hk; simp only at hk; rw [hk.1]; simp
theorem keys_nodup {w : World} {b n : Nat} {D : DataW Unit} (h : w.ownsMap Tryz.prog 9 (plainElem Tryz.prog 9) b n D) : (strKeys D).Nodup := by
  obtain ⟨es,he,hap,hk⟩ := h.entries key9
  obtain ⟨es2,he2,hs⟩ := map_strs h
  rw [he] at he2
  injection he2 with he2
  subst he2
  rw [he]
  show (es.map (fun p => strOf p.1)).Nodup
  unfold List.Nodup
  rw [List.pairwise_map]
  refine hap.imp_of_mem (fun {p q} hp hq hne he => hne ?_)
  obtain ⟨kp,e1⟩ := hs p hp
  obtain ⟨kq,e2⟩ := hs q hq
  rw [e1,e2] at he ⊢
  simpa [strOf] using he
theorem sortedKeys (w : World) (mb n : Nat) (m : List UInt8 → Option (List UInt8)) (h : SMap w mb n m) (hn : n ≤ 8589934592) :
    Calls Tryz.prog 134 #[.func (.func 189) #[] #[.pointer (some ⟨w.heap.size,0,none⟩)]] (w.alloc (.cells #[.map (some mb)] 127)) fun e w' => ∃ (v : Value) (ks : List (List UInt8)),e = .returned v ∧ ks.length ≤ n ∧ ks.Nodup ∧ (∀ k,k ∈ ks ↔ m k ≠ none) ∧ w'.ownsRow (w.heap.size + 1) 9 1 v ks.length (ks.map str) ∧ Below (w.heap.size + 1) (w.alloc (.cells #[.map (some mb)] 127)) w' := by
  obtain ⟨D,h1,h2⟩ := h
  have hsz := size_le h1
  refine (callsIn_wide.1 (Tryz.slices_Sorted_keys_134_135 mb n D _ w h1 (by unfold maxLen; omega) (by omega))).mono ?_
  rintro e w' ⟨v,ss,rfl,hp,hrow,hnil,hb⟩
  have hs : (w.alloc (.cells #[.map (some mb)] 127)).heap.size = w.heap.size + 1 := Array.size_push ..
  rw [hs] at hrow hb
  have hl : (ss.mergeSort (fun x y => decide (x ≤ y))).length = ss.length := (List.mergeSort_perm ..).length_eq
  have hlen : ss.length = Maps.size D := by
    obtain ⟨es,rfl,-⟩ := map_strs h1
    rw [hp.length_eq]
    show (es.map _).length = _
    rw [List.length_map]; rfl
  refine ⟨v,ss.mergeSort (fun x y => decide (x ≤ y)),rfl,by rw [hl]; omega,(List.mergeSort_perm ..).nodup_iff.2 (hp.nodup_iff.2 (keys_nodup h1)),fun k => ?_,by rw [hl]; exact hrow,hb⟩
  rw [(List.mergeSort_perm ..).mem_iff,hp.mem_iff]
  exact keys_mem h1 h2 k
theorem mapsKeys (w : World) (mb : Nat) : Calls Tryz.prog 135 #[.map (some mb)] w fun e w' => e = .returned (.func (.func 189) #[] #[.pointer (some ⟨w.heap.size,0,none⟩)]) ∧ w' = w.alloc (.cells #[.map (some mb)] 127) :=
  callsIn_wide.1 (Tryz.maps_Keys_135 (some mb) w)
end Go.Proofs.YtkanmkcojlefbaaGreatDoor
namespace Go.Proofs.YtkanmkcojlefbaaGreatDoor
open Go.RowKit Go.Shelf
theorem lay166 : Go.Proofs.Lays.n166 Tryz.prog Tryz.lays105_ren := { Tryz.lays105 with }
theorem lay169 : Go.Proofs.Lays.n169 Tryz.prog Tryz.lays105_ren := { Tryz.lays105 with }
theorem bldWrite (B b : Nat) (bs : List Value) (s : ByteArray) (w : World) (h : Lib.IsBuilderF 203 5 B b bs w) (hlen : bs.length + s.size ≤ 140737488355328) (hBw : B ≤ w.heap.size) :
    Calls Tryz.prog 137 #[.pointer (some ⟨b, 0, none⟩), .string s] w fun e w' => e = .returned (.tuple #[.int .i64 s.size, .nilIface]) ∧ (Lib.BuilderAtF 203 5 B b (.pointer (some ⟨b, 0, none⟩)) (bs ++ Lib.strCells s) w' ∧ Below B w w' ∧ Lib.OthersKept 5 (some b) w w') := Any.Builder_WriteString_k lay166 Tryz.Builder_Extra_105 B b bs s w h hlen hBw
theorem bldString (B b : Nat) (l : List UInt8) (w : World) (h : Lib.IsBuilderF 203 5 B b (Lib.byteCells l) w) (hBw : B ≤ w.heap.size) :
    Calls Tryz.prog 140 #[.pointer (some ⟨b, 0, none⟩)] w fun e w' => e = .returned (.string ⟨l.toArray⟩) ∧ (Lib.IsBuilderF 203 5 B b (Lib.byteCells l) w' ∧ Below B w w' ∧ Lib.OthersKept 5 (some b) w w') := Any.Builder_String_any_k lay169 Tryz.Builder_Extra_105 B b l w h hBw
end Go.Proofs.YtkanmkcojlefbaaGreatDoor
namespace Go.Proofs.YtkanmkcojlefbaaGreatDoor
open Go.RowKit Go.Lib
theorem itoaD {G0 : Nat} {E : Nat → Addr} (w : World) (h : Gl G0 E w) (x : Int) (n : Nat) (hx : x = n) (h1 : n ≤ 9223372036854775807) :
    Calls Tryz.prog 190 #[.int .i64 x] w fun e w' => e = .returned (str (decDigits n)) ∧ Below w.heap.size w w' := by
  subst hx
  have := itoa10 w h n (by omega) (by omega)
  rw [itoa_nn _ (by omega)] at this
  exact this
theorem fmtRec {G0 : Nat} {E : Nat → Addr} (w : World) (h : Gl G0 E w) (k v : List UInt8) (hk : k.length ≤ 16777216) (hv : v.length ≤ 16777216) (hval : validRec k v = true) :
    Calls Tryz.prog 136 #[str k,str v] w fun e w' => e = .returned (.tuple #[str (recB k v),.nilIface]) ∧ Below w.heap.size w w' := by
  have h126 := validRec_calls w k v (by omega) (by omega) hval
  have HG := Lib.hid h
  have hrl : recLen k v = if k.length + v.length + 3 + nDigits (k.length + v.length + 3 + nDigits (k.length + v.length + 3)) = k.length + v.length + 3 + nDigits (k.length + v.length + 3) then k.length + v.length + 3 + nDigits (k.length + v.length + 3) else k.length + v.length + 3 + nDigits (k.length + v.length + 3 + nDigits (k.length + v.length + 3)) := rfl
  generalize hn : k.length + v.length + 3 = n at hrl
  generalize hm : n + nDigits n = m at hrl
  have hd1 : nDigits n ≤ 11 := nDigits_mono_le n 10 (by omega)
  have hd2 : nDigits m ≤ 11 := nDigits_mono_le m 10 (by omega)
  have HN := Lib.hid hn; have HM := Lib.hid hm; have HRL := Lib.hid hrl; have HD1 := Lib.hid hd1; have HD2 := Lib.hid hd2
  clear h hval hn hm hrl hd1 hd2
  go_enter Tryz.func136,Tryz.ntmps136
  go_wp2_with fail
  refine h126.mono ?_
  rintro e w' ⟨rfl,rfl⟩
  clear h126
  go_wp2_with fail
  refine (itoaD _ HG.out _ n (by have := HN.out; omega) (by have := HN.out; omega)).mono ?_
  rintro e w1 ⟨rfl,hb1⟩
  have hg1 := HG.out.below hb1
  have HB1 := Lib.hid hb1
  have HG1 := Lib.hid hg1
  clear hb1 hg1
  have hl1 : (decDigits n).length ≤ 11 := by rw [decDigits_length]; exact HD1.out
  go_wp2_with fail
  refine (itoaD _ HG1.out _ m (by have := HN.out; have := HM.out; rw [decDigits_length]; omega) (by have := HD1.out; have := HM.out; have := HN.out; omega)).mono ?_
  rintro e w2 ⟨rfl,hb2⟩
  have hg2 := HG1.out.below hb2
  have HB2 := Lib.hid (HB1.out.trans (hb2.mono HB1.out.size))
  have HG2 := Lib.hid hg2
  clear hb2 hg2
  have hl2 : (decDigits m).length ≤ 11 := by rw [decDigits_length]; exact HD2.out
  have hcat : ∀ d : List UInt8,(Value.string ({ data := d.toArray } ++ { data := #[32] } ++ { data := k.toArray } ++ { data := #[61] } ++ { data := v.toArray } ++ { data := #[10] })) = str (d ++ (32::(k ++ (61::(v ++ [10]))))) := by
    intro d
    show Value.string _ = Value.string _
    congr 1
    apply ByteArray.ext
    simp [ByteArray.data_append]
  have HC := Lib.hid hcat
  clear hcat
  go_wp2_with fail
  · have hne : ¬ ((↑(decDigits m).length : Int) + 1 + ↑k.length + 1 + ↑v.length + 1 != ↑k.length + ↑v.length + 3 + ↑(decDigits n).length) = false := by simp_all
    refine (itoaD _ HG2.out _ (n + nDigits m) (by have := HN.out; rw [decDigits_length]; omega) (by have := HD2.out; have := HN.out; omega)).mono ?_
    rintro e w3 ⟨rfl,hb3⟩
    have HB3 := Lib.hid (HB2.out.trans (hb3.mono HB2.out.size))
    have HNE := Lib.hid hne
    have hl3 : (decDigits (n + nDigits m)).length ≤ 20 := by
      rw [decDigits_length]
      have := nDigits_mono_le (n + nDigits m) 10 (by have := HD2.out; have := HN.out; omega)
      omega
    clear hb3 hne
    go_wp2_with fail
    go_ret2
    refine ⟨?_,HB3.out⟩
    have hne := HNE.out
    have hnm : ¬ (n + nDigits m = m) := by
      have := HN.out; have := HM.out
      rw [bne_eq_false_iff_eq,decDigits_length,decDigits_length] at hne
      intro h
      apply hne
      omega
    have e := HRL.out
    rw [if_neg hnm] at e
    rw [HC.out,recB,e]
    rfl
  · rename_i hne
    go_ret2
    refine ⟨?_,HB2.out⟩
    have hnm : n + nDigits m = m := by
      have := HN.out; have := HM.out
      rw [bne_eq_false_iff_eq,decDigits_length,decDigits_length] at hne
      omega
    have e := HRL.out
    rw [if_pos hnm] at e
    rw [HC.out,recB,e]
    rfl
end Go.Proofs.YtkanmkcojlefbaaGreatDoor
