/-
  Part of the proof; holds the texts HOf3.
-/
import Derived.Test.YtkanmkcojlefbaaGreatDoorM21
set_option maxHeartbeats 16000000
set_option maxRecDepth 100000
set_option linter.unusedSimpArgs false
set_option linter.unusedVariables false
namespace Go.Proofs.YtkanmkcojlefbaaGreatDoor
open Go.RowKit
theorem B2T (w:World) (hb:Nat) (H:Hd) (R:KV) (BM:H.InO) (hh:w.heap[hb]?=some (.cells H.cells.toArray 130 (0,0))) (DQ:J4 w H.recs R w.heap.size):
  Calls Tryz.prog 38 #[.pointer (some ⟨hb,0,none⟩)] w (A3v H R w):=by
 have HT:=A0 (λwx=>A9i wx H.mw H.mx BM.mw.1 BM.mw.2 BM.mx);have DB:=A0 (λwx=>V6 wx H.aw H.ax);have Ce:=A0 (λwx=>V6 wx H.cw H.cx);have Ba:=A0 (λwx=>B0h wx H.fmt BM.fmt);have HH:=A0 hh;have By:=A0 BM;have CA:=A0 DQ;have CB:Hid (∀e w',A3v H R w e w'->A3v H R w e w'):=A0 (λ_ _ h=>h);clear hh BM DQ;go_enter Tryz.func38,Tryz.ntmps38
 go_upto_region 2 with fail
 rename_i K1 DP;have Bz:=A0 DP;clear DP;obtain⟨w1,Cf⟩:∃w1,w1=(w.alloc (.cells #[.int .u8 0,.string {data:=#[]},.string {data:=#[]},.int .i64 0,.int .i64 0,.int .i64 0,.int .i64 0,.string {data:=#[]},.string {data:=#[]},.int .i64 0,.int .i64 0,.bool false,.int .i64 0,.int .i64 0,.bool false,.int .i64 0,.int .i64 0,.int .i64 0,.int .i64 0,.slice none 0 0,.int .i64 0] 26)):=⟨_,rfl⟩;rw[<-Cf];have DC:Below w.heap.size w w1:=by rw[Cf];exact(Below.refl _ _).alloc (Nat.le_refl _) _
 have BO:=A8 HH.out;have Cv:=A0 ((DC.block hb BO).trans HH.out);have DN:=A0 DC;have DO:Hid (w1.heap[w.heap.size]?=some (.cells #[.int .u8 0,.string {data:=#[]},.string {data:=#[]},.int .i64 0,.int .i64 0,.int .i64 0,.int .i64 0,.string {data:=#[]},.string {data:=#[]},.int .i64 0,.int .i64 0,.bool false,.int .i64 0,.int .i64 0,.bool false,.int .i64 0,.int .i64 0,.int .i64 0,.int .i64 0,.slice none 0 0,.int .i64 0] 26 (0,0))):=by rw[Cf];exact A0 (heap_alloc_new _ _)
 have Cc:=A0 DN.out.drew;have Cd:Hid (w1.drew.heap[hb]?=some (.cells H.cells.toArray 130 (0,0))):=Cv.out;have Bl:Hid (w1.drew.heap[w.heap.size]?=some (.cells #[.int .u8 0,.string {data:=#[]},.string {data:=#[]},.int .i64 0,.int .i64 0,.int .i64 0,.int .i64 0,.string {data:=#[]},.string {data:=#[]},.int .i64 0,.int .i64 0,.bool false,.int .i64 0,.int .i64 0,.bool false,.int .i64 0,.int .i64 0,.int .i64 0,.int .i64 0,.slice none 0 0,.int .i64 0] 26 (0,0))):=DO.out;clear Cf DC HH;dsimp only[List.append];refine J1 (S:=λw'=>w'.heap[hb]?=some (.cells H.cells.toArray 130 (0,0))) (n:=69) (l0:=(bt 69 0)) (by kernel_rfl) rfl (by kernel_rfl) Cv.out (λDW AA hHeld=> ?_);clear DN Cv DO;generalize w1.drew=v1 at*;refine B7 AA.out (i:=0) (d:=(some 10)) (v:= ?v0) (a':= ?a0) (l':=(bt 69 1)) (by simp only[I8,I9,J0];exact rfl) (by kernel_rfl) (by kernel_rfl) (by kernel_rfl) (λ_ _ _ h=>h) (Or.inl ⟨by rfl,?hy0⟩) (by assumption) (by rfl) ?ha0 (by kernel_rfl) ?r0
 case hy0=>intro w AB;go_simp;try with_reducible rfl
 case ha0=>simp only[Act.put,C5,C6,C7];exact rfl
 refine B7 AA.out (i:=1) (d:=(some 11)) (v:= ?v1) (a':= ?a1) (l':=(bt 69 3)) (by simp only[I8,I9,J0];exact rfl) (by kernel_rfl) (by kernel_rfl) (by kernel_rfl) (λ_ _ _ h=>h) (Or.inl ⟨by rfl,?hy1⟩) (by assumption) (by rfl) ?ha1 (by kernel_rfl) ?r1
 case hy1=>intro w AB;go_simp;try with_reducible rfl
 case ha1=>simp only[Act.put,C5,C6,C7];exact rfl
 refine B7 AA.out (i:=2) (d:=(some 12)) (v:= ?v2) (a':= ?a2) (l':=(bt 69 7)) (by simp only[I8,I9,J0];exact rfl) (by kernel_rfl) (by kernel_rfl) (by kernel_rfl) (λ_ _ _ h=>h) (Or.inl ⟨by rfl,?hy2⟩) (by assumption) (by rfl) ?ha2 (by kernel_rfl) ?r2
 case hy2=>intro w AB;go_simp;try with_reducible rfl
 case ha2=>simp only[Act.put,C5,C6,C7];exact rfl
 refine B7 AA.out (i:=3) (d:=(some 13)) (a':= ?a3) (l':=(bt 69 15)) (by simp only[I8,I9,J0];exact rfl) (by kernel_rfl) (by kernel_rfl) (by kernel_rfl) (λ_ _ _ h=>h) (C3 (by rfl) _ _ rfl ⟨hb,0,none⟩ rfl (.int .u8 H.typ) (λw' AC=>ld5 (L7 AC 0 (.int .u8 H.typ) rfl))) (by assumption) (by rfl) ?ha3 (by kernel_rfl) ?r3
 case ha3=>simp only[Act.put,C5,C6,C7];exact rfl
 refine B7 AA.out (i:=4) (d:=(some 14)) (v:= ?v4) (a':= ?a4) (l':=(bt 69 31)) (by simp only[I8,I9,J0];exact rfl) (by kernel_rfl) (by kernel_rfl) (by kernel_rfl) (λ_ _ _ h=>h) (Or.inl ⟨by rfl,?hy4⟩) (by assumption) (by rfl) ?ha4 (by kernel_rfl) ?r4
 case hy4=>intro w AB;go_simp;try with_reducible rfl
 case ha4=>simp only[Act.put,C5,C6,C7];exact rfl
 refine B7 AA.out (i:=5) (d:=(some 15)) (v:= ?v5) (a':= ?a5) (l':=(bt 69 63)) (by simp only[I8,I9,J0];exact rfl) (by kernel_rfl) (by kernel_rfl) (by kernel_rfl) (λ_ _ _ h=>h) (Or.inl ⟨by rfl,?hy5⟩) (by assumption) (by rfl) ?ha5 (by kernel_rfl) ?r5
 case hy5=>intro w AB;go_simp;try with_reducible rfl
 case ha5=>simp only[Act.put,C5,C6,C7];exact rfl
 refine B7 AA.out (i:=6) (d:=(some 16)) (v:= ?v6) (a':= ?a6) (l':=(bt 69 127)) (by simp only[I8,I9,J0];exact rfl) (by kernel_rfl) (by kernel_rfl) (by kernel_rfl) (λ_ _ _ h=>h) (Or.inl ⟨by rfl,?hy6⟩) (by assumption) (by rfl) ?ha6 (by kernel_rfl) ?r6
 case hy6=>intro w AB;go_simp;try with_reducible rfl
 case ha6=>simp only[Act.put,C5,C6,C7];exact rfl
 refine B7 AA.out (i:=7) (d:=(some 17)) (a':= ?a7) (l':=(bt 69 255)) (by simp only[I8,I9,J0];exact rfl) (by kernel_rfl) (by kernel_rfl) (by kernel_rfl) (λ_ _ _ h=>h) (C3 (by rfl) _ _ rfl ⟨hb,1,none⟩ rfl (str H.name) (λw' AC=>ld9 (L7 AC 1 (str H.name) rfl))) (by assumption) (by rfl) ?ha7 (by kernel_rfl) ?r7
 case ha7=>simp only[Act.put,C5,C6,C7];exact rfl
 refine B7 AA.out (i:=8) (d:=(some 18)) (v:= ?v8) (a':= ?a8) (l':=(bt 69 511)) (by simp only[I8,I9,J0];exact rfl) (by kernel_rfl) (by kernel_rfl) (by kernel_rfl) (λ_ _ _ h=>h) (Or.inl ⟨by rfl,?hy8⟩) (by assumption) (by rfl) ?ha8 (by kernel_rfl) ?r8
 case hy8=>intro w AB;go_simp;try with_reducible rfl
 case ha8=>simp only[Act.put,C5,C6,C7];exact rfl
 refine B7 AA.out (i:=9) (d:=(some 19)) (v:= ?v9) (a':= ?a9) (l':=(bt 69 1023)) (by simp only[I8,I9,J0];exact rfl) (by kernel_rfl) (by kernel_rfl) (by kernel_rfl) (λ_ _ _ h=>h) (Or.inl ⟨by rfl,?hy9⟩) (by assumption) (by rfl) ?ha9 (by kernel_rfl) ?r9
 case hy9=>intro w AB;go_simp;try with_reducible rfl
 case ha9=>simp only[Act.put,C5,C6,C7];exact rfl
 refine B7 AA.out (i:=10) (d:=(some 20)) (v:= ?v10) (a':= ?a10) (l':=(bt 69 2047)) (by simp only[I8,I9,J0];exact rfl) (by kernel_rfl) (by kernel_rfl) (by kernel_rfl) (λ_ _ _ h=>h) (Or.inl ⟨by rfl,?hy10⟩) (by assumption) (by rfl) ?ha10 (by kernel_rfl) ?r10
 case hy10=>intro w AB;go_simp;try with_reducible rfl
 case ha10=>simp only[Act.put,C5,C6,C7];exact rfl
 refine B7 AA.out (i:=11) (d:=(some 21)) (a':= ?a11) (l':=(bt 69 4095)) (by simp only[I8,I9,J0];exact rfl) (by kernel_rfl) (by kernel_rfl) (by kernel_rfl) (λ_ _ _ h=>h) (C3 (by rfl) _ _ rfl ⟨hb,2,none⟩ rfl (str H.link) (λw' AC=>ld9 (L7 AC 2 (str H.link) rfl))) (by assumption) (by rfl) ?ha11 (by kernel_rfl) ?r11
 case ha11=>simp only[Act.put,C5,C6,C7];exact rfl
 refine B7 AA.out (i:=12) (d:=(some 22)) (v:= ?v12) (a':= ?a12) (l':=(bt 69 8191)) (by simp only[I8,I9,J0];exact rfl) (by kernel_rfl) (by kernel_rfl) (by kernel_rfl) (λ_ _ _ h=>h) (Or.inl ⟨by rfl,?hy12⟩) (by assumption) (by rfl) ?ha12 (by kernel_rfl) ?r12
 case hy12=>intro w AB;go_simp;try with_reducible rfl
 case ha12=>simp only[Act.put,C5,C6,C7];exact rfl
 refine B7 AA.out (i:=13) (d:=(some 23)) (v:= ?v13) (a':= ?a13) (l':=(bt 69 16383)) (by simp only[I8,I9,J0];exact rfl) (by kernel_rfl) (by kernel_rfl) (by kernel_rfl) (λ_ _ _ h=>h) (Or.inl ⟨by rfl,?hy13⟩) (by assumption) (by rfl) ?ha13 (by kernel_rfl) ?r13
 case hy13=>intro w AB;go_simp;try with_reducible rfl
 case ha13=>simp only[Act.put,C5,C6,C7];exact rfl
 refine B7 AA.out (i:=14) (d:=(some 24)) (v:= ?v14) (a':= ?a14) (l':=(bt 69 32767)) (by simp only[I8,I9,J0];exact rfl) (by kernel_rfl) (by kernel_rfl) (by kernel_rfl) (λ_ _ _ h=>h) (Or.inl ⟨by rfl,?hy14⟩) (by assumption) (by rfl) ?ha14 (by kernel_rfl) ?r14
 case hy14=>intro w AB;go_simp;try with_reducible rfl
 case ha14=>simp only[Act.put,C5,C6,C7];exact rfl
 refine B7 AA.out (i:=15) (d:=(some 25)) (a':= ?a15) (l':=(bt 69 65535)) (by simp only[I8,I9,J0];exact rfl) (by kernel_rfl) (by kernel_rfl) (by kernel_rfl) (λ_ _ _ h=>h) (C3 (by rfl) _ _ rfl ⟨hb,3,none⟩ rfl (.int .i64 H.size) (λw' AC=>ld2 (L7 AC 3 (.int .i64 H.size) rfl))) (by assumption) (by rfl) ?ha15 (by kernel_rfl) ?r15
 case ha15=>simp only[Act.put,C5,C6,C7];exact rfl
 refine B7 AA.out (i:=16) (d:=(some 26)) (v:= ?v16) (a':= ?a16) (l':=(bt 69 131071)) (by simp only[I8,I9,J0];exact rfl) (by kernel_rfl) (by kernel_rfl) (by kernel_rfl) (λ_ _ _ h=>h) (Or.inl ⟨by rfl,?hy16⟩) (by assumption) (by rfl) ?ha16 (by kernel_rfl) ?r16
 case hy16=>intro w AB;go_simp;try with_reducible rfl
 case ha16=>simp only[Act.put,C5,C6,C7];exact rfl
 refine B7 AA.out (i:=17) (d:=(some 27)) (v:= ?v17) (a':= ?a17) (l':=(bt 69 262143)) (by simp only[I8,I9,J0];exact rfl) (by kernel_rfl) (by kernel_rfl) (by kernel_rfl) (λ_ _ _ h=>h) (Or.inl ⟨by rfl,?hy17⟩) (by assumption) (by rfl) ?ha17 (by kernel_rfl) ?r17
 case hy17=>intro w AB;go_simp;try with_reducible rfl
 case ha17=>simp only[Act.put,C5,C6,C7];exact rfl
 refine B7 AA.out (i:=18) (d:=(some 28)) (v:= ?v18) (a':= ?a18) (l':=(bt 69 524287)) (by simp only[I8,I9,J0];exact rfl) (by kernel_rfl) (by kernel_rfl) (by kernel_rfl) (λ_ _ _ h=>h) (Or.inl ⟨by rfl,?hy18⟩) (by assumption) (by rfl) ?ha18 (by kernel_rfl) ?r18
 case hy18=>intro w AB;go_simp;try with_reducible rfl
 case ha18=>simp only[Act.put,C5,C6,C7];exact rfl
 refine B7 AA.out (i:=19) (d:=(some 29)) (a':= ?a19) (l':=(bt 69 1048575)) (by simp only[I8,I9,J0];exact rfl) (by kernel_rfl) (by kernel_rfl) (by kernel_rfl) (λ_ _ _ h=>h) (C3 (by rfl) _ _ rfl ⟨hb,4,none⟩ rfl (.int .i64 H.mode) (λw' AC=>ld2 (L7 AC 4 (.int .i64 H.mode) rfl))) (by assumption) (by rfl) ?ha19 (by kernel_rfl) ?r19
 case ha19=>simp only[Act.put,C5,C6,C7];exact rfl
 refine B7 AA.out (i:=20) (d:=(some 30)) (v:= ?v20) (a':= ?a20) (l':=(bt 69 2097151)) (by simp only[I8,I9,J0];exact rfl) (by kernel_rfl) (by kernel_rfl) (by kernel_rfl) (λ_ _ _ h=>h) (Or.inl ⟨by rfl,?hy20⟩) (by assumption) (by rfl) ?ha20 (by kernel_rfl) ?r20
 case hy20=>intro w AB;go_simp;try with_reducible rfl
 case ha20=>simp only[Act.put,C5,C6,C7];exact rfl
 refine B7 AA.out (i:=21) (d:=(some 31)) (v:= ?v21) (a':= ?a21) (l':=(bt 69 4194303)) (by simp only[I8,I9,J0];exact rfl) (by kernel_rfl) (by kernel_rfl) (by kernel_rfl) (λ_ _ _ h=>h) (Or.inl ⟨by rfl,?hy21⟩) (by assumption) (by rfl) ?ha21 (by kernel_rfl) ?r21
 case hy21=>intro w AB;go_simp;try with_reducible rfl
 case ha21=>simp only[Act.put,C5,C6,C7];exact rfl
 refine B7 AA.out (i:=22) (d:=(some 32)) (v:= ?v22) (a':= ?a22) (l':=(bt 69 8388607)) (by simp only[I8,I9,J0];exact rfl) (by kernel_rfl) (by kernel_rfl) (by kernel_rfl) (λ_ _ _ h=>h) (Or.inl ⟨by rfl,?hy22⟩) (by assumption) (by rfl) ?ha22 (by kernel_rfl) ?r22
 case hy22=>intro w AB;go_simp;try with_reducible rfl
 case ha22=>simp only[Act.put,C5,C6,C7];exact rfl
 refine B7 AA.out (i:=23) (d:=(some 33)) (a':= ?a23) (l':=(bt 69 16777215)) (by simp only[I8,I9,J0];exact rfl) (by kernel_rfl) (by kernel_rfl) (by kernel_rfl) (λ_ _ _ h=>h) (C3 (by rfl) _ _ rfl ⟨hb,5,none⟩ rfl (.int .i64 H.uid) (λw' AC=>ld3 (L7 AC 5 (.int .i64 H.uid) rfl))) (by assumption) (by rfl) ?ha23 (by kernel_rfl) ?r23
 case ha23=>simp only[Act.put,C5,C6,C7];exact rfl
 refine B7 AA.out (i:=24) (d:=(some 34)) (v:= ?v24) (a':= ?a24) (l':=(bt 69 33554431)) (by simp only[I8,I9,J0];exact rfl) (by kernel_rfl) (by kernel_rfl) (by kernel_rfl) (λ_ _ _ h=>h) (Or.inl ⟨by rfl,?hy24⟩) (by assumption) (by rfl) ?ha24 (by kernel_rfl) ?r24
 case hy24=>intro w AB;go_simp;try with_reducible rfl
 case ha24=>simp only[Act.put,C5,C6,C7];exact rfl
 refine B7 AA.out (i:=25) (d:=(some 35)) (v:= ?v25) (a':= ?a25) (l':=(bt 69 67108863)) (by simp only[I8,I9,J0];exact rfl) (by kernel_rfl) (by kernel_rfl) (by kernel_rfl) (λ_ _ _ h=>h) (Or.inl ⟨by rfl,?hy25⟩) (by assumption) (by rfl) ?ha25 (by kernel_rfl) ?r25
 case hy25=>intro w AB;go_simp;try with_reducible rfl
 case ha25=>simp only[Act.put,C5,C6,C7];exact rfl
 refine B7 AA.out (i:=26) (d:=(some 36)) (v:= ?v26) (a':= ?a26) (l':=(bt 69 134217727)) (by simp only[I8,I9,J0];exact rfl) (by kernel_rfl) (by kernel_rfl) (by kernel_rfl) (λ_ _ _ h=>h) (Or.inl ⟨by rfl,?hy26⟩) (by assumption) (by rfl) ?ha26 (by kernel_rfl) ?r26
 case hy26=>intro w AB;go_simp;try with_reducible rfl
 case ha26=>simp only[Act.put,C5,C6,C7];exact rfl
 refine B7 AA.out (i:=27) (d:=(some 37)) (a':= ?a27) (l':=(bt 69 268435455)) (by simp only[I8,I9,J0];exact rfl) (by kernel_rfl) (by kernel_rfl) (by kernel_rfl) (λ_ _ _ h=>h) (C3 (by rfl) _ _ rfl ⟨hb,6,none⟩ rfl (.int .i64 H.gid) (λw' AC=>ld3 (L7 AC 6 (.int .i64 H.gid) rfl))) (by assumption) (by rfl) ?ha27 (by kernel_rfl) ?r27
 case ha27=>simp only[Act.put,C5,C6,C7];exact rfl
 refine B7 AA.out (i:=28) (d:=(some 38)) (v:= ?v28) (a':= ?a28) (l':=(bt 69 536870911)) (by simp only[I8,I9,J0];exact rfl) (by kernel_rfl) (by kernel_rfl) (by kernel_rfl) (λ_ _ _ h=>h) (Or.inl ⟨by rfl,?hy28⟩) (by assumption) (by rfl) ?ha28 (by kernel_rfl) ?r28
 case hy28=>intro w AB;go_simp;try with_reducible rfl
 case ha28=>simp only[Act.put,C5,C6,C7];exact rfl
 refine B7 AA.out (i:=29) (d:=(some 39)) (v:= ?v29) (a':= ?a29) (l':=(bt 69 1073741823)) (by simp only[I8,I9,J0];exact rfl) (by kernel_rfl) (by kernel_rfl) (by kernel_rfl) (λ_ _ _ h=>h) (Or.inl ⟨by rfl,?hy29⟩) (by assumption) (by rfl) ?ha29 (by kernel_rfl) ?r29
 case hy29=>intro w AB;go_simp;try with_reducible rfl
 case ha29=>simp only[Act.put,C5,C6,C7];exact rfl
 refine B7 AA.out (i:=30) (d:=(some 40)) (v:= ?v30) (a':= ?a30) (l':=(bt 69 2147483647)) (by simp only[I8,I9,J0];exact rfl) (by kernel_rfl) (by kernel_rfl) (by kernel_rfl) (λ_ _ _ h=>h) (Or.inl ⟨by rfl,?hy30⟩) (by assumption) (by rfl) ?ha30 (by kernel_rfl) ?r30
 case hy30=>intro w AB;go_simp;try with_reducible rfl
 case ha30=>simp only[Act.put,C5,C6,C7];exact rfl
 refine B7 AA.out (i:=31) (d:=(some 41)) (a':= ?a31) (l':=(bt 69 4294967295)) (by simp only[I8,I9,J0];exact rfl) (by kernel_rfl) (by kernel_rfl) (by kernel_rfl) (λ_ _ _ h=>h) (C3 (by rfl) _ _ rfl ⟨hb,7,none⟩ rfl (str H.user) (λw' AC=>ld9 (L7 AC 7 (str H.user) rfl))) (by assumption) (by rfl) ?ha31 (by kernel_rfl) ?r31
 case ha31=>simp only[Act.put,C5,C6,C7];exact rfl
 refine B7 AA.out (i:=32) (d:=(some 42)) (v:= ?v32) (a':= ?a32) (l':=(bt 69 8589934591)) (by simp only[I8,I9,J0];exact rfl) (by kernel_rfl) (by kernel_rfl) (by kernel_rfl) (λ_ _ _ h=>h) (Or.inl ⟨by rfl,?hy32⟩) (by assumption) (by rfl) ?ha32 (by kernel_rfl) ?r32
 case hy32=>intro w AB;go_simp;try with_reducible rfl
 case ha32=>simp only[Act.put,C5,C6,C7];exact rfl
 refine B7 AA.out (i:=33) (d:=(some 43)) (v:= ?v33) (a':= ?a33) (l':=(bt 69 17179869183)) (by simp only[I8,I9,J0];exact rfl) (by kernel_rfl) (by kernel_rfl) (by kernel_rfl) (λ_ _ _ h=>h) (Or.inl ⟨by rfl,?hy33⟩) (by assumption) (by rfl) ?ha33 (by kernel_rfl) ?r33
 case hy33=>intro w AB;go_simp;try with_reducible rfl
 case ha33=>simp only[Act.put,C5,C6,C7];exact rfl
 refine B7 AA.out (i:=34) (d:=(some 44)) (v:= ?v34) (a':= ?a34) (l':=(bt 69 34359738367)) (by simp only[I8,I9,J0];exact rfl) (by kernel_rfl) (by kernel_rfl) (by kernel_rfl) (λ_ _ _ h=>h) (Or.inl ⟨by rfl,?hy34⟩) (by assumption) (by rfl) ?ha34 (by kernel_rfl) ?r34
 case hy34=>intro w AB;go_simp;try with_reducible rfl
 case ha34=>simp only[Act.put,C5,C6,C7];exact rfl
 refine B7 AA.out (i:=35) (d:=(some 45)) (a':= ?a35) (l':=(bt 69 68719476735)) (by simp only[I8,I9,J0];exact rfl) (by kernel_rfl) (by kernel_rfl) (by kernel_rfl) (λ_ _ _ h=>h) (C3 (by rfl) _ _ rfl ⟨hb,8,none⟩ rfl (str H.group) (λw' AC=>ld9 (L7 AC 8 (str H.group) rfl))) (by assumption) (by rfl) ?ha35 (by kernel_rfl) ?r35
 case ha35=>simp only[Act.put,C5,C6,C7];exact rfl
 refine B7 AA.out (i:=36) (d:=(some 46)) (v:= ?v36) (a':= ?a36) (l':=(bt 69 137438953471)) (by simp only[I8,I9,J0];exact rfl) (by kernel_rfl) (by kernel_rfl) (by kernel_rfl) (λ_ _ _ h=>h) (Or.inl ⟨by rfl,?hy36⟩) (by assumption) (by rfl) ?ha36 (by kernel_rfl) ?r36
 case hy36=>intro w AB;go_simp;try with_reducible rfl
 case ha36=>simp only[Act.put,C5,C6,C7];exact rfl
 refine B7 AA.out (i:=37) (d:=(some 47)) (v:= ?v37) (a':= ?a37) (l':=(bt 69 274877906943)) (by simp only[I8,I9,J0];exact rfl) (by kernel_rfl) (by kernel_rfl) (by kernel_rfl) (λ_ _ _ h=>h) (Or.inl ⟨by rfl,?hy37⟩) (by assumption) (by rfl) ?ha37 (by kernel_rfl) ?r37
 case hy37=>intro w AB;go_simp;try with_reducible rfl
 case ha37=>simp only[Act.put,C5,C6,C7];exact rfl
 refine B7 AA.out (i:=38) (d:=(some 48)) (v:= ?v38) (a':= ?a38) (l':=(bt 69 549755813887)) (by simp only[I8,I9,J0];exact rfl) (by kernel_rfl) (by kernel_rfl) (by kernel_rfl) (λ_ _ _ h=>h) (Or.inl ⟨by rfl,?hy38⟩) (by assumption) (by rfl) ?ha38 (by kernel_rfl) ?r38
 case hy38=>intro w AB;go_simp;try with_reducible rfl
 case ha38=>simp only[Act.put,C5,C6,C7];exact rfl
 refine B7 AA.out (i:=39) (d:=(some 49)) (a':= ?a39) (l':=(bt 69 1099511627775)) (by simp only[I8,I9,J0];exact rfl) (by kernel_rfl) (by kernel_rfl) (by kernel_rfl) (λ_ _ _ h=>h) (C3 (by rfl) _ _ rfl ⟨hb,9,none⟩ rfl (.agg #[.int .u64 H.mw,.int .i64 H.mx]) (λw' AC=>B2e (L7 AC 9 (.int .u64 H.mw) rfl) (L7 AC 10 (.int .i64 H.mx) rfl))) (by assumption) (by rfl) ?ha39 (by kernel_rfl) ?r39
 case ha39=>simp only[Act.put,C5,C6,C7];exact rfl
 refine B7 AA.out (i:=41) (d:=(some 51)) (v:= ?v41) (a':= ?a41) (l':=(bt 69 3298534883327)) (by simp only[I8,I9,J0];exact rfl) (by kernel_rfl) (by kernel_rfl) (by kernel_rfl) (λ_ _ _ h=>h) (Or.inl ⟨by rfl,?hy41⟩) (by assumption) (by rfl) ?ha41 (by kernel_rfl) ?r41
 case hy41=>intro w AB;go_simp;try with_reducible rfl
 case ha41=>simp only[Act.put,C5,C6,C7];exact rfl
 refine B7 AA.out (i:=42) (d:=(some 52)) (v:= ?v42) (a':= ?a42) (l':=(bt 69 7696581394431)) (by simp only[I8,I9,J0];exact rfl) (by kernel_rfl) (by kernel_rfl) (by kernel_rfl) (λ_ _ _ h=>h) (Or.inl ⟨by rfl,?hy42⟩) (by assumption) (by rfl) ?ha42 (by kernel_rfl) ?r42
 case hy42=>intro w AB;go_simp;try with_reducible rfl
 case ha42=>simp only[Act.put,C5,C6,C7];exact rfl
 refine B7 AA.out (i:=43) (d:=(some 53)) (v:= ?v43) (a':= ?a43) (l':=(bt 69 16492674416639)) (by simp only[I8,I9,J0];exact rfl) (by kernel_rfl) (by kernel_rfl) (by kernel_rfl) (λ_ _ _ h=>h) (Or.inl ⟨by rfl,?hy43⟩) (by assumption) (by rfl) ?ha43 (by kernel_rfl) ?r43
 case hy43=>intro w AB;go_simp;try with_reducible rfl
 case ha43=>simp only[Act.put,C5,C6,C7];exact rfl
 refine B7 AA.out (i:=44) (d:=(some 54)) (a':= ?a44) (l':=(bt 69 34084860461055)) (by simp only[I8,I9,J0];exact rfl) (by kernel_rfl) (by kernel_rfl) (by kernel_rfl) (λ_ _ _ h=>h) (C3 (by rfl) _ _ rfl ⟨hb,11,none⟩ rfl (.agg #[.int .u64 H.aw,.int .i64 H.ax]) (λw' AC=>B2e (L7 AC 11 (.int .u64 H.aw) rfl) (L7 AC 12 (.int .i64 H.ax) rfl))) (by assumption) (by rfl) ?ha44 (by kernel_rfl) ?r44
 case ha44=>simp only[Act.put,C5,C6,C7];exact rfl
 refine B7 AA.out (i:=47) (d:=(some 57)) (v:= ?v47) (a':= ?a47) (l':=(bt 69 174822348816383)) (by simp only[I8,I9,J0];exact rfl) (by kernel_rfl) (by kernel_rfl) (by kernel_rfl) (λ_ _ _ h=>h) (Or.inl ⟨by rfl,?hy47⟩) (by assumption) (by rfl) ?ha47 (by kernel_rfl) ?r47
 case hy47=>intro w AB;go_simp;try with_reducible rfl
 case ha47=>simp only[Act.put,C5,C6,C7];exact rfl
 refine B7 AA.out (i:=48) (d:=(some 58)) (v:= ?v48) (a':= ?a48) (l':=(bt 69 456297325527039)) (by simp only[I8,I9,J0];exact rfl) (by kernel_rfl) (by kernel_rfl) (by kernel_rfl) (λ_ _ _ h=>h) (Or.inl ⟨by rfl,?hy48⟩) (by assumption) (by rfl) ?ha48 (by kernel_rfl) ?r48
 case hy48=>intro w AB;go_simp;try with_reducible rfl
 case ha48=>simp only[Act.put,C5,C6,C7];exact rfl
 refine B7 AA.out (i:=49) (d:=(some 59)) (v:= ?v49) (a':= ?a49) (l':=(bt 69 1019247278948351)) (by simp only[I8,I9,J0];exact rfl) (by kernel_rfl) (by kernel_rfl) (by kernel_rfl) (λ_ _ _ h=>h) (Or.inl ⟨by rfl,?hy49⟩) (by assumption) (by rfl) ?ha49 (by kernel_rfl) ?r49
 case hy49=>intro w AB;go_simp;try with_reducible rfl
 case ha49=>simp only[Act.put,C5,C6,C7];exact rfl
 refine B7 AA.out (i:=50) (d:=(some 60)) (a':= ?a50) (l':=(bt 69 2145147185790975)) (by simp only[I8,I9,J0];exact rfl) (by kernel_rfl) (by kernel_rfl) (by kernel_rfl) (λ_ _ _ h=>h) (C3 (by rfl) _ _ rfl ⟨hb,13,none⟩ rfl (.agg #[.int .u64 H.cw,.int .i64 H.cx]) (λw' AC=>B2e (L7 AC 13 (.int .u64 H.cw) rfl) (L7 AC 14 (.int .i64 H.cx) rfl))) (by assumption) (by rfl) ?ha50 (by kernel_rfl) ?r50
 case ha50=>simp only[Act.put,C5,C6,C7];exact rfl
 refine B7 AA.out (i:=53) (d:=(some 63)) (v:= ?v53) (a':= ?a53) (l':=(bt 69 11152346440531967)) (by simp only[I8,I9,J0];exact rfl) (by kernel_rfl) (by kernel_rfl) (by kernel_rfl) (λ_ _ _ h=>h) (Or.inl ⟨by rfl,?hy53⟩) (by assumption) (by rfl) ?ha53 (by kernel_rfl) ?r53
 case hy53=>intro w AB;go_simp;try with_reducible rfl
 case ha53=>simp only[Act.put,C5,C6,C7];exact rfl
 refine B7 AA.out (i:=54) (d:=(some 64)) (v:= ?v54) (a':= ?a54) (l':=(bt 69 29166744950013951)) (by simp only[I8,I9,J0];exact rfl) (by kernel_rfl) (by kernel_rfl) (by kernel_rfl) (λ_ _ _ h=>h) (Or.inl ⟨by rfl,?hy54⟩) (by assumption) (by rfl) ?ha54 (by kernel_rfl) ?r54
 case hy54=>intro w AB;go_simp;try with_reducible rfl
 case ha54=>simp only[Act.put,C5,C6,C7];exact rfl
 refine B7 AA.out (i:=55) (d:=(some 65)) (v:= ?v55) (a':= ?a55) (l':=(bt 69 65195541968977919)) (by simp only[I8,I9,J0];exact rfl) (by kernel_rfl) (by kernel_rfl) (by kernel_rfl) (λ_ _ _ h=>h) (Or.inl ⟨by rfl,?hy55⟩) (by assumption) (by rfl) ?ha55 (by kernel_rfl) ?r55
 case hy55=>intro w AB;go_simp;try with_reducible rfl
 case ha55=>simp only[Act.put,C5,C6,C7];exact rfl
 refine B7 AA.out (i:=56) (d:=(some 66)) (a':= ?a56) (l':=(bt 69 137253136006905855)) (by simp only[I8,I9,J0];exact rfl) (by kernel_rfl) (by kernel_rfl) (by kernel_rfl) (λ_ _ _ h=>h) (C3 (by rfl) _ _ rfl ⟨hb,15,none⟩ rfl (.int .i64 H.maj) (λw' AC=>ld2 (L7 AC 15 (.int .i64 H.maj) rfl))) (by assumption) (by rfl) ?ha56 (by kernel_rfl) ?r56
 case ha56=>simp only[Act.put,C5,C6,C7];exact rfl
 refine B7 AA.out (i:=57) (d:=(some 67)) (v:= ?v57) (a':= ?a57) (l':=(bt 69 281368324082761727)) (by simp only[I8,I9,J0];exact rfl) (by kernel_rfl) (by kernel_rfl) (by kernel_rfl) (λ_ _ _ h=>h) (Or.inl ⟨by rfl,?hy57⟩) (by assumption) (by rfl) ?ha57 (by kernel_rfl) ?r57
 case hy57=>intro w AB;go_simp;try with_reducible rfl
 case ha57=>simp only[Act.put,C5,C6,C7];exact rfl
 refine B7 AA.out (i:=58) (d:=(some 68)) (v:= ?v58) (a':= ?a58) (l':=(bt 69 569598700234473471)) (by simp only[I8,I9,J0];exact rfl) (by kernel_rfl) (by kernel_rfl) (by kernel_rfl) (λ_ _ _ h=>h) (Or.inl ⟨by rfl,?hy58⟩) (by assumption) (by rfl) ?ha58 (by kernel_rfl) ?r58
 case hy58=>intro w AB;go_simp;try with_reducible rfl
 case ha58=>simp only[Act.put,C5,C6,C7];exact rfl
 refine B7 AA.out (i:=59) (d:=(some 69)) (v:= ?v59) (a':= ?a59) (l':=(bt 69 1146059452537896959)) (by simp only[I8,I9,J0];exact rfl) (by kernel_rfl) (by kernel_rfl) (by kernel_rfl) (λ_ _ _ h=>h) (Or.inl ⟨by rfl,?hy59⟩) (by assumption) (by rfl) ?ha59 (by kernel_rfl) ?r59
 case hy59=>intro w AB;go_simp;try with_reducible rfl
 case ha59=>simp only[Act.put,C5,C6,C7];exact rfl
 refine B7 AA.out (i:=60) (d:=(some 70)) (a':= ?a60) (l':=(bt 69 2298980957144743935)) (by simp only[I8,I9,J0];exact rfl) (by kernel_rfl) (by kernel_rfl) (by kernel_rfl) (λ_ _ _ h=>h) (C3 (by rfl) _ _ rfl ⟨hb,16,none⟩ rfl (.int .i64 H.mnr) (λw' AC=>ld2 (L7 AC 16 (.int .i64 H.mnr) rfl))) (by assumption) (by rfl) ?ha60 (by kernel_rfl) ?r60
 case ha60=>simp only[Act.put,C5,C6,C7];exact rfl
 refine B7 AA.out (i:=61) (d:=(some 71)) (v:= ?v61) (a':= ?a61) (l':=(bt 69 4604823966358437887)) (by simp only[I8,I9,J0];exact rfl) (by kernel_rfl) (by kernel_rfl) (by kernel_rfl) (λ_ _ _ h=>h) (Or.inl ⟨by rfl,?hy61⟩) (by assumption) (by rfl) ?ha61 (by kernel_rfl) ?r61
 case hy61=>intro w AB;go_simp;try with_reducible rfl
 case ha61=>simp only[Act.put,C5,C6,C7];exact rfl
 refine B7 AA.out (i:=62) (d:=(some 72)) (v:= ?v62) (a':= ?a62) (l':=(bt 69 9216509984785825791)) (by simp only[I8,I9,J0];exact rfl) (by kernel_rfl) (by kernel_rfl) (by kernel_rfl) (λ_ _ _ h=>h) (Or.inl ⟨by rfl,?hy62⟩) (by assumption) (by rfl) ?ha62 (by kernel_rfl) ?r62
 case hy62=>intro w AB;go_simp;try with_reducible rfl
 case ha62=>simp only[Act.put,C5,C6,C7];exact rfl
 refine B7 AA.out (i:=63) (d:=(some 73)) (v:= ?v63) (a':= ?a63) (l':=(bt 69 18439882021640601599)) (by simp only[I8,I9,J0];exact rfl) (by kernel_rfl) (by kernel_rfl) (by kernel_rfl) (λ_ _ _ h=>h) (Or.inl ⟨by rfl,?hy63⟩) (by assumption) (by rfl) ?ha63 (by kernel_rfl) ?r63
 case hy63=>intro w AB;go_simp;try with_reducible rfl
 case ha63=>simp only[Act.put,C5,C6,C7];exact rfl
 refine B7 AA.out (i:=64) (d:=(some 74)) (a':= ?a64) (l':=(bt 69 36886626095350153215)) (by simp only[I8,I9,J0];exact rfl) (by kernel_rfl) (by kernel_rfl) (by kernel_rfl) (λ_ _ _ h=>h) (C3 (by rfl) _ _ rfl ⟨hb,19,none⟩ rfl (.int .i64 H.fmt) (λw' AC=>B7G (L7 AC 19 (.int .i64 H.fmt) rfl))) (by assumption) (by rfl) ?ha64 (by kernel_rfl) ?r64
 case ha64=>simp only[Act.put,C5,C6,C7];exact rfl
 refine wpAnyH_ready (rs:=[40,67]) (by rw[AA.out];kernel_rfl) (by simp) ?_;refine D5 AA.out (l':=(bt 69 36886627194861780991)) (by simp only[I8,I9,J0];exact rfl) (by kernel_rfl) (λK hK=> ?_) (D5 AA.out (l':=(bt 69 184460578685026566143)) (by simp only[I8,I9,J0];exact rfl) (by kernel_rfl) (λK hK=> ?_) AllReadyH.nil)
 ·go_simp
  go_at_call 73
  refine(HT.out _).mono ?_;rintro e Ab ⟨rfl,Ak⟩;have Ac:=A0 (Cc.out.trans (Ak.mono Cc.out.size));have AJ:=A0 ((Ak.block hb (A8 Cd.out)).trans Cd.out);have AO:=A0 ((Ak.block w.heap.size (A8 Bl.out)).trans Bl.out);refine hK.out _ _ AJ.out (λhHeld=> ?_);clear hK K Ak;try simp only[Act.put,C5,C6,C7]
  refine wpAnyH_ready (rs:=[45,67]) (by rw[AA.out];kernel_rfl) (by simp) ?_;refine D5 AA.out (l':=(bt 69 36886662379233869823)) (by simp only[I8,I9,J0];exact rfl) (by kernel_rfl) (λK hK=> ?_) (D5 AA.out (l':=(bt 69 184460579784538193919)) (by simp only[I8,I9,J0];exact rfl) (by kernel_rfl) (λK hK=> ?_) AllReadyH.nil)
  ·go_simp
   go_at_call 74
   refine(DB.out _).mono ?_;rintro e Ao ⟨rfl,Al⟩;have Ad:=A0 (Ac.out.trans (Al.mono Ac.out.size));have AL:=A0 ((Al.block hb (A8 AJ.out)).trans AJ.out);have AP:=A0 ((Al.block w.heap.size (A8 AO.out)).trans AO.out);refine hK.out _ _ AL.out (λhHeld=> ?_);clear hK K Al;try simp only[Act.put,C5,C6,C7]
   refine B7 AA.out (i:=46) (d:=(some 56)) (v:= ?vn1246) (a':= ?an1246) (l':=(bt 69 36886732747978047487)) (by simp only[I8,I9,J0];exact rfl) (by kernel_rfl) (by kernel_rfl) (by kernel_rfl) (λ_ _ _ h=>h) (Or.inl ⟨by rfl,?hyn1246⟩) (by assumption) (by rfl) ?han1246 (by kernel_rfl) ?rn1246
   case hyn1246=>intro w AB;go_simp;try with_reducible rfl
   case han1246=>simp only[Act.put,C5,C6,C7];exact rfl
   refine wpAnyH_ready (rs:=[51,67]) (by rw[AA.out];kernel_rfl) (by simp) ?_;refine D5 AA.out (l':=(bt 69 36888984547791732735)) (by simp only[I8,I9,J0];exact rfl) (by kernel_rfl) (λK hK=> ?_) (D5 AA.out (l':=(bt 69 184460685337654460415)) (by simp only[I8,I9,J0];exact rfl) (by kernel_rfl) (λK hK=> ?_) AllReadyH.nil)
   ·go_simp
    go_at_call 74
    refine(Ce.out _).mono ?_;rintro e Av ⟨rfl,Am⟩;have Ae:=A0 (Ad.out.trans (Am.mono Ad.out.size));have AM:=A0 ((Am.block hb (A8 AL.out)).trans AL.out);have AQ:=A0 ((Am.block w.heap.size (A8 AP.out)).trans AP.out);refine hK.out _ _ AM.out (λhHeld=> ?_);clear hK K Am;try simp only[Act.put,C5,C6,C7]
    refine B7 AA.out (i:=52) (d:=(some 62)) (v:= ?vn1352) (a':= ?an1352) (l':=(bt 69 36893488147419103231)) (by simp only[I8,I9,J0];exact rfl) (by kernel_rfl) (by kernel_rfl) (by kernel_rfl) (λ_ _ _ h=>h) (Or.inl ⟨by rfl,?hyn1352⟩) (by assumption) (by rfl) ?han1352 (by kernel_rfl) ?rn1352
    case hyn1352=>intro w AB;go_simp;try with_reducible rfl
    case han1352=>simp only[Act.put,C5,C6,C7];exact rfl
    refine wpAnyH_ready (rs:=[65,67]) (by rw[AA.out];kernel_rfl) (by simp) ?_;refine D5 AA.out (l':=(bt 69 73786976294838206463)) (by simp only[I8,I9,J0];exact rfl) (by kernel_rfl) (λK hK=> ?_) (D5 AA.out (l':=(bt 69 184467440737095516159)) (by simp only[I8,I9,J0];exact rfl) (by kernel_rfl) (λK hK=> ?_) AllReadyH.nil)
    ·go_simp
     go_at_call 75
     refine(Ba.out _).mono ?_;rintro e BL ⟨rfl,An⟩;have BP:=A0 (Ae.out.trans (An.mono Ae.out.size));have Aw:=A0 ((An.block hb (A8 AM.out)).trans AM.out);have BJ:=A0 ((An.block w.heap.size (A8 AQ.out)).trans AQ.out);refine hK.out _ _ Aw.out (λhHeld=> ?_);clear hK K An;try simp only[Act.put,C5,C6,C7]
     refine B7 AA.out (i:=66) (d:=(some 76)) (v:= ?vn1466) (a':= ?an1466) (l':=(bt 69 147573952589676412927)) (by simp only[I8,I9,J0];exact rfl) (by kernel_rfl) (by kernel_rfl) (by kernel_rfl) (λ_ _ _ h=>h) (Or.inl ⟨by rfl,?hyn1466⟩) (by assumption) (by rfl) ?han1466 (by kernel_rfl) ?rn1466
     case hyn1466=>intro w AB;go_simp;try with_reducible rfl
     case han1466=>simp only[Act.put,C5,C6,C7];exact rfl
     refine wpAnyH_ready (rs:=[67]) (by rw[AA.out];kernel_rfl) (by simp) ?_;refine D5 AA.out (l':=(bt 69 295147905179352825855)) (by simp only[I8,I9,J0];exact rfl) (by kernel_rfl) (λK hK=> ?_) AllReadyH.nil;go_simp
     obtain⟨Cg,AD⟩:∃x,x=BL.alloc (.cells #[.int .u8 0,.string {data:=#[]},.string {data:=#[]},.int .i64 0,.int .i64 0,.int .i64 0,.int .i64 0,.string {data:=#[]},.string {data:=#[]},.int .i64 0,.int .i64 0,.bool false,.int .i64 0,.int .i64 0,.bool false,.int .i64 0,.int .i64 0,.int .i64 0,.int .i64 0,.slice none 0 0,.int .i64 0] 26):=⟨_,rfl⟩;rw[<-AD];have Cl:Hid (Below w.heap.size w Cg):=by rw[AD];exact A0 (BP.out.alloc BP.out.size _)
     have Bm:Hid (Cg.heap[hb]?=some (.cells H.cells.toArray 130 (0,0))):=by rw[AD];exact A0 ((Below.heap_alloc _ _ hb (A8 Aw.out)).trans Aw.out)
     have Cw:Hid (Cg.heap[w.heap.size]?=some (.cells #[.int .u8 0,.string {data:=#[]},.string {data:=#[]},.int .i64 0,.int .i64 0,.int .i64 0,.int .i64 0,.string {data:=#[]},.string {data:=#[]},.int .i64 0,.int .i64 0,.bool false,.int .i64 0,.int .i64 0,.bool false,.int .i64 0,.int .i64 0,.int .i64 0,.int .i64 0,.slice none 0 0,.int .i64 0] 26 (0,0))):=by rw[AD];exact A0 ((Below.heap_alloc _ _ w.heap.size (A8 BJ.out)).trans BJ.out)
     have Cq:Hid (Cg.heap[BL.heap.size]?=some (.cells #[.int .u8 0,.string {data:=#[]},.string {data:=#[]},.int .i64 0,.int .i64 0,.int .i64 0,.int .i64 0,.string {data:=#[]},.string {data:=#[]},.int .i64 0,.int .i64 0,.bool false,.int .i64 0,.int .i64 0,.bool false,.int .i64 0,.int .i64 0,.int .i64 0,.int .i64 0,.slice none 0 0,.int .i64 0] 26 (0,0))):=by rw[AD];exact A0 (heap_alloc_new _ _)
     have Af:Hid (w.heap.size<BL.heap.size):=A0 (A8 BJ.out);refine hK.out _ _ Bm.out (λhHeld=> ?_);clear hK K AD;try simp only[Act.put,C5,C6,C7]
     refine wpAnyH_ready (rs:=[68]) (by rw[AA.out];kernel_rfl) (by simp) ?_;refine D5 AA.out (l':=(bt 69 590295810358705651711)) (by simp only[I8,I9,J0];exact rfl) (by kernel_rfl) (λK hK=> ?_) AllReadyH.nil;obtain⟨DR,CX,DD,CR,DI⟩:=A0i (ih0 H) rfl rfl Cq.out;refine O3 rfl 26 _ _ rfl ⟨BL.heap.size,0,none⟩ rfl _ rfl DR CX ?_;have CM:hb≠BL.heap.size:=by have:=Af.out;omega
     have Ap:w.heap.size≠BL.heap.size:=by have:=Af.out;omega
     have Bn:=A0 ((CR hb CM).trans Bm.out);refine hK.out _ _ Bn.out (λhHeld=> ?_);clear hK K;refine wpAnyH_done (by rw[AA.out];kernel_rfl) ?_ _;refine Bz.out _ _ ?_;exact ho4 w hb w.heap.size BL.heap.size H R BO CA.out By.out DR Bn.out (DI _ _ Cl.out (Nat.le_of_lt Af.out)) (Nat.le_refl _) (Nat.le_of_lt Af.out) Ap DD _ rfl ((CR w.heap.size Ap).trans Cw.out) _ CB.out
    ·go_simp
     obtain⟨Ch,AE⟩:∃x,x=Av.alloc (.cells #[.int .u8 0,.string {data:=#[]},.string {data:=#[]},.int .i64 0,.int .i64 0,.int .i64 0,.int .i64 0,.string {data:=#[]},.string {data:=#[]},.int .i64 0,.int .i64 0,.bool false,.int .i64 0,.int .i64 0,.bool false,.int .i64 0,.int .i64 0,.int .i64 0,.int .i64 0,.slice none 0 0,.int .i64 0] 26):=⟨_,rfl⟩;rw[<-AE];have BQ:Hid (Below w.heap.size w Ch):=by rw[AE];exact A0 (Ae.out.alloc Ae.out.size _)
     have Ax:Hid (Ch.heap[hb]?=some (.cells H.cells.toArray 130 (0,0))):=by rw[AE];exact A0 ((Below.heap_alloc _ _ hb (A8 AM.out)).trans AM.out)
     have CC:Hid (Ch.heap[w.heap.size]?=some (.cells #[.int .u8 0,.string {data:=#[]},.string {data:=#[]},.int .i64 0,.int .i64 0,.int .i64 0,.int .i64 0,.string {data:=#[]},.string {data:=#[]},.int .i64 0,.int .i64 0,.bool false,.int .i64 0,.int .i64 0,.bool false,.int .i64 0,.int .i64 0,.int .i64 0,.int .i64 0,.slice none 0 0,.int .i64 0] 26 (0,0))):=by rw[AE];exact A0 ((Below.heap_alloc _ _ w.heap.size (A8 AQ.out)).trans AQ.out)
     have Bb:Hid (Ch.heap[Av.heap.size]?=some (.cells #[.int .u8 0,.string {data:=#[]},.string {data:=#[]},.int .i64 0,.int .i64 0,.int .i64 0,.int .i64 0,.string {data:=#[]},.string {data:=#[]},.int .i64 0,.int .i64 0,.bool false,.int .i64 0,.int .i64 0,.bool false,.int .i64 0,.int .i64 0,.int .i64 0,.int .i64 0,.slice none 0 0,.int .i64 0] 26 (0,0))):=by rw[AE];exact A0 (heap_alloc_new _ _)
     have Ag:Hid (w.heap.size<Av.heap.size):=A0 (A8 AQ.out);refine hK.out _ _ Ax.out (λhHeld=> ?_);clear hK K AE;try simp only[Act.put,C5,C6,C7]
     refine wpAnyH_ready (rs:=[65]) (by rw[AA.out];kernel_rfl) (by simp) ?_;refine D5 AA.out (l':=(bt 69 221360928884514619391)) (by simp only[I8,I9,J0];exact rfl) (by kernel_rfl) (λK hK=> ?_) AllReadyH.nil;go_simp
     go_at_call 75
     refine(Ba.out _).mono ?_;rintro e DX ⟨rfl,AR⟩;have Cm:=A0 (BQ.out.trans (AR.mono BQ.out.size));have Bo:=A0 ((AR.block hb (A8 Ax.out)).trans Ax.out);have Cx:=A0 ((AR.block w.heap.size (A8 CC.out)).trans CC.out);have Cr:=A0 ((AR.block Av.heap.size (A8 Bb.out)).trans Bb.out);refine hK.out _ _ Bo.out (λhHeld=> ?_);clear hK K AR;try simp only[Act.put,C5,C6,C7]
     refine B7 AA.out (i:=66) (d:=(some 76)) (v:= ?vn1866) (a':= ?an1866) (l':=(bt 69 295147905179352825855)) (by simp only[I8,I9,J0];exact rfl) (by kernel_rfl) (by kernel_rfl) (by kernel_rfl) (λ_ _ _ h=>h) (Or.inl ⟨by rfl,?hyn1866⟩) (by assumption) (by rfl) ?han1866 (by kernel_rfl) ?rn1866
     case hyn1866=>intro w AB;go_simp;try with_reducible rfl
     case han1866=>simp only[Act.put,C5,C6,C7];exact rfl
     refine wpAnyH_ready (rs:=[68]) (by rw[AA.out];kernel_rfl) (by simp) ?_;refine D5 AA.out (l':=(bt 69 590295810358705651711)) (by simp only[I8,I9,J0];exact rfl) (by kernel_rfl) (λK hK=> ?_) AllReadyH.nil;obtain⟨DS,CY,DE,CT,DJ⟩:=A0i (ih0 H) rfl rfl Cr.out;refine O3 rfl 26 _ _ rfl ⟨Av.heap.size,0,none⟩ rfl _ rfl DS CY ?_;have CN:hb≠Av.heap.size:=by have:=Ag.out;omega
     have Aq:w.heap.size≠Av.heap.size:=by have:=Ag.out;omega
     have Bp:=A0 ((CT hb CN).trans Bo.out);refine hK.out _ _ Bp.out (λhHeld=> ?_);clear hK K;refine wpAnyH_done (by rw[AA.out];kernel_rfl) ?_ _;refine Bz.out _ _ ?_;exact ho4 w hb w.heap.size Av.heap.size H R BO CA.out By.out DS Bp.out (DJ _ _ Cm.out (Nat.le_of_lt Ag.out)) (Nat.le_refl _) (Nat.le_of_lt Ag.out) Aq DE _ rfl ((CT w.heap.size Aq).trans Cx.out) _ CB.out
   ·go_simp
    obtain⟨Ci,AG⟩:∃x,x=Ao.alloc (.cells #[.int .u8 0,.string {data:=#[]},.string {data:=#[]},.int .i64 0,.int .i64 0,.int .i64 0,.int .i64 0,.string {data:=#[]},.string {data:=#[]},.int .i64 0,.int .i64 0,.bool false,.int .i64 0,.int .i64 0,.bool false,.int .i64 0,.int .i64 0,.int .i64 0,.int .i64 0,.slice none 0 0,.int .i64 0] 26):=⟨_,rfl⟩;rw[<-AG];have BR:Hid (Below w.heap.size w Ci):=by rw[AG];exact A0 (Ad.out.alloc Ad.out.size _)
    have Ay:Hid (Ci.heap[hb]?=some (.cells H.cells.toArray 130 (0,0))):=by rw[AG];exact A0 ((Below.heap_alloc _ _ hb (A8 AL.out)).trans AL.out)
    have CD:Hid (Ci.heap[w.heap.size]?=some (.cells #[.int .u8 0,.string {data:=#[]},.string {data:=#[]},.int .i64 0,.int .i64 0,.int .i64 0,.int .i64 0,.string {data:=#[]},.string {data:=#[]},.int .i64 0,.int .i64 0,.bool false,.int .i64 0,.int .i64 0,.bool false,.int .i64 0,.int .i64 0,.int .i64 0,.int .i64 0,.slice none 0 0,.int .i64 0] 26 (0,0))):=by rw[AG];exact A0 ((Below.heap_alloc _ _ w.heap.size (A8 AP.out)).trans AP.out)
    have Bc:Hid (Ci.heap[Ao.heap.size]?=some (.cells #[.int .u8 0,.string {data:=#[]},.string {data:=#[]},.int .i64 0,.int .i64 0,.int .i64 0,.int .i64 0,.string {data:=#[]},.string {data:=#[]},.int .i64 0,.int .i64 0,.bool false,.int .i64 0,.int .i64 0,.bool false,.int .i64 0,.int .i64 0,.int .i64 0,.int .i64 0,.slice none 0 0,.int .i64 0] 26 (0,0))):=by rw[AG];exact A0 (heap_alloc_new _ _)
    have Ah:Hid (w.heap.size<Ao.heap.size):=A0 (A8 AP.out);refine hK.out _ _ Ay.out (λhHeld=> ?_);clear hK K AG;try simp only[Act.put,C5,C6,C7]
    refine wpAnyH_ready (rs:=[51]) (by rw[AA.out];kernel_rfl) (by simp) ?_;refine D5 AA.out (l':=(bt 69 184462937137468145663)) (by simp only[I8,I9,J0];exact rfl) (by kernel_rfl) (λK hK=> ?_) AllReadyH.nil;go_simp
    go_at_call 74
    refine(Ce.out _).mono ?_;rintro e DY ⟨rfl,AS⟩;have BS:=A0 (BR.out.trans (AS.mono BR.out.size));have Az:=A0 ((AS.block hb (A8 Ay.out)).trans Ay.out);have CE:=A0 ((AS.block w.heap.size (A8 CD.out)).trans CD.out);have Bd:=A0 ((AS.block Ao.heap.size (A8 Bc.out)).trans Bc.out);refine hK.out _ _ Az.out (λhHeld=> ?_);clear hK K AS;try simp only[Act.put,C5,C6,C7]
    refine B7 AA.out (i:=52) (d:=(some 62)) (v:= ?vn2152) (a':= ?an2152) (l':=(bt 69 184467440737095516159)) (by simp only[I8,I9,J0];exact rfl) (by kernel_rfl) (by kernel_rfl) (by kernel_rfl) (λ_ _ _ h=>h) (Or.inl ⟨by rfl,?hyn2152⟩) (by assumption) (by rfl) ?han2152 (by kernel_rfl) ?rn2152
    case hyn2152=>intro w AB;go_simp;try with_reducible rfl
    case han2152=>simp only[Act.put,C5,C6,C7];exact rfl
    refine wpAnyH_ready (rs:=[65]) (by rw[AA.out];kernel_rfl) (by simp) ?_;refine D5 AA.out (l':=(bt 69 221360928884514619391)) (by simp only[I8,I9,J0];exact rfl) (by kernel_rfl) (λK hK=> ?_) AllReadyH.nil;go_simp
    go_at_call 75
    refine(Ba.out _).mono ?_;rintro e DZ ⟨rfl,AT⟩;have Cn:=A0 (BS.out.trans (AT.mono BS.out.size));have Bq:=A0 ((AT.block hb (A8 Az.out)).trans Az.out);have Cy:=A0 ((AT.block w.heap.size (A8 CE.out)).trans CE.out);have Cs:=A0 ((AT.block Ao.heap.size (A8 Bd.out)).trans Bd.out);refine hK.out _ _ Bq.out (λhHeld=> ?_);clear hK K AT;try simp only[Act.put,C5,C6,C7]
    refine B7 AA.out (i:=66) (d:=(some 76)) (v:= ?vn2266) (a':= ?an2266) (l':=(bt 69 295147905179352825855)) (by simp only[I8,I9,J0];exact rfl) (by kernel_rfl) (by kernel_rfl) (by kernel_rfl) (λ_ _ _ h=>h) (Or.inl ⟨by rfl,?hyn2266⟩) (by assumption) (by rfl) ?han2266 (by kernel_rfl) ?rn2266
    case hyn2266=>intro w AB;go_simp;try with_reducible rfl
    case han2266=>simp only[Act.put,C5,C6,C7];exact rfl
    refine wpAnyH_ready (rs:=[68]) (by rw[AA.out];kernel_rfl) (by simp) ?_;refine D5 AA.out (l':=(bt 69 590295810358705651711)) (by simp only[I8,I9,J0];exact rfl) (by kernel_rfl) (λK hK=> ?_) AllReadyH.nil;obtain⟨DT,CZ,DF,CU,DK⟩:=A0i (ih0 H) rfl rfl Cs.out;refine O3 rfl 26 _ _ rfl ⟨Ao.heap.size,0,none⟩ rfl _ rfl DT CZ ?_;have CO:hb≠Ao.heap.size:=by have:=Ah.out;omega
    have Ar:w.heap.size≠Ao.heap.size:=by have:=Ah.out;omega
    have Br:=A0 ((CU hb CO).trans Bq.out);refine hK.out _ _ Br.out (λhHeld=> ?_);clear hK K;refine wpAnyH_done (by rw[AA.out];kernel_rfl) ?_ _;refine Bz.out _ _ ?_;exact ho4 w hb w.heap.size Ao.heap.size H R BO CA.out By.out DT Br.out (DK _ _ Cn.out (Nat.le_of_lt Ah.out)) (Nat.le_refl _) (Nat.le_of_lt Ah.out) Ar DF _ rfl ((CU w.heap.size Ar).trans Cy.out) _ CB.out
  ·go_simp
   obtain⟨Cj,AH⟩:∃x,x=Ab.alloc (.cells #[.int .u8 0,.string {data:=#[]},.string {data:=#[]},.int .i64 0,.int .i64 0,.int .i64 0,.int .i64 0,.string {data:=#[]},.string {data:=#[]},.int .i64 0,.int .i64 0,.bool false,.int .i64 0,.int .i64 0,.bool false,.int .i64 0,.int .i64 0,.int .i64 0,.int .i64 0,.slice none 0 0,.int .i64 0] 26):=⟨_,rfl⟩;rw[<-AH];have BT:Hid (Below w.heap.size w Cj):=by rw[AH];exact A0 (Ac.out.alloc Ac.out.size _)
   have BA:Hid (Cj.heap[hb]?=some (.cells H.cells.toArray 130 (0,0))):=by rw[AH];exact A0 ((Below.heap_alloc _ _ hb (A8 AJ.out)).trans AJ.out)
   have CF:Hid (Cj.heap[w.heap.size]?=some (.cells #[.int .u8 0,.string {data:=#[]},.string {data:=#[]},.int .i64 0,.int .i64 0,.int .i64 0,.int .i64 0,.string {data:=#[]},.string {data:=#[]},.int .i64 0,.int .i64 0,.bool false,.int .i64 0,.int .i64 0,.bool false,.int .i64 0,.int .i64 0,.int .i64 0,.int .i64 0,.slice none 0 0,.int .i64 0] 26 (0,0))):=by rw[AH];exact A0 ((Below.heap_alloc _ _ w.heap.size (A8 AO.out)).trans AO.out)
   have Be:Hid (Cj.heap[Ab.heap.size]?=some (.cells #[.int .u8 0,.string {data:=#[]},.string {data:=#[]},.int .i64 0,.int .i64 0,.int .i64 0,.int .i64 0,.string {data:=#[]},.string {data:=#[]},.int .i64 0,.int .i64 0,.bool false,.int .i64 0,.int .i64 0,.bool false,.int .i64 0,.int .i64 0,.int .i64 0,.int .i64 0,.slice none 0 0,.int .i64 0] 26 (0,0))):=by rw[AH];exact A0 (heap_alloc_new _ _)
   have Ai:Hid (w.heap.size<Ab.heap.size):=A0 (A8 AO.out);refine hK.out _ _ BA.out (λhHeld=> ?_);clear hK K AH;try simp only[Act.put,C5,C6,C7]
   refine wpAnyH_ready (rs:=[45]) (by rw[AA.out];kernel_rfl) (by simp) ?_;refine D5 AA.out (l':=(bt 69 184460614968910282751)) (by simp only[I8,I9,J0];exact rfl) (by kernel_rfl) (λK hK=> ?_) AllReadyH.nil;go_simp
   go_at_call 74
   refine(DB.out _).mono ?_;rintro e Da ⟨rfl,AU⟩;have BU:=A0 (BT.out.trans (AU.mono BT.out.size));have BC:=A0 ((AU.block hb (A8 BA.out)).trans BA.out);have CG:=A0 ((AU.block w.heap.size (A8 CF.out)).trans CF.out);have Bf:=A0 ((AU.block Ab.heap.size (A8 Be.out)).trans Be.out);refine hK.out _ _ BC.out (λhHeld=> ?_);clear hK K AU;try simp only[Act.put,C5,C6,C7]
   refine B7 AA.out (i:=46) (d:=(some 56)) (v:= ?vn2546) (a':= ?an2546) (l':=(bt 69 184460685337654460415)) (by simp only[I8,I9,J0];exact rfl) (by kernel_rfl) (by kernel_rfl) (by kernel_rfl) (λ_ _ _ h=>h) (Or.inl ⟨by rfl,?hyn2546⟩) (by assumption) (by rfl) ?han2546 (by kernel_rfl) ?rn2546
   case hyn2546=>intro w AB;go_simp;try with_reducible rfl
   case han2546=>simp only[Act.put,C5,C6,C7];exact rfl
   refine wpAnyH_ready (rs:=[51]) (by rw[AA.out];kernel_rfl) (by simp) ?_;refine D5 AA.out (l':=(bt 69 184462937137468145663)) (by simp only[I8,I9,J0];exact rfl) (by kernel_rfl) (λK hK=> ?_) AllReadyH.nil;go_simp
   go_at_call 74
   refine(Ce.out _).mono ?_;rintro e Db ⟨rfl,AV⟩;have BV:=A0 (BU.out.trans (AV.mono BU.out.size));have BD:=A0 ((AV.block hb (A8 BC.out)).trans BC.out);have CH:=A0 ((AV.block w.heap.size (A8 CG.out)).trans CG.out);have Bg:=A0 ((AV.block Ab.heap.size (A8 Bf.out)).trans Bf.out);refine hK.out _ _ BD.out (λhHeld=> ?_);clear hK K AV;try simp only[Act.put,C5,C6,C7]
   refine B7 AA.out (i:=52) (d:=(some 62)) (v:= ?vn2652) (a':= ?an2652) (l':=(bt 69 184467440737095516159)) (by simp only[I8,I9,J0];exact rfl) (by kernel_rfl) (by kernel_rfl) (by kernel_rfl) (λ_ _ _ h=>h) (Or.inl ⟨by rfl,?hyn2652⟩) (by assumption) (by rfl) ?han2652 (by kernel_rfl) ?rn2652
   case hyn2652=>intro w AB;go_simp;try with_reducible rfl
   case han2652=>simp only[Act.put,C5,C6,C7];exact rfl
   refine wpAnyH_ready (rs:=[65]) (by rw[AA.out];kernel_rfl) (by simp) ?_;refine D5 AA.out (l':=(bt 69 221360928884514619391)) (by simp only[I8,I9,J0];exact rfl) (by kernel_rfl) (λK hK=> ?_) AllReadyH.nil;go_simp
   go_at_call 75
   refine(Ba.out _).mono ?_;rintro e Dc ⟨rfl,AW⟩;have Co:=A0 (BV.out.trans (AW.mono BV.out.size));have Bs:=A0 ((AW.block hb (A8 BD.out)).trans BD.out);have Cz:=A0 ((AW.block w.heap.size (A8 CH.out)).trans CH.out);have Ct:=A0 ((AW.block Ab.heap.size (A8 Bg.out)).trans Bg.out);refine hK.out _ _ Bs.out (λhHeld=> ?_);clear hK K AW;try simp only[Act.put,C5,C6,C7]
   refine B7 AA.out (i:=66) (d:=(some 76)) (v:= ?vn2766) (a':= ?an2766) (l':=(bt 69 295147905179352825855)) (by simp only[I8,I9,J0];exact rfl) (by kernel_rfl) (by kernel_rfl) (by kernel_rfl) (λ_ _ _ h=>h) (Or.inl ⟨by rfl,?hyn2766⟩) (by assumption) (by rfl) ?han2766 (by kernel_rfl) ?rn2766
   case hyn2766=>intro w AB;go_simp;try with_reducible rfl
   case han2766=>simp only[Act.put,C5,C6,C7];exact rfl
   refine wpAnyH_ready (rs:=[68]) (by rw[AA.out];kernel_rfl) (by simp) ?_;refine D5 AA.out (l':=(bt 69 590295810358705651711)) (by simp only[I8,I9,J0];exact rfl) (by kernel_rfl) (λK hK=> ?_) AllReadyH.nil;obtain⟨DU,Ca,DG,CV,DL⟩:=A0i (ih0 H) rfl rfl Ct.out;refine O3 rfl 26 _ _ rfl ⟨Ab.heap.size,0,none⟩ rfl _ rfl DU Ca ?_;have CP:hb≠Ab.heap.size:=by have:=Ai.out;omega
   have As:w.heap.size≠Ab.heap.size:=by have:=Ai.out;omega
   have Bt:=A0 ((CV hb CP).trans Bs.out);refine hK.out _ _ Bt.out (λhHeld=> ?_);clear hK K;refine wpAnyH_done (by rw[AA.out];kernel_rfl) ?_ _;refine Bz.out _ _ ?_;exact ho4 w hb w.heap.size Ab.heap.size H R BO CA.out By.out DU Bt.out (DL _ _ Co.out (Nat.le_of_lt Ai.out)) (Nat.le_refl _) (Nat.le_of_lt Ai.out) As DG _ rfl ((CV w.heap.size As).trans Cz.out) _ CB.out
 ·go_simp
  obtain⟨Ck,AI⟩:∃x,x=v1.alloc (.cells #[.int .u8 0,.string {data:=#[]},.string {data:=#[]},.int .i64 0,.int .i64 0,.int .i64 0,.int .i64 0,.string {data:=#[]},.string {data:=#[]},.int .i64 0,.int .i64 0,.bool false,.int .i64 0,.int .i64 0,.bool false,.int .i64 0,.int .i64 0,.int .i64 0,.int .i64 0,.slice none 0 0,.int .i64 0] 26):=⟨_,rfl⟩;rw[<-AI];have BW:Hid (Below w.heap.size w Ck):=by rw[AI];exact A0 (Cc.out.alloc Cc.out.size _)
  have BE:Hid (Ck.heap[hb]?=some (.cells H.cells.toArray 130 (0,0))):=by rw[AI];exact A0 ((Below.heap_alloc _ _ hb (A8 Cd.out)).trans Cd.out)
  have CI:Hid (Ck.heap[w.heap.size]?=some (.cells #[.int .u8 0,.string {data:=#[]},.string {data:=#[]},.int .i64 0,.int .i64 0,.int .i64 0,.int .i64 0,.string {data:=#[]},.string {data:=#[]},.int .i64 0,.int .i64 0,.bool false,.int .i64 0,.int .i64 0,.bool false,.int .i64 0,.int .i64 0,.int .i64 0,.int .i64 0,.slice none 0 0,.int .i64 0] 26 (0,0))):=by rw[AI];exact A0 ((Below.heap_alloc _ _ w.heap.size (A8 Bl.out)).trans Bl.out)
  have Bh:Hid (Ck.heap[v1.heap.size]?=some (.cells #[.int .u8 0,.string {data:=#[]},.string {data:=#[]},.int .i64 0,.int .i64 0,.int .i64 0,.int .i64 0,.string {data:=#[]},.string {data:=#[]},.int .i64 0,.int .i64 0,.bool false,.int .i64 0,.int .i64 0,.bool false,.int .i64 0,.int .i64 0,.int .i64 0,.int .i64 0,.slice none 0 0,.int .i64 0] 26 (0,0))):=by rw[AI];exact A0 (heap_alloc_new _ _)
  have Aj:Hid (w.heap.size<v1.heap.size):=A0 (A8 Bl.out);refine hK.out _ _ BE.out (λhHeld=> ?_);clear hK K AI;try simp only[Act.put,C5,C6,C7]
  refine wpAnyH_ready (rs:=[40]) (by rw[AA.out];kernel_rfl) (by simp) ?_;refine D5 AA.out (l':=(bt 69 184460579784538193919)) (by simp only[I8,I9,J0];exact rfl) (by kernel_rfl) (λK hK=> ?_) AllReadyH.nil;go_simp
  go_at_call 73
  refine(HT.out _).mono ?_;rintro e Dd ⟨rfl,AX⟩;have BX:=A0 (BW.out.trans (AX.mono BW.out.size));have BF:=A0 ((AX.block hb (A8 BE.out)).trans BE.out);have CJ:=A0 ((AX.block w.heap.size (A8 CI.out)).trans CI.out);have Bi:=A0 ((AX.block v1.heap.size (A8 Bh.out)).trans Bh.out);refine hK.out _ _ BF.out (λhHeld=> ?_);clear hK K AX;try simp only[Act.put,C5,C6,C7]
  refine wpAnyH_ready (rs:=[45]) (by rw[AA.out];kernel_rfl) (by simp) ?_;refine D5 AA.out (l':=(bt 69 184460614968910282751)) (by simp only[I8,I9,J0];exact rfl) (by kernel_rfl) (λK hK=> ?_) AllReadyH.nil;go_simp
  go_at_call 74
  refine(DB.out _).mono ?_;rintro e De ⟨rfl,AY⟩;have BY:=A0 (BX.out.trans (AY.mono BX.out.size));have BH:=A0 ((AY.block hb (A8 BF.out)).trans BF.out);have CK:=A0 ((AY.block w.heap.size (A8 CJ.out)).trans CJ.out);have Bj:=A0 ((AY.block v1.heap.size (A8 Bi.out)).trans Bi.out);refine hK.out _ _ BH.out (λhHeld=> ?_);clear hK K AY;try simp only[Act.put,C5,C6,C7]
  refine B7 AA.out (i:=46) (d:=(some 56)) (v:= ?vn3146) (a':= ?an3146) (l':=(bt 69 184460685337654460415)) (by simp only[I8,I9,J0];exact rfl) (by kernel_rfl) (by kernel_rfl) (by kernel_rfl) (λ_ _ _ h=>h) (Or.inl ⟨by rfl,?hyn3146⟩) (by assumption) (by rfl) ?han3146 (by kernel_rfl) ?rn3146
  case hyn3146=>intro w AB;go_simp;try with_reducible rfl
  case han3146=>simp only[Act.put,C5,C6,C7];exact rfl
  refine wpAnyH_ready (rs:=[51]) (by rw[AA.out];kernel_rfl) (by simp) ?_;refine D5 AA.out (l':=(bt 69 184462937137468145663)) (by simp only[I8,I9,J0];exact rfl) (by kernel_rfl) (λK hK=> ?_) AllReadyH.nil;go_simp
  go_at_call 74
  refine(Ce.out _).mono ?_;rintro e Df ⟨rfl,AZ⟩;have BZ:=A0 (BY.out.trans (AZ.mono BY.out.size));have BI:=A0 ((AZ.block hb (A8 BH.out)).trans BH.out);have CL:=A0 ((AZ.block w.heap.size (A8 CK.out)).trans CK.out);have Bk:=A0 ((AZ.block v1.heap.size (A8 Bj.out)).trans Bj.out);refine hK.out _ _ BI.out (λhHeld=> ?_);clear hK K AZ;try simp only[Act.put,C5,C6,C7]
  refine B7 AA.out (i:=52) (d:=(some 62)) (v:= ?vn3252) (a':= ?an3252) (l':=(bt 69 184467440737095516159)) (by simp only[I8,I9,J0];exact rfl) (by kernel_rfl) (by kernel_rfl) (by kernel_rfl) (λ_ _ _ h=>h) (Or.inl ⟨by rfl,?hyn3252⟩) (by assumption) (by rfl) ?han3252 (by kernel_rfl) ?rn3252
  case hyn3252=>intro w AB;go_simp;try with_reducible rfl
  case han3252=>simp only[Act.put,C5,C6,C7];exact rfl
  refine wpAnyH_ready (rs:=[65]) (by rw[AA.out];kernel_rfl) (by simp) ?_;refine D5 AA.out (l':=(bt 69 221360928884514619391)) (by simp only[I8,I9,J0];exact rfl) (by kernel_rfl) (λK hK=> ?_) AllReadyH.nil;go_simp
  go_at_call 75
  refine(Ba.out _).mono ?_;rintro e Dg ⟨rfl,Aa⟩;have Cp:=A0 (BZ.out.trans (Aa.mono BZ.out.size));have Bu:=A0 ((Aa.block hb (A8 BI.out)).trans BI.out);have DA:=A0 ((Aa.block w.heap.size (A8 CL.out)).trans CL.out);have Cu:=A0 ((Aa.block v1.heap.size (A8 Bk.out)).trans Bk.out);refine hK.out _ _ Bu.out (λhHeld=> ?_);clear hK K Aa;try simp only[Act.put,C5,C6,C7]
  refine B7 AA.out (i:=66) (d:=(some 76)) (v:= ?vn3366) (a':= ?an3366) (l':=(bt 69 295147905179352825855)) (by simp only[I8,I9,J0];exact rfl) (by kernel_rfl) (by kernel_rfl) (by kernel_rfl) (λ_ _ _ h=>h) (Or.inl ⟨by rfl,?hyn3366⟩) (by assumption) (by rfl) ?han3366 (by kernel_rfl) ?rn3366
  case hyn3366=>intro w AB;go_simp;try with_reducible rfl
  case han3366=>simp only[Act.put,C5,C6,C7];exact rfl
  refine wpAnyH_ready (rs:=[68]) (by rw[AA.out];kernel_rfl) (by simp) ?_;refine D5 AA.out (l':=(bt 69 590295810358705651711)) (by simp only[I8,I9,J0];exact rfl) (by kernel_rfl) (λK hK=> ?_) AllReadyH.nil;obtain⟨DV,Cb,DH,CW,DM⟩:=A0i (ih0 H) rfl rfl Cu.out;refine O3 rfl 26 _ _ rfl ⟨v1.heap.size,0,none⟩ rfl _ rfl DV Cb ?_;have CQ:hb≠v1.heap.size:=by have:=Aj.out;omega
  have Au:w.heap.size≠v1.heap.size:=by have:=Aj.out;omega
  have Bv:=A0 ((CW hb CQ).trans Bu.out);refine hK.out _ _ Bv.out (λhHeld=> ?_);clear hK K;refine wpAnyH_done (by rw[AA.out];kernel_rfl) ?_ _;refine Bz.out _ _ ?_;exact ho4 w hb w.heap.size v1.heap.size H R BO CA.out By.out DV Bv.out (DM _ _ Cp.out (Nat.le_of_lt Aj.out)) (Nat.le_refl _) (Nat.le_of_lt Aj.out) Au DH _ rfl ((CW w.heap.size Au).trans DA.out) _ CB.out
end Go.Proofs.YtkanmkcojlefbaaGreatDoor
