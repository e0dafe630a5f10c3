/-
  Part of the proof; holds the texts Ref7, Cn1.
-/
import Derived.Test.YtkanmkcojlefbaaGreatDoorM41
set_option maxHeartbeats 16000000
set_option maxRecDepth 100000
set_option linter.unusedSimpArgs false
set_option linter.unusedVariables false
namespace Go.Proofs.YtkanmkcojlefbaaGreatDoor
open Go.RowKit
theorem K4 {w:World} {g:Nat} {h:IH} (hh:w.heap[g]?=some (.cells h.cells.toArray 26 (0,0))) (k:Nat) (v:Value) (hv:h.cells[k]?=some v):w.cell? ⟨g,k,none⟩=some v:=by
 rw[Lib.cell_of_heap hh,List.getElem?_toArray];exact hv
theorem B8d {w:World} {p:Addr} {v:Value} (h:w.cell? p=some v): (loadVar 24 p).run Tryz.prog w= .ok v w:=by simp[loadVar,go_sem,h]
theorem B5h {w:World} {g k:Nat} {u v:Value} (h0:w.cell? ⟨g,k,none⟩=some u) (h1:w.cell? ⟨g,k+1,none⟩=some v): (loadVar 23 ⟨g,k,none⟩).run Tryz.prog w= .ok (.agg #[u,v]) w:=by simp[loadVar,go_sem,h0,h1]
def A7O (h:IH) (L:List (List UInt8×List UInt8)) (w:World) (e:Ending) (w':World):Prop:=∃rv,e= .returned (.agg ({h with recs:=rv}:IH).scells.toArray)/\N5 w' rv L/\(rv.oneCell'=true/\A7M rv)/\Below w.heap.size w w'
theorem A6T (h:IH) (L:List (List UInt8×List UInt8)) (w:World) (hL:N5 w h.recs L) (Aj:L.length<=4294967296):Calls Tryz.prog 9 #[.agg h.cells.toArray] w (A7O h L w):=by
 have Ah:Hid (∀wx,Below w.heap.size w wx->Calls Tryz.prog 28 #[h.recs] wx (A9t L wx)):=A0 λwx hb=>A8S h.recs L wx (hL.below hb) Aj;clear hL;go_enter Tryz.func9,Tryz.ntmps9
 go_upto_region 1 with fail
 rename_i K1 AU;have Ad:=A0 AU;clear AU;obtain⟨w1,AE⟩:∃w1,w1=(w.alloc (.cells h.cells.toArray 26)).alloc (.cells #[.int .u8 0,.string {data:=#[]},.string {data:=#[]},.int .i64 0,.int .i64 0,.int .i64 0,.int .i64 0,.string {data:=#[]},.string {data:=#[]},.int .i64 0,.int .i64 0,.bool false,.bool false,.int .i64 0,.int .i64 0,.int .i64 0,.int .i64 0,.int .i64 0,.int .i64 0,.slice none 0 0,.int .i64 0] 31):=⟨_,rfl⟩;rw[<-AE];have s1: (w.alloc (.cells h.cells.toArray 26)).heap.size=w.heap.size+1:=Array.size_push ..;have AT:Below w.heap.size w w1:=by rw[AE];exact((Below.refl _ w).alloc (Nat.le_refl _) _).alloc (by omega) _
 have AO:w1.heap[w.heap.size]?=some (.cells h.cells.toArray 26 (0,0)):=by rw[AE];exact(Below.heap_alloc _ _ _ (by omega)).trans (heap_alloc_new w _)
 have AV:w1.heap[w.heap.size+1]?=some (.cells #[.int .u8 0,.string {data:=#[]},.string {data:=#[]},.int .i64 0,.int .i64 0,.int .i64 0,.int .i64 0,.string {data:=#[]},.string {data:=#[]},.int .i64 0,.int .i64 0,.bool false,.bool false,.int .i64 0,.int .i64 0,.int .i64 0,.int .i64 0,.int .i64 0,.int .i64 0,.slice none 0 0,.int .i64 0] 31 (0,0)):=by rw[AE,<-s1];exact heap_alloc_new _ _
 clear AE s1;have AL:=A0 AO;have AJ:=A0 AT.drew;have AM:Hid (w1.drew.heap[w.heap.size]?=some (.cells h.cells.toArray 26 (0,0))):=A0 AO;have AG:Hid (w1.drew.heap[w.heap.size+1]?=some (.cells #[.int .u8 0,.string {data:=#[]},.string {data:=#[]},.int .i64 0,.int .i64 0,.int .i64 0,.int .i64 0,.string {data:=#[]},.string {data:=#[]},.int .i64 0,.int .i64 0,.bool false,.bool false,.int .i64 0,.int .i64 0,.int .i64 0,.int .i64 0,.int .i64 0,.int .i64 0,.slice none 0 0,.int .i64 0] 31 (0,0))):=A0 AV;clear AT AO AV;obtain⟨hb,AX⟩:∃hb,hb=w.heap.size:=⟨_,rfl⟩;obtain⟨rb,AQ⟩:∃rb,rb=w.heap.size+1:=⟨_,rfl⟩;have Ae:Hid (hb≠rb):=A0 (by omega);have Ag:=A0 AQ;rw[<-AX] at AL AM⊢;rw[<-AQ] at AG;rw[show hb+1=rb by omega];clear AX AQ;refine J1 (S:=λw'=>w'.heap[hb]?=some (.cells h.cells.toArray 26 (0,0))) (n:=39) (l0:=(bt 39 0)) (by kernel_rfl) rfl (by kernel_rfl) AL.out (λAk AA hHeld=> ?_);clear AL;generalize w1.drew=v1 at*;refine B7 AA.out (i:=0) (d:=(some 3)) (v:= ?v0) (a':= ?a0) (l':=(bt 39 1)) (by simp only[I8,I9,J0];exact rfl) (by kernel_rfl) (by kernel_rfl) (by kernel_rfl) (λ_ _ _ h=>h) (Or.inl ⟨by rfl,?hy0⟩) (by assumption) (by rfl) ?ha0 (by kernel_rfl) ?r0
 case hy0=>intro w AC;go_simp;try with_reducible rfl
 case ha0=>simp only[Act.put,C5,C6,C7];exact rfl
 refine B7 AA.out (i:=1) (d:=(some 4)) (a':= ?a1) (l':=(bt 39 3)) (by simp only[I8,I9,J0];exact rfl) (by kernel_rfl) (by kernel_rfl) (by kernel_rfl) (λ_ _ _ h=>h) (C3 (by rfl) _ _ rfl ⟨hb,0,none⟩ rfl (.int .u8 h.typ) (λw' AB=>ld5 (K4 AB 0 (.int .u8 h.typ) rfl))) (by assumption) (by rfl) ?ha1 (by kernel_rfl) ?r1
 case ha1=>simp only[Act.put,C5,C6,C7];exact rfl
 refine B7 AA.out (i:=2) (d:=(some 5)) (v:= ?v2) (a':= ?a2) (l':=(bt 39 7)) (by simp only[I8,I9,J0];exact rfl) (by kernel_rfl) (by kernel_rfl) (by kernel_rfl) (λ_ _ _ h=>h) (Or.inl ⟨by rfl,?hy2⟩) (by assumption) (by rfl) ?ha2 (by kernel_rfl) ?r2
 case hy2=>intro w AC;go_simp;try with_reducible rfl
 case ha2=>simp only[Act.put,C5,C6,C7];exact rfl
 refine B7 AA.out (i:=3) (d:=(some 6)) (a':= ?a3) (l':=(bt 39 15)) (by simp only[I8,I9,J0];exact rfl) (by kernel_rfl) (by kernel_rfl) (by kernel_rfl) (λ_ _ _ h=>h) (C3 (by rfl) _ _ rfl ⟨hb,1,none⟩ rfl (str h.name) (λw' AB=>ld9 (K4 AB 1 (str h.name) rfl))) (by assumption) (by rfl) ?ha3 (by kernel_rfl) ?r3
 case ha3=>simp only[Act.put,C5,C6,C7];exact rfl
 refine B7 AA.out (i:=4) (d:=(some 7)) (v:= ?v4) (a':= ?a4) (l':=(bt 39 31)) (by simp only[I8,I9,J0];exact rfl) (by kernel_rfl) (by kernel_rfl) (by kernel_rfl) (λ_ _ _ h=>h) (Or.inl ⟨by rfl,?hy4⟩) (by assumption) (by rfl) ?ha4 (by kernel_rfl) ?r4
 case hy4=>intro w AC;go_simp;try with_reducible rfl
 case ha4=>simp only[Act.put,C5,C6,C7];exact rfl
 refine B7 AA.out (i:=5) (d:=(some 8)) (a':= ?a5) (l':=(bt 39 63)) (by simp only[I8,I9,J0];exact rfl) (by kernel_rfl) (by kernel_rfl) (by kernel_rfl) (λ_ _ _ h=>h) (C3 (by rfl) _ _ rfl ⟨hb,2,none⟩ rfl (str h.link) (λw' AB=>ld9 (K4 AB 2 (str h.link) rfl))) (by assumption) (by rfl) ?ha5 (by kernel_rfl) ?r5
 case ha5=>simp only[Act.put,C5,C6,C7];exact rfl
 refine B7 AA.out (i:=6) (d:=(some 9)) (v:= ?v6) (a':= ?a6) (l':=(bt 39 127)) (by simp only[I8,I9,J0];exact rfl) (by kernel_rfl) (by kernel_rfl) (by kernel_rfl) (λ_ _ _ h=>h) (Or.inl ⟨by rfl,?hy6⟩) (by assumption) (by rfl) ?ha6 (by kernel_rfl) ?r6
 case hy6=>intro w AC;go_simp;try with_reducible rfl
 case ha6=>simp only[Act.put,C5,C6,C7];exact rfl
 refine B7 AA.out (i:=7) (d:=(some 10)) (a':= ?a7) (l':=(bt 39 255)) (by simp only[I8,I9,J0];exact rfl) (by kernel_rfl) (by kernel_rfl) (by kernel_rfl) (λ_ _ _ h=>h) (C3 (by rfl) _ _ rfl ⟨hb,3,none⟩ rfl (.int .i64 h.size) (λw' AB=>ld2 (K4 AB 3 (.int .i64 h.size) rfl))) (by assumption) (by rfl) ?ha7 (by kernel_rfl) ?r7
 case ha7=>simp only[Act.put,C5,C6,C7];exact rfl
 refine B7 AA.out (i:=8) (d:=(some 11)) (v:= ?v8) (a':= ?a8) (l':=(bt 39 511)) (by simp only[I8,I9,J0];exact rfl) (by kernel_rfl) (by kernel_rfl) (by kernel_rfl) (λ_ _ _ h=>h) (Or.inl ⟨by rfl,?hy8⟩) (by assumption) (by rfl) ?ha8 (by kernel_rfl) ?r8
 case hy8=>intro w AC;go_simp;try with_reducible rfl
 case ha8=>simp only[Act.put,C5,C6,C7];exact rfl
 refine B7 AA.out (i:=9) (d:=(some 12)) (a':= ?a9) (l':=(bt 39 1023)) (by simp only[I8,I9,J0];exact rfl) (by kernel_rfl) (by kernel_rfl) (by kernel_rfl) (λ_ _ _ h=>h) (C3 (by rfl) _ _ rfl ⟨hb,4,none⟩ rfl (.int .i64 h.mode) (λw' AB=>ld2 (K4 AB 4 (.int .i64 h.mode) rfl))) (by assumption) (by rfl) ?ha9 (by kernel_rfl) ?r9
 case ha9=>simp only[Act.put,C5,C6,C7];exact rfl
 refine B7 AA.out (i:=10) (d:=(some 13)) (v:= ?v10) (a':= ?a10) (l':=(bt 39 2047)) (by simp only[I8,I9,J0];exact rfl) (by kernel_rfl) (by kernel_rfl) (by kernel_rfl) (λ_ _ _ h=>h) (Or.inl ⟨by rfl,?hy10⟩) (by assumption) (by rfl) ?ha10 (by kernel_rfl) ?r10
 case hy10=>intro w AC;go_simp;try with_reducible rfl
 case ha10=>simp only[Act.put,C5,C6,C7];exact rfl
 refine B7 AA.out (i:=11) (d:=(some 14)) (a':= ?a11) (l':=(bt 39 4095)) (by simp only[I8,I9,J0];exact rfl) (by kernel_rfl) (by kernel_rfl) (by kernel_rfl) (λ_ _ _ h=>h) (C3 (by rfl) _ _ rfl ⟨hb,5,none⟩ rfl (.int .i64 h.uid) (λw' AB=>ld3 (K4 AB 5 (.int .i64 h.uid) rfl))) (by assumption) (by rfl) ?ha11 (by kernel_rfl) ?r11
 case ha11=>simp only[Act.put,C5,C6,C7];exact rfl
 refine B7 AA.out (i:=12) (d:=(some 15)) (v:= ?v12) (a':= ?a12) (l':=(bt 39 8191)) (by simp only[I8,I9,J0];exact rfl) (by kernel_rfl) (by kernel_rfl) (by kernel_rfl) (λ_ _ _ h=>h) (Or.inl ⟨by rfl,?hy12⟩) (by assumption) (by rfl) ?ha12 (by kernel_rfl) ?r12
 case hy12=>intro w AC;go_simp;try with_reducible rfl
 case ha12=>simp only[Act.put,C5,C6,C7];exact rfl
 refine B7 AA.out (i:=13) (d:=(some 16)) (a':= ?a13) (l':=(bt 39 16383)) (by simp only[I8,I9,J0];exact rfl) (by kernel_rfl) (by kernel_rfl) (by kernel_rfl) (λ_ _ _ h=>h) (C3 (by rfl) _ _ rfl ⟨hb,6,none⟩ rfl (.int .i64 h.gid) (λw' AB=>ld3 (K4 AB 6 (.int .i64 h.gid) rfl))) (by assumption) (by rfl) ?ha13 (by kernel_rfl) ?r13
 case ha13=>simp only[Act.put,C5,C6,C7];exact rfl
 refine B7 AA.out (i:=14) (d:=(some 17)) (v:= ?v14) (a':= ?a14) (l':=(bt 39 32767)) (by simp only[I8,I9,J0];exact rfl) (by kernel_rfl) (by kernel_rfl) (by kernel_rfl) (λ_ _ _ h=>h) (Or.inl ⟨by rfl,?hy14⟩) (by assumption) (by rfl) ?ha14 (by kernel_rfl) ?r14
 case hy14=>intro w AC;go_simp;try with_reducible rfl
 case ha14=>simp only[Act.put,C5,C6,C7];exact rfl
 refine B7 AA.out (i:=15) (d:=(some 18)) (a':= ?a15) (l':=(bt 39 65535)) (by simp only[I8,I9,J0];exact rfl) (by kernel_rfl) (by kernel_rfl) (by kernel_rfl) (λ_ _ _ h=>h) (C3 (by rfl) _ _ rfl ⟨hb,7,none⟩ rfl (str h.user) (λw' AB=>ld9 (K4 AB 7 (str h.user) rfl))) (by assumption) (by rfl) ?ha15 (by kernel_rfl) ?r15
 case ha15=>simp only[Act.put,C5,C6,C7];exact rfl
 refine B7 AA.out (i:=16) (d:=(some 19)) (v:= ?v16) (a':= ?a16) (l':=(bt 39 131071)) (by simp only[I8,I9,J0];exact rfl) (by kernel_rfl) (by kernel_rfl) (by kernel_rfl) (λ_ _ _ h=>h) (Or.inl ⟨by rfl,?hy16⟩) (by assumption) (by rfl) ?ha16 (by kernel_rfl) ?r16
 case hy16=>intro w AC;go_simp;try with_reducible rfl
 case ha16=>simp only[Act.put,C5,C6,C7];exact rfl
 refine B7 AA.out (i:=17) (d:=(some 20)) (a':= ?a17) (l':=(bt 39 262143)) (by simp only[I8,I9,J0];exact rfl) (by kernel_rfl) (by kernel_rfl) (by kernel_rfl) (λ_ _ _ h=>h) (C3 (by rfl) _ _ rfl ⟨hb,8,none⟩ rfl (str h.group) (λw' AB=>ld9 (K4 AB 8 (str h.group) rfl))) (by assumption) (by rfl) ?ha17 (by kernel_rfl) ?r17
 case ha17=>simp only[Act.put,C5,C6,C7];exact rfl
 refine B7 AA.out (i:=18) (d:=(some 21)) (v:= ?v18) (a':= ?a18) (l':=(bt 39 524287)) (by simp only[I8,I9,J0];exact rfl) (by kernel_rfl) (by kernel_rfl) (by kernel_rfl) (λ_ _ _ h=>h) (Or.inl ⟨by rfl,?hy18⟩) (by assumption) (by rfl) ?ha18 (by kernel_rfl) ?r18
 case hy18=>intro w AC;go_simp;try with_reducible rfl
 case ha18=>simp only[Act.put,C5,C6,C7];exact rfl
 refine B7 AA.out (i:=19) (d:=(some 22)) (a':= ?a19) (l':=(bt 39 1048575)) (by simp only[I8,I9,J0];exact rfl) (by kernel_rfl) (by kernel_rfl) (by kernel_rfl) (λ_ _ _ h=>h) (C3 (by rfl) _ _ rfl ⟨hb,9,none⟩ rfl (.agg #[.int .i64 h.ms,.int .i64 h.mn]) (λw' AB=>B5h (K4 AB 9 (.int .i64 h.ms) rfl) (K4 AB 10 (.int .i64 h.mn) rfl))) (by assumption) (by rfl) ?ha19 (by kernel_rfl) ?r19
 case ha19=>simp only[Act.put,C5,C6,C7];exact rfl
 refine B7 AA.out (i:=20) (d:=(some 23)) (v:= ?v20) (a':= ?a20) (l':=(bt 39 2097151)) (by simp only[I8,I9,J0];exact rfl) (by kernel_rfl) (by kernel_rfl) (by kernel_rfl) (λ_ _ _ h=>h) (Or.inl ⟨by rfl,?hy20⟩) (by assumption) (by rfl) ?ha20 (by kernel_rfl) ?r20
 case hy20=>intro w AC;go_simp;try with_reducible rfl
 case ha20=>simp only[Act.put,C5,C6,C7];exact rfl
 refine B7 AA.out (i:=21) (d:=(some 24)) (a':= ?a21) (l':=(bt 39 4194303)) (by simp only[I8,I9,J0];exact rfl) (by kernel_rfl) (by kernel_rfl) (by kernel_rfl) (λ_ _ _ h=>h) (C3 (by rfl) _ _ rfl ⟨hb,11,none⟩ rfl (.bool h.hasA) (λw' AB=>ld4 (K4 AB 11 (.bool h.hasA) rfl))) (by assumption) (by rfl) ?ha21 (by kernel_rfl) ?r21
 case ha21=>simp only[Act.put,C5,C6,C7];exact rfl
 refine B7 AA.out (i:=22) (d:=(some 25)) (v:= ?v22) (a':= ?a22) (l':=(bt 39 8388607)) (by simp only[I8,I9,J0];exact rfl) (by kernel_rfl) (by kernel_rfl) (by kernel_rfl) (λ_ _ _ h=>h) (Or.inl ⟨by rfl,?hy22⟩) (by assumption) (by rfl) ?ha22 (by kernel_rfl) ?r22
 case hy22=>intro w AC;go_simp;try with_reducible rfl
 case ha22=>simp only[Act.put,C5,C6,C7];exact rfl
 refine B7 AA.out (i:=23) (d:=(some 26)) (a':= ?a23) (l':=(bt 39 16777215)) (by simp only[I8,I9,J0];exact rfl) (by kernel_rfl) (by kernel_rfl) (by kernel_rfl) (λ_ _ _ h=>h) (C3 (by rfl) _ _ rfl ⟨hb,12,none⟩ rfl (.agg #[.int .i64 h.ats,.int .i64 h.atn]) (λw' AB=>B5h (K4 AB 12 (.int .i64 h.ats) rfl) (K4 AB 13 (.int .i64 h.atn) rfl))) (by assumption) (by rfl) ?ha23 (by kernel_rfl) ?r23
 case ha23=>simp only[Act.put,C5,C6,C7];exact rfl
 refine B7 AA.out (i:=24) (d:=(some 27)) (v:= ?v24) (a':= ?a24) (l':=(bt 39 33554431)) (by simp only[I8,I9,J0];exact rfl) (by kernel_rfl) (by kernel_rfl) (by kernel_rfl) (λ_ _ _ h=>h) (Or.inl ⟨by rfl,?hy24⟩) (by assumption) (by rfl) ?ha24 (by kernel_rfl) ?r24
 case hy24=>intro w AC;go_simp;try with_reducible rfl
 case ha24=>simp only[Act.put,C5,C6,C7];exact rfl
 refine B7 AA.out (i:=25) (d:=(some 28)) (a':= ?a25) (l':=(bt 39 67108863)) (by simp only[I8,I9,J0];exact rfl) (by kernel_rfl) (by kernel_rfl) (by kernel_rfl) (λ_ _ _ h=>h) (C3 (by rfl) _ _ rfl ⟨hb,14,none⟩ rfl (.bool h.hasC) (λw' AB=>ld4 (K4 AB 14 (.bool h.hasC) rfl))) (by assumption) (by rfl) ?ha25 (by kernel_rfl) ?r25
 case ha25=>simp only[Act.put,C5,C6,C7];exact rfl
 refine B7 AA.out (i:=26) (d:=(some 29)) (v:= ?v26) (a':= ?a26) (l':=(bt 39 134217727)) (by simp only[I8,I9,J0];exact rfl) (by kernel_rfl) (by kernel_rfl) (by kernel_rfl) (λ_ _ _ h=>h) (Or.inl ⟨by rfl,?hy26⟩) (by assumption) (by rfl) ?ha26 (by kernel_rfl) ?r26
 case hy26=>intro w AC;go_simp;try with_reducible rfl
 case ha26=>simp only[Act.put,C5,C6,C7];exact rfl
 refine B7 AA.out (i:=27) (d:=(some 30)) (a':= ?a27) (l':=(bt 39 268435455)) (by simp only[I8,I9,J0];exact rfl) (by kernel_rfl) (by kernel_rfl) (by kernel_rfl) (λ_ _ _ h=>h) (C3 (by rfl) _ _ rfl ⟨hb,15,none⟩ rfl (.agg #[.int .i64 h.cts,.int .i64 h.ctn]) (λw' AB=>B5h (K4 AB 15 (.int .i64 h.cts) rfl) (K4 AB 16 (.int .i64 h.ctn) rfl))) (by assumption) (by rfl) ?ha27 (by kernel_rfl) ?r27
 case ha27=>simp only[Act.put,C5,C6,C7];exact rfl
 refine B7 AA.out (i:=28) (d:=(some 31)) (v:= ?v28) (a':= ?a28) (l':=(bt 39 536870911)) (by simp only[I8,I9,J0];exact rfl) (by kernel_rfl) (by kernel_rfl) (by kernel_rfl) (λ_ _ _ h=>h) (Or.inl ⟨by rfl,?hy28⟩) (by assumption) (by rfl) ?ha28 (by kernel_rfl) ?r28
 case hy28=>intro w AC;go_simp;try with_reducible rfl
 case ha28=>simp only[Act.put,C5,C6,C7];exact rfl
 refine B7 AA.out (i:=29) (d:=(some 32)) (a':= ?a29) (l':=(bt 39 1073741823)) (by simp only[I8,I9,J0];exact rfl) (by kernel_rfl) (by kernel_rfl) (by kernel_rfl) (λ_ _ _ h=>h) (C3 (by rfl) _ _ rfl ⟨hb,17,none⟩ rfl (.int .i64 h.maj) (λw' AB=>ld2 (K4 AB 17 (.int .i64 h.maj) rfl))) (by assumption) (by rfl) ?ha29 (by kernel_rfl) ?r29
 case ha29=>simp only[Act.put,C5,C6,C7];exact rfl
 refine B7 AA.out (i:=30) (d:=(some 33)) (v:= ?v30) (a':= ?a30) (l':=(bt 39 2147483647)) (by simp only[I8,I9,J0];exact rfl) (by kernel_rfl) (by kernel_rfl) (by kernel_rfl) (λ_ _ _ h=>h) (Or.inl ⟨by rfl,?hy30⟩) (by assumption) (by rfl) ?ha30 (by kernel_rfl) ?r30
 case hy30=>intro w AC;go_simp;try with_reducible rfl
 case ha30=>simp only[Act.put,C5,C6,C7];exact rfl
 refine B7 AA.out (i:=31) (d:=(some 34)) (a':= ?a31) (l':=(bt 39 4294967295)) (by simp only[I8,I9,J0];exact rfl) (by kernel_rfl) (by kernel_rfl) (by kernel_rfl) (λ_ _ _ h=>h) (C3 (by rfl) _ _ rfl ⟨hb,18,none⟩ rfl (.int .i64 h.mnr) (λw' AB=>ld2 (K4 AB 18 (.int .i64 h.mnr) rfl))) (by assumption) (by rfl) ?ha31 (by kernel_rfl) ?r31
 case ha31=>simp only[Act.put,C5,C6,C7];exact rfl
 refine B7 AA.out (i:=32) (d:=(some 35)) (v:= ?v32) (a':= ?a32) (l':=(bt 39 8589934591)) (by simp only[I8,I9,J0];exact rfl) (by kernel_rfl) (by kernel_rfl) (by kernel_rfl) (λ_ _ _ h=>h) (Or.inl ⟨by rfl,?hy32⟩) (by assumption) (by rfl) ?ha32 (by kernel_rfl) ?r32
 case hy32=>intro w AC;go_simp;try with_reducible rfl
 case ha32=>simp only[Act.put,C5,C6,C7];exact rfl
 refine B7 AA.out (i:=33) (d:=(some 36)) (a':= ?a33) (l':=(bt 39 17179869183)) (by simp only[I8,I9,J0];exact rfl) (by kernel_rfl) (by kernel_rfl) (by kernel_rfl) (λ_ _ _ h=>h) (C3 (by rfl) _ _ rfl ⟨hb,19,none⟩ rfl (h.recs) (λw' AB=>B8d (K4 AB 19 (h.recs) rfl))) (by assumption) (by rfl) ?ha33 (by kernel_rfl) ?r33
 case ha33=>simp only[Act.put,C5,C6,C7];exact rfl
 refine B7 AA.out (i:=35) (d:=(some 38)) (v:= ?v35) (a':= ?a35) (l':=(bt 39 51539607551)) (by simp only[I8,I9,J0];exact rfl) (by kernel_rfl) (by kernel_rfl) (by kernel_rfl) (λ_ _ _ h=>h) (Or.inl ⟨by rfl,?hy35⟩) (by assumption) (by rfl) ?ha35 (by kernel_rfl) ?r35
 case hy35=>intro w AC;go_simp;try with_reducible rfl
 case ha35=>simp only[Act.put,C5,C6,C7];exact rfl
 refine B7 AA.out (i:=36) (d:=(some 39)) (a':= ?a36) (l':=(bt 39 120259084287)) (by simp only[I8,I9,J0];exact rfl) (by kernel_rfl) (by kernel_rfl) (by kernel_rfl) (λ_ _ _ h=>h) (C3 (by rfl) _ _ rfl ⟨hb,20,none⟩ rfl (.int .i64 h.fmt) (λw' AB=>ld3 (K4 AB 20 (.int .i64 h.fmt) rfl))) (by assumption) (by rfl) ?ha36 (by kernel_rfl) ?r36
 case ha36=>simp only[Act.put,C5,C6,C7];exact rfl
 refine wpAnyH_ready (rs:=[34]) (by rw[AA.out];kernel_rfl) (by simp) ?_;refine D5 AA.out (l':=(bt 39 137438953471)) (by simp only[I8,I9,J0];exact rfl) (by kernel_rfl) (λK hK=> ?_) AllReadyH.nil;go_simp
 go_at_call 28
 refine(Ah.out _ AJ.out).mono ?_;rintro e u1 ⟨rv,rfl,AI,AY,ha1,AH⟩;obtain⟨pp,cc,rfl,AW⟩:=AI;have AI:N5 u1 (.slice pp L.length cc) L:=⟨pp,cc,rfl,AW⟩;clear AW;have Ab:=A0 (AJ.out.trans (AH.mono AJ.out.size));have AR:=A0 ((AH.block hb (A8 AM.out)).trans AM.out);have Ai:=A0 ((AH.block rb (A8 AG.out)).trans AG.out);have Af:=A0 AI;have AS:=A0 AY;have Aa:=A0 ha1;refine hK.out _ _ AR.out (λhHeld=> ?_);clear hK K AH AI AY ha1;try simp only[Act.put,C5,C6,C7]
 refine B7 AA.out (i:=37) (d:=(some 40)) (v:= ?v37) (a':= ?a37) (l':=(bt 39 274877906943)) (by simp only[I8,I9,J0];exact rfl) (by kernel_rfl) (by kernel_rfl) (by kernel_rfl) (λ_ _ _ h=>h) (Or.inl ⟨by rfl,?hy37⟩) (by assumption) (by rfl) ?ha37 (by kernel_rfl) ?r37
 case hy37=>intro w AC;go_simp;try with_reducible rfl
 case ha37=>simp only[Act.put,C5,C6,C7];exact rfl
 refine wpAnyH_ready (rs:=[38]) (by rw[AA.out];kernel_rfl) (by simp) ?_;refine D5 AA.out (l':=(bt 39 549755813887)) (by simp only[I8,I9,J0];exact rfl) (by kernel_rfl) (λK hK=> ?_) AllReadyH.nil;obtain⟨w3,AZ,hg,ho,hz,-⟩:=A1X ({h with recs:= .slice pp L.length cc}:IH) AS.out.1 rfl Ai.out;refine O3 rfl 31 _ _ rfl ⟨rb,0,none⟩ rfl _ rfl w3 AZ ?_;have Ac:=A0 ((ho hb Ae.out).trans AR.out);refine hK.out _ _ Ac.out (λhHeld=> ?_);clear hK K;refine wpAnyH_done (by rw[AA.out];kernel_rfl) ?_ _;refine Ad.out _ _ ?_
 have AD:A7O h L w (.returned (.agg ({h with recs:= .slice pp L.length cc}:IH).scells.toArray)) w3:=by
  refine⟨_,rfl,?_,AS.out,hz _ _ Ab.out (by rw[Ag.out];omega)⟩;obtain⟨p,c,hv,hc⟩:=Af.out;refine⟨p,c,hv,λj hj=> ?_⟩;obtain⟨rg,ro,rfl,h2,h3,h4⟩:=hc j hj
  have AP:rg≠rb:=by
   have:=Aa.out _ _ _ hv;have:=A8 AG.out;intro e;simp only at*;omega
  refine⟨rg,ro,rfl,?_,?_,?_⟩
  ·have h5:w3.heap[rg]?=u1.heap[rg]?:=ho rg AP
   rw[Array.getElem?_eq_getElem h2] at h5;exact A8 h5
  ·rw[World.cell?_of_block (w:=u1) (a:=⟨rg,ro+j*2,none⟩) (ho rg AP)];exact h3
  ·rw[World.cell?_of_block (w:=u1) (a:=⟨rg,ro+j*2+1,none⟩) (ho rg AP)];exact h4
 have HF:=A0 AD;have HG:=A0 hg;clear AZ hg ho hz AD;go_wp2_with fail
 exact B0I rb _ rfl w3 rfl rfl rfl HG.out HF.out
end Go.Proofs.YtkanmkcojlefbaaGreatDoor
namespace Go.Proofs.YtkanmkcojlefbaaGreatDoor
open Go.RowKit
variable {c0 c1 c2 c3 c4 c5 c6 c7 c8 c9 gH gI gJ gK gL gM gN gO gP gG c20 c21 gQ gR gT gU gW gX gY gZ hJ hZ iA iB iC iD iE c37 iF iG iH iI iJ iK iL iM c46 iN iO iP iQ c51 iR c53 iS iT iU iV iW iX iY iZ jA jB jC jD jE jF jG jH jI jJ jK jL jM c75 jN jO jP jQ c80 jR jS jT jU c85 jV jW jX jY jZ kA kB kC kD kE kF kG kH kI aA aB aC aD aF aG aH aI aJ aK aL aM aN aO aP aQ aR aS aT aU aV aW aX aY aZ bB bC c127 bD bE bF bG bH bI bJ bK bL bM bN bO bP bQ bR c143 bS c145 bT bU bV bW bX bY bZ cA cB cC cD cE cF cG cH cI cJ cL cM cO cP c167 c168 cQ cS c171 cT c173 cU c175 cV cW cX cY cZ dA dB dC dD dE dF dG dH dI dJ dL dM dO dP dQ dR dS dT dU dV dW dX dY dZ eA eC eD eH eJ c210 eK c212 c213 eO eR eS eV eW eX eY eZ fA fB fC fD fE fH fI fJ fK fL c232 c233 fN fO fP fQ fR fS fT fU fV fW fX fY fZ gA gB gC gD gE gF:Value}
noncomputable def B4O:Code:=I2 12 (Tryz.f27.body.getD .skip)
noncomputable def B4P:Code:=I2 13 (Tryz.f27.body.getD .skip)
noncomputable def B4Q:Code:=I2 14 (Tryz.f27.body.getD .skip)
noncomputable def B4R:Code:=I2 15 (Tryz.f27.body.getD .skip)
noncomputable def B4S:Code:=I2 17 (Tryz.f27.body.getD .skip)
noncomputable def B4T:Code:=I2 19 (Tryz.f27.body.getD .skip)
noncomputable def B4U:Code:=I2 21 (Tryz.f27.body.getD .skip)
noncomputable def B4V:Code:=I2 23 (Tryz.f27.body.getD .skip)
noncomputable def B4W:Code:=I2 25 (Tryz.f27.body.getD .skip)
def B6k (L:List (List UInt8×List UInt8)):Prop:=∀r∈L,A2r r.1 r.2
def B6j (L:List (List UInt8×List UInt8)) (f:Int):Prop:=(L≠ []->f=2)/\B6k L
def B6i (h:IH) (L:List (List UInt8×List UInt8)) (f:Int):Prop:=(h.hasC=true->M1 h.cts h.ctn f)/\B6j L f
def B6h (h:IH) (L:List (List UInt8×List UInt8)) (f:Int):Prop:=(h.hasA=true->M1 h.ats h.atn f)/\B6i h L f
def tri (v:Int):Prop:=v=0\/v=1\/v=2
structure CS (hb:Nat) (h:IH) (L:List (List UInt8×List UInt8)) (w0 w:World):Prop where
 S:SB hb h w
 B:Below w0.heap.size w0 w
 h0:w0.heap.size<=hb
 R:N5 w0 h.recs L
 RL:∀r∈L,r.1.length<4611686018427387904/\r.2.length<4611686018427387904
 RN:L.length<4611686018427387904
theorem CS.below {hb:Nat} {h:IH} {L:List (List UInt8×List UInt8)} {w0 w w':World} (k:CS hb h L w0 w) (f:Below w.heap.size w w'):CS hb h L w0 w':=⟨k.S.below f (A8 k.S),k.B.trans (f.mono k.B.size),k.h0,k.R,k.RL,k.RN⟩
theorem CS.alloc {hb:Nat} {h:IH} {L:List (List UInt8×List UInt8)} {w0 w w':World} (k:CS hb h L w0 w) (o:Obj) (f:Below (w.alloc o).heap.size (w.alloc o) w'):CS hb h L w0 w':=(k.below ((Below.refl _ w).alloc (Nat.le_refl _) o)).below f
theorem A1Y {v m:Int} (h1:tri v) (h2:tri m):∀x∈[v,m],x=0\/x=1\/x=2:=by
 intro x hx;simp at hx;rcases hx with rfl|rfl<;>assumption
theorem B1y (f:Int) (h:IH) (L:List (List UInt8×List UInt8)) (hb:Nat) (v v4:Int) (w w0:World) (K:CS hb h L w0 w) (hv:tri v) (P:Prop) (hP:v=1->B6k L->P):
  Code.wp Tryz.prog B4W (bodyPost Tryz.prog Tryz.f27 (P9 P w0)) ⟨(c0::.int .i64 f::.pointer (some ⟨hb,0,none⟩)::c3::.int .i64 v4::.int .i64 v::c6::c7::c8::c9::gH::gI::gJ::gK::gL::gM::gN::gO::gP::gG::c20::c21::gQ::gR::gT::gU::gW::gX::gY::gZ::hJ::hZ::iA::iB::iC::iD::iE::c37::iF::iG::iH::iI::iJ::iK::iL::iM::c46::iN::iO::iP::iQ::c51::iR::c53::iS::iT::iU::iV::iW::iX::iY::iZ::jA::jB::jC::jD::jE::jF::jG::jH::jI::jJ::jK::jL::jM::c75::jN::jO::jP::jQ::c80::jR::jS::jT::jU::c85::jV::jW::jX::jY::jZ::kA::kB::kC::kD::kE::kF::kG::kH::kI::aA::aB::aC::aD::aF::aG::aH::aI::aJ::aK::aL::aM::aN::aO::aP::aQ::aR::aS::aT::aU::aV::aW::aX::aY::aZ::bB::bC::c127::bD::bE::bF::bG::bH::bI::bJ::bK::bL::bM::bN::bO::bP::bQ::bR::c143::bS::c145::bT::bU::bV::bW::bX::bY::bZ::cA::cB::cC::cD::cE::cF::cG::cH::cI::cJ::cL::cM::cO::cP::c167::c168::cQ::cS::c171::cT::c173::cU::c175::cV::cW::cX::cY::cZ::dA::dB::dC::dD::dE::dF::dG::dH::dI::dJ::dL::dM::dO::dP::dQ::dR::dS::dT::dU::dV::dW::dX::dY::dZ::eA::eC::eD::eH::eJ::c210::eK::c212::c213::eO::eR::eS::eV::eW::eX::eY::eZ::fA::fB::fC::fD::fE::fH::fI::fJ::fK::fL::c232::c233::fN::fO::fP::fQ::fR::fS::fT::fU::fV::fW::fX::fY::fZ::gA::gB::gC::gD::gE::gF::[]).toArray,[]⟩ w:=by
 conv=>arg 2;whnf
 have HK:=A0 K;have HP:=A0 hP;have HV:=A0 hv;clear K hP hv;obtain⟨p,c,hr,AJ⟩:=HK.out.R;have gG:=HK.out.S.cell 19 (.slice p L.length c) (by rw[<-hr];rfl);have AC:=A0 AJ;have AT:=HK.out.RN;clear AJ hr;go_wp2_with fail
 go_loopw [242,5] (λs242 s5 wr=>∃ (k:Nat) (u:Int),s242= .int .i64 k/\s5= .int .i64 u/\k<=L.length/\Hid (CS hb h L w0 wr/\tri u/\(u=1->v=1/\∀ (j:Nat) (hj:j<L.length),j<k->A2r L[j].1 L[j].2))) (λs242 _ _=>L.length- (intOf s242).toNat)
 case atStart=>exact⟨0,v,rfl,rfl,Nat.zero_le _,A0 ⟨HK.out,HV.out,λe=>⟨e,λj _ hj=>absurd hj (Nat.not_lt_zero _)⟩⟩⟩
 case round=>
  obtain⟨k,u,rfl,rfl,hk,HS⟩:=hrel;clear gG;by_cases AL:k<L.length
  ·have AA: (k:Int)<L.length:=by omega
   obtain⟨rg,ro,rfl,AO,k1,k2⟩:=AC.out k AL;have ck:wr.cell? ⟨rg,ro+k*2,none⟩=some (str L[k].1):=(HS.out.1.B.cell (p:=⟨rg,ro+k*2,none⟩) AO).trans k1;have cv:wr.cell? ⟨rg,ro+k*2+1,none⟩=some (str L[k].2):=(HS.out.1.B.cell (p:=⟨rg,ro+k*2+1,none⟩) AO).trans k2;have AE:=A0 (HK.out.RL L[k] (List.getElem_mem AL))
   have AG:Hid (∀ (u2:Int) (w2:World),CS hb h L w0 w2->tri u2->(u2=1->u=1/\A2r L[k].1 L[k].2)->CS hb h L w0 w2/\tri u2/\(u2=1->v=1/\∀ (j:Nat) (hj:j<L.length),j<k+1->A2r L[j].1 L[j].2)):=A0 λu2 w2 q1 q2 q3=>⟨q1,q2,λe=>by
    obtain⟨e1,e2⟩:=q3 e;obtain⟨e3,e4⟩:=HS.out.2.2 e1;refine⟨e3,λj hj AU=> ?_⟩;by_cases AS:j<k
    ·exact e4 j hj AS
    ·obtain rfl:j=k:=by omega
     exact e2⟩
   clear k1 k2;generalize L[k].1=kk at*;generalize L[k].2=vv at*;have HU:=A0 HS.out.2.1;go_wp2_with fail
   refine(A8R kk vv _ AE.out.1 AE.out.2).mono ?_;rintro e w1 ⟨x,rfl,AH,hx,AM⟩;have AD:=A0 (HS.out.1.alloc _ AH);have HX:=A0 hx;have AR:=A0 AM;clear AH hx AM ck cv;go_wp2_with fail
   refine(M8 [u,x] w1.heap.size 2 _ (O5 w1 [.int .i64 u,.int .i64 x] 3) (A1Y HU.out HX.out) (by simp)).mono ?_;rintro e w2 ⟨u2,rfl,AI,AP,AB⟩;have AQ:=A0 (AG.out u2 w2 (AD.out.alloc _ AI) AP (λe=>⟨AB e u (by simp),AR.out (AB e x (by simp))⟩));clear AI AP AB AG HS AD;go_wp2_with fail
   go_roundw
   case rel=>exact⟨k+1,u2,by go_num,rfl,by omega,AQ⟩
   case measure=>simp[intOf];omega
  ·have AA:¬(k:Int)<L.length:=by omega
   obtain⟨q1,q2,q3⟩:=HS.out
   have HF:Hid (u=1->P):=A0 λe=>HP.out (q3 e).1 (λr hr=>by
    obtain⟨j,hj,e2⟩:=List.getElem_of_mem hr;rw[<-e2];exact(q3 e).2 j hj (by omega))
   have HB:=A0 q1.B;have HT:=A0 q2;clear q1 q2 q3 HS HK HP HV AC;go_wp2_with fail
   go_ret
   exact⟨u,rfl,HB.out,HT.out,HF.out⟩
theorem B4t (f:Int) (h:IH) (L:List (List UInt8×List UInt8)) (hb:Nat) (v v4:Int) (w w0:World) (K:CS hb h L w0 w) (hv:tri v) (P:Prop) (hP:v=1->B6j L f->P):
  Code.wp Tryz.prog B4V (bodyPost Tryz.prog Tryz.f27 (P9 P w0)) ⟨(c0::.int .i64 f::.pointer (some ⟨hb,0,none⟩)::c3::.int .i64 v4::.int .i64 v::c6::c7::c8::c9::gH::gI::gJ::gK::gL::gM::gN::gO::gP::gG::c20::c21::gQ::gR::gT::gU::gW::gX::gY::gZ::hJ::hZ::iA::iB::iC::iD::iE::c37::iF::iG::iH::iI::iJ::iK::iL::iM::c46::iN::iO::iP::iQ::c51::iR::c53::iS::iT::iU::iV::iW::iX::iY::iZ::jA::jB::jC::jD::jE::jF::jG::jH::jI::jJ::jK::jL::jM::c75::jN::jO::jP::jQ::c80::jR::jS::jT::jU::c85::jV::jW::jX::jY::jZ::kA::kB::kC::kD::kE::kF::kG::kH::kI::aA::aB::aC::aD::aF::aG::aH::aI::aJ::aK::aL::aM::aN::aO::aP::aQ::aR::aS::aT::aU::aV::aW::aX::aY::aZ::bB::bC::c127::bD::bE::bF::bG::bH::bI::bJ::bK::bL::bM::bN::bO::bP::bQ::bR::c143::bS::c145::bT::bU::bV::bW::bX::bY::bZ::cA::cB::cC::cD::cE::cF::cG::cH::cI::cJ::cL::cM::cO::cP::c167::c168::cQ::cS::c171::cT::c173::cU::c175::cV::cW::cX::cY::cZ::dA::dB::dC::dD::dE::dF::dG::dH::dI::dJ::dL::dM::dO::dP::dQ::dR::dS::dT::dU::dV::dW::dX::dY::dZ::eA::eC::eD::eH::eJ::c210::eK::c212::c213::eO::eR::eS::eV::eW::eX::eY::eZ::fA::fB::fC::fD::fE::fH::fI::fJ::fK::fL::c232::c233::fN::fO::fP::fQ::fR::fS::fT::fU::fV::fW::fX::fY::fZ::gA::gB::gC::gD::gE::gF::[]).toArray,[]⟩ w:=by
 conv=>arg 2;whnf
 have HK:=A0 K;have HP:=A0 hP;have HV:=A0 hv;clear K hP hv;obtain⟨p,c,hr,AM⟩:=HK.out.R;have gG:=HK.out.S.cell 19 (.slice p L.length c) (by rw[<-hr];rfl);clear hr AM;by_cases hn:0<L.length
 ·have AO: (0:Int)<L.length:=by omega
  by_cases h2:f=2
  ·have HF:Hid (L≠ []->f=2):=A0 λ_=>h2
   have AJ: (f==2)=true:=by rw[h2];rfl
   have AL: (f !=2)=false:=by rw[h2];rfl
   clear h2;refine wp_seq_k (λK1 AA=> ?_);have AB:=A0 AA;clear AA;go_wp2_with fail
   refine AB.out _ _ ?_;exact B1y f h L hb v v4 w w0 HK.out HV.out P (λe k=>HP.out e ⟨HF.out,k⟩)
  ·have AJ: (f==2)=false:=by simpa using h2
   have AL: (f !=2)=true:=by simpa using h2
   clear h2;refine wp_seq_k (λK1 AA=> ?_);have AB:=A0 AA;clear AA;go_wp2_with fail
   refine(M8 [v,2] w.heap.size 2 _ (O5 w [.int .i64 v,.int .i64 2] 3) (A1Y HV.out (.inr (.inr rfl))) (by simp)).mono ?_;rintro e w2 ⟨v2,rfl,AC,AE,AD⟩;have AG:=A0 (HK.out.alloc _ AC);have AI:=A0 AE;have AH:=A0 AD;clear AC AE AD;go_wp2_with fail
   refine AB.out _ _ ?_;exact B1y f h L hb v2 v4 w2 w0 AG.out AI.out P (λe _=>absurd (AH.out e 2 (by simp)) (by decide))
 ·have AO:¬(0:Int)<L.length:=by omega
  have HF:Hid (L≠ []->f=2):=A0 λAP=>absurd (List.length_pos_iff.2 AP) hn;refine wp_seq_k (λK1 AA=> ?_);have AB:=A0 AA;clear AA;go_wp2_with fail
  refine AB.out _ _ ?_;exact B1y f h L hb v v4 w w0 HK.out HV.out P (λe k=>HP.out e ⟨HF.out,k⟩)
theorem B4s (f:Int) (h:IH) (L:List (List UInt8×List UInt8)) (hb:Nat) (v v4:Int) (w w0:World) (K:CS hb h L w0 w) (hv:tri v) (P:Prop) (hP:v=1->B6i h L f->P):
  Code.wp Tryz.prog B4U (bodyPost Tryz.prog Tryz.f27 (P9 P w0)) ⟨(c0::.int .i64 f::.pointer (some ⟨hb,0,none⟩)::c3::.int .i64 v4::.int .i64 v::c6::c7::c8::c9::gH::gI::gJ::gK::gL::gM::gN::gO::gP::gG::c20::c21::gQ::gR::gT::gU::gW::gX::gY::gZ::hJ::hZ::iA::iB::iC::iD::iE::c37::iF::iG::iH::iI::iJ::iK::iL::iM::c46::iN::iO::iP::iQ::c51::iR::c53::iS::iT::iU::iV::iW::iX::iY::iZ::jA::jB::jC::jD::jE::jF::jG::jH::jI::jJ::jK::jL::jM::c75::jN::jO::jP::jQ::c80::jR::jS::jT::jU::c85::jV::jW::jX::jY::jZ::kA::kB::kC::kD::kE::kF::kG::kH::kI::aA::aB::aC::aD::aF::aG::aH::aI::aJ::aK::aL::aM::aN::aO::aP::aQ::aR::aS::aT::aU::aV::aW::aX::aY::aZ::bB::bC::c127::bD::bE::bF::bG::bH::bI::bJ::bK::bL::bM::bN::bO::bP::bQ::bR::c143::bS::c145::bT::bU::bV::bW::bX::bY::bZ::cA::cB::cC::cD::cE::cF::cG::cH::cI::cJ::cL::cM::cO::cP::c167::c168::cQ::cS::c171::cT::c173::cU::c175::cV::cW::cX::cY::cZ::dA::dB::dC::dD::dE::dF::dG::dH::dI::dJ::dL::dM::dO::dP::dQ::dR::dS::dT::dU::dV::dW::dX::dY::dZ::eA::eC::eD::eH::eJ::c210::eK::c212::c213::eO::eR::eS::eV::eW::eX::eY::eZ::fA::fB::fC::fD::fE::fH::fI::fJ::fK::fL::c232::c233::fN::fO::fP::fQ::fR::fS::fT::fU::fV::fW::fX::fY::fZ::gA::gB::gC::gD::gE::gF::[]).toArray,[]⟩ w:=by
 conv=>arg 2;whnf
 have HK:=A0 K;have HP:=A0 hP;have HV:=A0 hv;clear K hP hv;cases hc:h.hasC with
 |false=>
  have c1:=HK.out.S.cell 12 (.bool false) (by rw[<-hc];rfl);have HC:=A0 hc;clear hc;refine wp_seq_k (λK1 AA=> ?_);have AB:=A0 AA;clear AA;go_wp2_with fail
  refine AB.out _ _ ?_;exact B4t f h L hb v v4 w w0 HK.out HV.out P (λe k=>HP.out e ⟨λe=>(by rw[HC.out] at e;cases e),k⟩)
 |true=>
  have c1:=HK.out.S.cell 12 (.bool true) (by rw[<-hc];rfl);have c2:=HK.out.S.cell 15 (.int .i64 h.cts) rfl;have c3:=HK.out.S.cell 16 (.int .i64 h.ctn) rfl;have HC:=A0 hc;clear hc;refine wp_seq_k (λK1 AA=> ?_);have AB:=A0 AA;clear AA;go_wp2_with fail
  refine(W2 h.cts h.ctn f w).mono ?_;rintro e w1 ⟨m,rfl,AD,hm,AG⟩;have AJ:=A0 (HK.out.below AD);have HM:=A0 hm;have AM:=A0 AG;clear AD hm AG c1 c2 c3;go_wp2_with fail
  refine(M8 [v,m] w1.heap.size 2 _ (O5 w1 [.int .i64 v,.int .i64 m] 3) (A1Y HV.out HM.out) (by simp)).mono ?_;rintro e w2 ⟨v2,rfl,AE,AI,AH⟩;have AL:=A0 (AJ.out.alloc _ AE);have AO:=A0 AI;have AC:=A0 AH;clear AE AI AH;go_wp2_with fail
  refine AB.out _ _ ?_;exact B4t f h L hb v2 v4 w2 w0 AL.out AO.out P (λe k=>HP.out (AC.out e v (by simp)) ⟨λ_=>AM.out (AC.out e m (by simp)),k⟩)
theorem A7a (f:Int) (h:IH) (L:List (List UInt8×List UInt8)) (hb:Nat) (v v4:Int) (w w0:World) (K:CS hb h L w0 w) (hv:tri v) (P:Prop) (hP:v=1->B6h h L f->P):
  Code.wp Tryz.prog B4T (bodyPost Tryz.prog Tryz.f27 (P9 P w0)) ⟨(c0::.int .i64 f::.pointer (some ⟨hb,0,none⟩)::c3::.int .i64 v4::.int .i64 v::c6::c7::c8::c9::gH::gI::gJ::gK::gL::gM::gN::gO::gP::gG::c20::c21::gQ::gR::gT::gU::gW::gX::gY::gZ::hJ::hZ::iA::iB::iC::iD::iE::c37::iF::iG::iH::iI::iJ::iK::iL::iM::c46::iN::iO::iP::iQ::c51::iR::c53::iS::iT::iU::iV::iW::iX::iY::iZ::jA::jB::jC::jD::jE::jF::jG::jH::jI::jJ::jK::jL::jM::c75::jN::jO::jP::jQ::c80::jR::jS::jT::jU::c85::jV::jW::jX::jY::jZ::kA::kB::kC::kD::kE::kF::kG::kH::kI::aA::aB::aC::aD::aF::aG::aH::aI::aJ::aK::aL::aM::aN::aO::aP::aQ::aR::aS::aT::aU::aV::aW::aX::aY::aZ::bB::bC::c127::bD::bE::bF::bG::bH::bI::bJ::bK::bL::bM::bN::bO::bP::bQ::bR::c143::bS::c145::bT::bU::bV::bW::bX::bY::bZ::cA::cB::cC::cD::cE::cF::cG::cH::cI::cJ::cL::cM::cO::cP::c167::c168::cQ::cS::c171::cT::c173::cU::c175::cV::cW::cX::cY::cZ::dA::dB::dC::dD::dE::dF::dG::dH::dI::dJ::dL::dM::dO::dP::dQ::dR::dS::dT::dU::dV::dW::dX::dY::dZ::eA::eC::eD::eH::eJ::c210::eK::c212::c213::eO::eR::eS::eV::eW::eX::eY::eZ::fA::fB::fC::fD::fE::fH::fI::fJ::fK::fL::c232::c233::fN::fO::fP::fQ::fR::fS::fT::fU::fV::fW::fX::fY::fZ::gA::gB::gC::gD::gE::gF::[]).toArray,[]⟩ w:=by
 conv=>arg 2;whnf
 have HK:=A0 K;have HP:=A0 hP;have HV:=A0 hv;clear K hP hv;cases hc:h.hasA with
 |false=>
  have c1:=HK.out.S.cell 11 (.bool false) (by rw[<-hc];rfl);have HC:=A0 hc;clear hc;refine wp_seq_k (λK1 AA=> ?_);have AB:=A0 AA;clear AA;go_wp2_with fail
  refine AB.out _ _ ?_;exact B4s f h L hb v v4 w w0 HK.out HV.out P (λe k=>HP.out e ⟨λe=>(by rw[HC.out] at e;cases e),k⟩)
 |true=>
  have c1:=HK.out.S.cell 11 (.bool true) (by rw[<-hc];rfl);have c2:=HK.out.S.cell 13 (.int .i64 h.ats) rfl;have c3:=HK.out.S.cell 14 (.int .i64 h.atn) rfl;have HC:=A0 hc;clear hc;refine wp_seq_k (λK1 AA=> ?_);have AB:=A0 AA;clear AA;go_wp2_with fail
  refine(W2 h.ats h.atn f w).mono ?_;rintro e w1 ⟨m,rfl,AD,hm,AG⟩;have AJ:=A0 (HK.out.below AD);have HM:=A0 hm;have AM:=A0 AG;clear AD hm AG c1 c2 c3;go_wp2_with fail
  refine(M8 [v,m] w1.heap.size 2 _ (O5 w1 [.int .i64 v,.int .i64 m] 3) (A1Y HV.out HM.out) (by simp)).mono ?_;rintro e w2 ⟨v2,rfl,AE,AI,AH⟩;have AL:=A0 (AJ.out.alloc _ AE);have AO:=A0 AI;have AC:=A0 AH;clear AE AI AH;go_wp2_with fail
  refine AB.out _ _ ?_;exact B4s f h L hb v2 v4 w2 w0 AL.out AO.out P (λe k=>HP.out (AC.out e v (by simp)) ⟨λ_=>AM.out (AC.out e m (by simp)),k⟩)
end Go.Proofs.YtkanmkcojlefbaaGreatDoor
