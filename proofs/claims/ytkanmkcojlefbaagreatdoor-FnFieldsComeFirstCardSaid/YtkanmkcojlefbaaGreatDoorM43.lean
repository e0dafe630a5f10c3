/-
  Part of the proof; holds the texts HOf3.
-/
import Derived.Test.YtkanmkcojlefbaaGreatDoorM42
set_option maxRecDepth 100000
set_option linter.unusedSimpArgs false
set_option linter.unusedVariables false
namespace Go.Proofs.YtkanmkcojlefbaaGreatDoor
open Go.RowKit
set_option maxHeartbeats 16000000 in
theorem headerOf (w : World) (hb : Nat) (H : Hd) (R : KV) (hin : H.InO) (hh : w.heap[hb]? = some (.cells H.cells.toArray 130 (0,0))) (hrm : RecMap w H.recs R w.heap.size) :
    Calls Tryz.prog 38 #[.pointer (some ⟨hb,0,none⟩)] w (HdOut H R w) := by
  have HT := Lib.hid (fun wx => timeOf wx H.mw H.mx hin.mw.1 hin.mw.2 hin.mx)
  have HZA := Lib.hid (fun wx => tIsZero wx H.aw H.ax); have HZC := Lib.hid (fun wx => tIsZero wx H.cw H.cx)
  have HFO := Lib.hid (fun wx => formatOfB wx H.fmt hin.fmt)
  have HH := Lib.hid hh; have HIN := Lib.hid hin; have HRM := Lib.hid hrm
  have HRR : Hid (∀ e w',HdOut H R w e w' → HdOut H R w e w') := Lib.hid (fun _ _ h => h)
  clear hh hin hrm
  go_enter Tryz.func38,Tryz.ntmps38
  go_upto_region 2 with fail
  rename_i K1 hK1
  have HK1 := Lib.hid hK1
  clear hK1
  obtain ⟨w1,hw1⟩ : ∃ w1,w1 = (w.alloc (.cells #[.int .u8 0,.string { data := #[] },.string { data := #[] },.int .i64 0,.int .i64 0,.int .i64 0,.int .i64 0,.string { data := #[] },.string { data := #[] },.int .i64 0,.int .i64 0,.bool false,.int .i64 0,.int .i64 0,.bool false,.int .i64 0,.int .i64 0,.int .i64 0,.int .i64 0,.slice none 0 0,.int .i64 0] 26)) := ⟨_,rfl⟩
  rw [← hw1]
  have hB1 : Below w.heap.size w w1 := by rw [hw1]; exact (Below.refl _ _).alloc (Nat.le_refl _) _
  have hlt := lt_of_heap HH.out
  have HH1 := Lib.hid ((hB1.block hb hlt).trans HH.out)
  have HB1 := Lib.hid hB1
  have HG1 : Hid (w1.heap[w.heap.size]? = some (.cells #[.int .u8 0,.string { data := #[] },.string { data := #[] },.int .i64 0,.int .i64 0,.int .i64 0,.int .i64 0,.string { data := #[] },.string { data := #[] },.int .i64 0,.int .i64 0,.bool false,.int .i64 0,.int .i64 0,.bool false,.int .i64 0,.int .i64 0,.int .i64 0,.int .i64 0,.slice none 0 0,.int .i64 0] 26 (0,0))) := by rw [hw1]; exact Lib.hid (heap_alloc_new _ _)
  have HBD := Lib.hid HB1.out.drew
  have HHD : Hid (w1.drew.heap[hb]? = some (.cells H.cells.toArray 130 (0,0))) := HH1.out
  have HGD : Hid (w1.drew.heap[w.heap.size]? = some (.cells #[.int .u8 0,.string { data := #[] },.string { data := #[] },.int .i64 0,.int .i64 0,.int .i64 0,.int .i64 0,.string { data := #[] },.string { data := #[] },.int .i64 0,.int .i64 0,.bool false,.int .i64 0,.int .i64 0,.bool false,.int .i64 0,.int .i64 0,.int .i64 0,.int .i64 0,.slice none 0 0,.int .i64 0] 26 (0,0))) := HG1.out
  clear hw1 hB1 HH
  dsimp only [List.append]
  refine region_named (S := fun w' => w'.heap[hb]? = some (.cells H.cells.toArray 130 (0,0))) (n := 69) (l0 := (bt 69 0)) (by kernel_rfl) rfl (by kernel_rfl) HH1.out (fun ops HOPS hHeld => ?_)
  clear HB1 HH1 HG1
  generalize w1.drew = v1 at *
  refine take_named HOPS.out (i := 0) (d := (some 10)) (v := ?v0) (a' := ?a0) (l' := (bt 69 1)) (by simp only [ga1,ga2,ga3]; exact rfl) (by kernel_rfl) (by kernel_rfl) (by kernel_rfl) (fun _ _ _ h => h) (Or.inl ⟨by rfl,?hy0⟩) (by assumption) (by rfl) ?ha0 (by kernel_rfl) ?r0
  case hy0 => intro w hSw; go_simp; try with_reducible rfl
  case ha0 => simp only [Act.put,sa1,sa2,sa3]; exact rfl
  refine take_named HOPS.out (i := 1) (d := (some 11)) (v := ?v1) (a' := ?a1) (l' := (bt 69 3)) (by simp only [ga1,ga2,ga3]; exact rfl) (by kernel_rfl) (by kernel_rfl) (by kernel_rfl) (fun _ _ _ h => h) (Or.inl ⟨by rfl,?hy1⟩) (by assumption) (by rfl) ?ha1 (by kernel_rfl) ?r1
  case hy1 => intro w hSw; go_simp; try with_reducible rfl
  case ha1 => simp only [Act.put,sa1,sa2,sa3]; exact rfl
  refine take_named HOPS.out (i := 2) (d := (some 12)) (v := ?v2) (a' := ?a2) (l' := (bt 69 7)) (by simp only [ga1,ga2,ga3]; exact rfl) (by kernel_rfl) (by kernel_rfl) (by kernel_rfl) (fun _ _ _ h => h) (Or.inl ⟨by rfl,?hy2⟩) (by assumption) (by rfl) ?ha2 (by kernel_rfl) ?r2
  case hy2 => intro w hSw; go_simp; try with_reducible rfl
  case ha2 => simp only [Act.put,sa1,sa2,sa3]; exact rfl
  refine take_named HOPS.out (i := 3) (d := (some 13)) (a' := ?a3) (l' := (bt 69 15)) (by simp only [ga1,ga2,ga3]; exact rfl) (by kernel_rfl) (by kernel_rfl) (by kernel_rfl) (fun _ _ _ h => h) (yieldsIf_load_run (by rfl) _ _ rfl ⟨hb,0,none⟩ rfl (.int .u8 H.typ) (fun w' hw' => ld5 (hd_cell1 hw' 0 (.int .u8 H.typ) rfl))) (by assumption) (by rfl) ?ha3 (by kernel_rfl) ?r3
  case ha3 => simp only [Act.put,sa1,sa2,sa3]; exact rfl
  refine take_named HOPS.out (i := 4) (d := (some 14)) (v := ?v4) (a' := ?a4) (l' := (bt 69 31)) (by simp only [ga1,ga2,ga3]; exact rfl) (by kernel_rfl) (by kernel_rfl) (by kernel_rfl) (fun _ _ _ h => h) (Or.inl ⟨by rfl,?hy4⟩) (by assumption) (by rfl) ?ha4 (by kernel_rfl) ?r4
  case hy4 => intro w hSw; go_simp; try with_reducible rfl
  case ha4 => simp only [Act.put,sa1,sa2,sa3]; exact rfl
  refine take_named HOPS.out (i := 5) (d := (some 15)) (v := ?v5) (a' := ?a5) (l' := (bt 69 63)) (by simp only [ga1,ga2,ga3]; exact rfl) (by kernel_rfl) (by kernel_rfl) (by kernel_rfl) (fun _ _ _ h => h) (Or.inl ⟨by rfl,?hy5⟩) (by assumption) (by rfl) ?ha5 (by kernel_rfl) ?r5
  case hy5 => intro w hSw; go_simp; try with_reducible rfl
  case ha5 => simp only [Act.put,sa1,sa2,sa3]; exact rfl
  refine take_named HOPS.out (i := 6) (d := (some 16)) (v := ?v6) (a' := ?a6) (l' := (bt 69 127)) (by simp only [ga1,ga2,ga3]; exact rfl) (by kernel_rfl) (by kernel_rfl) (by kernel_rfl) (fun _ _ _ h => h) (Or.inl ⟨by rfl,?hy6⟩) (by assumption) (by rfl) ?ha6 (by kernel_rfl) ?r6
  case hy6 => intro w hSw; go_simp; try with_reducible rfl
  case ha6 => simp only [Act.put,sa1,sa2,sa3]; exact rfl
  refine take_named HOPS.out (i := 7) (d := (some 17)) (a' := ?a7) (l' := (bt 69 255)) (by simp only [ga1,ga2,ga3]; exact rfl) (by kernel_rfl) (by kernel_rfl) (by kernel_rfl) (fun _ _ _ h => h) (yieldsIf_load_run (by rfl) _ _ rfl ⟨hb,1,none⟩ rfl (str H.name) (fun w' hw' => ld9 (hd_cell1 hw' 1 (str H.name) rfl))) (by assumption) (by rfl) ?ha7 (by kernel_rfl) ?r7
  case ha7 => simp only [Act.put,sa1,sa2,sa3]; exact rfl
  refine take_named HOPS.out (i := 8) (d := (some 18)) (v := ?v8) (a' := ?a8) (l' := (bt 69 511)) (by simp only [ga1,ga2,ga3]; exact rfl) (by kernel_rfl) (by kernel_rfl) (by kernel_rfl) (fun _ _ _ h => h) (Or.inl ⟨by rfl,?hy8⟩) (by assumption) (by rfl) ?ha8 (by kernel_rfl) ?r8
  case hy8 => intro w hSw; go_simp; try with_reducible rfl
  case ha8 => simp only [Act.put,sa1,sa2,sa3]; exact rfl
  refine take_named HOPS.out (i := 9) (d := (some 19)) (v := ?v9) (a' := ?a9) (l' := (bt 69 1023)) (by simp only [ga1,ga2,ga3]; exact rfl) (by kernel_rfl) (by kernel_rfl) (by kernel_rfl) (fun _ _ _ h => h) (Or.inl ⟨by rfl,?hy9⟩) (by assumption) (by rfl) ?ha9 (by kernel_rfl) ?r9
  case hy9 => intro w hSw; go_simp; try with_reducible rfl
  case ha9 => simp only [Act.put,sa1,sa2,sa3]; exact rfl
  refine take_named HOPS.out (i := 10) (d := (some 20)) (v := ?v10) (a' := ?a10) (l' := (bt 69 2047)) (by simp only [ga1,ga2,ga3]; exact rfl) (by kernel_rfl) (by kernel_rfl) (by kernel_rfl) (fun _ _ _ h => h) (Or.inl ⟨by rfl,?hy10⟩) (by assumption) (by rfl) ?ha10 (by kernel_rfl) ?r10
  case hy10 => intro w hSw; go_simp; try with_reducible rfl
  case ha10 => simp only [Act.put,sa1,sa2,sa3]; exact rfl
  refine take_named HOPS.out (i := 11) (d := (some 21)) (a' := ?a11) (l' := (bt 69 4095)) (by simp only [ga1,ga2,ga3]; exact rfl) (by kernel_rfl) (by kernel_rfl) (by kernel_rfl) (fun _ _ _ h => h) (yieldsIf_load_run (by rfl) _ _ rfl ⟨hb,2,none⟩ rfl (str H.link) (fun w' hw' => ld9 (hd_cell1 hw' 2 (str H.link) rfl))) (by assumption) (by rfl) ?ha11 (by kernel_rfl) ?r11
  case ha11 => simp only [Act.put,sa1,sa2,sa3]; exact rfl
  refine take_named HOPS.out (i := 12) (d := (some 22)) (v := ?v12) (a' := ?a12) (l' := (bt 69 8191)) (by simp only [ga1,ga2,ga3]; exact rfl) (by kernel_rfl) (by kernel_rfl) (by kernel_rfl) (fun _ _ _ h => h) (Or.inl ⟨by rfl,?hy12⟩) (by assumption) (by rfl) ?ha12 (by kernel_rfl) ?r12
  case hy12 => intro w hSw; go_simp; try with_reducible rfl
  case ha12 => simp only [Act.put,sa1,sa2,sa3]; exact rfl
  refine take_named HOPS.out (i := 13) (d := (some 23)) (v := ?v13) (a' := ?a13) (l' := (bt 69 16383)) (by simp only [ga1,ga2,ga3]; exact rfl) (by kernel_rfl) (by kernel_rfl) (by kernel_rfl) (fun _ _ _ h => h) (Or.inl ⟨by rfl,?hy13⟩) (by assumption) (by rfl) ?ha13 (by kernel_rfl) ?r13
  case hy13 => intro w hSw; go_simp; try with_reducible rfl
  case ha13 => simp only [Act.put,sa1,sa2,sa3]; exact rfl
  refine take_named HOPS.out (i := 14) (d := (some 24)) (v := ?v14) (a' := ?a14) (l' := (bt 69 32767)) (by simp only [ga1,ga2,ga3]; exact rfl) (by kernel_rfl) (by kernel_rfl) (by kernel_rfl) (fun _ _ _ h => h) (Or.inl ⟨by rfl,?hy14⟩) (by assumption) (by rfl) ?ha14 (by kernel_rfl) ?r14
  case hy14 => intro w hSw; go_simp; try with_reducible rfl
  case ha14 => simp only [Act.put,sa1,sa2,sa3]; exact rfl
  refine take_named HOPS.out (i := 15) (d := (some 25)) (a' := ?a15) (l' := (bt 69 65535)) (by simp only [ga1,ga2,ga3]; exact rfl) (by kernel_rfl) (by kernel_rfl) (by kernel_rfl) (fun _ _ _ h => h) (yieldsIf_load_run (by rfl) _ _ rfl ⟨hb,3,none⟩ rfl (.int .i64 H.size) (fun w' hw' => ld2 (hd_cell1 hw' 3 (.int .i64 H.size) rfl))) (by assumption) (by rfl) ?ha15 (by kernel_rfl) ?r15
  case ha15 => simp only [Act.put,sa1,sa2,sa3]; exact rfl
  refine take_named HOPS.out (i := 16) (d := (some 26)) (v := ?v16) (a' := ?a16) (l' := (bt 69 131071)) (by simp only [ga1,ga2,ga3]; exact rfl) (by kernel_rfl) (by kernel_rfl) (by kernel_rfl) (fun _ _ _ h => h) (Or.inl ⟨by rfl,?hy16⟩) (by assumption) (by rfl) ?ha16 (by kernel_rfl) ?r16
  case hy16 => intro w hSw; go_simp; try with_reducible rfl
  case ha16 => simp only [Act.put,sa1,sa2,sa3]; exact rfl
  refine take_named HOPS.out (i := 17) (d := (some 27)) (v := ?v17) (a' := ?a17) (l' := (bt 69 262143)) (by simp only [ga1,ga2,ga3]; exact rfl) (by kernel_rfl) (by kernel_rfl) (by kernel_rfl) (fun _ _ _ h => h) (Or.inl ⟨by rfl,?hy17⟩) (by assumption) (by rfl) ?ha17 (by kernel_rfl) ?r17
  case hy17 => intro w hSw; go_simp; try with_reducible rfl
  case ha17 => simp only [Act.put,sa1,sa2,sa3]; exact rfl
  refine take_named HOPS.out (i := 18) (d := (some 28)) (v := ?v18) (a' := ?a18) (l' := (bt 69 524287)) (by simp only [ga1,ga2,ga3]; exact rfl) (by kernel_rfl) (by kernel_rfl) (by kernel_rfl) (fun _ _ _ h => h) (Or.inl ⟨by rfl,?hy18⟩) (by assumption) (by rfl) ?ha18 (by kernel_rfl) ?r18
  case hy18 => intro w hSw; go_simp; try with_reducible rfl
  case ha18 => simp only [Act.put,sa1,sa2,sa3]; exact rfl
  refine take_named HOPS.out (i := 19) (d := (some 29)) (a' := ?a19) (l' := (bt 69 1048575)) (by simp only [ga1,ga2,ga3]; exact rfl) (by kernel_rfl) (by kernel_rfl) (by kernel_rfl) (fun _ _ _ h => h) (yieldsIf_load_run (by rfl) _ _ rfl ⟨hb,4,none⟩ rfl (.int .i64 H.mode) (fun w' hw' => ld2 (hd_cell1 hw' 4 (.int .i64 H.mode) rfl))) (by assumption) (by rfl) ?ha19 (by kernel_rfl) ?r19
  case ha19 => simp only [Act.put,sa1,sa2,sa3]; exact rfl
  refine take_named HOPS.out (i := 20) (d := (some 30)) (v := ?v20) (a' := ?a20) (l' := (bt 69 2097151)) (by simp only [ga1,ga2,ga3]; exact rfl) (by kernel_rfl) (by kernel_rfl) (by kernel_rfl) (fun _ _ _ h => h) (Or.inl ⟨by rfl,?hy20⟩) (by assumption) (by rfl) ?ha20 (by kernel_rfl) ?r20
  case hy20 => intro w hSw; go_simp; try with_reducible rfl
  case ha20 => simp only [Act.put,sa1,sa2,sa3]; exact rfl
  refine take_named HOPS.out (i := 21) (d := (some 31)) (v := ?v21) (a' := ?a21) (l' := (bt 69 4194303)) (by simp only [ga1,ga2,ga3]; exact rfl) (by kernel_rfl) (by kernel_rfl) (by kernel_rfl) (fun _ _ _ h => h) (Or.inl ⟨by rfl,?hy21⟩) (by assumption) (by rfl) ?ha21 (by kernel_rfl) ?r21
  case hy21 => intro w hSw; go_simp; try with_reducible rfl
  case ha21 => simp only [Act.put,sa1,sa2,sa3]; exact rfl
  refine take_named HOPS.out (i := 22) (d := (some 32)) (v := ?v22) (a' := ?a22) (l' := (bt 69 8388607)) (by simp only [ga1,ga2,ga3]; exact rfl) (by kernel_rfl) (by kernel_rfl) (by kernel_rfl) (fun _ _ _ h => h) (Or.inl ⟨by rfl,?hy22⟩) (by assumption) (by rfl) ?ha22 (by kernel_rfl) ?r22
  case hy22 => intro w hSw; go_simp; try with_reducible rfl
  case ha22 => simp only [Act.put,sa1,sa2,sa3]; exact rfl
  refine take_named HOPS.out (i := 23) (d := (some 33)) (a' := ?a23) (l' := (bt 69 16777215)) (by simp only [ga1,ga2,ga3]; exact rfl) (by kernel_rfl) (by kernel_rfl) (by kernel_rfl) (fun _ _ _ h => h) (yieldsIf_load_run (by rfl) _ _ rfl ⟨hb,5,none⟩ rfl (.int .i64 H.uid) (fun w' hw' => ld3 (hd_cell1 hw' 5 (.int .i64 H.uid) rfl))) (by assumption) (by rfl) ?ha23 (by kernel_rfl) ?r23
  case ha23 => simp only [Act.put,sa1,sa2,sa3]; exact rfl
  refine take_named HOPS.out (i := 24) (d := (some 34)) (v := ?v24) (a' := ?a24) (l' := (bt 69 33554431)) (by simp only [ga1,ga2,ga3]; exact rfl) (by kernel_rfl) (by kernel_rfl) (by kernel_rfl) (fun _ _ _ h => h) (Or.inl ⟨by rfl,?hy24⟩) (by assumption) (by rfl) ?ha24 (by kernel_rfl) ?r24
  case hy24 => intro w hSw; go_simp; try with_reducible rfl
  case ha24 => simp only [Act.put,sa1,sa2,sa3]; exact rfl
  refine take_named HOPS.out (i := 25) (d := (some 35)) (v := ?v25) (a' := ?a25) (l' := (bt 69 67108863)) (by simp only [ga1,ga2,ga3]; exact rfl) (by kernel_rfl) (by kernel_rfl) (by kernel_rfl) (fun _ _ _ h => h) (Or.inl ⟨by rfl,?hy25⟩) (by assumption) (by rfl) ?ha25 (by kernel_rfl) ?r25
  case hy25 => intro w hSw; go_simp; try with_reducible rfl
  case ha25 => simp only [Act.put,sa1,sa2,sa3]; exact rfl
  refine take_named HOPS.out (i := 26) (d := (some 36)) (v := ?v26) (a' := ?a26) (l' := (bt 69 134217727)) (by simp only [ga1,ga2,ga3]; exact rfl) (by kernel_rfl) (by kernel_rfl) (by kernel_rfl) (fun _ _ _ h => h) (Or.inl ⟨by rfl,?hy26⟩) (by assumption) (by rfl) ?ha26 (by kernel_rfl) ?r26
  case hy26 => intro w hSw; go_simp; try with_reducible rfl
  case ha26 => simp only [Act.put,sa1,sa2,sa3]; exact rfl
  refine take_named HOPS.out (i := 27) (d := (some 37)) (a' := ?a27) (l' := (bt 69 268435455)) (by simp only [ga1,ga2,ga3]; exact rfl) (by kernel_rfl) (by kernel_rfl) (by kernel_rfl) (fun _ _ _ h => h) (yieldsIf_load_run (by rfl) _ _ rfl ⟨hb,6,none⟩ rfl (.int .i64 H.gid) (fun w' hw' => ld3 (hd_cell1 hw' 6 (.int .i64 H.gid) rfl))) (by assumption) (by rfl) ?ha27 (by kernel_rfl) ?r27
  case ha27 => simp only [Act.put,sa1,sa2,sa3]; exact rfl
  refine take_named HOPS.out (i := 28) (d := (some 38)) (v := ?v28) (a' := ?a28) (l' := (bt 69 536870911)) (by simp only [ga1,ga2,ga3]; exact rfl) (by kernel_rfl) (by kernel_rfl) (by kernel_rfl) (fun _ _ _ h => h) (Or.inl ⟨by rfl,?hy28⟩) (by assumption) (by rfl) ?ha28 (by kernel_rfl) ?r28
  case hy28 => intro w hSw; go_simp; try with_reducible rfl
  case ha28 => simp only [Act.put,sa1,sa2,sa3]; exact rfl
  refine take_named HOPS.out (i := 29) (d := (some 39)) (v := ?v29) (a' := ?a29) (l' := (bt 69 1073741823)) (by simp only [ga1,ga2,ga3]; exact rfl) (by kernel_rfl) (by kernel_rfl) (by kernel_rfl) (fun _ _ _ h => h) (Or.inl ⟨by rfl,?hy29⟩) (by assumption) (by rfl) ?ha29 (by kernel_rfl) ?r29
  case hy29 => intro w hSw; go_simp; try with_reducible rfl
  case ha29 => simp only [Act.put,sa1,sa2,sa3]; exact rfl
  refine take_named HOPS.out (i := 30) (d := (some 40)) (v := ?v30) (a' := ?a30) (l' := (bt 69 2147483647)) (by simp only [ga1,ga2,ga3]; exact rfl) (by kernel_rfl) (by kernel_rfl) (by kernel_rfl) (fun _ _ _ h => h) (Or.inl ⟨by rfl,?hy30⟩) (by assumption) (by rfl) ?ha30 (by kernel_rfl) ?r30
  case hy30 => intro w hSw; go_simp; try with_reducible rfl
  case ha30 => simp only [Act.put,sa1,sa2,sa3]; exact rfl
  refine take_named HOPS.out (i := 31) (d := (some 41)) (a' := ?a31) (l' := (bt 69 4294967295)) (by simp only [ga1,ga2,ga3]; exact rfl) (by kernel_rfl) (by kernel_rfl) (by kernel_rfl) (fun _ _ _ h => h) (yieldsIf_load_run (by rfl) _ _ rfl ⟨hb,7,none⟩ rfl (str H.user) (fun w' hw' => ld9 (hd_cell1 hw' 7 (str H.user) rfl))) (by assumption) (by rfl) ?ha31 (by kernel_rfl) ?r31
  case ha31 => simp only [Act.put,sa1,sa2,sa3]; exact rfl
  refine take_named HOPS.out (i := 32) (d := (some 42)) (v := ?v32) (a' := ?a32) (l' := (bt 69 8589934591)) (by simp only [ga1,ga2,ga3]; exact rfl) (by kernel_rfl) (by kernel_rfl) (by kernel_rfl) (fun _ _ _ h => h) (Or.inl ⟨by rfl,?hy32⟩) (by assumption) (by rfl) ?ha32 (by kernel_rfl) ?r32
  case hy32 => intro w hSw; go_simp; try with_reducible rfl
  case ha32 => simp only [Act.put,sa1,sa2,sa3]; exact rfl
  refine take_named HOPS.out (i := 33) (d := (some 43)) (v := ?v33) (a' := ?a33) (l' := (bt 69 17179869183)) (by simp only [ga1,ga2,ga3]; exact rfl) (by kernel_rfl) (by kernel_rfl) (by kernel_rfl) (fun _ _ _ h => h) (Or.inl ⟨by rfl,?hy33⟩) (by assumption) (by rfl) ?ha33 (by kernel_rfl) ?r33
  case hy33 => intro w hSw; go_simp; try with_reducible rfl
  case ha33 => simp only [Act.put,sa1,sa2,sa3]; exact rfl
  refine take_named HOPS.out (i := 34) (d := (some 44)) (v := ?v34) (a' := ?a34) (l' := (bt 69 34359738367)) (by simp only [ga1,ga2,ga3]; exact rfl) (by kernel_rfl) (by kernel_rfl) (by kernel_rfl) (fun _ _ _ h => h) (Or.inl ⟨by rfl,?hy34⟩) (by assumption) (by rfl) ?ha34 (by kernel_rfl) ?r34
  case hy34 => intro w hSw; go_simp; try with_reducible rfl
  case ha34 => simp only [Act.put,sa1,sa2,sa3]; exact rfl
  refine take_named HOPS.out (i := 35) (d := (some 45)) (a' := ?a35) (l' := (bt 69 68719476735)) (by simp only [ga1,ga2,ga3]; exact rfl) (by kernel_rfl) (by kernel_rfl) (by kernel_rfl) (fun _ _ _ h => h) (yieldsIf_load_run (by rfl) _ _ rfl ⟨hb,8,none⟩ rfl (str H.group) (fun w' hw' => ld9 (hd_cell1 hw' 8 (str H.group) rfl))) (by assumption) (by rfl) ?ha35 (by kernel_rfl) ?r35
  case ha35 => simp only [Act.put,sa1,sa2,sa3]; exact rfl
  refine take_named HOPS.out (i := 36) (d := (some 46)) (v := ?v36) (a' := ?a36) (l' := (bt 69 137438953471)) (by simp only [ga1,ga2,ga3]; exact rfl) (by kernel_rfl) (by kernel_rfl) (by kernel_rfl) (fun _ _ _ h => h) (Or.inl ⟨by rfl,?hy36⟩) (by assumption) (by rfl) ?ha36 (by kernel_rfl) ?r36
  case hy36 => intro w hSw; go_simp; try with_reducible rfl
  case ha36 => simp only [Act.put,sa1,sa2,sa3]; exact rfl
  refine take_named HOPS.out (i := 37) (d := (some 47)) (v := ?v37) (a' := ?a37) (l' := (bt 69 274877906943)) (by simp only [ga1,ga2,ga3]; exact rfl) (by kernel_rfl) (by kernel_rfl) (by kernel_rfl) (fun _ _ _ h => h) (Or.inl ⟨by rfl,?hy37⟩) (by assumption) (by rfl) ?ha37 (by kernel_rfl) ?r37
  case hy37 => intro w hSw; go_simp; try with_reducible rfl
  case ha37 => simp only [Act.put,sa1,sa2,sa3]; exact rfl
  refine take_named HOPS.out (i := 38) (d := (some 48)) (v := ?v38) (a' := ?a38) (l' := (bt 69 549755813887)) (by simp only [ga1,ga2,ga3]; exact rfl) (by kernel_rfl) (by kernel_rfl) (by kernel_rfl) (fun _ _ _ h => h) (Or.inl ⟨by rfl,?hy38⟩) (by assumption) (by rfl) ?ha38 (by kernel_rfl) ?r38
  case hy38 => intro w hSw; go_simp; try with_reducible rfl
  case ha38 => simp only [Act.put,sa1,sa2,sa3]; exact rfl
  refine take_named HOPS.out (i := 39) (d := (some 49)) (a' := ?a39) (l' := (bt 69 1099511627775)) (by simp only [ga1,ga2,ga3]; exact rfl) (by kernel_rfl) (by kernel_rfl) (by kernel_rfl) (fun _ _ _ h => h) (yieldsIf_load_run (by rfl) _ _ rfl ⟨hb,9,none⟩ rfl (.agg #[.int .u64 H.mw,.int .i64 H.mx]) (fun w' hw' => ld126 (hd_cell1 hw' 9 (.int .u64 H.mw) rfl) (hd_cell1 hw' 10 (.int .i64 H.mx) rfl))) (by assumption) (by rfl) ?ha39 (by kernel_rfl) ?r39
  case ha39 => simp only [Act.put,sa1,sa2,sa3]; exact rfl
  refine take_named HOPS.out (i := 41) (d := (some 51)) (v := ?v41) (a' := ?a41) (l' := (bt 69 3298534883327)) (by simp only [ga1,ga2,ga3]; exact rfl) (by kernel_rfl) (by kernel_rfl) (by kernel_rfl) (fun _ _ _ h => h) (Or.inl ⟨by rfl,?hy41⟩) (by assumption) (by rfl) ?ha41 (by kernel_rfl) ?r41
  case hy41 => intro w hSw; go_simp; try with_reducible rfl
  case ha41 => simp only [Act.put,sa1,sa2,sa3]; exact rfl
  refine take_named HOPS.out (i := 42) (d := (some 52)) (v := ?v42) (a' := ?a42) (l' := (bt 69 7696581394431)) (by simp only [ga1,ga2,ga3]; exact rfl) (by kernel_rfl) (by kernel_rfl) (by kernel_rfl) (fun _ _ _ h => h) (Or.inl ⟨by rfl,?hy42⟩) (by assumption) (by rfl) ?ha42 (by kernel_rfl) ?r42
  case hy42 => intro w hSw; go_simp; try with_reducible rfl
  case ha42 => simp only [Act.put,sa1,sa2,sa3]; exact rfl
  refine take_named HOPS.out (i := 43) (d := (some 53)) (v := ?v43) (a' := ?a43) (l' := (bt 69 16492674416639)) (by simp only [ga1,ga2,ga3]; exact rfl) (by kernel_rfl) (by kernel_rfl) (by kernel_rfl) (fun _ _ _ h => h) (Or.inl ⟨by rfl,?hy43⟩) (by assumption) (by rfl) ?ha43 (by kernel_rfl) ?r43
  case hy43 => intro w hSw; go_simp; try with_reducible rfl
  case ha43 => simp only [Act.put,sa1,sa2,sa3]; exact rfl
  refine take_named HOPS.out (i := 44) (d := (some 54)) (a' := ?a44) (l' := (bt 69 34084860461055)) (by simp only [ga1,ga2,ga3]; exact rfl) (by kernel_rfl) (by kernel_rfl) (by kernel_rfl) (fun _ _ _ h => h) (yieldsIf_load_run (by rfl) _ _ rfl ⟨hb,11,none⟩ rfl (.agg #[.int .u64 H.aw,.int .i64 H.ax]) (fun w' hw' => ld126 (hd_cell1 hw' 11 (.int .u64 H.aw) rfl) (hd_cell1 hw' 12 (.int .i64 H.ax) rfl))) (by assumption) (by rfl) ?ha44 (by kernel_rfl) ?r44
  case ha44 => simp only [Act.put,sa1,sa2,sa3]; exact rfl
  refine take_named HOPS.out (i := 47) (d := (some 57)) (v := ?v47) (a' := ?a47) (l' := (bt 69 174822348816383)) (by simp only [ga1,ga2,ga3]; exact rfl) (by kernel_rfl) (by kernel_rfl) (by kernel_rfl) (fun _ _ _ h => h) (Or.inl ⟨by rfl,?hy47⟩) (by assumption) (by rfl) ?ha47 (by kernel_rfl) ?r47
  case hy47 => intro w hSw; go_simp; try with_reducible rfl
  case ha47 => simp only [Act.put,sa1,sa2,sa3]; exact rfl
  refine take_named HOPS.out (i := 48) (d := (some 58)) (v := ?v48) (a' := ?a48) (l' := (bt 69 456297325527039)) (by simp only [ga1,ga2,ga3]; exact rfl) (by kernel_rfl) (by kernel_rfl) (by kernel_rfl) (fun _ _ _ h => h) (Or.inl ⟨by rfl,?hy48⟩) (by assumption) (by rfl) ?ha48 (by kernel_rfl) ?r48
  case hy48 => intro w hSw; go_simp; try with_reducible rfl
  case ha48 => simp only [Act.put,sa1,sa2,sa3]; exact rfl
  refine take_named HOPS.out (i := 49) (d := (some 59)) (v := ?v49) (a' := ?a49) (l' := (bt 69 1019247278948351)) (by simp only [ga1,ga2,ga3]; exact rfl) (by kernel_rfl) (by kernel_rfl) (by kernel_rfl) (fun _ _ _ h => h) (Or.inl ⟨by rfl,?hy49⟩) (by assumption) (by rfl) ?ha49 (by kernel_rfl) ?r49
  case hy49 => intro w hSw; go_simp; try with_reducible rfl
  case ha49 => simp only [Act.put,sa1,sa2,sa3]; exact rfl
  refine take_named HOPS.out (i := 50) (d := (some 60)) (a' := ?a50) (l' := (bt 69 2145147185790975)) (by simp only [ga1,ga2,ga3]; exact rfl) (by kernel_rfl) (by kernel_rfl) (by kernel_rfl) (fun _ _ _ h => h) (yieldsIf_load_run (by rfl) _ _ rfl ⟨hb,13,none⟩ rfl (.agg #[.int .u64 H.cw,.int .i64 H.cx]) (fun w' hw' => ld126 (hd_cell1 hw' 13 (.int .u64 H.cw) rfl) (hd_cell1 hw' 14 (.int .i64 H.cx) rfl))) (by assumption) (by rfl) ?ha50 (by kernel_rfl) ?r50
  case ha50 => simp only [Act.put,sa1,sa2,sa3]; exact rfl
  refine take_named HOPS.out (i := 53) (d := (some 63)) (v := ?v53) (a' := ?a53) (l' := (bt 69 11152346440531967)) (by simp only [ga1,ga2,ga3]; exact rfl) (by kernel_rfl) (by kernel_rfl) (by kernel_rfl) (fun _ _ _ h => h) (Or.inl ⟨by rfl,?hy53⟩) (by assumption) (by rfl) ?ha53 (by kernel_rfl) ?r53
  case hy53 => intro w hSw; go_simp; try with_reducible rfl
  case ha53 => simp only [Act.put,sa1,sa2,sa3]; exact rfl
  refine take_named HOPS.out (i := 54) (d := (some 64)) (v := ?v54) (a' := ?a54) (l' := (bt 69 29166744950013951)) (by simp only [ga1,ga2,ga3]; exact rfl) (by kernel_rfl) (by kernel_rfl) (by kernel_rfl) (fun _ _ _ h => h) (Or.inl ⟨by rfl,?hy54⟩) (by assumption) (by rfl) ?ha54 (by kernel_rfl) ?r54
  case hy54 => intro w hSw; go_simp; try with_reducible rfl
  case ha54 => simp only [Act.put,sa1,sa2,sa3]; exact rfl
  refine take_named HOPS.out (i := 55) (d := (some 65)) (v := ?v55) (a' := ?a55) (l' := (bt 69 65195541968977919)) (by simp only [ga1,ga2,ga3]; exact rfl) (by kernel_rfl) (by kernel_rfl) (by kernel_rfl) (fun _ _ _ h => h) (Or.inl ⟨by rfl,?hy55⟩) (by assumption) (by rfl) ?ha55 (by kernel_rfl) ?r55
  case hy55 => intro w hSw; go_simp; try with_reducible rfl
  case ha55 => simp only [Act.put,sa1,sa2,sa3]; exact rfl
  refine take_named HOPS.out (i := 56) (d := (some 66)) (a' := ?a56) (l' := (bt 69 137253136006905855)) (by simp only [ga1,ga2,ga3]; exact rfl) (by kernel_rfl) (by kernel_rfl) (by kernel_rfl) (fun _ _ _ h => h) (yieldsIf_load_run (by rfl) _ _ rfl ⟨hb,15,none⟩ rfl (.int .i64 H.maj) (fun w' hw' => ld2 (hd_cell1 hw' 15 (.int .i64 H.maj) rfl))) (by assumption) (by rfl) ?ha56 (by kernel_rfl) ?r56
  case ha56 => simp only [Act.put,sa1,sa2,sa3]; exact rfl
  refine take_named HOPS.out (i := 57) (d := (some 67)) (v := ?v57) (a' := ?a57) (l' := (bt 69 281368324082761727)) (by simp only [ga1,ga2,ga3]; exact rfl) (by kernel_rfl) (by kernel_rfl) (by kernel_rfl) (fun _ _ _ h => h) (Or.inl ⟨by rfl,?hy57⟩) (by assumption) (by rfl) ?ha57 (by kernel_rfl) ?r57
  case hy57 => intro w hSw; go_simp; try with_reducible rfl
  case ha57 => simp only [Act.put,sa1,sa2,sa3]; exact rfl
  refine take_named HOPS.out (i := 58) (d := (some 68)) (v := ?v58) (a' := ?a58) (l' := (bt 69 569598700234473471)) (by simp only [ga1,ga2,ga3]; exact rfl) (by kernel_rfl) (by kernel_rfl) (by kernel_rfl) (fun _ _ _ h => h) (Or.inl ⟨by rfl,?hy58⟩) (by assumption) (by rfl) ?ha58 (by kernel_rfl) ?r58
  case hy58 => intro w hSw; go_simp; try with_reducible rfl
  case ha58 => simp only [Act.put,sa1,sa2,sa3]; exact rfl
  refine take_named HOPS.out (i := 59) (d := (some 69)) (v := ?v59) (a' := ?a59) (l' := (bt 69 1146059452537896959)) (by simp only [ga1,ga2,ga3]; exact rfl) (by kernel_rfl) (by kernel_rfl) (by kernel_rfl) (fun _ _ _ h => h) (Or.inl ⟨by rfl,?hy59⟩) (by assumption) (by rfl) ?ha59 (by kernel_rfl) ?r59
  case hy59 => intro w hSw; go_simp; try with_reducible rfl
  case ha59 => simp only [Act.put,sa1,sa2,sa3]; exact rfl
  refine take_named HOPS.out (i := 60) (d := (some 70)) (a' := ?a60) (l' := (bt 69 2298980957144743935)) (by simp only [ga1,ga2,ga3]; exact rfl) (by kernel_rfl) (by kernel_rfl) (by kernel_rfl) (fun _ _ _ h => h) (yieldsIf_load_run (by rfl) _ _ rfl ⟨hb,16,none⟩ rfl (.int .i64 H.mnr) (fun w' hw' => ld2 (hd_cell1 hw' 16 (.int .i64 H.mnr) rfl))) (by assumption) (by rfl) ?ha60 (by kernel_rfl) ?r60
  case ha60 => simp only [Act.put,sa1,sa2,sa3]; exact rfl
  refine take_named HOPS.out (i := 61) (d := (some 71)) (v := ?v61) (a' := ?a61) (l' := (bt 69 4604823966358437887)) (by simp only [ga1,ga2,ga3]; exact rfl) (by kernel_rfl) (by kernel_rfl) (by kernel_rfl) (fun _ _ _ h => h) (Or.inl ⟨by rfl,?hy61⟩) (by assumption) (by rfl) ?ha61 (by kernel_rfl) ?r61
  case hy61 => intro w hSw; go_simp; try with_reducible rfl
  case ha61 => simp only [Act.put,sa1,sa2,sa3]; exact rfl
  refine take_named HOPS.out (i := 62) (d := (some 72)) (v := ?v62) (a' := ?a62) (l' := (bt 69 9216509984785825791)) (by simp only [ga1,ga2,ga3]; exact rfl) (by kernel_rfl) (by kernel_rfl) (by kernel_rfl) (fun _ _ _ h => h) (Or.inl ⟨by rfl,?hy62⟩) (by assumption) (by rfl) ?ha62 (by kernel_rfl) ?r62
  case hy62 => intro w hSw; go_simp; try with_reducible rfl
  case ha62 => simp only [Act.put,sa1,sa2,sa3]; exact rfl
  refine take_named HOPS.out (i := 63) (d := (some 73)) (v := ?v63) (a' := ?a63) (l' := (bt 69 18439882021640601599)) (by simp only [ga1,ga2,ga3]; exact rfl) (by kernel_rfl) (by kernel_rfl) (by kernel_rfl) (fun _ _ _ h => h) (Or.inl ⟨by rfl,?hy63⟩) (by assumption) (by rfl) ?ha63 (by kernel_rfl) ?r63
  case hy63 => intro w hSw; go_simp; try with_reducible rfl
  case ha63 => simp only [Act.put,sa1,sa2,sa3]; exact rfl
  refine take_named HOPS.out (i := 64) (d := (some 74)) (a' := ?a64) (l' := (bt 69 36886626095350153215)) (by simp only [ga1,ga2,ga3]; exact rfl) (by kernel_rfl) (by kernel_rfl) (by kernel_rfl) (fun _ _ _ h => h) (yieldsIf_load_run (by rfl) _ _ rfl ⟨hb,19,none⟩ rfl (.int .i64 H.fmt) (fun w' hw' => ld128 (hd_cell1 hw' 19 (.int .i64 H.fmt) rfl))) (by assumption) (by rfl) ?ha64 (by kernel_rfl) ?r64
  case ha64 => simp only [Act.put,sa1,sa2,sa3]; exact rfl
  refine wpAnyH_ready (rs := [40,67]) (by rw [HOPS.out]; kernel_rfl) (by simp) ?_
  refine ready_named HOPS.out (l' := (bt 69 36886627194861780991)) (by simp only [ga1,ga2,ga3]; exact rfl) (by kernel_rfl) (fun K hK => ?_) (ready_named HOPS.out (l' := (bt 69 184460578685026566143)) (by simp only [ga1,ga2,ga3]; exact rfl) (by kernel_rfl) (fun K hK => ?_) AllReadyH.nil)
  · go_simp
    go_at_call 73
    refine (HT.out _).mono ?_
    rintro e u11 ⟨rfl,hb11⟩
    have HB11 := Lib.hid (HBD.out.trans (hb11.mono HBD.out.size))
    have HH11 := Lib.hid ((hb11.block hb (lt_of_heap HHD.out)).trans HHD.out)
    have HZ11 := Lib.hid ((hb11.block w.heap.size (lt_of_heap HGD.out)).trans HGD.out)
    refine hK.out _ _ HH11.out (fun hHeld => ?_)
    clear hK K hb11
    try simp only [Act.put,sa1,sa2,sa3]
    refine wpAnyH_ready (rs := [45,67]) (by rw [HOPS.out]; kernel_rfl) (by simp) ?_
    refine ready_named HOPS.out (l' := (bt 69 36886662379233869823)) (by simp only [ga1,ga2,ga3]; exact rfl) (by kernel_rfl) (fun K hK => ?_) (ready_named HOPS.out (l' := (bt 69 184460579784538193919)) (by simp only [ga1,ga2,ga3]; exact rfl) (by kernel_rfl) (fun K hK => ?_) AllReadyH.nil)
    · go_simp
      go_at_call 74
      refine (HZA.out _).mono ?_
      rintro e u12 ⟨rfl,hb12⟩
      have HB12 := Lib.hid (HB11.out.trans (hb12.mono HB11.out.size))
      have HH12 := Lib.hid ((hb12.block hb (lt_of_heap HH11.out)).trans HH11.out)
      have HZ12 := Lib.hid ((hb12.block w.heap.size (lt_of_heap HZ11.out)).trans HZ11.out)
      refine hK.out _ _ HH12.out (fun hHeld => ?_)
      clear hK K hb12
      try simp only [Act.put,sa1,sa2,sa3]
      refine take_named HOPS.out (i := 46) (d := (some 56)) (v := ?vn1246) (a' := ?an1246) (l' := (bt 69 36886732747978047487)) (by simp only [ga1,ga2,ga3]; exact rfl) (by kernel_rfl) (by kernel_rfl) (by kernel_rfl) (fun _ _ _ h => h) (Or.inl ⟨by rfl,?hyn1246⟩) (by assumption) (by rfl) ?han1246 (by kernel_rfl) ?rn1246
      case hyn1246 => intro w hSw; go_simp; try with_reducible rfl
      case han1246 => simp only [Act.put,sa1,sa2,sa3]; exact rfl
      refine wpAnyH_ready (rs := [51,67]) (by rw [HOPS.out]; kernel_rfl) (by simp) ?_
      refine ready_named HOPS.out (l' := (bt 69 36888984547791732735)) (by simp only [ga1,ga2,ga3]; exact rfl) (by kernel_rfl) (fun K hK => ?_) (ready_named HOPS.out (l' := (bt 69 184460685337654460415)) (by simp only [ga1,ga2,ga3]; exact rfl) (by kernel_rfl) (fun K hK => ?_) AllReadyH.nil)
      · go_simp
        go_at_call 74
        refine (HZC.out _).mono ?_
        rintro e u13 ⟨rfl,hb13⟩
        have HB13 := Lib.hid (HB12.out.trans (hb13.mono HB12.out.size))
        have HH13 := Lib.hid ((hb13.block hb (lt_of_heap HH12.out)).trans HH12.out)
        have HZ13 := Lib.hid ((hb13.block w.heap.size (lt_of_heap HZ12.out)).trans HZ12.out)
        refine hK.out _ _ HH13.out (fun hHeld => ?_)
        clear hK K hb13
        try simp only [Act.put,sa1,sa2,sa3]
        refine take_named HOPS.out (i := 52) (d := (some 62)) (v := ?vn1352) (a' := ?an1352) (l' := (bt 69 36893488147419103231)) (by simp only [ga1,ga2,ga3]; exact rfl) (by kernel_rfl) (by kernel_rfl) (by kernel_rfl) (fun _ _ _ h => h) (Or.inl ⟨by rfl,?hyn1352⟩) (by assumption) (by rfl) ?han1352 (by kernel_rfl) ?rn1352
        case hyn1352 => intro w hSw; go_simp; try with_reducible rfl
        case han1352 => simp only [Act.put,sa1,sa2,sa3]; exact rfl
        refine wpAnyH_ready (rs := [65,67]) (by rw [HOPS.out]; kernel_rfl) (by simp) ?_
        refine ready_named HOPS.out (l' := (bt 69 73786976294838206463)) (by simp only [ga1,ga2,ga3]; exact rfl) (by kernel_rfl) (fun K hK => ?_) (ready_named HOPS.out (l' := (bt 69 184467440737095516159)) (by simp only [ga1,ga2,ga3]; exact rfl) (by kernel_rfl) (fun K hK => ?_) AllReadyH.nil)
        · go_simp
          go_at_call 75
          refine (HFO.out _).mono ?_
          rintro e u14 ⟨rfl,hb14⟩
          have HB14 := Lib.hid (HB13.out.trans (hb14.mono HB13.out.size))
          have HH14 := Lib.hid ((hb14.block hb (lt_of_heap HH13.out)).trans HH13.out)
          have HZ14 := Lib.hid ((hb14.block w.heap.size (lt_of_heap HZ13.out)).trans HZ13.out)
          refine hK.out _ _ HH14.out (fun hHeld => ?_)
          clear hK K hb14
          try simp only [Act.put,sa1,sa2,sa3]
          refine take_named HOPS.out (i := 66) (d := (some 76)) (v := ?vn1466) (a' := ?an1466) (l' := (bt 69 147573952589676412927)) (by simp only [ga1,ga2,ga3]; exact rfl) (by kernel_rfl) (by kernel_rfl) (by kernel_rfl) (fun _ _ _ h => h) (Or.inl ⟨by rfl,?hyn1466⟩) (by assumption) (by rfl) ?han1466 (by kernel_rfl) ?rn1466
          case hyn1466 => intro w hSw; go_simp; try with_reducible rfl
          case han1466 => simp only [Act.put,sa1,sa2,sa3]; exact rfl
          refine wpAnyH_ready (rs := [67]) (by rw [HOPS.out]; kernel_rfl) (by simp) ?_
          refine ready_named HOPS.out (l' := (bt 69 295147905179352825855)) (by simp only [ga1,ga2,ga3]; exact rfl) (by kernel_rfl) (fun K hK => ?_) AllReadyH.nil
          go_simp
          obtain ⟨u15,hu15⟩ : ∃ x,x = u14.alloc (.cells #[.int .u8 0,.string { data := #[] },.string { data := #[] },.int .i64 0,.int .i64 0,.int .i64 0,.int .i64 0,.string { data := #[] },.string { data := #[] },.int .i64 0,.int .i64 0,.bool false,.int .i64 0,.int .i64 0,.bool false,.int .i64 0,.int .i64 0,.int .i64 0,.int .i64 0,.slice none 0 0,.int .i64 0] 26) := ⟨_,rfl⟩
          rw [← hu15]
          have HB15 : Hid (Below w.heap.size w u15) := by rw [hu15]; exact Lib.hid (HB14.out.alloc HB14.out.size _)
          have HH15 : Hid (u15.heap[hb]? = some (.cells H.cells.toArray 130 (0,0))) := by rw [hu15]; exact Lib.hid ((Below.heap_alloc _ _ hb (lt_of_heap HH14.out)).trans HH14.out)
          have HZ15 : Hid (u15.heap[w.heap.size]? = some (.cells #[.int .u8 0,.string { data := #[] },.string { data := #[] },.int .i64 0,.int .i64 0,.int .i64 0,.int .i64 0,.string { data := #[] },.string { data := #[] },.int .i64 0,.int .i64 0,.bool false,.int .i64 0,.int .i64 0,.bool false,.int .i64 0,.int .i64 0,.int .i64 0,.int .i64 0,.slice none 0 0,.int .i64 0] 26 (0,0))) := by rw [hu15]; exact Lib.hid ((Below.heap_alloc _ _ w.heap.size (lt_of_heap HZ14.out)).trans HZ14.out)
          have HG15 : Hid (u15.heap[u14.heap.size]? = some (.cells #[.int .u8 0,.string { data := #[] },.string { data := #[] },.int .i64 0,.int .i64 0,.int .i64 0,.int .i64 0,.string { data := #[] },.string { data := #[] },.int .i64 0,.int .i64 0,.bool false,.int .i64 0,.int .i64 0,.bool false,.int .i64 0,.int .i64 0,.int .i64 0,.int .i64 0,.slice none 0 0,.int .i64 0] 26 (0,0))) := by rw [hu15]; exact Lib.hid (heap_alloc_new _ _)
          have HL15 : Hid (w.heap.size < u14.heap.size) := Lib.hid (lt_of_heap HZ14.out)
          refine hK.out _ _ HH15.out (fun hHeld => ?_)
          clear hK K hu15
          try simp only [Act.put,sa1,sa2,sa3]
          refine wpAnyH_ready (rs := [68]) (by rw [HOPS.out]; kernel_rfl) (by simp) ?_
          refine ready_named HOPS.out (l' := (bt 69 590295810358705651711)) (by simp only [ga1,ga2,ga3]; exact rfl) (by kernel_rfl) (fun K hK => ?_) AllReadyH.nil
          obtain ⟨u16,hst16,hg16,ho16,hz16⟩ := store26 (ih0 H) rfl rfl HG15.out
          refine step_store_run rfl 26 _ _ rfl ⟨u14.heap.size,0,none⟩ rfl _ rfl u16 hst16 ?_
          have hne16 : hb ≠ u14.heap.size := by have := HL15.out; omega
          have hgz16 : w.heap.size ≠ u14.heap.size := by have := HL15.out; omega
          have HH16 := Lib.hid ((ho16 hb hne16).trans HH15.out)
          refine hK.out _ _ HH16.out (fun hHeld => ?_)
          clear hK K
          refine wpAnyH_done (by rw [HOPS.out]; kernel_rfl) ?_ _
          refine HK1.out _ _ ?_
          exact ho4 w hb w.heap.size u14.heap.size H R hlt HRM.out HIN.out u16 HH16.out (hz16 _ _ HB15.out (Nat.le_of_lt HL15.out)) (Nat.le_refl _) (Nat.le_of_lt HL15.out) hgz16 hg16 _ rfl ((ho16 w.heap.size hgz16).trans HZ15.out) _ HRR.out
        · go_simp
          obtain ⟨u17,hu17⟩ : ∃ x,x = u13.alloc (.cells #[.int .u8 0,.string { data := #[] },.string { data := #[] },.int .i64 0,.int .i64 0,.int .i64 0,.int .i64 0,.string { data := #[] },.string { data := #[] },.int .i64 0,.int .i64 0,.bool false,.int .i64 0,.int .i64 0,.bool false,.int .i64 0,.int .i64 0,.int .i64 0,.int .i64 0,.slice none 0 0,.int .i64 0] 26) := ⟨_,rfl⟩
          rw [← hu17]
          have HB17 : Hid (Below w.heap.size w u17) := by rw [hu17]; exact Lib.hid (HB13.out.alloc HB13.out.size _)
          have HH17 : Hid (u17.heap[hb]? = some (.cells H.cells.toArray 130 (0,0))) := by rw [hu17]; exact Lib.hid ((Below.heap_alloc _ _ hb (lt_of_heap HH13.out)).trans HH13.out)
          have HZ17 : Hid (u17.heap[w.heap.size]? = some (.cells #[.int .u8 0,.string { data := #[] },.string { data := #[] },.int .i64 0,.int .i64 0,.int .i64 0,.int .i64 0,.string { data := #[] },.string { data := #[] },.int .i64 0,.int .i64 0,.bool false,.int .i64 0,.int .i64 0,.bool false,.int .i64 0,.int .i64 0,.int .i64 0,.int .i64 0,.slice none 0 0,.int .i64 0] 26 (0,0))) := by rw [hu17]; exact Lib.hid ((Below.heap_alloc _ _ w.heap.size (lt_of_heap HZ13.out)).trans HZ13.out)
          have HG17 : Hid (u17.heap[u13.heap.size]? = some (.cells #[.int .u8 0,.string { data := #[] },.string { data := #[] },.int .i64 0,.int .i64 0,.int .i64 0,.int .i64 0,.string { data := #[] },.string { data := #[] },.int .i64 0,.int .i64 0,.bool false,.int .i64 0,.int .i64 0,.bool false,.int .i64 0,.int .i64 0,.int .i64 0,.int .i64 0,.slice none 0 0,.int .i64 0] 26 (0,0))) := by rw [hu17]; exact Lib.hid (heap_alloc_new _ _)
          have HL17 : Hid (w.heap.size < u13.heap.size) := Lib.hid (lt_of_heap HZ13.out)
          refine hK.out _ _ HH17.out (fun hHeld => ?_)
          clear hK K hu17
          try simp only [Act.put,sa1,sa2,sa3]
          refine wpAnyH_ready (rs := [65]) (by rw [HOPS.out]; kernel_rfl) (by simp) ?_
          refine ready_named HOPS.out (l' := (bt 69 221360928884514619391)) (by simp only [ga1,ga2,ga3]; exact rfl) (by kernel_rfl) (fun K hK => ?_) AllReadyH.nil
          go_simp
          go_at_call 75
          refine (HFO.out _).mono ?_
          rintro e u18 ⟨rfl,hb18⟩
          have HB18 := Lib.hid (HB17.out.trans (hb18.mono HB17.out.size))
          have HH18 := Lib.hid ((hb18.block hb (lt_of_heap HH17.out)).trans HH17.out)
          have HZ18 := Lib.hid ((hb18.block w.heap.size (lt_of_heap HZ17.out)).trans HZ17.out)
          have HG18 := Lib.hid ((hb18.block u13.heap.size (lt_of_heap HG17.out)).trans HG17.out)
          refine hK.out _ _ HH18.out (fun hHeld => ?_)
          clear hK K hb18
          try simp only [Act.put,sa1,sa2,sa3]
          refine take_named HOPS.out (i := 66) (d := (some 76)) (v := ?vn1866) (a' := ?an1866) (l' := (bt 69 295147905179352825855)) (by simp only [ga1,ga2,ga3]; exact rfl) (by kernel_rfl) (by kernel_rfl) (by kernel_rfl) (fun _ _ _ h => h) (Or.inl ⟨by rfl,?hyn1866⟩) (by assumption) (by rfl) ?han1866 (by kernel_rfl) ?rn1866
          case hyn1866 => intro w hSw; go_simp; try with_reducible rfl
          case han1866 => simp only [Act.put,sa1,sa2,sa3]; exact rfl
          refine wpAnyH_ready (rs := [68]) (by rw [HOPS.out]; kernel_rfl) (by simp) ?_
          refine ready_named HOPS.out (l' := (bt 69 590295810358705651711)) (by simp only [ga1,ga2,ga3]; exact rfl) (by kernel_rfl) (fun K hK => ?_) AllReadyH.nil
          obtain ⟨u19,hst19,hg19,ho19,hz19⟩ := store26 (ih0 H) rfl rfl HG18.out
          refine step_store_run rfl 26 _ _ rfl ⟨u13.heap.size,0,none⟩ rfl _ rfl u19 hst19 ?_
          have hne19 : hb ≠ u13.heap.size := by have := HL17.out; omega
          have hgz19 : w.heap.size ≠ u13.heap.size := by have := HL17.out; omega
          have HH19 := Lib.hid ((ho19 hb hne19).trans HH18.out)
          refine hK.out _ _ HH19.out (fun hHeld => ?_)
          clear hK K
          refine wpAnyH_done (by rw [HOPS.out]; kernel_rfl) ?_ _
          refine HK1.out _ _ ?_
          exact ho4 w hb w.heap.size u13.heap.size H R hlt HRM.out HIN.out u19 HH19.out (hz19 _ _ HB18.out (Nat.le_of_lt HL17.out)) (Nat.le_refl _) (Nat.le_of_lt HL17.out) hgz19 hg19 _ rfl ((ho19 w.heap.size hgz19).trans HZ18.out) _ HRR.out
      · go_simp
        obtain ⟨u20,hu20⟩ : ∃ x,x = u12.alloc (.cells #[.int .u8 0,.string { data := #[] },.string { data := #[] },.int .i64 0,.int .i64 0,.int .i64 0,.int .i64 0,.string { data := #[] },.string { data := #[] },.int .i64 0,.int .i64 0,.bool false,.int .i64 0,.int .i64 0,.bool false,.int .i64 0,.int .i64 0,.int .i64 0,.int .i64 0,.slice none 0 0,.int .i64 0] 26) := ⟨_,rfl⟩
        rw [← hu20]
        have HB20 : Hid (Below w.heap.size w u20) := by rw [hu20]; exact Lib.hid (HB12.out.alloc HB12.out.size _)
        have HH20 : Hid (u20.heap[hb]? = some (.cells H.cells.toArray 130 (0,0))) := by rw [hu20]; exact Lib.hid ((Below.heap_alloc _ _ hb (lt_of_heap HH12.out)).trans HH12.out)
        have HZ20 : Hid (u20.heap[w.heap.size]? = some (.cells #[.int .u8 0,.string { data := #[] },.string { data := #[] },.int .i64 0,.int .i64 0,.int .i64 0,.int .i64 0,.string { data := #[] },.string { data := #[] },.int .i64 0,.int .i64 0,.bool false,.int .i64 0,.int .i64 0,.bool false,.int .i64 0,.int .i64 0,.int .i64 0,.int .i64 0,.slice none 0 0,.int .i64 0] 26 (0,0))) := by rw [hu20]; exact Lib.hid ((Below.heap_alloc _ _ w.heap.size (lt_of_heap HZ12.out)).trans HZ12.out)
        have HG20 : Hid (u20.heap[u12.heap.size]? = some (.cells #[.int .u8 0,.string { data := #[] },.string { data := #[] },.int .i64 0,.int .i64 0,.int .i64 0,.int .i64 0,.string { data := #[] },.string { data := #[] },.int .i64 0,.int .i64 0,.bool false,.int .i64 0,.int .i64 0,.bool false,.int .i64 0,.int .i64 0,.int .i64 0,.int .i64 0,.slice none 0 0,.int .i64 0] 26 (0,0))) := by rw [hu20]; exact Lib.hid (heap_alloc_new _ _)
        have HL20 : Hid (w.heap.size < u12.heap.size) := Lib.hid (lt_of_heap HZ12.out)
        refine hK.out _ _ HH20.out (fun hHeld => ?_)
        clear hK K hu20
        try simp only [Act.put,sa1,sa2,sa3]
        refine wpAnyH_ready (rs := [51]) (by rw [HOPS.out]; kernel_rfl) (by simp) ?_
        refine ready_named HOPS.out (l' := (bt 69 184462937137468145663)) (by simp only [ga1,ga2,ga3]; exact rfl) (by kernel_rfl) (fun K hK => ?_) AllReadyH.nil
        go_simp
        go_at_call 74
        refine (HZC.out _).mono ?_
        rintro e u21 ⟨rfl,hb21⟩
        have HB21 := Lib.hid (HB20.out.trans (hb21.mono HB20.out.size))
        have HH21 := Lib.hid ((hb21.block hb (lt_of_heap HH20.out)).trans HH20.out)
        have HZ21 := Lib.hid ((hb21.block w.heap.size (lt_of_heap HZ20.out)).trans HZ20.out)
        have HG21 := Lib.hid ((hb21.block u12.heap.size (lt_of_heap HG20.out)).trans HG20.out)
        refine hK.out _ _ HH21.out (fun hHeld => ?_)
        clear hK K hb21
        try simp only [Act.put,sa1,sa2,sa3]
        refine take_named HOPS.out (i := 52) (d := (some 62)) (v := ?vn2152) (a' := ?an2152) (l' := (bt 69 184467440737095516159)) (by simp only [ga1,ga2,ga3]; exact rfl) (by kernel_rfl) (by kernel_rfl) (by kernel_rfl) (fun _ _ _ h => h) (Or.inl ⟨by rfl,?hyn2152⟩) (by assumption) (by rfl) ?han2152 (by kernel_rfl) ?rn2152
        case hyn2152 => intro w hSw; go_simp; try with_reducible rfl
        case han2152 => simp only [Act.put,sa1,sa2,sa3]; exact rfl
        refine wpAnyH_ready (rs := [65]) (by rw [HOPS.out]; kernel_rfl) (by simp) ?_
        refine ready_named HOPS.out (l' := (bt 69 221360928884514619391)) (by simp only [ga1,ga2,ga3]; exact rfl) (by kernel_rfl) (fun K hK => ?_) AllReadyH.nil
        go_simp
        go_at_call 75
        refine (HFO.out _).mono ?_
        rintro e u22 ⟨rfl,hb22⟩
        have HB22 := Lib.hid (HB21.out.trans (hb22.mono HB21.out.size))
        have HH22 := Lib.hid ((hb22.block hb (lt_of_heap HH21.out)).trans HH21.out)
        have HZ22 := Lib.hid ((hb22.block w.heap.size (lt_of_heap HZ21.out)).trans HZ21.out)
        have HG22 := Lib.hid ((hb22.block u12.heap.size (lt_of_heap HG21.out)).trans HG21.out)
        refine hK.out _ _ HH22.out (fun hHeld => ?_)
        clear hK K hb22
        try simp only [Act.put,sa1,sa2,sa3]
        refine take_named HOPS.out (i := 66) (d := (some 76)) (v := ?vn2266) (a' := ?an2266) (l' := (bt 69 295147905179352825855)) (by simp only [ga1,ga2,ga3]; exact rfl) (by kernel_rfl) (by kernel_rfl) (by kernel_rfl) (fun _ _ _ h => h) (Or.inl ⟨by rfl,?hyn2266⟩) (by assumption) (by rfl) ?han2266 (by kernel_rfl) ?rn2266
        case hyn2266 => intro w hSw; go_simp; try with_reducible rfl
        case han2266 => simp only [Act.put,sa1,sa2,sa3]; exact rfl
        refine wpAnyH_ready (rs := [68]) (by rw [HOPS.out]; kernel_rfl) (by simp) ?_
        refine ready_named HOPS.out (l' := (bt 69 590295810358705651711)) (by simp only [ga1,ga2,ga3]; exact rfl) (by kernel_rfl) (fun K hK => ?_) AllReadyH.nil
        obtain ⟨u23,hst23,hg23,ho23,hz23⟩ := store26 (ih0 H) rfl rfl HG22.out
        refine step_store_run rfl 26 _ _ rfl ⟨u12.heap.size,0,none⟩ rfl _ rfl u23 hst23 ?_
        have hne23 : hb ≠ u12.heap.size := by have := HL20.out; omega
        have hgz23 : w.heap.size ≠ u12.heap.size := by have := HL20.out; omega
        have HH23 := Lib.hid ((ho23 hb hne23).trans HH22.out)
        refine hK.out _ _ HH23.out (fun hHeld => ?_)
        clear hK K
        refine wpAnyH_done (by rw [HOPS.out]; kernel_rfl) ?_ _
        refine HK1.out _ _ ?_
        exact ho4 w hb w.heap.size u12.heap.size H R hlt HRM.out HIN.out u23 HH23.out (hz23 _ _ HB22.out (Nat.le_of_lt HL20.out)) (Nat.le_refl _) (Nat.le_of_lt HL20.out) hgz23 hg23 _ rfl ((ho23 w.heap.size hgz23).trans HZ22.out) _ HRR.out
    · go_simp
      obtain ⟨u24,hu24⟩ : ∃ x,x = u11.alloc (.cells #[.int .u8 0,.string { data := #[] },.string { data := #[] },.int .i64 0,.int .i64 0,.int .i64 0,.int .i64 0,.string { data := #[] },.string { data := #[] },.int .i64 0,.int .i64 0,.bool false,.int .i64 0,.int .i64 0,.bool false,.int .i64 0,.int .i64 0,.int .i64 0,.int .i64 0,.slice none 0 0,.int .i64 0] 26) := ⟨_,rfl⟩
      rw [← hu24]
      have HB24 : Hid (Below w.heap.size w u24) := by rw [hu24]; exact Lib.hid (HB11.out.alloc HB11.out.size _)
      have HH24 : Hid (u24.heap[hb]? = some (.cells H.cells.toArray 130 (0,0))) := by rw [hu24]; exact Lib.hid ((Below.heap_alloc _ _ hb (lt_of_heap HH11.out)).trans HH11.out)
      have HZ24 : Hid (u24.heap[w.heap.size]? = some (.cells #[.int .u8 0,.string { data := #[] },.string { data := #[] },.int .i64 0,.int .i64 0,.int .i64 0,.int .i64 0,.string { data := #[] },.string { data := #[] },.int .i64 0,.int .i64 0,.bool false,.int .i64 0,.int .i64 0,.bool false,.int .i64 0,.int .i64 0,.int .i64 0,.int .i64 0,.slice none 0 0,.int .i64 0] 26 (0,0))) := by rw [hu24]; exact Lib.hid ((Below.heap_alloc _ _ w.heap.size (lt_of_heap HZ11.out)).trans HZ11.out)
      have HG24 : Hid (u24.heap[u11.heap.size]? = some (.cells #[.int .u8 0,.string { data := #[] },.string { data := #[] },.int .i64 0,.int .i64 0,.int .i64 0,.int .i64 0,.string { data := #[] },.string { data := #[] },.int .i64 0,.int .i64 0,.bool false,.int .i64 0,.int .i64 0,.bool false,.int .i64 0,.int .i64 0,.int .i64 0,.int .i64 0,.slice none 0 0,.int .i64 0] 26 (0,0))) := by rw [hu24]; exact Lib.hid (heap_alloc_new _ _)
      have HL24 : Hid (w.heap.size < u11.heap.size) := Lib.hid (lt_of_heap HZ11.out)
      refine hK.out _ _ HH24.out (fun hHeld => ?_)
      clear hK K hu24
      try simp only [Act.put,sa1,sa2,sa3]
      refine wpAnyH_ready (rs := [45]) (by rw [HOPS.out]; kernel_rfl) (by simp) ?_
      refine ready_named HOPS.out (l' := (bt 69 184460614968910282751)) (by simp only [ga1,ga2,ga3]; exact rfl) (by kernel_rfl) (fun K hK => ?_) AllReadyH.nil
      go_simp
      go_at_call 74
      refine (HZA.out _).mono ?_
      rintro e u25 ⟨rfl,hb25⟩
      have HB25 := Lib.hid (HB24.out.trans (hb25.mono HB24.out.size))
      have HH25 := Lib.hid ((hb25.block hb (lt_of_heap HH24.out)).trans HH24.out)
      have HZ25 := Lib.hid ((hb25.block w.heap.size (lt_of_heap HZ24.out)).trans HZ24.out)
      have HG25 := Lib.hid ((hb25.block u11.heap.size (lt_of_heap HG24.out)).trans HG24.out)
      refine hK.out _ _ HH25.out (fun hHeld => ?_)
      clear hK K hb25
      try simp only [Act.put,sa1,sa2,sa3]
      refine take_named HOPS.out (i := 46) (d := (some 56)) (v := ?vn2546) (a' := ?an2546) (l' := (bt 69 184460685337654460415)) (by simp only [ga1,ga2,ga3]; exact rfl) (by kernel_rfl) (by kernel_rfl) (by kernel_rfl) (fun _ _ _ h => h) (Or.inl ⟨by rfl,?hyn2546⟩) (by assumption) (by rfl) ?han2546 (by kernel_rfl) ?rn2546
      case hyn2546 => intro w hSw; go_simp; try with_reducible rfl
      case han2546 => simp only [Act.put,sa1,sa2,sa3]; exact rfl
      refine wpAnyH_ready (rs := [51]) (by rw [HOPS.out]; kernel_rfl) (by simp) ?_
      refine ready_named HOPS.out (l' := (bt 69 184462937137468145663)) (by simp only [ga1,ga2,ga3]; exact rfl) (by kernel_rfl) (fun K hK => ?_) AllReadyH.nil
      go_simp
      go_at_call 74
      refine (HZC.out _).mono ?_
      rintro e u26 ⟨rfl,hb26⟩
      have HB26 := Lib.hid (HB25.out.trans (hb26.mono HB25.out.size))
      have HH26 := Lib.hid ((hb26.block hb (lt_of_heap HH25.out)).trans HH25.out)
      have HZ26 := Lib.hid ((hb26.block w.heap.size (lt_of_heap HZ25.out)).trans HZ25.out)
      have HG26 := Lib.hid ((hb26.block u11.heap.size (lt_of_heap HG25.out)).trans HG25.out)
      refine hK.out _ _ HH26.out (fun hHeld => ?_)
      clear hK K hb26
      try simp only [Act.put,sa1,sa2,sa3]
      refine take_named HOPS.out (i := 52) (d := (some 62)) (v := ?vn2652) (a' := ?an2652) (l' := (bt 69 184467440737095516159)) (by simp only [ga1,ga2,ga3]; exact rfl) (by kernel_rfl) (by kernel_rfl) (by kernel_rfl) (fun _ _ _ h => h) (Or.inl ⟨by rfl,?hyn2652⟩) (by assumption) (by rfl) ?han2652 (by kernel_rfl) ?rn2652
      case hyn2652 => intro w hSw; go_simp; try with_reducible rfl
      case han2652 => simp only [Act.put,sa1,sa2,sa3]; exact rfl
      refine wpAnyH_ready (rs := [65]) (by rw [HOPS.out]; kernel_rfl) (by simp) ?_
      refine ready_named HOPS.out (l' := (bt 69 221360928884514619391)) (by simp only [ga1,ga2,ga3]; exact rfl) (by kernel_rfl) (fun K hK => ?_) AllReadyH.nil
      go_simp
      go_at_call 75
      refine (HFO.out _).mono ?_
      rintro e u27 ⟨rfl,hb27⟩
      have HB27 := Lib.hid (HB26.out.trans (hb27.mono HB26.out.size))
      have HH27 := Lib.hid ((hb27.block hb (lt_of_heap HH26.out)).trans HH26.out)
      have HZ27 := Lib.hid ((hb27.block w.heap.size (lt_of_heap HZ26.out)).trans HZ26.out)
      have HG27 := Lib.hid ((hb27.block u11.heap.size (lt_of_heap HG26.out)).trans HG26.out)
      refine hK.out _ _ HH27.out (fun hHeld => ?_)
      clear hK K hb27
      try simp only [Act.put,sa1,sa2,sa3]
      refine take_named HOPS.out (i := 66) (d := (some 76)) (v := ?vn2766) (a' := ?an2766) (l' := (bt 69 295147905179352825855)) (by simp only [ga1,ga2,ga3]; exact rfl) (by kernel_rfl) (by kernel_rfl) (by kernel_rfl) (fun _ _ _ h => h) (Or.inl ⟨by rfl,?hyn2766⟩) (by assumption) (by rfl) ?han2766 (by kernel_rfl) ?rn2766
      case hyn2766 => intro w hSw; go_simp; try with_reducible rfl
      case han2766 => simp only [Act.put,sa1,sa2,sa3]; exact rfl
      refine wpAnyH_ready (rs := [68]) (by rw [HOPS.out]; kernel_rfl) (by simp) ?_
      refine ready_named HOPS.out (l' := (bt 69 590295810358705651711)) (by simp only [ga1,ga2,ga3]; exact rfl) (by kernel_rfl) (fun K hK => ?_) AllReadyH.nil
      obtain ⟨u28,hst28,hg28,ho28,hz28⟩ := store26 (ih0 H) rfl rfl HG27.out
      refine step_store_run rfl 26 _ _ rfl ⟨u11.heap.size,0,none⟩ rfl _ rfl u28 hst28 ?_
      have hne28 : hb ≠ u11.heap.size := by have := HL24.out; omega
      have hgz28 : w.heap.size ≠ u11.heap.size := by have := HL24.out; omega
      have HH28 := Lib.hid ((ho28 hb hne28).trans HH27.out)
      refine hK.out _ _ HH28.out (fun hHeld => ?_)
      clear hK K
      refine wpAnyH_done (by rw [HOPS.out]; kernel_rfl) ?_ _
      refine HK1.out _ _ ?_
      exact ho4 w hb w.heap.size u11.heap.size H R hlt HRM.out HIN.out u28 HH28.out (hz28 _ _ HB27.out (Nat.le_of_lt HL24.out)) (Nat.le_refl _) (Nat.le_of_lt HL24.out) hgz28 hg28 _ rfl ((ho28 w.heap.size hgz28).trans HZ27.out) _ HRR.out
  · go_simp
    obtain ⟨u29,hu29⟩ : ∃ x,x = v1.alloc (.cells #[.int .u8 0,.string { data := #[] },.string { data := #[] },.int .i64 0,.int .i64 0,.int .i64 0,.int .i64 0,.string { data := #[] },.string { data := #[] },.int .i64 0,.int .i64 0,.bool false,.int .i64 0,.int .i64 0,.bool false,.int .i64 0,.int .i64 0,.int .i64 0,.int .i64 0,.slice none 0 0,.int .i64 0] 26) := ⟨_,rfl⟩
    rw [← hu29]
    have HB29 : Hid (Below w.heap.size w u29) := by rw [hu29]; exact Lib.hid (HBD.out.alloc HBD.out.size _)
    have HH29 : Hid (u29.heap[hb]? = some (.cells H.cells.toArray 130 (0,0))) := by rw [hu29]; exact Lib.hid ((Below.heap_alloc _ _ hb (lt_of_heap HHD.out)).trans HHD.out)
    have HZ29 : Hid (u29.heap[w.heap.size]? = some (.cells #[.int .u8 0,.string { data := #[] },.string { data := #[] },.int .i64 0,.int .i64 0,.int .i64 0,.int .i64 0,.string { data := #[] },.string { data := #[] },.int .i64 0,.int .i64 0,.bool false,.int .i64 0,.int .i64 0,.bool false,.int .i64 0,.int .i64 0,.int .i64 0,.int .i64 0,.slice none 0 0,.int .i64 0] 26 (0,0))) := by rw [hu29]; exact Lib.hid ((Below.heap_alloc _ _ w.heap.size (lt_of_heap HGD.out)).trans HGD.out)
    have HG29 : Hid (u29.heap[v1.heap.size]? = some (.cells #[.int .u8 0,.string { data := #[] },.string { data := #[] },.int .i64 0,.int .i64 0,.int .i64 0,.int .i64 0,.string { data := #[] },.string { data := #[] },.int .i64 0,.int .i64 0,.bool false,.int .i64 0,.int .i64 0,.bool false,.int .i64 0,.int .i64 0,.int .i64 0,.int .i64 0,.slice none 0 0,.int .i64 0] 26 (0,0))) := by rw [hu29]; exact Lib.hid (heap_alloc_new _ _)
    have HL29 : Hid (w.heap.size < v1.heap.size) := Lib.hid (lt_of_heap HGD.out)
    refine hK.out _ _ HH29.out (fun hHeld => ?_)
    clear hK K hu29
    try simp only [Act.put,sa1,sa2,sa3]
    refine wpAnyH_ready (rs := [40]) (by rw [HOPS.out]; kernel_rfl) (by simp) ?_
    refine ready_named HOPS.out (l' := (bt 69 184460579784538193919)) (by simp only [ga1,ga2,ga3]; exact rfl) (by kernel_rfl) (fun K hK => ?_) AllReadyH.nil
    go_simp
    go_at_call 73
    refine (HT.out _).mono ?_
    rintro e u30 ⟨rfl,hb30⟩
    have HB30 := Lib.hid (HB29.out.trans (hb30.mono HB29.out.size))
    have HH30 := Lib.hid ((hb30.block hb (lt_of_heap HH29.out)).trans HH29.out)
    have HZ30 := Lib.hid ((hb30.block w.heap.size (lt_of_heap HZ29.out)).trans HZ29.out)
    have HG30 := Lib.hid ((hb30.block v1.heap.size (lt_of_heap HG29.out)).trans HG29.out)
    refine hK.out _ _ HH30.out (fun hHeld => ?_)
    clear hK K hb30
    try simp only [Act.put,sa1,sa2,sa3]
    refine wpAnyH_ready (rs := [45]) (by rw [HOPS.out]; kernel_rfl) (by simp) ?_
    refine ready_named HOPS.out (l' := (bt 69 184460614968910282751)) (by simp only [ga1,ga2,ga3]; exact rfl) (by kernel_rfl) (fun K hK => ?_) AllReadyH.nil
    go_simp
    go_at_call 74
    refine (HZA.out _).mono ?_
    rintro e u31 ⟨rfl,hb31⟩
    have HB31 := Lib.hid (HB30.out.trans (hb31.mono HB30.out.size))
    have HH31 := Lib.hid ((hb31.block hb (lt_of_heap HH30.out)).trans HH30.out)
    have HZ31 := Lib.hid ((hb31.block w.heap.size (lt_of_heap HZ30.out)).trans HZ30.out)
    have HG31 := Lib.hid ((hb31.block v1.heap.size (lt_of_heap HG30.out)).trans HG30.out)
    refine hK.out _ _ HH31.out (fun hHeld => ?_)
    clear hK K hb31
    try simp only [Act.put,sa1,sa2,sa3]
    refine take_named HOPS.out (i := 46) (d := (some 56)) (v := ?vn3146) (a' := ?an3146) (l' := (bt 69 184460685337654460415)) (by simp only [ga1,ga2,ga3]; exact rfl) (by kernel_rfl) (by kernel_rfl) (by kernel_rfl) (fun _ _ _ h => h) (Or.inl ⟨by rfl,?hyn3146⟩) (by assumption) (by rfl) ?han3146 (by kernel_rfl) ?rn3146
    case hyn3146 => intro w hSw; go_simp; try with_reducible rfl
    case han3146 => simp only [Act.put,sa1,sa2,sa3]; exact rfl
    refine wpAnyH_ready (rs := [51]) (by rw [HOPS.out]; kernel_rfl) (by simp) ?_
    refine ready_named HOPS.out (l' := (bt 69 184462937137468145663)) (by simp only [ga1,ga2,ga3]; exact rfl) (by kernel_rfl) (fun K hK => ?_) AllReadyH.nil
    go_simp
    go_at_call 74
    refine (HZC.out _).mono ?_
    rintro e u32 ⟨rfl,hb32⟩
    have HB32 := Lib.hid (HB31.out.trans (hb32.mono HB31.out.size))
    have HH32 := Lib.hid ((hb32.block hb (lt_of_heap HH31.out)).trans HH31.out)
    have HZ32 := Lib.hid ((hb32.block w.heap.size (lt_of_heap HZ31.out)).trans HZ31.out)
    have HG32 := Lib.hid ((hb32.block v1.heap.size (lt_of_heap HG31.out)).trans HG31.out)
    refine hK.out _ _ HH32.out (fun hHeld => ?_)
    clear hK K hb32
    try simp only [Act.put,sa1,sa2,sa3]
    refine take_named HOPS.out (i := 52) (d := (some 62)) (v := ?vn3252) (a' := ?an3252) (l' := (bt 69 184467440737095516159)) (by simp only [ga1,ga2,ga3]; exact rfl) (by kernel_rfl) (by kernel_rfl) (by kernel_rfl) (fun _ _ _ h => h) (Or.inl ⟨by rfl,?hyn3252⟩) (by assumption) (by rfl) ?han3252 (by kernel_rfl) ?rn3252
    case hyn3252 => intro w hSw; go_simp; try with_reducible rfl
    case han3252 => simp only [Act.put,sa1,sa2,sa3]; exact rfl
    refine wpAnyH_ready (rs := [65]) (by rw [HOPS.out]; kernel_rfl) (by simp) ?_
    refine ready_named HOPS.out (l' := (bt 69 221360928884514619391)) (by simp only [ga1,ga2,ga3]; exact rfl) (by kernel_rfl) (fun K hK => ?_) AllReadyH.nil
    go_simp
    go_at_call 75
    refine (HFO.out _).mono ?_
    rintro e u33 ⟨rfl,hb33⟩
    have HB33 := Lib.hid (HB32.out.trans (hb33.mono HB32.out.size))
    have HH33 := Lib.hid ((hb33.block hb (lt_of_heap HH32.out)).trans HH32.out)
    have HZ33 := Lib.hid ((hb33.block w.heap.size (lt_of_heap HZ32.out)).trans HZ32.out)
    have HG33 := Lib.hid ((hb33.block v1.heap.size (lt_of_heap HG32.out)).trans HG32.out)
    refine hK.out _ _ HH33.out (fun hHeld => ?_)
    clear hK K hb33
    try simp only [Act.put,sa1,sa2,sa3]
    refine take_named HOPS.out (i := 66) (d := (some 76)) (v := ?vn3366) (a' := ?an3366) (l' := (bt 69 295147905179352825855)) (by simp only [ga1,ga2,ga3]; exact rfl) (by kernel_rfl) (by kernel_rfl) (by kernel_rfl) (fun _ _ _ h => h) (Or.inl ⟨by rfl,?hyn3366⟩) (by assumption) (by rfl) ?han3366 (by kernel_rfl) ?rn3366
    case hyn3366 => intro w hSw; go_simp; try with_reducible rfl
    case han3366 => simp only [Act.put,sa1,sa2,sa3]; exact rfl
    refine wpAnyH_ready (rs := [68]) (by rw [HOPS.out]; kernel_rfl) (by simp) ?_
    refine ready_named HOPS.out (l' := (bt 69 590295810358705651711)) (by simp only [ga1,ga2,ga3]; exact rfl) (by kernel_rfl) (fun K hK => ?_) AllReadyH.nil
    obtain ⟨u34,hst34,hg34,ho34,hz34⟩ := store26 (ih0 H) rfl rfl HG33.out
    refine step_store_run rfl 26 _ _ rfl ⟨v1.heap.size,0,none⟩ rfl _ rfl u34 hst34 ?_
    have hne34 : hb ≠ v1.heap.size := by have := HL29.out; omega
    have hgz34 : w.heap.size ≠ v1.heap.size := by have := HL29.out; omega
    have HH34 := Lib.hid ((ho34 hb hne34).trans HH33.out)
    refine hK.out _ _ HH34.out (fun hHeld => ?_)
    clear hK K
    refine wpAnyH_done (by rw [HOPS.out]; kernel_rfl) ?_ _
    refine HK1.out _ _ ?_
    exact ho4 w hb w.heap.size v1.heap.size H R hlt HRM.out HIN.out u34 HH34.out (hz34 _ _ HB33.out (Nat.le_of_lt HL29.out)) (Nat.le_refl _) (Nat.le_of_lt HL29.out) hgz34 hg34 _ rfl ((ho34 w.heap.size hgz34).trans HZ33.out) _ HRR.out
end Go.Proofs.YtkanmkcojlefbaaGreatDoor
