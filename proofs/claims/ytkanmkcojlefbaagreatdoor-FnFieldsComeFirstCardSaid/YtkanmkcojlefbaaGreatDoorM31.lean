/-
  Part of the proof; holds the texts WData, WRaw.
-/
import Derived.Test.YtkanmkcojlefbaaGreatDoorM19
import Derived.Stop.Asserts
import Derived.Test.YtkanmkcojlefbaaGreatDoorM01
import Derived.Deep.DeepCutAuto
set_option maxRecDepth 100000
set_option linter.unusedSimpArgs false
set_option linter.unusedVariables false
namespace Go.Proofs.YtkanmkcojlefbaaGreatDoor
open Go.RowKit
theorem m_fwrite (w : World) (a : Addr) : (method 511 119 (.pointer (some a)) "Write").run Tryz.prog w = .ok (342,.pointer (some a)) w := by kernel_rfl
theorem m_twrite (w : World) (a : Addr) : (method 511 73 (.pointer (some a)) "Write").run Tryz.prog w = .ok (40,.pointer (some a)) w := by kernel_rfl
theorem fwWrite (w : World) (B b fw : Nat) (bs ds : List UInt8) (g o n c : Nat) (nb : Int) (hB : Buf B b bs w) (hBw : B ≤ w.heap.size) (hf : FW fw b nb w) (hn : ds.length = n) (h0 : n ≠ 0) (hnb : (n : Int) ≤ nb) (hnb2 : nb ≤ 9223372036854775807) (hgb : g ≠ b) (hat : At w g o (Lib.byteCells ds)) (hlim : bs.length + n ≤ 140737488355328) :
    Calls Tryz.prog 342 #[.pointer (some ⟨fw,0,none⟩),.slice (some ⟨g,o,none⟩) n c] w fun e w' => e = .returned (.tuple #[.int .i64 n,.nilIface]) ∧ Buf B b (bs ++ ds) w' ∧ FW fw b (nb - n) w' ∧ Fr B [b,fw] w w' := by
  have HC := Lib.hid (bufWrite B b bs ds g o n c w hB hBw hn hgb hat hlim)
  have m2 := m_write
  have c0 : w.cell? ⟨fw,0,none⟩ = some (.iface 75 (.pointer (some ⟨b,0,none⟩))) := by rw [Lib.cell_of_heap hf]; rfl
  have c1 : w.cell? ⟨fw,1,none⟩ = some (.int .i64 nb) := by rw [Lib.cell_of_heap hf]; rfl
  have hb := hB.ne hf (by decide)
  have h1 : ¬ nb < (n : Int) := by omega
  have h2 : (0 : Int) < (n : Int) := by omega
  have HF := Lib.hid hf
  clear hat hn hB hf hnb
  go_enter Tryz.func342,Tryz.ntmps342
  go_wp2_with fail
  refine HC.out.mono ?_
  rintro e w2 ⟨rfl,hB2,hF2⟩
  have hf2 : FW fw b nb w2 := hF2.cells HF.out (by simpa using hb) (.inr (by decide))
  have c1b : w2.cell? ⟨fw,1,none⟩ = some (.int .i64 nb) := by rw [Lib.cell_of_heap hf2]; rfl
  have z1b : w2.frozen? ⟨fw,1,none⟩ = false := Lib.frozen_of_heap hf2 1
  have HB2 := Lib.hid hB2; have HF2 := Lib.hid hF2; have Hf2 := Lib.hid hf2
  clear hB2 hF2 hf2 c0 c1 HC
  go_wp2_with fail
  go_ret2
  have q := heap_set_same (i := 1) (.int .i64 (nb - n)) Hf2.out
  refine ⟨rfl,HB2.out.setCell (p := ⟨fw,1,none⟩) Hf2.out (by decide) (by decide) _,q,(HF2.out.wide (Nat.le_refl _) (by simp)).setCell (p := ⟨fw,1,none⟩) (.inl (by simp)) _⟩
theorem fwWrite0 (w : World) (b fw : Nat) (p : Option Addr) (c : Nat) (nb : Int) (hf : FW fw b nb w) (hnb : 0 ≤ nb) :
    Calls Tryz.prog 342 #[.pointer (some ⟨fw,0,none⟩),.slice p 0 c] w (RetSame w (.tuple #[.int .i64 0,.nilIface])) := by
  have c1 : w.cell? ⟨fw,1,none⟩ = some (.int .i64 nb) := by rw [Lib.cell_of_heap hf]; rfl
  have h1 : ¬ nb < (0 : Int) := by omega
  clear hf
  go_enter Tryz.func342,Tryz.ntmps342
  go_wp2_with fail
  go_ret2
  exact ⟨rfl,rfl⟩
theorem twWrite (w : World) (B b tw fw : Nat) (pad : Int) (hdr blk : List Value) (bs ds : List UInt8) (g o n c : Nat) (nb : Int) (hW : TW tw b fw pad hdr blk .nilIface w) (hB : Buf B b bs w) (hBw : B ≤ w.heap.size) (hf : FW fw b nb w) (hn : ds.length = n) (h0 : n ≠ 0) (hnb : (n : Int) ≤ nb) (hnb2 : nb ≤ 9223372036854775807) (hgb : g ≠ b) (hat : At w g o (Lib.byteCells ds)) (hlim : bs.length + n ≤ 140737488355328) :
    Calls Tryz.prog 40 #[.pointer (some ⟨tw,0,none⟩),.slice (some ⟨g,o,none⟩) n c] w fun e w' => e = .returned (.tuple #[.int .i64 n,.nilIface]) ∧ TW tw b fw pad hdr blk .nilIface w' ∧ Buf B b (bs ++ ds) w' ∧ FW fw b (nb - n) w' ∧ Fr B [b,fw] w w' := by
  have HC := Lib.hid (fwWrite w B b fw bs ds g o n c nb hB hBw hf hn h0 hnb hnb2 hgb hat hlim)
  have m2 := m_fwrite
  have c2 : w.cell? ⟨tw,2,none⟩ = some (.iface 119 (.pointer (some ⟨fw,0,none⟩))) := by rw [Lib.cell_of_heap hW.1]; exact wcells_2 ..
  obtain ⟨-,-,c535,-,-⟩ := twCells hW.2.1 hW.2.2 hW.1
  have htb : tw ≠ b := hB.ne hW.1 (by decide)
  have htf : tw ≠ fw := by rintro rfl; have := hW.1; rw [hf] at this; cases this
  have HW := Lib.hid hW
  clear hat hn hB hf hnb hW
  go_enter Tryz.func40,Tryz.ntmps40
  go_wp2_with fail
  refine HC.out.mono ?_
  rintro e w2 ⟨rfl,hB2,hf2,hF2⟩
  have HB2 := Lib.hid hB2; have HF2 := Lib.hid hF2; have Hf2 := Lib.hid hf2
  clear hB2 hF2 hf2 c2 c535 HC
  go_wp2_with fail
  go_ret2
  exact ⟨rfl,⟨HF2.out.cells HW.out.1 (by simp; exact ⟨htb,htf⟩) (.inr (by decide)),HW.out.2⟩,HB2.out,Hf2.out,HF2.out⟩
theorem twWrite0 (w : World) (b tw fw : Nat) (pad : Int) (hdr blk : List Value) (p : Option Addr) (c : Nat) (nb : Int) (hW : TW tw b fw pad hdr blk .nilIface w) (hf : FW fw b nb w) (hnb : 0 ≤ nb) :
    Calls Tryz.prog 40 #[.pointer (some ⟨tw,0,none⟩),.slice p 0 c] w (RetSame w (.tuple #[.int .i64 0,.nilIface])) := by
  have HC := Lib.hid (fwWrite0 w b fw p c nb hf hnb)
  have m2 := m_fwrite
  have c2 : w.cell? ⟨tw,2,none⟩ = some (.iface 119 (.pointer (some ⟨fw,0,none⟩))) := by rw [Lib.cell_of_heap hW.1]; exact wcells_2 ..
  obtain ⟨-,-,c535,-,-⟩ := twCells hW.2.1 hW.2.2 hW.1
  clear hf hW
  go_enter Tryz.func40,Tryz.ntmps40
  go_wp2_with fail
  refine HC.out.mono ?_
  rintro e w2 ⟨rfl,rfl⟩
  go_wp2_with fail
  go_ret2
  exact ⟨rfl,rfl⟩
theorem ta312 (w : World) (a : Addr) : (Instr.typeAssert (.iface 73 (.pointer (some a))) 118 312 true).run Tryz.prog w = .ok (.tuple #[.nilIface,.bool false]) w := run_typeAssert_lacksB Tryz.underlying312 (by kernel_rfl) (by kernel_rfl) _ 118 w
theorem conv_bytes (w : World) (l : List UInt8) : ∃ cap w',(convert 9 35 (str l)).run Tryz.prog w = .ok (.slice (some ⟨w.heap.size,0,none⟩) l.length cap) w' ∧ Below w.heap.size w w' ∧ At w' w.heap.size 0 (Lib.byteCells l) ∧ (∃ c fz,w'.heap[w.heap.size]? = some (.cells c 5 fz)) := by
  have h := run_bytes_of_string (P := Tryz.prog) w 9 35 5 ⟨l.toArray⟩ Tryz.underlying9 Tryz.underlying35 Tryz.underlying5
  rw [str_size] at h
  generalize hcap : grownCap w l.length 0 5 = cap at h
  have hnew : (w.drew.alloc (.cells (bytesRow ⟨l.toArray⟩ cap) 5 ((bytesRow ⟨l.toArray⟩ cap).size,(bytesRow ⟨l.toArray⟩ cap).size + 1))).heap[w.heap.size]? = some (.cells (bytesRow ⟨l.toArray⟩ cap) 5 ((bytesRow ⟨l.toArray⟩ cap).size,(bytesRow ⟨l.toArray⟩ cap).size + 1)) := heap_alloc_new w.drew _
  refine ⟨cap,_,h,(Below.refl _ w).drew.alloc (Nat.le_refl _) _,At.of_heap hnew (fun j v hj => ?_),_,_,hnew⟩
  rw [Nat.zero_add,bytesRow]
  have hj2 : j < l.length := by
    have := (List.getElem?_eq_some_iff.1 hj).1
    rwa [Lib.byteCells_length] at this
  rw [Array.getElem?_append_left (by simpa using hj2)]
  simpa [Lib.byteCells] using hj
theorem wrString (w : World) (B b tw fw : Nat) (pad : Int) (hdr blk : List Value) (bs ds : List UInt8) (nb : Int) (hW : TW tw b fw pad hdr blk .nilIface w) (hB : Buf B b bs w) (hBw : B ≤ w.heap.size) (hf : FW fw b nb w) (hnb : (ds.length : Int) ≤ nb) (hnb2 : nb ≤ 9223372036854775807) (hlim : bs.length + ds.length ≤ 140737488355328) :
    Calls Tryz.prog 194 #[.iface 73 (.pointer (some ⟨tw,0,none⟩)),str ds] w fun e w' => e = .returned (.tuple #[.int .i64 ds.length,.nilIface]) ∧ TW tw b fw pad hdr blk .nilIface w' ∧ Buf B b (bs ++ ds) w' ∧ FW fw b (nb - ds.length) w' ∧ Fr B [b,fw] w w' := by
  have m2 := m_twrite
  have ta := ta312
  obtain ⟨cap,w1,hcv,hb1,hat,c,fz,hnew⟩ := conv_bytes w ds
  have hlt := lt_of_heap hW.1
  have hlf := lt_of_heap hf
  have W1 : TW tw b fw pad hdr blk .nilIface w1 := ⟨(hb1.block tw hlt).trans hW.1,hW.2⟩
  have B1 : Buf B b bs w1 := hB.carry (B' := w.heap.size) (S := []) (Fr.of_below hb1 _ _) (Nat.le_refl _) (by simp) (by simp)
  have F1 : FW fw b nb w1 := (hb1.block fw hlf).trans hf
  have hgb : w.heap.size ≠ b := B1.ne hnew (by decide)
  have hfr : Fr B [b,fw] w w1 := (Fr.of_below hb1 w.heap.size [b,fw]).wide hBw (fun k hk _ => hk)
  have HFR := Lib.hid hfr
  have HW := Lib.hid W1
  cases hz : ds with
  | nil =>
    subst hz
    have HC := Lib.hid (twWrite0 w1 b tw fw pad hdr blk (some ⟨w.heap.size,0,none⟩) cap nb W1 F1 (by omega))
    have HB := Lib.hid B1; have HF := Lib.hid F1
    clear hW hB hf hat hnew hb1 W1 B1 F1 hfr
    rw [List.length_nil] at hcv
    go_enter Tryz.func194,Tryz.ntmps194
    go_wp2_with fail
    refine HC.out.mono ?_
    rintro e w2 ⟨rfl,rfl⟩
    go_wp2_with fail
    go_ret2
    refine ⟨rfl,HW.out,by rw [List.append_nil]; exact HB.out,?_,HFR.out⟩
    show FW fw b (nb - ((([] : List UInt8).length : Nat) : Int)) _
    rw [List.length_nil,Int.natCast_zero,Int.sub_zero]
    exact HF.out
  | cons d0 dr =>
    have h0 : ds.length ≠ 0 := by rw [hz]; simp
    rw [← hz]
    clear hz
    have HC := Lib.hid (twWrite w1 B b tw fw pad hdr blk bs ds w.heap.size 0 ds.length cap nb W1 B1 (Nat.le_trans hBw hb1.size) F1 rfl h0 hnb hnb2 hgb hat hlim)
    clear hW hB hf hat hnew hb1 W1 B1 F1 hfr
    go_enter Tryz.func194,Tryz.ntmps194
    go_wp2_with fail
    refine HC.out.mono ?_
    rintro e w2 ⟨rfl,r1,r2,r3,r4⟩
    have HR := Lib.hid (And.intro r1 (And.intro r2 (And.intro r3 r4)))
    clear r1 r2 r3 r4
    go_wp2_with fail
    go_ret2
    obtain ⟨r1,r2,r3,r4⟩ := HR.out
    exact ⟨rfl,r1,r2,r3,HFR.out.trans r4⟩
theorem WS.next1 {G0 : Nat} {E : Nat → Addr} {B tw b fw pad : Nat} {H : Hd} {blk blk2 bs : List UInt8} {err : Value} {w w' : World} (h : WS G0 E B tw b fw pad H blk bs err w) (f : Fr w.heap.size [tw] w w')
    (hW : TW tw b fw pad H.cells (Lib.byteCells blk2) err w') (h2 : blk2.length = 512) : WS G0 E B tw b fw pad H blk2 bs err w' := by
  refine ⟨hW,h.buf.carry (B' := w.heap.size) (S := [tw]) f (Nat.le_refl _) (by simp; exact Ne.symm h.tb) ?_,f.cells h.F (by simpa using h.tf) (.inr (by decide)),h.gl.fr f h.gl.le (by simpa using h.tG),h.BG,h.tG,h.fG,Nat.le_trans h.Bw f.size,h2⟩
  intro k hk c fz e
  obtain rfl := List.mem_singleton.1 hk
  rw [h.W.1] at e; cases e
structure RBlk (flag : Int) (n : Nat) (B : Blk) : Prop where
  ok : B.Ok
  typ : B.typ = [UInt8.ofNat flag.toNat]
  name : ∃ nm,asciiB nm = true ∧ FmtS (List.replicate 100 0) nm B.name
  link : B.link = List.replicate 100 0
  user : B.user = List.replicate 32 0
  group : B.group = List.replicate 32 0
  mode : B.mode = octField 8 0
  uid : B.uid = octField 8 0
  gid : B.gid = octField 8 0
  size : B.size = octField 12 n
  mtime : B.mtime = octField 12 0
  maj : B.maj = List.replicate 8 0
  mnr : B.mnr = List.replicate 8 0
  magic : B.magic = [117,115,116,97,114,0]
  ver : B.ver = [48,48]
  chk : B.chk = octField 7 (cks B.bytes 512) ++ [32]
  rest : B.rest = List.replicate 167 0
theorem asciiB_sub {l m : List UInt8} (h : asciiB l = true) (hs : ∀ b ∈ m,b ∈ l) : asciiB m = true := by
  simp only [asciiB,List.all_eq_true] at h ⊢
  exact fun b hb => h b (hs b hb)
theorem asciiB_trimR {l : List UInt8} (h : asciiB l = true) (c : UInt8) : asciiB (trimR l c) = true := by
  refine asciiB_sub h fun b hb => ?_
  rw [trimR,List.mem_reverse] at hb
  exact List.mem_reverse.1 ((List.dropWhile_suffix (p := (· == c)) (l := l.reverse)).subset hb)
theorem trimR_le (l : List UInt8) (c : UInt8) : (trimR l c).length ≤ l.length := by
  unfold trimR
  rw [List.length_reverse]
  have h := (List.dropWhile_suffix (p := (· == c)) (l := l.reverse)).length_le
  rwa [List.length_reverse] at h
set_option maxHeartbeats 4000000 in
theorem writeRawFile (G0 : Nat) (E : Nat → Addr) (B tw b fw pad : Nat) (H : Hd) (blk bs nm ds : List UInt8) (flag : Int) (w : World) (h : WS G0 E B tw b fw pad H blk bs .nilIface w) (hp : pad < 512) (hnm : nm.length ≤ 1048576) (hds : ds.length ≤ 1048576) (hfl : 0 ≤ flag ∧ flag < 256) (hho : hdrOnly flag = false) (hlim : bs.length + pad + 512 + ds.length ≤ 140737488355328) :
    Calls Tryz.prog 141 #[.pointer (some ⟨tw,0,none⟩),str nm,str ds,.int .u8 flag,.int .i64 4] w fun e w' => e = .returned .nilIface ∧ ∃ fw2 B2,RBlk flag ds.length B2 ∧ WS G0 E B tw b fw2 (padOf ds.length).toNat H B2.bytes (bs ++ List.replicate pad 0 ++ B2.bytes ++ ds) .nilIface w' ∧ w.heap.size ≤ fw2 ∧ Fr B [b,tw] w w' := by
  have hr := reset_calls w tw 134 _ _ _ h.W.seg h.blk512 23 (by simp [h.W.2.1])
  have HH := Lib.hid h
  have HHO := Lib.hid hho
  clear h hho
  go_enter Tryz.func141,Tryz.ntmps141
  go_wp2_with fail
  refine hr.mono ?_
  rintro e w1 ⟨rfl,s1,F1⟩
  rw [← Blk.zero_bytes] at s1
  have hWS1 : WS G0 E B tw b fw pad H Blk.zero.bytes bs .nilIface w1 := HH.out.next1 F1 (TW.of_seg s1 HH.out.W.2.1 Blk.zero_ok.len) Blk.zero_ok.len
  have HWS1 := Lib.hid hWS1; have HF1 := Lib.hid (F1.wide (B' := w.heap.size) (S' := [tw]) (Nat.le_refl _) (fun k hk _ => hk))
  have hta := toASCII_any nm w1 hnm
  clear hr s1 F1 hWS1
  go_wp2_with fail
  refine hta.mono ?_
  rintro e w2 ⟨⟨m,rfl,hm1,hm2,hm3⟩,hb2⟩
  have hWS2 := HWS1.out.below hb2
  have HWS2 := Lib.hid hWS2; have HB2 := Lib.hid hb2
  have hml : m.length ≤ 1048576 := by omega
  have HA := Lib.hid hm2
  clear hta hm1 hm2 hm3 hWS2 hb2
  go_upto_if 24 with fail
  go_cut [1] (fun s1 wx => (∃ m2 : List UInt8,(m2.length ≤ 100 ∧ asciiB m2 = true) ∧ s1 = str m2) ∧ wx = w2)
  case first =>
    by_cases hm100 : m.length ≤ 100
    · go_wp2_with fail
      go_meet
      exact ⟨⟨m,⟨hm100,HA.out⟩,rfl⟩,rfl⟩
    · have he := str_ext m 0 100
      have hl2 : ((m.drop 0).take (100 - 0)).length ≤ 100 := by rw [List.length_take]; omega
      go_wp2_with fail
      go_meet
      refine ⟨⟨(m.drop 0).take (100 - 0),⟨hl2,asciiB_sub HA.out (fun b hb => List.mem_of_mem_drop (List.mem_of_mem_take hb))⟩,?_⟩,rfl⟩
      first | rfl | (rw [← he])
  case rest =>
    obtain ⟨⟨m2,⟨hm2,ha2⟩,rfl⟩,rfl⟩ := hcut
    have HA3 := Lib.hid (asciiB_trimR ha2 47)
    clear ha2
    have htr := zzTrimRight1 m2 47 wc (by omega)
    clear hml
    go_wp2_with fail
    refine htr.mono ?_
    rintro e w3 ⟨rfl,hdr3⟩
    have hml : (trimR m2 47).length ≤ 100 := Nat.le_trans (trimR_le _ _) hm2
    have hb3 : ∀ B,Below B wc w3 := by
      obtain ⟨k,rfl⟩ := hdr3
      intro B
      exact ⟨rfl,rfl,rfl,Nat.le_refl _,fun _ _ => rfl⟩
    have hWS3 := HWS2.out.below (hb3 _)
    have HWS3 := Lib.hid hWS3; have HB3 := Lib.hid (HB2.out.trans (hb3 _))
    clear htr hm2 hdr3 hWS3 hb3
    generalize trimR m2 47 = m3 at *
    have hMa := HWS3.out.below ((Below.refl _ w3).alloc (Nat.le_refl _) (.cells #[.nilIface] 196))
    have hfb := heap_alloc_new w3 (.cells #[.nilIface] 196)
    have hTB : TB tw b fw pad H.cells w3.heap.size .nilIface (E 3) Blk.zero (w3.alloc (.cells #[.nilIface] 196)) :=
      ⟨hMa.W,Blk.zero_ok,hfb,hMa.gl.db,hMa.gl.err 3 (by decide),by have := hMa.tG; have := hMa.gl.g19; omega,by have := hMa.tG; have := hMa.gl.g19; omega,by have := HWS3.out.gl.le; have := HWS3.out.gl.g19; omega,by have := HWS3.out.gl.le; have := HWS3.out.gl.g19; omega⟩
    have hft : w3.heap.size ≠ tw := by have := lt_of_heap HWS3.out.W.1; omega
    have hfG : G0 ≤ w3.heap.size := HWS3.out.gl.le
    have hwle : w.heap.size ≤ w3.heap.size := Nat.le_trans HF1.out.size HB3.out.size
    have hFa : Fr B [tw] w (w3.alloc (.cells #[.nilIface] 196)) := ((HF1.out.wide (S' := [tw]) HH.out.Bw (fun k hk _ => hk)).trans ((Fr.of_below HB3.out w1.heap.size [tw]).wide (B' := B) (S' := [tw]) (Nat.le_trans HH.out.Bw HF1.out.size) (fun k hk _ => hk))).alloc _
    have HMa := Lib.hid hMa; have HT := Lib.hid hTB; have HFB := Lib.hid hfb; have HFa := Lib.hid hFa
    clear hMa hTB hfb hFa HWS3 HWS2 HWS1 HB2 HB3 HF1
    generalize hwa : w3.alloc (.cells #[.nilIface] 196) = wa at *
    generalize hfbn : w3.heap.size = fb at *
    have HBN := Lib.hid hfbn
    have v7 := Lib.hid toV7; have vt := Lib.hid v7type
    have s0 := HT.out.seg.get_typ
    have hTyp : Blk.zero.typ = [0] := rfl
    have tc := s0.cell 0 0 (by rw [hTyp]; rfl)
    have tz := s0.frozen 0
    rw [HT.out.ok.off_typ,HT.out.pre] at tc tz
    clear s0 hTyp
    have tc2 : wa.cell? ⟨tw,179,none⟩ = some (.int .u8 0) := tc
    have tz2 : wa.frozen? ⟨tw,179,none⟩ = false := tz
    clear tc tz
    go_wp2_with fail
    refine (v7.out _ _).mono ?_
    rintro e wx ⟨rfl,rfl⟩
    clear hfbn hwa
    go_wp2_with fail
    refine (vt.out _ _ _).mono ?_
    rintro e wx ⟨rfl,rfl⟩
    have va := Lib.hid v7name
    go_wp2_with fail
    refine (va.out _ _ _).mono ?_
    rintro e wx ⟨rfl,rfl⟩
    have hfbb : wa.heap[fb]? = some (.cells #[.nilIface] 196) := HFB.out
    have hT3 := (HT.out.next (w' := wa.setCell ⟨tw,179,none⟩ (.int .u8 flag)) (ferr2 := .nilIface) (B2 := { Blk.zero with typ := [UInt8.ofNat flag.toNat] }) (by
      have q := HT.out.seg.get_typ.set 0 (by show 0 < 1; omega) (UInt8.ofNat flag.toNat)
      rw [HT.out.ok.off_typ,HT.out.pre] at q
      have e3 : ((UInt8.ofNat flag.toNat).toNat : Int) = flag := by rw [UInt8.toNat_ofNat']; omega
      rw [e3] at q
      exact q.put_typ) (Blk.zero_ok.put_typ _ rfl) ((heap_set_other _ hft).trans HT.out.F) ((Fr.refl _ _ wa).setCell (.inl (by simp)) _))
    have hF3 : Fr wa.heap.size [tw,fb] wa (wa.setCell ⟨tw,179,none⟩ (.int .u8 flag)) := (Fr.refl _ _ wa).setCell (.inl (by simp)) _
    have HT2 := Lib.hid hT3; have G0' := Lib.hid hF3
    clear hT3 hF3 tc2 tz2 HT va
    have HT := HT2
    clear HT2
    generalize (wa.setCell ⟨tw,179,none⟩ (.int .u8 flag)) = v0 at *
    have HC := Lib.hid (stepS_name HT.out m3 (by omega))
    go_wp2_with fail
    refine HC.out.mono ?_
    rintro e v1 ⟨rfl,nm1,r1,kk1,q1,T4,F4⟩
    obtain rfl : r1 = .nilIface := q1 hml
    have G1 := Lib.hid (G0'.out.trans (F4.wide (B' := wa.heap.size) (S' := [tw,fb]) G0'.out.size (fun k hk _ => hk)))
    have HT2 := Lib.hid T4
    have KK := Lib.hid kk1; clear kk1 q1
    clear T4 F4 HC HT
    have HT := HT2
    clear HT2
    have va := Lib.hid v7mode
    go_wp2_with fail
    refine (va.out _ _ _).mono ?_
    rintro e wx ⟨rfl,rfl⟩
    have HC := Lib.hid (stepO_mode HT.out 0 (by omega) (by omega))
    go_wp2_with fail
    refine HC.out.mono ?_
    rintro e v2 ⟨rfl,r2,q2,T4,F4⟩
    obtain rfl : r2 = .nilIface := q2 (by decide)
    have G2 := Lib.hid (G1.out.trans (F4.wide (B' := wa.heap.size) (S' := [tw,fb]) G1.out.size (fun k hk _ => hk)))
    have HT2 := Lib.hid T4
    clear q2
    clear T4 F4 HC HT va
    have HT := HT2
    clear HT2
    have va := Lib.hid v7uid
    go_wp2_with fail
    refine (va.out _ _ _).mono ?_
    rintro e wx ⟨rfl,rfl⟩
    have HC := Lib.hid (stepO_uid HT.out 0 (by omega) (by omega))
    go_wp2_with fail
    refine HC.out.mono ?_
    rintro e v3 ⟨rfl,r3,q3,T4,F4⟩
    obtain rfl : r3 = .nilIface := q3 (by decide)
    have G3 := Lib.hid (G2.out.trans (F4.wide (B' := wa.heap.size) (S' := [tw,fb]) G2.out.size (fun k hk _ => hk)))
    have HT2 := Lib.hid T4
    clear q3
    clear T4 F4 HC HT va
    have HT := HT2
    clear HT2
    have va := Lib.hid v7gid
    go_wp2_with fail
    refine (va.out _ _ _).mono ?_
    rintro e wx ⟨rfl,rfl⟩
    have HC := Lib.hid (stepO_gid HT.out 0 (by omega) (by omega))
    go_wp2_with fail
    refine HC.out.mono ?_
    rintro e v4 ⟨rfl,r4,q4,T4,F4⟩
    obtain rfl : r4 = .nilIface := q4 (by decide)
    have G4 := Lib.hid (G3.out.trans (F4.wide (B' := wa.heap.size) (S' := [tw,fb]) G3.out.size (fun k hk _ => hk)))
    have HT2 := Lib.hid T4
    clear q4
    clear T4 F4 HC HT va
    have HT := HT2
    clear HT2
    have va := Lib.hid v7size
    go_wp2_with fail
    refine (va.out _ _ _).mono ?_
    rintro e wx ⟨rfl,rfl⟩
    have HC := Lib.hid (stepO_size HT.out ds.length (by omega) (by omega))
    go_wp2_with fail
    refine HC.out.mono ?_
    rintro e v5 ⟨rfl,r5,q5,T4,F4⟩
    obtain rfl : r5 = .nilIface := q5 (by simp [octFits]; omega)
    have G5 := Lib.hid (G4.out.trans (F4.wide (B' := wa.heap.size) (S' := [tw,fb]) G4.out.size (fun k hk _ => hk)))
    have HT2 := Lib.hid T4
    clear q5
    clear T4 F4 HC HT va
    have HT := HT2
    clear HT2
    have va := Lib.hid v7mtime
    go_wp2_with fail
    refine (va.out _ _ _).mono ?_
    rintro e wx ⟨rfl,rfl⟩
    have HC := Lib.hid (stepO_mtime HT.out 0 (by omega) (by omega))
    go_wp2_with fail
    refine HC.out.mono ?_
    rintro e v6 ⟨rfl,r6,q6,T4,F4⟩
    obtain rfl : r6 = .nilIface := q6 (by decide)
    have G6 := Lib.hid (G5.out.trans (F4.wide (B' := wa.heap.size) (S' := [tw,fb]) G5.out.size (fun k hk _ => hk)))
    have HT2 := Lib.hid T4
    clear q6
    clear T4 F4 HC HT va
    have HT := HT2
    clear HT2
    have hsetf := fun (o : Nat) (ho : (twPre b fw pad H.cells).length = o) => setFormat_ustar v6 tw 134 _ _ _ 4 (.inr rfl) HT.out.ok HT.out.seg HT.out.tw15 HT.out.db
    have hsf := hsetf 23 HT.out.pre
    rw [HT.out.pre] at hsf
    have hokB := HT.out.ok
    generalize hBB : ({ ({ ({ ({ ({ ({ ({ Blk.zero with typ := [UInt8.ofNat flag.toNat] } : Blk) with name := nm1 } : Blk) with mode := octField 8 (if octFits 8 0 then (0 : Int).toNat else 0) } : Blk) with uid := octField 8 (if octFits 8 0 then (0 : Int).toNat else 0) } : Blk) with gid := octField 8 (if octFits 8 0 then (0 : Int).toNat else 0) } : Blk) with size := octField 12 (if octFits 12 ds.length then (ds.length : Int).toNat else 0) } : Blk) with mtime := octField 12 (if octFits 12 0 then (0 : Int).toNat else 0) } : Blk) = B4 at *
    have HBB := Lib.hid hBB
    have HSF := Lib.hid hsf; have HOKB := Lib.hid hokB
    clear hsetf hsf hokB hBB
    go_wp2_with fail
    refine HSF.out.mono ?_
    rintro e w5 ⟨rfl,hs5,hF5⟩
    have okM := HOKB.out.put_magic [117,115,116,97,114,0] rfl
    have ok5u : B4.ustar.Ok := okM.put_ver [48,48] rfl
    have hck := cks_le B4.ustar.bytes 512
    have hol : (octField 7 (cks B4.ustar.bytes 512)).length = 7 := octField_length 7 _ (by omega) (by omega)
    have ok5 : B4.ustar.summed.Ok := ok5u.put_chk _ (by rw [List.length_append,hol]; rfl)
    have hTW5 : TW tw b fw pad H.cells (Lib.byteCells B4.ustar.summed.bytes) .nilIface w5 := TW.of_seg hs5 HT.out.W.2.1 ok5.len
    have F65 : Fr wa.heap.size [tw,fb] wa w5 := G6.out.trans (hF5.wide G6.out.size (by simp))
    have hWS5 := HMa.out.next F65 HFB.out hfG hTW5 ok5.len
    have hfb5 := hF5.cells HT.out.F (by simpa using hft) (.inr (by decide))
    have c5 : w5.cell? ⟨fb,0,none⟩ = some .nilIface := by rw [Lib.cell_of_heap hfb5]; rfl
    have hchk : B4.ustar.summed.chk = octField 7 (cks B4.ustar.summed.bytes 512) ++ [32] := by
      show octField 7 (cks B4.ustar.bytes 512) ++ [32] = octField 7 (cks B4.ustar.summed.bytes 512) ++ [32]
      rw [show cks B4.ustar.summed.bytes 512 = cks B4.ustar.bytes 512 from cks_congr B4.ustar ok5u (octField 7 (cks B4.ustar.bytes 512) ++ [32]) (by rw [List.length_append,hol]; rfl)]
    have hR : RBlk flag ds.length B4.ustar.summed := by
      have e := HBB.out
      have o12 : octFits 12 (ds.length : Int) = true := by simp [octFits]; omega
      refine ⟨ok5,?_,⟨m3,HA3.out,?_⟩,?_,?_,?_,?_,?_,?_,?_,?_,?_,?_,rfl,rfl,hchk,?_⟩
      · rw [← e]; rfl
      · rw [← e]; exact KK.out
      · rw [← e]; rfl
      · rw [← e]; rfl
      · rw [← e]; rfl
      · rw [← e]; rfl
      · rw [← e]; rfl
      · rw [← e]; rfl
      · rw [← e]
        show octField 12 (if octFits 12 (ds.length : Int) = true then (ds.length : Int).toNat else 0) = _
        rw [if_pos o12]; rfl
      · rw [← e]; rfl
      · rw [← e]; rfl
      · rw [← e]; rfl
      · rw [← e]; rfl
    have hrh := writeRawHeader w5 B tw b fw pad hp bs B4.ustar.summed.bytes H.cells ds.length ds.length flag hWS5.buf hWS5.Bw hWS5.W hWS5.F (by omega) (by omega) (by omega) (by rw [HHO.out]; rfl)
    have hFt : Fr B [b,tw] w w5 := ((HFa.out.wide (S' := [b,tw,fb]) (Nat.le_refl _) (fun k hk _ => by rw [List.mem_singleton.1 hk]; simp)).trans (F65.wide (B' := B) (S' := [b,tw,fb]) HMa.out.Bw (fun k hk _ => List.mem_cons_of_mem _ hk))).wide (Nat.le_refl _) (fun k hk hlt => by
      rcases List.mem_cons.1 hk with h | hk
      · rw [h]; simp
      · rcases List.mem_cons.1 hk with h | hk
        · rw [h]; simp
        · have := List.mem_singleton.1 hk; omega)
    have HRH := Lib.hid hrh; have HR := Lib.hid hR; have HWS5 := Lib.hid hWS5; have HFt := Lib.hid hFt
    clear hs5 hF5 okM ok5u hck hol hTW5 F65 hfb5 hchk hrh hR hWS5 hFt HT HBB HOKB HSF
    have ok512 := ok5.len
    generalize B4.ustar.summed = B5 at *
    have HOK := Lib.hid ok512
    clear ok5 ok512
    go_wp2_with fail
    refine HRH.out.mono ?_
    rintro e w6 ⟨rfl,fw2,r1,r2,r3,r4,r5,r6⟩
    have hlr : (bs ++ List.replicate pad 0 ++ B5.bytes).length = bs.length + pad + 512 := by simp [HOK.out]; omega
    have hBw6 : B ≤ w6.heap.size := Nat.le_trans HWS5.out.Bw r6.size
    have hstr := wrString w6 B b tw fw2 (padOf ds.length) H.cells (Lib.byteCells B5.bytes) _ ds ds.length r2 r1 hBw6 r3 (by omega) (by omega) (by rw [hlr]; omega)
    have hg6 := HWS5.out.gl.fr r6 HWS5.out.BG (by simp; exact ⟨HWS5.out.bG,HWS5.out.tG⟩)
    have HST := Lib.hid hstr; have HG6 := Lib.hid hg6; have HR6 := Lib.hid r6
    have HR2 := Lib.hid r2
    have hwf : w.heap.size ≤ fw2 := Nat.le_trans HFt.out.size r4
    clear hstr hg6 r6 r1 r2 r3 hlr c5
    go_wp2_with fail
    refine HST.out.mono ?_
    rintro e w7 ⟨rfl,s1,s2,s3,s4⟩
    have HS := Lib.hid (And.intro s1 (And.intro s2 (And.intro s3 s4)))
    clear s1 s2 s3 s4
    go_wp2_with fail
    go_ret
    obtain ⟨s1,s2,s3,s4⟩ := HS.out
    have hp0 : ((padOf ds.length).toNat : Int) = padOf ds.length := Int.toNat_of_nonneg (by unfold padOf; omega)
    have hfw2G : G0 ≤ fw2 := by have := HH.out.gl.le; omega
    refine ⟨rfl,fw2,B5,HR.out,⟨by rw [hp0]; exact s1,s2,?_,HG6.out.fr s4 HWS5.out.BG (by simp; exact ⟨HWS5.out.bG,hfw2G⟩),HWS5.out.BG,HWS5.out.tG,hfw2G,Nat.le_trans hBw6 s4.size,HOK.out⟩,hwf,?_⟩
    · rw [Int.sub_self] at s3; exact s3
    · exact ((HFt.out.trans HR6.out).wide (S' := [b,tw,fw2]) (Nat.le_refl _) (fun k hk _ => by
        rcases List.mem_cons.1 hk with h | hk
        · rw [h]; simp
        · rw [List.mem_singleton.1 hk]; simp)).trans (s4.wide (S' := [b,tw,fw2]) (Nat.le_refl _) (fun k hk _ => by
        rcases List.mem_cons.1 hk with h | hk
        · rw [h]; simp
        · rw [List.mem_singleton.1 hk]; simp)) |>.wide (Nat.le_refl _) (fun k hk hlt => by
        rcases List.mem_cons.1 hk with h | hk
        · rw [h]; simp
        · rcases List.mem_cons.1 hk with h | hk
          · rw [h]; simp
          · have := List.mem_singleton.1 hk; omega)
end Go.Proofs.YtkanmkcojlefbaaGreatDoor
