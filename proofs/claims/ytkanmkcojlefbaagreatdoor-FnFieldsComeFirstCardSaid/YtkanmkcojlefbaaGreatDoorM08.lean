/-
  Part of the proof; holds the texts SetF, RawH, Reset, Tim.
-/
import Derived.Test.YtkanmkcojlefbaaGreatDoorM07
set_option maxRecDepth 100000
set_option linter.unusedSimpArgs false
set_option linter.unusedVariables false
namespace Go.Proofs.YtkanmkcojlefbaaGreatDoor
open Go.RowKit
theorem Seg.first {w : World} {g : Nat} {T : TypeId} {pre post : List Value} {f c : List UInt8} : Seg w g T pre (f ++ c) post ↔ Seg w g T pre f (Lib.byteCells c ++ post) := by
  simp only [Seg,Lib.byteCells_append,List.append_assoc]
theorem copy_full (w : World) (g n c : Nat) (s : List UInt8) (T : TypeId) (pre : List Value) (old : List UInt8) (post : List Value) (h : Seg w g T pre old post) (hn : old.length = n) (hs : s.length = n) (o : Nat) (ho : pre.length = o) :
    ∃ w1,(Builtin.copy_ #[35,9] 3 #[.slice (some ⟨g,o,none⟩) n c,str s]).run Tryz.prog w = .ok (goInt n) w1 ∧ Seg w1 g T pre s post ∧ Fr w.heap.size [g] w w1 := by
  have h1 := run_copy_str w g n c s T pre old post h hn
  have e1 : s.take n ++ old.drop s.length = s := by rw [List.take_of_length_le (by omega),List.drop_eq_nil_of_le (by omega),List.append_nil]
  rw [e1,hs,ho,show (min (n : Int) n) = n by omega] at h1
  exact ⟨_,h1,h.row s,(Fr.refl _ _ w).setRow (.inl (by simp)) _⟩
theorem Seg.below {w w' : World} {g : Nat} {T : TypeId} {pre post : List Value} {bs : List UInt8} (h : Seg w g T pre bs post) (f : Below w.heap.size w w') : Seg w' g T pre bs post := (f.block g (lt_of_heap h)).trans h
theorem has_true (w : World) (f x : Int) (h : (bits .and .i64 f x != 0) = true) : Calls Tryz.prog 66 #[.int .i64 f,.int .i64 x] w (RetSame w (.bool true)) := by
  go_enter Tryz.func66,Tryz.ntmps66
  go_wp2
  go_ret
  exact ⟨rfl,rfl⟩
theorem has_false (w : World) (f x : Int) (h : (bits .and .i64 f x != 0) = false) : Calls Tryz.prog 66 #[.int .i64 f,.int .i64 x] w (RetSame w (.bool false)) := by
  go_enter Tryz.func66,Tryz.ntmps66
  go_wp2
  go_ret
  exact ⟨rfl,rfl⟩
def Blk.ustar (b : Blk) : Blk := { b with magic := [117,115,116,97,114,0],ver := [48,48] }
def Blk.summed (b : Blk) : Blk := { b with chk := octField 7 (cks b.bytes 512) ++ [32] }
theorem setFormat_ustar (w : World) (g : Nat) (T : TypeId) (pre : List Value) (b : Blk) (post : List Value) (f : Int) (hf : f = 2 ∨ f = 4) (ok : b.Ok) (h : Seg w g T pre b.bytes post) (hg : g ≠ 15) (hDB : w.cell? ⟨15,7,none⟩ = some (.int .u8 3)) :
    Calls Tryz.prog 132 #[.pointer (some ⟨g,pre.length,none⟩),.int .i64 f] w fun e w' => e = .returned (.tuple #[]) ∧ Seg w' g T pre b.ustar.summed.bytes post ∧ Fr w.heap.size [g] w w' := by
  have n1 : ∀ w',Calls Tryz.prog 66 #[.int .i64 f,.int .i64 1] w' (RetSame w' (.bool false)) := fun w' => has_false w' f 1 (by rcases hf with rfl | rfl <;> kernel_rfl)
  have n2 : ∀ w',Calls Tryz.prog 66 #[.int .i64 f,.int .i64 8] w' (RetSame w' (.bool false)) := fun w' => has_false w' f 8 (by rcases hf with rfl | rfl <;> kernel_rfl)
  have n3 : ∀ w',Calls Tryz.prog 66 #[.int .i64 f,.int .i64 16] w' (RetSame w' (.bool false)) := fun w' => has_false w' f 16 (by rcases hf with rfl | rfl <;> kernel_rfl)
  have n4 : ∀ w',Calls Tryz.prog 66 #[.int .i64 f,.int .i64 6] w' (RetSame w' (.bool true)) := fun w' => has_true w' f 6 (by rcases hf with rfl | rfl <;> kernel_rfl)
  obtain ⟨w1,c1,s1,F1⟩ := copy_full w g 6 255 [117,115,116,97,114,0] T _ _ _ h.get_magic ok.magic rfl _ (ok.off_magic pre)
  have s1 := s1.put_magic
  have ok1 := ok.put_magic [117,115,116,97,114,0] rfl
  obtain ⟨w2,c2,s2,F2⟩ := copy_full w1 g 2 249 [48,48] T _ _ _ s1.get_ver ok1.ver rfl _ (ok1.off_ver pre)
  have s2 := s2.put_ver
  have ok2 : b.ustar.Ok := ok1.put_ver [48,48] rfl
  change Seg w2 g T pre b.ustar.bytes post at s2
  have hlen := ok2.len
  have F2w : Fr w.heap.size [g] w w2 := F1.trans (F2.wide F1.size (by simp))
  have hDB2 := F2w.cell hDB (by simpa using Ne.symm hg) (block_lt_of_cell hDB)
  have hck2 := checksum (w2.alloc (.cells #[.nilIface] 196)) g T pre _ post (s2.below ((Below.refl _ w2).alloc (Nat.le_refl _) _)) hlen
  have hsum := cks_le b.ustar.bytes 512
  have hout : b.ustar.summed.bytes = { b.ustar with chk := octField 7 (cks b.ustar.bytes 512) ++ [32] }.bytes := rfl
  have hch : b.ustar.chk = b.ustar.chk.take 7 ++ b.ustar.chk.drop 7 := (List.take_append_drop 7 _).symm
  generalize hsm : cks b.ustar.bytes 512 = sm at *
  have hoct : octFits 7 (sm : Int) = true := by simp [octFits]; omega
  have hstep : ∀ nd,Calls Tryz.prog 130 #[.pointer (some ⟨w2.heap.size,0,none⟩),.slice (some ⟨g,pre.length + 148,none⟩) 7 364,.int .i64 sm] ((w2.alloc (.cells #[.nilIface] 196)).drewN nd) fun e w' => e = .returned (.tuple #[]) ∧
      Seg w' g T (pre ++ Lib.byteCells b.ustar.bef_chk) (octField 7 sm ++ b.ustar.chk.drop 7) (Lib.byteCells b.ustar.aft_chk ++ post) ∧ Fr w.heap.size [g] w w' := fun nd => by
    have s3 : Seg ((w2.alloc (.cells #[.nilIface] 196)).drewN nd) g T (pre ++ Lib.byteCells b.ustar.bef_chk) b.ustar.chk (Lib.byteCells b.ustar.aft_chk ++ post) := (s2.below ((Below.refl _ w2).alloc (Nat.le_refl _) _)).get_chk
    rw [hch] at s3
    have F3 : Fr w.heap.size [g] w ((w2.alloc (.cells #[.nilIface] 196)).drewN nd) := (F2w.alloc _).drewN nd
    have hDB3 := F3.cell hDB (by simpa using Ne.symm hg) (block_lt_of_cell hDB)
    have := formatOctal_fits ((w2.alloc (.cells #[.nilIface] 196)).drewN nd) w2.heap.size g 7 364 sm T _ _ _ (Seg.first.1 s3) (by rw [List.length_take,ok2.chk]; rfl) (.inl rfl) (by omega) hoct hg hDB3
    rw [ok2.off_chk] at this
    refine this.mono ?_
    rintro e w' ⟨rfl,h1,h2⟩
    exact ⟨rfl,Seg.first.2 h1,F3.trans (h2.wide F3.size (by simp))⟩
  have hol : (octField 7 sm).length = 7 := octField_length 7 sm (by omega) (by omega)
  obtain ⟨c8,hc8⟩ : ∃ c8,b.ustar.chk.drop 7 = [c8] := by
    have : (b.ustar.chk.drop 7).length = 1 := by rw [List.length_drop,ok2.chk]
    exact List.length_eq_one_iff.1 this
  rw [hc8] at hstep
  have hoff := ok2.off_chk pre
  have hfin : ∀ w5,Seg w5 g T (pre ++ Lib.byteCells b.ustar.bef_chk) (octField 7 sm ++ [c8]) (Lib.byteCells b.ustar.aft_chk ++ post) → w5.cell? ⟨g,pre.length + 148 + 7,none⟩ = some (.int .u8 c8.toNat) ∧ w5.frozen? ⟨g,pre.length + 148 + 7,none⟩ = false ∧
      Seg (w5.setCell ⟨g,pre.length + 148 + 7,none⟩ (.int .u8 32)) g T pre b.ustar.summed.bytes post := fun w5 h5 => by
    have a1 := h5.cell 7 c8 (by rw [List.getElem?_append_right (by omega),hol]; rfl)
    have a2 := h5.frozen 7
    have a3 := h5.set 7 (by simp; omega) 32
    rw [List.set_append_right _ _ (by omega),hol] at a3
    rw [hoff] at a1 a2 a3
    refine ⟨a1,a2,?_⟩
    rw [hout]
    exact a3.put_chk
  have v7 := Lib.hid toV7; have vu := Lib.hid toUSTAR; have vm := Lib.hid uMagic; have vv := Lib.hid uVersion; have vc := Lib.hid v7chk
  have N1 := Lib.hid n1; have N2 := Lib.hid n2; have N3 := Lib.hid n3; have N4 := Lib.hid n4
  have H := Lib.hid h
  have S2 := Lib.hid s2
  have HF := Lib.hid F2w
  have HC := Lib.hid hck2
  have HS := Lib.hid hstep
  have HN := Lib.hid hfin
  clear h s1 s2 F1 F2 F2w hDB2 hout hch hsm ok1 ok2 hol hc8 hoff n1 n2 n3 n4 hck2 hstep hfin hoct hlen hsum ok hDB
  go_enter Tryz.func132,Tryz.ntmps132
  go_wp2_with fail
  refine (N1.out _).mono ?_
  rintro e wx ⟨rfl,rfl⟩
  go_wp2_with fail
  refine (N2.out _).mono ?_
  rintro e wx ⟨rfl,rfl⟩
  go_wp2_with fail
  refine (N3.out _).mono ?_
  rintro e wx ⟨rfl,rfl⟩
  go_wp2_with fail
  refine (N4.out _).mono ?_
  rintro e wx ⟨rfl,rfl⟩
  go_wp2_with fail
  refine (vu.out _ _).mono ?_
  rintro e wx ⟨rfl,rfl⟩
  go_wp2_with fail
  refine (vm.out _ _ _).mono ?_
  rintro e wx ⟨rfl,rfl⟩
  go_wp2_with fail
  refine (vu.out _ _).mono ?_
  rintro e wx ⟨rfl,rfl⟩
  go_wp2_with fail
  refine (vv.out _ _ _).mono ?_
  rintro e wx ⟨rfl,rfl⟩
  go_wp2_with fail
  refine (v7.out _ _).mono ?_
  rintro e wx ⟨rfl,rfl⟩
  go_wp2_with fail
  refine (vc.out _ _ _).mono ?_
  rintro e wx ⟨rfl,rfl⟩
  go_wp2_with fail
  refine HC.out.mono ?_
  rintro e wx ⟨⟨z,rfl⟩,nd,rfl⟩
  go_wp2_with fail
  refine (HS.out nd).mono ?_
  rintro e w5 ⟨rfl,h5,F5⟩
  obtain ⟨a1,a2,a3⟩ := HN.out w5 h5
  have A3 := Lib.hid a3
  clear a3 h5
  go_wp2_with fail
  go_end0
  exact ⟨rfl,A3.out,F5.setCell (p := ⟨g,pre.length + 148 + 7,none⟩) (.inl (by simp)) _⟩
theorem i64_and511 (n : Int) : bits .and .i64 n 511 = n % 512 := by
  have h127 : (BitVec.ofInt 64 511).toNat = 2 ^ 9 - 1 := by decide
  have key : (BitVec.ofInt 64 n &&& BitVec.ofInt 64 511).toNat = (n % ((2 ^ 64 : Nat) : Int)).toNat % 2 ^ 9 := by
    rw [BitVec.toNat_and,BitVec.toNat_ofInt,h127,Nat.and_two_pow_sub_one_eq_mod]
  show IntKind.i64.wrap ((BitVec.ofInt 64 n &&& BitVec.ofInt 64 511).toNat : Nat) = n % 512
  rw [key,IntKind.wrap_i64]
  omega
def padOf (n : Int) : Int := (-n) % 512
theorem blockPad (w : World) (n : Int) (h0 : 0 ≤ n) (h1 : n ≤ 9223372036854775807) : Calls Tryz.prog 186 #[.int .i64 n] w (RetSame w (.int .i64 (padOf n))) := by
  have e1 : IntKind.i64.wrap (-n) = -n := IntWalk.i64_in _ (by omega)
  have e2 : bits .and .i64 (-n) 511 = padOf n := i64_and511 _
  go_enter Tryz.func186,Tryz.ntmps186
  go_wp2_with fail
  go_ret
  exact ⟨rfl,rfl⟩
def hdrOnly (t : Int) : Bool := decide (49 ≤ t ∧ t ≤ 54)
theorem isHdrOnly (w : World) (t : Int) : Calls Tryz.prog 124 #[.int .u8 t] w (RetSame w (.bool (hdrOnly t))) := by
  have e : ∀ x : Int,(t == x) = decide (t = x) := fun x => by by_cases h : t = x <;> simp [h]
  by_cases h : 49 ≤ t ∧ t ≤ 54
  · have e2 : hdrOnly t = true := by simp [hdrOnly]; exact h
    rw [e2]
    have h3 : t = 49 ∨ t = 50 ∨ t = 51 ∨ t = 52 ∨ t = 53 ∨ t = 54 := by omega
    rcases h3 with rfl | rfl | rfl | rfl | rfl | rfl <;>
    · clear e e2 h
      go_enter Tryz.func124,Tryz.ntmps124
      go_wp2
      go_ret
      exact ⟨rfl,rfl⟩
  · have e2 : hdrOnly t = false := by rw [hdrOnly,decide_eq_false h]
    rw [e2]
    have q : ∀ x : Int,49 ≤ x ∧ x ≤ 54 → (t == x) = false := fun x hx => by rw [beq_eq_false_iff_ne]; rintro rfl; exact h hx
    have q1 := q 49 (by omega); have q2 := q 50 (by omega); have q3 := q 51 (by omega); have q4 := q 52 (by omega); have q5 := q 53 (by omega); have q6 := q 54 (by omega)
    clear e e2 q h
    go_enter Tryz.func124,Tryz.ntmps124
    go_wp2
    go_ret
    exact ⟨rfl,rfl⟩
theorem TW.seg {tw b fw : Nat} {pad : Int} {hdr : List Value} {blk : List UInt8} {err : Value} {w : World} (h : TW tw b fw pad hdr (Lib.byteCells blk) err w) :
    Seg w tw 134 (.iface 75 (.pointer (some ⟨b,0,none⟩))::.int .i64 pad::.iface 119 (.pointer (some ⟨fw,0,none⟩))::hdr) blk [err] := by
  rw [Seg,h.1]; simp [wcells]
theorem TW.of_seg {tw b fw : Nat} {pad : Int} {hdr : List Value} {blk : List UInt8} {err : Value} {w : World} (h : Seg w tw 134 (.iface 75 (.pointer (some ⟨b,0,none⟩))::.int .i64 pad::.iface 119 (.pointer (some ⟨fw,0,none⟩))::hdr) blk [err]) (hh : hdr.length = 20) (hk : blk.length = 512) :
    TW tw b fw pad hdr (Lib.byteCells blk) err w := by
  refine ⟨?_,hh,by rw [Lib.byteCells_length,hk]⟩
  rw [h]; simp [wcells]
theorem Seg.at {w : World} {g : Nat} {T : TypeId} {pre post : List Value} {bs : List UInt8} (h : Seg w g T pre bs post) (o : Nat) (ho : pre.length = o) : At w g o (Lib.byteCells bs) :=
  At.of_heap h fun j v hj => by
    subst ho
    have hl := (List.getElem?_eq_some_iff.1 hj).1
    rw [List.getElem?_toArray,List.append_assoc,List.getElem?_append_right (by omega),List.getElem?_append_left (by omega)]
    simpa using hj
theorem writeRawHeader (w : World) (B tw b fw pad : Nat) (hp2 : pad < 512) (bs blk : List UInt8) (hdr : List Value) (size sz : Int) (flag : Int)
    (hB : Buf B b bs w) (hBw : B ≤ w.heap.size) (hW : TW tw b fw pad hdr (Lib.byteCells blk) .nilIface w) (hf : FW fw b 0 w) (hlim : bs.length + pad + 512 ≤ 140737488355328)
    (hs0 : 0 ≤ sz) (hs1 : sz ≤ 9223372036854775807) (hsz : sz = if hdrOnly flag then 0 else size) :
    Calls Tryz.prog 133 #[.pointer (some ⟨tw,0,none⟩),.pointer (some ⟨tw,23,none⟩),.int .i64 size,.int .u8 flag] w fun e w' => e = .returned (.nilIface) ∧
      ∃ fw2,Buf B b (bs ++ List.replicate pad 0 ++ blk) w' ∧ TW tw b fw2 (padOf sz) hdr (Lib.byteCells blk) .nilIface w' ∧ FW fw2 b sz w' ∧ w.heap.size ≤ fw2 ∧ fw2 < w'.heap.size ∧ Fr B [b,tw] w w' := by
  have h1 := flush w B tw b fw pad hp2 bs hdr (Lib.byteCells blk) hB hBw hW hf (by omega)
  have hne : tw ≠ b := hB.ne hW.1 (by decide)
  have m2 := m_write
  have hio := fun w => Lib.hid (isHdrOnly w flag)
  have hbp := fun w => Lib.hid (blockPad w sz hs0 hs1)
  have hsz1 : hdrOnly flag = true → sz = 0 := fun h => by rw [hsz,if_pos h]
  have hsz2 : hdrOnly flag = false → size = sz := fun h => by rw [hsz,if_neg (by rw [h]; decide)]
  clear hB hW hf
  go_enter Tryz.func133,Tryz.ntmps133
  go_wp2_with fail
  refine h1.mono ?_
  rintro e w1 ⟨rfl,hB1,hW1,hF1⟩
  have hblk : blk.length = 512 := by have := hW1.2.2; rwa [Lib.byteCells_length] at this
  have hsg := hW1.seg
  have hHC := bufWrite B b (bs ++ List.replicate pad 0) blk tw 23 512 512 w1.drew hB1.drew (by have := hF1.size; exact Nat.le_trans hBw this) hblk hne (hsg.at 23 (by simp [hW1.2.1])) (by simp; omega)
  have HC := Lib.hid hHC
  have HW1 := Lib.hid hW1
  have HF1 := Lib.hid hF1
  obtain ⟨c0,c1,c535,z1,z535⟩ := twCells hW1.2.1 hW1.2.2 hW1.1
  have hst1 := block_lt_of_cell c0
  clear hHC hW1 hF1 hsg h1
  go_wp2_with fail
  go_region_held3 (fun w' => w'.cell? ⟨tw,0,none⟩ = some (.iface 75 (.pointer (some ⟨b,0,none⟩)))) (first | go_keep | assumption)
    (first | (go_at_call 284; refine HC.out.mono ?_; rintro e w2 ⟨rfl,hB2,hF2⟩; have hW2 := hF2.cells HW1.out.1 (by simpa using hne) (.inr (by decide)); obtain ⟨d0,d1,d535,z1,z535⟩ := twCells HW1.out.2.1 HW1.out.2.2 hW2))
  have hfin : ∀ w4,w4 = (((w2.setCell ⟨tw,2,none⟩ (.iface 119 (.pointer (some ⟨w2.heap.size,0,none⟩)))).setCell ⟨tw,1,none⟩ (.int .i64 (padOf sz))).alloc (.cells #[.iface 75 (.pointer (some ⟨b,0,none⟩)),.int .i64 sz] 121)) →
      ∃ fw2,Buf B b (bs ++ List.replicate pad 0 ++ blk) w4 ∧ TW tw b fw2 (padOf sz) hdr (Lib.byteCells blk) .nilIface w4 ∧ FW fw2 b sz w4 ∧ w.heap.size ≤ fw2 ∧ fw2 < w4.heap.size ∧ Fr B [b,tw] w w4 := by
    rintro w4 rfl
    have hlt := lt_of_heap hW2
    have q2 := heap_set_same (i := 2) (.iface 119 (.pointer (some ⟨w2.heap.size,0,none⟩))) hW2
    rw [wcells_set2] at q2
    have q3 := heap_set_same (i := 1) (.int .i64 (padOf sz)) q2
    rw [wcells_set1] at q3
    have e3 : ((w2.setCell ⟨tw,2,none⟩ (.iface 119 (.pointer (some ⟨w2.heap.size,0,none⟩)))).setCell ⟨tw,1,none⟩ (.int .i64 (padOf sz))).heap.size = w2.heap.size := by simp [World.setCell]
    have B3 := (hB2.setCell (p := ⟨tw,2,none⟩) hW2 (by decide) (by decide) (.iface 119 (.pointer (some ⟨w2.heap.size,0,none⟩)))).setCell (p := ⟨tw,1,none⟩) q2 (by decide) (by decide) (.int .i64 (padOf sz))
    have FF : Fr B [b,tw] w _ := (((HF1.out.drew.trans (hF2.wide (Nat.le_refl _) (by simp))).setCell (p := ⟨tw,2,none⟩) (.inl (by simp)) (.iface 119 (.pointer (some ⟨w2.heap.size,0,none⟩)))).setCell (p := ⟨tw,1,none⟩) (.inl (by simp)) (.int .i64 (padOf sz)))
    have hsz3 : w1.heap.size ≤ w2.heap.size := hF2.size
    generalize ((w2.setCell ⟨tw,2,none⟩ (.iface 119 (.pointer (some ⟨w2.heap.size,0,none⟩)))).setCell ⟨tw,1,none⟩ (.int .i64 (padOf sz))) = w3 at *
    refine ⟨w2.heap.size,B3.alloc _,⟨(Below.heap_alloc w3 _ tw (lt_of_heap q3)).trans q3,HW1.out.2.1,HW1.out.2.2⟩,?_,Nat.le_trans HF1.out.size hsz3,?_,FF.alloc _⟩
    · have r1 := heap_alloc_new w3 (.cells #[.iface 75 (.pointer (some ⟨b,0,none⟩)),.int .i64 sz] 121)
      rw [e3] at r1
      exact r1
    · simp; omega
  have d2 : w2.cell? ⟨tw,2,none⟩ = some (.iface 119 (.pointer (some ⟨fw,0,none⟩))) := by rw [Lib.cell_of_heap hW2]; exact wcells_2 ..
  have zf2 : w2.frozen? ⟨tw,2,none⟩ = false := Lib.frozen_of_heap hW2 2
  have HN := Lib.hid hfin
  have HW2 := Lib.hid hW2
  have hlt2 := lt_of_heap hW2
  clear hfin hW2 hB2 hF2 c0 c1 c535
  go_wp2_with fail
  refine (hio _).out.mono ?_
  rintro e wx ⟨rfl,rfl⟩
  cases hb : hdrOnly flag
  · obtain rfl := hsz2 hb
    clear hsz hsz1 hsz2
    go_wp2_with fail
    refine (hbp _).out.mono ?_
    rintro e wx ⟨rfl,rfl⟩
    go_wp2_with fail
    go_ret
    exact ⟨rfl,HN.out _ rfl⟩
  · have hz := hsz1 hb
    clear hsz hsz1 hsz2
    subst hz
    go_wp2_with fail
    refine (hbp _).out.mono ?_
    rintro e wx ⟨rfl,rfl⟩
    go_wp2_with fail
    go_ret
    exact ⟨rfl,HN.out _ rfl⟩
theorem zeros_list : Tryz.zeroCells132.toList = Lib.byteCells (List.replicate 512 0) := by
  have h := zero132
  rw [h, blk0]
theorem store_seg (w : World) (g : Nat) (T : TypeId) (pre : List Value) (bs : List UInt8) (post : List Value) (h : Seg w g T pre bs post) (new : List UInt8) (hn : new.length = bs.length) :
    ∃ w1, (storeCells ⟨g, pre.length, none⟩ (Lib.byteCells new)).run Tryz.prog w = .ok () w1 ∧ Seg w1 g T pre new post ∧ Fr w.heap.size [g] w w1 := by
  have hst := run_storeCells_at Tryz.prog g pre.length T (Lib.byteCells new) 0 _ w h (by simp [Lib.byteCells_length, hn]) (Lib.byteCells_one _)
  simp only [Nat.add_zero] at hst
  have e2 := splice3 pre (Lib.byteCells bs) post (Lib.byteCells new) (by simp [Lib.byteCells_length, hn])
  have e4 : (Lib.byteCells bs).drop (Lib.byteCells new).length = [] := List.drop_eq_nil_of_le (by simp [Lib.byteCells_length, hn])
  rw [e4, List.append_nil] at e2
  simp only [List.append_assoc] at hst e2
  rw [e2] at hst
  have := h.row new
  rw [List.append_assoc] at this
  exact ⟨_, hst, this, (Fr.refl _ _ w).setRow (.inl (by simp)) _⟩
theorem reset_calls (w : World) (g : Nat) (T : TypeId) (pre : List Value) (bs : List UInt8) (post : List Value) (h : Seg w g T pre bs post) (hn : bs.length = 512) (o : Nat) (ho : pre.length = o) :
    Calls Tryz.prog 173 #[.pointer (some ⟨g, o, none⟩)] w fun e w' => e = .returned (.tuple #[]) ∧ Seg w' g T pre (List.replicate 512 0) post ∧ Fr w.heap.size [g] w w' := by
  obtain ⟨w1, hst, h1, h2⟩ := store_seg w g T pre bs post h (List.replicate 512 0) (by rw [List.length_replicate, hn])
  rw [← zeros_list, ho] at hst
  clear h
  go_enter Tryz.func173, Tryz.ntmps173
  go_wp2_with fail
  go_end0
  exact ⟨rfl, h1, h2⟩
abbrev tmV (n x : Int) : Value := .agg #[.int .u64 n,.int .i64 x]
theorem and63 (n : Int) (h0 : 0 ≤ n) (h1 : n < 1000000000) : bits .and .u64 n 9223372036854775808 = 0 := by
  obtain ⟨k,rfl⟩ : ∃ k : Nat,n = k := ⟨n.toNat,by omega⟩
  rw [show (9223372036854775808 : Int) = ((9223372036854775808 : Nat) : Int) from rfl,u64_and_nat k _ (by omega) (by omega)]
  have : k &&& 9223372036854775808 = 0 := by
    apply Nat.eq_of_testBit_eq
    intro i
    rw [Nat.testBit_and,Nat.zero_testBit,show 9223372036854775808 = 2 ^ 63 from rfl,Nat.testBit_two_pow]
    by_cases hi : 63 = i
    · subst hi
      have : k.testBit 63 = false := Nat.testBit_lt_two_pow (by omega)
      simp [this]
    · simp [hi]
  rw [this]; rfl
theorem and30 (n : Int) (h0 : 0 ≤ n) (h1 : n < 1000000000) : bits .and .u64 n 1073741823 = n := by
  obtain ⟨k,rfl⟩ : ∃ k : Nat,n = k := ⟨n.toNat,by omega⟩
  rw [show (1073741823 : Int) = ((1073741823 : Nat) : Int) from rfl,u64_and_nat k _ (by omega) (by omega),show 1073741823 = 2 ^ 30 - 1 from rfl,Nat.and_two_pow_sub_one_eq_mod,Nat.mod_eq_of_lt (by omega)]
theorem tSec (w : World) (g o : Nat) (n x : Int) (h0 : 0 ≤ n) (h1 : n < 1000000000) (c0 : w.cell? ⟨g,o,none⟩ = some (.int .u64 n)) (c1 : w.cell? ⟨g,o + 1,none⟩ = some (.int .i64 x)) :
    Calls Tryz.prog 163 #[.pointer (some ⟨g,o,none⟩)] w (RetSame w (.int .i64 x)) := by
  have e := and63 n h0 h1
  go_enter Tryz.func163,Tryz.ntmps163
  go_wp2_with fail
  go_ret
  exact ⟨rfl,rfl⟩
theorem tNsec (w : World) (g o : Nat) (n x : Int) (h0 : 0 ≤ n) (h1 : n < 1000000000) (c0 : w.cell? ⟨g,o,none⟩ = some (.int .u64 n)) (c1 : w.cell? ⟨g,o + 1,none⟩ = some (.int .i64 x)) :
    Calls Tryz.prog 164 #[.pointer (some ⟨g,o,none⟩)] w (RetSame w (.int .i32 n)) := by
  have e := and30 n h0 h1
  go_enter Tryz.func164,Tryz.ntmps164
  go_wp2_with fail
  go_ret
  exact ⟨rfl,rfl⟩
theorem tUnixSec (w : World) (g o : Nat) (n x : Int) (h0 : 0 ≤ n) (h1 : n < 1000000000) (hx : -100000000000000000 ≤ x - 62135596800 ∧ x - 62135596800 ≤ 100000000000000000) (c0 : w.cell? ⟨g,o,none⟩ = some (.int .u64 n)) (c1 : w.cell? ⟨g,o + 1,none⟩ = some (.int .i64 x)) :
    Calls Tryz.prog 169 #[.pointer (some ⟨g,o,none⟩)] w (RetSame w (.int .i64 (x - 62135596800))) := by
  have h := tSec w g o n x h0 h1 c0 c1
  have e : IntKind.i64.wrap (x + -62135596800) = x - 62135596800 := by rw [IntWalk.i64_in _ (by omega)]; omega
  go_enter Tryz.func169,Tryz.ntmps169
  go_wp2_with fail
  refine h.mono ?_
  rintro e w1 ⟨rfl,rfl⟩
  go_wp2_with fail
  go_ret
  exact ⟨rfl,rfl⟩
theorem tUnix (w : World) (n x : Int) (h0 : 0 ≤ n) (h1 : n < 1000000000) (hx : -100000000000000000 ≤ x - 62135596800 ∧ x - 62135596800 ≤ 100000000000000000) :
    Calls Tryz.prog 103 #[tmV n x] w fun e w' => e = .returned (.int .i64 (x - 62135596800)) ∧ Below w.heap.size w w' := by
  have a1 := heap_alloc_new w (.cells #[.int .u64 n,.int .i64 x] 126)
  have h := tUnixSec (w.alloc (.cells #[.int .u64 n,.int .i64 x] 126)) w.heap.size 0 n x h0 h1 hx (by rw [Lib.cell_of_heap a1]; rfl) (by rw [Lib.cell_of_heap a1]; rfl)
  go_enter Tryz.func103,Tryz.ntmps103
  go_wp2_with fail
  refine h.mono ?_
  rintro e w1 ⟨rfl,rfl⟩
  go_wp2_with fail
  go_ret
  exact ⟨rfl,(Below.refl _ w).alloc (Nat.le_refl _) _⟩
theorem tNano (w : World) (n x : Int) (h0 : 0 ≤ n) (h1 : n < 1000000000) :
    Calls Tryz.prog 104 #[tmV n x] w fun e w' => e = .returned (.int .i64 n) ∧ Below w.heap.size w w' := by
  have a1 := heap_alloc_new w (.cells #[.int .u64 n,.int .i64 x] 126)
  have h := tNsec (w.alloc (.cells #[.int .u64 n,.int .i64 x] 126)) w.heap.size 0 n x h0 h1 (by rw [Lib.cell_of_heap a1]; rfl) (by rw [Lib.cell_of_heap a1]; rfl)
  go_enter Tryz.func104,Tryz.ntmps104
  go_wp2_with fail
  refine h.mono ?_
  rintro e w1 ⟨rfl,rfl⟩
  go_wp2_with fail
  go_ret
  exact ⟨rfl,(Below.refl _ w).alloc (Nat.le_refl _) _⟩
def tZero (n x : Int) : Bool := decide (n = 0 ∧ x = 0)
theorem tIsZero (w : World) (n x : Int) :
    Calls Tryz.prog 74 #[tmV n x] w fun e w' => e = .returned (.bool (tZero n x)) ∧ Below w.heap.size w w' := by
  by_cases hn : n = 0
  · have e : tZero n x = (x == 0) := by by_cases hx : x = 0 <;> simp [tZero,hn,hx]
    rw [e]
    subst hn
    go_enter Tryz.func74,Tryz.ntmps74
    go_wp2
    go_ret
    exact ⟨rfl,(Below.refl _ w).alloc (Nat.le_refl _) _⟩
  · have e : tZero n x = false := by simp [tZero,hn]
    rw [e]
    have hn2 : (n == 0) = false := by simp [hn]
    go_enter Tryz.func74,Tryz.ntmps74
    go_wp2
    go_ret
    exact ⟨rfl,(Below.refl _ w).alloc (Nat.le_refl _) _⟩
theorem retTime {R : Ending → World → Prop} {fn : Func} {t : Tmp} {a : Act} (g : Nat) (n x : Int) (w : World) (hr : fn.results = #[.cell t 126]) (hp : a.tmps.getD t undef = .pointer (some ⟨g,0,none⟩)) (hd : a.defers = [])
    (hg : w.heap[g]? = some (.cells #[.int .u64 n,.int .i64 x] 126 (0,0))) (hR : R (.returned (tmV n x)) w) : bodyPost Tryz.prog fn R .ret a w :=
  bodyPost_ret (results_cell_row hr _ _ g 126 #[.int .u64 n,.int .i64 x] (0,0) _ hp hg Tryz.underlying126 rfl (by kernel_rfl)) hd hR
theorem tUnixTime (w : World) (s n : Int) (h0 : 0 ≤ n) (h1 : n < 1000000000) (hs : -100000000000000000 ≤ s ∧ s ≤ 100000000000000000) :
    Calls Tryz.prog 145 #[.int .i64 s,.int .i32 n] w fun e w' => e = .returned (tmV n (s + 62135596800)) ∧ Below w.heap.size w w' := by
  have e : IntKind.i64.wrap (s + 62135596800) = s + 62135596800 := by rw [IntWalk.i64_in _ (by omega)]
  go_enter Tryz.func145,Tryz.ntmps145
  go_wp2
  exact retTime w.heap.size n (s + 62135596800) _ rfl rfl rfl (heap_alloc_new w _) ⟨rfl,(Below.refl _ w).alloc (Nat.le_refl _) _⟩
theorem tOf (w : World) (s n : Int) (h0 : 0 ≤ n) (h1 : n < 1000000000) (hs : -100000000000000000 ≤ s ∧ s ≤ 100000000000000000) :
    Calls Tryz.prog 70 #[.int .i64 s,.int .i64 n] w fun e w' => e = .returned (tmV n (s + 62135596800)) ∧ Below w.heap.size w w' := by
  have h := fun w' => tUnixTime w' s n h0 h1 hs
  have h2 : ¬ n < 0 := by omega
  have h3 : ¬ (1000000000 : Int) ≤ n := by omega
  go_enter Tryz.func70,Tryz.ntmps70
  go_wp2_with fail
  refine (h _).mono ?_
  rintro e w1 ⟨rfl,hb⟩
  have a1 := (hb.block w.heap.size (by simp)).trans (heap_alloc_new w (.cells #[.int .u64 0,.int .i64 0] 126))
  have hb1 : Below w.heap.size w w1 := ((Below.refl _ w).alloc (Nat.le_refl _) _).trans (hb.mono (by simp))
  have z0 := Lib.frozen_of_heap a1 0
  have z1 := Lib.frozen_of_heap a1 1
  have d0 : w1.cell? ⟨w.heap.size,0,none⟩ = some (.int .u64 0) := by rw [Lib.cell_of_heap a1]; rfl
  have d1 : w1.cell? ⟨w.heap.size,1,none⟩ = some (.int .i64 0) := by rw [Lib.cell_of_heap a1]; rfl
  have a2 := heap_set_same (i := 1) (.int .i64 (s + 62135596800)) (heap_set_same (i := 0) (.int .u64 n) a1)
  have hb2 := (hb1.setCell (p := ⟨w.heap.size,0,none⟩) (Nat.le_refl _) (.int .u64 n)).setCell (p := ⟨w.heap.size,1,none⟩) (Nat.le_refl _) (.int .i64 (s + 62135596800))
  have A2 := Lib.hid a2
  have HB := Lib.hid hb2
  clear a1 a2 hb2 hb hb1 h
  go_wp2_with fail
  exact retTime w.heap.size n (s + 62135596800) _ rfl rfl rfl A2.out ⟨rfl,HB.out⟩
end Go.Proofs.YtkanmkcojlefbaaGreatDoor
