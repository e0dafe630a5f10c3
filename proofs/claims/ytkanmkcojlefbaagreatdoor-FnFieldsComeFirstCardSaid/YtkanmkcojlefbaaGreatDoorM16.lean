/-
  Part of the proof; holds the texts Tmpl.
-/
import Derived.Test.YtkanmkcojlefbaaGreatDoorM10
set_option maxRecDepth 100000
set_option linter.unusedSimpArgs false
set_option linter.unusedVariables false
namespace Go.Proofs.YtkanmkcojlefbaaGreatDoor
open Go.RowKit
theorem TB.hdr {tw b fw : Nat} {pad : Int} {hdr : List Value} {fb : Nat} {ferr : Value} {aE : Addr} {B : Blk} {w : World} (h : TB tw b fw pad hdr fb ferr aE B w) (k : Nat) (v : Value) (hv : hdr[k]? = some v) : w.cell? ⟨tw,3 + k,none⟩ = some v := by
  have hk : k < 20 := by have := (List.getElem?_eq_some_iff.1 hv).1; have := h.W.2.1; omega
  rw [Lib.cell_of_heap h.W.1,wcells_hdr _ _ _ _ _ _ h.W.2.1 k hk,hv]
theorem cell_set_ne (w : World) (g i j : Nat) (v : Value) (h : i ≠ j) : (w.setCell ⟨g,j,none⟩ v).cell? ⟨g,i,none⟩ = w.cell? ⟨g,i,none⟩ := by
  exact World.cell?_setCell_other w _ _ _ (fun e => h (by cases e; rfl))
theorem TB.drew {tw b fw : Nat} {pad : Int} {hdr : List Value} {fb : Nat} {ferr : Value} {aE : Addr} {B : Blk} {w : World} (h : TB tw b fw pad hdr fb ferr aE B w) : TB tw b fw pad hdr fb ferr aE B w.drew := ⟨h.W,h.ok,h.F,h.db,h.e3,h.tw15,h.tw3,h.f15,h.f3⟩
theorem TB.below {tw b fw : Nat} {pad : Int} {hdr : List Value} {fb : Nat} {ferr : Value} {aE : Addr} {B : Blk} {w w' : World} (h : TB tw b fw pad hdr fb ferr aE B w) (k : Below w.heap.size w w') : TB tw b fw pad hdr fb ferr aE B w' :=
  ⟨⟨(k.block tw (lt_of_heap h.W.1)).trans h.W.1,h.W.2⟩,h.ok,(k.block fb (lt_of_heap h.F)).trans h.F,(k.cell (block_lt_of_cell h.db)).trans h.db,(k.cell (block_lt_of_cell h.e3)).trans h.e3,h.tw15,h.tw3,h.f15,h.f3⟩
def Hd.sec (h : Hd) : Int := if tZero h.mw h.mx then 0 else h.mx - 62135596800
structure Hd.In (h : Hd) : Prop where
  mode : -9223372036854775808 ≤ h.mode ∧ h.mode ≤ 9223372036854775807
  uid : -9223372036854775808 ≤ h.uid ∧ h.uid ≤ 9223372036854775807
  gid : -9223372036854775808 ≤ h.gid ∧ h.gid ≤ 9223372036854775807
  size : -9223372036854775808 ≤ h.size ∧ h.size ≤ 9223372036854775807
  maj : -9223372036854775808 ≤ h.maj ∧ h.maj ≤ 9223372036854775807
  mnr : -9223372036854775808 ≤ h.mnr ∧ h.mnr ≤ 9223372036854775807
  mw : 0 ≤ h.mw ∧ h.mw < 1000000000
  mx : -100000000000000000 ≤ h.mx - 62135596800 ∧ h.mx - 62135596800 ≤ 100000000000000000
  typ : 0 ≤ h.typ ∧ h.typ < 256
  name : h.name.length ≤ 1048576
  link : h.link.length ≤ 1048576
  user : h.user.length ≤ 1048576
  group : h.group.length ≤ 1048576
structure Tmpl (h : Hd) (n l u g : List UInt8) (B : Blk) : Prop where
  typ : B.typ = [UInt8.ofNat h.typ.toNat]
  name : FmtS (List.replicate 100 0) n B.name
  link : FmtS (List.replicate 100 0) l B.link
  user : FmtS (List.replicate 32 0) u B.user
  group : FmtS (List.replicate 32 0) g B.group
  mode : B.mode = octField 8 (if octFits 8 h.mode then h.mode.toNat else 0)
  uid : B.uid = octField 8 (if octFits 8 h.uid then h.uid.toNat else 0)
  gid : B.gid = octField 8 (if octFits 8 h.gid then h.gid.toNat else 0)
  size : B.size = octField 12 (if octFits 12 h.size then h.size.toNat else 0)
  mtime : B.mtime = octField 12 (if octFits 12 h.sec then h.sec.toNat else 0)
  maj : B.maj = octField 8 (if octFits 8 h.maj then h.maj.toNat else 0)
  mnr : B.mnr = octField 8 (if octFits 8 h.mnr then h.mnr.toNat else 0)
  rest : B.rest = List.replicate 167 0
set_option maxHeartbeats 4000000 in
theorem template (w : World) (tw b fw fb : Nat) (pad : Int) (H : Hd) (hin : H.In) (ferr : Value) (aE : Addr) (B : Blk) (h : TB tw b fw pad H.cells fb ferr aE B w) :
    Calls Tryz.prog 128 #[.pointer (some ⟨tw,0,none⟩),.pointer (some ⟨tw,3,none⟩),.func (.func 129) #[.pointer (some ⟨fb,0,none⟩)] #[],.func (.func 130) #[.pointer (some ⟨fb,0,none⟩)] #[]] w fun e w' =>
      e = .returned (.pointer (some ⟨tw,23,none⟩)) ∧ ∃ B2 ferr2,TB tw b fw pad H.cells fb ferr2 aE B2 w' ∧ Tmpl H H.name H.link H.user H.group B2 ∧
        (H.name.length ≤ 100 → H.link.length ≤ 100 → H.user.length ≤ 32 → H.group.length ≤ 32 → octFits 8 H.mode = true → octFits 8 H.uid = true → octFits 8 H.gid = true → octFits 12 H.size = true → octFits 12 H.sec = true → octFits 8 H.maj = true → octFits 8 H.mnr = true → ferr2 = ferr) ∧ Fr w.heap.size [tw,fb] w w' := by
  have hr := reset_calls w tw 134 _ _ _ h.seg h.ok.len 23 h.pre
  have hne := h.ne
  have h0 := Lib.hid h
  have v7 := Lib.hid toV7; have vu := Lib.hid toUSTAR; have vt := Lib.hid v7type
  clear h
  go_enter Tryz.func128,Tryz.ntmps128
  go_wp2_with fail
  refine hr.mono ?_
  rintro e w1 ⟨rfl,s1,F1⟩
  rw [← Blk.zero_bytes] at s1
  have T1 := h0.out.next s1 Blk.zero_ok (F1.cells h0.out.F (by simpa using hne) (.inr (by decide))) (F1.wide (Nat.le_refl _) (by simp))
  have hmw := T1.hdr 9 (.int .u64 H.mw) rfl
  have hmx := T1.hdr 10 (.int .i64 H.mx) rfl
  have HT1 := Lib.hid T1
  have HF1 := Lib.hid F1
  clear T1 F1 s1 hr
  go_wp2_with fail
  refine (tIsZero _ _ _).mono ?_
  rintro e w2 ⟨rfl,hb2⟩
  have mb2 := (hb2.block w1.heap.size (by simp)).trans (heap_alloc_new w1 (.cells #[.int .u64 H.mw,.int .i64 H.mx] 126))
  have B2 : Below w1.heap.size w1 w2 := ((Below.refl _ w1).alloc (Nat.le_refl _) _).trans (hb2.mono (by simp))
  have T2 := HT1.out.below B2
  clear hmw hmx hb2
  have e0 : w2.cell? ⟨w1.heap.size,0,none⟩ = some (.int .u64 H.mw) := by rw [Lib.cell_of_heap mb2]; rfl
  have e1 : w2.cell? ⟨w1.heap.size,1,none⟩ = some (.int .i64 H.mx) := by rw [Lib.cell_of_heap mb2]; rfl
  have t0 := T2.hdr 0 (.int .u8 H.typ) rfl
  have Mb2 := Lib.hid mb2
  have HB2 := Lib.hid B2
  have HT2 := Lib.hid T2
  clear mb2 B2 T2
  have hmain : ∃ n1 x1 : Int,0 ≤ n1 ∧ n1 < 1000000000 ∧ (-100000000000000000 ≤ x1 - 62135596800 ∧ x1 - 62135596800 ≤ 100000000000000000) ∧ x1 - 62135596800 = H.sec ∧ (tZero H.mw H.mx = false → n1 = H.mw ∧ x1 = H.mx) ∧ (tZero H.mw H.mx = true → n1 = 0 ∧ x1 = 62135596800) := by
    cases hz : tZero H.mw H.mx
    · exact ⟨H.mw,H.mx,hin.mw.1,hin.mw.2,hin.mx,by rw [Hd.sec,hz]; rfl,fun _ => ⟨rfl,rfl⟩,fun h => by cases h⟩
    · exact ⟨0,62135596800,by omega,by omega,by omega,by rw [Hd.sec,hz]; rfl,fun h => (by cases h),fun _ => ⟨rfl,rfl⟩⟩
  obtain ⟨n1,x1,hn0,hn1,hx1,hsec,hz1,hz2⟩ := hmain
  have hnm : w1.heap.size ∉ [tw,fb] := by have := lt_of_heap HT1.out.W.1; have := lt_of_heap HT1.out.F; simp; omega
  have HZ1 := Lib.hid hz1
  have HZ2 := Lib.hid hz2
  have Hsec := Lib.hid hsec
  have HX1 := Lib.hid hx1
  clear hz1 hz2 hsec hx1
  cases hz : tZero H.mw H.mx
  · obtain ⟨rfl,rfl⟩ := HZ1.out hz
    clear HZ1 HZ2
    go_wp2_with fail
    refine (v7.out _ _).mono ?_
    rintro e wx ⟨rfl,rfl⟩
    have HF := Lib.hid ((HF1.out.wide (S' := [tw,fb]) (Nat.le_refl _) (by simp)).trans (Fr.of_below HB2.out w.heap.size [tw,fb]))
    have HM := Lib.hid (And.intro e0 e1)
    have HT := HT2
    clear HB2 Mb2 HT2 HF1 e0 e1
    have s0 := HT.out.seg.get_typ
    have hTyp : Blk.zero.typ = [0] := rfl
    have tc := s0.cell 0 0 (by rw [hTyp]; rfl)
    have tz := s0.frozen 0
    rw [HT.out.ok.off_typ,HT.out.pre] at tc tz
    clear s0 hTyp
    go_wp2_with fail
    have hst : (w2.setCell ⟨tw,179,none⟩ (.int .u8 H.typ)).drew.cell? ⟨tw,3,none⟩ = some (.int .u8 H.typ) := (cell_set_ne w2 tw 3 179 (.int .u8 H.typ) (by omega)).trans t0
    go_region_held3 (fun w' => w'.cell? ⟨tw,3,none⟩ = some (.int .u8 H.typ)) (first | go_keep | assumption) (first | (go_at_call 174; refine (vt.out _ _ _).mono ?_; rintro e wx ⟨rfl,rfl⟩))
    have T3 := (HT.out.next (w' := w2.setCell ⟨tw,179,none⟩ (.int .u8 H.typ)) (ferr2 := ferr) (B2 := { Blk.zero with typ := [UInt8.ofNat H.typ.toNat] }) (by
      have q := HT.out.seg.get_typ.set 0 (by show 0 < 1; omega) (UInt8.ofNat H.typ.toNat)
      rw [HT.out.ok.off_typ,HT.out.pre] at q
      have e3 : ((UInt8.ofNat H.typ.toNat).toNat : Int) = H.typ := by have := hin.typ; rw [UInt8.toNat_ofNat']; omega
      rw [e3] at q
      exact q.put_typ) (Blk.zero_ok.put_typ _ rfl) ((heap_set_other _ hne).trans HT.out.F) ((Fr.refl _ _ w2).setCell (.inl (by simp)) _)).drew
    have F3 := (HF.out.setCell (p := ⟨tw,179,none⟩) (.inl (by simp)) (.int .u8 H.typ)).drew
    have M3 : Hid ((w2.setCell ⟨tw,179,none⟩ (.int .u8 H.typ)).drew.cell? ⟨w1.heap.size,0,none⟩ = some (.int .u64 _) ∧ (w2.setCell ⟨tw,179,none⟩ (.int .u8 H.typ)).drew.cell? ⟨w1.heap.size,1,none⟩ = some (.int .i64 _)) := Lib.hid ⟨(World.cell?_setCell_other w2 ⟨tw,179,none⟩ ⟨w1.heap.size,0,none⟩ _ (fun e => by cases e)).trans HM.out.1,(World.cell?_setCell_other w2 ⟨tw,179,none⟩ ⟨w1.heap.size,1,none⟩ _ (fun e => by cases e)).trans HM.out.2⟩
    have G0 := Lib.hid F3
    clear hst F3 t0 tc tz HT HF HM
    generalize (w2.setCell ⟨tw,179,none⟩ (.int .u8 H.typ)).drew = v0 at *
    have HT := Lib.hid T3
    have HM := M3
    clear T3 M3
    have c := HT.out.hdr 1 (str H.name) rfl
    have HC := Lib.hid (stepS_name HT.out.drew H.name hin.name)
    have va := Lib.hid v7name
    go_wp2_with fail
    go_region_held3 (fun w' => w'.cell? ⟨tw,4,none⟩ = some (str H.name)) (first | go_keep | assumption) (first | (go_at_call 109; refine (va.out _ _ _).mono ?_; rintro e wx ⟨rfl,rfl⟩) | (go_at_call 129; refine HC.out.mono ?_; rintro e v1 ⟨rfl,n_name,r1,k_name,q1,T4,F4⟩; have c4 := T4.hdr 1 (str H.name) rfl))
    have G1 := Lib.hid (G0.out.drew.trans (F4.wide (B' := w.heap.size) (S' := [tw,fb]) G0.out.size (fun k hk _ => hk)))
    have HM2 := Lib.hid (And.intro (F4.cell HM.out.1 hnm (block_lt_of_cell HM.out.1)) (F4.cell HM.out.2 hnm (block_lt_of_cell HM.out.2)))
    have HT2 := Lib.hid T4
    have K_name := Lib.hid k_name; have Q1 := Lib.hid q1; clear k_name q1
    clear c c4 T4 F4 HC HM HT va
    have HM := HM2
    have HT := HT2
    clear HM2 HT2
    have c := HT.out.hdr 2 (str H.link) rfl
    have HC := Lib.hid (stepS_link HT.out.drew H.link hin.link)
    have va := Lib.hid v7link
    go_wp2_with fail
    go_region_held3 (fun w' => w'.cell? ⟨tw,5,none⟩ = some (str H.link)) (first | go_keep | assumption) (first | (go_at_call 110; refine (va.out _ _ _).mono ?_; rintro e wx ⟨rfl,rfl⟩) | (go_at_call 129; refine HC.out.mono ?_; rintro e v2 ⟨rfl,n_link,r2,k_link,q2,T4,F4⟩; have c4 := T4.hdr 2 (str H.link) rfl))
    have G2 := Lib.hid (G1.out.drew.trans (F4.wide (B' := w.heap.size) (S' := [tw,fb]) G1.out.size (fun k hk _ => hk)))
    have HM2 := Lib.hid (And.intro (F4.cell HM.out.1 hnm (block_lt_of_cell HM.out.1)) (F4.cell HM.out.2 hnm (block_lt_of_cell HM.out.2)))
    have HT2 := Lib.hid T4
    have K_link := Lib.hid k_link; have Q2 := Lib.hid q2; clear k_link q2
    clear c c4 T4 F4 HC HM HT va
    have HM := HM2
    have HT := HT2
    clear HM2 HT2
    have c := HT.out.hdr 4 (.int .i64 H.mode) rfl
    have HC := Lib.hid (stepO_mode HT.out.drew H.mode hin.mode.1 hin.mode.2)
    have va := Lib.hid v7mode
    go_wp2_with fail
    go_region_held3 (fun w' => w'.cell? ⟨tw,7,none⟩ = some (.int .i64 H.mode)) (first | go_keep | assumption) (first | (go_at_call 113; refine (va.out _ _ _).mono ?_; rintro e wx ⟨rfl,rfl⟩) | (go_at_call 130; refine HC.out.mono ?_; rintro e v3 ⟨rfl,r3,q3,T4,F4⟩; have c4 := T4.hdr 4 (.int .i64 H.mode) rfl))
    have G3 := Lib.hid (G2.out.drew.trans (F4.wide (B' := w.heap.size) (S' := [tw,fb]) G2.out.size (fun k hk _ => hk)))
    have HM2 := Lib.hid (And.intro (F4.cell HM.out.1 hnm (block_lt_of_cell HM.out.1)) (F4.cell HM.out.2 hnm (block_lt_of_cell HM.out.2)))
    have HT2 := Lib.hid T4
    have Q3 := Lib.hid q3; clear q3
    clear c c4 T4 F4 HC HM HT va
    have HM := HM2
    have HT := HT2
    clear HM2 HT2
    have c := HT.out.hdr 5 (.int .i64 H.uid) rfl
    have HC := Lib.hid (stepO_uid HT.out.drew H.uid hin.uid.1 hin.uid.2)
    have va := Lib.hid v7uid
    go_wp2_with fail
    go_region_held3 (fun w' => w'.cell? ⟨tw,8,none⟩ = some (.int .i64 H.uid)) (first | go_keep | assumption) (first | (go_at_call 114; refine (va.out _ _ _).mono ?_; rintro e wx ⟨rfl,rfl⟩) | (go_at_call 130; refine HC.out.mono ?_; rintro e v4 ⟨rfl,r4,q4,T4,F4⟩; have c4 := T4.hdr 5 (.int .i64 H.uid) rfl))
    have G4 := Lib.hid (G3.out.drew.trans (F4.wide (B' := w.heap.size) (S' := [tw,fb]) G3.out.size (fun k hk _ => hk)))
    have HM2 := Lib.hid (And.intro (F4.cell HM.out.1 hnm (block_lt_of_cell HM.out.1)) (F4.cell HM.out.2 hnm (block_lt_of_cell HM.out.2)))
    have HT2 := Lib.hid T4
    have Q4 := Lib.hid q4; clear q4
    clear c c4 T4 F4 HC HM HT va
    have HM := HM2
    have HT := HT2
    clear HM2 HT2
    have c := HT.out.hdr 6 (.int .i64 H.gid) rfl
    have HC := Lib.hid (stepO_gid HT.out.drew H.gid hin.gid.1 hin.gid.2)
    have va := Lib.hid v7gid
    go_wp2_with fail
    go_region_held3 (fun w' => w'.cell? ⟨tw,9,none⟩ = some (.int .i64 H.gid)) (first | go_keep | assumption) (first | (go_at_call 115; refine (va.out _ _ _).mono ?_; rintro e wx ⟨rfl,rfl⟩) | (go_at_call 130; refine HC.out.mono ?_; rintro e v5 ⟨rfl,r5,q5,T4,F4⟩; have c4 := T4.hdr 6 (.int .i64 H.gid) rfl))
    have G5 := Lib.hid (G4.out.drew.trans (F4.wide (B' := w.heap.size) (S' := [tw,fb]) G4.out.size (fun k hk _ => hk)))
    have HM2 := Lib.hid (And.intro (F4.cell HM.out.1 hnm (block_lt_of_cell HM.out.1)) (F4.cell HM.out.2 hnm (block_lt_of_cell HM.out.2)))
    have HT2 := Lib.hid T4
    have Q5 := Lib.hid q5; clear q5
    clear c c4 T4 F4 HC HM HT va
    have HM := HM2
    have HT := HT2
    clear HM2 HT2
    have c := HT.out.hdr 3 (.int .i64 H.size) rfl
    have HC := Lib.hid (stepO_size HT.out.drew H.size hin.size.1 hin.size.2)
    have va := Lib.hid v7size
    go_wp2_with fail
    go_region_held3 (fun w' => w'.cell? ⟨tw,6,none⟩ = some (.int .i64 H.size)) (first | go_keep | assumption) (first | (go_at_call 116; refine (va.out _ _ _).mono ?_; rintro e wx ⟨rfl,rfl⟩) | (go_at_call 130; refine HC.out.mono ?_; rintro e v6 ⟨rfl,r6,q6,T4,F4⟩; have c4 := T4.hdr 3 (.int .i64 H.size) rfl))
    have G6 := Lib.hid (G5.out.drew.trans (F4.wide (B' := w.heap.size) (S' := [tw,fb]) G5.out.size (fun k hk _ => hk)))
    have HM2 := Lib.hid (And.intro (F4.cell HM.out.1 hnm (block_lt_of_cell HM.out.1)) (F4.cell HM.out.2 hnm (block_lt_of_cell HM.out.2)))
    have HT2 := Lib.hid T4
    have Q6 := Lib.hid q6; clear q6
    clear c c4 T4 F4 HC HM HT va
    have HM := HM2
    have HT := HT2
    clear HM2 HT2
    have va := Lib.hid v7mtime
    obtain ⟨m1,m2⟩ := HM.out
    have g1 := block_lt_of_cell m1
    go_wp2_with fail
    go_region_held3 (fun w' => w'.cell? ⟨w1.heap.size,0,none⟩ = some (.int .u64 (H.mw)) ∧ w'.cell? ⟨w1.heap.size,1,none⟩ = some (.int .i64 (H.mx))) (first | go_keep | (refine And.intro ?_ ?_ <;> assumption)) (first | (go_at_call 119; refine (va.out _ _ _).mono ?_; rintro e wx ⟨rfl,rfl⟩) | (go_at_call 103; refine (tUnix v6.drew (H.mw) (H.mx) hn0 hn1 HX1.out).mono ?_; rintro e wu ⟨rfl,hbu⟩; have m3 := (hbu.cell (p := ⟨w1.heap.size,0,none⟩) g1).trans m1; have m4 := (hbu.cell (p := ⟨w1.heap.size,1,none⟩) g1).trans m2; have HC := Lib.hid (fun x => stepO_mtime (HT.out.drew.below hbu) x); have HB := Lib.hid hbu; clear hbu) | (go_at_call 130; refine (HC.out _ (by have := HX1.out; omega) (by have := HX1.out; omega)).mono ?_; rintro e v7 ⟨rfl,r7,q7,T4,F4⟩; have m5 := (F4.cell m3 hnm (block_lt_of_cell m3)); have m6 := (F4.cell m4 hnm (block_lt_of_cell m4))))
    have G7 := Lib.hid ((G6.out.drew.trans (Fr.of_below HB.out w.heap.size [tw,fb])).trans (F4.wide (B' := w.heap.size) (S' := [tw,fb]) (Nat.le_trans G6.out.size HB.out.size) (fun k hk _ => hk)))
    have HM2 := Lib.hid (And.intro m5 m6)
    have HT2 := Lib.hid T4
    have Q7 := Lib.hid q7
    clear m1 m2 m3 m4 m5 m6 g1 q7 T4 F4 HC HB HM HT va
    have HM := HM2
    have HT := HT2
    clear HM2 HT2
    go_wp2_with fail
    refine (vu.out _ _).mono ?_
    rintro e wx ⟨rfl,rfl⟩
    have c := HT.out.hdr 7 (str H.user) rfl
    have HC := Lib.hid (stepS_user HT.out.drew H.user hin.user)
    have va := Lib.hid uUser
    go_wp2_with fail
    go_region_held3 (fun w' => w'.cell? ⟨tw,10,none⟩ = some (str H.user)) (first | go_keep | assumption) (first | (go_at_call 111; refine (va.out _ _ _).mono ?_; rintro e wx ⟨rfl,rfl⟩) | (go_at_call 129; refine HC.out.mono ?_; rintro e v8 ⟨rfl,n_user,r8,k_user,q8,T4,F4⟩; have c4 := T4.hdr 7 (str H.user) rfl))
    have G8 := Lib.hid (G7.out.drew.trans (F4.wide (B' := w.heap.size) (S' := [tw,fb]) G7.out.size (fun k hk _ => hk)))
    have HM2 := Lib.hid (And.intro (F4.cell HM.out.1 hnm (block_lt_of_cell HM.out.1)) (F4.cell HM.out.2 hnm (block_lt_of_cell HM.out.2)))
    have HT2 := Lib.hid T4
    have K_user := Lib.hid k_user; have Q8 := Lib.hid q8; clear k_user q8
    clear c c4 T4 F4 HC HM HT va
    have HM := HM2
    have HT := HT2
    clear HM2 HT2
    have c := HT.out.hdr 8 (str H.group) rfl
    have HC := Lib.hid (stepS_group HT.out.drew H.group hin.group)
    have va := Lib.hid uGroup
    go_wp2_with fail
    go_region_held3 (fun w' => w'.cell? ⟨tw,11,none⟩ = some (str H.group)) (first | go_keep | assumption) (first | (go_at_call 112; refine (va.out _ _ _).mono ?_; rintro e wx ⟨rfl,rfl⟩) | (go_at_call 129; refine HC.out.mono ?_; rintro e v9 ⟨rfl,n_group,r9,k_group,q9,T4,F4⟩; have c4 := T4.hdr 8 (str H.group) rfl))
    have G9 := Lib.hid (G8.out.drew.trans (F4.wide (B' := w.heap.size) (S' := [tw,fb]) G8.out.size (fun k hk _ => hk)))
    have HM2 := Lib.hid (And.intro (F4.cell HM.out.1 hnm (block_lt_of_cell HM.out.1)) (F4.cell HM.out.2 hnm (block_lt_of_cell HM.out.2)))
    have HT2 := Lib.hid T4
    have K_group := Lib.hid k_group; have Q9 := Lib.hid q9; clear k_group q9
    clear c c4 T4 F4 HC HM HT va
    have HM := HM2
    have HT := HT2
    clear HM2 HT2
    have c := HT.out.hdr 15 (.int .i64 H.maj) rfl
    have HC := Lib.hid (stepO_maj HT.out.drew H.maj hin.maj.1 hin.maj.2)
    have va := Lib.hid uMaj
    go_wp2_with fail
    go_region_held3 (fun w' => w'.cell? ⟨tw,18,none⟩ = some (.int .i64 H.maj)) (first | go_keep | assumption) (first | (go_at_call 117; refine (va.out _ _ _).mono ?_; rintro e wx ⟨rfl,rfl⟩) | (go_at_call 130; refine HC.out.mono ?_; rintro e v10 ⟨rfl,r10,q10,T4,F4⟩; have c4 := T4.hdr 15 (.int .i64 H.maj) rfl))
    have G10 := Lib.hid (G9.out.drew.trans (F4.wide (B' := w.heap.size) (S' := [tw,fb]) G9.out.size (fun k hk _ => hk)))
    have HM2 := Lib.hid (And.intro (F4.cell HM.out.1 hnm (block_lt_of_cell HM.out.1)) (F4.cell HM.out.2 hnm (block_lt_of_cell HM.out.2)))
    have HT2 := Lib.hid T4
    have Q10 := Lib.hid q10; clear q10
    clear c c4 T4 F4 HC HM HT va
    have HM := HM2
    have HT := HT2
    clear HM2 HT2
    have c := HT.out.hdr 16 (.int .i64 H.mnr) rfl
    have HC := Lib.hid (stepO_mnr HT.out.drew H.mnr hin.mnr.1 hin.mnr.2)
    have va := Lib.hid uMin
    go_wp2_with fail
    go_region_held3 (fun w' => w'.cell? ⟨tw,19,none⟩ = some (.int .i64 H.mnr)) (first | go_keep | assumption) (first | (go_at_call 118; refine (va.out _ _ _).mono ?_; rintro e wx ⟨rfl,rfl⟩) | (go_at_call 130; refine HC.out.mono ?_; rintro e v11 ⟨rfl,r11,q11,T4,F4⟩; have c4 := T4.hdr 16 (.int .i64 H.mnr) rfl))
    have G11 := Lib.hid (G10.out.drew.trans (F4.wide (B' := w.heap.size) (S' := [tw,fb]) G10.out.size (fun k hk _ => hk)))
    have HM2 := Lib.hid (And.intro (F4.cell HM.out.1 hnm (block_lt_of_cell HM.out.1)) (F4.cell HM.out.2 hnm (block_lt_of_cell HM.out.2)))
    have HT2 := Lib.hid T4
    have Q11 := Lib.hid q11; clear q11
    clear c c4 T4 F4 HC HM HT va
    have HM := HM2
    have HT := HT2
    clear HM2 HT2
    go_wp2_with fail
    go_ret
    refine ⟨rfl,_,_,HT.out,⟨rfl,K_name.out,K_link.out,K_user.out,K_group.out,rfl,rfl,rfl,rfl,?_,rfl,rfl,rfl⟩,?_,G11.out⟩
    · rw [← Hsec.out]; try rfl
    · intro a1 a2 a3 a4 a5 a6 a7 a8 a9 a10 a11
      exact (Q11.out a11).trans ((Q10.out a10).trans ((Q9.out a4).trans ((Q8.out a3).trans ((Q7.out (by rw [← Hsec.out] at a9; exact a9)).trans ((Q6.out a8).trans ((Q5.out a7).trans ((Q4.out a6).trans ((Q3.out a5).trans ((Q2.out a2).trans (Q1.out a1))))))))))
  · obtain ⟨rfl,rfl⟩ := HZ2.out hz
    clear HZ1 HZ2
    go_wp2_with fail
    refine (tOf _ 0 0 (by omega) (by omega) (by omega)).mono ?_
    rintro e w3 ⟨rfl,hb3⟩
    have mb3 := (hb3.block w1.heap.size (lt_of_heap Mb2.out)).trans Mb2.out
    have f0 : w3.cell? ⟨w1.heap.size,0,none⟩ = some (.int .u64 H.mw) := by rw [Lib.cell_of_heap mb3]; rfl
    have f1 : w3.cell? ⟨w1.heap.size,1,none⟩ = some (.int .i64 H.mx) := by rw [Lib.cell_of_heap mb3]; rfl
    have z0 := Lib.frozen_of_heap mb3 0
    have z1 := Lib.frozen_of_heap mb3 1
    have mb4 := heap_set_same (i := 1) (.int .i64 62135596800) (heap_set_same (i := 0) (.int .u64 0) mb3)
    have B4 : Below w1.heap.size w1 ((w3.setCell ⟨w1.heap.size,0,none⟩ (.int .u64 0)).setCell ⟨w1.heap.size,1,none⟩ (.int .i64 62135596800)) := (((HB2.out.trans (hb3.mono HB2.out.size))).setCell (p := ⟨w1.heap.size,0,none⟩) (Nat.le_refl _) _).setCell (p := ⟨w1.heap.size,1,none⟩) (Nat.le_refl _) _
    have HT := Lib.hid (HT1.out.below B4)
    have HF := Lib.hid ((HF1.out.wide (S' := [tw,fb]) (Nat.le_refl _) (by simp)).trans (Fr.of_below B4 w.heap.size [tw,fb]))
    have t0 := HT.out.hdr 0 (.int .u8 H.typ) rfl
    have HM : Hid (((w3.setCell ⟨w1.heap.size,0,none⟩ (.int .u64 0)).setCell ⟨w1.heap.size,1,none⟩ (.int .i64 62135596800)).cell? ⟨w1.heap.size,0,none⟩ = some (.int .u64 0) ∧ ((w3.setCell ⟨w1.heap.size,0,none⟩ (.int .u64 0)).setCell ⟨w1.heap.size,1,none⟩ (.int .i64 62135596800)).cell? ⟨w1.heap.size,1,none⟩ = some (.int .i64 62135596800)) := Lib.hid ⟨by rw [Lib.cell_of_heap mb4]; rfl,by rw [Lib.cell_of_heap mb4]; rfl⟩
    clear mb3 mb4 B4 HB2 Mb2 HT2 HF1 hb3 e0 e1
    go_wp2_with fail
    generalize (w3.setCell ⟨w1.heap.size,0,none⟩ (.int .u64 0)).setCell ⟨w1.heap.size,1,none⟩ (.int .i64 62135596800) = w4 at *
    clear f0 f1 z0 z1
    refine (v7.out _ _).mono ?_
    rintro e wx ⟨rfl,rfl⟩
    have s0 := HT.out.seg.get_typ
    have hTyp : Blk.zero.typ = [0] := rfl
    have tc := s0.cell 0 0 (by rw [hTyp]; rfl)
    have tz := s0.frozen 0
    rw [HT.out.ok.off_typ,HT.out.pre] at tc tz
    clear s0 hTyp
    go_wp2_with fail
    have hst : (w4.setCell ⟨tw,179,none⟩ (.int .u8 H.typ)).drew.cell? ⟨tw,3,none⟩ = some (.int .u8 H.typ) := (cell_set_ne w4 tw 3 179 (.int .u8 H.typ) (by omega)).trans t0
    go_region_held3 (fun w' => w'.cell? ⟨tw,3,none⟩ = some (.int .u8 H.typ)) (first | go_keep | assumption) (first | (go_at_call 174; refine (vt.out _ _ _).mono ?_; rintro e wx ⟨rfl,rfl⟩))
    have T3 := (HT.out.next (w' := w4.setCell ⟨tw,179,none⟩ (.int .u8 H.typ)) (ferr2 := ferr) (B2 := { Blk.zero with typ := [UInt8.ofNat H.typ.toNat] }) (by
      have q := HT.out.seg.get_typ.set 0 (by show 0 < 1; omega) (UInt8.ofNat H.typ.toNat)
      rw [HT.out.ok.off_typ,HT.out.pre] at q
      have e3 : ((UInt8.ofNat H.typ.toNat).toNat : Int) = H.typ := by have := hin.typ; rw [UInt8.toNat_ofNat']; omega
      rw [e3] at q
      exact q.put_typ) (Blk.zero_ok.put_typ _ rfl) ((heap_set_other _ hne).trans HT.out.F) ((Fr.refl _ _ w4).setCell (.inl (by simp)) _)).drew
    have F3 := (HF.out.setCell (p := ⟨tw,179,none⟩) (.inl (by simp)) (.int .u8 H.typ)).drew
    have M3 : Hid ((w4.setCell ⟨tw,179,none⟩ (.int .u8 H.typ)).drew.cell? ⟨w1.heap.size,0,none⟩ = some (.int .u64 _) ∧ (w4.setCell ⟨tw,179,none⟩ (.int .u8 H.typ)).drew.cell? ⟨w1.heap.size,1,none⟩ = some (.int .i64 _)) := Lib.hid ⟨(World.cell?_setCell_other w4 ⟨tw,179,none⟩ ⟨w1.heap.size,0,none⟩ _ (fun e => by cases e)).trans HM.out.1,(World.cell?_setCell_other w4 ⟨tw,179,none⟩ ⟨w1.heap.size,1,none⟩ _ (fun e => by cases e)).trans HM.out.2⟩
    have G0 := Lib.hid F3
    clear hst F3 t0 tc tz HT HF HM
    generalize (w4.setCell ⟨tw,179,none⟩ (.int .u8 H.typ)).drew = v0 at *
    have HT := Lib.hid T3
    have HM := M3
    clear T3 M3
    have c := HT.out.hdr 1 (str H.name) rfl
    have HC := Lib.hid (stepS_name HT.out.drew H.name hin.name)
    have va := Lib.hid v7name
    go_wp2_with fail
    go_region_held3 (fun w' => w'.cell? ⟨tw,4,none⟩ = some (str H.name)) (first | go_keep | assumption) (first | (go_at_call 109; refine (va.out _ _ _).mono ?_; rintro e wx ⟨rfl,rfl⟩) | (go_at_call 129; refine HC.out.mono ?_; rintro e v1 ⟨rfl,n_name,r1,k_name,q1,T4,F4⟩; have c4 := T4.hdr 1 (str H.name) rfl))
    have G1 := Lib.hid (G0.out.drew.trans (F4.wide (B' := w.heap.size) (S' := [tw,fb]) G0.out.size (fun k hk _ => hk)))
    have HM2 := Lib.hid (And.intro (F4.cell HM.out.1 hnm (block_lt_of_cell HM.out.1)) (F4.cell HM.out.2 hnm (block_lt_of_cell HM.out.2)))
    have HT2 := Lib.hid T4
    have K_name := Lib.hid k_name; have Q1 := Lib.hid q1; clear k_name q1
    clear c c4 T4 F4 HC HM HT va
    have HM := HM2
    have HT := HT2
    clear HM2 HT2
    have c := HT.out.hdr 2 (str H.link) rfl
    have HC := Lib.hid (stepS_link HT.out.drew H.link hin.link)
    have va := Lib.hid v7link
    go_wp2_with fail
    go_region_held3 (fun w' => w'.cell? ⟨tw,5,none⟩ = some (str H.link)) (first | go_keep | assumption) (first | (go_at_call 110; refine (va.out _ _ _).mono ?_; rintro e wx ⟨rfl,rfl⟩) | (go_at_call 129; refine HC.out.mono ?_; rintro e v2 ⟨rfl,n_link,r2,k_link,q2,T4,F4⟩; have c4 := T4.hdr 2 (str H.link) rfl))
    have G2 := Lib.hid (G1.out.drew.trans (F4.wide (B' := w.heap.size) (S' := [tw,fb]) G1.out.size (fun k hk _ => hk)))
    have HM2 := Lib.hid (And.intro (F4.cell HM.out.1 hnm (block_lt_of_cell HM.out.1)) (F4.cell HM.out.2 hnm (block_lt_of_cell HM.out.2)))
    have HT2 := Lib.hid T4
    have K_link := Lib.hid k_link; have Q2 := Lib.hid q2; clear k_link q2
    clear c c4 T4 F4 HC HM HT va
    have HM := HM2
    have HT := HT2
    clear HM2 HT2
    have c := HT.out.hdr 4 (.int .i64 H.mode) rfl
    have HC := Lib.hid (stepO_mode HT.out.drew H.mode hin.mode.1 hin.mode.2)
    have va := Lib.hid v7mode
    go_wp2_with fail
    go_region_held3 (fun w' => w'.cell? ⟨tw,7,none⟩ = some (.int .i64 H.mode)) (first | go_keep | assumption) (first | (go_at_call 113; refine (va.out _ _ _).mono ?_; rintro e wx ⟨rfl,rfl⟩) | (go_at_call 130; refine HC.out.mono ?_; rintro e v3 ⟨rfl,r3,q3,T4,F4⟩; have c4 := T4.hdr 4 (.int .i64 H.mode) rfl))
    have G3 := Lib.hid (G2.out.drew.trans (F4.wide (B' := w.heap.size) (S' := [tw,fb]) G2.out.size (fun k hk _ => hk)))
    have HM2 := Lib.hid (And.intro (F4.cell HM.out.1 hnm (block_lt_of_cell HM.out.1)) (F4.cell HM.out.2 hnm (block_lt_of_cell HM.out.2)))
    have HT2 := Lib.hid T4
    have Q3 := Lib.hid q3; clear q3
    clear c c4 T4 F4 HC HM HT va
    have HM := HM2
    have HT := HT2
    clear HM2 HT2
    have c := HT.out.hdr 5 (.int .i64 H.uid) rfl
    have HC := Lib.hid (stepO_uid HT.out.drew H.uid hin.uid.1 hin.uid.2)
    have va := Lib.hid v7uid
    go_wp2_with fail
    go_region_held3 (fun w' => w'.cell? ⟨tw,8,none⟩ = some (.int .i64 H.uid)) (first | go_keep | assumption) (first | (go_at_call 114; refine (va.out _ _ _).mono ?_; rintro e wx ⟨rfl,rfl⟩) | (go_at_call 130; refine HC.out.mono ?_; rintro e v4 ⟨rfl,r4,q4,T4,F4⟩; have c4 := T4.hdr 5 (.int .i64 H.uid) rfl))
    have G4 := Lib.hid (G3.out.drew.trans (F4.wide (B' := w.heap.size) (S' := [tw,fb]) G3.out.size (fun k hk _ => hk)))
    have HM2 := Lib.hid (And.intro (F4.cell HM.out.1 hnm (block_lt_of_cell HM.out.1)) (F4.cell HM.out.2 hnm (block_lt_of_cell HM.out.2)))
    have HT2 := Lib.hid T4
    have Q4 := Lib.hid q4; clear q4
    clear c c4 T4 F4 HC HM HT va
    have HM := HM2
    have HT := HT2
    clear HM2 HT2
    have c := HT.out.hdr 6 (.int .i64 H.gid) rfl
    have HC := Lib.hid (stepO_gid HT.out.drew H.gid hin.gid.1 hin.gid.2)
    have va := Lib.hid v7gid
    go_wp2_with fail
    go_region_held3 (fun w' => w'.cell? ⟨tw,9,none⟩ = some (.int .i64 H.gid)) (first | go_keep | assumption) (first | (go_at_call 115; refine (va.out _ _ _).mono ?_; rintro e wx ⟨rfl,rfl⟩) | (go_at_call 130; refine HC.out.mono ?_; rintro e v5 ⟨rfl,r5,q5,T4,F4⟩; have c4 := T4.hdr 6 (.int .i64 H.gid) rfl))
    have G5 := Lib.hid (G4.out.drew.trans (F4.wide (B' := w.heap.size) (S' := [tw,fb]) G4.out.size (fun k hk _ => hk)))
    have HM2 := Lib.hid (And.intro (F4.cell HM.out.1 hnm (block_lt_of_cell HM.out.1)) (F4.cell HM.out.2 hnm (block_lt_of_cell HM.out.2)))
    have HT2 := Lib.hid T4
    have Q5 := Lib.hid q5; clear q5
    clear c c4 T4 F4 HC HM HT va
    have HM := HM2
    have HT := HT2
    clear HM2 HT2
    have c := HT.out.hdr 3 (.int .i64 H.size) rfl
    have HC := Lib.hid (stepO_size HT.out.drew H.size hin.size.1 hin.size.2)
    have va := Lib.hid v7size
    go_wp2_with fail
    go_region_held3 (fun w' => w'.cell? ⟨tw,6,none⟩ = some (.int .i64 H.size)) (first | go_keep | assumption) (first | (go_at_call 116; refine (va.out _ _ _).mono ?_; rintro e wx ⟨rfl,rfl⟩) | (go_at_call 130; refine HC.out.mono ?_; rintro e v6 ⟨rfl,r6,q6,T4,F4⟩; have c4 := T4.hdr 3 (.int .i64 H.size) rfl))
    have G6 := Lib.hid (G5.out.drew.trans (F4.wide (B' := w.heap.size) (S' := [tw,fb]) G5.out.size (fun k hk _ => hk)))
    have HM2 := Lib.hid (And.intro (F4.cell HM.out.1 hnm (block_lt_of_cell HM.out.1)) (F4.cell HM.out.2 hnm (block_lt_of_cell HM.out.2)))
    have HT2 := Lib.hid T4
    have Q6 := Lib.hid q6; clear q6
    clear c c4 T4 F4 HC HM HT va
    have HM := HM2
    have HT := HT2
    clear HM2 HT2
    have va := Lib.hid v7mtime
    obtain ⟨m1,m2⟩ := HM.out
    have g1 := block_lt_of_cell m1
    go_wp2_with fail
    go_region_held3 (fun w' => w'.cell? ⟨w1.heap.size,0,none⟩ = some (.int .u64 (0)) ∧ w'.cell? ⟨w1.heap.size,1,none⟩ = some (.int .i64 (62135596800))) (first | go_keep | (refine And.intro ?_ ?_ <;> assumption)) (first | (go_at_call 119; refine (va.out _ _ _).mono ?_; rintro e wx ⟨rfl,rfl⟩) | (go_at_call 103; refine (tUnix v6.drew (0) (62135596800) hn0 hn1 HX1.out).mono ?_; rintro e wu ⟨rfl,hbu⟩; have m3 := (hbu.cell (p := ⟨w1.heap.size,0,none⟩) g1).trans m1; have m4 := (hbu.cell (p := ⟨w1.heap.size,1,none⟩) g1).trans m2; have HC := Lib.hid (fun x => stepO_mtime (HT.out.drew.below hbu) x); have HB := Lib.hid hbu; clear hbu) | (go_at_call 130; refine (HC.out _ (by have := HX1.out; omega) (by have := HX1.out; omega)).mono ?_; rintro e v7 ⟨rfl,r7,q7,T4,F4⟩; have m5 := (F4.cell m3 hnm (block_lt_of_cell m3)); have m6 := (F4.cell m4 hnm (block_lt_of_cell m4))))
    have G7 := Lib.hid ((G6.out.drew.trans (Fr.of_below HB.out w.heap.size [tw,fb])).trans (F4.wide (B' := w.heap.size) (S' := [tw,fb]) (Nat.le_trans G6.out.size HB.out.size) (fun k hk _ => hk)))
    have HM2 := Lib.hid (And.intro m5 m6)
    have HT2 := Lib.hid T4
    have Q7 := Lib.hid q7
    clear m1 m2 m3 m4 m5 m6 g1 q7 T4 F4 HC HB HM HT va
    have HM := HM2
    have HT := HT2
    clear HM2 HT2
    go_wp2_with fail
    refine (vu.out _ _).mono ?_
    rintro e wx ⟨rfl,rfl⟩
    have c := HT.out.hdr 7 (str H.user) rfl
    have HC := Lib.hid (stepS_user HT.out.drew H.user hin.user)
    have va := Lib.hid uUser
    go_wp2_with fail
    go_region_held3 (fun w' => w'.cell? ⟨tw,10,none⟩ = some (str H.user)) (first | go_keep | assumption) (first | (go_at_call 111; refine (va.out _ _ _).mono ?_; rintro e wx ⟨rfl,rfl⟩) | (go_at_call 129; refine HC.out.mono ?_; rintro e v8 ⟨rfl,n_user,r8,k_user,q8,T4,F4⟩; have c4 := T4.hdr 7 (str H.user) rfl))
    have G8 := Lib.hid (G7.out.drew.trans (F4.wide (B' := w.heap.size) (S' := [tw,fb]) G7.out.size (fun k hk _ => hk)))
    have HM2 := Lib.hid (And.intro (F4.cell HM.out.1 hnm (block_lt_of_cell HM.out.1)) (F4.cell HM.out.2 hnm (block_lt_of_cell HM.out.2)))
    have HT2 := Lib.hid T4
    have K_user := Lib.hid k_user; have Q8 := Lib.hid q8; clear k_user q8
    clear c c4 T4 F4 HC HM HT va
    have HM := HM2
    have HT := HT2
    clear HM2 HT2
    have c := HT.out.hdr 8 (str H.group) rfl
    have HC := Lib.hid (stepS_group HT.out.drew H.group hin.group)
    have va := Lib.hid uGroup
    go_wp2_with fail
    go_region_held3 (fun w' => w'.cell? ⟨tw,11,none⟩ = some (str H.group)) (first | go_keep | assumption) (first | (go_at_call 112; refine (va.out _ _ _).mono ?_; rintro e wx ⟨rfl,rfl⟩) | (go_at_call 129; refine HC.out.mono ?_; rintro e v9 ⟨rfl,n_group,r9,k_group,q9,T4,F4⟩; have c4 := T4.hdr 8 (str H.group) rfl))
    have G9 := Lib.hid (G8.out.drew.trans (F4.wide (B' := w.heap.size) (S' := [tw,fb]) G8.out.size (fun k hk _ => hk)))
    have HM2 := Lib.hid (And.intro (F4.cell HM.out.1 hnm (block_lt_of_cell HM.out.1)) (F4.cell HM.out.2 hnm (block_lt_of_cell HM.out.2)))
    have HT2 := Lib.hid T4
    have K_group := Lib.hid k_group; have Q9 := Lib.hid q9; clear k_group q9
    clear c c4 T4 F4 HC HM HT va
    have HM := HM2
    have HT := HT2
    clear HM2 HT2
    have c := HT.out.hdr 15 (.int .i64 H.maj) rfl
    have HC := Lib.hid (stepO_maj HT.out.drew H.maj hin.maj.1 hin.maj.2)
    have va := Lib.hid uMaj
    go_wp2_with fail
    go_region_held3 (fun w' => w'.cell? ⟨tw,18,none⟩ = some (.int .i64 H.maj)) (first | go_keep | assumption) (first | (go_at_call 117; refine (va.out _ _ _).mono ?_; rintro e wx ⟨rfl,rfl⟩) | (go_at_call 130; refine HC.out.mono ?_; rintro e v10 ⟨rfl,r10,q10,T4,F4⟩; have c4 := T4.hdr 15 (.int .i64 H.maj) rfl))
    have G10 := Lib.hid (G9.out.drew.trans (F4.wide (B' := w.heap.size) (S' := [tw,fb]) G9.out.size (fun k hk _ => hk)))
    have HM2 := Lib.hid (And.intro (F4.cell HM.out.1 hnm (block_lt_of_cell HM.out.1)) (F4.cell HM.out.2 hnm (block_lt_of_cell HM.out.2)))
    have HT2 := Lib.hid T4
    have Q10 := Lib.hid q10; clear q10
    clear c c4 T4 F4 HC HM HT va
    have HM := HM2
    have HT := HT2
    clear HM2 HT2
    have c := HT.out.hdr 16 (.int .i64 H.mnr) rfl
    have HC := Lib.hid (stepO_mnr HT.out.drew H.mnr hin.mnr.1 hin.mnr.2)
    have va := Lib.hid uMin
    go_wp2_with fail
    go_region_held3 (fun w' => w'.cell? ⟨tw,19,none⟩ = some (.int .i64 H.mnr)) (first | go_keep | assumption) (first | (go_at_call 118; refine (va.out _ _ _).mono ?_; rintro e wx ⟨rfl,rfl⟩) | (go_at_call 130; refine HC.out.mono ?_; rintro e v11 ⟨rfl,r11,q11,T4,F4⟩; have c4 := T4.hdr 16 (.int .i64 H.mnr) rfl))
    have G11 := Lib.hid (G10.out.drew.trans (F4.wide (B' := w.heap.size) (S' := [tw,fb]) G10.out.size (fun k hk _ => hk)))
    have HM2 := Lib.hid (And.intro (F4.cell HM.out.1 hnm (block_lt_of_cell HM.out.1)) (F4.cell HM.out.2 hnm (block_lt_of_cell HM.out.2)))
    have HT2 := Lib.hid T4
    have Q11 := Lib.hid q11; clear q11
    clear c c4 T4 F4 HC HM HT va
    have HM := HM2
    have HT := HT2
    clear HM2 HT2
    go_wp2_with fail
    go_ret
    refine ⟨rfl,_,_,HT.out,⟨rfl,K_name.out,K_link.out,K_user.out,K_group.out,rfl,rfl,rfl,rfl,?_,rfl,rfl,rfl⟩,?_,G11.out⟩
    · rw [← Hsec.out]; try rfl
    · intro a1 a2 a3 a4 a5 a6 a7 a8 a9 a10 a11
      exact (Q11.out a11).trans ((Q10.out a10).trans ((Q9.out a4).trans ((Q8.out a3).trans ((Q7.out (by rw [← Hsec.out] at a9; exact a9)).trans ((Q6.out a8).trans ((Q5.out a7).trans ((Q4.out a6).trans ((Q3.out a5).trans ((Q2.out a2).trans (Q1.out a1))))))))))
end Go.Proofs.YtkanmkcojlefbaaGreatDoor
