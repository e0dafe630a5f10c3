/-
  Part of the proof; holds the texts RMerge.
-/
import Derived.Test.YtkanmkcojlefbaaGreatDoorM21
import Derived.Test.YtkanmkcojlefbaaGreatDoorM15
import Derived.Test.YtkanmkcojlefbaaGreatDoorM22
set_option maxRecDepth 100000
set_option linter.unusedSimpArgs false
set_option linter.unusedVariables false
namespace Go.Proofs.YtkanmkcojlefbaaGreatDoor
open Go.RowKit Go.Lib
def mrg (H : Hd) (P : Pax) (dn : List UInt8 → Bool) : Hd :=
  { H with name := if dn kPath then P.path.getD H.name else H.name,link := if dn kLink then P.link.getD H.link else H.link,user := if dn kUname then P.uname.getD H.user else H.user,group := if dn kGname then P.gname.getD H.group else H.group,
           uid := if dn kUid then P.uid.getD H.uid else H.uid,gid := if dn kGid then P.gid.getD H.gid else H.gid,size := if dn kSize then P.size.getD H.size else H.size,
           mw := if dn kMtime then (P.mtime.map (·.1)).getD H.mw else H.mw,mx := if dn kMtime then (P.mtime.map fun t => t.2 + 62135596800).getD H.mx else H.mx,
           aw := if dn kAtime then (P.atime.map (·.1)).getD H.aw else H.aw,ax := if dn kAtime then (P.atime.map fun t => t.2 + 62135596800).getD H.ax else H.ax,
           cw := if dn kCtime then (P.ctime.map (·.1)).getD H.cw else H.cw,cx := if dn kCtime then (P.ctime.map fun t => t.2 + 62135596800).getD H.cx else H.cx }
theorem mrg_none (H : Hd) (P : Pax) : mrg H P (fun _ => false) = H := rfl
theorem mrg_ext (H : Hd) (P : Pax) (d d' : List UInt8 → Bool) (h : ∀ k ∈ tenKeys,d' k = d k) : mrg H P d' = mrg H P d := by
  have h1 := h kPath (by decide); have h2 := h kLink (by decide); have h3 := h kUname (by decide); have h4 := h kGname (by decide); have h5 := h kUid (by decide); have h6 := h kGid (by decide); have h7 := h kSize (by decide); have h8 := h kMtime (by decide); have h9 := h kAtime (by decide); have h0 := h kCtime (by decide)
  simp only [mrg,h1,h2,h3,h4,h5,h6,h7,h8,h9,h0]
theorem mrg_path (H : Hd) (P : Pax) (d d' : List UInt8 → Bool) (v : List UInt8) (hv : P.path = some v) (h1 : d' kPath = true) (hz : ∀ z,z ≠ kPath → d' z = d z) : (mrg H P d).cells.set 1 (str v) = (mrg H P d').cells := by
  have o0 := hz kLink (by decide); have o1 := hz kSize (by decide); have o2 := hz kUid (by decide); have o3 := hz kGid (by decide); have o4 := hz kUname (by decide); have o5 := hz kGname (by decide); have o6 := hz kMtime (by decide); have o7 := hz kAtime (by decide); have o8 := hz kCtime (by decide);
  simp [mrg,Hd.cells,hv,h1,o0,o1,o2,o3,o4,o5,o6,o7,o8]
theorem mrg_link (H : Hd) (P : Pax) (d d' : List UInt8 → Bool) (v : List UInt8) (hv : P.link = some v) (h1 : d' kLink = true) (hz : ∀ z,z ≠ kLink → d' z = d z) : (mrg H P d).cells.set 2 (str v) = (mrg H P d').cells := by
  have o0 := hz kPath (by decide); have o1 := hz kSize (by decide); have o2 := hz kUid (by decide); have o3 := hz kGid (by decide); have o4 := hz kUname (by decide); have o5 := hz kGname (by decide); have o6 := hz kMtime (by decide); have o7 := hz kAtime (by decide); have o8 := hz kCtime (by decide);
  simp [mrg,Hd.cells,hv,h1,o0,o1,o2,o3,o4,o5,o6,o7,o8]
theorem mrg_size (H : Hd) (P : Pax) (d d' : List UInt8 → Bool) (v : Int) (hv : P.size = some v) (h1 : d' kSize = true) (hz : ∀ z,z ≠ kSize → d' z = d z) : (mrg H P d).cells.set 3 (.int .i64 v) = (mrg H P d').cells := by
  have o0 := hz kPath (by decide); have o1 := hz kLink (by decide); have o2 := hz kUid (by decide); have o3 := hz kGid (by decide); have o4 := hz kUname (by decide); have o5 := hz kGname (by decide); have o6 := hz kMtime (by decide); have o7 := hz kAtime (by decide); have o8 := hz kCtime (by decide);
  simp [mrg,Hd.cells,hv,h1,o0,o1,o2,o3,o4,o5,o6,o7,o8]
theorem mrg_uid (H : Hd) (P : Pax) (d d' : List UInt8 → Bool) (v : Int) (hv : P.uid = some v) (h1 : d' kUid = true) (hz : ∀ z,z ≠ kUid → d' z = d z) : (mrg H P d).cells.set 5 (.int .i64 v) = (mrg H P d').cells := by
  have o0 := hz kPath (by decide); have o1 := hz kLink (by decide); have o2 := hz kSize (by decide); have o3 := hz kGid (by decide); have o4 := hz kUname (by decide); have o5 := hz kGname (by decide); have o6 := hz kMtime (by decide); have o7 := hz kAtime (by decide); have o8 := hz kCtime (by decide);
  simp [mrg,Hd.cells,hv,h1,o0,o1,o2,o3,o4,o5,o6,o7,o8]
theorem mrg_gid (H : Hd) (P : Pax) (d d' : List UInt8 → Bool) (v : Int) (hv : P.gid = some v) (h1 : d' kGid = true) (hz : ∀ z,z ≠ kGid → d' z = d z) : (mrg H P d).cells.set 6 (.int .i64 v) = (mrg H P d').cells := by
  have o0 := hz kPath (by decide); have o1 := hz kLink (by decide); have o2 := hz kSize (by decide); have o3 := hz kUid (by decide); have o4 := hz kUname (by decide); have o5 := hz kGname (by decide); have o6 := hz kMtime (by decide); have o7 := hz kAtime (by decide); have o8 := hz kCtime (by decide);
  simp [mrg,Hd.cells,hv,h1,o0,o1,o2,o3,o4,o5,o6,o7,o8]
theorem mrg_uname (H : Hd) (P : Pax) (d d' : List UInt8 → Bool) (v : List UInt8) (hv : P.uname = some v) (h1 : d' kUname = true) (hz : ∀ z,z ≠ kUname → d' z = d z) : (mrg H P d).cells.set 7 (str v) = (mrg H P d').cells := by
  have o0 := hz kPath (by decide); have o1 := hz kLink (by decide); have o2 := hz kSize (by decide); have o3 := hz kUid (by decide); have o4 := hz kGid (by decide); have o5 := hz kGname (by decide); have o6 := hz kMtime (by decide); have o7 := hz kAtime (by decide); have o8 := hz kCtime (by decide);
  simp [mrg,Hd.cells,hv,h1,o0,o1,o2,o3,o4,o5,o6,o7,o8]
theorem mrg_gname (H : Hd) (P : Pax) (d d' : List UInt8 → Bool) (v : List UInt8) (hv : P.gname = some v) (h1 : d' kGname = true) (hz : ∀ z,z ≠ kGname → d' z = d z) : (mrg H P d).cells.set 8 (str v) = (mrg H P d').cells := by
  have o0 := hz kPath (by decide); have o1 := hz kLink (by decide); have o2 := hz kSize (by decide); have o3 := hz kUid (by decide); have o4 := hz kGid (by decide); have o5 := hz kUname (by decide); have o6 := hz kMtime (by decide); have o7 := hz kAtime (by decide); have o8 := hz kCtime (by decide);
  simp [mrg,Hd.cells,hv,h1,o0,o1,o2,o3,o4,o5,o6,o7,o8]
theorem mrg_mtime (H : Hd) (P : Pax) (d d' : List UInt8 → Bool) (t : Int × Int) (hv : P.mtime = some t) (h1 : d' kMtime = true) (hz : ∀ z,z ≠ kMtime → d' z = d z) : ((mrg H P d).cells.set 9 (.int .u64 t.1)).set 10 (.int .i64 (t.2 + 62135596800)) = (mrg H P d').cells := by
  have o0 := hz kPath (by decide); have o1 := hz kLink (by decide); have o2 := hz kSize (by decide); have o3 := hz kUid (by decide); have o4 := hz kGid (by decide); have o5 := hz kUname (by decide); have o6 := hz kGname (by decide); have o7 := hz kAtime (by decide); have o8 := hz kCtime (by decide);
  simp [mrg,Hd.cells,hv,h1,o0,o1,o2,o3,o4,o5,o6,o7,o8]
theorem mrg_atime (H : Hd) (P : Pax) (d d' : List UInt8 → Bool) (t : Int × Int) (hv : P.atime = some t) (h1 : d' kAtime = true) (hz : ∀ z,z ≠ kAtime → d' z = d z) : ((mrg H P d).cells.set 11 (.int .u64 t.1)).set 12 (.int .i64 (t.2 + 62135596800)) = (mrg H P d').cells := by
  have o0 := hz kPath (by decide); have o1 := hz kLink (by decide); have o2 := hz kSize (by decide); have o3 := hz kUid (by decide); have o4 := hz kGid (by decide); have o5 := hz kUname (by decide); have o6 := hz kGname (by decide); have o7 := hz kMtime (by decide); have o8 := hz kCtime (by decide);
  simp [mrg,Hd.cells,hv,h1,o0,o1,o2,o3,o4,o5,o6,o7,o8]
theorem mrg_ctime (H : Hd) (P : Pax) (d d' : List UInt8 → Bool) (t : Int × Int) (hv : P.ctime = some t) (h1 : d' kCtime = true) (hz : ∀ z,z ≠ kCtime → d' z = d z) : ((mrg H P d).cells.set 13 (.int .u64 t.1)).set 14 (.int .i64 (t.2 + 62135596800)) = (mrg H P d').cells := by
  have o0 := hz kPath (by decide); have o1 := hz kLink (by decide); have o2 := hz kSize (by decide); have o3 := hz kUid (by decide); have o4 := hz kGid (by decide); have o5 := hz kUname (by decide); have o6 := hz kGname (by decide); have o7 := hz kMtime (by decide); have o8 := hz kAtime (by decide);
  simp [mrg,Hd.cells,hv,h1,o0,o1,o2,o3,o4,o5,o6,o7,o8]
def dnOf (m : KV) (todo : List UInt8 → Bool) : List UInt8 → Bool := fun k => (m k).isSome && !todo k
theorem dn_other (m : KV) (todo : List UInt8 → Bool) (k z : List UInt8) (h : z ≠ k) : dnOf m (fun z => todo z && !decide (z = k)) z = dnOf m todo z := by simp [dnOf,h]
theorem dn_same (m : KV) (todo : List UInt8 → Bool) (k v : List UInt8) (h : m k = some v) : dnOf m (fun z => todo z && !decide (z = k)) k = true := by simp [dnOf,h]
structure MOk (m : KV) (P : Pax) : Prop extends PaxOf m P where
  ne : ∀ k v,m k = some v → v ≠ []
  sch : ∀ k v,m k = some v → Lib.hasPrefix k [83,67,72,73,76,89,46,120,97,116,116,114,46] = false
  len : ∀ k v,m k = some v → v.length ≤ 1048576
def MRS (H : Hd) (m : KV) (P : Pax) (hb rb nR r0 : Nat) (w0 w : World) : Prop :=
  ∃ todo cnt,SRange w rb r0 nR m todo cnt ∧ w.heap[hb]? = some (.cells (mrg H P (dnOf m todo)).cells.toArray 130 (0,0)) ∧ Fr w0.heap.size [hb,r0] w0 w
theorem mrs_put {m : KV} {hb rb nR r0 : Nat} {w0 w : World} {todo : List UInt8 → Bool} {cnt : Nat} (h1 : SRange w rb r0 nR m todo cnt) {cs : List Value} (h2 : w.heap[hb]? = some (.cells cs.toArray 130 (0,0))) (h3 : Fr w0.heap.size [hb,r0] w0 w) (i : Nat) (v : Value) (hhb : rb ≠ hb) (hhr : r0 ≠ hb) :
    SRange (w.setCell ⟨hb,i,none⟩ v) rb r0 nR m todo cnt ∧ (w.setCell ⟨hb,i,none⟩ v).heap[hb]? = some (.cells (cs.set i v).toArray 130 (0,0)) ∧ Fr w0.heap.size [hb,r0] w0 (w.setCell ⟨hb,i,none⟩ v) := by
  refine ⟨h1.block (heap_set_other _ hhb) (heap_set_other _ hhr),?_,h3.setCell (p := ⟨hb,i,none⟩) (.inl (by simp)) _⟩
  have := heap_set_same (i := i) v h2
  rw [this,List.setIfInBounds_toArray]
def MrgOut (H : Hd) (m : KV) (P : Pax) (hb : Nat) (mv : Value) (w : World) (e : Ending) (w' : World) : Prop :=
  e = .returned .nilIface ∧ w'.heap[hb]? = some (.cells ({ mrg H P (fun k => (m k).isSome) with recs := mv } : Hd).cells.toArray 130 (0,0)) ∧ Fr w.heap.size [hb] w w'
theorem mergeNil (w : World) (hb : Nat) (H : Hd) (P : Pax) (hh : w.heap[hb]? = some (.cells H.cells.toArray 130 (0,0))) :
    Calls Tryz.prog 151 #[.pointer (some ⟨hb,0,none⟩),.map none] w (MrgOut H (fun _ => none) P hb (.map none) w) := by
  have hr := run_range_nilMap (P := Tryz.prog) w 127 9 9 Tryz.underlying127
  have hn := fun ty => run_next_nilMap (P := Tryz.prog) w ty 0 0 #[]
  have hlt := lt_of_heap hh
  have hh1 := (Below.heap_alloc w (.mapIter none 0 #[] 0) hb hlt).trans hh
  have c18 : (w.alloc (.mapIter none 0 #[] 0)).cell? ⟨hb,18,none⟩ = some H.recs := by rw [Lib.cell_of_heap hh1]; rfl
  have z18 : (w.alloc (.mapIter none 0 #[] 0)).frozen? ⟨hb,18,none⟩ = false := Lib.frozen_of_heap hh1 18
  have hs : (w.setCell ⟨hb,18,none⟩ (.map none)).heap.size = w.heap.size := by simp [World.setCell]
  have hfin : MrgOut H (fun _ => none) P hb (.map none) w (.returned .nilIface) ((w.setCell ⟨hb,18,none⟩ (.map none)).alloc (.mapIter none 0 #[] 0)) :=
    ⟨rfl,(Below.heap_alloc _ _ hb (by rw [hs]; exact hlt)).trans (heap_set_same (i := 18) (.map none) hh),((Fr.refl _ _ w).setCell (p := ⟨hb,18,none⟩) (.inl (by simp)) _).alloc _⟩
  have HFIN := Lib.hid hfin
  clear hh hh1 hs hfin
  go_enter Tryz.func151,Tryz.ntmps151
  go_wp2_with fail
  refine wp_loop_once ?_
  go_wp2_with fail
  go_ret
  exact HFIN.out
set_option maxHeartbeats 8000000 in
theorem mergePAX (w : World) (hb rb nR : Nat) (H : Hd) (m : KV) (P : Pax) (hh : w.heap[hb]? = some (.cells H.cells.toArray 130 (0,0))) (hm : SMap w rb nR m) (hok : MOk m P) :
    Calls Tryz.prog 151 #[.pointer (some ⟨hb,0,none⟩),.map (some rb)] w (MrgOut H m P hb (.map (some rb)) w) := by
  have hlt := lt_of_heap hh
  have hhb : rb ≠ hb := by
    rintro rfl
    obtain ⟨D,⟨es,clock,h1,h2⟩,h3⟩ := hm
    rw [h1] at hh; cases hh
  have HH := Lib.hid hh; have HOK := Lib.hid hok
  clear hh hok
  go_enter Tryz.func151,Tryz.ntmps151
  go_wp2_with (at_range; refine wpList_range_s _ rfl _ rfl rb nR m rfl hm ?_; intro w0 cnt0 hrg0 hcn hg0 hs0)
  go_frame
  have hr0 : w.heap.size ≠ hb := by omega
  have HR1 : Hid (MRS H m P hb rb nR w.heap.size w w0) := Lib.hid ⟨_,cnt0,hrg0,by
    have e : mrg H P (dnOf m (fun k => (m k).isSome)) = H := by
      rw [mrg_ext H P (fun _ => false) _ (fun k _ => by simp [dnOf]),mrg_none]
    rw [e]
    exact (hg0.block hb hlt (by simp)).trans HH.out,Fr.of_grown hg0 _ (fun k hk => by cases hk)⟩
  clear hrg0 hcn hg0 hs0 hm
  obtain ⟨r0,hr00⟩ : ∃ r0,r0 = w.heap.size := ⟨_,rfl⟩
  rw [← hr00] at HR1 hr0 ⊢
  have HR00 := Lib.hid hr00
  clear hr00
  go_loopw [4] (fun s4 wr => s4 = .nilIface ∧ Hid (MRS H m P hb rb nR r0 w wr)) (fun _ wr => wr.rangeLeft rb r0)
  case atStart => exact ⟨rfl,HR1⟩
  case round =>
    obtain ⟨rfl,hrel⟩ := hrel
    obtain ⟨todo,cnt,hrg,hcell,hfr⟩ := hrel.out
    have HC := Lib.hid hcell; have HF := Lib.hid hfr; have HRG := Lib.hid hrg
    clear hrel hcell hfr HR1
    go_wp2_with (at_next; refine wpList_next_s _ rfl _ rfl rb r0 nR m todo cnt rfl hrg ?_ ?_)
    · intro hc0 htd
      have c18 : wr.cell? ⟨hb,18,none⟩ = some H.recs := by rw [Lib.cell_of_heap HC.out]; rfl
      have z18 : wr.frozen? ⟨hb,18,none⟩ = false := Lib.frozen_of_heap HC.out 18
      have HTD := Lib.hid htd
      clear hrg htd hc0
      go_wp2_with fail
      go_ret
      have e : mrg H P (dnOf m todo) = mrg H P (fun k => (m k).isSome) := mrg_ext H P _ _ (fun k _ => by simp [dnOf,HTD.out k])
      have hcl := HC.out
      rw [e] at hcl
      refine ⟨rfl,heap_set_same (i := 18) (.map (some rb)) hcl,(HF.out.setCell (p := ⟨hb,18,none⟩) (.inl (by simp)) _).wide (Nat.le_refl _) (fun k hk hk2 => by have := HR00.out; simp at hk ⊢; omega)⟩
    · intro k v w1 cnt1 hkl hvl htk hRk hrg1 hlt1 hf1 hs1 hen
      have hcell1 : w1.heap[hb]? = some (.cells (mrg H P (dnOf m todo)).cells.toArray 130 (0,0)) := hf1.cells HC.out (by simpa using Ne.symm hr0) (.inr (by decide))
      have hfr1 : Fr w.heap.size [hb,r0] w w1 := HF.out.trans ⟨hf1.os,hf1.tape,hf1.output,hf1.size,fun q o hq hS hB => hf1.block q o hq (by simp at hS ⊢; exact hS.2) (fun hB2 => hB (Nat.le_trans HF.out.size hB2))⟩
      have hne := HOK.out.ne k v hRk
      have hve : v.isEmpty = false := by cases v with
        | nil => exact absurd rfl hne
        | cons a b => rfl
      have hvlen := HOK.out.len k v hRk
      have HRG1 := Lib.hid hrg1; have HC1 := Lib.hid hcell1; have HF1 := Lib.hid hfr1; have HLT := Lib.hid hlt1; have HRK := Lib.hid hRk
      clear hrg hrg1 hcell1 hfr1 hf1 hlt1 hne hs1 htk hRk
      by_cases hten : k ∈ tenKeys
      · simp only [tenKeys,List.mem_cons,List.not_mem_nil,or_false] at hten
        rcases hten with rfl | rfl | rfl | rfl | rfl | rfl | rfl | rfl | rfl | rfl
        ·
          have hv : P.path = some v := by rw [← HOK.out.path]; exact HRK.out
          have hnew := mrs_put HRG1.out HC1.out HF1.out 1 (str v) hhb hr0
          rw [mrg_path H P _ _ v hv (dn_same m todo kPath v HRK.out) (fun z hz => dn_other m todo kPath z hz)] at hnew
          have HNEW := Lib.hid hnew
          have c1 : ∃ u,w1.cell? ⟨hb,1,none⟩ = some u := ⟨_,by rw [Lib.cell_of_heap HC1.out]; rfl⟩
          obtain ⟨u,c1⟩ := c1
          have z1 : w1.frozen? ⟨hb,1,none⟩ = false := Lib.frozen_of_heap HC1.out 1
          unfold kPath at hen ⊢
          clear hnew hv
          go_wp2_with fail
          go_roundw
          case rel => exact ⟨rfl,Lib.hid ⟨_,cnt1,HNEW.out.1,HNEW.out.2.1,HNEW.out.2.2⟩⟩
          case measure => rw [HNEW.out.1.left_eq,HRG.out.left_eq]; exact HLT.out
        ·
          have hv : P.link = some v := by rw [← HOK.out.link]; exact HRK.out
          have hnew := mrs_put HRG1.out HC1.out HF1.out 2 (str v) hhb hr0
          rw [mrg_link H P _ _ v hv (dn_same m todo kLink v HRK.out) (fun z hz => dn_other m todo kLink z hz)] at hnew
          have HNEW := Lib.hid hnew
          have c1 : ∃ u,w1.cell? ⟨hb,2,none⟩ = some u := ⟨_,by rw [Lib.cell_of_heap HC1.out]; rfl⟩
          obtain ⟨u,c1⟩ := c1
          have z1 : w1.frozen? ⟨hb,2,none⟩ = false := Lib.frozen_of_heap HC1.out 2
          unfold kLink at hen ⊢
          clear hnew hv
          go_wp2_with fail
          go_roundw
          case rel => exact ⟨rfl,Lib.hid ⟨_,cnt1,HNEW.out.1,HNEW.out.2.1,HNEW.out.2.2⟩⟩
          case measure => rw [HNEW.out.1.left_eq,HRG.out.left_eq]; exact HLT.out
        ·
          obtain ⟨n,hv,hvn⟩ : ∃ n,P.size = some n ∧ v = itoa n := by
            have := HOK.out.size
            rw [HRK.out] at this
            cases hp : P.size with
            | none => rw [hp] at this; cases this
            | some n => rw [hp] at this; exact ⟨n,rfl,by simpa using this⟩
          have hin := HOK.out.sizeIn n (by rw [hv]; rfl)
          have HPI := Lib.hid (fun wx => parseInt64 wx v (by omega) n (by rw [hvn]; exact parseIntB_itoa n hin.1 hin.2))
          unfold kSize at hen ⊢
          have HV := Lib.hid hv
          clear hv hvn hin
          go_wp2_with fail
          refine (HPI.out _).mono ?_
          rintro e w2 ⟨rfl,hb2⟩
          have hC2 := (hb2.block hb (lt_of_heap HC1.out)).trans HC1.out
          have hnew := mrs_put (HRG1.out.below hb2) hC2 (HF1.out.trans (Fr.of_below hb2 _ _)) 3 (.int .i64 n) hhb hr0
          have hrk := HRK.out
          rw [mrg_size H P _ _ n HV.out (dn_same m todo _ v hrk) (fun z hz => dn_other m todo _ z hz)] at hnew
          have HNEW := Lib.hid hnew
          have c1 : ∃ u,w2.cell? ⟨hb,3,none⟩ = some u := ⟨_,by rw [Lib.cell_of_heap hC2]; rfl⟩
          obtain ⟨u,c1⟩ := c1
          have z1 : w2.frozen? ⟨hb,3,none⟩ = false := Lib.frozen_of_heap hC2 3
          clear hnew hC2 hb2 hrk hen
          go_wp2_with fail
          go_roundw
          case rel => exact ⟨rfl,Lib.hid ⟨_,cnt1,HNEW.out.1,HNEW.out.2.1,HNEW.out.2.2⟩⟩
          case measure => rw [HNEW.out.1.left_eq,HRG.out.left_eq]; exact HLT.out
        ·
          obtain ⟨n,hv,hvn⟩ : ∃ n,P.uid = some n ∧ v = itoa n := by
            have := HOK.out.uid
            rw [HRK.out] at this
            cases hp : P.uid with
            | none => rw [hp] at this; cases this
            | some n => rw [hp] at this; exact ⟨n,rfl,by simpa using this⟩
          have hin := HOK.out.uidIn n (by rw [hv]; rfl)
          have HPI := Lib.hid (fun wx => parseInt64 wx v (by omega) n (by rw [hvn]; exact parseIntB_itoa n hin.1 hin.2))
          unfold kUid at hen ⊢
          have HV := Lib.hid hv
          clear hv hvn hin
          go_wp2_with fail
          refine (HPI.out _).mono ?_
          rintro e w2 ⟨rfl,hb2⟩
          have hC2 := (hb2.block hb (lt_of_heap HC1.out)).trans HC1.out
          have hnew := mrs_put (HRG1.out.below hb2) hC2 (HF1.out.trans (Fr.of_below hb2 _ _)) 5 (.int .i64 n) hhb hr0
          have hrk := HRK.out
          rw [mrg_uid H P _ _ n HV.out (dn_same m todo _ v hrk) (fun z hz => dn_other m todo _ z hz)] at hnew
          have HNEW := Lib.hid hnew
          have c1 : ∃ u,w2.cell? ⟨hb,5,none⟩ = some u := ⟨_,by rw [Lib.cell_of_heap hC2]; rfl⟩
          obtain ⟨u,c1⟩ := c1
          have z1 : w2.frozen? ⟨hb,5,none⟩ = false := Lib.frozen_of_heap hC2 5
          clear hnew hC2 hb2 hrk hen
          go_wp2_with fail
          go_roundw
          case rel => exact ⟨rfl,Lib.hid ⟨_,cnt1,HNEW.out.1,HNEW.out.2.1,HNEW.out.2.2⟩⟩
          case measure => rw [HNEW.out.1.left_eq,HRG.out.left_eq]; exact HLT.out
        ·
          obtain ⟨n,hv,hvn⟩ : ∃ n,P.gid = some n ∧ v = itoa n := by
            have := HOK.out.gid
            rw [HRK.out] at this
            cases hp : P.gid with
            | none => rw [hp] at this; cases this
            | some n => rw [hp] at this; exact ⟨n,rfl,by simpa using this⟩
          have hin := HOK.out.gidIn n (by rw [hv]; rfl)
          have HPI := Lib.hid (fun wx => parseInt64 wx v (by omega) n (by rw [hvn]; exact parseIntB_itoa n hin.1 hin.2))
          unfold kGid at hen ⊢
          have HV := Lib.hid hv
          clear hv hvn hin
          go_wp2_with fail
          refine (HPI.out _).mono ?_
          rintro e w2 ⟨rfl,hb2⟩
          have hC2 := (hb2.block hb (lt_of_heap HC1.out)).trans HC1.out
          have hnew := mrs_put (HRG1.out.below hb2) hC2 (HF1.out.trans (Fr.of_below hb2 _ _)) 6 (.int .i64 n) hhb hr0
          have hrk := HRK.out
          rw [mrg_gid H P _ _ n HV.out (dn_same m todo _ v hrk) (fun z hz => dn_other m todo _ z hz)] at hnew
          have HNEW := Lib.hid hnew
          have c1 : ∃ u,w2.cell? ⟨hb,6,none⟩ = some u := ⟨_,by rw [Lib.cell_of_heap hC2]; rfl⟩
          obtain ⟨u,c1⟩ := c1
          have z1 : w2.frozen? ⟨hb,6,none⟩ = false := Lib.frozen_of_heap hC2 6
          clear hnew hC2 hb2 hrk hen
          go_wp2_with fail
          go_roundw
          case rel => exact ⟨rfl,Lib.hid ⟨_,cnt1,HNEW.out.1,HNEW.out.2.1,HNEW.out.2.2⟩⟩
          case measure => rw [HNEW.out.1.left_eq,HRG.out.left_eq]; exact HLT.out
        ·
          have hv : P.uname = some v := by rw [← HOK.out.uname]; exact HRK.out
          have hnew := mrs_put HRG1.out HC1.out HF1.out 7 (str v) hhb hr0
          rw [mrg_uname H P _ _ v hv (dn_same m todo kUname v HRK.out) (fun z hz => dn_other m todo kUname z hz)] at hnew
          have HNEW := Lib.hid hnew
          have c1 : ∃ u,w1.cell? ⟨hb,7,none⟩ = some u := ⟨_,by rw [Lib.cell_of_heap HC1.out]; rfl⟩
          obtain ⟨u,c1⟩ := c1
          have z1 : w1.frozen? ⟨hb,7,none⟩ = false := Lib.frozen_of_heap HC1.out 7
          unfold kUname at hen ⊢
          clear hnew hv
          go_wp2_with fail
          go_roundw
          case rel => exact ⟨rfl,Lib.hid ⟨_,cnt1,HNEW.out.1,HNEW.out.2.1,HNEW.out.2.2⟩⟩
          case measure => rw [HNEW.out.1.left_eq,HRG.out.left_eq]; exact HLT.out
        ·
          have hv : P.gname = some v := by rw [← HOK.out.gname]; exact HRK.out
          have hnew := mrs_put HRG1.out HC1.out HF1.out 8 (str v) hhb hr0
          rw [mrg_gname H P _ _ v hv (dn_same m todo kGname v HRK.out) (fun z hz => dn_other m todo kGname z hz)] at hnew
          have HNEW := Lib.hid hnew
          have c1 : ∃ u,w1.cell? ⟨hb,8,none⟩ = some u := ⟨_,by rw [Lib.cell_of_heap HC1.out]; rfl⟩
          obtain ⟨u,c1⟩ := c1
          have z1 : w1.frozen? ⟨hb,8,none⟩ = false := Lib.frozen_of_heap HC1.out 8
          unfold kGname at hen ⊢
          clear hnew hv
          go_wp2_with fail
          go_roundw
          case rel => exact ⟨rfl,Lib.hid ⟨_,cnt1,HNEW.out.1,HNEW.out.2.1,HNEW.out.2.2⟩⟩
          case measure => rw [HNEW.out.1.left_eq,HRG.out.left_eq]; exact HLT.out
        ·
          obtain ⟨t,hv,hvn⟩ : ∃ t,P.mtime = some t ∧ v = paxTime t.2 t.1 := by
            have := HOK.out.mtime
            rw [HRK.out] at this
            cases hp : P.mtime with
            | none => rw [hp] at this; cases this
            | some t => rw [hp] at this; exact ⟨t,rfl,by simpa using this⟩
          have hin := HOK.out.mtimeIn t (by rw [hv]; rfl)
          have HPI := Lib.hid (fun wx => by have := parseTime wx t.2 t.1 ⟨hin.1,hin.2.1⟩ hin.2.2; rw [← hvn] at this; exact this)
          unfold kMtime at hen ⊢
          have HV := Lib.hid hv
          clear hv hvn hin
          obtain ⟨tn,ts⟩ := t
          go_wp2_with fail
          refine (HPI.out _).mono ?_
          rintro e w2 ⟨rfl,hb2⟩
          have hC2 := (hb2.block hb (lt_of_heap HC1.out)).trans HC1.out
          have hnew0 := mrs_put (HRG1.out.below hb2) hC2 (HF1.out.trans (Fr.of_below hb2 _ _)) 9 (.int .u64 tn) hhb hr0
          have hnew := mrs_put hnew0.1 hnew0.2.1 hnew0.2.2 10 (.int .i64 (ts + 62135596800)) hhb hr0
          have hrk := HRK.out
          rw [mrg_mtime H P _ _ (tn,ts) HV.out (dn_same m todo _ v hrk) (fun z hz => dn_other m todo _ z hz)] at hnew
          have HNEW := Lib.hid hnew
          have c1 : ∃ u,w2.cell? ⟨hb,9,none⟩ = some u := ⟨_,by rw [Lib.cell_of_heap hC2]; rfl⟩
          obtain ⟨u,c1⟩ := c1
          have c2 : ∃ u,w2.cell? ⟨hb,10,none⟩ = some u := ⟨_,by rw [Lib.cell_of_heap hC2]; rfl⟩
          obtain ⟨u2,c2⟩ := c2
          have z1 : w2.frozen? ⟨hb,9,none⟩ = false := Lib.frozen_of_heap hC2 9
          have z2 : w2.frozen? ⟨hb,10,none⟩ = false := Lib.frozen_of_heap hC2 10
          clear hnew hnew0 hC2 hb2 hrk hen
          go_wp2_with fail
          go_roundw
          case rel => exact ⟨rfl,Lib.hid ⟨_,cnt1,HNEW.out.1,HNEW.out.2.1,HNEW.out.2.2⟩⟩
          case measure => rw [HNEW.out.1.left_eq,HRG.out.left_eq]; exact HLT.out
        ·
          obtain ⟨t,hv,hvn⟩ : ∃ t,P.atime = some t ∧ v = paxTime t.2 t.1 := by
            have := HOK.out.atime
            rw [HRK.out] at this
            cases hp : P.atime with
            | none => rw [hp] at this; cases this
            | some t => rw [hp] at this; exact ⟨t,rfl,by simpa using this⟩
          have hin := HOK.out.atimeIn t (by rw [hv]; rfl)
          have HPI := Lib.hid (fun wx => by have := parseTime wx t.2 t.1 ⟨hin.1,hin.2.1⟩ hin.2.2; rw [← hvn] at this; exact this)
          unfold kAtime at hen ⊢
          have HV := Lib.hid hv
          clear hv hvn hin
          obtain ⟨tn,ts⟩ := t
          go_wp2_with fail
          refine (HPI.out _).mono ?_
          rintro e w2 ⟨rfl,hb2⟩
          have hC2 := (hb2.block hb (lt_of_heap HC1.out)).trans HC1.out
          have hnew0 := mrs_put (HRG1.out.below hb2) hC2 (HF1.out.trans (Fr.of_below hb2 _ _)) 11 (.int .u64 tn) hhb hr0
          have hnew := mrs_put hnew0.1 hnew0.2.1 hnew0.2.2 12 (.int .i64 (ts + 62135596800)) hhb hr0
          have hrk := HRK.out
          rw [mrg_atime H P _ _ (tn,ts) HV.out (dn_same m todo _ v hrk) (fun z hz => dn_other m todo _ z hz)] at hnew
          have HNEW := Lib.hid hnew
          have c1 : ∃ u,w2.cell? ⟨hb,11,none⟩ = some u := ⟨_,by rw [Lib.cell_of_heap hC2]; rfl⟩
          obtain ⟨u,c1⟩ := c1
          have c2 : ∃ u,w2.cell? ⟨hb,12,none⟩ = some u := ⟨_,by rw [Lib.cell_of_heap hC2]; rfl⟩
          obtain ⟨u2,c2⟩ := c2
          have z1 : w2.frozen? ⟨hb,11,none⟩ = false := Lib.frozen_of_heap hC2 11
          have z2 : w2.frozen? ⟨hb,12,none⟩ = false := Lib.frozen_of_heap hC2 12
          clear hnew hnew0 hC2 hb2 hrk hen
          go_wp2_with fail
          go_roundw
          case rel => exact ⟨rfl,Lib.hid ⟨_,cnt1,HNEW.out.1,HNEW.out.2.1,HNEW.out.2.2⟩⟩
          case measure => rw [HNEW.out.1.left_eq,HRG.out.left_eq]; exact HLT.out
        ·
          obtain ⟨t,hv,hvn⟩ : ∃ t,P.ctime = some t ∧ v = paxTime t.2 t.1 := by
            have := HOK.out.ctime
            rw [HRK.out] at this
            cases hp : P.ctime with
            | none => rw [hp] at this; cases this
            | some t => rw [hp] at this; exact ⟨t,rfl,by simpa using this⟩
          have hin := HOK.out.ctimeIn t (by rw [hv]; rfl)
          have HPI := Lib.hid (fun wx => by have := parseTime wx t.2 t.1 ⟨hin.1,hin.2.1⟩ hin.2.2; rw [← hvn] at this; exact this)
          unfold kCtime at hen ⊢
          have HV := Lib.hid hv
          clear hv hvn hin
          obtain ⟨tn,ts⟩ := t
          go_wp2_with fail
          refine (HPI.out _).mono ?_
          rintro e w2 ⟨rfl,hb2⟩
          have hC2 := (hb2.block hb (lt_of_heap HC1.out)).trans HC1.out
          have hnew0 := mrs_put (HRG1.out.below hb2) hC2 (HF1.out.trans (Fr.of_below hb2 _ _)) 13 (.int .u64 tn) hhb hr0
          have hnew := mrs_put hnew0.1 hnew0.2.1 hnew0.2.2 14 (.int .i64 (ts + 62135596800)) hhb hr0
          have hrk := HRK.out
          rw [mrg_ctime H P _ _ (tn,ts) HV.out (dn_same m todo _ v hrk) (fun z hz => dn_other m todo _ z hz)] at hnew
          have HNEW := Lib.hid hnew
          have c1 : ∃ u,w2.cell? ⟨hb,13,none⟩ = some u := ⟨_,by rw [Lib.cell_of_heap hC2]; rfl⟩
          obtain ⟨u,c1⟩ := c1
          have c2 : ∃ u,w2.cell? ⟨hb,14,none⟩ = some u := ⟨_,by rw [Lib.cell_of_heap hC2]; rfl⟩
          obtain ⟨u2,c2⟩ := c2
          have z1 : w2.frozen? ⟨hb,13,none⟩ = false := Lib.frozen_of_heap hC2 13
          have z2 : w2.frozen? ⟨hb,14,none⟩ = false := Lib.frozen_of_heap hC2 14
          clear hnew hnew0 hC2 hb2 hrk hen
          go_wp2_with fail
          go_roundw
          case rel => exact ⟨rfl,Lib.hid ⟨_,cnt1,HNEW.out.1,HNEW.out.2.1,HNEW.out.2.2⟩⟩
          case measure => rw [HNEW.out.1.left_eq,HRG.out.left_eq]; exact HLT.out
      · have hsch := HOK.out.sch k v HRK.out
        have hpf := hasPrefix1 w1 k [83,67,72,73,76,89,46,120,97,116,116,114,46]
        rw [hsch] at hpf
        have HPF := Lib.hid hpf
        have q0 : (k == [112,97,116,104]) = false := by rw [beq_eq_false_iff_ne]; rintro rfl; exact hten (by decide)
        have q1 : (k == [108,105,110,107,112,97,116,104]) = false := by rw [beq_eq_false_iff_ne]; rintro rfl; exact hten (by decide)
        have q2 : (k == [115,105,122,101]) = false := by rw [beq_eq_false_iff_ne]; rintro rfl; exact hten (by decide)
        have q3 : (k == [117,105,100]) = false := by rw [beq_eq_false_iff_ne]; rintro rfl; exact hten (by decide)
        have q4 : (k == [103,105,100]) = false := by rw [beq_eq_false_iff_ne]; rintro rfl; exact hten (by decide)
        have q5 : (k == [117,110,97,109,101]) = false := by rw [beq_eq_false_iff_ne]; rintro rfl; exact hten (by decide)
        have q6 : (k == [103,110,97,109,101]) = false := by rw [beq_eq_false_iff_ne]; rintro rfl; exact hten (by decide)
        have q7 : (k == [109,116,105,109,101]) = false := by rw [beq_eq_false_iff_ne]; rintro rfl; exact hten (by decide)
        have q8 : (k == [97,116,105,109,101]) = false := by rw [beq_eq_false_iff_ne]; rintro rfl; exact hten (by decide)
        have q9 : (k == [99,116,105,109,101]) = false := by rw [beq_eq_false_iff_ne]; rintro rfl; exact hten (by decide)
        have hnew : MRS H m P hb rb nR r0 w w1 := ⟨_,cnt1,HRG1.out,by rw [mrg_ext H P (dnOf m todo) _ (fun z hz => dn_other m todo k z (fun e => hten (e ▸ hz)))]; exact HC1.out,HF1.out⟩
        have HNEW := Lib.hid hnew
        clear hsch hpf hnew hten
        go_wp2_with fail
        refine HPF.out.mono ?_
        rintro e wx ⟨rfl,rfl⟩
        go_wp2_with fail
        go_roundw
        case rel => exact ⟨rfl,HNEW⟩
        case measure => rw [HRG1.out.left_eq,HRG.out.left_eq]; exact HLT.out
end Go.Proofs.YtkanmkcojlefbaaGreatDoor
