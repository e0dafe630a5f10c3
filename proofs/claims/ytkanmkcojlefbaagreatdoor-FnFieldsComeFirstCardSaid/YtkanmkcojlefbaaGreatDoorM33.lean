/-
  Part of the proof; holds the texts WPax, WHeadT.
-/
import Derived.Test.YtkanmkcojlefbaaGreatDoorM32
import Derived.Lib.CleanLen
import Derived.Lib.ShelfFacts
import Derived.BigQuiet
import Derived.Test.YtkanmkcojlefbaaGreatDoorM19
import Derived.Test.YtkanmkcojlefbaaGreatDoorM29
set_option maxRecDepth 100000
set_option linter.unusedSimpArgs false
set_option linter.unusedVariables false
namespace Go.Proofs.YtkanmkcojlefbaaGreatDoor
open Go.RowKit Go.Proofs Go.Lib
theorem bldAt_below {T e : TypeId} {B b : Nat} {p : Value} {bs : List Value} {w w' : World} (h : Lib.BuilderAtF T e B b p bs w) (f : Below w.heap.size w w') : Lib.BuilderAtF T e B b p bs w' := by
  obtain ⟨hB,v,hb,⟨hl,ho⟩,hne⟩ := h
  refine ⟨hB,v,(f.block b (lt_of_heap hb)).trans hb,⟨hl,?_⟩,hne⟩
  rcases ho with h | ⟨g,cap,cur,fz,h1,h2,h3,h4⟩
  · exact .inl h
  · exact .inr ⟨g,cap,cur,fz,h1,h2,(f.block g (lt_of_heap h3)).trans h3,h4⟩
theorem bld_below {T e : TypeId} {B b : Nat} {bs : List Value} {w w' : World} (h : Lib.IsBuilderF T e B b bs w) (f : Below w.heap.size w w') : Lib.IsBuilderF T e B b bs w' :=
  h.imp (fun h => bldAt_below h f) (fun h => bldAt_below h f)
theorem bld_new (w : World) : Lib.IsBuilderF 203 5 w.heap.size w.heap.size [] (w.alloc (.cells #[.pointer none,.slice none 0 0] 203)) :=
  .inl ⟨Nat.le_refl _,.slice none 0 0,heap_alloc_new w _,⟨by simp,.inl ⟨rfl,rfl⟩⟩,by simp [Value.ownBlock]⟩
def PX (m : KV) (X : List UInt8) : Prop := ((∀ k,m k = none) ∧ X = []) ∨ ∃ R L,RBlk 120 (recsB L).length R ∧ (∀ p ∈ L,m p.1 = some p.2) ∧ (∀ k,m k ≠ none → k ∈ L.map (·.1)) ∧ L ≠ [] ∧ (recsB L).length ≤ 1048576 ∧ X = R.bytes ++ recsB L ++ List.replicate (padOf (recsB L).length).toNat 0
def POut (B tw b pad : Nat) (H : Hd) (m : KV) (bs : List UInt8) (sz : Int) (w : World) (e : Ending) (w' : World) : Prop :=
  e = .returned .nilIface ∧ ∃ fw2 B2 X,PBlk H B2 ∧ PX m X ∧ Buf B b (bs ++ List.replicate pad 0 ++ X ++ B2.bytes) w' ∧ TW tw b fw2 (padOf sz) H.cells (Lib.byteCells B2.bytes) .nilIface w' ∧ FW fw2 b sz w' ∧ w.heap.size ≤ fw2 ∧ fw2 < w'.heap.size ∧ Fr B [b,tw] w w'
def recL (m : KV) (ks : List (List UInt8)) : List (List UInt8 × List UInt8) := ks.map fun k => (k,(m k).getD [])
def PLoop (m : KV) (ks : List (List UInt8)) (bb g : Nat) (cur : Array Value) (i : Nat) (w0 wr : World) : Prop :=
  i ≤ ks.length ∧ Lib.IsBuilderF 203 5 bb bb (Lib.byteCells (recsB (recL m (ks.take i)))) wr ∧ Below bb w0 wr ∧ wr.heap[g]? = some (.cells cur 9 (0,0)) ∧ bb < wr.heap.size
theorem recL_snoc (m : KV) (ks : List (List UInt8)) (i : Nat) (hi : i < ks.length) : recsB (recL m (ks.take (i + 1))) = recsB (recL m (ks.take i)) ++ recB ks[i] ((m ks[i]).getD []) := by
  rw [List.take_succ_eq_append_getElem hi,recL,recL,List.map_append,recsB_app]
  simp [recsB]
theorem recL_mem (m : KV) (ks : List (List UInt8)) (h : ∀ k,k ∈ ks ↔ m k ≠ none) : (∀ p ∈ recL m ks,m p.1 = some p.2) ∧ ∀ k,m k ≠ none → k ∈ (recL m ks).map (·.1) := by
  have e : (recL m ks).map (·.1) = ks := by simp [recL,Function.comp_def]
  refine ⟨fun p hp => ?_,fun k hk => by rw [e]; exact (h k).2 hk⟩
  obtain ⟨k,hk,rfl⟩ := List.mem_map.1 hp
  have := (h k).1 hk
  cases hm : m k with
  | none => exact absurd hm this
  | some v => rfl
theorem recL_sum (m : KV) (ks : List (List UInt8)) (hn : ks.Nodup) (h : ∀ k,k ∈ ks ↔ m k ≠ none) (hs : ∀ L : List (List UInt8 × List UInt8),(L.map (·.1)).Nodup → (∀ p ∈ L,m p.1 = some p.2) → (recsB L).length ≤ 1048576) (i : Nat) : (recsB (recL m (ks.take i))).length ≤ 1048576 := by
  refine hs _ ?_ (fun p hp => (recL_mem m ks h).1 p ?_)
  · have e : (recL m (ks.take i)).map (·.1) = ks.take i := by simp [recL,Function.comp_def]
    rw [e]
    exact (List.take_sublist i ks).nodup hn
  · obtain ⟨k,hk,rfl⟩ := List.mem_map.1 hp
    exact List.mem_map.2 ⟨k,List.mem_of_mem_take hk,rfl⟩
set_option maxHeartbeats 4000000 in
theorem writePAX (G0 : Nat) (E : Nat → Addr) (B tw b fw pad mb n : Nat) (H : Hd) (blk bs : List UInt8) (m : KV) (w : World) (h : WS G0 E B tw b fw pad H blk bs .nilIface w) (hp : pad < 512) (hin : H.In) (hnl : H.name.length ≤ 600000) (htyp : H.typ ≠ 103) (hm : SMap w mb n m) (hn : n ≤ 8589934592) (hval : ∀ k v,m k = some v → validRec k v = true ∧ k.length ≤ 1048576 ∧ v.length ≤ 1048576)
    (hsum : ∀ L : List (List UInt8 × List UInt8),(L.map (·.1)).Nodup → (∀ p ∈ L,m p.1 = some p.2) → (recsB L).length ≤ 1048576) (sz : Int) (hsz : sz = if hdrOnly H.typ then 0 else H.size) (hsz0 : 0 ≤ sz) (hlim : bs.length + pad + 4194304 ≤ 140737488355328) :
    Calls Tryz.prog 68 #[.pointer (some ⟨tw,0,none⟩),.pointer (some ⟨tw,3,none⟩),.map (some mb)] w (POut B tw b pad H m bs sz w) := by
  have c1 := h.hdr 1 (str H.name) rfl
  have c3 := h.hdr 3 (.int .i64 H.size) rfl
  have c0 := h.hdr 0 (.int .u8 H.typ) rfl
  have q103 : (H.typ == 103) = false := by rw [beq_eq_false_iff_ne]; exact htyp
  obtain ⟨c,hc1,hc2,hc3⟩ := (hm.below ((Below.refl _ w).drew) : SMap w.drew mb n m).len_run
  have hl3 := hc1 3
  have HH := Lib.hid h; have HIN := Lib.hid hin; have HM := Lib.hid hm; have HVAL := Lib.hid hval; have HSUM := Lib.hid hsum; have HSZ := Lib.hid hsz; have HSZ0 := Lib.hid hsz0; have HC3 := Lib.hid hc3
  clear h hin hm hval hsum hsz hsz0 htyp hc1 hc3
  go_enter Tryz.func68,Tryz.ntmps68
  go_wp2_with fail
  go_region
  go_upto_region 4 with fail
  rename_i K1 hK1 K2 hK2
  have HK := Lib.hid hK1
  clear hK1
  by_cases hz : c = 0
  · subst hz
    go_wp2_with fail
    refine HK.out _ _ ?_
    refine pax_rest G0 E B tw b fw pad H blk bs w.drew HH.out.drew hp HIN.out sz HSZ.out HSZ0.out (by omega) _ (fun w' hT => ?_)
    obtain ⟨fw2,B2,t1,t2,t3,t4,t5,t6,t7⟩ := hT
    exact ⟨rfl,fw2,B2,[],t1,.inl ⟨HC3.out.1 (by first | rfl | trivial),rfl⟩,by rw [List.append_nil]; exact t2,t3,t4,t5,t6,((Fr.refl _ _ w).drew).trans t7⟩
  · have hz0 : 0 < c := by omega
    have hzd : decide (0 < c) = true := decide_eq_true hz0
    have hbA := bld_new w.drew
    have hsA : ((w.drew).alloc (.cells #[.pointer none,.slice none 0 0] 203)).heap.size = w.heap.size + 1 := Array.size_push ..
    have hBA : Below w.heap.size w ((w.drew).alloc (.cells #[.pointer none,.slice none 0 0] 203)) := (Below.refl _ w).drew.alloc (Nat.le_refl _) _
    have hwal : (w.alloc (.cells #[.pointer none,.slice none 0 0] 203)).drew = (w.drew).alloc (.cells #[.pointer none,.slice none 0 0] 203) := rfl
    rw [← hwal] at hbA hsA hBA
    clear hwal
    generalize hwA : (w.alloc (.cells #[.pointer none,.slice none 0 0] 203)).drew = wA at *
    have hmA := HM.out.below hBA
    have HSK := Lib.hid (sortedKeys wA mb n m hmA hn)
    have HbA : Hid (Lib.IsBuilderF 203 5 w.heap.size w.heap.size [] wA) := Lib.hid hbA
    have HBA := Lib.hid hBA; have HSA := Lib.hid hsA
    have mK := Lib.hid (mapsKeys wA mb)
    clear hbA hsA hBA hmA
    go_wp2_with fail
    refine mK.out.mono ?_
    clear hwA
    rintro e w1 ⟨rfl,rfl⟩
    go_wp2_with fail
    refine HSK.out.mono ?_
    rintro e w2 ⟨v,ks,rfl,hkl,hnd,hmem,hrow,hb2⟩
    have hks0 : ks.length ≠ 0 := by
      intro h0
      have : ks = [] := List.eq_nil_of_length_eq_zero h0
      subst this
      exact hz (HC3.out.2 (fun k => by
        cases hmk : m k with
        | none => rfl
        | some v => have := (hmem k).2 (by rw [hmk]; simp); simp at this))
    obtain ⟨hr1,hr2⟩ := hrow
    rcases hr2 with ⟨-,h0⟩ | ⟨g,cap,cur,rfl,hgle,hgh,hncap,hcap,hcs,htk⟩
    · exact absurd h0 hks0
    have hbA1 : Below w.heap.size wA w2 := by
      refine ((Below.refl w.heap.size wA).alloc (by rw [HSA.out]; omega) _).trans (hb2.mono (by rw [HSA.out]; omega))
    have hbl2 := bld_below HbA.out (((Below.refl wA.heap.size wA).alloc (Nat.le_refl _) _).trans (hb2.mono (by omega)))
    have hPL : PLoop m ks w.heap.size g cur 0 wA w2 := ⟨Nat.zero_le _,by rw [List.take_zero]; exact hbl2,hbA1,hgh,by have := hbA1.size; rw [HSA.out] at this; omega⟩
    have HPL := Lib.hid hPL; have HMEM := Lib.hid hmem; have HND := Lib.hid hnd; have HTK := Lib.hid htk; have HCS := Lib.hid hcs
    have hkl2 : ks.length ≤ 8589934592 := by omega
    have hgb : g ≠ w.heap.size := by have := HSA.out; omega
    clear hPL hmem hnd htk hr1 hb2 hgh hbA1 hbl2 hcs hkl hgle HSK mK
    have hncap2 : ks.length ≤ cap := hncap
    go_wp2_with fail
    go_loopw [49] (fun s49 wr => ∃ i : Nat,s49 = .int .i64 i ∧ Hid (PLoop m ks w.heap.size g cur i wA wr)) (fun s49 _ => ks.length - (intOf s49).toNat)
    case atStart => exact ⟨0,rfl,HPL⟩
    case round =>
      obtain ⟨i,rfl,hrel⟩ := hrel
      obtain ⟨hi,hbl,hbw,hgh,hsz⟩ := hrel.out
      by_cases hlt : i < ks.length
      · have ck : wr.cell? ⟨g,i,none⟩ = some (str ks[i]) := by
          rw [Lib.cell_of_heap hgh]
          have h1 : (cur.toList.take (ks.length * 1))[i]? = some (str ks[i]) := by
            rw [HTK.out,List.getElem?_map,List.getElem?_eq_getElem hlt]; rfl
          rw [List.getElem?_take,if_pos (by omega)] at h1
          rw [← h1,Array.getElem?_toList]
        have hbwW : Below w.heap.size w wr := HBA.out.trans hbw
        have hgl := HH.out.gl.below hbwW
        have hm7 := HM.out.below hbwW
        obtain ⟨v,hv⟩ : ∃ v,m ks[i] = some v := Option.ne_none_iff_exists'.1 ((HMEM.out ks[i]).1 (List.getElem_mem hlt))
        obtain ⟨q1,q2,q3⟩ := HVAL.out _ _ hv
        have hsn := recL_snoc m ks i hlt
        rw [hv] at hsn
        have hac := recL_sum m ks HND.out HMEM.out HSUM.out i
        generalize hk : ks[i] = k at *
        have hlk := hm7.look1 und127 k (by omega)
        rw [hv] at hlk
        have hlk2 : (Instr.lookup 127 (.map (some mb)) (str k) false).run Tryz.prog wr = .ok (str v) wr := hlk
        have HREC := Lib.hid (fmtRec wr hgl k v (by omega) (by omega) q1)
        have hrl := recLen_le k v (by omega)
        have HSN := Lib.hid hsn; have HBL := Lib.hid hbl; have HBW := Lib.hid hbw; have HGH := Lib.hid hgh; have HV := Lib.hid hv; have HKE := Lib.hid hk; have HSZW := Lib.hid hsz
        have HRL := Lib.hid (show (recB k v).length ≤ k.length + v.length + 14 by rw [recB_length]; exact hrl)
        have HAC := Lib.hid hac
        clear hrel hbl hbw hgh hsz hbwW hgl hm7 hv q1 hsn hac hlk hk hrl
        go_wp2_with fail
        refine HREC.out.mono ?_
        rintro e w4 ⟨rfl,hb4⟩
        have HWR := Lib.hid (bldWrite w.heap.size w.heap.size _ ⟨(recB k v).toArray⟩ w4 (bld_below HBL.out hb4) (by rw [Lib.byteCells_length,str_size]; have := HRL.out; have := HAC.out; omega) (by have := hb4.size; have := HSZW.out; omega))
        have HB4 := Lib.hid hb4
        clear hb4 HREC ck hlk2
        go_wp2_with fail
        refine HWR.out.mono ?_
        rintro e w5 ⟨rfl,hat,hb5,hok⟩
        have hgh4 : w4.heap[g]? = some (.cells cur 9 (0,0)) := (HB4.out.block g (lt_of_heap HGH.out)).trans HGH.out
        have hgh5 := hok g _ hgh4 (by intro e; injection e with e; exact hgb e) (by intro c fz e; cases e)
        have hat2 : Lib.IsBuilderF 203 5 w.heap.size w.heap.size (Lib.byteCells (recsB (recL m (ks.take (i + 1))))) w5 := by
          rw [HSN.out,Lib.byteCells_append]
          exact .inr hat
        have hb45 : Below w.heap.size wA w5 := (HBW.out.trans (HB4.out.mono (Nat.le_of_lt HSZW.out))).trans hb5
        have hs5 : w.heap.size < w5.heap.size := by have := hb5.size; have := HB4.out.size; have := HSZW.out; omega
        have HN5 : Hid (PLoop m ks w.heap.size g cur (i + 1) wA w5) := Lib.hid ⟨by omega,hat2,hb45,hgh5,hs5⟩
        clear hat hb5 hok hgh4 hgh5 hat2 hb45 hs5 HWR
        go_wp2_with fail
        go_roundw
        case rel => exact ⟨i + 1,by go_num,HN5⟩
        case measure => simp [intOf]; omega
      · obtain rfl : i = ks.length := by omega
        rw [List.take_length] at hbl
        have hdl := recL_sum m ks HND.out HMEM.out HSUM.out ks.length
        rw [List.take_length] at hdl
        generalize hdat : recsB (recL m ks) = data at *
        have HDAT := Lib.hid hdat
        have hsp : Calls Tryz.prog 138 #[str H.name] wr fun e w' => e = .returned (.tuple #[str (Pa.split H.name).1,str (Pa.split H.name).2]) ∧ ∃ n,w' = wr.drewN n := by
          simpa using Tryz.path_Split ⟨H.name.toArray⟩ wr (by rw [str_size]; omega)
        have hspl : (Pa.split H.name).1.length + (Pa.split H.name).2.length = H.name.length := by
          rw [← List.length_append,Pa.split_append]
        generalize (Pa.split H.name).1 = d1 at *
        generalize (Pa.split H.name).2 = d2 at *
        have HBL := Lib.hid hbl; have HBW := Lib.hid hbw; have HSZW := Lib.hid hsz
        clear hrel hbl hbw hgh hsz hdat hi hlt
        go_wp2_with fail
        refine hsp.mono ?_
        rintro e w4 ⟨rfl,kn,rfl⟩
        go_wp2_with fail
        have hcells : ∀ (j : Nat) (x : ByteArray),([⟨d1.toArray⟩,⟨#[80,97,120,72,101,97,100,101,114,115,46,48]⟩,⟨d2.toArray⟩] : List ByteArray)[j]? = some x → ((wr.drewN kn).alloc (.cells #[str d1,.string ⟨#[80,97,120,72,101,97,100,101,114,115,46,48]⟩,str d2] 9)).cell? ⟨wr.heap.size,0 + j,none⟩ = some (.string x) := by
          intro j x hx
          have hn := heap_alloc_new (wr.drewN kn) (.cells #[str d1,.string ⟨#[80,97,120,72,101,97,100,101,114,115,46,48]⟩,str d2] 9)
          rw [Nat.zero_add]
          refine (Lib.cell_of_heap hn j).trans ?_
          match j,hx with
          | 0,hx => injection hx with hx; subst hx; rfl
          | 1,hx => injection hx with hx; subst hx; rfl
          | 2,hx => injection hx with hx; subst hx; rfl
        have hjo := Tryz.path_Join wr.heap.size 0 3 [⟨d1.toArray⟩,⟨#[80,97,120,72,101,97,100,101,114,115,46,48]⟩,⟨d2.toArray⟩] _ hcells (by show _ < ((wr.drewN kn).heap.push _).size; rw [Array.size_push]; exact Nat.lt_succ_self _) (by simp [Pa.lens]; omega)
        have hjl := Pa.joinL_length_le [d1,[80,97,120,72,101,97,100,101,114,115,46,48],d2]
        have hjl2 : (Pa.joinL [d1,[80,97,120,72,101,97,100,101,114,115,46,48],d2]).length ≤ 600020 := by
          have e : Pa.lens [d1,[80,97,120,72,101,97,100,101,114,115,46,48],d2] + [d1,[80,97,120,72,101,97,100,101,114,115,46,48],d2].length ≤ 600020 := by simp [Pa.lens]; omega
          exact Nat.le_trans hjl e
        have hjo2 : Calls Tryz.prog 139 #[.slice (some ⟨wr.heap.size,0,none⟩) 3 3] ((wr.drewN kn).alloc (.cells #[str d1,.string ⟨#[80,97,120,72,101,97,100,101,114,115,46,48]⟩,str d2] 9)) fun e w' => e = .returned (str (Pa.joinL [d1,[80,97,120,72,101,97,100,101,114,115,46,48],d2])) ∧ Below wr.heap.size wr w' := by
          refine hjo.mono ?_
          rintro e w' ⟨rfl,hb⟩
          have b1 : Below wr.heap.size wr (wr.drewN kn) := ⟨rfl,rfl,rfl,Nat.le_refl _,fun _ _ => rfl⟩
          have b2 : Below wr.heap.size (wr.drewN kn) _ := (Below.refl wr.heap.size (wr.drewN kn)).alloc (Nat.le_refl _) (.cells #[str d1,.string ⟨#[80,97,120,72,101,97,100,101,114,115,46,48]⟩,str d2] 9)
          have b3 : Below wr.heap.size _ w' := hb.mono (by
            show wr.heap.size ≤ ((wr.drewN kn).heap.push _).size
            rw [Array.size_push]; exact Nat.le_succ _)
          exact ⟨rfl,(b1.trans b2).trans b3⟩
        clear hjo hjl hcells
        generalize Pa.joinL [d1,[80,97,120,72,101,97,100,101,114,115,46,48],d2] = nm at *
        refine hjo2.mono ?_
        rintro e w5 ⟨rfl,hb5⟩
        have HST := Lib.hid (bldString w.heap.size w.heap.size data w5 (bld_below HBL.out hb5) (by have := hb5.size; have := HSZW.out; omega))
        have HB5 := Lib.hid hb5
        clear hjo2 hspl hb5
        go_wp2_with fail
        refine HST.out.mono ?_
        rintro e w6 ⟨rfl,-,hb6,-⟩
        have hb06 : Below w.heap.size w w6 := ((HBA.out.trans HBW.out).trans (HB5.out.mono (Nat.le_of_lt HSZW.out))).trans hb6
        have hws6 := HH.out.below hb06
        have HWR := Lib.hid (writeRawFile G0 E B tw b fw pad H blk bs nm data 120 w6 hws6 hp (by omega) hdl (by omega) (by decide) (by omega))
        have HB06 := Lib.hid hb06
        clear hb6 hb06 hws6 HST
        go_wp2_with fail
        refine HWR.out.mono ?_
        rintro e w7 ⟨rfl,fw2,R,hR,hws7,hfw,hF7⟩
        have HW7 := Lib.hid hws7; have HR := Lib.hid hR; have HF7 := Lib.hid hF7
        clear hws7 hR hF7 HWR
        go_wp2_with fail
        refine HK.out _ _ ?_
        have hpd : (padOf data.length).toNat < 512 := by unfold padOf; omega
        have hlx : (bs ++ List.replicate pad 0 ++ R.bytes ++ data).length = bs.length + pad + 512 + data.length := by
          rw [List.length_append,List.length_append,List.length_append,List.length_replicate,HR.out.ok.len]
        refine pax_rest G0 E B tw b fw2 _ H R.bytes _ w7 HW7.out hpd HIN.out sz HSZ.out HSZ0.out (by rw [hlx]; omega) _ (fun w' hT => ?_)
        obtain ⟨fw3,B3,t1,t2,t3,t4,t5,t6,t7⟩ := hT
        have hm2 := recL_mem m ks HMEM.out
        have hF06 : Fr B [b,tw] w w6 := (Fr.of_below HB06.out w.heap.size [b,tw]).wide HH.out.Bw (fun k hk _ => hk)
        refine ⟨rfl,fw3,B3,R.bytes ++ data ++ List.replicate (padOf data.length).toNat 0,t1,.inr ⟨R,recL m ks,?_,hm2.1,hm2.2,fun e => hks0 (by simpa [recL] using congrArg List.length e),?_,?_⟩,?_,t3,t4,?_,t6,(hF06.trans HF7.out).trans t7⟩
        · rw [HDAT.out]; exact HR.out
        · rw [HDAT.out]; exact hdl
        · rw [HDAT.out]
        · simpa [List.append_assoc] using t2
        · have := HB06.out.size; have := HF7.out.size; omega
end Go.Proofs.YtkanmkcojlefbaaGreatDoor
namespace Go.Proofs.YtkanmkcojlefbaaGreatDoor
open Go.RowKit
noncomputable def restW : Code := tailFrom 13 (Tryz.f30.body.getD .skip)
theorem TW.setErr {w : World} {tw b fw : Nat} {pad : Int} {hdr blk : List Value} {err : Value} (h : TW tw b fw pad hdr blk err w) (v : Value) : TW tw b fw pad hdr blk v (w.setCell ⟨tw,535,none⟩ v) := by
  have q := heap_set_same (i := 535) v h.1
  rw [wcells_setErr _ _ _ _ _ _ h.2.1 h.2.2] at q
  exact ⟨q,h.2⟩
def HOut (f : Bool × Bool × Bool) (m : KV) (H : Hd) (out : List UInt8) : Prop :=
  (f.1 = true ∧ ∃ B2,UBlk H B2 ∧ out = B2.bytes) ∨ (f.1 = false ∧ ∃ B2 X,PBlk H B2 ∧ PX m X ∧ out = X ++ B2.bytes)
def WHOut (B tw b : Nat) (f : Bool × Bool × Bool) (m : KV) (H : Hd) (bs : List UInt8) (sz : Int) (w w' : World) : Prop :=
  ∃ fw2 out hdr2 blk2,HOut f m H out ∧ Buf B b (bs ++ out) w' ∧ TW tw b fw2 (padOf sz) hdr2 (Lib.byteCells blk2) .nilIface w' ∧ blk2.length = 512 ∧ FW fw2 b sz w' ∧ w.heap.size ≤ fw2 ∧ fw2 < w'.heap.size ∧ Fr B [b,tw] w w'
structure HOk (H : Hd) (R : KV) (hasR : Bool) (f : Bool × Bool × Bool) (m : KV) : Prop where
  inT : H.InT
  r0 : R [] = none
  ty : 48 ≤ H.typ ∧ H.typ ≤ 55
  sl : slashEnd H.name = true → H.typ = 49 ∨ H.typ = 50 ∨ H.typ = 53 ∨ H.typ = 55
  sz : hdrOnly H.typ = true ∨ 0 ≤ H.size
  xa : H.xattr = .map none
  h0 : hasR = false → ∀ k,R k = none
  h1 : hasR = true → ∃ k,R k ≠ none
  fmt : H.fmt = 0 ∨ H.fmt = 2 ∨ H.fmt = 4 ∨ H.fmt = 8
  fe : f = finF ((H.st R).u && !hasR) (H.st R).p ((H.st R).g && !hasR) (H.st R).q H.fmt
  me : m = recM (H.st R).m R H.typ
  up : f.1 = true ∨ f.2.1 = true
  uf : f.1 = true → UFits H
  nl : H.name.length ≤ 600000
  val : ∀ k v,m k = some v → validRec k v = true ∧ k.length ≤ 1048576 ∧ v.length ≤ 1048576
  sum : ∀ L : List (List UInt8 × List UInt8),(L.map (·.1)).Nodup → (∀ p ∈ L,m p.1 = some p.2) → (recsB L).length ≤ 1048576
theorem fm_ne (u p g : Bool) (h : u = true ∨ p = true) : fm u p g ≠ 0 := by
  rcases h with rfl | rfl
  · cases p <;> cases g <;> decide
  · cases u <;> cases g <;> decide
set_option maxHeartbeats 4000000 in
theorem wh_rest (G0 : Nat) (E : Nat → Addr) (B tw b fw : Nat) (H : Hd) (R0 : KV) (hasR : Bool) (f : Bool × Bool × Bool) (m : KV) (blk bs : List UInt8) (w : World) (h : WS G0 E B tw b fw 0 H blk bs .nilIface w) (hok : HOk H R0 hasR f m) (hr : RecMap w H.recs R0 w.heap.size) (sz : Int) (hsz : sz = if hdrOnly H.typ then 0 else H.size) (hlim : bs.length + 8388608 ≤ 140737488355328)
    (R : Ending → World → Prop) (hR : ∀ w',WHOut B tw b f m H bs sz w w' → R (.returned .nilIface) w') {c1 c2 c3 c4 c5 c6 c7 c8 c9 c10 c11 c12 c13 c14 c15 c16 c17 c18 c19 c20 c21 c22 c23 c24 c25 c26 c27 c28 c29 c30 c31 c32 c33 c34 c35 c36 c37 c38 c39 c40 c41 c42 c43 c44 c45 c46 c47 c48 c49 c50 c51 c52 c53 c54 c55 c56 c57 c58 c59 c60 c61 c62 c63 c64 c65 c66 c67 c68 c69 c70 c71 c72 c73 c74 c75 c76 c77 c78 c79 c80 c81 c82 c83 c84 c85 c86 c87 c88 c89 c90 c91 c92 c93 c94 c95 c96 c97 c98 c99 c100 c101 c102 c103 c104 c105 c106 c107 c108 c109 c110 c111 c112 c113 c114 c115 c116 c117 c118 c119 c120 c121 : Value} :
    Code.wp Tryz.prog restW (bodyPost Tryz.prog Tryz.f30 R) ⟨(.pointer (some ⟨tw,0,none⟩)::c1::c2::c3::c4::c5::c6::c7::c8::c9::c10::c11::c12::c13::c14::c15::c16::c17::c18::c19::c20::c21::c22::c23::c24::c25::c26::c27::c28::c29::c30::c31::c32::c33::c34::c35::c36::c37::c38::c39::c40::c41::c42::c43::c44::c45::c46::c47::c48::c49::c50::c51::c52::c53::c54::c55::c56::c57::c58::c59::c60::c61::c62::c63::c64::c65::c66::c67::c68::c69::c70::c71::c72::c73::c74::c75::c76::c77::c78::c79::c80::c81::c82::c83::c84::c85::c86::c87::c88::c89::c90::c91::c92::c93::c94::c95::c96::c97::c98::c99::c100::c101::c102::c103::c104::c105::c106::c107::c108::c109::c110::c111::c112::c113::c114::c115::c116::c117::c118::c119::c120::c121::[]).toArray,[]⟩ w := by
  conv => arg 2; whnf
  have hld := hd_load w tw 3 H (wcells_at h.W)
  have hsz0 : 0 ≤ sz := by
    have := hok.sz
    rw [hsz]
    split
    · omega
    · rename_i hn
      rcases this with h | h
      · exact absurd h hn
      · exact h
  have hal := allowed G0 E H R0 hok.inT hok.r0 w h.gl hr hok.ty hok.sl hok.sz hok.xa (fun k v hk => by
      have hm := hok.me
      have := hok.val k v (by rw [hm]; exact hk)
      exact ⟨this.1,by omega,by omega⟩) hasR hok.h0 hok.h1 hok.fmt (by
      have e := hok.fe
      rw [← e]
      exact fm_ne _ _ _ hok.up)
  rw [← hok.fe,← hok.me] at hal
  have HAL := Lib.hid hal; have HH := Lib.hid h; have HOK := Lib.hid hok; have HSZ := Lib.hid hsz; have HSZ0 := Lib.hid hsz0; have HRR := Lib.hid hR
  clear hal h hok hr hsz hsz0 hR
  go_wp2_with (first | (refine wpList_load_run rfl 130 _ rfl ⟨tw,3,none⟩ rfl _ hld ?_) | fail)
  refine HAL.out.mono ?_
  rintro e w1 ⟨mb,n,rfl,hm,hn,hmb,hgl,hb1⟩
  clear hld
  have hWS := HH.out.below hb1
  have HWS := Lib.hid hWS; have HM := Lib.hid hm; have HB1 := Lib.hid hb1
  clear hWS hm hb1 HAL hgl hmb
  have hUP := HOK.out.up
  have HUP := Lib.hid hUP
  clear hUP
  obtain ⟨u,p,g⟩ := f
  cases hu : u
  · subst hu
    have hpt : p = true := by rcases HUP.out with h | h; cases h; exact h
    subst hpt
    have hh2 : Calls Tryz.prog 66 #[.int .i64 (fm false true g),.int .i64 2] w1 (RetSame w1 (.bool false)) := by
      have := hasF w1 false true g true false false
      rw [Bool.false_and,Bool.and_false,Bool.and_false] at this
      exact this
    have hh4 : Calls Tryz.prog 66 #[.int .i64 (fm false true g),.int .i64 4] w1 (RetSame w1 (.bool true)) := by
      have := hasF w1 false true g false true false
      rw [Bool.false_and,Bool.and_true,Bool.and_false] at this
      exact this
    have hty103 : H.typ ≠ 103 := by have := HOK.out.ty; omega
    have hpx := writePAX G0 E B tw b fw 0 mb n H blk bs m w1 HWS.out (by omega) HOK.out.inT.toIn HOK.out.nl hty103 HM.out hn HOK.out.val HOK.out.sum sz HSZ.out HSZ0.out (by omega)
    have HPX := Lib.hid hpx
    clear hpx hty103
    generalize fm false true g = fv at *
    go_wp2_with (first | (go_at_call 66; first | (refine hh2.mono ?_; rintro e wx ⟨rfl,rfl⟩) | (refine hh4.mono ?_; rintro e wx ⟨rfl,rfl⟩)))
    refine HPX.out.mono ?_
    rintro e w2 ⟨rfl,fw2,B2,X,r1,r2,r3,r4,r5,r6,r7,r8⟩
    obtain ⟨-,-,c535,-,z535⟩ := twCells r4.2.1 r4.2.2 r4.1
    have r4b := r4.setErr .nilIface
    have r3b := r3.setCell (p := ⟨tw,535,none⟩) r4.1 (by decide) (by decide) .nilIface
    have hft : fw2 ≠ tw := by rintro rfl; have := r4.1; rw [r5] at this; injection this with this; injection this with _ h2 _; exact absurd h2 (by decide)
    have r5b : FW fw2 b sz (w2.setCell ⟨tw,535,none⟩ .nilIface) := (heap_set_other _ hft).trans r5
    have r8b := r8.setCell (p := ⟨tw,535,none⟩) (.inl (by simp)) .nilIface
    have hfin := HRR.out (w2.setCell ⟨tw,535,none⟩ .nilIface) ⟨fw2,X ++ B2.bytes,_,B2.bytes,.inr ⟨rfl,B2,X,r1,r2,rfl⟩,by simpa [List.append_assoc] using r3b,r4b,r1.ok.len,r5b,Nat.le_trans HB1.out.size r6,by simpa [World.setCell] using r7,((Fr.of_below HB1.out w.heap.size [b,tw]).wide HH.out.Bw (fun k hk _ => hk)).trans r8b⟩
    have HFIN := Lib.hid hfin
    clear hfin r1 r2 r3 r4 r5 r6 r7 r8 r4b r3b r5b r8b hh2 hh4
    go_wp2_with fail
    exact HFIN.out
  · subst hu
    have hh2 : Calls Tryz.prog 66 #[.int .i64 (fm true p g),.int .i64 2] w1 (RetSame w1 (.bool true)) := by
      have := hasF w1 true p g true false false
      rw [Bool.true_and,Bool.and_false,Bool.and_false] at this
      exact this
    have hus := writeUSTAR G0 E B tw b fw 0 H blk bs w1 HWS.out (by omega) HOK.out.inT.toIn (HOK.out.uf rfl) sz HSZ.out (by omega)
    have HUS := Lib.hid hus
    clear hus
    generalize fm true p g = fv at *
    go_wp2_with (first | (go_at_call 66; refine hh2.mono ?_; rintro e wx ⟨rfl,rfl⟩))
    refine HUS.out.mono ?_
    rintro e w2 ⟨rfl,fw2,B2,r1,r3,r4,r5,r6,r7,r8⟩
    obtain ⟨-,-,c535,-,z535⟩ := twCells r4.2.1 r4.2.2 r4.1
    have r4b := r4.setErr .nilIface
    have r3b := r3.setCell (p := ⟨tw,535,none⟩) r4.1 (by decide) (by decide) .nilIface
    have hft : fw2 ≠ tw := by rintro rfl; have := r4.1; rw [r5] at this; injection this with this; injection this with _ h2 _; exact absurd h2 (by decide)
    have r5b : FW fw2 b sz (w2.setCell ⟨tw,535,none⟩ .nilIface) := (heap_set_other _ hft).trans r5
    have r8b := r8.setCell (p := ⟨tw,535,none⟩) (.inl (by simp)) .nilIface
    have hfin := HRR.out (w2.setCell ⟨tw,535,none⟩ .nilIface) ⟨fw2,B2.bytes,_,B2.bytes,.inl ⟨rfl,B2,r1,rfl⟩,by simpa [List.append_assoc] using r3b,r4b,r1.ok.len,r5b,Nat.le_trans HB1.out.size r6,by simpa [World.setCell] using r7,((Fr.of_below HB1.out w.heap.size [b,tw]).wide HH.out.Bw (fun k hk _ => hk)).trans r8b⟩
    have HFIN := Lib.hid hfin
    clear hfin r1 r3 r4 r5 r6 r7 r8 r4b r3b r5b r8b hh2
    go_wp2_with fail
    exact HFIN.out
end Go.Proofs.YtkanmkcojlefbaaGreatDoor
