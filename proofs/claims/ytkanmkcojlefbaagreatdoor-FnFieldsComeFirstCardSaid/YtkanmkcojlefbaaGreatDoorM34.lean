/-
  Part of the proof; holds the texts WHead, Close, WriteNil, HeadW, Head.
-/
import Derived.Test.YtkanmkcojlefbaaGreatDoorM33
import Derived.Test.YtkanmkcojlefbaaGreatDoorM03
import Derived.LoopTactic
import Derived.Deep.RegionHeld3
import Derived.Deep.QuietTactic
import Derived.BigQuiet
import Derived.Deep.DeepCutAuto
import Derived.Deep.MidRow
import Derived.Test.YtkanmkcojlefbaaGreatDoorM18
import Derived.Test.YtkanmkcojlefbaaGreatDoorM22
import Derived.Test.YtkanmkcojlefbaaGreatDoorM20
set_option maxRecDepth 100000
set_option linter.unusedSimpArgs false
set_option linter.unusedVariables false
namespace Go.Proofs.YtkanmkcojlefbaaGreatDoor
open Go.RowKit
theorem SMap.isMap {w : World} {b n : Nat} {m : List UInt8 → Option (List UInt8)} (h : SMap w b n m) : ∃ es cl,w.heap[b]? = some (.map es cl) := by
  obtain ⟨D,⟨es,clock,h1,h2⟩,h3⟩ := h
  exact ⟨es,clock,h1⟩
theorem Buf.ne_map {B b : Nat} {bs : List UInt8} {w : World} (h : Buf B b bs w) {k : Nat} {es : Array MapEntry} {cl : Nat} (hk : w.heap[k]? = some (.map es cl)) : k ≠ b := by
  rintro rfl
  obtain ⟨-,v,lr,hb,-⟩ := h
  rw [hk] at hb
  cases hb
def Hd.prom (H : Hd) : Hd := { H with typ := if H.typ = 0 then (if slashEnd H.name then 53 else 48) else H.typ }
set_option maxHeartbeats 4000000 in
theorem writeHeader (G0 : Nat) (E : Nat → Addr) (B tw b fw pad hb : Nat) (hdr0 : List Value) (H : Hd) (R0 : KV) (hasR : Bool) (f : Bool × Bool × Bool) (m : KV) (blk bs : List UInt8) (w : World)
    (hW : TW tw b fw pad hdr0 (Lib.byteCells blk) .nilIface w) (hB : Buf B b bs w) (hF : FW fw b 0 w) (hgl : Gl G0 E w) (hBG : G0 ≤ B) (htG : G0 ≤ tw) (hfG : G0 ≤ fw) (hBw : B ≤ w.heap.size) (hb512 : blk.length = 512) (hp : pad < 512)
    (hh : w.heap[hb]? = some (.cells H.cells.toArray 130 (0,0))) (hfm : H.fmt ≠ 0) (hok : HOk H.prom R0 hasR f m) (hr : RecMap w H.recs R0 w.heap.size) (h1x : H.xattr.oneCell' = true) (h1r : H.recs.oneCell' = true)
    (sz : Int) (hsz : sz = if hdrOnly H.prom.typ then 0 else H.size) (hlim : bs.length + 8389608 ≤ 140737488355328) :
    Calls Tryz.prog 30 #[.pointer (some ⟨tw,0,none⟩),.pointer (some ⟨hb,0,none⟩)] w fun e w' => e = .returned .nilIface ∧ WHOut B tw b f m H.prom (bs ++ List.replicate pad 0) sz w w' := by
  have hfl := flush w B tw b fw pad hp bs _ _ hB hBw hW hF (by omega)
  have hht : hb ≠ tw := by rintro rfl; have := hW.1; rw [hh] at this; injection this with this; injection this with _ h2 _; exact absurd h2 (by decide)
  have hhb : hb ≠ b := hB.ne hh (by decide)
  have hfb : fw ≠ b := hB.ne hF (by decide)
  have hft : fw ≠ tw := by rintro rfl; have := hW.1; rw [hF] at this; injection this with this; injection this with _ h2 _; exact absurd h2 (by decide)
  have hBm : ∀ {k : Nat} {es cl},w.heap[k]? = some (.map es cl) → k ≠ b := fun hk => hB.ne_map hk
  have hbG : G0 ≤ b := Nat.le_trans hBG hB.base
  have HW := Lib.hid hW; have HF := Lib.hid hF; have HGL := Lib.hid hgl; have HHH := Lib.hid hh; have HOK := Lib.hid hok; have HR := Lib.hid hr; have HSZ := Lib.hid hsz
  clear hW hB hF hgl hh hok hr hsz
  go_enter Tryz.func30,Tryz.ntmps30
  go_wp2_with fail
  refine hfl.mono ?_
  rintro e w1 ⟨rfl,hB1,hW1,hF1⟩
  have hh1 : w1.heap[hb]? = some (.cells H.cells.toArray 130 (0,0)) := hF1.cells HHH.out (by simp; exact ⟨hhb,hht⟩) (.inr (by decide))
  have hld := hd_load w1 hb 0 H (At.of_heap hh1 (fun j v hj => by rw [Nat.zero_add,List.getElem?_toArray]; exact hj))
  obtain ⟨w2,hst,hW2,hF2⟩ := hd_store hW1 H h1x h1r
  have hFF : Fr B [b,tw] w w2 := hF1.trans (hF2.wide (Nat.le_trans hBw hF1.size) (by simp))
  have hB2 : Buf B b (bs ++ List.replicate pad 0) w2 := hB1.carry hF2 (Nat.le_refl _) (by simp; exact fun e => hht (by
      exact absurd e (by
        have := hB1.ne hW1.1 (by decide)
        exact fun e => this e.symm))) (fun k hk c fz e => by
      obtain rfl := List.mem_singleton.1 hk
      rw [hW1.1] at e; cases e)
  have hf2 : FW fw b 0 w2 := hFF.cells HF.out (by simp; exact ⟨hfb,hft⟩) (.inr (by decide))
  have hWS : WS G0 E B tw b fw 0 H blk (bs ++ List.replicate pad 0) .nilIface w2 := ⟨hW2,hB2,hf2,HGL.out.fr hFF hBG (by simp; exact ⟨hbG,htG⟩),hBG,htG,hfG,Nat.le_trans hBw hFF.size,hb512⟩
  have hrm : RecMap w2 H.recs R0 w2.heap.size := by
    rcases HR.out with h | ⟨rb,n,h1,h2,h3,h4⟩
    · exact .inl h
    · have hbm : rb ≠ b := by
        obtain ⟨es,cl,he⟩ := h3.isMap
        exact hBm he
      have htm : rb ≠ tw := by
        obtain ⟨es,cl,he⟩ := h3.isMap
        rintro rfl
        have := HW.out.1
        rw [he] at this; cases this
      exact .inr ⟨rb,n,h1,Nat.lt_of_lt_of_le h2 hFF.size,h3.fr hFF (by simp; exact ⟨hbm,htm⟩),h4⟩
  have HWS := Lib.hid hWS; have HFF := Lib.hid hFF; have HRM := Lib.hid hrm
  clear hB1 hW1 hF1 hh1 hW2 hF2 hFF hB2 hf2 hWS hrm hfl
  have c0 := HWS.out.hdr 0 (.int .u8 H.typ) rfl
  have c19 := HWS.out.hdr 19 (.int .i64 H.fmt) rfl
  have qf : (H.fmt == 0) = false := by rw [beq_eq_false_iff_ne]; exact hfm
  have hszw : w.heap.size ≤ w2.heap.size := HFF.out.size
  by_cases ht0 : H.typ = 0
  · have hsx := hasSuffix1 w2 H.name (by have := HOK.out.nl; show H.name.length ≤ _; have e : H.prom.name = H.name := rfl; rw [e] at this; omega)
    have z3 : w2.frozen? ⟨tw,3,none⟩ = false := Lib.frozen_of_heap HWS.out.W.1 3
    have c1 := HWS.out.hdr 1 (str H.name) rfl
    rw [ht0] at c0
    cases hs : slashEnd H.name <;> rw [hs] at hsx
    · have hpe : H.prom = { H with typ := 48 } := by unfold Hd.prom; rw [if_pos ht0,if_neg] <;> simp [hs]
      have hWS3 := HWS.out.setHdr 0 (by decide) (.int .u8 48) { H with typ := 48 } rfl
      have HWS3 := Lib.hid hWS3
      have HF3 := Lib.hid (HFF.out.setCell (p := ⟨tw,3,none⟩) (.inl (by simp)) (.int .u8 48))
      have hrm3 : RecMap (w2.setCell ⟨tw,3,none⟩ (.int .u8 48)) H.recs R0 (w2.setCell ⟨tw,3,none⟩ (.int .u8 48)).heap.size := by
        rcases HRM.out with h | ⟨rb,n,h1,h2,h3,h4⟩
        · exact .inl h
        · have htm : rb ≠ tw := by
            obtain ⟨es,cl,he⟩ := h3.isMap
            rintro rfl
            have := HWS.out.W.1
            rw [he] at this; cases this
          exact .inr ⟨rb,n,h1,by simpa [World.setCell] using h2,h3.block (heap_set_other _ htm),h4⟩
      have HRM3 := Lib.hid hrm3
      have c19b : (w2.setCell ⟨tw,3,none⟩ (.int .u8 48)).cell? ⟨tw,22,none⟩ = some (.int .i64 H.fmt) := hWS3.hdr 19 (.int .i64 H.fmt) rfl
      clear hWS3 hrm3
      go_upto_region 9 with (first | (refine wpList_load_run rfl 130 _ rfl ⟨hb,0,none⟩ rfl _ hld ?_) | (refine wpList_store_run rfl 130 _ _ rfl ⟨tw,3,none⟩ rfl _ rfl w2 hst ?_) | (go_at_call 63; refine hsx.mono ?_; rintro e wx ⟨rfl,rfl⟩) | fail)
      rename_i K1 hK1 K2 hK2
      have HK := Lib.hid hK1
      clear hK1
      go_wp2_with fail
      refine HK.out _ _ ?_
      rw [hpe] at HOK HSZ
      refine wh_rest G0 E B tw b fw { H with typ := 48 } R0 hasR f m blk (bs ++ List.replicate pad 0) _ HWS3.out HOK.out HRM3.out sz HSZ.out (by rw [List.length_append,List.length_replicate]; omega) _ (fun w' hT => ?_)
      obtain ⟨fw2,out,hdr2,blk2,t1,t2,t3,t4,t5,t6,t7,t8⟩ := hT
      rw [hpe]
      exact ⟨rfl,fw2,out,hdr2,blk2,t1,t2,t3,t4,t5,Nat.le_trans HF3.out.size t6,t7,HF3.out.trans t8⟩
    · have hpe : H.prom = { H with typ := 53 } := by unfold Hd.prom; rw [if_pos ht0,if_pos] <;> simp [hs]
      have hWS3 := HWS.out.setHdr 0 (by decide) (.int .u8 53) { H with typ := 53 } rfl
      have HWS3 := Lib.hid hWS3
      have HF3 := Lib.hid (HFF.out.setCell (p := ⟨tw,3,none⟩) (.inl (by simp)) (.int .u8 53))
      have hrm3 : RecMap (w2.setCell ⟨tw,3,none⟩ (.int .u8 53)) H.recs R0 (w2.setCell ⟨tw,3,none⟩ (.int .u8 53)).heap.size := by
        rcases HRM.out with h | ⟨rb,n,h1,h2,h3,h4⟩
        · exact .inl h
        · have htm : rb ≠ tw := by
            obtain ⟨es,cl,he⟩ := h3.isMap
            rintro rfl
            have := HWS.out.W.1
            rw [he] at this; cases this
          exact .inr ⟨rb,n,h1,by simpa [World.setCell] using h2,h3.block (heap_set_other _ htm),h4⟩
      have HRM3 := Lib.hid hrm3
      have c19b : (w2.setCell ⟨tw,3,none⟩ (.int .u8 53)).cell? ⟨tw,22,none⟩ = some (.int .i64 H.fmt) := hWS3.hdr 19 (.int .i64 H.fmt) rfl
      clear hWS3 hrm3
      go_upto_region 9 with (first | (refine wpList_load_run rfl 130 _ rfl ⟨hb,0,none⟩ rfl _ hld ?_) | (refine wpList_store_run rfl 130 _ _ rfl ⟨tw,3,none⟩ rfl _ rfl w2 hst ?_) | (go_at_call 63; refine hsx.mono ?_; rintro e wx ⟨rfl,rfl⟩) | fail)
      rename_i K1 hK1 K2 hK2
      have HK := Lib.hid hK1
      clear hK1
      go_wp2_with fail
      refine HK.out _ _ ?_
      rw [hpe] at HOK HSZ
      refine wh_rest G0 E B tw b fw { H with typ := 53 } R0 hasR f m blk (bs ++ List.replicate pad 0) _ HWS3.out HOK.out HRM3.out sz HSZ.out (by rw [List.length_append,List.length_replicate]; omega) _ (fun w' hT => ?_)
      obtain ⟨fw2,out,hdr2,blk2,t1,t2,t3,t4,t5,t6,t7,t8⟩ := hT
      rw [hpe]
      exact ⟨rfl,fw2,out,hdr2,blk2,t1,t2,t3,t4,t5,Nat.le_trans HF3.out.size t6,t7,HF3.out.trans t8⟩
  · have q0 : (H.typ == 0) = false := by rw [beq_eq_false_iff_ne]; exact ht0
    have hpe : H.prom = H := by unfold Hd.prom; rw [if_neg ht0]
    go_upto_region 9 with (first | (refine wpList_load_run rfl 130 _ rfl ⟨hb,0,none⟩ rfl _ hld ?_) | (refine wpList_store_run rfl 130 _ _ rfl ⟨tw,3,none⟩ rfl _ rfl w2 hst ?_) | fail)
    rename_i K1 hK1 K2 hK2
    have HK := Lib.hid hK1
    clear hK1
    go_wp2_with fail
    refine HK.out _ _ ?_
    rw [hpe] at HOK HSZ
    exact wh_rest G0 E B tw b fw H R0 hasR f m blk (bs ++ List.replicate pad 0) w2 HWS.out HOK.out HRM.out sz HSZ.out (by rw [List.length_append,List.length_replicate]; omega) _ (fun w' hT => by
      obtain ⟨fw2,out,hdr2,blk2,t1,t2,t3,t4,t5,t6,t7,t8⟩ := hT
      rw [hpe]
      exact ⟨rfl,fw2,out,hdr2,blk2,t1,t2,t3,t4,t5,Nat.le_trans hszw t6,t7,HFF.out.trans t8⟩)
theorem end_nil (w : World) : Calls Tryz.prog 33 #[.nilIface] w fun e w' => e = .returned (.int .i64 0) ∧ w = w' := by
  go_enter Tryz.func33, Tryz.ntmps33
  go_wp2
  go_ret
  exact ⟨rfl, rfl⟩
def NewW (w : World) (b : Nat) (e : Ending) (w' : World) : Prop :=
  e = .returned (.pointer (some ⟨w.heap.size + 1, 0, none⟩)) ∧ FW w.heap.size b 0 w' ∧ TW (w.heap.size + 1) b w.heap.size 0 hdr0 blk0 .nilIface w' ∧ Fr w.heap.size [] w w' ∧ ∀ B b bs, Buf B b bs w → Buf B b bs w'
theorem newWriter (w : World) (b : Nat) : Calls Tryz.prog 29 #[.iface 75 (.pointer (some ⟨b, 0, none⟩))] w (NewW w b) := by
  go_enter Tryz.func29, Tryz.ntmps29
  go_wp2
  go_ret
  rw [new_wcells]
  refine ⟨rfl, ?_, ⟨?_, hdr0_length, blk0_length⟩, ((Fr.refl _ _ w).alloc _).alloc _, fun _ _ _ h => (h.alloc _).alloc _⟩
  · exact heap_alloc2_old w _ _
  · exact heap_alloc2_new w _ _
theorem hc_cell {w : World} {g : Nat} {cs : Array Value} {T : TypeId} (h : w.heap[g]? = some (.cells cs T (0,0))) (i : Nat) (v : Value) (hv : cs[i]? = some v) : w.cell? ⟨g,i,none⟩ = some v := by
  rw [Lib.cell_of_heap h]; exact hv
theorem ty26 : ∃ d,Tryz.prog.underlying 26 = some d ∧ d.isRow = true := ⟨_,Tryz.underlying26,rfl⟩
theorem rangeAt_heap {w : World} {g : Nat} {cs : List Value} {T : TypeId} (h : w.heap[g]? = some (.cells cs.toArray T (0,0))) : w.rangeAt g 0 cs := fun j v hv => by
  rw [Nat.zero_add]
  exact hc_cell h j v (by simpa using hv)
noncomputable def headW (w : World) (cs : Array Value) : World := (w.alloc (.cells cs 26)).alloc (.cells #[.slice none 0 0,.int .i64 0,.int .i8 0] 70)
set_option maxHeartbeats 4000000 in
theorem headWalk (w : World) (d0 d1 d2 d3 d4 d5 d6 d7 d8 d9 d10 d11 d12 d13 d14 d15 d16 d17 d18 d19 d20 : Value) (b tw : Nat) (hbn : b = w.heap.size + 1) (A1 A3 : World → Prop) (A2 : Nat → World → Prop) (A4 : Value → World → Prop) (wA : World) (hwA : wA = (w.alloc (.cells #[d0,d1,d2,d3,d4,d5,d6,d7,d8,d9,d10,d11,d12,d13,d14,d15,d16,d17,d18,d19,d20] 26)).alloc (.cells #[.slice none 0 0,.int .i64 0,.int .i8 0] 70)) (hgA : wA.heap[w.heap.size]? = some (.cells #[d0,d1,d2,d3,d4,d5,d6,d7,d8,d9,d10,d11,d12,d13,d14,d15,d16,d17,d18,d19,d20] 26 (0,0)))
    (h1 : Calls Tryz.prog 29 #[.iface 75 (.pointer (some ⟨b,0,none⟩))] wA.drew fun e w1 => e = .returned (.pointer (some ⟨tw,0,none⟩)) ∧ w1.heap[w.heap.size]? = some (.cells #[d0,d1,d2,d3,d4,d5,d6,d7,d8,d9,d10,d11,d12,d13,d14,d15,d16,d17,d18,d19,d20] 26 (0,0)) ∧ A1 w1)
    (h2 : ∀ w1,A1 w1 → Calls Tryz.prog 31 #[.agg #[d0,d1,d2,d3,d4,d5,d6,d7,d8,d9,d10,d11,d12,d13,d14,d15,d16,d17,d18,d19,d20]] w1 fun e w2 => ∃ oh,e = .returned (.pointer (some ⟨oh,0,none⟩)) ∧ (w1.heap[w.heap.size]? = some (.cells #[d0,d1,d2,d3,d4,d5,d6,d7,d8,d9,d10,d11,d12,d13,d14,d15,d16,d17,d18,d19,d20] 26 (0,0)) → w2.heap[w.heap.size]? = some (.cells #[d0,d1,d2,d3,d4,d5,d6,d7,d8,d9,d10,d11,d12,d13,d14,d15,d16,d17,d18,d19,d20] 26 (0,0))) ∧ A2 oh w2)
    (h3 : ∀ oh w2,A2 oh w2 → Calls Tryz.prog 30 #[.pointer (some ⟨tw,0,none⟩),.pointer (some ⟨oh,0,none⟩)] w2 fun e w3 => e = .returned .nilIface ∧ (w2.heap[w.heap.size]? = some (.cells #[d0,d1,d2,d3,d4,d5,d6,d7,d8,d9,d10,d11,d12,d13,d14,d15,d16,d17,d18,d19,d20] 26 (0,0)) → w3.heap[w.heap.size]? = some (.cells #[d0,d1,d2,d3,d4,d5,d6,d7,d8,d9,d10,d11,d12,d13,d14,d15,d16,d17,d18,d19,d20] 26 (0,0))) ∧ A3 w3)
    (h4 : ∀ w3,A3 w3 → Calls Tryz.prog 32 #[.pointer (some ⟨b,0,none⟩)] w3 fun e w4 => ∃ v,e = .returned v ∧ A4 v w4) :
    Calls Tryz.prog 10 #[.agg #[d0,d1,d2,d3,d4,d5,d6,d7,d8,d9,d10,d11,d12,d13,d14,d15,d16,d17,d18,d19,d20]] w fun e w' => ∃ v,e = .returned (.tuple #[v,.int .i64 0]) ∧ A4 v w' := by
  obtain ⟨d26,hd26,hr26⟩ := ty26
  have H26 := Lib.hid hd26; clear hd26
  have H1 := Lib.hid h1; have H2 := Lib.hid h2; have H3 := Lib.hid h3; have H4 := Lib.hid h4; have HWA := Lib.hid hwA; have HGA := Lib.hid hgA
  subst hbn
  clear h1 h2 h3 h4 hwA hgA
  go_enter Tryz.func10,Tryz.ntmps10
  go_upto_region 2 with fail
  rw [← HWA.out]
  have hlt := lt_of_heap HGA.out
  clear HWA
  refine wp_region_held_drew (S := fun w' => w'.heap[w.heap.size]? = some (.cells #[d0,d1,d2,d3,d4,d5,d6,d7,d8,d9,d10,d11,d12,d13,d14,d15,d16,d17,d18,d19,d20] 26 (0,0))) (by kernel_rfl) ?_ (fun hHeld => ?_)
  · exact HGA.out
  refine wpAnyH_take (i := 0) (v := ?v1) rfl (by kernel_rfl) (by kernel_rfl) (by kernel_rfl) (fun _ _ _ h => h) (Or.inl ⟨by rfl,?hy1⟩) (by assumption) ?rest1
  case hy1 => intro w hSw; go_simp; try with_reducible rfl
  try simp only [Act.put,sa1,sa2,sa3]
  refine' wpAnyH_take (i := 2) rfl (by kernel_rfl) (by kernel_rfl) (by kernel_rfl) (fun _ _ _ h => h) (yieldsIf_load_mid (by rfl) _ _ rfl _ _ rfl [d0,d1,d2,d3,d4,d5,d6,d7,d8,d9,d10,d11,d12,d13,d14,d15,d16,d17,d18,d19,d20] d26 ?hS H26.out hr26 ?hi) (by assumption) ?rest2
  case hS => exact fun w' hw' => rangeAt_heap hw'
  case hi => kernel_rfl
  try simp only [Act.put,sa1,sa2,sa3]
  refine wpAnyH_ready (rs := [1]) (by kernel_rfl) (by simp) ?_
  refine AllReadyH.cons rfl (fun K hK => ?_) AllReadyH.nil
  go_simp
  go_at_call 29
  refine H1.out.mono ?_
  rintro e w1 ⟨rfl,hg1,ha1⟩
  have HG1 := Lib.hid hg1; have HA1 := Lib.hid ha1; clear hg1 ha1
  refine hK.out _ _ HG1.out (fun hHeld => ?_)
  clear hK K
  try simp only [Act.put,sa1,sa2,sa3]
  refine wpAnyH_ready (rs := [3]) (by kernel_rfl) (by simp) ?_
  refine AllReadyH.cons rfl (fun K hK => ?_) AllReadyH.nil
  go_simp
  go_at_call 31
  refine (H2.out _ HA1.out).mono ?_
  rintro e w2 ⟨oh,rfl,hg2,ha2⟩
  have HG2 := Lib.hid (hg2 HG1.out); have HA2 := Lib.hid ha2; clear hg2 ha2
  refine hK.out _ _ HG2.out (fun hHeld => ?_)
  clear hK K
  try simp only [Act.put,sa1,sa2,sa3]
  refine wpAnyH_ready (rs := [4]) (by kernel_rfl) (by simp) ?_
  refine AllReadyH.cons rfl (fun K hK => ?_) AllReadyH.nil
  go_simp
  go_at_call 30
  refine (H3.out oh _ HA2.out).mono ?_
  rintro e w3 ⟨rfl,hg3,ha3⟩
  have HG3 := Lib.hid (hg3 HG2.out); have HA3 := Lib.hid ha3; clear hg3 ha3
  refine hK.out _ _ HG3.out (fun hHeld => ?_)
  clear hK K
  try simp only [Act.put,sa1,sa2,sa3]
  refine wpAnyH_take (i := 5) (v := ?v3) rfl (by kernel_rfl) (by kernel_rfl) (by kernel_rfl) (fun _ _ _ h => h) (Or.inl ⟨by rfl,?hy3⟩) (by assumption) ?rest3
  case hy3 => intro w hSw; go_simp; try with_reducible rfl
  try simp only [Act.put,sa1,sa2,sa3]
  refine wpAnyH_done (by kernel_rfl) ?_ _
  go_wp2_with fail
  refine (H4.out _ HA3.out).mono ?_
  rintro e w4 ⟨v,rfl,ha4⟩
  have HA4 := Lib.hid ha4
  clear ha4
  go_wp2_with fail
  refine (end_nil _).mono ?_
  rintro e w5 ⟨rfl,rfl⟩
  go_wp2_with fail
  go_ret2
  exact ⟨v,rfl,HA4.out⟩
theorem Fr.below_to {B B0 : Nat} {S : List Nat} {w w' : World} (f : Fr B S w w') (hB : B0 ≤ B) (hw : B0 ≤ w.heap.size) (hS : ∀ k ∈ S,B0 ≤ k) : Below B0 w w' :=
  ⟨f.os,f.tape,f.output,f.size,fun i hi => by
    obtain ⟨o,ho⟩ : ∃ o,w.heap[i]? = some o := ⟨_,Array.getElem?_eq_getElem (by omega)⟩
    rw [ho]; exact f.same ho (fun hm => by have := hS i hm; omega) (.inl (by omega))⟩
def NWF (b fw tw : Nat) (w : World) : Prop := FW fw b 0 w ∧ TW tw b fw 0 hdr0 blk0 .nilIface w ∧ Buf b b [] w ∧ b < tw ∧ b < fw
def IHF (oh : Nat) (H : Hd) (R : KV) (w : World) : Prop := w.heap[oh]? = some (.cells H.cells.toArray 130 (0,0)) ∧ RecMap w H.recs R w.heap.size
theorem NWF.below {b fw tw : Nat} {w w' : World} (h : NWF b fw tw w) (f : Below w.heap.size w w') : NWF b fw tw w' :=
  ⟨(f.block fw (lt_of_heap h.1)).trans h.1,⟨(f.block tw (lt_of_heap h.2.1.1)).trans h.2.1.1,h.2.1.2⟩,h.2.2.1.carry (B' := w.heap.size) (S := []) (Fr.of_below f _ _) (Nat.le_refl _) (by simp) (by simp),h.2.2.2⟩
theorem fr_below {w w' : World} (h : Fr w.heap.size [] w w') : Below w.heap.size w w' := h.below_of (Nat.le_refl _) (by simp)
theorem ready_call (G0 : Nat) (E : Nat → Addr) (b fw tw oh : Nat) (H : Hd) (R : KV) (hasR : Bool) (f : Bool × Bool × Bool) (m : KV) (w : World) (h1 : NWF b fw tw w) (h2 : IHF oh H R w) (hgl : Gl G0 E w) (hbG : G0 ≤ b) (hfm : H.fmt ≠ 0) (hok : HOk H.prom R hasR f m) (h1x : H.xattr.oneCell' = true) (h1r : H.recs.oneCell' = true)
    (sz : Int) (hsz : sz = if hdrOnly H.prom.typ then 0 else H.size) :
    Calls Tryz.prog 30 #[.pointer (some ⟨tw,0,none⟩),.pointer (some ⟨oh,0,none⟩)] w fun e w' => e = .returned .nilIface ∧ WHOut b tw b f m H.prom [] sz w w' :=
  writeHeader G0 E b tw b fw 0 oh hdr0 H R hasR f m (List.replicate 512 0) [] w h1.2.1 h1.2.2.1 h1.1 hgl hbG (by have := h1.2.2.2.1; omega) (by have := h1.2.2.2.2; omega) (Nat.le_of_lt h1.2.2.1.lt) List.length_replicate (by omega) h2.1 hfm hok h2.2 h1x h1r sz hsz (by simp)
theorem HOut.recs {f : Bool × Bool × Bool} {m : KV} {h : IH} {rv rv2 : Value} {out : List UInt8} (k : HOut f m ({ h.hd2 with recs := rv } : Hd).prom out) : HOut f m ({ h.hd2 with recs := rv2 } : Hd).prom out := by
  rcases k with ⟨h1,B2,u,h3⟩ | ⟨h1,B2,X,p,px,h3⟩
  · exact .inl ⟨h1,B2,⟨u.ok,u.typ,u.name,u.link,u.user,u.group,u.mode,u.uid,u.gid,u.size,u.mtime,u.maj,u.mnr,u.magic,u.ver,u.chk,u.rest⟩,h3⟩
  · exact .inr ⟨h1,B2,X,⟨p.ok,p.typ,p.name,p.link,p.user,p.group,p.mode,p.uid,p.gid,p.size,p.mtime,p.maj,p.mnr,p.magic,p.ver,p.chk,p.rest⟩,px,h3⟩
theorem RecS.below {w w' : World} {v : Value} {L : List (List UInt8 × List UInt8)} (h : RecS w v L) (f : Below w.heap.size w w') : RecS w' v L := by
  obtain ⟨p,c,hv,hc⟩ := h
  refine ⟨p,c,hv,fun j hj => ?_⟩
  obtain ⟨rg,ro,h1,h2,h3,h4⟩ := hc j hj
  exact ⟨rg,ro,h1,Nat.lt_of_lt_of_le h2 f.size,(f.cell (p := ⟨rg,ro + j * 2,none⟩) h2).trans h3,(f.cell (p := ⟨rg,ro + j * 2 + 1,none⟩) h2).trans h4⟩
theorem head_ready {G0 : Nat} {E : Nat → Addr} {b fw oh : Nat} {H : Hd} {rv : Value} {R : KV} {w1 w2 : World} (h1 : FW fw b 0 w1 ∧ TW (fw + 1) b fw 0 hdr0 blk0 .nilIface w1 ∧ Buf b b [] w1) (hbf : b < fw) (f : Below w1.heap.size w1 w2) (hoh : w2.heap[oh]? = some (.cells ({ H with recs := rv } : Hd).cells.toArray 130 (0,0))) (hrm : RecMap w2 rv R w2.heap.size) (hg : Gl G0 E w2) :
    NWF b fw (fw + 1) w2 ∧ IHF oh { H with recs := rv } R w2 ∧ Gl G0 E w2 :=
  ⟨NWF.below ⟨h1.1,h1.2.1,h1.2.2,by omega,hbf⟩ f,⟨hoh,hrm⟩,hg⟩
theorem who_kept {B tw b : Nat} {f : Bool × Bool × Bool} {m : KV} {H : Hd} {bs : List UInt8} {sz : Int} {w w' : World} (h : WHOut B tw b f m H bs sz w w') {g : Nat} {o : Obj} (hg : w.heap[g]? = some o) (h1 : g ≠ b) (h2 : g ≠ tw) (h3 : g < B) : w'.heap[g]? = some o := by
  obtain ⟨fw2,out,hdr2,blk2,-,-,-,-,-,-,-,hF⟩ := h
  exact hF.same hg (by simp; exact ⟨h1,h2⟩) (.inl h3)
set_option maxHeartbeats 4000000 in
theorem implHead (G0 : Nat) (E : Nat → Addr) (w : World) (hgl : Gl G0 E w) (h : IH) (hin : h.In) (L : List (List UInt8 × List UInt8)) (hL : RecS w h.recs L) (hL2 : L.length ≤ 1048576) (hL3 : ∀ p ∈ L,p.1.length ≤ 9223372036854775807 ∧ p.2.length ≤ 9223372036854775807) (hfm : fmtOf h.fmt ≠ 0) (hasR : Bool) (f : Bool × Bool × Bool) (m : KV) (hok : ∀ rv,HOk ({ h.hd2 with recs := rv } : Hd).prom (putAll (fun _ => none) L) hasR f m) :
    Calls Tryz.prog 10 #[.agg h.cells.toArray] w fun e w' => ∃ v out,e = .returned (.tuple #[v,.int .i64 0]) ∧ HOut f m ({ h.hd2 with recs := .map none } : Hd).prom out ∧ w'.ownsRow w.heap.size 5 1 v out.length (Lib.byteCells out) ∧ Below w.heap.size w w' := by
  have hnew := heap_alloc_new w (.cells h.cells.toArray 26)
  have hwr : ∃ wA : World,wA = (w.alloc (.cells h.cells.toArray 26)).alloc (.cells #[.slice none 0 0,.int .i64 0,.int .i8 0] 70) := ⟨_,rfl⟩
  obtain ⟨wA,hwA⟩ := hwr
  have hsA : (w.alloc (.cells h.cells.toArray 26)).heap.size = w.heap.size + 1 := Array.size_push ..
  have hsB : wA.heap.size = w.heap.size + 1 + 1 := by rw [hwA]; show ((w.alloc (.cells h.cells.toArray 26)).heap.push _).size = _; rw [Array.size_push,hsA]
  have hBA : Below w.heap.size w wA := by rw [hwA]; exact ((Below.refl _ w).alloc (Nat.le_refl _) _).alloc (by rw [hsA]; omega) _
  have hgA : wA.heap[w.heap.size]? = some (.cells h.cells.toArray 26 (0,0)) := by
    rw [hwA]; exact (Below.heap_alloc _ _ _ (by rw [hsA]; omega)).trans hnew
  have hbuf : Buf (w.heap.size + 1) (w.heap.size + 1) [] wA := by
    have := Lib.fresh_isBuffer 70 5 (w.alloc (.cells h.cells.toArray 26))
    rw [hsA] at this
    rw [hwA]; exact this
  have hlt : w.heap.size < wA.heap.size := by omega
  have hbb : w.heap.size + 1 < wA.heap.size := by omega
  refine Calls.mono (headWalk w _ _ _ _ _ _ _ _ _ _ _ _ _ _ _ _ _ _ _ _ _ (w.heap.size + 1) (wA.heap.size + 1) rfl
    (fun w1 => (FW wA.heap.size (w.heap.size + 1) 0 w1 ∧ TW (wA.heap.size + 1) (w.heap.size + 1) wA.heap.size 0 hdr0 blk0 .nilIface w1 ∧ Buf (w.heap.size + 1) (w.heap.size + 1) [] w1) ∧ Below w.heap.size w w1 ∧ wA.heap.size ≤ w1.heap.size)
    (fun w3 => ∃ out,HOut f m ({ h.hd2 with recs := .map none } : Hd).prom out ∧ Buf (w.heap.size + 1) (w.heap.size + 1) out w3 ∧ Below w.heap.size w w3)
    (fun oh w2 => ∃ rv,NWF (w.heap.size + 1) wA.heap.size (wA.heap.size + 1) w2 ∧ IHF oh { h.hd2 with recs := rv } (putAll (fun _ => none) L) w2 ∧ Gl G0 E w2 ∧ rv.oneCell' = true ∧ Below w.heap.size w w2 ∧ wA.heap.size ≤ w2.heap.size)
    (fun v w' => ∃ out,HOut f m ({ h.hd2 with recs := .map none } : Hd).prom out ∧ w'.ownsRow w.heap.size 5 1 v out.length (Lib.byteCells out) ∧ Below w.heap.size w w') wA hwA hgA ?_ ?_ ?_ ?_) ?_
  · refine (newWriter _ _).mono ?_
    rintro e w1 ⟨rfl,hfw,htw,hfr,hbf⟩
    have hbl : Below wA.heap.size wA.drew w1 := fr_below (w := wA.drew) hfr
    exact ⟨rfl,(hbl.block _ hlt).trans hgA,⟨hfw,htw,hbf _ _ _ hbuf⟩,hBA.drew.trans (hbl.mono (Nat.le_of_lt hlt)),hbl.size⟩
  · rintro w1 ⟨h1,hb1,hs1⟩
    refine (implHeader w1 h hin L (hL.below hb1) hL2 hL3).mono ?_
    rintro e w2 ⟨oh,rv,rfl,hoh,hrm,hb2,hle,hone⟩
    have hb02 : Below w.heap.size w w2 := hb1.trans (hb2.mono hb1.size)
    have hr := head_ready h1 hbb hb2 hoh hrm (hgl.below hb02)
    exact ⟨oh,rfl,fun hg => (hb2.block _ (lt_of_heap hg)).trans hg,rv,hr.1,hr.2.1,hr.2.2,hone,hb02,Nat.le_trans hs1 hb2.size⟩
  · rintro oh w2 ⟨rv,h1,h2,h3,hone,hb2,hs2⟩
    refine (ready_call G0 E (w.heap.size + 1) wA.heap.size (wA.heap.size + 1) oh { h.hd2 with recs := rv } _ hasR f m w2 h1 h2 h3 (by have := hgl.le; omega) hfm (hok rv) rfl hone _ rfl).mono ?_
    rintro e w3 ⟨rfl,hwo⟩
    refine ⟨rfl,fun hg => who_kept hwo hg (by omega) (by omega) (by omega),?_⟩
    obtain ⟨fw2,out,hdr2,blk2,t1,t2,t3,t4,t5,t6,t7,t8⟩ := hwo
    exact ⟨out,t1.recs,by simpa using t2,hb2.trans (t8.below_to (by omega) (by omega) (by simp; omega))⟩
  · rintro w3 ⟨out,h1,h2,h3⟩
    refine (bufBytes _ _ _ w3 h2).mono ?_
    rintro e w4 ⟨v,rfl,hv,n,rfl⟩
    exact ⟨v,rfl,out,h1,ownsRow_low hv (by omega),bdn h3 n⟩
  · rintro e w' ⟨v,rfl,out,h1,h2,h3⟩
    exact ⟨v,out,rfl,h1,h2,h3⟩
end Go.Proofs.YtkanmkcojlefbaaGreatDoor
