/-
  Part of the proof; holds the texts DecodeNil, FilesEnd, ReadNil, Fst.
-/
import Derived.Test.YtkanmkcojlefbaaGreatDoorM00
import Derived.LoopTactic
import Derived.Test.YtkanmkcojlefbaaGreatDoorM21
import Derived.Test.YtkanmkcojlefbaaGreatDoorM34
import Derived.Test.YtkanmkcojlefbaaGreatDoorM42
import Derived.Test.YtkanmkcojlefbaaGreatDoorM43
set_option maxRecDepth 100000
set_option linter.unusedSimpArgs false
set_option linter.unusedVariables false
namespace Go.Proofs.YtkanmkcojlefbaaGreatDoor
open Go.RowKit
def Cloned (w : World) (n : Nat) (bs : List UInt8) (e : Ending) (w' : World) : Prop :=
  ∃ g c, e = .returned (.slice (some ⟨g, 0, none⟩) n c) ∧ w.heap.size ≤ g ∧ n ≤ c ∧ At w' g 0 (Lib.byteCells bs) ∧ (∃ cur, w'.heap[g]? = some (.cells cur 5)) ∧ Below w.heap.size w w'
theorem clone (w : World) (g o n c : Nat) (bs : List UInt8) (hat : At w g o (Lib.byteCells bs)) (hn : bs.length = n) (hlim : n ≤ 140737488355328) :
    Calls Tryz.prog 36 #[.slice (some ⟨g, o, none⟩) n c] w (Cloned w n bs) := by
  refine (Tryz.bytes_Clone_at ⟨g, o, none⟩ n c (bs.map fun b => (b.toNat : Int)) w (by simpa using hn) hlim (fun i hi => ?_)).mono ?_
  · refine hat.src i _ ?_
    simp [Lib.byteCells, hn, hi]
  · rintro e w' ⟨v', rfl, hown, hne, hb⟩
    have hx : (bs.map fun b => (b.toNat : Int)).map (Value.int .u8) = Lib.byteCells bs := by simp [Lib.byteCells]
    rw [hx] at hown
    rcases hown.2 with ⟨h1, -⟩ | ⟨g', cap, cur, rfl, hg', hcur, hnc, -, -, htk⟩
    · exact absurd h1 hne
    · refine ⟨g', cap, rfl, hg', hnc, At.of_heap hcur (fun j v hj => ?_), ⟨cur, hcur⟩, hb⟩
      rw [← htk, List.getElem?_take] at hj
      split at hj
      · simpa using hj
      · cases hj
theorem newBytesReader (w : World) (g n c : Nat) : Calls Tryz.prog 35 #[.slice (some ⟨g, 0, none⟩) n c] w fun e w' => e = .returned (.pointer (some ⟨w.heap.size, 0, none⟩)) ∧ RD w.heap.size g n c 0 w' ∧ Below w.heap.size w w' := by
  go_enter Tryz.func35, Tryz.ntmps35
  go_wp2
  go_ret
  exact ⟨rfl, ⟨-1, heap_alloc_new w _⟩, (Below.refl _ _).alloc (Nat.le_refl _) _⟩
theorem newReader (w : World) (r : Nat) : Calls Tryz.prog 34 #[.iface 84 (.pointer (some ⟨r, 0, none⟩))] w fun e w' =>
    e = .returned (.pointer (some ⟨w.heap.size + 1, 0, none⟩)) ∧ FRd w.heap.size r 0 w' ∧ TR (w.heap.size + 1) r 0 (.iface 146 (.pointer (some ⟨w.heap.size, 0, none⟩))) blk0 .nilIface w' ∧ Below w.heap.size w w' := by
  go_enter Tryz.func34, Tryz.ntmps34
  go_wp2
  go_ret
  rw [new_rcells]
  exact ⟨rfl, heap_alloc2_old w _ _, ⟨heap_alloc2_new w _ _, blk0_length⟩, ((Below.refl _ _).alloc (Nat.le_refl _) _).alloc (by simp) _⟩
def FstOut (Hf : Nat → Hd) (R : KV) (w : World) (e : Ending) (w' : World) : Prop :=
  ∃ mb rv L,e = .returned (.tuple #[.agg ({ ihOf (Hf mb) with recs := rv } : IH).cells.toArray,.int .i64 0]) ∧ RecS w' rv L ∧ RecL R L ∧ Below w.heap.size w w'
theorem retFst {R : Ending → World → Prop} {fn : Func} {t u : Tmp} {a : Act} (g : Nat) (cs : Array Value) (hcs : cs.size = 21) (w : World) {ev : Value} (hr : fn.results = #[.cell t 26,.tmp u]) (hp : a.tmps.getD t undef = .pointer (some ⟨g,0,none⟩)) (he : a.tmps.getD u undef = ev) (hd : a.defers = [])
    (hg : w.heap[g]? = some (.cells cs 26 (0,0))) (hR : R (.returned (.tuple #[.agg cs,ev])) w) : bodyPost Tryz.prog fn R .ret a w := by
  refine bodyPost_ret (v := .tuple #[.agg cs,ev]) ?_ hd hR
  have hl := run_loadVar_row (P := Tryz.prog) w g 26 26 cs (0,0) _ hg Tryz.underlying26 rfl (by rw [hcs]; kernel_rfl)
  rw [results_cell_tmp hr,hp,he]
  simp [asAddr,Result.andThen,hl]
set_option maxHeartbeats 4000000 in
theorem first11 (w : World) (g o n c i2 : Nat) (bs : List UInt8) (aE : Addr) (B : Blk) (Hf : Nat → Hd) (R : KV) (nb : Int) (hat : At w g o (Lib.byteCells bs)) (hn : bs.length = n) (hn0 : 0 < n) (hlim : n ≤ 140737488355328) (hE : w.cell? ⟨0,0,none⟩ = some (errV aE)) (hin : ∀ mb,(Hf mb).InO)
    (hN : ∀ (w' : World) (tr r g' c' fr : Nat),RD r g' n c' 0 w' → FRd fr r 0 w' → TR tr r 0 (.iface 146 (.pointer (some ⟨fr,0,none⟩))) blk0 .nilIface w' → n ≤ c' → At w' g' 0 (Lib.byteCells bs) → g' ∉ [r,tr] → w'.cell? ⟨0,0,none⟩ = some (errV aE) → 0 ∉ [r,tr] →
      Calls Tryz.prog 72 #[.pointer (some ⟨tr,0,none⟩)] w' fun e w'' => ∃ mb,NextOut tr r g' n c' i2 B (Hf mb) R nb w' e w'') :
    Calls Tryz.prog 11 #[.slice (some ⟨g,o,none⟩) n c] w (FstOut Hf R w) := by
  have HE := Lib.hid hE; have HAT := Lib.hid hat; have HN := Lib.hid hN; have HIN := Lib.hid hin
  have l0 := block_lt_of_cell hE
  clear hat hE hN hin
  go_enter Tryz.func11,Tryz.ntmps11
  go_wp2_with fail
  obtain ⟨wA,hwA⟩ : ∃ wA,wA = w.alloc (.cells #[.int .u8 0,.string { data := #[] },.string { data := #[] },.int .i64 0,.int .i64 0,.int .i64 0,.int .i64 0,.string { data := #[] },.string { data := #[] },.int .i64 0,.int .i64 0,.bool false,.int .i64 0,.int .i64 0,.bool false,.int .i64 0,.int .i64 0,.int .i64 0,.int .i64 0,.slice none 0 0,.int .i64 0] 26) := ⟨_,rfl⟩
  rw [← hwA]
  have bA : Below w.heap.size w wA := by rw [hwA]; exact (Below.refl _ _).alloc (Nat.le_refl _) _
  have hGA : ∃ z : Array Value,z.size = 21 ∧ wA.heap[w.heap.size]? = some (.cells z 26 (0,0)) := by rw [hwA]; exact ⟨_,rfl,heap_alloc_new w _⟩
  obtain ⟨z,hz,hGA⟩ := hGA
  have lA := lt_of_heap hGA
  clear hwA
  refine (clone wA g o n c bs (HAT.out.carry (bA.block g (HAT.out.lt (by rw [Lib.byteCells_length]; omega)))) hn hlim).mono ?_
  rintro e w1 ⟨g1,c1,rfl,hg1,hc1,hat1,hcur1,hb1⟩
  go_wp2_with fail
  refine (newBytesReader w1 g1 n c1).mono ?_
  rintro e w2 ⟨rfl,hr2,hb2⟩
  go_wp2_with fail
  refine (newReader w2 w1.heap.size).mono ?_
  rintro e w3 ⟨rfl,hf3,ht3,hb3⟩
  go_wp2_with fail
  have lg1 : g1 < w1.heap.size := lt_of_heap hcur1.choose_spec
  have lr2 : w1.heap.size < w2.heap.size := by obtain ⟨p,h⟩ := hr2; exact lt_of_heap h
  have hr3 : RD w1.heap.size g1 n c1 0 w3 := by obtain ⟨p,h⟩ := hr2; exact ⟨p,(hb3.block _ lr2).trans h⟩
  have hat3 : At w3 g1 0 _ := (hat1.carry (hb2.block g1 lg1)).carry (hb3.block g1 (by omega))
  have bA3 : Below wA.heap.size wA w3 := (hb1.trans (hb2.mono hb1.size)).trans (hb3.mono (Nat.le_trans hb1.size hb2.size))
  have b13 : Below w.heap.size w w3 := bA.trans (bA3.mono bA.size)
  have hE3 := (b13.cell (p := ⟨0,0,none⟩) l0).trans HE.out
  have s1 := hb1.size
  have s2 := hb2.size
  have s3 := hb3.size
  have sA := bA.size
  have hG3 := (bA3.block w.heap.size lA).trans hGA
  have HNX := Lib.hid (next37 w3 (w2.heap.size + 1) w1.heap.size g1 n c1 i2 0 _ _ B Hf R nb ht3 (HN.out w3 (w2.heap.size + 1) w1.heap.size g1 c1 w2.heap.size hr3 hf3 ht3 hc1 hat3 (by simp; omega) hE3 (by simp; omega)))
  have HB13 := Lib.hid b13; have HG3 := Lib.hid hG3
  clear hr3 hat3 hE3 hr2 hf3 ht3 hat1 hcur1 hb1 hb2 hb3 bA3 b13 hG3 hGA
  refine HNX.out.mono ?_
  rintro e w4 ⟨mb,hb,fr,rfl,k1,k2,k3,k4,k5,k6,k7,k8⟩
  have l4 : w.heap.size < w3.heap.size := lt_of_heap HG3.out
  have hG4 := k6.cells HG3.out (by simp; omega) (.inl l4)
  have b4 : Below w.heap.size w w4 := HB13.out.trans ⟨k6.os,k6.tape,k6.output,k6.size,fun q hq => by
    obtain ⟨o,ho⟩ : ∃ o,w3.heap[q]? = some o := ⟨_,Array.getElem?_eq_getElem (by omega)⟩
    rw [ho]
    exact k6.same ho (by simp; omega) (.inl (by omega))⟩
  have HG4 := Lib.hid hG4; have HB4 := Lib.hid b4; have K1' := Lib.hid k1; have K2' := Lib.hid k2
  clear HNX k1 k2 k3 k4 k5 k6 k7 k8 hG4 b4
  go_wp2_with fail
  refine (headerOf w4 hb (Hf mb) R (HIN.out mb) K1'.out K2'.out).mono ?_
  rintro e w5 ⟨rv,L,rfl,q1,qb,q2,q3⟩
  have hG5 := (q3.block w.heap.size (lt_of_heap HG4.out)).trans HG4.out
  have b5 := HB4.out.trans (q3.mono HB4.out.size)
  have hone : ({ ihOf (Hf mb) with recs := rv } : IH).recs.oneCell' = true := by
    obtain ⟨p,c,rfl,-⟩ := q1; rfl
  obtain ⟨w6,hst,hg,ho,hbl⟩ := store26 ({ ihOf (Hf mb) with recs := rv } : IH) hone hz hG5
  have hfin : FstOut Hf R w (.returned (.tuple #[.agg ({ ihOf (Hf mb) with recs := rv } : IH).cells.toArray,.int .i64 0])) w6 := by
    refine ⟨mb,rv,L,rfl,?_,q2,hbl _ _ b5 (Nat.le_refl _)⟩
    obtain ⟨p,c,hv,hc⟩ := q1
    refine ⟨p,c,hv,fun j hj => ?_⟩
    obtain ⟨rg,ro,rfl,h2,h3,h4⟩ := hc j hj
    have hne : rg ≠ w.heap.size := by
      have := qb _ _ _ hv
      have := lt_of_heap HG4.out
      intro e; simp only at *; omega
    refine ⟨rg,ro,rfl,?_,?_,?_⟩
    · have h5 : w6.heap[rg]? = w5.heap[rg]? := ho rg hne
      rw [Array.getElem?_eq_getElem h2] at h5
      exact lt_of_heap h5
    · rw [World.cell?_of_block (w := w5) (a := ⟨rg,ro + j * 2,none⟩) (ho rg hne)]; exact h3
    · rw [World.cell?_of_block (w := w5) (a := ⟨rg,ro + j * 2 + 1,none⟩) (ho rg hne)]; exact h4
  have HFIN := Lib.hid hfin; have HG := Lib.hid hg; have HST := Lib.hid hst
  clear hfin hg hst ho hbl q1 q2 q3 hG5 b5
  go_wp2_with (first | (go_at_call 33; refine (end_nil _).mono ?_; rintro e wx ⟨rfl,rfl⟩) | (refine wpList_store_run rfl 26 _ _ rfl ⟨w.heap.size,0,none⟩ rfl _ rfl w6 HST.out ?_) | fail)
  exact retFst w.heap.size _ rfl _ rfl rfl rfl rfl HG.out HFIN.out
end Go.Proofs.YtkanmkcojlefbaaGreatDoor
