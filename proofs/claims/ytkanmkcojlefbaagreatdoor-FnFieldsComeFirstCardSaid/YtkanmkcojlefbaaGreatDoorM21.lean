/-
  Part of the proof; holds the texts RTime, NextEnd, RDat.
-/
import Derived.Test.YtkanmkcojlefbaaGreatDoorM20
import Derived.Test.YtkanmkcojlefbaaGreatDoorM08
import Derived.LoopTactic
import Derived.Laws.ResultCell
import Derived.Lib.ItoaLen
import Derived.Test.YtkanmkcojlefbaaGreatDoorM04
set_option maxRecDepth 100000
set_option linter.unusedSimpArgs false
set_option linter.unusedVariables false
namespace Go.Proofs.YtkanmkcojlefbaaGreatDoor
open Go.RowKit Go.Lib
theorem tOfNeg (w : World) (s n : Int) (h0 : -1000000000 < n) (h1 : n < 0) (hs : -100000000000000000 ≤ s - 1 ∧ s - 1 ≤ 100000000000000000) :
    Calls Tryz.prog 70 #[.int .i64 s,.int .i64 n] w fun e w' => e = .returned (tmV (n + 1000000000) (s - 1 + 62135596800)) ∧ Below w.heap.size w w' := by
  have h := fun w' => tUnixTime w' (s - 1) (n + 1000000000) (by omega) (by omega) hs
  have hq : n.tdiv 1000000000 = 0 := by
    rw [show n = -(-n) by omega,Int.neg_tdiv,Int.tdiv_eq_zero_of_lt (by omega) (by omega)]; rfl
  have hw1 : IntKind.i64.wrap (s - 1) = s - 1 := by rw [IntWalk.i64_in _ (by omega)]
  have hw2 : IntKind.i64.wrap (n + 1000000000) = n + 1000000000 := by rw [IntWalk.i64_in _ (by omega)]
  have hw3 : IntKind.i32.wrap (n + 1000000000) = n + 1000000000 := by rw [IntKind.wrap_i32]; omega
  have hw4 : IntKind.i64.wrap s = s := by rw [IntWalk.i64_in _ (by omega)]
  have hw5 : IntKind.i64.wrap n = n := by rw [IntWalk.i64_in _ (by omega)]
  go_enter Tryz.func70,Tryz.ntmps70
  go_wp2_with fail
  refine (h _).mono ?_
  rintro e w1 ⟨rfl,hb⟩
  have a1 := (hb.block w.heap.size (by simp)).trans (heap_alloc_new w (.cells #[.int .u64 0,.int .i64 0] 126))
  have hb1 : Below w.heap.size w w1 := ((Below.refl _ w).alloc (Nat.le_refl _) _).trans (hb.mono (by simp))
  have z0 := Lib.frozen_of_heap a1 0
  have z1 := Lib.frozen_of_heap a1 1
  have d0 : w1.cell? ⟨w.heap.size,0,none⟩ = some (.int .u64 0) := by rw [Lib.cell_of_heap a1]; rfl
  have d1 : w1.cell? ⟨w.heap.size,1,none⟩ = some (.int .i64 0) := by rw [Lib.cell_of_heap a1]; rfl
  have a2 := heap_set_same (i := 1) (.int .i64 (s - 1 + 62135596800)) (heap_set_same (i := 0) (.int .u64 (n + 1000000000)) a1)
  have hb2 := (hb1.setCell (p := ⟨w.heap.size,0,none⟩) (Nat.le_refl _) (.int .u64 (n + 1000000000))).setCell (p := ⟨w.heap.size,1,none⟩) (Nat.le_refl _) (.int .i64 (s - 1 + 62135596800))
  have A2 := Lib.hid a2
  have HB := Lib.hid hb2
  clear a1 a2 hb2 hb hb1 h
  go_wp2_with fail
  exact retTime w.heap.size (n + 1000000000) (s - 1 + 62135596800) _ rfl rfl rfl A2.out ⟨rfl,HB.out⟩
def TimeOut (s n : Int) (w : World) (e : Ending) (w' : World) : Prop := e = .returned (.tuple #[tmV n (s + 62135596800),.nilIface]) ∧ Below w.heap.size w w'
theorem retTime2 {R : Ending → World → Prop} {fn : Func} {t u : Tmp} {a : Act} (g : Nat) (n x : Int) (ev : Value) (w : World) (hr : fn.results = #[.cell t 126,.tmp u]) (hp : a.tmps.getD t undef = .pointer (some ⟨g,0,none⟩)) (he : a.tmps.getD u undef = ev) (hd : a.defers = [])
    (hg : w.heap[g]? = some (.cells #[.int .u64 n,.int .i64 x] 126 (0,0))) (hR : R (.returned (.tuple #[tmV n x,ev])) w) : bodyPost Tryz.prog fn R .ret a w := by
  refine bodyPost_ret (v := .tuple #[tmV n x,ev]) ?_ hd hR
  have hl := run_loadVar_row (P := Tryz.prog) w g 126 126 #[.int .u64 n,.int .i64 x] (0,0) _ hg Tryz.underlying126 rfl (by kernel_rfl)
  rw [results_cell_tmp hr,hp,he]
  simp [asAddr,Result.andThen,hl]
theorem parseTime0 (w : World) (s : Int) (hs : -100000000000000000 ≤ s ∧ s ≤ 100000000000000000) : Calls Tryz.prog 209 #[str (paxTime s 0)] w (TimeOut s 0 w) := by
  have e : paxTime s 0 = itoa s := by rw [paxTime,if_pos rfl]
  rw [e]
  have hnd := nodot_itoa s
  have hp := parseIntB_itoa s (by omega) (by omega)
  have hl : (itoa s).length ≤ 21 := itoa_length_le s (by omega) (by omega)
  have hnew := heap_alloc_new w (.cells #[.int .u64 0,.int .i64 0] 126)
  have hbz : Below w.heap.size w (w.alloc (.cells #[.int .u64 0,.int .i64 0] 126)) := (Below.refl _ w).alloc (Nat.le_refl _) _
  have HC := Lib.hid (fun wx => zzCut0 (itoa s) 46 wx (by omega) hnd)
  have HP := Lib.hid (fun wx => parseInt64 wx (itoa s) (by omega) s hp)
  have HT := Lib.hid (fun wx => tOf wx s 0 (by omega) (by omega) hs)
  have HN := Lib.hid hnew; have HB := Lib.hid hbz
  have hsz : w.heap.size < (w.alloc (.cells #[.int .u64 0,.int .i64 0] 126)).heap.size := lt_of_heap hnew
  clear hnd hp hl hnew hbz e
  generalize itoa s = l at *
  go_enter Tryz.func209,Tryz.ntmps209
  go_wp2_with fail
  refine (HC.out _).mono ?_
  rintro e w1 ⟨rfl,rfl⟩
  generalize w.alloc (.cells #[.int .u64 0,.int .i64 0] 126) = wz at *
  go_wp2_with fail
  refine (HP.out _).mono ?_
  rintro e w2 ⟨rfl,hb2⟩
  go_wp2_with fail
  refine (HT.out _).mono ?_
  rintro e w3 ⟨rfl,hb3⟩
  have a1 := (hb3.block w.heap.size (Nat.lt_of_lt_of_le hsz hb2.size)).trans ((hb2.block w.heap.size hsz).trans HN.out)
  have hb13 : Below w.heap.size w w3 := (HB.out.trans (hb2.mono HB.out.size)).trans (hb3.mono (Nat.le_trans HB.out.size hb2.size))
  have z0 := Lib.frozen_of_heap a1 0
  have z1 := Lib.frozen_of_heap a1 1
  have d0 : w3.cell? ⟨w.heap.size,0,none⟩ = some (.int .u64 0) := by rw [Lib.cell_of_heap a1]; rfl
  have d1 : w3.cell? ⟨w.heap.size,1,none⟩ = some (.int .i64 0) := by rw [Lib.cell_of_heap a1]; rfl
  have a2 := heap_set_same (i := 1) (.int .i64 (s + 62135596800)) (heap_set_same (i := 0) (.int .u64 0) a1)
  have hb4 := (hb13.setCell (p := ⟨w.heap.size,0,none⟩) (Nat.le_refl _) (.int .u64 0)).setCell (p := ⟨w.heap.size,1,none⟩) (Nat.le_refl _) (.int .i64 (s + 62135596800))
  have A2 := Lib.hid a2
  have HB4 := Lib.hid hb4
  clear a1 a2 hb4 hb13 hb2 hb3 HC HP HT
  go_wp2_with fail
  exact retTime2 w.heap.size 0 (s + 62135596800) .nilIface _ rfl rfl rfl rfl A2.out ⟨rfl,HB4.out⟩
def NineS (p : List UInt8) (d k : Nat) (w0 w : World) : Prop := w.heap[d]? = some (.cells (Lib.byteCells (p.take k ++ List.replicate (9 - k) 48)).toArray 318 (0,0)) ∧ Below d w0 w
set_option maxHeartbeats 1000000 in
theorem parseTimeF (w : World) (l ss p : List UInt8) (x y : Int) (hf : TForm l ss p x y) (neg : Bool) (hss : 0 < ss.length) (hsl : ss.length ≤ 100) (hneg : (ss.getD 0 0 == 45) = neg) (hx : -100000000000000000 ≤ x - 1 ∧ x ≤ 100000000000000000) (n1 s1 : Int) (h1 : neg = true → n1 = 1000000000 - y ∧ s1 = x - 1) (h2 : neg = false → n1 = y ∧ s1 = x) :
    Calls Tryz.prog 209 #[str l] w (TimeOut s1 n1 w) := by
  have hcut := zzCut1 l 46 (w.alloc (.cells #[.int .u64 0,.int .i64 0] 126)) (by rw [hf.eq,List.length_append,List.length_cons]; have := hf.len; omega) (by rw [hf.eq]; exact mem_cut _ _ _)
  rw [show l.take (l.idxOf 46) = ss by rw [hf.eq]; exact cut_take _ _ _ hf.nodot,show l.drop (l.idxOf 46 + 1) = p by rw [hf.eq]; exact cut_drop _ _ _ hf.nodot] at hcut
  have hpl := hf.len
  have hpp := List.length_pos_iff.2 hf.ne
  have hnew := heap_alloc_new w (.cells #[.int .u64 0,.int .i64 0] 126)
  have hbz : Below w.heap.size w (w.alloc (.cells #[.int .u64 0,.int .i64 0] 126)) := (Below.refl _ w).alloc (Nat.le_refl _) _
  have HP := Lib.hid (fun wx => parseInt64 wx ss (by omega) x hf.whole)
  have hpad : (p ++ List.replicate (9 - p.length) 48).length = 9 := by simp; omega
  have HP2 := Lib.hid (fun wx => parseInt64 wx (p ++ List.replicate (9 - p.length) 48) (by omega) y hf.part)
  have HN := Lib.hid hnew; have HB := Lib.hid hbz; have HC := Lib.hid hcut; have HF := Lib.hid hf
  have hsz : w.heap.size < (w.alloc (.cells #[.int .u64 0,.int .i64 0] 126)).heap.size := lt_of_heap hnew
  clear hnew hbz hcut hf
  go_enter Tryz.func209,Tryz.ntmps209
  go_wp2_with fail
  refine HC.out.mono ?_
  rintro e w1 ⟨rfl,hd1⟩
  have hb01 : Below w.heap.size w w1 := by obtain ⟨q,rfl⟩ := hd1; exact bdn HB.out q
  have hn1 : w1.heap[w.heap.size]? = some (.cells #[.int .u64 0,.int .i64 0] 126 (0,0)) := by obtain ⟨q,rfl⟩ := hd1; exact HN.out
  have hsz1 : w.heap.size < w1.heap.size := lt_of_heap hn1
  clear hd1 HC HB HN
  go_wp2_with fail
  refine (HP.out _).mono ?_
  rintro e w2 ⟨rfl,hb2⟩
  have HN2 := Lib.hid ((hb2.block w.heap.size hsz1).trans hn1)
  have HB2 := Lib.hid (hb01.trans (hb2.mono hb01.size))
  have hsz2 := lt_of_heap HN2.out
  have hpz : ¬ ((p.length : Int) = 0) := by omega
  clear hn1 hb01 hb2 HP
  go_wp2_with fail
  have hN0 : NineS p w2.heap.size 0 w2 (w2.alloc (.cells #[.int .u8 48,.int .u8 48,.int .u8 48,.int .u8 48,.int .u8 48,.int .u8 48,.int .u8 48,.int .u8 48,.int .u8 48] 318)) :=
    ⟨heap_alloc_new w2 _,(Below.refl _ w2).alloc (Nat.le_refl _) _⟩
  have HN0 := Lib.hid hN0
  clear hN0
  obtain ⟨d,hd⟩ : ∃ d,d = w2.heap.size := ⟨_,rfl⟩
  rw [← hd] at HN0 ⊢
  have HD := Lib.hid hd
  clear hd
  generalize w2.alloc (.cells #[.int .u8 48,.int .u8 48,.int .u8 48,.int .u8 48,.int .u8 48,.int .u8 48,.int .u8 48,.int .u8 48,.int .u8 48] 318) = wz at *
  go_loopw [37] (fun i wr => ∃ k : Nat,k ≤ p.length ∧ i = .int .i64 k ∧ Hid (NineS p d k w2 wr)) (fun i _ => p.length - (RowKit.intOf i).toNat)
  case atStart => exact ⟨0,by omega,rfl,HN0⟩
  case round =>
    obtain ⟨k,hk,rfl,hS⟩ := hrel
    clear HN0
    by_cases hlt : k < p.length
    · have hlt1 : (k : Int) < p.length := by omega
      have hk9 : (k : Int) < 9 := by omega
      have hdig := HF.out.dig p[k] (List.getElem_mem hlt)
      have hidx : ∀ wx,(Instr.index 9 (str p) (.int .i64 k)).run Tryz.prog wx = .ok (.int .u8 p[k].toNat) wx := by
        intro wx
        rw [run_index_string (P := Tryz.prog) (w := wx) 9 ⟨p.toArray⟩ .i64 k Tryz.underlying9,dif_pos ⟨by omega,by rw [str_size]; omega⟩]
        rfl
      have hnx : p.take k ++ [p[k]] = p.take (k + 1) := List.take_append_getElem hlt
      generalize p[k] = c at *
      obtain ⟨hc1,hc2⟩ := hdig
      have hc3 : ¬ (c.toNat : Int) < 48 := by omega
      have hc4 : ¬ (57 : Int) < (c.toNat : Int) := by omega
      obtain ⟨hcell,hbl⟩ := hS.out
      have hl9 : (Lib.byteCells (p.take k ++ List.replicate (9 - k) 48)).length = 9 := by rw [Lib.byteCells_length,List.length_append,List.length_take,List.length_replicate]; omega
      have hcc : ∃ v0,wr.cell? ⟨d,k,none⟩ = some v0 := ⟨_,by rw [Lib.cell_of_heap hcell,List.getElem?_toArray,List.getElem?_eq_getElem (by omega)]⟩
      obtain ⟨v0,hv0⟩ := hcc
      have hz : wr.frozen? ⟨d,k,none⟩ = false := Lib.frozen_of_heap hcell k
      have hnew : NineS p d (k + 1) w2 (wr.setCell ⟨d,k,none⟩ (.int .u8 c.toNat)) := by
        refine ⟨?_,hbl.setCell (p := ⟨d,k,none⟩) (Nat.le_refl _) _⟩
        have := heap_set_same (i := k) (.int .u8 c.toNat) hcell
        rw [this]
        have e : (p.take k ++ List.replicate (9 - k) 48).set k c = p.take (k + 1) ++ List.replicate (9 - (k + 1)) 48 := by
          rw [List.set_append_right _ _ (by rw [List.length_take]; omega),List.length_take,Nat.min_eq_left (by omega),Nat.sub_self,show 9 - k = (9 - (k + 1)) + 1 by omega,List.replicate_succ,List.set_cons_zero,← hnx]
          simp
        rw [List.setIfInBounds_toArray,← e]
        simp [Lib.byteCells,List.map_set]
      have HNEW := Lib.hid hnew
      clear hcell hbl hl9 hnew hS hnx hc1 hc2 HP2
      go_wp2_with fail
      go_roundw
      case rel => exact ⟨k + 1,by omega,by go_num,HNEW⟩
      case measure => simp [RowKit.intOf]; omega
    · obtain rfl : k = p.length := by omega
      have hlt1 : ¬ (p.length : Int) < p.length := by omega
      obtain ⟨hcell,hbl⟩ := hS.out
      rw [List.take_length] at hcell
      have hcv := convBytes wr d 0 9 (p ++ List.replicate (9 - p.length) 48) (At.of_heap hcell (fun j u hj => by rw [Nat.zero_add,List.getElem?_toArray]; exact hj))
      rw [hpad] at hcv
      have hg : wr.heap[w.heap.size]? = some (.cells #[.int .u64 0,.int .i64 0] 126 (0,0)) := (hbl.block w.heap.size (by have := HD.out; omega)).trans HN2.out
      have hbw : Below w.heap.size w wr := HB2.out.trans (hbl.mono (by have := HD.out; omega))
      have hidx0 : ∀ wx,(Instr.index 9 (str ss) (.int .i64 0)).run Tryz.prog wx = .ok (.int .u8 (ss.getD 0 0).toNat) wx := by
        intro wx
        rw [run_index_string (P := Tryz.prog) (w := wx) 9 ⟨ss.toArray⟩ .i64 0 Tryz.underlying9,dif_pos ⟨by omega,by rw [str_size]; omega⟩]
        have e : ss.getD 0 0 = ss[0] := by rw [List.getD_eq_getElem?_getD,List.getElem?_eq_getElem hss]; rfl
        rw [e]
        rfl
      have hq : (((ss.getD 0 0).toNat : Int) == 45) = neg := by
        rw [← hneg]
        by_cases h45 : ss.getD 0 0 = 45
        · rw [h45]; rfl
        · rw [beq_eq_false_iff_ne.2 h45,beq_eq_false_iff_ne]
          intro h
          exact h45 (UInt8.toNat_inj.1 (show (ss.getD 0 0).toNat = 45 by omega))
      have hss1 : (0 : Int) < ss.length := by omega
      have y0 := HF.out.y0
      have y1 := HF.out.y1
      have HG := Lib.hid hg; have HBW := Lib.hid hbw
      clear hS hcell hbl hg hbw hneg hpp hpl
      generalize (ss.getD 0 0).toNat = b0 at *
      go_wp2_with fail
      refine (HP2.out _).mono ?_
      rintro e w4 ⟨rfl,hb4⟩
      have a1 := (hb4.block w.heap.size (lt_of_heap HG.out)).trans HG.out
      have hb04 : Below w.heap.size w w4 := HBW.out.trans (hb4.mono HBW.out.size)
      have A1 := Lib.hid a1; have HB4 := Lib.hid hb04
      clear a1 hb04 hb4 HG HBW HP2 hcv
      have hend : ∀ w5 : World,Below w4.heap.size w4 w5 → w5.heap[w.heap.size]? = some (.cells #[.int .u64 0,.int .i64 0] 126 (0,0)) ∧ Below w.heap.size w w5 := fun w5 hb5 => ⟨(hb5.block w.heap.size (lt_of_heap A1.out)).trans A1.out,HB4.out.trans (hb5.mono HB4.out.size)⟩
      have HEND := Lib.hid hend
      clear hend
      cases neg
      · obtain ⟨e1,e2⟩ := h2 rfl
        subst e1
        subst e2
        have HT := Lib.hid (tOf w4 s1 n1 (by omega) (by omega) (by omega))
        clear h1 h2
        go_wp2_with fail
        refine HT.out.mono ?_
        rintro e w5 ⟨rfl,hb5⟩
        obtain ⟨a1,hb05⟩ := HEND.out w5 hb5
        have z0 := Lib.frozen_of_heap a1 0
        have z1 := Lib.frozen_of_heap a1 1
        have d0 : w5.cell? ⟨w.heap.size,0,none⟩ = some (.int .u64 0) := by rw [Lib.cell_of_heap a1]; rfl
        have d1 : w5.cell? ⟨w.heap.size,1,none⟩ = some (.int .i64 0) := by rw [Lib.cell_of_heap a1]; rfl
        have A2 := Lib.hid (heap_set_same (i := 1) (.int .i64 (s1 + 62135596800)) (heap_set_same (i := 0) (.int .u64 n1) a1))
        have HB5 := Lib.hid ((hb05.setCell (p := ⟨w.heap.size,0,none⟩) (Nat.le_refl _) (.int .u64 n1)).setCell (p := ⟨w.heap.size,1,none⟩) (Nat.le_refl _) (.int .i64 (s1 + 62135596800)))
        clear a1 hb05 hb5 HT HEND
        go_wp2_with fail
        exact retTime2 w.heap.size n1 (s1 + 62135596800) .nilIface _ rfl rfl rfl rfl A2.out ⟨rfl,HB5.out⟩
      · obtain ⟨e1,e2⟩ := h1 rfl
        have hmul : IntKind.i64.wrap (-1 * y) = -y := by rw [IntWalk.i64_in _ (by omega)]; omega
        have hmul2 : IntKind.i64.wrap (-y) = -y := by rw [IntWalk.i64_in _ (by omega)]
        have ht := tOfNeg w4 x (-y) (by omega) (by omega) (by omega)
        rw [show -y + 1000000000 = n1 by omega,show x - 1 = s1 by omega] at ht
        have HT := Lib.hid ht
        clear h1 h2 ht e1 e2
        go_wp2_with fail
        refine HT.out.mono ?_
        rintro e w5 ⟨rfl,hb5⟩
        obtain ⟨a1,hb05⟩ := HEND.out w5 hb5
        have z0 := Lib.frozen_of_heap a1 0
        have z1 := Lib.frozen_of_heap a1 1
        have d0 : w5.cell? ⟨w.heap.size,0,none⟩ = some (.int .u64 0) := by rw [Lib.cell_of_heap a1]; rfl
        have d1 : w5.cell? ⟨w.heap.size,1,none⟩ = some (.int .i64 0) := by rw [Lib.cell_of_heap a1]; rfl
        have A2 := Lib.hid (heap_set_same (i := 1) (.int .i64 (s1 + 62135596800)) (heap_set_same (i := 0) (.int .u64 n1) a1))
        have HB5 := Lib.hid ((hb05.setCell (p := ⟨w.heap.size,0,none⟩) (Nat.le_refl _) (.int .u64 n1)).setCell (p := ⟨w.heap.size,1,none⟩) (Nat.le_refl _) (.int .i64 (s1 + 62135596800)))
        clear a1 hb05 hb5 HT HEND
        go_wp2_with fail
        exact retTime2 w.heap.size n1 (s1 + 62135596800) .nilIface _ rfl rfl rfl rfl A2.out ⟨rfl,HB5.out⟩
theorem parseTime (w : World) (s n : Int) (hn : 0 ≤ n ∧ n < 1000000000) (hs : -100000000000000000 ≤ s ∧ s ≤ 100000000000000000) : Calls Tryz.prog 209 #[str (paxTime s n)] w (TimeOut s n w) := by
  by_cases h0 : n = 0
  · subst h0; exact parseTime0 w s hs
  by_cases hneg : s < 0
  · obtain ⟨p,hf⟩ := paxTime_neg s n hneg (by omega) (by omega) hn.2
    have hl : (itoa (-(s + 1))).length ≤ 21 := itoa_length_le _ (by omega) (by omega)
    exact parseTimeF w _ _ p _ _ hf true (by simp) (by simp; omega) rfl (by omega) n s (fun _ => ⟨by omega,by omega⟩) (fun h => by cases h)
  · obtain ⟨p,hf⟩ := paxTime_pos s n (by omega) (by omega) (by omega) hn.2
    have hl : (itoa s).length ≤ 21 := itoa_length_le _ (by omega) (by omega)
    have e := itoa_nn s (by omega)
    have hne := dec_ne s.toNat
    rw [e] at hf hl
    refine parseTimeF w _ _ p _ _ hf false (List.length_pos_iff.2 hne) (by omega) ?_ (by omega) n s (fun h => by cases h) (fun _ => ⟨rfl,rfl⟩)
    rw [beq_eq_false_iff_ne]
    intro h45
    have hm : (decDigits s.toNat).getD 0 0 ∈ decDigits s.toNat := by
      rw [List.getD_eq_getElem?_getD,List.getElem?_eq_getElem (List.length_pos_iff.2 hne)]; exact List.getElem_mem _
    have := dec_bytes _ _ hm
    rw [h45] at this
    revert this; decide
end Go.Proofs.YtkanmkcojlefbaaGreatDoor
namespace Go.Proofs.YtkanmkcojlefbaaGreatDoor
open Go.RowKit
theorem m_phys (w : World) (b : Nat) (v : Value) (n : Int) (h : w.heap[b]? = some (.cells #[v, .int .i64 n] 148)) : (method 511 146 (.pointer (some ⟨b, 0, none⟩)) "tapearchives/pub/gotar.physicalRemaining").run Tryz.prog w =
   .ok (348, .agg #[v, .int .i64 n]) w := by
  have f0 : w.cell? ⟨b, 0, none⟩ = some v := by rw [Lib.cell_of_heap h]; rfl
  have f1 : w.cell? ⟨b, 1, none⟩ = some (.int .i64 n) := by rw [Lib.cell_of_heap h]; rfl
  have h : (method 511 146 (.pointer (some ⟨b, 0, none⟩)) "tapearchives/pub/gotar.physicalRemaining").run Tryz.prog w =
   ((loadVar 148 ⟨b, 0, none⟩).bind fun v => pure (348, v)).run Tryz.prog w := by kernel_rfl
  rw [h]
  have hl : (loadVar 148 ⟨b, 0, none⟩).run Tryz.prog w = .ok (.agg #[v, .int .i64 n]) w := by
    simp [loadVar, go_sem, f0, f1]
  exact (Sem.run_bind ..).trans (by rw [hl]; rfl)
theorem phys (w : World) (v : Value) (n : Int) : Calls Tryz.prog 348 #[.agg #[v, .int .i64 n]] w fun e w' => e = .returned (.int .i64 n) ∧ Below w.heap.size w w' := by
  go_enter Tryz.func348, Tryz.ntmps348
  go_wp2
  go_ret
  exact ⟨rfl, (Below.refl _ _).alloc (Nat.le_refl _) _⟩
def FRd (fr r : Nat) (nb : Int) (w : World) : Prop := w.heap[fr]? = some (.cells #[.iface 84 (.pointer (some ⟨r, 0, none⟩)), .int .i64 nb] 148)
theorem RD.below {r g n c i : Nat} {w w' : World} (h : RD r g n c i w) (f : Below w.heap.size w w') : RD r g n c i w' := by
  obtain ⟨p,hr⟩ := h
  exact ⟨p,(f.block r (lt_of_heap hr)).trans hr⟩
theorem RD.fr {r g n c i : Nat} {w w' : World} (h : RD r g n c i w) {B : Nat} {S : List Nat} (f : Fr B S w w') (hS : r ∉ S) : RD r g n c i w' := by
  obtain ⟨p,hr⟩ := h
  exact ⟨p,f.cells hr hS (.inr (by decide))⟩
theorem TR.below {tr r : Nat} {pad : Int} {curr err : Value} {blk : List Value} {w w' : World} (h : TR tr r pad curr blk err w) (f : Below w.heap.size w w') : TR tr r pad curr blk err w' :=
  ⟨(f.block tr (lt_of_heap h.1)).trans h.1,h.2⟩
theorem TR.fr {tr r : Nat} {pad : Int} {curr err : Value} {blk : List Value} {w w' : World} (h : TR tr r pad curr blk err w) {B : Nat} {S : List Nat} (f : Fr B S w w') (hS : tr ∉ S) : TR tr r pad curr blk err w' :=
  ⟨f.cells h.1 hS (.inr (by decide)),h.2⟩
theorem m_read146 (w : World) (a : Addr) : (method 511 146 (.pointer (some a)) "Read").run Tryz.prog w = .ok (346,.pointer (some a)) w := by kernel_rfl
theorem na_read146 (w : World) (a : Addr) : (nilAhead 511 146 (.pointer (some a)) "Read").run Tryz.prog w = .ok (some false) w := by kernel_rfl
theorem m_read82 (w : World) (a : Addr) : (method 511 82 (.pointer (some a)) "Read").run Tryz.prog w = .ok (81,.pointer (some a)) w := by kernel_rfl
theorem na_read82 (w : World) (a : Addr) : (nilAhead 511 82 (.pointer (some a)) "Read").run Tryz.prog w = .ok (some false) w := by kernel_rfl
theorem m_read319 (w : World) (a : Addr) : (method 511 319 (.pointer (some a)) "Read").run Tryz.prog w = .ok (360,.pointer (some a)) w := by kernel_rfl
theorem na_read319 (w : World) (a : Addr) : (nilAhead 511 319 (.pointer (some a)) "Read").run Tryz.prog w = .ok (some false) w := by kernel_rfl
theorem neq_err_same (w : World) (a : Addr) : (binOp .neq 72 (errV a) (errV a)).run Tryz.prog w = .ok (.bool false) w := by
  obtain ⟨i,hi,hc⟩ := i245
  obtain ⟨j,hj,_⟩ := i247
  simp only [binOp]
  simp [Op.equal,Op.maxDepth,run_equalIn_iface_ptr_same w 9998 a Tryz.underlying72 Tryz.underlying245 hi hc hj]
def endErr (nb k : Nat) (aE : Addr) : Value := if nb = k then errV aE else .nilIface
def GotData (r g n c i k nb fr d o : Nat) (bs : List UInt8) (cur : List Value) (t : TypeId) (aE : Addr) (w : World) (e : Ending) (w' : World) : Prop :=
  e = .returned (.tuple #[.int .i64 k,endErr nb k aE]) ∧ RD r g n c (i + k) w' ∧ FRd fr r (nb - k : Nat) w' ∧ w'.heap[d]? = some (.cells (splice cur o (Lib.byteCells ((bs.drop i).take k))).toArray t (0,0)) ∧ Fr w.heap.size [r,d,fr] w w'
set_option maxHeartbeats 1000000 in
theorem frRead (w : World) (r g n c i k nb fr d o m dc : Nat) (bs : List UInt8) (cur : List Value) (t : TypeId) (aE : Addr) (h : RD r g n c i w) (hf : FRd fr r nb w) (hk : k = min m nb) (hin : i + nb ≤ n) (hm0 : 0 < m) (hm : m ≤ dc) (hdc : dc < 4611686018427387904) (hbig : n < 4611686018427387904) (hnc : n ≤ c)
    (hb : bs.length = n) (hsrc : At w g 0 (Lib.byteCells bs)) (hd : w.heap[d]? = some (.cells cur.toArray t (0,0))) (hfit : o + m ≤ cur.length) (hdr : d ≠ r) (hgr : g ≠ r) (hdf : d ≠ fr) (hE : w.cell? ⟨0,0,none⟩ = some (errV aE)) (hE0 : 0 ∉ [r,d,fr]) :
    Calls Tryz.prog 346 #[.pointer (some ⟨fr,0,none⟩),.slice (some ⟨d,o,none⟩) m dc] w (GotData r g n c i k nb fr d o bs cur t aE w) := by
  have hfr : fr ≠ r := by
    rintro rfl
    obtain ⟨p,hr⟩ := h
    rw [FRd,hr] at hf; cases hf
  have f0 : w.cell? ⟨fr,0,none⟩ = some (.iface 84 (.pointer (some ⟨r,0,none⟩))) := by rw [Lib.cell_of_heap hf]; rfl
  have f1 : w.cell? ⟨fr,1,none⟩ = some (.int .i64 nb) := by rw [Lib.cell_of_heap hf]; rfl
  have en := fun w' => eql_nil_err w' aE
  have mr := m_read84
  have nr := na_read84
  by_cases hz : nb = 0
  · subst hz
    have hk0 : k = 0 := by omega
    subst hk0
    have hmz : (0 : Int) < (m : Int) := by omega
    have hfin : ∀ q,GotData r g n c i 0 0 fr d o bs cur t aE w (.returned (.tuple #[.int .i64 0,errV aE])) (w.drewN q) := by
      intro q
      refine ⟨rfl,h,hf,?_,(Fr.refl _ _ w).drewN q⟩
      have e : splice cur o (Lib.byteCells ((bs.drop i).take 0)) = cur := by simp [splice,Lib.byteCells]
      rw [e]; exact hd
    have HFIN := Lib.hid hfin
    clear hfin h hf hsrc hd hk
    go_enter Tryz.func346,Tryz.ntmps346
    go_wp2_with fail
    go_quiet (fail)
    go_wp2_with fail
    go_ret2
    exact HFIN.out _
  · have hnb0 : (0 : Int) < (nb : Int) := by omega
    have hkp : 0 < k := by omega
    have hki : (0 : Int) < (k : Int) := by omega
    have HC := read_data w r g n c i k d o k dc bs cur t h (by omega) (by omega) (by omega) hbig hnc hb hsrc hd (by omega) hdr hgr
    have hsub : IntKind.i64.wrap ((nb : Int) - k) = ((nb - k : Nat) : Int) := by rw [IntWalk.i64_in _ (by omega)]; omega
    have HK := Lib.hid hk
    have HF := Lib.hid hf; have HE := Lib.hid hE
    clear h hsrc hd hf hk
    have hlast : ∀ w1 : World,GotRead r g n c i k d o bs cur t w (.returned (.tuple #[.int .i64 k,.nilIface])) w1 →
        w1.heap[fr]? = some (.cells #[.iface 84 (.pointer (some ⟨r,0,none⟩)),.int .i64 nb] 148 (0,0)) ∧ w1.cell? ⟨0,0,none⟩ = some (errV aE) ∧ ∀ q,GotData r g n c i k nb fr d o bs cur t aE w (.returned (.tuple #[.int .i64 k,endErr nb k aE])) ((w1.setCell ⟨fr,1,none⟩ (.int .i64 (nb - k : Nat))).drewN q) := by
      rintro w1 ⟨-,h2,h3,h4⟩
      have hf1 : w1.heap[fr]? = some (.cells #[.iface 84 (.pointer (some ⟨r,0,none⟩)),.int .i64 nb] 148 (0,0)) := h4.cells HF.out (by simp [hfr,Ne.symm hdf]) (.inr (by decide))
      refine ⟨hf1,h4.cell HE.out (by simp at hE0 ⊢; exact ⟨hE0.1,hE0.2.1⟩) (block_lt_of_cell HE.out),fun q => ⟨rfl,?_,?_,?_,?_⟩⟩
      · obtain ⟨p,hr⟩ := h2
        exact ⟨p,(heap_set_other (a := ⟨fr,1,none⟩) _ (Ne.symm hfr)).trans hr⟩
      · exact heap_set_same (i := 1) _ hf1
      · exact (heap_set_other (a := ⟨fr,1,none⟩) _ hdf).trans h3
      · exact ((h4.wide (Nat.le_refl _) (fun k hk _ => by simp at hk ⊢; omega)).setCell (p := ⟨fr,1,none⟩) (.inl (by simp)) _).drewN q
    have HLAST := Lib.hid hlast
    have HC := Lib.hid HC
    clear hlast hE
    by_cases hcut : m ≤ nb
    · have hmk : k = m := by have := HK.out; omega
      subst hmk
      have hni : ¬ ((nb : Int) < (k : Int)) := by omega
      go_enter Tryz.func346,Tryz.ntmps346
      go_wp2_with fail
      refine HC.out.mono ?_
      rintro e w1 hg
      obtain rfl := hg.1
      obtain ⟨hf1,hE1,hfin⟩ := HLAST.out w1 hg
      have HFIN := Lib.hid hfin
      have g1 : w1.cell? ⟨fr,1,none⟩ = some (.int .i64 nb) := by rw [Lib.cell_of_heap hf1]; rfl
      have z1 : w1.frozen? ⟨fr,1,none⟩ = false := Lib.frozen_of_heap hf1 1
      clear hg hf1 hfin f0 f1 HC HLAST
      by_cases hlastb : nb = k
      · have eE : endErr nb k aE = errV aE := if_pos hlastb
        rw [eE] at HFIN
        have hz0 : nb - k = 0 := by omega
        rw [hz0] at hsub HFIN
        go_wp2_with fail
        go_quiet (fail)
        go_wp2_with fail
        go_ret2
        exact HFIN.out _
      · have eE : endErr nb k aE = .nilIface := if_neg hlastb
        rw [eE] at HFIN
        have hz0 : ¬ ((nb - k : Nat) : Int) = 0 := by omega
        go_wp2_with fail
        go_ret2
        exact HFIN.out 0
    · have hmk : k = nb := by have := HK.out; omega
      subst hmk
      have hni : (k : Int) < (m : Int) := by omega
      have hkc : (k : Int) ≤ dc := by omega
      go_enter Tryz.func346,Tryz.ntmps346
      go_wp2_with fail
      refine HC.out.mono ?_
      rintro e w1 hg
      obtain rfl := hg.1
      obtain ⟨hf1,hE1,hfin⟩ := HLAST.out w1 hg
      have HFIN := Lib.hid hfin
      have g1 : w1.cell? ⟨fr,1,none⟩ = some (.int .i64 k) := by rw [Lib.cell_of_heap hf1]; rfl
      have z1 : w1.frozen? ⟨fr,1,none⟩ = false := Lib.frozen_of_heap hf1 1
      clear hg hf1 hfin f0 f1 HC HLAST
      have eE : endErr k k aE = errV aE := if_pos rfl
      rw [eE] at HFIN
      rw [Nat.sub_self] at hsub HFIN
      go_wp2_with fail
      go_quiet (fail)
      go_wp2_with fail
      go_ret2
      exact HFIN.out _
theorem trRead (w : World) (tr r g n c i k nb fr d o m dc : Nat) (pad : Int) (blk : List Value) (bs : List UInt8) (cur : List Value) (t : TypeId) (aE : Addr) (h : RD r g n c i w) (hf : FRd fr r nb w) (ht : TR tr r pad (.iface 146 (.pointer (some ⟨fr,0,none⟩))) blk .nilIface w) (hk : k = min m nb) (hin : i + nb ≤ n) (hm0 : 0 < m) (hm : m ≤ dc) (hdc : dc < 4611686018427387904) (hbig : n < 4611686018427387904) (hnc : n ≤ c)
    (hb : bs.length = n) (hsrc : At w g 0 (Lib.byteCells bs)) (hd : w.heap[d]? = some (.cells cur.toArray t (0,0))) (hfit : o + m ≤ cur.length) (hdr : d ≠ r) (hgr : g ≠ r) (hdf : d ≠ fr) (hdt : d ≠ tr) (hE : w.cell? ⟨0,0,none⟩ = some (errV aE)) (hE0 : 0 ∉ [r,d,fr]) :
    Calls Tryz.prog 81 #[.pointer (some ⟨tr,0,none⟩),.slice (some ⟨d,o,none⟩) m dc] w (GotData r g n c i k nb fr d o bs cur t aE w) := by
  have HC := Lib.hid (frRead w r g n c i k nb fr d o m dc bs cur t aE h hf hk hin hm0 hm hdc hbig hnc hb hsrc hd hfit hdr hgr hdf hE hE0)
  obtain ⟨c0,c1,c2,c515,-⟩ := trCells ht.2 ht.1
  have en := fun w' => eql_nil_err w' aE
  have es := fun w' => neq_err_same w' aE
  have mr := m_read146
  have nr := na_read146
  have HE := Lib.hid hE
  clear h hf ht hsrc hd hE c0 c1 hk
  go_enter Tryz.func81,Tryz.ntmps81
  go_wp2_with fail
  refine HC.out.mono ?_
  rintro e w1 hg
  obtain rfl := hg.1
  have hE1 : w1.cell? ⟨0,0,none⟩ = some (errV aE) := hg.2.2.2.2.cell HE.out hE0 (block_lt_of_cell HE.out)
  have HG := Lib.hid hg
  clear hg HC c2 c515
  by_cases hl : nb = k
  · have eE : endErr nb k aE = errV aE := if_pos hl
    rw [eE] at HG ⊢
    go_wp2_with fail
    go_ret2
    exact HG.out
  · have eE : endErr nb k aE = .nilIface := if_neg hl
    rw [eE] at HG ⊢
    go_wp2_with fail
    go_ret2
    exact HG.out
def HRF (tr r : Nat) (err : Value) (blk : List Value) (nb : Int) (w : World) (e : Ending) (w' : World) : Prop :=
  ∃ fr,e = .returned .nilIface ∧ FRd fr r nb w' ∧ w.heap.size ≤ fr ∧ TR tr r (padOf nb) (.iface 146 (.pointer (some ⟨fr,0,none⟩))) blk err w' ∧ Fr w.heap.size [tr] w w'
theorem handleReg (w : World) (tr r : Nat) (pad : Int) (curr err : Value) (blk : List Value) (hb : Nat) (H : Hd) (nb : Int) (ht : TR tr r pad curr blk err w) (hh : w.heap[hb]? = some (.cells H.cells.toArray 130 (0,0))) (hnb : nb = if hdrOnly H.typ then 0 else H.size) (h0 : 0 ≤ nb) (h1 : nb ≤ 9223372036854775807) :
    Calls Tryz.prog 149 #[.pointer (some ⟨tr,0,none⟩),.pointer (some ⟨hb,0,none⟩)] w (HRF tr r err blk nb w) := by
  have c3 : w.cell? ⟨hb,3,none⟩ = some (.int .i64 H.size) := by rw [Lib.cell_of_heap hh]; rfl
  have ct : w.cell? ⟨hb,0,none⟩ = some (.int .u8 H.typ) := by rw [Lib.cell_of_heap hh]; rfl
  obtain ⟨d0,d1,d2,-,z1,z2,-⟩ := trCells ht.2 ht.1
  have hlt := lt_of_heap ht.1
  have HO := isHdrOnly w H.typ
  have HPD := Lib.hid (blockPad w nb h0 h1)
  have hneg : ¬ nb < 0 := by omega
  have hfin : HRF tr r err blk nb w (.returned .nilIface) (((w.setCell ⟨tr,1,none⟩ (.int .i64 (padOf nb))).setCell ⟨tr,2,none⟩ (.iface 146 (.pointer (some ⟨w.heap.size,0,none⟩)))).alloc (.cells #[.iface 84 (.pointer (some ⟨r,0,none⟩)),.int .i64 nb] 148)) := by
    have q1 := heap_set_same (i := 1) (.int .i64 (padOf nb)) ht.1
    rw [rcells_set1] at q1
    have q3 := heap_set_same (i := 2) (.iface 146 (.pointer (some ⟨w.heap.size,0,none⟩))) q1
    rw [rcells_set2] at q3
    have F : Fr w.heap.size [tr] w ((w.setCell ⟨tr,1,none⟩ (.int .i64 (padOf nb))).setCell ⟨tr,2,none⟩ (.iface 146 (.pointer (some ⟨w.heap.size,0,none⟩)))) := ((Fr.refl _ _ w).setCell (p := ⟨tr,1,none⟩) (.inl (by simp)) _).setCell (p := ⟨tr,2,none⟩) (.inl (by simp)) _
    have hs : ((w.setCell ⟨tr,1,none⟩ (.int .i64 (padOf nb))).setCell ⟨tr,2,none⟩ (.iface 146 (.pointer (some ⟨w.heap.size,0,none⟩)))).heap.size = w.heap.size := by simp [World.setCell]
    generalize (w.setCell ⟨tr,1,none⟩ (.int .i64 (padOf nb))).setCell ⟨tr,2,none⟩ (.iface 146 (.pointer (some ⟨w.heap.size,0,none⟩))) = wz at *
    have hnew := heap_alloc_new wz (.cells #[.iface 84 (.pointer (some ⟨r,0,none⟩)),.int .i64 nb] 148)
    rw [hs] at hnew
    exact ⟨w.heap.size,rfl,hnew,Nat.le_refl _,⟨(Below.heap_alloc wz _ tr (by rw [hs]; exact hlt)).trans q3,ht.2⟩,F.alloc _⟩
  have HFIN := Lib.hid hfin
  clear hfin hh ht
  cases hho : hdrOnly H.typ
  · rw [hho] at HO
    have hn2 : nb = H.size := by rw [hnb,hho]; rfl
    rw [← hn2] at c3
    clear hnb hn2 hho
    go_enter Tryz.func149,Tryz.ntmps149
    go_wp2_with fail
    refine HO.mono ?_
    rintro e wx ⟨rfl,rfl⟩
    go_wp2_with fail
    refine HPD.out.mono ?_
    rintro e wx ⟨rfl,rfl⟩
    go_wp2_with fail
    go_ret
    exact HFIN.out
  · rw [hho] at HO
    have hn2 : nb = 0 := by rw [hnb,hho]; rfl
    subst hn2
    clear hnb hho
    go_enter Tryz.func149,Tryz.ntmps149
    go_wp2_with fail
    refine HO.mono ?_
    rintro e wx ⟨rfl,rfl⟩
    go_wp2_with fail
    refine HPD.out.mono ?_
    rintro e wx ⟨rfl,rfl⟩
    go_wp2_with fail
    go_ret
    exact HFIN.out
theorem tryReadFull_full (w : World) (r g n c i d o m dc : Nat) (bs : List UInt8) (cur : List Value) (t : TypeId) (aE : Addr) (h : RD r g n c i w) (hm0 : 0 < m) (hmn : m ≤ n - i) (hdc : m ≤ dc) (hbig : n < 4611686018427387904) (hnc : n ≤ c)
    (hb : bs.length = n) (hsrc : At w g 0 (Lib.byteCells bs)) (hd : w.heap[d]? = some (.cells cur.toArray t (0,0))) (hfit : o + m ≤ cur.length) (hdr : d ≠ r) (hgr : g ≠ r) (hE : w.cell? ⟨0,0,none⟩ = some (errV aE)) (hE0 : 0 ∉ [r,d]) :
    Calls Tryz.prog 147 #[.iface 84 (.pointer (some ⟨r,0,none⟩)),.slice (some ⟨d,o,none⟩) m dc] w (GotRead r g n c i m d o bs cur t w) := by
  have HC := Lib.hid (read_data w.drew r g n c i m d o m dc bs cur t h (by omega) (by omega) (by omega) hbig hnc hb hsrc hd hfit hdr hgr)
  have hdc2 : (m : Int) ≤ dc := by omega
  have hm2 : (0 : Int) < m := by omega
  have hm3 : (m : Int) < 4611686018427387904 := by omega
  have hm4 : ¬ dc = 0 := by omega
  have mr := m_read84
  have nr := na_read84
  have en := fun w' => eql_nil_err w' aE
  have HE := Lib.hid hE
  clear h hb hsrc hd hE
  go_enter Tryz.func147,Tryz.ntmps147
  go_wp2_with fail
  refine wp_loop_rounds 2 ?_
  rw [rounds_succ]
  go_wp2_with fail
  go_region_held3 (fun _ => True) (trivial) (first | (go_at_call 340; refine HC.out.mono ?_; rintro e w1 ⟨rfl,h2,h3,h4⟩))
  have hE1 : w1.cell? ⟨0,0,none⟩ = some (errV aE) := h4.cell HE.out hE0 (block_lt_of_cell HE.out)
  go_wp2_with fail
  rw [rounds_succ]
  go_wp2_with fail
  go_ret2
  exact ⟨rfl,h2,h3,(Fr.refl _ _ w).drew.trans h4⟩
end Go.Proofs.YtkanmkcojlefbaaGreatDoor
