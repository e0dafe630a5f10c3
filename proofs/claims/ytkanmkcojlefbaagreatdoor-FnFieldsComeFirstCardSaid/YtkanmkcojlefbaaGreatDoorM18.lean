/-
  Part of the proof; holds the texts IHd, HOf0.
-/
import Derived.Test.YtkanmkcojlefbaaGreatDoorM17
import Derived.Deep.RegionHeld3
import Derived.Test.YtkanmkcojlefbaaGreatDoorM08
set_option maxRecDepth 100000
set_option linter.unusedSimpArgs false
set_option linter.unusedVariables false
namespace Go.Proofs.YtkanmkcojlefbaaGreatDoor
open Go.RowKit
theorem SMap.isMap2 {w : World} {b n : Nat} {m : List UInt8 → Option (List UInt8)} (h : SMap w b n m) : ∃ es cl,w.heap[b]? = some (.map es cl) := by
  obtain ⟨D,⟨es,clock,h1,h2⟩,h3⟩ := h
  exact ⟨es,clock,h1⟩
structure IH where
  typ : Int
  name : List UInt8
  link : List UInt8
  size : Int
  mode : Int
  uid : Int
  gid : Int
  user : List UInt8
  group : List UInt8
  ms : Int
  mn : Int
  hasA : Bool
  ats : Int
  atn : Int
  hasC : Bool
  cts : Int
  ctn : Int
  maj : Int
  mnr : Int
  recs : Value
  fmt : Int
def IH.cells (h : IH) : List Value := [.int .u8 h.typ,str h.name,str h.link,.int .i64 h.size,.int .i64 h.mode,.int .i64 h.uid,.int .i64 h.gid,str h.user,str h.group,.int .i64 h.ms,.int .i64 h.mn,.bool h.hasA,.int .i64 h.ats,.int .i64 h.atn,.bool h.hasC,.int .i64 h.cts,.int .i64 h.ctn,.int .i64 h.maj,.int .i64 h.mnr,h.recs,.int .i64 h.fmt]
def fmtOf (n : Int) : Int := if n = 1 then 2 else if n = 2 then 4 else if n = 3 then 8 else 0
theorem format_calls (w : World) (n : Int) : Calls Tryz.prog 71 #[.int .i64 n] w (RetSame w (.int .i64 (fmtOf n))) := by
  by_cases h1 : n = 1
  · subst h1
    go_enter Tryz.func71,Tryz.ntmps71
    go_wp2
    go_ret
    exact ⟨rfl,rfl⟩
  by_cases h2 : n = 2
  · subst h2
    go_enter Tryz.func71,Tryz.ntmps71
    go_wp2
    go_ret
    exact ⟨rfl,rfl⟩
  by_cases h3 : n = 3
  · subst h3
    go_enter Tryz.func71,Tryz.ntmps71
    go_wp2
    go_ret
    exact ⟨rfl,rfl⟩
  have e : fmtOf n = 0 := by unfold fmtOf; rw [if_neg h1,if_neg h2,if_neg h3]
  have q1 : (n == 1) = false := by rw [beq_eq_false_iff_ne]; exact h1
  have q2 : (n == 2) = false := by rw [beq_eq_false_iff_ne]; exact h2
  have q3 : (n == 3) = false := by rw [beq_eq_false_iff_ne]; exact h3
  rw [e]
  clear h1 h2 h3 e
  go_enter Tryz.func71,Tryz.ntmps71
  go_wp2
  go_ret
  exact ⟨rfl,rfl⟩
structure IH.In (h : IH) : Prop where
  mn : 0 ≤ h.mn ∧ h.mn < 1000000000
  ms : -100000000000000000 ≤ h.ms ∧ h.ms ≤ 100000000000000000
  atn : h.hasA = true → 0 ≤ h.atn ∧ h.atn < 1000000000
  ats : h.hasA = true → -100000000000000000 ≤ h.ats ∧ h.ats ≤ 100000000000000000
  ctn : h.hasC = true → 0 ≤ h.ctn ∧ h.ctn < 1000000000
  cts : h.hasC = true → -100000000000000000 ≤ h.cts ∧ h.cts ≤ 100000000000000000
theorem ih_cell {w : World} {g : Nat} {h : IH} (hh : w.heap[g]? = some (.cells h.cells.toArray 26 (0,0))) (k : Nat) (v : Value) (hv : h.cells[k]? = some v) : w.cell? ⟨g,k,none⟩ = some v := by
  rw [Lib.cell_of_heap hh,List.getElem?_toArray]; exact hv
def IHC (g : Nat) (h : IH) (w : World) : Prop := w.heap[g]? = some (.cells h.cells.toArray 26 (0,0))
def IH.hd0 (h : IH) : Hd := ⟨h.typ,h.name,h.link,h.size,h.mode,h.uid,h.gid,h.user,h.group,h.mn,h.ms + 62135596800,0,0,0,0,h.maj,h.mnr,.map none,.map none,fmtOf h.fmt⟩
def IH.hd1 (h : IH) : Hd := { h.hd0 with aw := if h.hasA then h.atn else 0,ax := if h.hasA then h.ats + 62135596800 else 0 }
def IH.hd2 (h : IH) : Hd := { h.hd1 with cw := if h.hasC then h.ctn else 0,cx := if h.hasC then h.cts + 62135596800 else 0 }
def HS (g oh : Nat) (h : IH) (H : Hd) (w wx : World) : Prop := wx.heap[g]? = some (.cells h.cells.toArray 26 (0,0)) ∧ wx.heap[oh]? = some (.cells H.cells.toArray 130 (0,0)) ∧ Below g w wx ∧ g < oh
def RecS (w : World) (v : Value) (L : List (List UInt8 × List UInt8)) : Prop := ∃ p c,v = .slice p L.length c ∧ ∀ (j : Nat) (hj : j < L.length),∃ rg ro,p = some ⟨rg,ro,none⟩ ∧ rg < w.heap.size ∧ w.cell? ⟨rg,ro + j * 2,none⟩ = some (str L[j].1) ∧ w.cell? ⟨rg,ro + j * 2 + 1,none⟩ = some (str L[j].2)
def IRel (g oh mb : Nat) (h : IH) (L : List (List UInt8 × List UInt8)) (i : Nat) (w wr : World) : Prop :=
  i ≤ L.length ∧ wr.heap[g]? = some (.cells h.cells.toArray 26 (0,0)) ∧ wr.heap[oh]? = some (.cells ({ h.hd2 with recs := .map (some mb) } : Hd).cells.toArray 130 (0,0)) ∧ SMap wr mb i (putAll (fun _ => none) (L.take i)) ∧ Below g w wr ∧ g < oh
set_option maxHeartbeats 4000000 in
theorem implHeader (w : World) (h : IH) (hin : h.In) (L : List (List UInt8 × List UInt8)) (hL : RecS w h.recs L) (hL2 : L.length ≤ 1048576) (hL3 : ∀ p ∈ L,p.1.length ≤ 9223372036854775807 ∧ p.2.length ≤ 9223372036854775807) :
    Calls Tryz.prog 31 #[.agg h.cells.toArray] w fun e w' => ∃ oh rv,e = .returned (.pointer (some ⟨oh,0,none⟩)) ∧ w'.heap[oh]? = some (.cells ({ h.hd2 with recs := rv } : Hd).cells.toArray 130 (0,0)) ∧ RecMap w' rv (putAll (fun _ => none) L) w'.heap.size ∧ Below w.heap.size w w' ∧ w.heap.size ≤ oh ∧ rv.oneCell' = true := by
  have hnew := heap_alloc_new w (.cells h.cells.toArray 26)
  have HIN := Lib.hid hin; have HL := Lib.hid hL; have HL3 := Lib.hid hL3
  clear hin hL hL3
  go_enter Tryz.func31,Tryz.ntmps31
  go_upto_region 1 with fail
  generalize hw0 : w.alloc (.cells h.cells.toArray 26) = w0 at *
  generalize hg : w.heap.size = g at *
  have d0 := ih_cell hnew 0 (.int .u8 h.typ) rfl
  have d1 := ih_cell hnew 1 (str h.name) rfl
  have d2 := ih_cell hnew 2 (str h.link) rfl
  have d3 := ih_cell hnew 3 (.int .i64 h.size) rfl
  have d4 := ih_cell hnew 4 (.int .i64 h.mode) rfl
  have d5 := ih_cell hnew 5 (.int .i64 h.uid) rfl
  have d6 := ih_cell hnew 6 (.int .i64 h.gid) rfl
  have d7 := ih_cell hnew 7 (str h.user) rfl
  have d8 := ih_cell hnew 8 (str h.group) rfl
  have d9 := ih_cell hnew 9 (.int .i64 h.ms) rfl
  have d10 := ih_cell hnew 10 (.int .i64 h.mn) rfl
  have d17 := ih_cell hnew 17 (.int .i64 h.maj) rfl
  have d18 := ih_cell hnew 18 (.int .i64 h.mnr) rfl
  have d20 := ih_cell hnew 20 (.int .i64 h.fmt) rfl
  have HN := Lib.hid hnew
  have HT := Lib.hid (tOf w0.drew h.ms h.mn HIN.out.mn.1 HIN.out.mn.2 HIN.out.ms)
  have HFM := Lib.hid format_calls
  have hlt := block_lt_of_cell d0
  have hB0 : Below g w w0 := by rw [← hw0,← hg]; exact (Below.refl _ w).alloc (Nat.le_refl _) _
  have HB0 := Lib.hid hB0
  have HG := Lib.hid hg
  clear hnew hw0 hB0 hg
  go_region_held3 (fun w' => w'.cell? ⟨g,0,none⟩ = some (.int .u8 h.typ) ∧ w'.cell? ⟨g,1,none⟩ = some (str h.name) ∧ w'.cell? ⟨g,2,none⟩ = some (str h.link) ∧ w'.cell? ⟨g,3,none⟩ = some (.int .i64 h.size) ∧ w'.cell? ⟨g,4,none⟩ = some (.int .i64 h.mode) ∧ w'.cell? ⟨g,5,none⟩ = some (.int .i64 h.uid) ∧ w'.cell? ⟨g,6,none⟩ = some (.int .i64 h.gid) ∧ w'.cell? ⟨g,7,none⟩ = some (str h.user) ∧ w'.cell? ⟨g,8,none⟩ = some (str h.group) ∧ w'.cell? ⟨g,9,none⟩ = some (.int .i64 h.ms) ∧ w'.cell? ⟨g,10,none⟩ = some (.int .i64 h.mn) ∧ w'.cell? ⟨g,17,none⟩ = some (.int .i64 h.maj) ∧ w'.cell? ⟨g,18,none⟩ = some (.int .i64 h.mnr) ∧ w'.cell? ⟨g,20,none⟩ = some (.int .i64 h.fmt)) (first | go_keep | (refine ⟨?_,?_,?_,?_,?_,?_,?_,?_,?_,?_,?_,?_,?_,?_⟩ <;> assumption)) (first | (go_at_call 70; refine HT.out.mono ?_; rintro e w1 ⟨rfl,hb1⟩; have e0 := (hb1.cell (p := ⟨g,0,none⟩) hlt).trans d0; have e1 := (hb1.cell (p := ⟨g,1,none⟩) hlt).trans d1; have e2 := (hb1.cell (p := ⟨g,2,none⟩) hlt).trans d2; have e3 := (hb1.cell (p := ⟨g,3,none⟩) hlt).trans d3; have e4 := (hb1.cell (p := ⟨g,4,none⟩) hlt).trans d4; have e5 := (hb1.cell (p := ⟨g,5,none⟩) hlt).trans d5; have e6 := (hb1.cell (p := ⟨g,6,none⟩) hlt).trans d6; have e7 := (hb1.cell (p := ⟨g,7,none⟩) hlt).trans d7; have e8 := (hb1.cell (p := ⟨g,8,none⟩) hlt).trans d8; have e9 := (hb1.cell (p := ⟨g,9,none⟩) hlt).trans d9; have e10 := (hb1.cell (p := ⟨g,10,none⟩) hlt).trans d10; have e17 := (hb1.cell (p := ⟨g,17,none⟩) hlt).trans d17; have e18 := (hb1.cell (p := ⟨g,18,none⟩) hlt).trans d18; have e20 := (hb1.cell (p := ⟨g,20,none⟩) hlt).trans d20) | (go_at_call 71; refine (HFM.out _ _).mono ?_; rintro e wx ⟨rfl,rfl⟩))
  have hgl : g < w1.heap.size := by have := hb1.size; have : w0.drew.heap.size = w0.heap.size := rfl; omega
  have hHS0 : HS g w1.heap.size h h.hd0 w (w1.alloc (.cells h.hd0.cells.toArray 130)) := by
    refine ⟨?_,heap_alloc_new w1 _,?_,hgl⟩
    · exact (Below.heap_alloc w1 _ g hgl).trans ((hb1.block g hlt).trans HN.out)
    · exact (HB0.out.drew.trans (hb1.mono (show g ≤ w0.drew.heap.size by show g ≤ w0.heap.size; omega))).alloc (by omega) _
  have e11 := (hb1.cell (p := ⟨g,11,none⟩) hlt).trans (ih_cell HN.out 11 (.bool h.hasA) rfl)
  have HHS0 := Lib.hid hHS0
  clear hHS0 d0 d1 d2 d3 d4 d5 d6 d7 d8 d9 d10 d17 d18 d20 e0 e1 e2 e3 e4 e5 e6 e7 e8 e9 e10 e17 e18 e20 HT
  generalize hoh : w1.heap.size = oh at *
  have hwv : (w1.alloc (.cells #[.int .u8 h.typ,str h.name,str h.link,.int .i64 h.size,.int .i64 h.mode,.int .i64 h.uid,.int .i64 h.gid,str h.user,str h.group,.int .u64 h.mn,.int .i64 (h.ms + 62135596800),.int .u64 0,.int .i64 0,.int .u64 0,.int .i64 0,.int .i64 h.maj,.int .i64 h.mnr,.map none,.map none,.int .i64 (fmtOf h.fmt)] 130)) = w1.alloc (.cells h.hd0.cells.toArray 130) := rfl
  rw [hwv]
  clear hwv
  generalize hv0 : w1.alloc (.cells h.hd0.cells.toArray 130) = v0 at *
  have e11 := ih_cell HHS0.out.1 11 (.bool h.hasA) rfl
  clear hb1 hv0 hoh
  have HHS := HHS0
  clear HHS0
  obtain ⟨vv,hvv⟩ : ∃ vv,vv = v0 := ⟨_,rfl⟩
  subst hvv
  go_upto_if 41 with fail
  go_cut [] (fun wx => HS g oh h h.hd1 w wx)
  case first =>
    cases hA : h.hasA
    · rw [hA] at e11
      go_wp2_with fail
      go_meet
      have e : h.hd1 = h.hd0 := by unfold IH.hd1; rw [hA]; rfl
      rw [e]
      exact HHS.out
    · rw [hA] at e11
      have e12 := ih_cell HHS.out.1 12 (.int .i64 h.ats) rfl
      have e13 := ih_cell HHS.out.1 13 (.int .i64 h.atn) rfl
      have HT := Lib.hid (tOf vv h.ats h.atn (HIN.out.atn hA).1 (HIN.out.atn hA).2 (HIN.out.ats hA))
      go_wp2_with fail
      refine HT.out.mono ?_
      rintro e w2 ⟨rfl,hb2⟩
      obtain ⟨p1,p2,p3,p4⟩ := HHS.out
      have q1 := (hb2.block g (lt_of_heap p1)).trans p1
      have q2 := (hb2.block oh (lt_of_heap p2)).trans p2
      have q3 : Below g w w2 := p3.trans (hb2.mono (Nat.le_of_lt (lt_of_heap p1)))
      have c1 : w2.cell? ⟨oh,11,none⟩ = some (.int .u64 0) := by rw [Lib.cell_of_heap q2]; rfl
      have c2 : w2.cell? ⟨oh,12,none⟩ = some (.int .i64 0) := by rw [Lib.cell_of_heap q2]; rfl
      have z1 : w2.frozen? ⟨oh,11,none⟩ = false := Lib.frozen_of_heap q2 11
      have z2 : w2.frozen? ⟨oh,12,none⟩ = false := Lib.frozen_of_heap q2 12
      have r1 := heap_set_same (i := 11) (.int .u64 h.atn) q2
      have r2 := heap_set_same (i := 12) (.int .i64 (h.ats + 62135596800)) r1
      have t1 := (heap_set_other (w := w2.setCell ⟨oh,11,none⟩ (.int .u64 h.atn)) (a := ⟨oh,12,none⟩) (k := g) (.int .i64 (h.ats + 62135596800)) (by show g ≠ oh; omega)).trans ((heap_set_other (w := w2) (a := ⟨oh,11,none⟩) (k := g) (.int .u64 h.atn) (by show g ≠ oh; omega)).trans q1)
      have hfin : HS g oh h h.hd1 w ((w2.setCell ⟨oh,11,none⟩ (.int .u64 h.atn)).setCell ⟨oh,12,none⟩ (.int .i64 (h.ats + 62135596800))) := by
        have e : h.hd1.cells = (h.hd0.cells.set 11 (.int .u64 h.atn)).set 12 (.int .i64 (h.ats + 62135596800)) := by unfold IH.hd1; rw [hA]; rfl
        refine ⟨t1,?_,(q3.setCell (p := ⟨oh,11,none⟩) (Nat.le_of_lt p4) _).setCell (p := ⟨oh,12,none⟩) (Nat.le_of_lt p4) _,p4⟩
        rw [r2,e]; rfl
      have HFIN := Lib.hid hfin
      clear p1 p2 p3 q1 q2 q3 r1 r2 t1 hfin e12 e13
      go_wp2_with fail
      go_meet
      exact HFIN.out
  case rest =>
    have HHS := Lib.hid hcut
    clear e11 hcut
    obtain ⟨v1,rfl⟩ : ∃ v1 : World,v1 = wc := ⟨_,rfl⟩
    have e11 := ih_cell HHS.out.1 14 (.bool h.hasC) rfl
    go_upto_if 53 with fail
    go_cut [] (fun wx => HS g oh h h.hd2 w wx)
    case first =>
      cases hA : h.hasC
      · rw [hA] at e11
        go_wp2_with fail
        go_meet
        have e : h.hd2 = h.hd1 := by unfold IH.hd2; rw [hA]; rfl
        rw [e]
        exact HHS.out
      · rw [hA] at e11
        have e12 := ih_cell HHS.out.1 15 (.int .i64 h.cts) rfl
        have e13 := ih_cell HHS.out.1 16 (.int .i64 h.ctn) rfl
        have HT := Lib.hid (tOf v1 h.cts h.ctn (HIN.out.ctn hA).1 (HIN.out.ctn hA).2 (HIN.out.cts hA))
        go_wp2_with fail
        refine HT.out.mono ?_
        rintro e w2 ⟨rfl,hb2⟩
        obtain ⟨p1,p2,p3,p4⟩ := HHS.out
        have q1 := (hb2.block g (lt_of_heap p1)).trans p1
        have q2 := (hb2.block oh (lt_of_heap p2)).trans p2
        have q3 : Below g w w2 := p3.trans (hb2.mono (Nat.le_of_lt (lt_of_heap p1)))
        have c1 : w2.cell? ⟨oh,13,none⟩ = some (.int .u64 0) := by rw [Lib.cell_of_heap q2]; rfl
        have c2 : w2.cell? ⟨oh,14,none⟩ = some (.int .i64 0) := by rw [Lib.cell_of_heap q2]; rfl
        have z1 : w2.frozen? ⟨oh,13,none⟩ = false := Lib.frozen_of_heap q2 13
        have z2 : w2.frozen? ⟨oh,14,none⟩ = false := Lib.frozen_of_heap q2 14
        have r1 := heap_set_same (i := 13) (.int .u64 h.ctn) q2
        have r2 := heap_set_same (i := 14) (.int .i64 (h.cts + 62135596800)) r1
        have t1 := (heap_set_other (w := w2.setCell ⟨oh,13,none⟩ (.int .u64 h.ctn)) (a := ⟨oh,14,none⟩) (k := g) (.int .i64 (h.cts + 62135596800)) (by show g ≠ oh; omega)).trans ((heap_set_other (w := w2) (a := ⟨oh,13,none⟩) (k := g) (.int .u64 h.ctn) (by show g ≠ oh; omega)).trans q1)
        have hfin : HS g oh h h.hd2 w ((w2.setCell ⟨oh,13,none⟩ (.int .u64 h.ctn)).setCell ⟨oh,14,none⟩ (.int .i64 (h.cts + 62135596800))) := by
          have e : h.hd2.cells = (h.hd1.cells.set 13 (.int .u64 h.ctn)).set 14 (.int .i64 (h.cts + 62135596800)) := by unfold IH.hd2; rw [hA]; rfl
          refine ⟨t1,?_,(q3.setCell (p := ⟨oh,13,none⟩) (Nat.le_of_lt p4) _).setCell (p := ⟨oh,14,none⟩) (Nat.le_of_lt p4) _,p4⟩
          rw [r2,e]; rfl
        have HFIN := Lib.hid hfin
        clear p1 p2 p3 q1 q2 q3 r1 r2 t1 hfin e12 e13
        go_wp2_with fail
        go_meet
        exact HFIN.out
    case rest =>
      have HHS := Lib.hid hcut
      clear e11 hcut
      obtain ⟨v2,rfl⟩ : ∃ v2 : World,v2 = wc := ⟨_,rfl⟩
      obtain ⟨p,c,hv,hcl⟩ := HL.out
      have e19 := ih_cell HHS.out.1 19 h.recs rfl
      rw [hv] at e19
      have HCL := Lib.hid hcl
      have hvr := hv
      have HCL2 := HCL
      clear hcl hv
      by_cases hL0 : L.length = 0
      · rw [hL0] at e19
        go_wp2_with fail
        go_ret
        have hLn : L = [] := List.eq_nil_of_length_eq_zero hL0
        obtain ⟨p1,p2,p3,p4⟩ := HHS.out
        refine ⟨oh,.map none,rfl,p2,.inl ⟨rfl,fun k => by rw [hLn]; rfl⟩,by rw [HG.out]; exact p3,by rw [HG.out]; omega,rfl⟩
      · have hL1 : (0 : Int) < (L.length : Int) := by omega
        have hoc : v2.cell? ⟨oh,18,none⟩ = some (.map none) := by rw [Lib.cell_of_heap HHS.out.2.1]; rfl
        have hoz : v2.frozen? ⟨oh,18,none⟩ = false := Lib.frozen_of_heap HHS.out.2.1 18
        have hmm := @run_makeMap Tryz.prog
        have hog : oh < v2.heap.size := lt_of_heap HHS.out.2.1
        have hgg : g < v2.heap.size := lt_of_heap HHS.out.1
        go_upto_region 8 with fail
        have hIR0 : IRel g oh v2.heap.size h L 0 w ((v2.setCell ⟨oh,18,none⟩ (.map (some v2.heap.size))).alloc (.map #[] 0)) := by
          obtain ⟨p1,p2,p3,p4⟩ := HHS.out
          have hsz : (v2.setCell ⟨oh,18,none⟩ (.map (some v2.heap.size))).heap.size = v2.heap.size := by simp [World.setCell]
          have q2 := heap_set_same (i := 18) (.map (some v2.heap.size)) p2
          have q1 := (heap_set_other (w := v2) (a := ⟨oh,18,none⟩) (k := g) (.map (some v2.heap.size)) (by show g ≠ oh; omega)).trans p1
          have q3 := p3.setCell (p := ⟨oh,18,none⟩) (Nat.le_of_lt p4) (.map (some v2.heap.size))
          have hm := SMap.made (v2.setCell ⟨oh,18,none⟩ (.map (some v2.heap.size)))
          rw [hsz] at hm
          have hx : ∀ k o,(v2.setCell ⟨oh,18,none⟩ (.map (some v2.heap.size))).heap[k]? = some o → ((v2.setCell ⟨oh,18,none⟩ (.map (some v2.heap.size))).alloc (.map #[] 0)).heap[k]? = some o := fun k o hk => (Below.heap_alloc _ _ k (lt_of_heap hk)).trans hk
          refine ⟨Nat.zero_le _,hx _ _ q1,?_,hm,q3.alloc (by rw [hsz]; omega) _,p4⟩
          exact (hx _ _ q2).trans rfl
        have HIR0 := Lib.hid hIR0
        have e19b : ((v2.setCell ⟨oh,18,none⟩ (.map (some v2.heap.size))).alloc (.map #[] 0)).cell? ⟨g,19,none⟩ = some (.slice p L.length c) := by
          rw [Lib.cell_of_heap hIR0.2.1,← hvr]; rfl
        clear hIR0 hoc hoz hmm e19
        go_wp2_with fail
        obtain ⟨mb,hmb⟩ : ∃ mb,mb = v2.heap.size := ⟨_,rfl⟩
        have hMG : g ≤ mb := by rw [hmb]; omega
        rw [← hmb] at HIR0 ⊢
        clear hmb
        go_loopw [75] (fun s75 wr => ∃ i : Nat,s75 = .int .i64 i ∧ Hid (IRel g oh mb h L i w wr)) (fun s75 _ => L.length - (intOf s75).toNat)
        case atStart => exact ⟨0,rfl,HIR0⟩
        case round =>
          obtain ⟨i,rfl,hrel⟩ := hrel
          obtain ⟨hi,p1,p2,p3,p4,p5⟩ := hrel.out
          by_cases hlt : i < L.length
          · obtain ⟨rg,ro,rfl,hrg,k1,k2⟩ := HCL.out i hlt
            have ck : wr.cell? ⟨rg,ro + i * 2,none⟩ = some (str L[i].1) := (p4.cell (p := ⟨rg,ro + i * 2,none⟩) (by have := HG.out; show rg < g; omega)).trans k1
            have cv : wr.cell? ⟨rg,ro + i * 2 + 1,none⟩ = some (str L[i].2) := (p4.cell (p := ⟨rg,ro + i * 2 + 1,none⟩) (by have := HG.out; show rg < g; omega)).trans k2
            have c18 : wr.cell? ⟨oh,18,none⟩ = some (.map (some mb)) := by rw [Lib.cell_of_heap p2]; rfl
            have hol : oh < wr.heap.size := lt_of_heap p2
            clear hrel k1 k2 HIR0 e19b
            generalize hLk : L[i].1 = kk at *
            generalize hLv : L[i].2 = vv2 at *
            have HP := Lib.hid (And.intro p1 (And.intro p2 (And.intro p3 (And.intro p4 p5))))
            clear p1 p2 p3 p4 p5
            go_upto_region 11 with fail
            have hbx : Below wr.heap.size wr ((wr.alloc (.cells #[.string ⟨kk.toArray⟩,.string ⟨vv2.toArray⟩] 59)).drew) := ((Below.refl _ wr).alloc (Nat.le_refl _) _).drew
            obtain ⟨hk9,hv9⟩ := HL3.out _ (List.getElem_mem hlt)
            rw [hLk] at hk9; rw [hLv] at hv9
            obtain ⟨w9,hup,hm9,hf9⟩ := (HP.out.2.2.1.below hbx).update und127 (by omega) kk vv2 hk9 hv9
            have hIR : IRel g oh mb h L (i + 1) w w9 := by
              obtain ⟨p1,p2,p3,p4,p5⟩ := HP.out
              obtain ⟨es,cl,he⟩ := p3.isMap2
              have hg1 : g ≠ mb := by rintro rfl; rw [p1] at he; cases he
              have ho1 : oh ≠ mb := by rintro rfl; rw [p2] at he; cases he
              have q1 := (hbx.block g (lt_of_heap p1)).trans p1
              have q2 := (hbx.block oh (lt_of_heap p2)).trans p2
              have e : putAll (fun _ => none) (L.take (i + 1)) = putF (putAll (fun _ => none) (L.take i)) kk vv2 := by
                rw [List.take_succ_eq_append_getElem hlt,putAll_app]
                show putF _ L[i].1 L[i].2 = _
                rw [hLk,hLv]
              refine ⟨by omega,hf9.same q1 (by simpa using hg1) (.inl (lt_of_heap q1)),hf9.same q2 (by simpa using ho1) (.inl (lt_of_heap q2)),by rw [e]; exact hm9,(p4.trans (hbx.mono (Nat.le_of_lt (lt_of_heap p1)))).trans (Fr.below_of hf9 (Nat.le_of_lt (lt_of_heap q1)) ?_),p5⟩
              intro k hk
              rw [List.mem_singleton.1 hk]
              exact hMG
            have HIR := Lib.hid hIR
            clear hbx hm9 hf9 hIR hk9 hv9
            go_region
            go_wp2_with fail
            go_roundw
            case rel => exact ⟨i + 1,by go_num,HIR⟩
            case measure => simp [intOf]; omega
          · obtain rfl : i = L.length := by omega
            clear hrel HIR0 e19b
            have HP := Lib.hid (And.intro p1 (And.intro p2 (And.intro p3 (And.intro p4 p5))))
            clear p1 p2 p3 p4 p5
            go_wp2_with fail
            go_ret
            obtain ⟨p1,p2,p3,p4,p5⟩ := HP.out
            rw [List.take_length] at p3
            exact ⟨oh,rfl,.map (some mb),p2,.inr ⟨mb,L.length,rfl,p3.lt,p3,by omega⟩,by rw [HG.out]; exact p4,by rw [HG.out]; omega,rfl⟩
theorem ret23 {R : Ending → World → Prop} {fn : Func} {t : Tmp} {a : Act} (g : Nat) (x y : Value) (w : World) (hr : fn.results = #[.cell t 23]) (hp : a.tmps.getD t undef = .pointer (some ⟨g,0,none⟩)) (hd : a.defers = [])
    (hg : w.heap[g]? = some (.cells #[x,y] 23 (0,0))) (hR : R (.returned (.agg #[x,y])) w) : bodyPost Tryz.prog fn R .ret a w :=
  bodyPost_ret (results_cell_row hr _ _ g 23 #[x,y] (0,0) _ hp hg Tryz.underlying23 rfl (by kernel_rfl)) hd hR
theorem timeOf (w : World) (n x : Int) (h0 : 0 ≤ n) (h1 : n < 1000000000) (hx : -100000000000000000 ≤ x - 62135596800 ∧ x - 62135596800 ≤ 100000000000000000) :
    Calls Tryz.prog 73 #[tmV n x] w fun e w' => e = .returned (.agg #[.int .i64 (x - 62135596800),.int .i64 n]) ∧ Below w.heap.size w w' := by
  have hU := fun wx => tUnix wx n x h0 h1 hx
  have hN := fun wx => tNano wx n x h0 h1
  have HU := Lib.hid hU; have HN := Lib.hid hN
  clear hU hN
  go_enter Tryz.func73,Tryz.ntmps73
  go_upto_region 1 with fail
  have a1 : ((w.alloc (.cells #[.int .u64 n,.int .i64 x] 126)).alloc (.cells #[.int .i64 0,.int .i64 0] 23)).heap[w.heap.size]? = some (.cells #[.int .u64 n,.int .i64 x] 126 (0,0)) := heap_alloc2_old w _ _
  have a2 : ((w.alloc (.cells #[.int .u64 n,.int .i64 x] 126)).alloc (.cells #[.int .i64 0,.int .i64 0] 23)).heap[w.heap.size + 1]? = some (.cells #[.int .i64 0,.int .i64 0] 23 (0,0)) := heap_alloc2_new w _ _
  have hb : Below w.heap.size w ((w.alloc (.cells #[.int .u64 n,.int .i64 x] 126)).alloc (.cells #[.int .i64 0,.int .i64 0] 23)) := ((Below.refl _ _).alloc (Nat.le_refl _) _).alloc (by simp) _
  generalize (w.alloc (.cells #[.int .u64 n,.int .i64 x] 126)).alloc (.cells #[.int .i64 0,.int .i64 0] 23) = w1 at *
  have c0 : w1.cell? ⟨w.heap.size,0,none⟩ = some (.int .u64 n) := by rw [Lib.cell_of_heap a1]; rfl
  have c1 : w1.cell? ⟨w.heap.size,1,none⟩ = some (.int .i64 x) := by rw [Lib.cell_of_heap a1]; rfl
  have HA2 := Lib.hid a2; have HB := Lib.hid hb
  have l1 := lt_of_heap a1; have l2 := lt_of_heap a2
  clear a1 a2 hb
  go_region_held3 (fun w' => w'.cell? ⟨w.heap.size,0,none⟩ = some (.int .u64 n) ∧ w'.cell? ⟨w.heap.size,1,none⟩ = some (.int .i64 x)) (first | go_keep | (refine And.intro ?_ ?_ <;> assumption))
    (first | (go_at_call 103; refine (HU.out _).mono ?_; rintro e w2 ⟨rfl,hb2⟩; have HB2 := Lib.hid hb2; have d0 := (hb2.cell (p := ⟨w.heap.size,0,none⟩) l1).trans c0; have d1 := (hb2.cell (p := ⟨w.heap.size,1,none⟩) l1).trans c1; clear hb2) | (go_at_call 104; refine (HN.out _).mono ?_; rintro e w3 ⟨rfl,hb3⟩; have HB3 := Lib.hid hb3; have e0 := (hb3.cell (p := ⟨w.heap.size,0,none⟩) (Nat.lt_of_lt_of_le l1 HB2.out.size)).trans d0; have e1 := (hb3.cell (p := ⟨w.heap.size,1,none⟩) (Nat.lt_of_lt_of_le l1 HB2.out.size)).trans d1; have z0 : w3.frozen? ⟨w.heap.size + 1,0,none⟩ = false := Lib.frozen_of_heap ((hb3.block (w.heap.size + 1) (Nat.lt_of_lt_of_le l2 HB2.out.size)).trans ((HB2.out.block (w.heap.size + 1) l2).trans HA2.out)) 0; have z1 : w3.frozen? ⟨w.heap.size + 1,1,none⟩ = false := Lib.frozen_of_heap ((hb3.block (w.heap.size + 1) (Nat.lt_of_lt_of_le l2 HB2.out.size)).trans ((HB2.out.block (w.heap.size + 1) l2).trans HA2.out)) 1; have y0 : w3.cell? ⟨w.heap.size + 1,0,none⟩ = some (.int .i64 0) := (by rw [Lib.cell_of_heap ((hb3.block (w.heap.size + 1) (Nat.lt_of_lt_of_le l2 HB2.out.size)).trans ((HB2.out.block (w.heap.size + 1) l2).trans HA2.out))]; rfl); have y1 : w3.cell? ⟨w.heap.size + 1,1,none⟩ = some (.int .i64 0) := (by rw [Lib.cell_of_heap ((hb3.block (w.heap.size + 1) (Nat.lt_of_lt_of_le l2 HB2.out.size)).trans ((HB2.out.block (w.heap.size + 1) l2).trans HA2.out))]; rfl)))
  have hbw : Below w.heap.size w w3 := HB.out.drew.trans ((HB2.out.mono (Nat.le_of_lt l1)).trans (HB3.out.mono (Nat.le_of_lt (Nat.lt_of_lt_of_le l1 HB2.out.size))))
  have h3 := (HB3.out.block (w.heap.size + 1) (Nat.lt_of_lt_of_le l2 HB2.out.size)).trans ((HB2.out.block (w.heap.size + 1) l2).trans HA2.out)
  have h4 := heap_set_same (i := 0) (.int .i64 (x - 62135596800)) h3
  have h5 := heap_set_same (i := 1) (.int .i64 n) h4
  go_wp2_with fail
  refine ret23 (w.heap.size + 1) (.int .i64 (x - 62135596800)) (.int .i64 n) _ rfl rfl rfl h5 ⟨rfl,(hbw.setCell (p := ⟨w.heap.size + 1,0,none⟩) (Nat.le_succ _) _).setCell (p := ⟨w.heap.size + 1,1,none⟩) (Nat.le_succ _) _⟩
theorem formatOf2 (w : World) : Calls Tryz.prog 75 #[.int .i64 2] w (RetSame w (.int .i64 1)) := by
  go_enter Tryz.func75,Tryz.ntmps75
  go_wp2
  go_ret
  exact ⟨rfl,rfl⟩
theorem formatOf4 (w : World) : Calls Tryz.prog 75 #[.int .i64 4] w (RetSame w (.int .i64 2)) := by
  go_enter Tryz.func75,Tryz.ntmps75
  go_wp2
  go_ret
  exact ⟨rfl,rfl⟩
def fmtBack (f : Int) : Int := if f = 2 then 1 else 2
theorem formatOf (w : World) (f : Int) (h : f = 2 ∨ f = 4) : Calls Tryz.prog 75 #[.int .i64 f] w (RetSame w (.int .i64 (fmtBack f))) := by
  rcases h with rfl | rfl
  · exact formatOf2 w
  · exact formatOf4 w
end Go.Proofs.YtkanmkcojlefbaaGreatDoor
