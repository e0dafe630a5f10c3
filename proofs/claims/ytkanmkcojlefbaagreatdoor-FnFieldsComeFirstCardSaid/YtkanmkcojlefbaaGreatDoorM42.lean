/-
  Part of the proof; holds the texts RNx37, HOf4.
-/
import Derived.Test.YtkanmkcojlefbaaGreatDoorM41
import Derived.Test.YtkanmkcojlefbaaGreatDoorM36
set_option maxRecDepth 100000
set_option linter.unusedSimpArgs false
set_option linter.unusedVariables false
namespace Go.Proofs.YtkanmkcojlefbaaGreatDoor
open Go.RowKit
theorem next37 (w : World) (tr r g n c i : Nat) (pad : Int) (curr : Value) (blk : List Value) (B : Blk) (Hf : Nat → Hd) (R : KV) (nb : Int) (ht : TR tr r pad curr blk .nilIface w) (hC : Calls Tryz.prog 72 #[.pointer (some ⟨tr, 0, none⟩)] w fun e w' => ∃ mb, NextOut tr r g n c i B (Hf mb) R nb w e w') :
    Calls Tryz.prog 37 #[.pointer (some ⟨tr, 0, none⟩)] w fun e w' => ∃ mb, NextOut tr r g n c i B (Hf mb) R nb w e w' := by
  have HC := Lib.hid hC
  obtain ⟨c0, c1, c2, c515, z1, z2, z515⟩ := trCells ht.2 ht.1
  have ltr := lt_of_heap ht.1
  clear hC c0 c1 c2 z1 z2 z515 ht
  go_enter Tryz.func37, Tryz.ntmps37
  go_wp2_with fail
  refine HC.out.mono ?_
  rintro e w1 ⟨mb, hb, fr, rfl, k1, k2, k3, k4, k5, k6, k7, k8⟩
  obtain ⟨d0, d1, d2, d515, y1, y2, y515⟩ := trCells k4.2 k4.1
  have hs := heap_set_same (i := 515) (.nilIface : Value) k4.1
  have htb : tr ≠ hb := by omega
  have htf : tr ≠ fr := by omega
  have fset : Fr w1.heap.size [tr] w1 (w1.setCell ⟨tr, 515, none⟩ .nilIface) := (Fr.refl _ _ w1).setCell (p := ⟨tr, 515, none⟩) (.inl (by simp)) _
  have hrt : r ≠ tr := by
    obtain ⟨p, hr⟩ := k3
    rintro rfl
    rw [k4.1] at hr; cases hr
  have hfin : NextOut tr r g n c i B (Hf mb) R nb w (.returned (.tuple #[.pointer (some ⟨hb, 0, none⟩), .nilIface])) (w1.setCell ⟨tr, 515, none⟩ .nilIface) := by
    refine ⟨hb, fr, rfl, fset.cells k1 (by simp; omega) (.inr (by decide)), k2.fr fset (fun q hq es cl e => by obtain rfl := List.mem_singleton.1 hq; rw [k4.1] at e; cases e), k3.fr fset (by simpa using hrt), ⟨?_, k4.2⟩, fset.cells k5 (by simp; omega) (.inr (by decide)), k6.thn fset k6.size (by simp), k7, k8⟩
    rw [hs]
    congr 2
    apply Array.ext_getElem?
    intro q
    rw [Array.getElem?_setIfInBounds]
    split
    · rename_i e
      subst e
      have := rcells_err (.iface 84 (.pointer (some ⟨r, 0, none⟩))) (.int .i64 (padOf nb)) (.iface 146 (.pointer (some ⟨fr, 0, none⟩))) (.nilIface) (Lib.byteCells B.bytes) k4.2
      split
      · exact this.symm
      · rename_i hlt
        exfalso
        have h2 := Array.getElem?_eq_none (xs := rcells (.iface 84 (.pointer (some ⟨r, 0, none⟩))) (.int .i64 (padOf nb)) (.iface 146 (.pointer (some ⟨fr, 0, none⟩))) (Lib.byteCells B.bytes) .nilIface) (i := 515) (by omega)
        rw [h2] at this; cases this
    · rfl
  have HFIN := Lib.hid hfin
  clear hs fset hrt hfin k1 k2 k3 k4 k5 k6 k7 k8 d0 d1 d2 y1 y2 htb htf
  go_wp2_with fail
  go_ret2
  exact ⟨mb, HFIN.out⟩
noncomputable def restO6 : Code := tailFrom 6 (Tryz.f38.body.getD .skip)
set_option maxHeartbeats 8000000 in
theorem ho6 (w0 : World) (hb g2 g3 : Nat) (H : Hd) (R : KV) (hlt : hb < w0.heap.size) (hrm : RecMap w0 H.recs R w0.heap.size) (hin : H.InO) (w : World) (hH : w.heap[hb]? = some (.cells H.cells.toArray 130 (0,0))) (hB : Below w0.heap.size w0 w) (h2 : w0.heap.size ≤ g2) (h3 : w0.heap.size ≤ g3) (h23 : g2 ≠ g3) (hG3 : w.heap[g3]? = some (.cells (ih1 H).cells.toArray 26 (0,0))) (z : Array Value) (hz : z.size = 21) (hG2 : w.heap[g2]? = some (.cells z 26 (0,0)))
    (Rr : Ending → World → Prop) (hR : ∀ e w',HdOut H R w0 e w' → Rr e w') {c1 c4 c5 c6 c7 c8 c9 c10 c11 c12 c13 c14 c15 c16 c17 c18 c19 c20 c21 c22 c23 c24 c25 c26 c27 c28 c29 c30 c31 c32 c33 c34 c35 c36 c37 c38 c39 c40 c41 c42 c43 c44 c45 c46 c47 c48 c49 c50 c51 c52 c53 c54 c55 c56 c57 c58 c59 c60 c61 c62 c63 c64 c65 c66 c67 c68 c69 c70 c71 c72 c73 c74 c75 c76 c77 c78 c79 c80 c81 c82 c83 c84 c85 c86 c87 c88 c89 c90 c91 c92 c93 c94 c95 c96 c97 c98 c99 c100 c101 c102 c103 c104 c105 c106 c107 c108 c109 c110 c111 c112 c113 c114 c115 c116 c117 c118 c119 c120 c121 c122 c123 c124 c125 c126 c127 c128 c129 c130 c131 c132 c133 c134 c135 c136 c137 c138 c139 c140 c141 c142 c143 c144 : Value} :
    Code.wp Tryz.prog restO6 (bodyPost Tryz.prog Tryz.f38 Rr) ⟨(.pointer (some ⟨hb,0,none⟩)::c1::.pointer (some ⟨g2,0,none⟩)::.pointer (some ⟨g3,0,none⟩)::c4::c5::c6::c7::c8::c9::c10::c11::c12::c13::c14::c15::c16::c17::c18::c19::c20::c21::c22::c23::c24::c25::c26::c27::c28::c29::c30::c31::c32::c33::c34::c35::c36::c37::c38::c39::c40::c41::c42::c43::c44::c45::c46::c47::c48::c49::c50::c51::c52::c53::c54::c55::c56::c57::c58::c59::c60::c61::c62::c63::c64::c65::c66::c67::c68::c69::c70::c71::c72::c73::c74::c75::c76::c77::c78::c79::c80::c81::c82::c83::c84::c85::c86::c87::c88::c89::c90::c91::c92::c93::c94::c95::c96::c97::c98::c99::c100::c101::c102::c103::c104::c105::c106::c107::c108::c109::c110::c111::c112::c113::c114::c115::c116::c117::c118::c119::c120::c121::c122::c123::c124::c125::c126::c127::c128::c129::c130::c131::c132::c133::c134::c135::c136::c137::c138::c139::c140::c141::c142::c143::c144::[]).toArray,[]⟩ w := by
  conv => arg 2; whnf
  have HR := Lib.hid hR; have HRM := Lib.hid hrm; have HIN := Lib.hid hin; have HH := Lib.hid hH; have HB := Lib.hid hB; have HG3 := Lib.hid hG3; have HG2 := Lib.hid hG2
  have d0 : w.cell? ⟨hb,13,none⟩ = some (.int .u64 H.cw) := by rw [Lib.cell_of_heap hH]; rfl
  have d1 : w.cell? ⟨hb,13 + 1,none⟩ = some (.int .i64 H.cx) := by rw [Lib.cell_of_heap hH]; rfl
  have e0 : w.cell? ⟨g3,14,none⟩ = some (.bool (!tZero H.cw H.cx)) := by rw [Lib.cell_of_heap hG3]; rfl
  have HT := Lib.hid (fun wx => timeOf wx H.cw H.cx hin.cw.1 hin.cw.2 hin.cx)
  have l3 := lt_of_heap hG3; have l2 := lt_of_heap hG2; have lb := lt_of_heap hH
  clear hR hrm hin hH hB hG3 hG2
  go_upto_region 6 with fail
  rename_i K1 hK1 K2 hK2
  have HK := Lib.hid hK1
  clear hK1
  cases ha : tZero H.cw H.cx <;> rw [ha] at e0
  · have HA := Lib.hid ha
    clear ha
    rw [Bool.not_false] at e0
    go_wp2_with fail
    refine (HT.out _).mono ?_
    rintro e w1 ⟨rfl,hb1⟩
    have hG31 := (hb1.block g3 l3).trans HG3.out
    have f0 : w1.cell? ⟨g3,15,none⟩ = some (.int .i64 0) := by rw [Lib.cell_of_heap hG31]; rfl
    have f1 : w1.cell? ⟨g3,16,none⟩ = some (.int .i64 0) := by rw [Lib.cell_of_heap hG31]; rfl
    have z0 : w1.frozen? ⟨g3,15,none⟩ = false := Lib.frozen_of_heap hG31 15
    have z1 : w1.frozen? ⟨g3,16,none⟩ = false := Lib.frozen_of_heap hG31 16
    have s1 := heap_set_same (i := 15) (.int .i64 (H.cx - 62135596800)) hG31
    have s2 := heap_set_same (i := 16) (.int .i64 H.cw) s1
    have e3 : ((((ih1 H).cells.toArray.setIfInBounds 15 (.int .i64 (H.cx - 62135596800))).setIfInBounds 16 (.int .i64 H.cw)) : Array Value) = (ihOf H).cells.toArray := by
      have := HA.out
      simp [ihOf,ih1,ih1,ih0,IH.cells,this]
    rw [e3] at s2
    have hne : hb ≠ g3 := by omega
    have hHn := (heap_set_other (a := ⟨g3,16,none⟩) (w := w1.setCell ⟨g3,15,none⟩ (.int .i64 (H.cx - 62135596800))) (.int .i64 H.cw) hne).trans ((heap_set_other (a := ⟨g3,15,none⟩) (.int .i64 (H.cx - 62135596800)) hne).trans ((hb1.block hb lb).trans HH.out))
    have hG2n := (heap_set_other (a := ⟨g3,16,none⟩) (w := w1.setCell ⟨g3,15,none⟩ (.int .i64 (H.cx - 62135596800))) (.int .i64 H.cw) h23).trans ((heap_set_other (a := ⟨g3,15,none⟩) (.int .i64 (H.cx - 62135596800)) h23).trans ((hb1.block g2 l2).trans HG2.out))
    have hBn := ((HB.out.trans (hb1.mono HB.out.size)).setCell (p := ⟨g3,15,none⟩) h3 (.int .i64 (H.cx - 62135596800))).setCell (p := ⟨g3,16,none⟩) h3 (.int .i64 H.cw)
    have HS := Lib.hid s2; have HHN := Lib.hid hHn; have HG2N := Lib.hid hG2n; have HBN := Lib.hid hBn
    clear s1 s2 hHn hG2n hBn hb1 hG31 e3 d0 d1 e0
    go_wp2_with fail
    refine HK.out _ _ ?_
    exact ho8 w0 hb g2 g3 H R hlt HRM.out HIN.out _ HHN.out HBN.out h2 h3 h23 HS.out z hz HG2N.out Rr HR.out
  · have HA := Lib.hid ha
    clear ha
    rw [Bool.not_true] at e0
    go_wp2_with fail
    refine HK.out _ _ ?_
    have e3 : ihOf H = ih1 H := by
      have := HA.out
      simp [ihOf,ih1,ih1,ih0,this]
    have HS := HG3.out
    rw [← e3] at HS
    exact ho8 w0 hb g2 g3 H R hlt HRM.out HIN.out _ HH.out HB.out h2 h3 h23 HS z hz HG2.out Rr HR.out
set_option maxHeartbeats 8000000 in
theorem ho4 (w0 : World) (hb g2 g3 : Nat) (H : Hd) (R : KV) (hlt : hb < w0.heap.size) (hrm : RecMap w0 H.recs R w0.heap.size) (hin : H.InO) (w : World) (hH : w.heap[hb]? = some (.cells H.cells.toArray 130 (0,0))) (hB : Below w0.heap.size w0 w) (h2 : w0.heap.size ≤ g2) (h3 : w0.heap.size ≤ g3) (h23 : g2 ≠ g3) (hG3 : w.heap[g3]? = some (.cells (ih0 H).cells.toArray 26 (0,0))) (z : Array Value) (hz : z.size = 21) (hG2 : w.heap[g2]? = some (.cells z 26 (0,0)))
    (Rr : Ending → World → Prop) (hR : ∀ e w',HdOut H R w0 e w' → Rr e w') {c1 c4 c5 c6 c7 c8 c9 c10 c11 c12 c13 c14 c15 c16 c17 c18 c19 c20 c21 c22 c23 c24 c25 c26 c27 c28 c29 c30 c31 c32 c33 c34 c35 c36 c37 c38 c39 c40 c41 c42 c43 c44 c45 c46 c47 c48 c49 c50 c51 c52 c53 c54 c55 c56 c57 c58 c59 c60 c61 c62 c63 c64 c65 c66 c67 c68 c69 c70 c71 c72 c73 c74 c75 c76 c77 c78 c79 c80 c81 c82 c83 c84 c85 c86 c87 c88 c89 c90 c91 c92 c93 c94 c95 c96 c97 c98 c99 c100 c101 c102 c103 c104 c105 c106 c107 c108 c109 c110 c111 c112 c113 c114 c115 c116 c117 c118 c119 c120 c121 c122 c123 c124 c125 c126 c127 c128 c129 c130 c131 c132 c133 c134 c135 c136 c137 c138 c139 c140 c141 c142 c143 c144 : Value} :
    Code.wp Tryz.prog restO4 (bodyPost Tryz.prog Tryz.f38 Rr) ⟨(.pointer (some ⟨hb,0,none⟩)::c1::.pointer (some ⟨g2,0,none⟩)::.pointer (some ⟨g3,0,none⟩)::c4::c5::c6::c7::c8::c9::c10::c11::c12::c13::c14::c15::c16::c17::c18::c19::c20::c21::c22::c23::c24::c25::c26::c27::c28::c29::c30::c31::c32::c33::c34::c35::c36::c37::c38::c39::c40::c41::c42::c43::c44::c45::c46::c47::c48::c49::c50::c51::c52::c53::c54::c55::c56::c57::c58::c59::c60::c61::c62::c63::c64::c65::c66::c67::c68::c69::c70::c71::c72::c73::c74::c75::c76::c77::c78::c79::c80::c81::c82::c83::c84::c85::c86::c87::c88::c89::c90::c91::c92::c93::c94::c95::c96::c97::c98::c99::c100::c101::c102::c103::c104::c105::c106::c107::c108::c109::c110::c111::c112::c113::c114::c115::c116::c117::c118::c119::c120::c121::c122::c123::c124::c125::c126::c127::c128::c129::c130::c131::c132::c133::c134::c135::c136::c137::c138::c139::c140::c141::c142::c143::c144::[]).toArray,[]⟩ w := by
  conv => arg 2; whnf
  have HR := Lib.hid hR; have HRM := Lib.hid hrm; have HIN := Lib.hid hin; have HH := Lib.hid hH; have HB := Lib.hid hB; have HG3 := Lib.hid hG3; have HG2 := Lib.hid hG2
  have d0 : w.cell? ⟨hb,11,none⟩ = some (.int .u64 H.aw) := by rw [Lib.cell_of_heap hH]; rfl
  have d1 : w.cell? ⟨hb,11 + 1,none⟩ = some (.int .i64 H.ax) := by rw [Lib.cell_of_heap hH]; rfl
  have e0 : w.cell? ⟨g3,11,none⟩ = some (.bool (!tZero H.aw H.ax)) := by rw [Lib.cell_of_heap hG3]; rfl
  have HT := Lib.hid (fun wx => timeOf wx H.aw H.ax hin.aw.1 hin.aw.2 hin.ax)
  have l3 := lt_of_heap hG3; have l2 := lt_of_heap hG2; have lb := lt_of_heap hH
  clear hR hrm hin hH hB hG3 hG2
  go_upto_region 4 with fail
  rename_i K1 hK1 K2 hK2
  have HK := Lib.hid hK1
  clear hK1
  cases ha : tZero H.aw H.ax <;> rw [ha] at e0
  · have HA := Lib.hid ha
    clear ha
    rw [Bool.not_false] at e0
    go_wp2_with fail
    refine (HT.out _).mono ?_
    rintro e w1 ⟨rfl,hb1⟩
    have hG31 := (hb1.block g3 l3).trans HG3.out
    have f0 : w1.cell? ⟨g3,12,none⟩ = some (.int .i64 0) := by rw [Lib.cell_of_heap hG31]; rfl
    have f1 : w1.cell? ⟨g3,13,none⟩ = some (.int .i64 0) := by rw [Lib.cell_of_heap hG31]; rfl
    have z0 : w1.frozen? ⟨g3,12,none⟩ = false := Lib.frozen_of_heap hG31 12
    have z1 : w1.frozen? ⟨g3,13,none⟩ = false := Lib.frozen_of_heap hG31 13
    have s1 := heap_set_same (i := 12) (.int .i64 (H.ax - 62135596800)) hG31
    have s2 := heap_set_same (i := 13) (.int .i64 H.aw) s1
    have e3 : ((((ih0 H).cells.toArray.setIfInBounds 12 (.int .i64 (H.ax - 62135596800))).setIfInBounds 13 (.int .i64 H.aw)) : Array Value) = (ih1 H).cells.toArray := by
      have := HA.out
      simp [ih1,ih0,ih1,ih0,IH.cells,this]
    rw [e3] at s2
    have hne : hb ≠ g3 := by omega
    have hHn := (heap_set_other (a := ⟨g3,13,none⟩) (w := w1.setCell ⟨g3,12,none⟩ (.int .i64 (H.ax - 62135596800))) (.int .i64 H.aw) hne).trans ((heap_set_other (a := ⟨g3,12,none⟩) (.int .i64 (H.ax - 62135596800)) hne).trans ((hb1.block hb lb).trans HH.out))
    have hG2n := (heap_set_other (a := ⟨g3,13,none⟩) (w := w1.setCell ⟨g3,12,none⟩ (.int .i64 (H.ax - 62135596800))) (.int .i64 H.aw) h23).trans ((heap_set_other (a := ⟨g3,12,none⟩) (.int .i64 (H.ax - 62135596800)) h23).trans ((hb1.block g2 l2).trans HG2.out))
    have hBn := ((HB.out.trans (hb1.mono HB.out.size)).setCell (p := ⟨g3,12,none⟩) h3 (.int .i64 (H.ax - 62135596800))).setCell (p := ⟨g3,13,none⟩) h3 (.int .i64 H.aw)
    have HS := Lib.hid s2; have HHN := Lib.hid hHn; have HG2N := Lib.hid hG2n; have HBN := Lib.hid hBn
    clear s1 s2 hHn hG2n hBn hb1 hG31 e3 d0 d1 e0
    go_wp2_with fail
    refine HK.out _ _ ?_
    exact ho6 w0 hb g2 g3 H R hlt HRM.out HIN.out _ HHN.out HBN.out h2 h3 h23 HS.out z hz HG2N.out Rr HR.out
  · have HA := Lib.hid ha
    clear ha
    rw [Bool.not_true] at e0
    go_wp2_with fail
    refine HK.out _ _ ?_
    have e3 : ih1 H = ih0 H := by
      have := HA.out
      simp [ih1,ih0,ih1,ih0,this]
    have HS := HG3.out
    rw [← e3] at HS
    exact ho6 w0 hb g2 g3 H R hlt HRM.out HIN.out _ HH.out HB.out h2 h3 h23 HS z hz HG2.out Rr HR.out
end Go.Proofs.YtkanmkcojlefbaaGreatDoor
