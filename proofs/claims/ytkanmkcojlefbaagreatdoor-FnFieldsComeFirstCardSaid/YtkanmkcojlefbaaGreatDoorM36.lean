/-
  Part of the proof; holds the texts HIn3, HOf8.
-/
import Derived.Test.YtkanmkcojlefbaaGreatDoorM35
set_option maxRecDepth 100000
set_option linter.unusedSimpArgs false
set_option linter.unusedVariables false
namespace Go.Proofs.YtkanmkcojlefbaaGreatDoor
open Go.RowKit
variable {c1 c7 c8 c9 c10 c11 c12 c13 c14 c15 c16 c17 c18 c19 c20 c21 c22 c23 c24 c25 c26 c27 c28 c29 c30 c31 c32 c33 c34 c35 c36 c37 c38 c39 c40 c41 c42 c43 c44 c45 c46 c47 c48 c49 c50 c51 c52 c53 c54 c55 c56 c57 c58 c59 c60 c61 c62 c63 c64 c65 c66 c67 c68 c69 c70 c71 c72 c73 c74 c75 c76 c77 c78 c79 c80 c81 c82 c83 c84 c85 c86 c87 c88 c89 c90 c91 c92 c93 c94 c95 c96 c98 c99 c100 c101 c102 c103 c104 c105 c106 c107 c108 c109 c110 c111 c112 c113 c114 c115 c116 c117 c118 c119 c120 c121 c122 c123 c124 c125 c126 c127 c128 c129 c130 c131 c132 c133 c134 c135 c136 c137 c138 c139 c140 c141 c142 c143 c144 : Value}
theorem slice24 (w : World) (g n cap l : Nat) (h : l ≤ n) (hc : n ≤ cap) : (Instr.sliceAt 24 (.slice (some ⟨g,0,none⟩) n cap) (some (.int .i64 l)) none none).run Tryz.prog w = .ok (.slice (some ⟨g,if cap = l then 0 else l * 2,none⟩) (n - l) (cap - l)) w := by
  have hsz : ∀ w,(sizeOf (Tryz.prog.elem 24)).run Tryz.prog w = .ok 2 w := by intro w; kernel_rfl
  have hu : Tryz.prog.underlying 24 = some (.slice (Tryz.prog.elem 24)) := by kernel_rfl
  have h2 : ((l : Nat) : Int).toNat = l := Int.toNat_natCast l
  rw [run_sliceAt_slice (h := hu),run_slice_any (ht := hu)]
  have hb : (Instr.sliceBounds true n cap (some (.int .i64 l)) none none).run Tryz.prog w = .ok (l,n,cap) w := by
    have e1 : (0 : Int) ≤ (l : Int) := by omega
    have e2 : (l : Int) ≤ (n : Int) := by omega
    simp [Instr.sliceBounds,run_sliceBound,e1,e2,h2,h]
  rw [hb]
  simp only [Result.andThen,hsz,sliced]
  by_cases hcl : cap = l
  · rw [if_pos hcl,if_pos hcl]
  · rw [if_neg hcl,if_neg hcl]
    simp [Lib.addr_add]
theorem slice24b (w : World) (g n cap l : Nat) (h : l ≤ n) (hc : n ≤ cap) : (Instr.slice 24 (.slice (some ⟨g,0,none⟩) n cap) (some (.int .i64 l)) none none).run Tryz.prog w = .ok (.slice (some ⟨g,if cap = l then 0 else l * 2,none⟩) (n - l) (cap - l)) w :=
  (run_sliceAt_slice (h := by kernel_rfl) ..).symm.trans (slice24 w g n cap l h hc)
section
variable {ops : Array Oper} {o : Oper} {a : Act} {w : World} {K : Act → World → Prop} {Q : Exit → Act → World → Prop}
theorem step_copy_run {E : Prop} (hg : o.guard = none) (s x : Operand) (hop : o.op = Op.call { callee := Callee.builtin Builtin.copy,args := #[s,x],argTypes := #[24,24] }) (u v : Value) (hs : a.eval s = u) (hx : a.eval x = v) (v' : Value) (w' : World) (hr : (Builtin.copy_ #[24,24] o.type #[u,v]).run Tryz.prog w = .ok v' w') (hK : K (a.put o.dst v') w') :
    if Region.wanted o (yielded ops a.tmps) = true then Oper.wp Tryz.prog o a w K Q else E := by
  have hw : Region.wanted o (yielded ops a.tmps) = true := by simp [Region.wanted,hg]
  rw [if_pos hw]
  unfold Oper.wp
  simp [execOp,hop,resolve,invoke,builtin,hs,hx,hr,Result.andThen]
  exact hK
end
set_option maxHeartbeats 8000000 in
theorem insPut (w w0 : World) (hb g2 g3 r0 : Nat) (k v : List UInt8) (i n : Nat) (X : IH) (L : List (List UInt8 × List UInt8)) (hLn : L.length = n) (hi : i ≤ n) (hn : n ≤ 4294967296) (rv : Value) (hB : Below w0.heap.size w0 w) (hG3 : w.heap[g3]? = some (.cells ({ X with recs := rv } : IH).cells.toArray 26 (0,0))) (hown : w.ownsRow w0.heap.size 59 2 rv (n + 1) (cells2 L ++ [str [],str []]))
    (Q : Exit → Act → World → Prop)
    (hQ : ∀ (d98 d99 d100 d101 d102 d103 d104 d105 d106 d107 d108 d109 d110 d111 d112 d113 d114 d115 d116 d117 d118 d119 d120 d121 d122 d123 d124 d125 d126 d127 d128 d129 d130 d131 d132 d133 d134 d135 d136 d137 d138 d139 d140 d141 d142 d143 : Value) (w' : World),Kp w0 g3 w w' → w'.heap[g3]? = some (.cells ({ X with recs := rv } : IH).cells.toArray 26 (0,0)) → w'.ownsRow w0.heap.size 59 2 rv (n + 1) (cells2 (L.take i ++ (k,v)::L.drop i)) → Q .normal ⟨(.pointer (some ⟨hb,0,none⟩)::c1::.pointer (some ⟨g2,0,none⟩)::.pointer (some ⟨g3,0,none⟩)::str k::str v::.int .i64 i::c7::c8::c9::c10::c11::c12::c13::c14::c15::c16::c17::c18::c19::c20::c21::c22::c23::c24::c25::c26::c27::c28::c29::c30::c31::c32::c33::c34::c35::c36::c37::c38::c39::c40::c41::c42::c43::c44::c45::c46::c47::c48::c49::c50::c51::c52::c53::c54::c55::c56::c57::c58::c59::c60::c61::c62::c63::c64::c65::c66::c67::c68::c69::c70::c71::c72::c73::c74::c75::c76::c77::c78::c79::c80::c81::c82::c83::c84::c85::c86::c87::c88::c89::c90::c91::c92::c93::c94::c95::c96::.pointer (some ⟨r0,0,none⟩)::d98::d99::d100::d101::d102::d103::d104::d105::d106::d107::d108::d109::d110::d111::d112::d113::d114::d115::d116::d117::d118::d119::d120::d121::d122::d123::d124::d125::d126::d127::d128::d129::d130::d131::d132::d133::d134::d135::d136::d137::d138::d139::d140::d141::d142::d143::c144::[]).toArray,[]⟩ w') :
    Code.wp Tryz.prog code15 Q ⟨(.pointer (some ⟨hb,0,none⟩)::c1::.pointer (some ⟨g2,0,none⟩)::.pointer (some ⟨g3,0,none⟩)::str k::str v::.int .i64 i::c7::c8::c9::c10::c11::c12::c13::c14::c15::c16::c17::c18::c19::c20::c21::c22::c23::c24::c25::c26::c27::c28::c29::c30::c31::c32::c33::c34::c35::c36::c37::c38::c39::c40::c41::c42::c43::c44::c45::c46::c47::c48::c49::c50::c51::c52::c53::c54::c55::c56::c57::c58::c59::c60::c61::c62::c63::c64::c65::c66::c67::c68::c69::c70::c71::c72::c73::c74::c75::c76::c77::c78::c79::c80::c81::c82::c83::c84::c85::c86::c87::c88::c89::c90::c91::c92::c93::c94::c95::c96::.pointer (some ⟨r0,0,none⟩)::c98::c99::c100::c101::c102::c103::c104::c105::c106::c107::c108::c109::c110::c111::c112::c113::c114::c115::c116::c117::c118::c119::c120::c121::c122::c123::c124::c125::c126::c127::c128::c129::c130::c131::c132::c133::c134::c135::c136::c137::c138::c139::c140::c141::c142::c143::c144::[]).toArray,[]⟩ w := by
  conv => arg 2; whnf
  obtain ⟨hxl,hown⟩ := hown
  rcases hown with ⟨-,h0⟩ | ⟨gg,cap,cur,rfl,hgb,hgg,hnc,hcm,hcs,htk⟩
  · omega
  have HQ := Lib.hid hQ
  clear hQ
  have hcur : cur.toList = cells2 L ++ [str [],str []] ++ cur.toList.drop ((n + 1) * 2) := by rw [← htk,List.take_append_drop]
  generalize htail : cur.toList.drop ((n + 1) * 2) = tail at hcur
  have hl2 : (cells2 L).length = n * 2 := by rw [cells2_length,hLn]
  have hdl : (cells2 (L.drop i)).length = (n - i) * 2 := by rw [cells2_length,List.length_drop,hLn]
  have hne3 : gg ≠ g3 := by
    rintro rfl
    rw [hgg] at hG3; injection hG3 with h; injection h with _ t _; exact absurd t (by decide)
  obtain ⟨l1,hl1⟩ : ∃ l1,l1 = i + 1 := ⟨_,rfl⟩
  have hsl1 := fun wx => slice24b wx gg (n + 1) cap l1 (by omega) hnc
  have hsl2 := fun wx => slice24b wx gg (n + 1) cap i (by omega) hnc
  have hci : ¬ cap = i := by omega
  simp only [if_neg hci] at hsl2
  have hsrc : ∀ j u,(cells2 (L.drop i))[j]? = some u → w.drew.cell? ((⟨gg,i * 2,none⟩ : Addr).add j) = some u := by
    intro j u hj
    rw [Lib.addr_add]
    have hjl := (List.getElem?_eq_some_iff.1 hj).1
    rw [Lib.cell_of_heap (w := w.drew) hgg]
    show cur[i * 2 + j]? = some u
    rw [← Array.getElem?_toList,hcur,List.append_assoc,List.getElem?_append_left (by omega),← List.getElem?_drop,cells2_drop]
    exact hj
  have hcpy := run_copy2 w.drew gg (if cap = i + 1 then 0 else (i + 1) * 2) (n + 1 - (i + 1)) (cap - (i + 1)) ⟨gg,i * 2,none⟩ (n + 1 - i) (cap - i) cur 59 (cells2 (L.drop i)) hgg (by
      rw [hdl,show Nat.min (n + 1 - i) (n + 1 - (i + 1)) = n - i from by (show min _ _ = _; omega)]) hsrc (by rw [hdl,hcs]; split <;> omega) (cells2_one _)
  have hnew : cur.toList.take (if cap = i + 1 then 0 else (i + 1) * 2) ++ cells2 (L.drop i) ++ cur.toList.drop ((if cap = i + 1 then 0 else (i + 1) * 2) + (cells2 (L.drop i)).length) = cur.toList.take ((i + 1) * 2) ++ cells2 (L.drop i) ++ cur.toList.drop ((i + 1) * 2 + (cells2 (L.drop i)).length) := by
    by_cases hc : cap = i + 1
    · have hin : i = n := by omega
      have hnil : cells2 (L.drop i) = [] := List.eq_nil_of_length_eq_zero (by rw [hdl]; omega)
      rw [if_pos hc,hnil]
      simp
    · rw [if_neg hc]
  rw [hnew] at hcpy
  generalize hnv : cur.toList.take ((i + 1) * 2) ++ cells2 (L.drop i) ++ cur.toList.drop ((i + 1) * 2 + (cells2 (L.drop i)).length) = nv at hcpy
  have hins := ins_cells L i (by omega) (k,v) tail
  rw [← hcur,hnv] at hins
  have hnl : nv.length = cap * 2 := by
    have h1 : cur.toList.length = cap * 2 := by rw [Array.length_toList,hcs]
    rw [← hnv,List.length_append,List.length_append,List.length_take,List.length_drop,h1,hdl]; omega
  have hset := setRow_heap w.drew gg cur nv.toArray 59 (0,0) hgg
  have hoth : ∀ q,q ≠ gg → (w.drew.setRow gg nv.toArray).heap[q]? = w.heap[q]? := fun q hq => setRow_other w.drew gg q _ hq
  have hG32 := (hoth g3 (Ne.symm hne3)).trans hG3
  have c19 : w.drew.cell? ⟨g3,19,none⟩ = some (.slice (some ⟨gg,0,none⟩) (n + 1) cap) := by rw [Lib.cell_of_heap (w := w.drew) hG3]; rfl
  have d19 : (w.drew.setRow gg nv.toArray).cell? ⟨g3,19,none⟩ = some (.slice (some ⟨gg,0,none⟩) (n + 1) cap) := by rw [Lib.cell_of_heap hG32]; rfl
  have hbw : Below w0.heap.size w0 (w.drew.setRow gg nv.toArray) := ⟨hB.os,hB.tape,hB.output,by simpa using hB.size,fun q hq => (hoth q (by omega)).trans (hB.block q hq)⟩
  rw [← hl1] at hcpy
  have hwr : IntKind.i64.wrap ((i : Int) + 1) = (l1 : Int) := by rw [IntWalk.i64_in _ (by omega)]; omega
  have hszw : (w.drew.setRow gg nv.toArray).heap.size = w.heap.size := by simp
  have HGG := Lib.hid hgg
  have HL1 := Lib.hid hl1
  clear hl1
  have HCPY := Lib.hid hcpy; have HOTH := Lib.hid hoth; have HSET := Lib.hid hset; have HBW := Lib.hid hbw; have HINS := Lib.hid hins; have HG32 := Lib.hid hG32; have HSZ := Lib.hid hszw
  have HN := Lib.hid (And.intro hnl (And.intro hcs (And.intro hxl hLn)))
  clear hcpy hoth hset hbw hins hG32 hG3 hB hgg hcur htail hsrc hnew hnv hdl hl2 htk hszw hnl hcs hxl hLn
  generalize w.drew.setRow gg nv.toArray = w2 at *
  refine wp_seq_k (fun K1 hK1 => ?_)
  have HK1 := Lib.hid hK1
  clear hK1
  go_region_held3 (fun w' => w'.cell? ⟨g3,19,none⟩ = some (.slice (some ⟨gg,0,none⟩) (n + 1) cap)) (first | go_keep | assumption) (first | (refine step_copy_run rfl _ _ rfl _ _ rfl rfl _ _ HCPY.out ?_))
  refine HK1.out _ _ ?_
  obtain ⟨hnl,hcs,hxl,hLn⟩ := HN.out
  obtain ⟨x0,hx0⟩ : ∃ x,nv[i * 2]? = some x := ⟨_,List.getElem?_eq_getElem (by omega)⟩
  obtain ⟨x1,hx1⟩ : ∃ x,nv[i * 2 + 1]? = some x := ⟨_,List.getElem?_eq_getElem (by omega)⟩
  have y0 : w2.cell? ⟨gg,i * 2,none⟩ = some x0 := by rw [Lib.cell_of_heap HSET.out,List.getElem?_toArray]; exact hx0
  have y1 : w2.cell? ⟨gg,i * 2 + 1,none⟩ = some x1 := by rw [Lib.cell_of_heap HSET.out,List.getElem?_toArray]; exact hx1
  have z0 : w2.frozen? ⟨gg,i * 2,none⟩ = false := Lib.frozen_of_heap HSET.out _
  have z1 : w2.frozen? ⟨gg,i * 2 + 1,none⟩ = false := Lib.frozen_of_heap HSET.out _
  have hi0 : (0 : Int) ≤ (i : Int) := by omega
  have hi1 : (i : Int) < (n : Int) + 1 := by omega
  clear hx0 hx1 hsl1 hsl2 hwr hnl hcs hxl hLn
  go_wp2_with fail
  all_goals
    have s1 := heap_set_same (i := i * 2) (str k) HSET.out
    have s2 := heap_set_same (i := i * 2 + 1) (str v) s1
    rw [List.setIfInBounds_toArray,List.setIfInBounds_toArray,HINS.out] at s2
    have ho2 : ∀ q,q ≠ gg → ((w2.setCell ⟨gg,i * 2,none⟩ (str k)).setCell ⟨gg,i * 2 + 1,none⟩ (str v)).heap[q]? = w.heap[q]? := fun q hq =>
      (heap_set_other (a := ⟨gg,i * 2 + 1,none⟩) (str v) hq).trans ((heap_set_other (a := ⟨gg,i * 2,none⟩) (str k) hq).trans (HOTH.out q hq))
    have hL2 : (L.take i ++ (k,v)::L.drop i).length = n + 1 := by
      rw [List.length_append,List.length_take,List.length_cons,List.length_drop,HN.out.2.2.2]; omega
    have hl9 : (cells2 (L.take i ++ (k,v)::L.drop i)).length = (n + 1) * 2 := by rw [cells2_length,hL2]
    refine HQ.out _ _ _ _ _ _ _ _ _ _ _ _ _ _ _ _ _ _ _ _ _ _ _ _ _ _ _ _ _ _ _ _ _ _ _ _ _ _ _ _ _ _ _ _ _ _ _ ⟨(HBW.out.setCell (p := ⟨gg,i * 2,none⟩) hgb (str k)).setCell (p := ⟨gg,i * 2 + 1,none⟩) hgb (str v),fun q o hq hne ho => ?_,?_⟩ ((ho2 g3 (Ne.symm hne3)).trans ((HOTH.out g3 (Ne.symm hne3)).symm.trans HG32.out)) ⟨hl9,.inr ⟨gg,cap,_,rfl,hgb,s2,hnc,hcm,?_,?_⟩⟩
    · have hqg : q ≠ gg := by
        rintro rfl
        rw [HGG.out] at hq
        injection hq with hq
        exact ho _ _ hq.symm
      exact (ho2 q hqg).trans hq
    · have := HSZ.out
      simp only [World.setCell,Array.size_modify]
      omega
    · have := congrArg List.length HINS.out
      rw [List.length_set,List.length_set] at this
      rw [List.size_toArray,← this]; exact HN.out.1
    · show (cells2 (L.take i ++ (k,v)::L.drop i) ++ tail).take ((n + 1) * 2) = _
      rw [← hl9,List.take_left]
end Go.Proofs.YtkanmkcojlefbaaGreatDoor
namespace Go.Proofs.YtkanmkcojlefbaaGreatDoor
open Go.RowKit
variable {c1 c4 c5 c6 c7 c8 c9 c10 c11 c12 c13 c14 c15 c16 c17 c18 c19 c20 c21 c22 c23 c24 c25 c26 c27 c28 c29 c30 c31 c32 c33 c34 c35 c36 c37 c38 c39 c40 c41 c42 c43 c44 c45 c46 c47 c48 c49 c50 c51 c52 c53 c54 c55 c56 c57 c58 c59 c60 c61 c62 c63 c64 c65 c66 c67 c68 c69 c70 c71 c72 c73 c74 c75 c76 c77 c78 c79 c80 c81 c82 c83 c84 c85 c86 c87 c88 c89 c90 c91 c92 c93 c94 c95 c96 c97 c98 c99 c100 c101 c102 c103 c104 c105 c106 c107 c108 c109 c110 c111 c112 c113 c114 c115 c116 c117 c118 c119 c120 c121 c122 c123 c124 c125 c126 c127 c128 c129 c130 c131 c132 c133 c134 c135 c136 c137 c138 c139 c140 c141 c142 c143 c144 : Value}
def HOS (H : Hd) (m : KV) (hb g2 g3 rb nR r0 : Nat) (z : Array Value) (w0 w : World) : Prop :=
  ∃ todo cnt L rv,SRange w rb r0 nR m todo cnt ∧ w.heap[hb]? = some (.cells H.cells.toArray 130 (0,0)) ∧ w.heap[g3]? = some (.cells ({ ihOf H with recs := rv } : IH).cells.toArray 26 (0,0)) ∧ w.heap[g2]? = some (.cells z 26 (0,0)) ∧ Below w0.heap.size w0 w ∧ w.ownsRow w0.heap.size 59 2 rv L.length (cells2 L) ∧ (L.map (·.1)).Nodup ∧ (∀ p : List UInt8 × List UInt8,p ∈ L ↔ m p.1 = some p.2 ∧ todo p.1 = false) ∧ L.length + cnt ≤ nR
theorem own_keep {w w' : World} {B n : Nat} {v : Value} {xs : List Value} (h : w.ownsRow B 59 2 v n xs) (hk : ∀ (q : Nat) (c : Array Value),w.heap[q]? = some (Obj.cells c 59 (0,0)) → w'.heap[q]? = some (Obj.cells c 59 (0,0))) : w'.ownsRow B 59 2 v n xs := by
  refine ⟨h.1,?_⟩
  rcases h.2 with h | ⟨g,cap,cur,h1,h2,h3,h4⟩
  · exact .inl h
  · exact .inr ⟨g,cap,cur,h1,h2,hk g cur h3,h4⟩
theorem own_recs {w w0 : World} {rv : Value} {L : List (List UInt8 × List UInt8)} (h : w.ownsRow w0.heap.size 59 2 rv L.length (cells2 L)) : RecS w rv L := by
  rcases h.2 with ⟨rfl,h0⟩ | ⟨g,cap,cur,rfl,h1,h2,h3,h4,h5,h6⟩
  · refine ⟨none,0,by rw [h0],fun j hj => by omega⟩
  · refine ⟨some ⟨g,0,none⟩,cap,rfl,fun j hj => ⟨g,0,rfl,lt_of_heap h2,?_,?_⟩⟩
    · obtain ⟨e,-⟩ := cells2_get L j hj
      rw [Lib.cell_of_heap h2,Nat.zero_add,← Array.getElem?_toList]
      rw [← h6,List.getElem?_take,if_pos (by omega)] at e
      exact e
    · obtain ⟨-,e⟩ := cells2_get L j hj
      rw [Lib.cell_of_heap h2,Nat.zero_add,← Array.getElem?_toList]
      rw [← h6,List.getElem?_take,if_pos (by omega)] at e
      exact e
theorem own_find {w w0 : World} {rv : Value} {L : List (List UInt8 × List UInt8)} (h : w.ownsRow w0.heap.size 59 2 rv L.length (cells2 L)) : ∃ p c,rv = .slice p L.length c ∧ ∀ (j : Nat) (hj : j < L.length),∃ g,p = some ⟨g,0,none⟩ ∧ w.cell? ⟨g,j * 2,none⟩ = some (str L[j].1) := by
  rcases h.2 with ⟨rfl,h0⟩ | ⟨g,cap,cur,rfl,h1,h2,h3,h4,h5,h6⟩
  · exact ⟨none,0,by rw [h0],fun j hj => by omega⟩
  · refine ⟨some ⟨g,0,none⟩,cap,rfl,fun j hj => ⟨g,rfl,?_⟩⟩
    obtain ⟨e,-⟩ := cells2_get L j hj
    rw [Lib.cell_of_heap h2,← Array.getElem?_toList]
    rw [← h6,List.getElem?_take,if_pos (by omega)] at e
    exact e
theorem Kp.thn {w0 a b c : World} {g3 : Nat} (h : Kp w0 g3 a b) (k : Kp w0 g3 b c) : Kp w0 g3 a c := ⟨k.B,fun q o hq hne ho => k.K q o (h.K q o hq hne ho) hne ho,Nat.le_trans h.size k.size⟩
theorem Kp.range {w0 a b : World} {g3 rb r0 nR cnt : Nat} {m : KV} {todo : List UInt8 → Bool} (h : Kp w0 g3 a b) (hr : SRange a rb r0 nR m todo cnt) (h1 : rb ≠ g3) (h2 : r0 ≠ g3) : SRange b rb r0 nR m todo cnt := by
  have hh := hr
  obtain ⟨D,left,⟨es,clock,since,seen,c0,x1,x2,x3,x4,x5,x6⟩,_,_⟩ := hh
  exact hr.block ((h.K rb _ x1 h1 (fun c fz e => by cases e)).trans x1.symm) ((h.K r0 _ x5 h2 (fun c fz e => by cases e)).trans x5.symm)
theorem ins_perm (L : List (List UInt8 × List UInt8)) (i : Nat) (p : List UInt8 × List UInt8) : (L.take i ++ p::L.drop i).Perm (p::L) := by
  have := List.perm_middle (a := p) (l₁ := L.take i) (l₂ := L.drop i)
  rwa [List.take_append_drop] at this
set_option maxHeartbeats 8000000 in
theorem ho8m (w0 : World) (hb g2 g3 : Nat) (H : Hd) (R : KV) (hlt : hb < w0.heap.size) (rb nR : Nat) (hrv : H.recs = .map (some rb)) (hrb : rb < w0.heap.size) (hm : SMap w0 rb nR R) (hnR : nR ≤ 4294967296) (hin : H.InO) (w : World) (hH : w.heap[hb]? = some (.cells H.cells.toArray 130 (0,0))) (hB : Below w0.heap.size w0 w) (h2 : w0.heap.size ≤ g2) (h3 : w0.heap.size ≤ g3) (h23 : g2 ≠ g3) (hG3 : w.heap[g3]? = some (.cells (ihOf H).cells.toArray 26 (0,0))) (z : Array Value) (hz : z.size = 21) (hG2 : w.heap[g2]? = some (.cells z 26 (0,0)))
    (Rr : Ending → World → Prop) (hR : ∀ e w',HdOut H R w0 e w' → Rr e w') :
    Code.wp Tryz.prog restO8 (bodyPost Tryz.prog Tryz.f38 Rr) ⟨(.pointer (some ⟨hb,0,none⟩)::c1::.pointer (some ⟨g2,0,none⟩)::.pointer (some ⟨g3,0,none⟩)::c4::c5::c6::c7::c8::c9::c10::c11::c12::c13::c14::c15::c16::c17::c18::c19::c20::c21::c22::c23::c24::c25::c26::c27::c28::c29::c30::c31::c32::c33::c34::c35::c36::c37::c38::c39::c40::c41::c42::c43::c44::c45::c46::c47::c48::c49::c50::c51::c52::c53::c54::c55::c56::c57::c58::c59::c60::c61::c62::c63::c64::c65::c66::c67::c68::c69::c70::c71::c72::c73::c74::c75::c76::c77::c78::c79::c80::c81::c82::c83::c84::c85::c86::c87::c88::c89::c90::c91::c92::c93::c94::c95::c96::c97::c98::c99::c100::c101::c102::c103::c104::c105::c106::c107::c108::c109::c110::c111::c112::c113::c114::c115::c116::c117::c118::c119::c120::c121::c122::c123::c124::c125::c126::c127::c128::c129::c130::c131::c132::c133::c134::c135::c136::c137::c138::c139::c140::c141::c142::c143::c144::[]).toArray,[]⟩ w := by
  conv => arg 2; whnf
  have hmw : SMap w rb nR R := hm.block (hB.block rb hrb)
  have c18 : w.cell? ⟨hb,18,none⟩ = some (.map (some rb)) := by rw [Lib.cell_of_heap hH,← hrv]; rfl
  have hl2 := lt_of_heap hG2; have hl3 := lt_of_heap hG3; have hlb := lt_of_heap hH; have hsz := hB.size
  have HR := Lib.hid hR; have HH := Lib.hid hH; have HB := Lib.hid hB; have HG3 := Lib.hid hG3; have HG2 := Lib.hid hG2; have HM := Lib.hid hmw
  clear hR hH hB hG3 hG2 hm hrv hmw hin
  go_upto_region 8 with fail
  rename_i K1 hK1 K2 hK2
  have HK := Lib.hid hK1
  clear hK1
  go_wp2_with (at_range; refine wpList_range_s _ rfl _ rfl rb nR R rfl HM.out ?_; intro w1 cnt0 hrg0 hcn hg0 hs0)
  go_frame
  have HR1 : Hid (HOS H R hb g2 g3 rb nR w.heap.size z w0 w1) := by
    refine Lib.hid ⟨_,cnt0,[],.slice none 0 0,hrg0,(hg0.block hb hlb (by simp)).trans HH.out,(hg0.block g3 hl3 (by simp)).trans HG3.out,(hg0.block g2 hl2 (by simp)).trans HG2.out,?_,World.ownsRow_nil _ _ _ _,List.nodup_nil,fun p => ?_,by simpa using hcn⟩
    · exact ⟨hg0.os.trans HB.out.os,hg0.tape.trans HB.out.tape,hg0.output.trans HB.out.output,Nat.le_trans HB.out.size hg0.size,fun q hq => (hg0.block q (by omega) (by simp)).trans (HB.out.block q hq)⟩
    · constructor
      · intro h; cases h
      · rintro ⟨h1,h2⟩; rw [h1] at h2; cases h2
  obtain ⟨r0,hr00⟩ : ∃ r0,r0 = w.heap.size := ⟨_,rfl⟩
  have hr2 : r0 ≠ g2 := by omega
  have hr3 : r0 ≠ g3 := by omega
  have hrg : w0.heap.size ≤ r0 := by omega
  have hrb2 : r0 ≠ hb := by omega
  clear hrg0 hcn hg0 hs0 HM HH HB HG3 HG2 c18 hl2 hl3 hlb
  rw [← hr00] at HR1 ⊢
  clear hr00 hsz
  go_loopw [] (fun wr => Hid (HOS H R hb g2 g3 rb nR r0 z w0 wr)) (fun wr => wr.rangeLeft rb r0)
  case atStart => exact HR1
  case round =>
    obtain ⟨todo,cnt,L,rv,hrgs,q1,q2,q3,q4,q5,q6,q7,q8⟩ := hrel.out
    have HRG := Lib.hid hrgs; have Q1 := Lib.hid q1; have Q2 := Lib.hid q2; have Q3 := Lib.hid q3; have Q4 := Lib.hid q4; have Q5 := Lib.hid q5; have Q6 := Lib.hid q6; have Q7 := Lib.hid q7
    clear hrel HR1 q1 q2 q3 q4 q5 q6 q7
    go_wp2_with (at_next; refine wpList_next_s _ rfl _ rfl rb r0 nR R todo cnt rfl hrgs ?_ ?_)
    · intro hc0 htd
      have HTD := Lib.hid htd
      clear hrgs htd hc0
      go_wp2_with fail
      refine HK.out _ _ ?_
      have hone : ({ ihOf H with recs := rv } : IH).recs.oneCell' = true := by
        rcases Q5.out.2 with ⟨rfl,-⟩ | ⟨g,cap,cur,rfl,-⟩ <;> rfl
      refine ho17 g2 g3 { ihOf H with recs := rv } hone _ w0 Q4.out h2 h23 Q2.out z hz Q3.out Rr (fun w' hb' hk hs => HR.out _ _ ?_)
      refine ⟨rv,L,rfl,own_recs (w0 := w0) (own_keep Q5.out (fun q c hq => (hk q (by rintro rfl; rw [Q3.out] at hq; injection hq with hq; injection hq with _ t _; exact absurd t (by decide))).trans hq)),(by
        intro p n c e
        rcases Q5.out.2 with ⟨e2,-⟩ | ⟨gq,cap,cur,e2,hq,-⟩
        · rw [e2] at e; cases e
        · rw [e2] at e; cases e; exact hq),⟨Q6.out,fun p hp => ((Q7.out p).1 hp).1,fun k v hkv => (Q7.out (k,v)).2 ⟨hkv,HTD.out k⟩⟩,hb'⟩
    · intro k v w1 cnt1 hkl hvl htk hRk hrg1 hlt1 hf1 hs1 hen
      have p1 := hf1.cells Q1.out (by simp; omega) (.inr (by decide))
      have p2 := hf1.cells Q2.out (by simp; omega) (.inr (by decide))
      have p3 := hf1.cells Q3.out (by simp; omega) (.inr (by decide))
      have hit : ∀ c,wr.heap[r0]? ≠ some (.cells c 59 (0,0)) := by
        obtain ⟨D,left,⟨es,clock,since,seen,c0,x1,x2,x3,x4,x5,x6⟩,_,_⟩ := HRG.out
        intro c e; rw [x5] at e; cases e
      have p5 := own_keep Q5.out (w' := w1) (fun q c hq => hf1.cells hq (by simp; rintro rfl; exact hit c hq) (.inr (by decide)))
      have p4 : Below w0.heap.size w0 w1 := ⟨hf1.os.trans Q4.out.os,hf1.tape.trans Q4.out.tape,hf1.output.trans Q4.out.output,Nat.le_trans Q4.out.size hf1.size,fun q hq => by
        have hqs : q < wr.heap.size := Nat.lt_of_lt_of_le hq Q4.out.size
        obtain ⟨o,ho⟩ : ∃ o,wr.heap[q]? = some o := ⟨_,Array.getElem?_eq_getElem hqs⟩
        exact (hf1.same ho (by simp; omega) (.inl hqs)).trans (ho.symm.trans (Q4.out.block q hq))⟩
      have P1 := Lib.hid p1; have P2 := Lib.hid p2; have P3 := Lib.hid p3; have P4 := Lib.hid p4; have P5 := Lib.hid p5; have HRG1 := Lib.hid hrg1; have HLT := Lib.hid hlt1; have HRK := Lib.hid hRk; have HTK := Lib.hid htk; have HKL := Lib.hid hkl; have HVL := Lib.hid hvl
      clear hrgs hrg1 p1 p2 p3 p4 p5 hf1 hs1 hlt1 hRk htk hit Q1 Q2 Q3 Q4 Q5 hkl hvl
      go_upto_region 10 with fail
      rename_i K3 hK3
      have HK3 := Lib.hid hK3
      clear hK3
      obtain ⟨p,c,hv,hfd⟩ := own_find P5.out
      have h19 : w1.cell? ⟨g3,19,none⟩ = some (.slice p L.length c) := by rw [Lib.cell_of_heap P2.out,← hv]; rfl
      have H19 := Lib.hid h19; have HFD := Lib.hid hfd
      clear hv h19 hfd
      go_wp2_with fail
      refine HK3.out _ _ ?_
      refine insFind w1 hb g2 g3 r0 k v L p c H19.out HFD.out (by omega) _ ?_
      intros
      rename_i i hi
      refine insGrow w1 w0 hb g2 g3 r0 k v i L.length { ihOf H with recs := rv } (cells2 L) P4.out h3 P2.out P5.out (by omega) _ ?_
      intros
      rename_i rv2 w2 hkp hg32 hown2
      refine insPut w2 w0 hb g2 g3 r0 k v i L.length { ihOf H with recs := rv } L rfl hi (by omega) rv2 hkp.B hg32 hown2 _ ?_
      intros
      rename_i w3 hkp2 hg33 hown3
      have hkk := hkp.thn hkp2
      have hbg : hb ≠ g3 := by rintro rfl; omega
      have hrbg : rb ≠ g3 := by rintro rfl; omega
      have hperm := ins_perm L i (k,v)
      have hrel : HOS H R hb g2 g3 rb nR r0 z w0 w3 := by
        refine ⟨_,cnt1,L.take i ++ (k,v)::L.drop i,rv2,hkk.range HRG1.out hrbg hr3,hkk.K hb _ P1.out hbg (fun c fz e => by cases e),hg33,hkk.K g2 _ P3.out h23 (fun c fz e => by cases e),hkk.B,?_,?_,fun q => ?_,?_⟩
        · rw [hperm.length_eq]; exact hown3
        · refine (hperm.map (·.1)).nodup_iff.2 (List.nodup_cons.2 ⟨fun hm => ?_,Q6.out⟩)
          obtain ⟨q,hq,e⟩ := List.mem_map.1 hm
          have := ((Q7.out q).1 hq).2
          rw [e,HTK.out] at this; cases this
        · rw [hperm.mem_iff,List.mem_cons]
          constructor
          · rintro (rfl | hq)
            · exact ⟨HRK.out,by simp⟩
            · obtain ⟨e1,e2⟩ := (Q7.out q).1 hq
              exact ⟨e1,by rw [e2]; rfl⟩
          · rintro ⟨e1,e2⟩
            by_cases hqk : q.1 = k
            · left
              rw [hqk,HRK.out] at e1
              exact Prod.ext hqk (Option.some.inj e1).symm
            · right
              refine (Q7.out q).2 ⟨e1,?_⟩
              simpa [hqk] using e2
        · rw [hperm.length_eq,List.length_cons]; have := HLT.out; omega
      have HREL := Lib.hid hrel
      have hcnt := (hkk.range HRG1.out hrbg hr3).left_eq
      have HCNT := Lib.hid hcnt
      clear hrel hcnt hkk hkp hkp2 hg32 hg33 hown2 hown3 hperm
      go_roundw
      case rel =>
        iterate 50 (first | apply Exists.intro | skip)
        first | exact ⟨HREL,rfl⟩
      case measure => rw [HCNT.out,HRG.out.left_eq]; exact HLT.out
theorem ho8 (w0 : World) (hb g2 g3 : Nat) (H : Hd) (R : KV) (hlt : hb < w0.heap.size) (hrm : RecMap w0 H.recs R w0.heap.size) (hin : H.InO) (w : World) (hH : w.heap[hb]? = some (.cells H.cells.toArray 130 (0,0))) (hB : Below w0.heap.size w0 w) (h2 : w0.heap.size ≤ g2) (h3 : w0.heap.size ≤ g3) (h23 : g2 ≠ g3) (hG3 : w.heap[g3]? = some (.cells (ihOf H).cells.toArray 26 (0,0))) (z : Array Value) (hz : z.size = 21) (hG2 : w.heap[g2]? = some (.cells z 26 (0,0)))
    (Rr : Ending → World → Prop) (hR : ∀ e w',HdOut H R w0 e w' → Rr e w') :
    Code.wp Tryz.prog restO8 (bodyPost Tryz.prog Tryz.f38 Rr) ⟨(.pointer (some ⟨hb,0,none⟩)::c1::.pointer (some ⟨g2,0,none⟩)::.pointer (some ⟨g3,0,none⟩)::c4::c5::c6::c7::c8::c9::c10::c11::c12::c13::c14::c15::c16::c17::c18::c19::c20::c21::c22::c23::c24::c25::c26::c27::c28::c29::c30::c31::c32::c33::c34::c35::c36::c37::c38::c39::c40::c41::c42::c43::c44::c45::c46::c47::c48::c49::c50::c51::c52::c53::c54::c55::c56::c57::c58::c59::c60::c61::c62::c63::c64::c65::c66::c67::c68::c69::c70::c71::c72::c73::c74::c75::c76::c77::c78::c79::c80::c81::c82::c83::c84::c85::c86::c87::c88::c89::c90::c91::c92::c93::c94::c95::c96::c97::c98::c99::c100::c101::c102::c103::c104::c105::c106::c107::c108::c109::c110::c111::c112::c113::c114::c115::c116::c117::c118::c119::c120::c121::c122::c123::c124::c125::c126::c127::c128::c129::c130::c131::c132::c133::c134::c135::c136::c137::c138::c139::c140::c141::c142::c143::c144::[]).toArray,[]⟩ w := by
  rcases hrm with ⟨h1,h2'⟩ | ⟨rb,nR,h1,h2',h3',h4'⟩
  · exact ho8n w0 hb g2 g3 H R hlt h1 h2' hin w hH hB h2 h3 h23 hG3 z hz hG2 Rr hR
  · exact ho8m w0 hb g2 g3 H R hlt rb nR h1 h2' h3' h4' hin w hH hB h2 h3 h23 hG3 z hz hG2 Rr hR
end Go.Proofs.YtkanmkcojlefbaaGreatDoor
