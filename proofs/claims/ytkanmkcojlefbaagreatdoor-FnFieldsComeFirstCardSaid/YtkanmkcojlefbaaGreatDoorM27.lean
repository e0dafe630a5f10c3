/-
  Part of the proof; holds the texts HOf17, Ref3, Ref4.
-/
import Derived.Test.YtkanmkcojlefbaaGreatDoorM26
import Derived.Test.YtkanmkcojlefbaaGreatDoorM03
set_option maxRecDepth 100000
set_option linter.unusedSimpArgs false
set_option linter.unusedVariables false
namespace Go.Proofs.YtkanmkcojlefbaaGreatDoor
open Go.RowKit
noncomputable def restO17 : Code := tailFrom 17 (Tryz.f38.body.getD .skip)
theorem und26 : ∃ d,Tryz.prog.underlying 26 = some d ∧ aggD d = true := ⟨_,Tryz.underlying26,rfl⟩
theorem ret26 {R : Ending → World → Prop} {fn : Func} {t : Tmp} {a : Act} (g : Nat) (cs : Array Value) (hcs : cs.size = 21) (w : World) (hr : fn.results = #[.cell t 26]) (hp : a.tmps.getD t undef = .pointer (some ⟨g,0,none⟩)) (hd : a.defers = [])
    (hg : w.heap[g]? = some (.cells cs 26 (0,0))) (hR : R (.returned (.agg cs)) w) : bodyPost Tryz.prog fn R .ret a w :=
  bodyPost_ret (results_cell_row hr _ _ g 26 cs (0,0) _ hp hg Tryz.underlying26 rfl (by rw [hcs]; kernel_rfl)) hd hR
set_option maxHeartbeats 8000000 in
theorem ho17 (g2 g3 : Nat) (X : IH) (hX : X.recs.oneCell' = true) (w w0 : World) (hB : Below w0.heap.size w0 w) (h2 : w0.heap.size ≤ g2) (h23 : g2 ≠ g3) (hG3 : w.heap[g3]? = some (.cells X.cells.toArray 26 (0,0))) (z : Array Value) (hz : z.size = 21) (hG2 : w.heap[g2]? = some (.cells z 26 (0,0)))
    (Rr : Ending → World → Prop) (hR : ∀ w',Below w0.heap.size w0 w' → (∀ k,k ≠ g2 → w'.heap[k]? = w.heap[k]?) → w.heap.size ≤ w'.heap.size → Rr (.returned (.agg X.cells.toArray)) w') {c0 c1 c4 c5 c6 c7 c8 c9 c10 c11 c12 c13 c14 c15 c16 c17 c18 c19 c20 c21 c22 c23 c24 c25 c26 c27 c28 c29 c30 c31 c32 c33 c34 c35 c36 c37 c38 c39 c40 c41 c42 c43 c44 c45 c46 c47 c48 c49 c50 c51 c52 c53 c54 c55 c56 c57 c58 c59 c60 c61 c62 c63 c64 c65 c66 c67 c68 c69 c70 c71 c72 c73 c74 c75 c76 c77 c78 c79 c80 c81 c82 c83 c84 c85 c86 c87 c88 c89 c90 c91 c92 c93 c94 c95 c96 c97 c98 c99 c100 c101 c102 c103 c104 c105 c106 c107 c108 c109 c110 c111 c112 c113 c114 c115 c116 c117 c118 c119 c120 c121 c122 c123 c124 c125 c126 c127 c128 c129 c130 c131 c132 c133 c134 c135 c136 c137 c138 c139 c140 c141 c142 c143 c144 : Value} :
    Code.wp Tryz.prog restO17 (bodyPost Tryz.prog Tryz.f38 Rr) ⟨(c0::c1::.pointer (some ⟨g2,0,none⟩)::.pointer (some ⟨g3,0,none⟩)::c4::c5::c6::c7::c8::c9::c10::c11::c12::c13::c14::c15::c16::c17::c18::c19::c20::c21::c22::c23::c24::c25::c26::c27::c28::c29::c30::c31::c32::c33::c34::c35::c36::c37::c38::c39::c40::c41::c42::c43::c44::c45::c46::c47::c48::c49::c50::c51::c52::c53::c54::c55::c56::c57::c58::c59::c60::c61::c62::c63::c64::c65::c66::c67::c68::c69::c70::c71::c72::c73::c74::c75::c76::c77::c78::c79::c80::c81::c82::c83::c84::c85::c86::c87::c88::c89::c90::c91::c92::c93::c94::c95::c96::c97::c98::c99::c100::c101::c102::c103::c104::c105::c106::c107::c108::c109::c110::c111::c112::c113::c114::c115::c116::c117::c118::c119::c120::c121::c122::c123::c124::c125::c126::c127::c128::c129::c130::c131::c132::c133::c134::c135::c136::c137::c138::c139::c140::c141::c142::c143::c144::[]).toArray,[]⟩ w := by
  conv => arg 2; whnf
  obtain ⟨d,u1,u2⟩ := und26
  have hld := run_load_at w g3 0 26 X.cells.toArray (At.of_heap hG3 (fun j v hj => by rw [Nat.zero_add]; simpa using hj)) d u1 u2 (by rw [info26]; rfl)
  obtain ⟨w2,hst,hg,ho,hbl⟩ := store26 X hX hz hG2
  have hb2 := hbl _ _ hB h2
  have hsz : w.heap.size ≤ w2.heap.size := by
    rcases Nat.lt_or_ge w2.heap.size w.heap.size with h | h
    · exfalso
      have l2 := lt_of_heap hG2; have l3 := lt_of_heap hg
      have := ho w2.heap.size (by omega)
      rw [Array.getElem?_eq_none (Nat.le_refl _),Array.getElem?_eq_getElem h] at this
      cases this
    · exact h
  have HLD := Lib.hid hld; have HST := Lib.hid hst; have HG := Lib.hid hg; have HR := Lib.hid (hR w2 hb2 ho hsz)
  clear hld hst hg ho hbl hR hG3 hG2 hb2 hB u1 u2 hsz hz hX
  go_wp2_with (first | (refine wpList_load_run rfl 26 _ rfl ⟨g3,0,none⟩ rfl _ HLD.out ?_) | (refine wpList_store_run rfl 26 _ _ rfl ⟨g2,0,none⟩ rfl _ rfl w2 HST.out ?_) | fail)
  refine ret26 g2 X.cells.toArray rfl w2 rfl rfl rfl HG.out HR.out
set_option maxHeartbeats 8000000 in
theorem ho8n (w0 : World) (hb g2 g3 : Nat) (H : Hd) (R : KV) (hlt : hb < w0.heap.size) (hrm : H.recs = .map none) (hn : ∀ k,R k = none) (hin : H.InO) (w : World) (hH : w.heap[hb]? = some (.cells H.cells.toArray 130 (0,0))) (hB : Below w0.heap.size w0 w) (h2 : w0.heap.size ≤ g2) (h3 : w0.heap.size ≤ g3) (h23 : g2 ≠ g3) (hG3 : w.heap[g3]? = some (.cells (ihOf H).cells.toArray 26 (0,0))) (z : Array Value) (hz : z.size = 21) (hG2 : w.heap[g2]? = some (.cells z 26 (0,0)))
    (Rr : Ending → World → Prop) (hR : ∀ e w',HdOut H R w0 e w' → Rr e w') {c1 c4 c5 c6 c7 c8 c9 c10 c11 c12 c13 c14 c15 c16 c17 c18 c19 c20 c21 c22 c23 c24 c25 c26 c27 c28 c29 c30 c31 c32 c33 c34 c35 c36 c37 c38 c39 c40 c41 c42 c43 c44 c45 c46 c47 c48 c49 c50 c51 c52 c53 c54 c55 c56 c57 c58 c59 c60 c61 c62 c63 c64 c65 c66 c67 c68 c69 c70 c71 c72 c73 c74 c75 c76 c77 c78 c79 c80 c81 c82 c83 c84 c85 c86 c87 c88 c89 c90 c91 c92 c93 c94 c95 c96 c97 c98 c99 c100 c101 c102 c103 c104 c105 c106 c107 c108 c109 c110 c111 c112 c113 c114 c115 c116 c117 c118 c119 c120 c121 c122 c123 c124 c125 c126 c127 c128 c129 c130 c131 c132 c133 c134 c135 c136 c137 c138 c139 c140 c141 c142 c143 c144 : Value} :
    Code.wp Tryz.prog restO8 (bodyPost Tryz.prog Tryz.f38 Rr) ⟨(.pointer (some ⟨hb,0,none⟩)::c1::.pointer (some ⟨g2,0,none⟩)::.pointer (some ⟨g3,0,none⟩)::c4::c5::c6::c7::c8::c9::c10::c11::c12::c13::c14::c15::c16::c17::c18::c19::c20::c21::c22::c23::c24::c25::c26::c27::c28::c29::c30::c31::c32::c33::c34::c35::c36::c37::c38::c39::c40::c41::c42::c43::c44::c45::c46::c47::c48::c49::c50::c51::c52::c53::c54::c55::c56::c57::c58::c59::c60::c61::c62::c63::c64::c65::c66::c67::c68::c69::c70::c71::c72::c73::c74::c75::c76::c77::c78::c79::c80::c81::c82::c83::c84::c85::c86::c87::c88::c89::c90::c91::c92::c93::c94::c95::c96::c97::c98::c99::c100::c101::c102::c103::c104::c105::c106::c107::c108::c109::c110::c111::c112::c113::c114::c115::c116::c117::c118::c119::c120::c121::c122::c123::c124::c125::c126::c127::c128::c129::c130::c131::c132::c133::c134::c135::c136::c137::c138::c139::c140::c141::c142::c143::c144::[]).toArray,[]⟩ w := by
  conv => arg 2; whnf
  have hr := run_range_nilMap (P := Tryz.prog) w 127 9 9 Tryz.underlying127
  have hnx := fun ty => run_next_nilMap (P := Tryz.prog) w ty 0 0 #[]
  have c18 : w.cell? ⟨hb,18,none⟩ = some (.map none) := by rw [Lib.cell_of_heap hH,← hrm]; rfl
  have hB2 : Below w0.heap.size w0 (w.alloc (.mapIter none 0 #[] 0)) := hB.alloc hB.size _
  have hG32 := (Below.heap_alloc w (.mapIter none 0 #[] 0) g3 (lt_of_heap hG3)).trans hG3
  have hG22 := (Below.heap_alloc w (.mapIter none 0 #[] 0) g2 (lt_of_heap hG2)).trans hG2
  have HR := Lib.hid hR; have HN := Lib.hid hn; have HB2 := Lib.hid hB2; have HG32 := Lib.hid hG32; have HG22 := Lib.hid hG22
  clear hH hG3 hG2 hB2 hG32 hG22 hR hn hrm hin
  go_upto_region 8 with fail
  rename_i K1 hK1 K2 hK2
  have HK := Lib.hid hK1
  clear hK1
  go_wp2_with fail
  refine wp_loop_once ?_
  go_wp2_with fail
  refine HK.out _ _ ?_
  refine ho17 g2 g3 (ihOf H) rfl _ w0 HB2.out h2 h23 HG32.out z hz HG22.out Rr (fun w' hb' hk hs => HR.out _ _ ?_)
  exact ⟨.slice none 0 0,[],rfl,⟨none,0,rfl,fun j hj => absurd hj (Nat.not_lt_zero _)⟩,(by intro p n c e; cases e),⟨List.nodup_nil,fun p hp => (by cases hp),fun k v e => by rw [HN.out k] at e; cases e⟩,hb'⟩
def IH.scells (h : IH) : List Value := [.int .u8 h.typ,str h.name,str h.link,.int .i64 h.size,.int .i64 h.mode,.int .i64 h.uid,.int .i64 h.gid,str h.user,str h.group,.int .i64 h.ms,.int .i64 h.mn,.bool h.hasA,.bool h.hasC,.int .i64 h.ats,.int .i64 h.atn,.int .i64 h.cts,.int .i64 h.ctn,.int .i64 h.maj,.int .i64 h.mnr,h.recs,.int .i64 h.fmt]
def SB (g : Nat) (h : IH) (w : World) : Prop := w.heap[g]? = some (.cells h.scells.toArray 31 (0,0))
theorem SB.cell {g : Nat} {h : IH} {w : World} (hs : SB g h w) (k : Nat) (v : Value) (hv : h.scells[k]? = some v) : w.cell? ⟨g,k,none⟩ = some v := by
  rw [Lib.cell_of_heap hs,List.getElem?_toArray]; exact hv
theorem SB.below {g B : Nat} {h : IH} {w w' : World} (hs : SB g h w) (hb : Below B w w') (hg : g < B) : SB g h w' := (hb.block g hg).trans hs
theorem sh_one (h : IH) (hr : h.recs.oneCell' = true) : ∀ v ∈ h.scells,v.oneCell' = true := by
  intro v hv
  simp only [IH.scells,List.mem_cons,List.not_mem_nil,or_false] at hv
  rcases hv with rfl | rfl | rfl | rfl | rfl | rfl | rfl | rfl | rfl | rfl | rfl | rfl | rfl | rfl | rfl | rfl | rfl | rfl | rfl | rfl | rfl <;> first | rfl | exact hr
theorem info31 : (Tryz.prog.info? 31).map (·.size) = some 21 := by kernel_rfl
theorem und31 : ∃ d,Tryz.prog.underlying 31 = some d ∧ aggD d = true := ⟨_,Tryz.underlying31,rfl⟩
theorem SB.load {g : Nat} {h : IH} {w : World} (hs : SB g h w) : (loadVar 31 ⟨g,0,none⟩).run Tryz.prog w = .ok (.agg h.scells.toArray) w := by
  obtain ⟨d,u1,u2⟩ := und31
  exact run_load_at w g 0 31 h.scells.toArray (At.of_heap hs (fun j v hj => by rw [Nat.zero_add]; simpa using hj)) d u1 u2 (by rw [info31]; rfl)
theorem store31 {w : World} {g : Nat} {z : Array Value} (h : IH) (hr : h.recs.oneCell' = true) (hz : z.size = 21) (hg : w.heap[g]? = some (.cells z 31 (0,0))) :
    ∃ w',(storeVar 31 ⟨g,0,none⟩ (.agg h.scells.toArray)).run Tryz.prog w = .ok () w' ∧ SB g h w' ∧ (∀ k,k ≠ g → w'.heap[k]? = w.heap[k]?) ∧ (∀ (B : Nat) (w0 : World),Below B w0 w → B ≤ g → Below B w0 w') ∧ w'.heap.size = w.heap.size := by
  have hs := run_store_at w g 0 31 31 z h.scells.toArray hg (by rw [info31]; rfl) (by rw [hz]; exact Nat.le_refl 21) (by simpa using sh_one h hr)
  have e : z.toList.take 0 ++ h.scells.toArray.toList ++ z.toList.drop (0 + h.scells.toArray.size) = h.scells := by
    rw [List.take_zero,List.nil_append,List.drop_eq_nil_of_le (by rw [Array.length_toList,hz]; exact Nat.le_refl 21),List.append_nil]
  rw [e] at hs
  refine ⟨_,hs,setRow_heap w g z _ 31 _ hg,fun k hk => setRow_other w g k _ hk,fun B w0 hb hB => ?_,by simp⟩
  exact ⟨hb.os,hb.tape,hb.output,by simpa using hb.size,fun k hk => (setRow_other w g k _ (by omega)).trans (hb.block k hk)⟩
theorem ret31 {R : Ending → World → Prop} {fn : Func} {t : Tmp} {a : Act} (g : Nat) (cs : Array Value) (hcs : cs.size = 21) (w : World) (hr : fn.results = #[.cell t 31]) (hp : a.tmps.getD t undef = .pointer (some ⟨g,0,none⟩)) (hd : a.defers = [])
    (hg : w.heap[g]? = some (.cells cs 31 (0,0))) (hR : R (.returned (.agg cs)) w) : bodyPost Tryz.prog fn R .ret a w :=
  bodyPost_ret (results_cell_row hr _ _ g 31 cs (0,0) _ hp hg Tryz.underlying31 rfl (by rw [hcs]; kernel_rfl)) hd hR
theorem slash_end (l : List UInt8) : slashEnd l = slashB l := by
  unfold slashEnd slashB Lib.hasSuffix
  rw [Bool.eq_iff_iff]
  simp only [List.isSuffixOf_iff_suffix,beq_iff_eq]
  constructor
  · rintro ⟨t,rfl⟩; simp
  · intro h
    obtain ⟨t,rfl⟩ := List.getLast?_eq_some_iff.1 h
    exact ⟨t,rfl⟩
theorem SB.setTyp {g : Nat} {h : IH} {w : World} (hs : SB g h w) (x : Int) : SB g { h with typ := x } (w.setCell ⟨g,0,none⟩ (.int .u8 x)) := by
  have := heap_set_same (i := 0) (.int .u8 x) hs
  rw [List.setIfInBounds_toArray] at this
  exact this
theorem SB.hz {g : Nat} {h : IH} {w : World} (hs : SB g h w) (k : Nat) : w.frozen? ⟨g,k,none⟩ = false := Lib.frozen_of_heap hs k
def RetSp (h : IH) (w : World) (e : Ending) (w' : World) : Prop := e = .returned (.agg h.scells.toArray) ∧ Below w.heap.size w w'
structure W31 (h : IH) (hb rb : Nat) (w0 w : World) : Prop where
  S : SB hb h w
  Z : ∃ z : Array Value,z.size = 21 ∧ w.heap[rb]? = some (.cells z 31 (0,0))
  B : Below w0.heap.size w0 w
  h0 : w0.heap.size ≤ hb
  r0 : w0.heap.size ≤ rb
  ne : hb ≠ rb
theorem W31.new (h : IH) (w : World) (z : Array Value) (hz : z.size = 21) : W31 h w.heap.size (w.heap.size + 1) w ((w.alloc (.cells h.scells.toArray 31)).alloc (.cells z 31)) := by
  have s1 : (w.alloc (.cells h.scells.toArray 31)).heap.size = w.heap.size + 1 := Array.size_push ..
  refine ⟨(Below.heap_alloc _ _ _ (by omega)).trans (heap_alloc_new w _),⟨z,hz,?_⟩,((Below.refl _ w).alloc (Nat.le_refl _) _).alloc (by omega) _,Nat.le_refl _,by omega,by omega⟩
  rw [← s1]; exact heap_alloc_new _ _
theorem W31.below {h : IH} {hb rb : Nat} {w0 w w' : World} (k : W31 h hb rb w0 w) (f : Below w.heap.size w w') : W31 h hb rb w0 w' := by
  obtain ⟨z,z1,z2⟩ := k.Z
  exact ⟨k.S.below f (lt_of_heap k.S),⟨z,z1,(f.block rb (lt_of_heap z2)).trans z2⟩,k.B.trans (f.mono k.B.size),k.h0,k.r0,k.ne⟩
theorem W31.setTyp {h : IH} {hb rb : Nat} {w0 w : World} (k : W31 h hb rb w0 w) (x : Int) : W31 { h with typ := x } hb rb w0 (w.setCell ⟨hb,0,none⟩ (.int .u8 x)) := by
  obtain ⟨z,z1,z2⟩ := k.Z
  exact ⟨k.S.setTyp x,⟨z,z1,(heap_set_other _ (Ne.symm k.ne)).trans z2⟩,k.B.setCell (p := ⟨hb,0,none⟩) k.h0 _,k.h0,k.r0,k.ne⟩
theorem W31.give {h : IH} {hb rb : Nat} {w0 w : World} (k : W31 h hb rb w0 w) (hr : h.recs.oneCell' = true) : ∃ w',(storeVar 31 ⟨rb,0,none⟩ (.agg h.scells.toArray)).run Tryz.prog w = .ok () w' ∧ w'.heap[rb]? = some (.cells h.scells.toArray 31 (0,0)) ∧ Below w0.heap.size w0 w' := by
  obtain ⟨z,z1,z2⟩ := k.Z
  obtain ⟨w',h1,h2,-,h4,-⟩ := store31 h hr z1 z2
  exact ⟨w',h1,h2,h4 _ _ k.B k.r0⟩
theorem W31.fin {h2 h3 : IH} {hb rb : Nat} {w0 w : World} (k : W31 h2 hb rb w0 w) (hr : h2.recs.oneCell' = true) (e : h2 = h3) : ∃ w',(storeVar 31 ⟨rb,0,none⟩ (.agg h2.scells.toArray)).run Tryz.prog w = .ok () w' ∧ w'.heap[rb]? = some (.cells h2.scells.toArray 31 (0,0)) ∧ RetSp h3 w0 (.returned (.agg h2.scells.toArray)) w' := by
  obtain ⟨w',g1,g2,g3⟩ := k.give hr
  exact ⟨w',g1,g2,by rw [e],g3⟩
def IH.sprom (h : IH) : IH := { h with typ := if h.typ = 0 then (if slashB h.name then 53 else 48) else h.typ }
set_option maxHeartbeats 4000000 in
theorem specPromoted (h : IH) (hr : h.recs.oneCell' = true) (hn : h.name.length < 4611686018427387904) (w : World) : Calls Tryz.prog 26 #[.agg h.scells.toArray] w (RetSp h.sprom w) := by
  go_enter Tryz.func26,Tryz.ntmps26
  go_upto_region 1 with fail
  obtain ⟨wA,hwA⟩ : ∃ wA,wA = (w.alloc (.cells h.scells.toArray 31)).alloc (.cells #[.int .u8 0,.string { data := #[] },.string { data := #[] },.int .i64 0,.int .i64 0,.int .i64 0,.int .i64 0,.string { data := #[] },.string { data := #[] },.int .i64 0,.int .i64 0,.bool false,.bool false,.int .i64 0,.int .i64 0,.int .i64 0,.int .i64 0,.int .i64 0,.int .i64 0,.slice none 0 0,.int .i64 0] 31) := ⟨_,rfl⟩
  rw [← hwA]
  have KA : W31 h w.heap.size (w.heap.size + 1) w wA := by rw [hwA]; exact W31.new h w _ rfl
  clear hwA
  have ct := KA.S.cell 0 (.int .u8 h.typ) rfl
  by_cases ht : h.typ = 0
  · have cn := (KA.setTyp 48).S.cell 1 (str h.name) rfl
    have hz := KA.S.hz 0
    have hsl := specSlashed h.name (wA.setCell ⟨w.heap.size,0,none⟩ (.int .u8 48)) hn
    have K2 := Lib.hid (KA.setTyp 48)
    cases hs : slashB h.name with
    | true =>
      rw [hs] at hsl
      have hz2 := K2.out.S.hz 0
      have K3 := Lib.hid (K2.out.setTyp 53)
      obtain ⟨w3,g1,g2,g3⟩ := K3.out.fin (h3 := h.sprom) (by exact hr) (by rw [IH.sprom,if_pos ht,if_pos hs])
      have HLD := Lib.hid K3.out.S.load; have G1 := Lib.hid g1; have G2 := Lib.hid g2; have G3 := Lib.hid g3
      clear g1 g2 g3 hs KA
      go_wp2_with (first | (go_at_call 53; refine hsl.mono ?_; rintro e wx ⟨rfl,rfl⟩) | (refine wpList_load_run rfl 31 _ rfl ⟨w.heap.size,0,none⟩ rfl _ HLD.out ?_) | (refine wpList_store_run rfl 31 _ _ rfl ⟨w.heap.size + 1,0,none⟩ rfl _ rfl w3 G1.out ?_) | fail)
      exact ret31 (w.heap.size + 1) _ rfl w3 rfl rfl rfl G2.out G3.out
    | false =>
      rw [hs] at hsl
      obtain ⟨w3,g1,g2,g3⟩ := K2.out.fin (h3 := h.sprom) (by exact hr) (by rw [IH.sprom,if_pos ht,hs]; rfl)
      have HLD := Lib.hid K2.out.S.load; have G1 := Lib.hid g1; have G2 := Lib.hid g2; have G3 := Lib.hid g3
      clear g1 g2 g3 hs KA
      go_wp2_with (first | (go_at_call 53; refine hsl.mono ?_; rintro e wx ⟨rfl,rfl⟩) | (refine wpList_load_run rfl 31 _ rfl ⟨w.heap.size,0,none⟩ rfl _ HLD.out ?_) | (refine wpList_store_run rfl 31 _ _ rfl ⟨w.heap.size + 1,0,none⟩ rfl _ rfl w3 G1.out ?_) | fail)
      exact ret31 (w.heap.size + 1) _ rfl w3 rfl rfl rfl G2.out G3.out
  · have KK := Lib.hid KA
    obtain ⟨w3,g1,g2,g3⟩ := KK.out.fin (h3 := h.sprom) (by exact hr) (by rw [IH.sprom,if_neg ht])
    have HLD := Lib.hid KK.out.S.load; have G1 := Lib.hid g1; have G2 := Lib.hid g2; have G3 := Lib.hid g3
    clear g1 g2 g3 KA
    go_wp2_with (first | (refine wpList_load_run rfl 31 _ rfl ⟨w.heap.size,0,none⟩ rfl _ HLD.out ?_) | (refine wpList_store_run rfl 31 _ _ rfl ⟨w.heap.size + 1,0,none⟩ rfl _ rfl w3 G1.out ?_) | fail)
    exact ret31 (w.heap.size + 1) _ rfl w3 rfl rfl rfl G2.out G3.out
def recSz : List (List UInt8 × List UInt8) → Nat
  | [] => 0
  | p::L => p.1.length + p.2.length + 24 + recSz L
theorem recSz_app (L M : List (List UInt8 × List UInt8)) : recSz (L ++ M) = recSz L + recSz M := by
  induction L with
  | nil => simp [recSz]
  | cons p L ih => simp only [List.cons_append,recSz,ih]; omega
theorem recSz_take (L : List (List UInt8 × List UInt8)) (k : Nat) (hk : k < L.length) : recSz (L.take (k + 1)) = recSz (L.take k) + (L[k].1.length + L[k].2.length + 24) := by
  rw [List.take_succ_eq_append_getElem hk,recSz_app]; rfl
theorem recSz_take_le (L : List (List UInt8 × List UInt8)) (k : Nat) : recSz (L.take k) ≤ recSz L := by
  conv => rhs; rw [← List.take_append_drop k L,recSz_app]
  omega
def StrangeOk (h : IH) (L : List (List UInt8 × List UInt8)) : Prop := h.name.length + h.link.length + h.user.length + h.group.length + recSz L ≤ 524288 ∧ 0 ≤ h.fmt ∧ h.fmt ≤ 3 ∧ OddOk h.ms h.mn ∧ (h.hasA = true → OddOk h.ats h.atn) ∧ (h.hasC = true → OddOk h.cts h.ctn)
def SRel (hb : Nat) (h : IH) (w0 w : World) : Prop := SB hb h w ∧ Below hb w0 w ∧ hb < w.heap.size
theorem SRel.step {hb : Nat} {h : IH} {w0 w w' : World} (k : SRel hb h w0 w) (f : Below w.heap.size w w') : SRel hb h w0 w' :=
  ⟨k.1.below f k.2.2,k.2.1.trans (f.mono (Nat.le_of_lt k.2.2)),Nat.lt_of_lt_of_le k.2.2 f.size⟩
set_option maxHeartbeats 4000000 in
theorem specStrange (h : IH) (L : List (List UInt8 × List UInt8)) (w : World) (hL : RecS w h.recs L) (hsum : h.name.length + h.link.length + h.user.length + h.group.length + recSz L ≤ 2305843009213693952) : Calls Tryz.prog 25 #[.agg h.scells.toArray] w (BFalse (StrangeOk h L) w) := by
  have a1 : SB w.heap.size h (w.alloc (.cells h.scells.toArray 31)) := heap_alloc_new w _
  have hR : SRel w.heap.size h w (w.alloc (.cells h.scells.toArray 31)) := ⟨a1,(Below.refl _ w).alloc (Nat.le_refl _) _,lt_of_heap a1⟩
  obtain ⟨p,c,hv,hcl⟩ := hL
  have hLl : L.length ≤ recSz L := by
    clear hcl hv hsum
    induction L with
    | nil => simp
    | cons q L ih => simp only [List.length_cons,recSz]; omega
  have n1 := a1.cell 1 (str h.name) rfl
  have n2 := a1.cell 2 (str h.link) rfl
  have n3 := a1.cell 7 (str h.user) rfl
  have n4 := a1.cell 8 (str h.group) rfl
  have n5 := a1.cell 19 (.slice p L.length c) (by rw [← hv]; rfl)
  have HR := Lib.hid hR; have HCL := Lib.hid hcl; have HV := Lib.hid hv
  clear a1 hR hcl hv
  go_enter Tryz.func25,Tryz.ntmps25
  go_upto_region 1 with fail
  obtain ⟨wA,hwA⟩ : ∃ wA,wA = w.alloc (.cells h.scells.toArray 31) := ⟨_,rfl⟩
  rw [← hwA] at HR n1 n2 n3 n4 n5 ⊢
  clear hwA
  obtain ⟨hb,hhb⟩ : ∃ hb,hb = w.heap.size := ⟨_,rfl⟩
  rw [← hhb] at HR n1 n2 n3 n4 n5 ⊢
  have HHB := Lib.hid hhb
  clear hhb
  obtain ⟨l0,hl0⟩ : ∃ l0,l0 = h.name.length + h.link.length + h.user.length + h.group.length := ⟨_,rfl⟩
  have hbnd : h.name.length + h.link.length + h.user.length + h.group.length ≤ 2305843009213693952 := by omega
  rw [← hl0] at hsum
  have E1 : Hid ((h.name.length : Int) + h.link.length + h.user.length + h.group.length = l0) := Lib.hid (by omega)
  have HL0 := Lib.hid hl0
  clear hl0
  go_wp2_with fail
  go_loopw [24,3] (fun s24 s3 wr => ∃ k : Nat,s24 = .int .i64 k ∧ s3 = .int .i64 ((l0 + recSz (L.take k) : Nat) : Int) ∧ k ≤ L.length ∧ Hid (SRel hb h w wr)) (fun s24 _ _ => L.length - (intOf s24).toNat)
  case atStart => exact ⟨0,rfl,by rw [List.take_zero]; show _ = Value.int .i64 ((l0 + 0 : Nat) : Int); rw [Nat.add_zero,← E1.out],Nat.zero_le _,HR⟩
  case round =>
    obtain ⟨k,rfl,rfl,hk,hS⟩ := hrel
    clear n1 n2 n3 n4 n5 HR hbnd
    have hle := recSz_take_le L k
    by_cases hlt : k < L.length
    · obtain ⟨rg,ro,rfl,hrg,k1,k2⟩ := HCL.out k hlt
      have ck : wr.cell? ⟨rg,ro + k * 2,none⟩ = some (str L[k].1) := (hS.out.2.1.cell (p := ⟨rg,ro + k * 2,none⟩) (by have := HHB.out; show rg < hb; omega)).trans k1
      have cv : wr.cell? ⟨rg,ro + k * 2 + 1,none⟩ = some (str L[k].2) := (hS.out.2.1.cell (p := ⟨rg,ro + k * 2 + 1,none⟩) (by have := HHB.out; show rg < hb; omega)).trans k2
      have ht := recSz_take L k hlt
      have ht2 := recSz_take_le L (k + 1)
      clear k1 k2
      generalize L[k].1 = kk at *
      generalize L[k].2 = vv at *
      rw [ht] at ht2
      have HT := Lib.hid ht
      generalize hR0 : recSz (L.take k) = r0 at *
      clear ht hR0
      have hS2 : Hid (∀ o,SRel hb h w (wr.alloc o)) := Lib.hid fun o => hS.out.step ((Below.refl _ wr).alloc (Nat.le_refl _) o)
      go_wp2_with fail
      go_roundw
      case rel => exact ⟨k + 1,by go_num,by rw [HT.out]; go_num,by omega,Lib.hid (hS2.out _)⟩
      case measure => simp [intOf]; omega
    · obtain rfl : k = L.length := by omega
      rw [List.take_length] at hle ⊢
      have HK : Hid (l0 + recSz L ≤ 524288 → 0 ≤ h.fmt → h.fmt ≤ 3 → OddOk h.ms h.mn → (h.hasA = true → OddOk h.ats h.atn) → (h.hasC = true → OddOk h.cts h.ctn) → StrangeOk h L) := Lib.hid fun k1 k2 k3 k4 k5 k6 => ⟨by rw [← HL0.out]; exact k1,k2,k3,k4,k5,k6⟩
      have BB : Hid (Below w.heap.size w wr) := Lib.hid (by rw [← HHB.out]; exact hS.out.2.1)
      have c20 := hS.out.1.cell 20 (.int .i64 h.fmt) rfl
      generalize hR0 : recSz L = r0 at *
      clear hR0
      by_cases hn : (524288 : Int) < ((l0 + r0 : Nat) : Int)
      · go_wp2_with fail
        go_ret
        exact ⟨true,rfl,BB.out,fun h => by cases h⟩
      · by_cases hf0 : h.fmt < 0
        · go_wp2_with fail
          go_ret
          exact ⟨true,rfl,BB.out,fun h => by cases h⟩
        · by_cases hf3 : 3 < h.fmt
          · go_wp2_with fail
            go_ret
            exact ⟨true,rfl,BB.out,fun h => by cases h⟩
          · have HN : Hid (l0 + r0 ≤ 524288 ∧ 0 ≤ h.fmt ∧ h.fmt ≤ 3) := Lib.hid (by omega)
            have c9a := hS.out.1.cell 9 (.int .i64 h.ms) rfl
            have d9a := hS.out.1.cell 10 (.int .i64 h.mn) rfl
            have c10a := hS.out.1.cell 11 (.bool h.hasA) rfl
            have c11a := hS.out.1.cell 12 (.bool h.hasC) rfl
            have c12a := hS.out.1.cell 13 (.int .i64 h.ats) rfl
            have d12a := hS.out.1.cell 14 (.int .i64 h.atn) rfl
            have c13a := hS.out.1.cell 15 (.int .i64 h.cts) rfl
            have d13a := hS.out.1.cell 16 (.int .i64 h.ctn) rfl
            go_wp2_with fail
            refine (specOdd h.ms h.mn wr).mono ?_
            rintro e w1 ⟨b1,rfl,hb1,hp1⟩
            clear c9a d9a c10a c11a c12a d12a c13a d13a
            have S1 := Lib.hid (hS.out.step hb1)
            have HP1 := Lib.hid hp1
            clear hb1 hp1 BB
            have BB : Hid (Below w.heap.size w w1) := Lib.hid (by rw [← HHB.out]; exact S1.out.2.1)
            have c9b := S1.out.1.cell 9 (.int .i64 h.ms) rfl
            have d9b := S1.out.1.cell 10 (.int .i64 h.mn) rfl
            have c10b := S1.out.1.cell 11 (.bool h.hasA) rfl
            have c11b := S1.out.1.cell 12 (.bool h.hasC) rfl
            have c12b := S1.out.1.cell 13 (.int .i64 h.ats) rfl
            have d12b := S1.out.1.cell 14 (.int .i64 h.atn) rfl
            have c13b := S1.out.1.cell 15 (.int .i64 h.cts) rfl
            have d13b := S1.out.1.cell 16 (.int .i64 h.ctn) rfl
            cases b1 with
            | true =>
              go_wp2_with fail
              go_ret
              exact ⟨true,rfl,BB.out,fun h => by cases h⟩
            | false =>
              cases ha : h.hasA with
              | false =>
                rw [ha] at c10b
                cases hc : h.hasC with
                | false =>
                  rw [hc] at c11b
                  go_wp2_with fail
                  go_ret
                  exact ⟨_,rfl,BB.out,fun _ => HK.out HN.out.1 HN.out.2.1 HN.out.2.2 (HP1.out (by trivial)) (fun e => by rw [ha] at e; cases e) (fun e => by rw [hc] at e; cases e)⟩
                | true =>
                  rw [hc] at c11b
                  go_wp2_with fail
                  refine (specOdd h.cts h.ctn w1).mono ?_
                  rintro e w9 ⟨b9,rfl,hb9,hp9⟩
                  clear c9b d9b c10b c11b c12b d12b c13b d13b
                  have S9 := Lib.hid (S1.out.step hb9)
                  have HP9 := Lib.hid hp9
                  clear hb9 hp9 BB
                  have BB : Hid (Below w.heap.size w w9) := Lib.hid (by rw [← HHB.out]; exact S9.out.2.1)
                  cases b9 with
                  | true =>
                    go_wp2_with fail
                    go_ret
                    exact ⟨true,rfl,BB.out,fun h => by cases h⟩
                  | false =>
                    go_wp2_with fail
                    go_ret
                    exact ⟨_,rfl,BB.out,fun _ => HK.out HN.out.1 HN.out.2.1 HN.out.2.2 (HP1.out (by trivial)) (fun e => by rw [ha] at e; cases e) (fun _ => HP9.out (by trivial))⟩
              | true =>
                rw [ha] at c10b
                go_wp2_with fail
                refine (specOdd h.ats h.atn w1).mono ?_
                rintro e w2 ⟨b2,rfl,hb2,hp2⟩
                clear c9b d9b c10b c11b c12b d12b c13b d13b
                have S2 := Lib.hid (S1.out.step hb2)
                have HP2 := Lib.hid hp2
                clear hb2 hp2 BB
                have BB : Hid (Below w.heap.size w w2) := Lib.hid (by rw [← HHB.out]; exact S2.out.2.1)
                have c9c := S2.out.1.cell 9 (.int .i64 h.ms) rfl
                have d9c := S2.out.1.cell 10 (.int .i64 h.mn) rfl
                have c10c := S2.out.1.cell 11 (.bool h.hasA) rfl
                have c11c := S2.out.1.cell 12 (.bool h.hasC) rfl
                have c12c := S2.out.1.cell 13 (.int .i64 h.ats) rfl
                have d12c := S2.out.1.cell 14 (.int .i64 h.atn) rfl
                have c13c := S2.out.1.cell 15 (.int .i64 h.cts) rfl
                have d13c := S2.out.1.cell 16 (.int .i64 h.ctn) rfl
                rw [ha] at c10c
                cases b2 with
                | true =>
                  go_wp2_with fail
                  go_ret
                  exact ⟨true,rfl,BB.out,fun h => by cases h⟩
                | false =>
                  cases hc : h.hasC with
                  | false =>
                    rw [hc] at c11c
                    go_wp2_with fail
                    go_ret
                    exact ⟨_,rfl,BB.out,fun _ => HK.out HN.out.1 HN.out.2.1 HN.out.2.2 (HP1.out (by trivial)) (fun _ => HP2.out (by trivial)) (fun e => by rw [hc] at e; cases e)⟩
                  | true =>
                    rw [hc] at c11c
                    go_wp2_with fail
                    refine (specOdd h.cts h.ctn w2).mono ?_
                    rintro e w9 ⟨b9,rfl,hb9,hp9⟩
                    clear c9c d9c c10c c11c c12c d12c c13c d13c
                    have S9 := Lib.hid (S2.out.step hb9)
                    have HP9 := Lib.hid hp9
                    clear hb9 hp9 BB
                    have BB : Hid (Below w.heap.size w w9) := Lib.hid (by rw [← HHB.out]; exact S9.out.2.1)
                    cases b9 with
                    | true =>
                      go_wp2_with fail
                      go_ret
                      exact ⟨true,rfl,BB.out,fun h => by cases h⟩
                    | false =>
                      go_wp2_with fail
                      go_ret
                      exact ⟨_,rfl,BB.out,fun _ => HK.out HN.out.1 HN.out.2.1 HN.out.2.2 (HP1.out (by trivial)) (fun _ => HP2.out (by trivial)) (fun _ => HP9.out (by trivial))⟩
end Go.Proofs.YtkanmkcojlefbaaGreatDoor
