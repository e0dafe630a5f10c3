/-
  Part of the proof; holds the texts Ref5, HIns, HIn1, HIn2.
-/
import Derived.Test.YtkanmkcojlefbaaGreatDoorM27
import Derived.Test.YtkanmkcojlefbaaGreatDoorM34
import Derived.Laws.CopyRow
import Derived.Laws.AppendOwn
import Derived.Test.YtkanmkcojlefbaaGreatDoorM22
set_option maxRecDepth 100000
set_option linter.unusedSimpArgs false
set_option linter.unusedVariables false
namespace Go.Proofs.YtkanmkcojlefbaaGreatDoor
open Go.RowKit
def Fits5 (p : List UInt8 × List UInt8) : Prop := p.1.length ≤ 2147483647 ∧ p.2.length ≤ 2147483647
theorem specFits5 (k v : List UInt8) (w : World) : Calls Tryz.prog 51 #[.agg #[str k,str v]] w (BTrue (Fits5 (k,v)) w) := by
  have a1 := heap_alloc_new w (.cells #[str k,str v] 59)
  have c0 : (w.alloc (.cells #[str k,str v] 59)).cell? ⟨w.heap.size,0,none⟩ = some (str k) := by rw [Lib.cell_of_heap a1]; rfl
  have c1 : (w.alloc (.cells #[str k,str v] 59)).cell? ⟨w.heap.size,1,none⟩ = some (str v) := by rw [Lib.cell_of_heap a1]; rfl
  have hb := Lib.hid (fun o => (Below.refl w.heap.size w).alloc (Nat.le_refl _) o)
  clear a1
  by_cases h1 : (2147483647 : Int) < k.length
  · go_enter Tryz.func51,Tryz.ntmps51
    go_wp2_with fail
    go_ret
    exact ⟨false,rfl,hb.out _,fun h => by cases h⟩
  · by_cases h2 : (2147483647 : Int) < v.length
    · go_enter Tryz.func51,Tryz.ntmps51
      go_wp2_with fail
      go_ret
      exact ⟨false,rfl,hb.out _,fun h => by cases h⟩
    · have HF : Hid (Fits5 (k,v)) := Lib.hid ⟨by show k.length ≤ _; omega,by show v.length ≤ _; omega⟩
      go_enter Tryz.func51,Tryz.ntmps51
      go_wp2_with fail
      go_ret
      exact ⟨true,rfl,hb.out _,fun h => HF.out⟩
def Fits4 (L : List (List UInt8 × List UInt8)) : Prop := L.length ≤ 2147483647 ∧ ∀ p ∈ L,Fits5 p
theorem specFits4 (rv : Value) (L : List (List UInt8 × List UInt8)) (w : World) (hL : RecS w rv L) (hLl : L.length ≤ 9223372036854775807) : Calls Tryz.prog 24 #[rv] w (BTrue (Fits4 L) w) := by
  obtain ⟨p,c,rfl,hcl⟩ := hL
  have HCL := Lib.hid hcl
  clear hcl
  by_cases h1 : (2147483647 : Int) < L.length
  · go_enter Tryz.func24,Tryz.ntmps24
    go_wp2_with fail
    go_ret
    exact ⟨false,rfl,Below.refl _ _,fun h => by cases h⟩
  · go_enter Tryz.func24,Tryz.ntmps24
    go_wp2_with fail
    go_loopw [10] (fun s10 wr => ∃ k : Nat,s10 = .int .i64 k ∧ k ≤ L.length ∧ Hid (∀ (j : Nat) q,j < k → L[j]? = some q → Fits5 q) ∧ Hid (Below w.heap.size w wr)) (fun s10 _ => L.length - (intOf s10).toNat)
    case atStart => exact ⟨0,rfl,Nat.zero_le _,Lib.hid (fun j q h => by omega),Lib.hid (Below.refl _ _)⟩
    case round =>
      obtain ⟨k,rfl,hk,hF,hB⟩ := hrel
      by_cases hlt : k < L.length
      · obtain ⟨rg,ro,rfl,hrg,k1,k2⟩ := HCL.out k hlt
        have ck : wr.cell? ⟨rg,ro + k * 2,none⟩ = some (str L[k].1) := (hB.out.cell (p := ⟨rg,ro + k * 2,none⟩) hrg).trans k1
        have cv : wr.cell? ⟨rg,ro + k * 2 + 1,none⟩ = some (str L[k].2) := (hB.out.cell (p := ⟨rg,ro + k * 2 + 1,none⟩) hrg).trans k2
        have HK := Lib.hid (List.getElem?_eq_getElem hlt)
        generalize L[k] = q at *
        obtain ⟨kk,vv⟩ := q
        clear k1 k2
        go_wp2_with fail
        refine (specFits5 kk vv _).mono ?_
        rintro e w2 ⟨b,rfl,hb2,hp2⟩
        have HP2 := Lib.hid hp2
        have HB2 : Hid (Below w.heap.size w w2) := Lib.hid ((hB.out.alloc hB.out.size _).trans (hb2.mono (by have := hB.out.size; simp; omega)))
        clear hb2 hp2
        cases b with
        | false =>
          go_wp2_with fail
          go_ret
          exact ⟨false,rfl,HB2.out,fun h => by cases h⟩
        | true =>
          go_wp2_with fail
          go_roundw
          case rel => exact ⟨k + 1,by go_num,by omega,Lib.hid (fun j q hj hq => if h : j = k then by rw [h,HK.out] at hq; cases hq; exact HP2.out (by trivial) else hF.out j q (by omega) hq),HB2⟩
          case measure => simp [intOf]; omega
      · have HF : Hid (Fits4 L) := Lib.hid ⟨by omega,fun q hq => by
          obtain ⟨j,hj,e⟩ := List.getElem_of_mem hq
          exact hF.out j q (by omega) (by rw [List.getElem?_eq_getElem hj,e])⟩
        go_wp2_with fail
        go_ret
        exact ⟨true,rfl,hB.out,fun h => HF.out⟩
def Fits3 (h : IH) (L : List (List UInt8 × List UInt8)) : Prop := h.name.length ≤ 2147483647 ∧ h.link.length ≤ 2147483647 ∧ h.user.length ≤ 2147483647 ∧ h.group.length ≤ 2147483647 ∧ Fits4 L
set_option maxHeartbeats 4000000 in
theorem specFits3 (h : IH) (L : List (List UInt8 × List UInt8)) (w : World) (hL : RecS w h.recs L) (hLl : L.length ≤ 9223372036854775807) : Calls Tryz.prog 7 #[.agg h.cells.toArray] w (BTrue (Fits3 h L) w) := by
  have a1 : IHC w.heap.size h (w.alloc (.cells h.cells.toArray 26)) := heap_alloc_new w _
  have hb1 := (Below.refl w.heap.size w).alloc (Nat.le_refl _) (.cells h.cells.toArray 26)
  have cc : ∀ (k : Nat) (v : Value),h.cells[k]? = some v → (w.alloc (.cells h.cells.toArray 26)).cell? ⟨w.heap.size,k,none⟩ = some v := fun k v hv => by
    rw [Lib.cell_of_heap a1,List.getElem?_toArray]; exact hv
  have n1 := cc 1 (str h.name) rfl
  have n2 := cc 2 (str h.link) rfl
  have n3 := cc 7 (str h.user) rfl
  have n4 := cc 8 (str h.group) rfl
  have n5 := cc 19 h.recs rfl
  have hs : w.heap.size < (w.alloc (.cells h.cells.toArray 26)).heap.size := lt_of_heap a1
  have h4 := Lib.hid (specFits4 h.recs L (w.alloc (.cells h.cells.toArray 26)) (hL.below hb1) hLl)
  have HB := Lib.hid hb1
  have HS := Lib.hid hs
  clear a1 cc hL hb1 hs
  by_cases f1 : (2147483647 : Int) < h.name.length
  · go_enter Tryz.func7,Tryz.ntmps7
    go_wp2_with fail
    go_ret
    exact ⟨false,rfl,HB.out,fun h => by cases h⟩
  · by_cases f2 : (2147483647 : Int) < h.link.length
    · go_enter Tryz.func7,Tryz.ntmps7
      go_wp2_with fail
      go_ret
      exact ⟨false,rfl,HB.out,fun h => by cases h⟩
    · by_cases f3 : (2147483647 : Int) < h.user.length
      · go_enter Tryz.func7,Tryz.ntmps7
        go_wp2_with fail
        go_ret
        exact ⟨false,rfl,HB.out,fun h => by cases h⟩
      · by_cases f4 : (2147483647 : Int) < h.group.length
        · go_enter Tryz.func7,Tryz.ntmps7
          go_wp2_with fail
          go_ret
          exact ⟨false,rfl,HB.out,fun h => by cases h⟩
        · have HF : Hid (Fits4 L → Fits3 h L) := Lib.hid fun k => ⟨by omega,by omega,by omega,by omega,k⟩
          go_enter Tryz.func7,Tryz.ntmps7
          go_wp2_with fail
          refine h4.out.mono ?_
          rintro e w2 ⟨b,rfl,hb2,hp2⟩
          have HP2 := Lib.hid hp2
          have HB2 : Hid (Below w.heap.size w w2) := Lib.hid (HB.out.trans (hb2.mono (Nat.le_of_lt HS.out)))
          clear hb2 hp2
          cases b with
          | false =>
            go_wp2_with fail
            go_ret
            exact ⟨false,rfl,HB2.out,fun h => by cases h⟩
          | true =>
            go_wp2_with fail
            go_ret
            exact ⟨true,rfl,HB2.out,fun h => HF.out (HP2.out (by trivial))⟩
def StrS (w : World) (v : Value) (L : List (List UInt8)) : Prop := ∃ p c,v = .slice p L.length c ∧ ∀ (j : Nat) (hj : j < L.length),∃ rg ro,p = some ⟨rg,ro,none⟩ ∧ rg < w.heap.size ∧ w.cell? ⟨rg,ro + j,none⟩ = some (str L[j])
theorem StrS.below {w w' : World} {v : Value} {L : List (List UInt8)} (h : StrS w v L) (f : Below w.heap.size w w') : StrS w' v L := by
  obtain ⟨p,c,hv,hc⟩ := h
  refine ⟨p,c,hv,fun j hj => ?_⟩
  obtain ⟨rg,ro,h1,h2,h3⟩ := hc j hj
  exact ⟨rg,ro,h1,Nat.lt_of_lt_of_le h2 f.size,(f.cell (p := ⟨rg,ro + j,none⟩) h2).trans h3⟩
def Fits6 (L : List (List UInt8)) : Prop := L.length ≤ 2147483647 ∧ ∀ s ∈ L,s.length ≤ 2147483647
theorem specFits6 (rv : Value) (L : List (List UInt8)) (w : World) (hL : StrS w rv L) (hLl : L.length ≤ 9223372036854775807) : Calls Tryz.prog 20 #[rv] w (BTrue (Fits6 L) w) := by
  obtain ⟨p,c,rfl,hcl⟩ := hL
  have HCL := Lib.hid hcl
  clear hcl
  by_cases h1 : (2147483647 : Int) < L.length
  · go_enter Tryz.func20,Tryz.ntmps20
    go_wp2_with fail
    go_ret
    exact ⟨false,rfl,Below.refl _ _,fun h => by cases h⟩
  · go_enter Tryz.func20,Tryz.ntmps20
    go_wp2_with fail
    go_loop [10] (fun s10 => ∃ k : Nat,s10 = .int .i64 k ∧ k ≤ L.length ∧ Hid (∀ (j : Nat) q,j < k → L[j]? = some q → q.length ≤ 2147483647)) (fun s10 => L.length - (intOf s10).toNat)
    case atStart => exact ⟨0,rfl,Nat.zero_le _,Lib.hid (fun j q h => by omega)⟩
    case round =>
      obtain ⟨k,rfl,hk,hF⟩ := hrel
      by_cases hlt : k < L.length
      · obtain ⟨rg,ro,rfl,hrg,k1⟩ := HCL.out k hlt
        have HK := Lib.hid (List.getElem?_eq_getElem hlt)
        generalize L[k] = q at *
        by_cases hq : (2147483647 : Int) < q.length
        · go_wp2_with fail
          go_ret
          exact ⟨false,rfl,Below.refl _ _,fun h => by cases h⟩
        · go_wp2_with fail
          go_round
          case rel => exact ⟨k + 1,by go_num,by omega,Lib.hid (fun j r hj hr => if h : j = k then by rw [h,HK.out] at hr; cases hr; omega else hF.out j r (by omega) hr)⟩
          case measure => simp [intOf]; omega
      · have HF : Hid (Fits6 L) := Lib.hid ⟨by omega,fun q hq => by
          obtain ⟨j,hj,e⟩ := List.getElem_of_mem hq
          exact hF.out j q (by omega) (by rw [List.getElem?_eq_getElem hj,e])⟩
        go_wp2_with fail
        go_ret
        exact ⟨true,rfl,Below.refl _ _,fun h => HF.out⟩
def cells2 (L : List (List UInt8 × List UInt8)) : List Value := L.flatMap fun p => [str p.1,str p.2]
theorem cells2_nil : cells2 [] = [] := rfl
theorem cells2_cons (p : List UInt8 × List UInt8) (L : List (List UInt8 × List UInt8)) : cells2 (p::L) = str p.1::str p.2::cells2 L := rfl
theorem cells2_append (L M : List (List UInt8 × List UInt8)) : cells2 (L ++ M) = cells2 L ++ cells2 M := by simp [cells2]
theorem cells2_length (L : List (List UInt8 × List UInt8)) : (cells2 L).length = L.length * 2 := by
  induction L with
  | nil => rfl
  | cons p L ih => rw [cells2_cons,List.length_cons,List.length_cons,ih,List.length_cons]; omega
theorem cells2_take (L : List (List UInt8 × List UInt8)) : ∀ i,(cells2 L).take (i * 2) = cells2 (L.take i) := by
  induction L with
  | nil => intro i; simp [cells2]
  | cons p L ih =>
    intro i
    cases i with
    | zero => rfl
    | succ i => rw [cells2_cons,show (i + 1) * 2 = i * 2 + 1 + 1 by omega,List.take_succ_cons,List.take_succ_cons,List.take_succ_cons,cells2_cons,ih i]
theorem cells2_drop (L : List (List UInt8 × List UInt8)) : ∀ i,(cells2 L).drop (i * 2) = cells2 (L.drop i) := by
  induction L with
  | nil => intro i; simp [cells2]
  | cons p L ih =>
    intro i
    cases i with
    | zero => rfl
    | succ i => rw [cells2_cons,show (i + 1) * 2 = i * 2 + 1 + 1 by omega,List.drop_succ_cons,List.drop_succ_cons,List.drop_succ_cons,ih i]
theorem cells2_get (L : List (List UInt8 × List UInt8)) (i : Nat) (hi : i < L.length) : (cells2 L)[i * 2]? = some (str L[i].1) ∧ (cells2 L)[i * 2 + 1]? = some (str L[i].2) := by
  have h := cells2_drop L i
  rw [List.drop_eq_getElem_cons hi,cells2_cons] at h
  constructor
  · have := congrArg (fun l => l[0]?) h
    simpa using this
  · have := congrArg (fun l => l[1]?) h
    simpa using this
theorem cells2_one (L : List (List UInt8 × List UInt8)) : ∀ v ∈ cells2 L,v.oneCell' = true := by
  intro v hv
  simp only [cells2,List.mem_flatMap,List.mem_cons,List.not_mem_nil,or_false] at hv
  obtain ⟨p,-,rfl | rfl⟩ := hv <;> rfl
theorem und24 : Tryz.prog.underlying 24 = some (.slice 59) := Tryz.underlying24
theorem size59 : (Tryz.prog.info? 59).map (·.size) = some 2 := by kernel_rfl
theorem run_copy2 (w : World) (g o dLen dCap : Nat) (a : Addr) (sLen sCap : Nat) (cur : Array Value) (t : TypeId) (cs : List Value)
    (hg : w.heap[g]? = some (.cells cur t (0,0))) (hn : cs.length = Nat.min sLen dLen * 2)
    (hsrc : ∀ j v,cs[j]? = some v → w.cell? (a.add j) = some v) (hfit : o + cs.length ≤ cur.size) (h1 : ∀ v ∈ cs,v.oneCell' = true) :
    (Builtin.copy_ #[24,24] 3 #[.slice (some ⟨g,o,none⟩) dLen dCap,.slice (some a) sLen sCap]).run Tryz.prog w =
      .ok (goInt (Nat.min sLen dLen)) (w.setRow g (cur.toList.take o ++ cs ++ cur.toList.drop (o + cs.length)).toArray) := by
  have hl := run_loadCells_list (P := Tryz.prog) w a cs hsrc
  have hst := run_storeCells_at Tryz.prog g o t cs 0 cur w hg (by simpa using hfit) h1
  cases hq : Tryz.prog.info? 59 with
  | none => have := size59; rw [hq] at this; cases this
  | some i =>
    have hi : i.size = 2 := by have := size59; rw [hq] at this; simpa using this
    simp [Builtin.copy_,run_underlying und24,Builtin.lenOf,Builtin.firstCells,sizeOf,typeInfo,hq,hi,← hn,hl,hst]
theorem ins_cells (L : List (List UInt8 × List UInt8)) (i : Nat) (hi : i ≤ L.length) (p : List UInt8 × List UInt8) (tail : List Value) :
    ((((cells2 L ++ [str [],str []] ++ tail).take ((i + 1) * 2) ++ cells2 (L.drop i) ++ (cells2 L ++ [str [],str []] ++ tail).drop ((i + 1) * 2 + (cells2 (L.drop i)).length)).set (i * 2) (str p.1)).set (i * 2 + 1) (str p.2)) = cells2 (L.take i ++ p::L.drop i) ++ tail := by
  have e1 : (cells2 L ++ [str [],str []] ++ tail) = cells2 (L ++ [([],[])]) ++ tail := by rw [cells2_append]; rfl
  have hl1 : (cells2 (L ++ [([],[])])).length = (L.length + 1) * 2 := by rw [cells2_length,List.length_append]; rfl
  have hd : (i + 1) * 2 + (cells2 (L.drop i)).length = (L.length + 1) * 2 := by rw [cells2_length,List.length_drop]; omega
  rw [e1,hd,List.drop_left' hl1,List.take_append_of_le_length (by rw [hl1]; omega),cells2_take]
  have hlt : i < (L ++ [(([] : List UInt8),([] : List UInt8))]).length := by rw [List.length_append]; simp; omega
  rw [List.take_succ_eq_append_getElem hlt,cells2_append,List.take_append_of_le_length hi]
  generalize (L ++ [(([] : List UInt8),([] : List UInt8))])[i] = q
  have hlen : (cells2 (L.take i)).length = i * 2 := by rw [cells2_length,List.length_take]; omega
  rw [cells2_append,cells2_cons,cells2_cons,cells2_nil]
  simp only [List.append_assoc,List.cons_append,List.nil_append]
  rw [List.set_append_right _ _ (by omega),hlen,Nat.sub_self,List.set_cons_zero,List.set_append_right _ _ (by omega),hlen,show i * 2 + 1 - i * 2 = 0 + 1 by omega,List.set_cons_succ,List.set_cons_zero]
noncomputable def code11 : Code := (seekC 11 (Tryz.f38.body.getD .skip)).getD .skip
noncomputable def code14 : Code := (seekC 14 (Tryz.f38.body.getD .skip)).getD .skip
set_option maxHeartbeats 8000000 in
theorem insFind (w : World) (hb g2 g3 r0 : Nat) (k v : List UInt8) (L : List (List UInt8 × List UInt8)) (p : Option Addr) (c : Nat) (h19 : w.cell? ⟨g3,19,none⟩ = some (.slice p L.length c)) (hp : ∀ (j : Nat) (hj : j < L.length),∃ g,p = some ⟨g,0,none⟩ ∧ w.cell? ⟨g,j * 2,none⟩ = some (str L[j].1)) (hl : L.length ≤ 4294967296)
    (Q : Exit → Act → World → Prop) {c1 c6 c7 c8 c9 c10 c11 c12 c13 c14 c15 c16 c17 c18 c19 c20 c21 c22 c23 c24 c25 c26 c27 c28 c29 c30 c31 c32 c33 c34 c35 c36 c37 c38 c39 c40 c41 c42 c43 c44 c45 c46 c47 c48 c49 c50 c51 c52 c53 c54 c55 c56 c57 c58 c59 c60 c61 c62 c63 c64 c65 c66 c67 c68 c69 c70 c71 c72 c73 c74 c75 c76 c77 c78 c79 c80 c81 c82 c83 c84 c85 c86 c87 c88 c89 c90 c91 c92 c93 c94 c95 c96 c98 c99 c100 c101 c102 c103 c104 c105 c106 c107 c108 c109 c110 c111 c112 c113 c114 c115 c116 c117 c118 c119 c120 c121 c122 c123 c124 c125 c126 c127 c128 c129 c130 c131 c132 c133 c134 c135 c136 c137 c138 c139 c140 c141 c142 c143 c144 : Value}
    (hQ : ∀ (d98 d99 d100 d101 d102 d103 d104 d105 d106 d107 d108 d109 d110 d111 d112 d113 d114 d115 d116 d117 d118 d119 d120 d121 d122 d123 d124 d125 d126 d127 d128 d129 d130 d131 d132 d133 d134 d135 d136 d137 d138 d139 d140 d141 d142 d143 : Value) (i : Nat),i ≤ L.length → Code.wp Tryz.prog code14 Q ⟨(.pointer (some ⟨hb,0,none⟩)::c1::.pointer (some ⟨g2,0,none⟩)::.pointer (some ⟨g3,0,none⟩)::str k::str v::.int .i64 i::c7::c8::c9::c10::c11::c12::c13::c14::c15::c16::c17::c18::c19::c20::c21::c22::c23::c24::c25::c26::c27::c28::c29::c30::c31::c32::c33::c34::c35::c36::c37::c38::c39::c40::c41::c42::c43::c44::c45::c46::c47::c48::c49::c50::c51::c52::c53::c54::c55::c56::c57::c58::c59::c60::c61::c62::c63::c64::c65::c66::c67::c68::c69::c70::c71::c72::c73::c74::c75::c76::c77::c78::c79::c80::c81::c82::c83::c84::c85::c86::c87::c88::c89::c90::c91::c92::c93::c94::c95::c96::.pointer (some ⟨r0,0,none⟩)::d98::d99::d100::d101::d102::d103::d104::d105::d106::d107::d108::d109::d110::d111::d112::d113::d114::d115::d116::d117::d118::d119::d120::d121::d122::d123::d124::d125::d126::d127::d128::d129::d130::d131::d132::d133::d134::d135::d136::d137::d138::d139::d140::d141::d142::d143::c144::[]).toArray,[]⟩ w) :
    Code.wp Tryz.prog code11 Q ⟨(.pointer (some ⟨hb,0,none⟩)::c1::.pointer (some ⟨g2,0,none⟩)::.pointer (some ⟨g3,0,none⟩)::str k::str v::c6::c7::c8::c9::c10::c11::c12::c13::c14::c15::c16::c17::c18::c19::c20::c21::c22::c23::c24::c25::c26::c27::c28::c29::c30::c31::c32::c33::c34::c35::c36::c37::c38::c39::c40::c41::c42::c43::c44::c45::c46::c47::c48::c49::c50::c51::c52::c53::c54::c55::c56::c57::c58::c59::c60::c61::c62::c63::c64::c65::c66::c67::c68::c69::c70::c71::c72::c73::c74::c75::c76::c77::c78::c79::c80::c81::c82::c83::c84::c85::c86::c87::c88::c89::c90::c91::c92::c93::c94::c95::c96::.pointer (some ⟨r0,0,none⟩)::c98::c99::c100::c101::c102::c103::c104::c105::c106::c107::c108::c109::c110::c111::c112::c113::c114::c115::c116::c117::c118::c119::c120::c121::c122::c123::c124::c125::c126::c127::c128::c129::c130::c131::c132::c133::c134::c135::c136::c137::c138::c139::c140::c141::c142::c143::c144::[]).toArray,[]⟩ w := by
  conv => arg 2; whnf
  have HQ := Lib.hid hQ; have HP := Lib.hid hp
  clear hQ hp
  go_wp2_with fail
  rename_i K1 hK1
  have HK := Lib.hid hK1
  clear hK1
  go_loopw [6] (fun s6 wr => ∃ i : Nat,i ≤ L.length ∧ s6 = .int .i64 i ∧ wr = w) (fun s6 _ => (intOf s6).toNat)
  case atStart => exact ⟨L.length,Nat.le_refl _,rfl,rfl⟩
  case round =>
    obtain ⟨i,hi,rfl,rfl⟩ := hrel
    rcases Nat.eq_zero_or_pos i with hz | hz
    · subst hz
      go_wp2_with fail
      refine HK.out _ _ ?_
      exact HQ.out _ _ _ _ _ _ _ _ _ _ _ _ _ _ _ _ _ _ _ _ _ _ _ _ _ _ _ _ _ _ _ _ _ _ _ _ _ _ _ _ _ _ _ _ _ _ 0 (Nat.zero_le _)
    · obtain ⟨j,hij⟩ : ∃ j,i = j + 1 := ⟨i - 1,by omega⟩
      have hj : j < L.length := by omega
      obtain ⟨g,rfl,hc⟩ := HP.out j hj
      have hgt : (0 : Int) < (i : Int) := by omega
      have hw : IntKind.i64.wrap ((i : Int) - 1) = (j : Int) := by rw [IntWalk.i64_in _ (by omega)]; omega
      have hj0 : (0 : Int) ≤ (j : Int) := by omega
      have hj1 : (j : Int) < (L.length : Int) := by omega
      have HI := Lib.hid (And.intro hi hij)
      generalize hLj : L[j].1 = kk at *
      clear hi hij hLj
      go_wp2_with fail
      · exact ⟨⟨j,by have := HI.out; omega,rfl,trivial⟩,by have := HI.out; simp [intOf]; omega⟩
      · refine HK.out _ _ ?_
        exact HQ.out _ _ _ _ _ _ _ _ _ _ _ _ _ _ _ _ _ _ _ _ _ _ _ _ _ _ _ _ _ _ _ _ _ _ _ _ _ _ _ _ _ _ _ _ _ _ i HI.out.1
end Go.Proofs.YtkanmkcojlefbaaGreatDoor
namespace Go.Proofs.YtkanmkcojlefbaaGreatDoor
open Go.RowKit
variable {c1 c7 c8 c9 c10 c11 c12 c13 c14 c15 c16 c17 c18 c19 c20 c21 c22 c23 c24 c25 c26 c27 c28 c29 c30 c31 c32 c33 c34 c35 c36 c37 c38 c39 c40 c41 c42 c43 c44 c45 c46 c47 c48 c49 c50 c51 c52 c53 c54 c55 c56 c57 c58 c59 c60 c61 c62 c63 c64 c65 c66 c67 c68 c69 c70 c71 c72 c73 c74 c75 c76 c77 c78 c79 c80 c81 c82 c83 c84 c85 c86 c87 c88 c89 c90 c91 c92 c93 c94 c95 c96 c98 c99 c100 c101 c102 c103 c104 c105 c106 c107 c108 c109 c110 c111 c112 c113 c114 c115 c116 c117 c118 c119 c120 c121 c122 c123 c124 c125 c126 c127 c128 c129 c130 c131 c132 c133 c134 c135 c136 c137 c138 c139 c140 c141 c142 c143 c144 : Value}
noncomputable def code15 : Code := (seekC 15 (Tryz.f38.body.getD .skip)).getD .skip
theorem info59 : (Tryz.prog.info? 59).map (fun i => (i.zero,i.size,i.bytes)) = some (some (.agg #[str [],str []]),2,32) := by kernel_rfl
structure Kp (w0 : World) (g3 : Nat) (w w' : World) : Prop where
  B : Below w0.heap.size w0 w'
  K : ∀ k o,w.heap[k]? = some o → k ≠ g3 → (∀ c fz,o ≠ .cells c 59 fz) → w'.heap[k]? = some o
  size : w.heap.size ≤ w'.heap.size
theorem own_below {w w' : World} {B : Nat} {e : TypeId} {s : Nat} {v : Value} {n : Nat} {xs : List Value} (h : w.ownsRow B e s v n xs) (f : Below w.heap.size w w') : w'.ownsRow B e s v n xs := by
  refine ⟨h.1,?_⟩
  rcases h.2 with h | ⟨g,cap,cur,h1,h2,h3,h4⟩
  · exact .inl h
  · exact .inr ⟨g,cap,cur,h1,h2,(f.block g (lt_of_heap h3)).trans h3,h4⟩
theorem grown_keep {w w' : World} {B n : Nat} {v : Value} {xs : List Value} (h : w.ownsRow B 59 2 v n xs) (hg : w.grownBy w' v.ownBlock) (k : Nat) (o : Obj) (hk : w.heap[k]? = some o) (ho : ∀ c fz,o ≠ .cells c 59 fz) : w'.heap[k]? = some o := by
  have hne : v.ownBlock ≠ some k := by
    intro e
    rcases h.2 with ⟨rfl,-⟩ | ⟨g,cap,cur,rfl,h2,h3,h4⟩
    · cases e
    · cases e
      rw [hk] at h3
      injection h3 with h3
      exact ho _ _ h3
  exact (hg.block k (lt_of_heap hk) (fun e => hne e.symm)).trans hk
theorem grown_below {w w' w0 : World} {n : Nat} {v : Value} {xs : List Value} (h : w.ownsRow w0.heap.size 59 2 v n xs) (hg : w.grownBy w' v.ownBlock) (hB : Below w0.heap.size w0 w) : Below w0.heap.size w0 w' :=
  ⟨hg.os.trans hB.os,hg.tape.trans hB.tape,hg.output.trans hB.output,Nat.le_trans hB.size hg.size,fun k hk => by
    have hne : v.ownBlock ≠ some k := by
      intro e
      rcases h.2 with ⟨rfl,-⟩ | ⟨g,cap,cur,rfl,h2,h3,h4⟩
      · cases e
      · cases e; have h9 : g < w0.heap.size := hk; omega
    exact (hg.block k (Nat.lt_of_lt_of_le hk hB.size) (fun e => hne e.symm)).trans (hB.block k hk)⟩
set_option maxHeartbeats 8000000 in
theorem insGrow (w w0 : World) (hb g2 g3 r0 : Nat) (k v : List UInt8) (i n : Nat) (X : IH) (xs : List Value) (hB : Below w0.heap.size w0 w) (hg : w0.heap.size ≤ g3) (hG3 : w.heap[g3]? = some (.cells X.cells.toArray 26 (0,0))) (hown : w.ownsRow w0.heap.size 59 2 X.recs n xs) (hn : n ≤ 4294967296)
    (Q : Exit → Act → World → Prop)
    (hQ : ∀ (d98 d99 d100 d101 d102 d103 d104 d105 d106 d107 d108 d109 d110 d111 d112 d113 d114 d115 d116 d117 d118 d119 d120 d121 d122 d123 d124 d125 d126 d127 d128 d129 d130 d131 d132 d133 d134 d135 d136 d137 d138 d139 d140 d141 d142 d143 : Value) (rv : Value) (w' : World),Kp w0 g3 w w' → w'.heap[g3]? = some (.cells ({ X with recs := rv } : IH).cells.toArray 26 (0,0)) → w'.ownsRow w0.heap.size 59 2 rv (n + 1) (xs ++ [str [],str []]) → Code.wp Tryz.prog code15 Q ⟨(.pointer (some ⟨hb,0,none⟩)::c1::.pointer (some ⟨g2,0,none⟩)::.pointer (some ⟨g3,0,none⟩)::str k::str v::.int .i64 i::c7::c8::c9::c10::c11::c12::c13::c14::c15::c16::c17::c18::c19::c20::c21::c22::c23::c24::c25::c26::c27::c28::c29::c30::c31::c32::c33::c34::c35::c36::c37::c38::c39::c40::c41::c42::c43::c44::c45::c46::c47::c48::c49::c50::c51::c52::c53::c54::c55::c56::c57::c58::c59::c60::c61::c62::c63::c64::c65::c66::c67::c68::c69::c70::c71::c72::c73::c74::c75::c76::c77::c78::c79::c80::c81::c82::c83::c84::c85::c86::c87::c88::c89::c90::c91::c92::c93::c94::c95::c96::.pointer (some ⟨r0,0,none⟩)::d98::d99::d100::d101::d102::d103::d104::d105::d106::d107::d108::d109::d110::d111::d112::d113::d114::d115::d116::d117::d118::d119::d120::d121::d122::d123::d124::d125::d126::d127::d128::d129::d130::d131::d132::d133::d134::d135::d136::d137::d138::d139::d140::d141::d142::d143::c144::[]).toArray,[]⟩ w') :
    Code.wp Tryz.prog code14 Q ⟨(.pointer (some ⟨hb,0,none⟩)::c1::.pointer (some ⟨g2,0,none⟩)::.pointer (some ⟨g3,0,none⟩)::str k::str v::.int .i64 i::c7::c8::c9::c10::c11::c12::c13::c14::c15::c16::c17::c18::c19::c20::c21::c22::c23::c24::c25::c26::c27::c28::c29::c30::c31::c32::c33::c34::c35::c36::c37::c38::c39::c40::c41::c42::c43::c44::c45::c46::c47::c48::c49::c50::c51::c52::c53::c54::c55::c56::c57::c58::c59::c60::c61::c62::c63::c64::c65::c66::c67::c68::c69::c70::c71::c72::c73::c74::c75::c76::c77::c78::c79::c80::c81::c82::c83::c84::c85::c86::c87::c88::c89::c90::c91::c92::c93::c94::c95::c96::.pointer (some ⟨r0,0,none⟩)::c98::c99::c100::c101::c102::c103::c104::c105::c106::c107::c108::c109::c110::c111::c112::c113::c114::c115::c116::c117::c118::c119::c120::c121::c122::c123::c124::c125::c126::c127::c128::c129::c130::c131::c132::c133::c134::c135::c136::c137::c138::c139::c140::c141::c142::c143::c144::[]).toArray,[]⟩ w := by
  conv => arg 2; whnf
  have HQ := Lib.hid hQ
  clear hQ
  obtain ⟨i5,hi5,hz0,hz1,hz2⟩ := info_parts info59
  have hb1 : Below w.heap.size w (w.alloc (.cells #[.string { data := #[] },.string { data := #[] }] 59)) := (Below.refl _ w).alloc (Nat.le_refl _) _
  have hnew := heap_alloc_new w (.cells #[.string { data := #[] },.string { data := #[] }] 59)
  have hown1 := own_below hown hb1
  have hB1 : Below w0.heap.size w0 (w.alloc (.cells #[.string { data := #[] },.string { data := #[] }] 59)) := hB.trans (hb1.mono hB.size)
  have hG31 := (hb1.block g3 (lt_of_heap hG3)).trans hG3
  have hnw : ∀ j u,([str [],str []] : List Value)[j]? = some u → (w.alloc (.cells #[.string { data := #[] },.string { data := #[] }] 59)).cell? ((⟨w.heap.size,0,none⟩ : Addr).add j) = some u := by
    intro j u hj
    rw [Lib.addr_add,Nat.zero_add]
    rw [Lib.cell_of_heap hnew]
    match j,hj with
    | 0,hj => exact hj
    | 1,hj => exact hj
    | j + 2,hj => simp at hj
  obtain ⟨v2,w2,hr,ho2,hgr2,-⟩ := run_append_own (P := Tryz.prog) (w.alloc (.cells #[.string { data := #[] },.string { data := #[] }] 59)) w0.heap.size 24 24 59 i5 (.agg #[str [],str []]) 2 32 und24 hi5 hz0 hz1 hz2 rfl (by omega) X.recs n xs hown1 ⟨w.heap.size,0,none⟩ 1 1 [str [],str []] rfl hnw (by intro u hu; simp at hu; subst hu; rfl) (by simp only [maxLen]; omega) (by omega) hB1.size
  obtain ⟨gg,cap,hv2⟩ : ∃ gg cap,v2 = .slice (some ⟨gg,0,none⟩) (n + 1) cap := by
    rcases ho2.2 with ⟨-,h0⟩ | ⟨gg,cap,cur,h1,-⟩
    · omega
    · exact ⟨gg,cap,h1⟩
  have hk2 := grown_keep hown1 hgr2
  have hB2 := grown_below hown1 hgr2 hB1
  have hG32 := hk2 g3 _ hG31 (fun c fz e => by cases e)
  have c19 : w.cell? ⟨g3,19,none⟩ = some X.recs := by rw [Lib.cell_of_heap hG3]; rfl
  have d19 : w2.cell? ⟨g3,19,none⟩ = some X.recs := by rw [Lib.cell_of_heap hG32]; rfl
  have z19 : w2.frozen? ⟨g3,19,none⟩ = false := Lib.frozen_of_heap hG32 19
  have hset := heap_set_same (i := 19) v2 hG32
  have hsz2 := hgr2.size
  have hKP : Kp w0 g3 w (w2.setCell ⟨g3,19,none⟩ v2) := ⟨hB2.setCell (p := ⟨g3,19,none⟩) hg v2,fun q o hq hne ho => (heap_set_other (a := ⟨g3,19,none⟩) v2 hne).trans (hk2 q o ((hb1.block q (lt_of_heap hq)).trans hq) ho),by have := hb1.size; simp only [World.setCell,Array.size_modify] at *; first | omega | (simp; omega)⟩
  have hown3 : (w2.setCell ⟨g3,19,none⟩ v2).ownsRow w0.heap.size 59 2 v2 (n + 1) (xs ++ [str [],str []]) := by
    refine ⟨ho2.1,?_⟩
    rcases ho2.2 with h | ⟨gg,cap,cur,h1,h2,h3,h4⟩
    · exact .inl h
    · refine .inr ⟨gg,cap,cur,h1,h2,(heap_set_other (a := ⟨g3,19,none⟩) v2 (fun e => ?_)).trans h3,h4⟩
      subst e
      rw [hG32] at h3
      injection h3 with h3
      injection h3 with _ t _
      exact absurd t (by decide)
  subst hv2
  have HKP := Lib.hid hKP; have HO3 := Lib.hid hown3; have HSET := Lib.hid hset; have HR := Lib.hid hr
  clear hnew hown1 hB1 hG31 hnw ho2 hgr2 hk2 hB2 hG32 hset hsz2 hKP hown3 hr hown hG3 hB hb1 hi5 hz0 hz1 hz2
  refine wp_seq_k (fun K1 hK1 => ?_)
  have HK1 := Lib.hid hK1
  clear hK1
  go_wp2_with (first | (at_builtin; refine wpList_app_run rfl (.tmp 122) (.tmp 124) 24 rfl _ _ rfl rfl _ w2 HR.out ?_) | fail)
  refine HK1.out _ _ ?_
  exact HQ.out _ _ _ _ _ _ _ _ _ _ _ _ _ _ _ _ _ _ _ _ _ _ _ _ _ _ _ _ _ _ _ _ _ _ _ _ _ _ _ _ _ _ _ _ _ _ (.slice (some ⟨gg,0,none⟩) (n + 1) cap) _ HKP.out HSET.out HO3.out
end Go.Proofs.YtkanmkcojlefbaaGreatDoor
