/-
  Part of the proof; holds the texts Lw3, LGl, LArg.
-/
import Derived.Test.YtkanmkcojlefbaaGreatDoorM48
import Derived.Test.YtkanmkcojlefbaaGreatDoorM00
import Derived.Test.YtkanmkcojlefbaaGreatDoorM09
import Derived.Lib.LaidU8
import Derived.WideKeyElems2
import Derived.Maps.OwnSet
import Derived.OpenShut
set_option maxRecDepth 100000
set_option linter.unusedSimpArgs false
set_option linter.unusedVariables false
namespace Go.Proofs.YtkanmkcojlefbaaGreatDoor
open Go.RowKit
theorem h26_set {w : World} {g : Nat} {x x2 : IH} (hs : w.heap[g]? = some (.cells x.cells.toArray 26 (0,0))) (k : Nat) (v : Value) (he : x.cells.set k v = x2.cells) : (w.setCell ⟨g,k,none⟩ v).heap[g]? = some (.cells x2.cells.toArray 26 (0,0)) := by
  have := heap_set_same (i := k) v hs
  rw [List.setIfInBounds_toArray,he] at this
  exact this
set_option maxHeartbeats 16000000 in
theorem law6 (G0 : Nat) (E : Nat → Addr) (w : World) (hgl : Gl G0 E w) (h : IH) (Lr : List (List UInt8 × List UInt8)) (hr : RecS w h.recs Lr) (hLr : Lr.length ≤ 9223372036854775807) (vals : List (List UInt8)) (p : Option Addr) (c : Nat) (hv : StrS w (.slice p vals.length c) vals) (hvl : vals.length ≤ 9223372036854775807) (g : h.Rng) (aE : Addr) (hE : w.cell? ⟨0,0,none⟩ = some (errV aE)) :
    Calls Tryz.prog 6 #[.agg h.cells.toArray,.slice p vals.length c] w (LawTrue w) := by
  have hA := heap_alloc_new w (.cells h.cells.toArray 26)
  have hBA : Below w.heap.size w (w.alloc (.cells h.cells.toArray 26)) := (Below.refl _ w).alloc (Nat.le_refl _) _
  obtain ⟨wA,hwA⟩ : ∃ wA,wA = w.alloc (.cells h.cells.toArray 26) := ⟨_,rfl⟩
  obtain ⟨hb,hhb⟩ : ∃ hb,hb = w.heap.size := ⟨_,rfl⟩
  rw [← hwA,← hhb] at hA
  rw [← hwA] at hBA
  have HF3 := Lib.hid (specFits3 h Lr wA (hr.below hBA) hLr)
  have HF6 := Lib.hid (fun w' (hb' : Below w.heap.size w w') => specFits6 (.slice p vals.length c) vals w' (hv.below hb') hvl)
  have HA := Lib.hid hA; have HBA := Lib.hid hBA; have HW := Lib.hid hwA; have HB := Lib.hid hhb; have HGL := Lib.hid hgl; have HV := Lib.hid hv; have HG := Lib.hid g; have HE := Lib.hid hE
  have HLD := Lib.hid (load26 hA)
  clear hA hBA hwA hhb hgl hv g hr hE
  go_enter Tryz.func6,Tryz.ntmps6
  go_upto_region 1 with fail
  rw [← HW.out,← HB.out]
  go_wp2_with (first | (refine wpList_load_run rfl 26 _ rfl ⟨hb,0,none⟩ rfl _ HLD.out ?_) | fail)
  refine HF3.out.mono ?_
  rintro e w1 ⟨b,rfl,hb1,hp1⟩
  have HA1 := Lib.hid ((hb1.block hb (lt_of_heap HA.out)).trans HA.out)
  have HB1 := Lib.hid (HBA.out.trans (hb1.mono HBA.out.size))
  have HP1 := Lib.hid hp1
  clear hb1 hp1 HLD HF3
  cases b with
  | false =>
    go_wp2_with fail
    go_ret
    exact ⟨rfl,HB1.out⟩
  | true =>
    have hf6 := Lib.hid (HF6.out w1 HB1.out)
    go_wp2_with fail
    refine hf6.out.mono ?_
    rintro e w2 ⟨b,rfl,hb2,hp2⟩
    have HA2 := Lib.hid ((hb2.block hb (lt_of_heap HA1.out)).trans HA1.out)
    have HB2 := Lib.hid (HB1.out.trans (hb2.mono HB1.out.size))
    have HP2 := Lib.hid hp2
    clear hb2 hp2 hf6 HF6
    cases b with
    | false =>
      go_wp2_with fail
      go_ret
      exact ⟨rfl,HB2.out⟩
    | true =>
      have c20 := ih_cell1 HA2.out 20 (.int .i64 h.fmt) rfl
      have z20 : w2.frozen? ⟨hb,20,none⟩ = false := Lib.frozen_of_heap HA2.out 20
      have hA3 := h26_set (x2 := { h with fmt := 2 }) HA2.out 20 (.int .i64 2) rfl
      have c19 := ih_cell1 hA3 19 h.recs rfl
      have z19 : (w2.setCell ⟨hb,20,none⟩ (.int .i64 2)).frozen? ⟨hb,19,none⟩ = false := Lib.frozen_of_heap hA3 19
      have hA4 := h26_set (x2 := { h with fmt := 2,recs := .slice none 0 0 }) hA3 19 (.slice none 0 0) rfl
      have hB4 : Below w.heap.size w ((w2.setCell ⟨hb,20,none⟩ (.int .i64 2)).setCell ⟨hb,19,none⟩ (.slice none 0 0)) := (HB2.out.setCell (p := ⟨hb,20,none⟩) (by show w.heap.size ≤ hb; rw [HB.out]; exact Nat.le_refl _) _).setCell (p := ⟨hb,19,none⟩) (by show w.heap.size ≤ hb; rw [HB.out]; exact Nat.le_refl _) _
      have HA4 := Lib.hid hA4; have HB4 := Lib.hid hB4
      clear hA3 hA4 hB4
      go_upto_region 5 with fail
      obtain ⟨w4,hw4⟩ : ∃ w4,w4 = ((w2.setCell ⟨hb,20,none⟩ (.int .i64 2)).setCell ⟨hb,19,none⟩ (.slice none 0 0)) := ⟨_,rfl⟩
      rw [← hw4] at HA4 HB4 ⊢
      clear hw4 c20 z20 c19 z19
      obtain ⟨h4,hh4⟩ : ∃ h4 : IH,h4 = { h with fmt := 2,recs := .slice none 0 0 } := ⟨_,rfl⟩
      rw [← hh4] at HA4
      have HH4 := Lib.hid hh4
      have hrec4 : h4.recs = .slice none 0 0 := by rw [hh4]
      have HFT : Hid (h4.name.length ≤ 2147483647 ∧ h4.link.length ≤ 2147483647 ∧ h4.user.length ≤ 2147483647 ∧ h4.group.length ≤ 2147483647) := Lib.hid (by
        have := HP1.out (by trivial)
        rw [hh4]
        exact ⟨this.1,this.2.1,this.2.2.1,this.2.2.2.1⟩)
      have HPL := Lib.hid (specPlain h4 [] w4 (by rw [hrec4]; exact recS_nil w4 none 0) (by decide))
      have HLD := Lib.hid (load26 HA4.out)
      clear hh4 hrec4
      go_wp2_with (first | (refine wpList_load_run rfl 26 _ rfl ⟨hb,0,none⟩ rfl _ HLD.out ?_) | fail)
      refine HPL.out.mono ?_
      rintro e w5 ⟨rv,rfl,hr5,-,hb5⟩
      obtain ⟨p5,c5,rfl,-⟩ := hr5
      have HA5 := Lib.hid ((hb5.block hb (lt_of_heap HA4.out)).trans HA4.out)
      have HB5 := Lib.hid (HB4.out.trans (hb5.mono HB4.out.size))
      have HCH := Lib.hid (specChoose ({ h4 with recs := .slice p5 0 c5 } : IH) w5 p5 c5 rfl (by show h4.fmt = 2; rw [HH4.out]) HFT.out.1 HFT.out.2.1 HFT.out.2.2.1 HFT.out.2.2.2)
      clear hb5 HPL HLD
      go_wp2_with fail
      refine HCH.out.mono ?_
      rintro e w6 ⟨h2,v,rfl,hb6,hv6,ho6,hp6⟩
      have HA6 := Lib.hid ((hb6.block hb (lt_of_heap HA5.out)).trans HA5.out)
      have HB6 := Lib.hid (HB5.out.trans (hb6.mono HB5.out.size))
      have HP6 := Lib.hid hp6
      clear hb6 hp6 HCH
      have hz := heap_alloc_new w6 (.cells #[.int .u8 0,.string { data := #[] },.string { data := #[] },.int .i64 0,.int .i64 0,.int .i64 0,.int .i64 0,.string { data := #[] },.string { data := #[] },.int .i64 0,.int .i64 0,.bool false,.bool false,.int .i64 0,.int .i64 0,.int .i64 0,.int .i64 0,.int .i64 0,.int .i64 0,.slice none 0 0,.int .i64 0] 31)
      have hbA : Below w6.heap.size w6 (w6.alloc (.cells #[.int .u8 0,.string { data := #[] },.string { data := #[] },.int .i64 0,.int .i64 0,.int .i64 0,.int .i64 0,.string { data := #[] },.string { data := #[] },.int .i64 0,.int .i64 0,.bool false,.bool false,.int .i64 0,.int .i64 0,.int .i64 0,.int .i64 0,.int .i64 0,.int .i64 0,.slice none 0 0,.int .i64 0] 31)) := (Below.refl _ w6).alloc (Nat.le_refl _) _
      obtain ⟨w7,hst,hg7,-,hbl7,-⟩ := store31 h2 ho6 rfl hz
      have hb7 : Below w6.heap.size w6 w7 := hbl7 _ _ hbA (Nat.le_refl _)
      have HST := Lib.hid hst
      have HA7 := Lib.hid ((hb7.block hb (lt_of_heap HA6.out)).trans HA6.out)
      have HB7 := Lib.hid (HB6.out.trans (hb7.mono HB6.out.size))
      have HG7 := Lib.hid hg7
      clear hz hbA hst hg7 hbl7 hb7 ho6
      by_cases hv1 : v = 1
      · subst hv1
        have hp := HP6.out rfl
        have HP := Lib.hid hp
        clear hp hv6
        go_upto_region 6 with (first | (refine wpList_store_run rfl 31 _ _ rfl ⟨w6.heap.size,0,none⟩ rfl _ rfl w7 HST.out ?_) | fail)
        rename_i K1 hK1 K2 hK2
        have HK := Lib.hid hK1
        clear hK1
        obtain ⟨g5,hg5⟩ : ∃ g5,g5 = w6.heap.size := ⟨_,rfl⟩
        rw [← hg5] at HG7 ⊢
        clear hg5
        go_wp2_with fail
        refine HK.out _ _ ?_
        have g := HG.out
        obtain ⟨he2,hcan⟩ := HP.out
        exact law8 G0 E w7 w HGL.out h4 h2 hb g5 (by rw [HH4.out] at HA7 ⊢; exact HA7.out) HG7.out HB7.out (by rw [HB.out]; exact Nat.le_refl _) aE HE.out hcan (by rw [HH4.out]; exact ⟨g.typ,g.size,g.mode,g.uid,g.gid,g.maj,g.mnr⟩) (by rw [HH4.out]) ⟨_,_,he2⟩ vals p c HV.out (HP2.out (by trivial))
      · have hvb : (v == 1) = false := by simpa using hv1
        have hvb2 : (v != 1) = true := by simpa using hv1
        go_wp2_with (first | (refine wpList_store_run rfl 31 _ _ rfl ⟨w6.heap.size,0,none⟩ rfl _ rfl w7 HST.out ?_) | fail)
        go_ret
        exact ⟨rfl,HB7.out⟩
end Go.Proofs.YtkanmkcojlefbaaGreatDoor
namespace Go.Proofs.YtkanmkcojlefbaaGreatDoor
open Go.ChangeShapes Go.WideShapes Go.ChangeAt Go.RowKit Go.Maps
theorem und194 : Tryz.prog.underlying 194 = some (.map 9 4) := by kernel_rfl
theorem elemAt_bool {H : Type} {enc : TypeId × Value → H} {P : Program} {base : Nat} {held : Bool} {e : TypeId} (he : P.underlying e = some .bool) {W : World} {sp : Nat → Bool} {m : Nat} {v : Value} {z : DataW H × List MemPlace} (h : WideElems.elemAt enc P W base sp held m e v = some z) : plainElem P e v = some z := by
  unfold WideElems.elemAt at h
  split at h
  · rename_i hf
    obtain ⟨b,hc,rfl⟩ := DataW.trod_bool he h
    cases v <;> simp [Value.formed,he,Value.cells] at hf hc
    subst hc
    simp [plainElem,he]
  · cases h
theorem keys_atKey (k : List UInt8) : (Rows.laid_tapearchives_pub_gotar_basicKeys (H := Unit)).atKey (.string k) (.lit (.bool false)) = .lit (.bool (decide (k ∈ tenKeys))) := by
  by_cases hk : k ∈ tenKeys
  · rw [decide_eq_true hk]
    simp only [tenKeys,List.mem_cons,List.not_mem_nil,or_false] at hk
    rcases hk with rfl | rfl | rfl | rfl | rfl | rfl | rfl | rfl | rfl | rfl <;> rfl
  · rw [decide_eq_false hk]
    have h : ∀ q ∈ tenKeys,(q == k) = false := fun q hq => by
      rw [beq_eq_false_iff_ne]; rintro rfl; exact hk hq
    have h1 := h kPath (by decide); have h2 := h kLink (by decide); have h3 := h kSize (by decide); have h4 := h kUid (by decide); have h5 := h kGid (by decide)
    have h6 := h kUname (by decide); have h7 := h kGname (by decide); have h8 := h kMtime (by decide); have h9 := h kAtime (by decide); have h0 := h kCtime (by decide)
    simp only [kPath,kLink,kSize,kUid,kGid,kUname,kGname,kMtime,kAtime,kCtime] at h1 h2 h3 h4 h5 h6 h7 h8 h9 h0
    simp only [Rows.laid_tapearchives_pub_gotar_basicKeys,DataW.atKey,List.find?_cons,List.find?_nil,Lit.sameKey,h1,h2,h3,h4,h5,h6,h7,h8,h9,h0]
theorem keySet_of {W : World} {r : List (String × DataW Unit)} (h : laidMet Tryz.prog (("tapearchives/pub/gotar.basicKeys",Rows.laid_tapearchives_pub_gotar_basicKeys)::r) W) : ∃ mb,mb < W.heap.size ∧ W.cell? ⟨7,0,none⟩ = some (.map (some mb)) ∧ KeySet W mb := by
  obtain ⟨g,t,cs,fuel,p,hg,ht,hv,hd⟩ := Lib.laidMet.reads h (List.mem_cons_self ..)
  have eg : Tryz.prog.globalNamed "tapearchives/pub/gotar.basicKeys" = some 7 := by kernel_rfl
  obtain rfl := Option.some.inj (eg.symm.trans hg)
  have et : (Tryz.prog.globals[7]?).map (·.type) = some 194 := by kernel_rfl
  obtain rfl := Option.some.inj (et.symm.trans ht)
  rcases WideElems.open_map und194 hd with ⟨-,hx⟩ | ⟨b,es,clock,n,-,hcs,hb,-,F,hx⟩
  · cases hx
  · have ho := World.ownsMap_of_fit (R := plainElem Tryz.prog 4) hb F (fun x _ z hz => elemAt_bool Tryz.underlying4 hz)
    refine ⟨b,lt_of_heap hb,?_,_,es.size,ho,fun k => ?_⟩
    · have := World.var?_cell hg hv 0
      rw [this]
      obtain rfl : cs = #[.map (some b)] := by
        apply Array.toList_inj.1; rw [hcs]
      rfl
    · have hD := (Prod.mk.inj hx).1
      rw [← hD]
      exact keys_atKey k
theorem gl_of_laid {W : World} (h : laidMet Tryz.prog Rows.fnFieldsComeFirstRow.laid W) : ∃ E,Gl W.heap.size E W := by
  have t1 : laidMet Tryz.prog (("math/bits.deBruijn64tab",Lib.tabData .u8 [0,1,56,2,57,49,28,3,61,58,42,50,38,29,17,4,62,47,59,36,45,43,51,22,53,39,33,30,24,18,12,5,63,55,48,27,60,41,37,16,46,35,44,21,52,32,23,11,54,26,40,15,34,20,31,10,25,14,19,9,13,8,7,6])::_) W := h.tail
  have t2 : laidMet Tryz.prog (("internal/strconv.uint64pow10",Lib.tabData .u64 Lib.pow10Tab)::_) W := h.tail.tail
  have t7 : laidMet Tryz.prog (("io.EOF",Rows.laid_io_EOF)::_) W := h.tail.tail.tail.tail.tail.tail.tail
  have tk : laidMet Tryz.prog (("tapearchives/pub/gotar.basicKeys",Rows.laid_tapearchives_pub_gotar_basicKeys)::_) W := t7.tail.tail.tail.tail.tail.tail.tail.tail.tail
  obtain ⟨a0,h0⟩ := sentinel t7 (by kernel_rfl) (by kernel_rfl)
  obtain ⟨a5,h5⟩ := sentinel t7.tail (by kernel_rfl) (by kernel_rfl)
  obtain ⟨a18,h18⟩ := sentinel t7.tail.tail (by kernel_rfl) (by kernel_rfl)
  obtain ⟨a1,h1⟩ := sentinel t7.tail.tail.tail (by kernel_rfl) (by kernel_rfl)
  obtain ⟨a2,h2⟩ := sentinel t7.tail.tail.tail.tail (by kernel_rfl) (by kernel_rfl)
  obtain ⟨a3,h3⟩ := sentinel t7.tail.tail.tail.tail.tail (by kernel_rfl) (by kernel_rfl)
  obtain ⟨a4,h4⟩ := sentinel t7.tail.tail.tail.tail.tail.tail (by kernel_rfl) (by kernel_rfl)
  obtain ⟨a6,h6⟩ := sentinel t7.tail.tail.tail.tail.tail.tail.tail (by kernel_rfl) (by kernel_rfl)
  obtain ⟨mb,k1,k2,k3⟩ := keySet_of tk
  have tb := Lib.tabIs_of_head (g := 15) (by kernel_rfl) (t := 382) (by kernel_rfl) (e := 5) (n := 64) Tryz.underlying382 Tryz.underlying5 (by kernel_rfl) (by kernel_rfl) t1
  have tp := Lib.tabIs_of_head (g := 10) (by kernel_rfl) (t := 335) (by kernel_rfl) (e := 124) (n := 20) Tryz.underlying335 Tryz.underlying124 (by kernel_rfl) (by kernel_rfl) t2
  refine ⟨fun i => match i with | 0 => a0 | 1 => a1 | 2 => a2 | 3 => a3 | 4 => a4 | 5 => a5 | _ => a6,Nat.le_refl _,block_lt_of_cell h18,fun i hi => ?_,?_,tp,mb,k1,k2,k3⟩
  · match i,hi with
    | 0,_ => exact h0
    | 1,_ => exact h1
    | 2,_ => exact h2
    | 3,_ => exact h3
    | 4,_ => exact h4
    | 5,_ => exact h5
    | 6,_ => exact h6
  · exact tb.cell (g := 15) (by kernel_rfl) 7 (by decide)
end Go.Proofs.YtkanmkcojlefbaaGreatDoor
namespace Go.Proofs.YtkanmkcojlefbaaGreatDoor
open Go.ChangeShapes Go.WideShapes Go.ChangeAt Go.RowKit
section
variable {H : Type} {enc : TypeId × Value → H} {w : World} {base : Nat} {sp : Nat → Bool} {held : Bool}
theorem str_back (s : ByteArray) : Value.string s = str s.data.toList := by cases s; rfl
theorem trod_str {fuel : Nat} {cs : List Value} {x : DataW H × List MemPlace} (h : DataW.trod enc Tryz.prog w base sp held fuel 9 cs = some x) : ∃ l : List UInt8,cs = [str l] ∧ x = (.lit (.string l),[]) ∧ l.length ≤ 9223372036854775807 := by
  obtain ⟨s,hc,hx,hl⟩ := DataW.trod_string Tryz.underlying9 h
  refine ⟨s.data.toList,by rw [hc,str_back],hx,?_⟩
  have : s.data.toList.length = s.size := Array.length_toList
  rw [this]; exact hl
theorem cells_one {a : Addr} {c1 : List Value} (h : w.cells? base a 1 = some c1) : ∃ c,c1 = [c] ∧ w.cell? a = some c := by
  unfold World.cells? at h
  split at h
  · have e0 : a.add 0 = a := by simp [Addr.add]
    simp only [List.range_succ,List.range_zero,List.nil_append,List.mapM_cons,List.mapM_nil,e0] at h
    cases hcc : w.cell? a with
    | none => simp [hcc] at h
    | some c => simp [hcc] at h; exact ⟨c,h.symm,rfl⟩
  · cases h
theorem cells_two {a : Addr} {c1 : List Value} (h : w.cells? base a 2 = some c1) : ∃ c d,c1 = [c,d] ∧ w.cell? a = some c ∧ w.cell? (a.add 1) = some d := by
  unfold World.cells? at h
  split at h
  · have e0 : a.add 0 = a := by simp [Addr.add]
    simp only [List.range_succ,List.range_zero,List.nil_append,List.cons_append,List.mapM_cons,List.mapM_nil,e0] at h
    cases hcc : w.cell? a with
    | none => simp [hcc] at h
    | some c =>
      cases hdd : w.cell? (a.add 1) with
      | none => simp [hcc,hdd] at h
      | some d => simp [hcc,hdd] at h; exact ⟨c,d,h.symm,rfl,rfl⟩
  · cases h
theorem spot_none {a : Addr} {v : Value} (h : w.cell? a = some v) : a = ⟨a.block,a.off,none⟩ := by
  obtain ⟨b,o,sp⟩ := a
  cases sp with
  | none => rfl
  | some s => unfold World.cell? at h; split at h <;> simp_all
theorem cellsOf9 : Tryz.prog.cellsOf 9 = 1 := by kernel_rfl
theorem cellsOf59 : Tryz.prog.cellsOf 59 = 2 := by kernel_rfl
theorem cellsOf2 : Tryz.prog.cellsOf 2 = 1 := by kernel_rfl
theorem cellsOf3 : Tryz.prog.cellsOf 3 = 1 := by kernel_rfl
theorem cellsOf4 : Tryz.prog.cellsOf 4 = 1 := by kernel_rfl
theorem cellsOf5 : Tryz.prog.cellsOf 5 = 1 := by kernel_rfl
theorem cellsOf23 : Tryz.prog.cellsOf 23 = 2 := by kernel_rfl
theorem cellsOf24 : Tryz.prog.cellsOf 24 = 1 := by kernel_rfl
theorem cellsOf26 : Tryz.prog.cellsOf 26 = 21 := by kernel_rfl
theorem fld {P : Program} {n t o m : Nat} {cs : List Value} {y : Option (DataW H × List MemPlace)} {r : List Value} (h : DataW.trod enc P w base sp held n t ((cs.drop o).take (P.cellsOf t)) = y) (hm : P.cellsOf t = m) (hr : (cs.drop o).take m = r) : DataW.trod enc P w base sp held n t r = y := by
  rw [hm,hr] at h; exact h
theorem trod_time {fuel : Nat} {a b : Value} {x : DataW H × List MemPlace} (h : DataW.trod enc Tryz.prog w base sp held fuel 23 [a,b] = some x) : ∃ s n : Int,a = .int .i64 s ∧ b = .int .i64 n ∧ (-9223372036854775808 ≤ s ∧ s ≤ 9223372036854775807) ∧ (-9223372036854775808 ≤ n ∧ n ≤ 9223372036854775807) := by
  obtain ⟨xs,n,rfl,-,-,hl,hf⟩ := DataW.trod_struct Tryz.underlying23 h
  have h0 := hf 0 _ rfl
  have h1 := hf 1 _ rfl
  have hl : xs.length = 2 := hl
  obtain ⟨x0,x1,rfl⟩ : ∃ x0 x1,xs = [x0,x1] := by
    match xs,hl with
    | [x0,x1],_ => exact ⟨_,_,rfl⟩
  obtain ⟨s,e0,-,w0⟩ := DataW.trod_int Tryz.underlying2 (fld h0 cellsOf2 rfl)
  obtain ⟨m,e1,-,w1⟩ := DataW.trod_int Tryz.underlying2 (fld h1 cellsOf2 rfl)
  have e0 : [a] = [Value.int .i64 s] := e0
  have e1 : [b] = [Value.int .i64 m] := e1
  exact ⟨s,m,(List.cons.inj e0).1,(List.cons.inj e1).1,bounds_i64 w0,bounds_i64 w1⟩
theorem trod_pair {fuel : Nat} {a b : Value} {x : DataW H × List MemPlace} (h : DataW.trod enc Tryz.prog w base sp held fuel 59 [a,b] = some x) : ∃ k v : List UInt8,a = str k ∧ b = str v := by
  obtain ⟨xs,n,rfl,-,-,hl,hf⟩ := DataW.trod_struct Tryz.underlying59 h
  have h0 := hf 0 _ rfl
  have h1 := hf 1 _ rfl
  have hl : xs.length = 2 := hl
  obtain ⟨x0,x1,rfl⟩ : ∃ x0 x1,xs = [x0,x1] := by
    match xs,hl with
    | [x0,x1],_ => exact ⟨_,_,rfl⟩
  obtain ⟨k,e0,-,-⟩ := trod_str (fld h0 cellsOf9 rfl)
  obtain ⟨v,e1,-,-⟩ := trod_str (fld h1 cellsOf9 rfl)
  have e0 : [a] = [str k] := e0
  have e1 : [b] = [str v] := e1
  exact ⟨k,v,(List.cons.inj e0).1,(List.cons.inj e1).1⟩
theorem pick {α : Type} {p : Nat → α → Prop} (n : Nat) (h : ∀ j,j < n → ∃ x,p j x) : ∃ l : List α,l.length = n ∧ ∀ (j : Nat) (hj : j < l.length),p j l[j] := by
  induction n with
  | zero => exact ⟨[],rfl,fun j hj => absurd hj (Nat.not_lt_zero _)⟩
  | succ n ih =>
    obtain ⟨l,hl,hp⟩ := ih (fun j hj => h j (by omega))
    obtain ⟨x,hx⟩ := h n (by omega)
    refine ⟨l ++ [x],by simp [hl],fun j hj => ?_⟩
    rw [List.length_append,List.length_singleton,hl] at hj
    by_cases hjn : j < l.length
    · rw [List.getElem_append_left hjn]; exact hp j hjn
    · have : j = n := by omega
      subst this
      rw [List.getElem_append_right (by omega)]
      simpa using hx
theorem open_recs {fuel : Nat} {v : Value} {x : DataW H × List MemPlace} (h : DataW.trod enc Tryz.prog w base sp held fuel 24 [v] = some x) : ∃ L,RecS w v L ∧ L.length ≤ 9223372036854775807 := by
  rcases DataW.trod_slice Tryz.underlying24 h with ⟨hc,-⟩ | ⟨a,len,cap,elems,rest,n,-,hc,-,-,hl,hcap,hle,hel,-⟩
  · have hc : v = .slice none 0 0 := (List.cons.inj hc).1
    exact ⟨[],⟨none,0,hc,fun j hj => absurd hj (Nat.not_lt_zero _)⟩,by decide⟩
  · have hc : v = .slice (some a) len cap := (List.cons.inj hc).1
    have hne : ∀ j,j < len → elems[j]? ≠ none := fun j hj e => by rw [List.getElem?_eq_none_iff] at e; omega
    have hel2 : ∀ j,j < len → ∃ p : List UInt8 × List UInt8,w.cell? (a.add (j * 2)) = some (str p.1) ∧ w.cell? ((a.add (j * 2)).add 1) = some (str p.2) := fun j hj => by
      have h1 := hel j hj
      rw [cellsOf59] at h1
      cases hc2 : w.cells? base (a.add (j * 2)) 2 with
      | none => rw [hc2] at h1; exact absurd h1.symm (by rw [Option.bind_none]; exact fun e => (hne j hj) e)
      | some cs =>
        obtain ⟨c,d,rfl,q1,q2⟩ := cells_two hc2
        rw [hc2,Option.bind_some] at h1
        obtain ⟨y,hy⟩ : ∃ y,elems[j]? = some y := ⟨_,List.getElem?_eq_getElem (by omega)⟩
        rw [hy] at h1
        obtain ⟨k,v,rfl,rfl⟩ := trod_pair h1
        exact ⟨(k,v),q1,q2⟩
    obtain ⟨L,hL,hp⟩ := pick (p := fun j (p : List UInt8 × List UInt8) => w.cell? (a.add (j * 2)) = some (str p.1) ∧ w.cell? ((a.add (j * 2)).add 1) = some (str p.2)) len hel2
    have hm : maxLen = 9223372036854775807 := by decide
    refine ⟨L,⟨some a,cap,by rw [hc,hL],fun j hj => ?_⟩,by omega⟩
    obtain ⟨h1,h2⟩ := hp j hj
    have ha : a = ⟨a.block,a.off,none⟩ := by
      have h0 := (hp 0 (by omega)).1
      have e : a.add (0 * 2) = a := by simp [Addr.add]
      rw [e] at h0
      exact spot_none h0
    have e1 : a.add (j * 2) = ⟨a.block,a.off + j * 2,none⟩ := by rw [ha]; exact Lib.addr_add _ _ _
    have e2 : (a.add (j * 2)).add 1 = ⟨a.block,a.off + j * 2 + 1,none⟩ := by rw [e1]; exact Lib.addr_add _ _ _
    rw [e2] at h2; rw [e1] at h1
    exact ⟨a.block,a.off,congrArg some ha,block_lt_of_cell (a := ⟨a.block,a.off + j * 2,none⟩) h1,h1,h2⟩
theorem open_strs {fuel : Nat} {v : Value} {x : DataW H × List MemPlace} (h : DataW.trod enc Tryz.prog w base sp held fuel 54 [v] = some x) : ∃ L,StrS w v L ∧ L.length ≤ 9223372036854775807 := by
  rcases DataW.trod_slice Tryz.underlying54 h with ⟨hc,-⟩ | ⟨a,len,cap,elems,rest,n,-,hc,-,-,hl,hcap,hle,hel,-⟩
  · have hc : v = .slice none 0 0 := (List.cons.inj hc).1
    exact ⟨[],⟨none,0,hc,fun j hj => absurd hj (Nat.not_lt_zero _)⟩,by decide⟩
  · have hc : v = .slice (some a) len cap := (List.cons.inj hc).1
    have hne : ∀ j,j < len → elems[j]? ≠ none := fun j hj e => by rw [List.getElem?_eq_none_iff] at e; omega
    have hel2 : ∀ j,j < len → ∃ p : List UInt8,w.cell? (a.add j) = some (str p) := fun j hj => by
      have h1 := hel j hj
      rw [cellsOf9,Nat.mul_one] at h1
      cases hc2 : w.cells? base (a.add j) 1 with
      | none => rw [hc2] at h1; exact absurd h1.symm (by rw [Option.bind_none]; exact fun e => (hne j hj) e)
      | some cs =>
        obtain ⟨c,rfl,q1⟩ := cells_one hc2
        rw [hc2,Option.bind_some] at h1
        obtain ⟨y,hy⟩ : ∃ y,elems[j]? = some y := ⟨_,List.getElem?_eq_getElem (by omega)⟩
        rw [hy] at h1
        obtain ⟨k,e,-⟩ := trod_str h1
        have e : c = str k := (List.cons.inj e).1
        exact ⟨k,by rw [q1,e]⟩
    obtain ⟨L,hL,hp⟩ := pick (p := fun j (p : List UInt8) => w.cell? (a.add j) = some (str p)) len hel2
    have hm : maxLen = 9223372036854775807 := by decide
    refine ⟨L,⟨some a,cap,by rw [hc,hL],fun j hj => ?_⟩,by omega⟩
    have h1 := hp j hj
    have ha : a = ⟨a.block,a.off,none⟩ := by
      have h0 := hp 0 (by omega)
      have e : a.add 0 = a := by simp [Addr.add]
      rw [e] at h0
      exact spot_none h0
    have e1 : a.add j = ⟨a.block,a.off + j,none⟩ := by rw [ha]; exact Lib.addr_add _ _ _
    rw [e1] at h1
    exact ⟨a.block,a.off,congrArg some ha,block_lt_of_cell (a := ⟨a.block,a.off + j,none⟩) h1,h1⟩
theorem open_hdr {fuel : Nat} {cs : List Value} {x : DataW H × List MemPlace} (h : DataW.trod enc Tryz.prog w base sp held fuel 26 cs = some x) : ∃ (hd : IH) (L : List (List UInt8 × List UInt8)),cs = hd.cells ∧ hd.Rng ∧ RecS w hd.recs L ∧ L.length ≤ 9223372036854775807 := by
  obtain ⟨xs,n,rfl,-,hlen,hl,hf⟩ := DataW.trod_struct Tryz.underlying26 h
  rw [cellsOf26] at hlen
  have hl : xs.length = 18 := hl
  obtain ⟨c0,c1,c2,c3,c4,c5,c6,c7,c8,c9,c10,c11,c12,c13,c14,c15,c16,c17,c18,c19,c20,rfl⟩ : ∃ c0 c1 c2 c3 c4 c5 c6 c7 c8 c9 c10 c11 c12 c13 c14 c15 c16 c17 c18 c19 c20,cs = [c0,c1,c2,c3,c4,c5,c6,c7,c8,c9,c10,c11,c12,c13,c14,c15,c16,c17,c18,c19,c20] := by
    match cs,hlen with
    | [c0,c1,c2,c3,c4,c5,c6,c7,c8,c9,c10,c11,c12,c13,c14,c15,c16,c17,c18,c19,c20],_ => exact ⟨_,_,_,_,_,_,_,_,_,_,_,_,_,_,_,_,_,_,_,_,_,rfl⟩
  have hx : ∀ i,i < 18 → ∃ y,xs[i]? = some y := fun i hi => ⟨_,List.getElem?_eq_getElem (by omega)⟩
  obtain ⟨y0,hy0⟩ := hx 0 (by omega)
  have h0 := fld (r := [c0]) ((hf 0 _ rfl).trans hy0) cellsOf5 rfl
  obtain ⟨v0,e0,-,w0⟩ := DataW.trod_int Tryz.underlying5 h0
  obtain rfl := (List.cons.inj e0).1
  obtain ⟨y1,hy1⟩ := hx 1 (by omega)
  have h1 := fld (r := [c1]) ((hf 1 _ rfl).trans hy1) cellsOf9 rfl
  obtain ⟨v1,e1,-,-⟩ := trod_str h1
  obtain rfl := (List.cons.inj e1).1
  obtain ⟨y2,hy2⟩ := hx 2 (by omega)
  have h2 := fld (r := [c2]) ((hf 2 _ rfl).trans hy2) cellsOf9 rfl
  obtain ⟨v2,e2,-,-⟩ := trod_str h2
  obtain rfl := (List.cons.inj e2).1
  obtain ⟨y3,hy3⟩ := hx 3 (by omega)
  have h3 := fld (r := [c3]) ((hf 3 _ rfl).trans hy3) cellsOf2 rfl
  obtain ⟨v3,e3,-,w3⟩ := DataW.trod_int Tryz.underlying2 h3
  obtain rfl := (List.cons.inj e3).1
  obtain ⟨y4,hy4⟩ := hx 4 (by omega)
  have h4 := fld (r := [c4]) ((hf 4 _ rfl).trans hy4) cellsOf2 rfl
  obtain ⟨v4,e4,-,w4⟩ := DataW.trod_int Tryz.underlying2 h4
  obtain rfl := (List.cons.inj e4).1
  obtain ⟨y5,hy5⟩ := hx 5 (by omega)
  have h5 := fld (r := [c5]) ((hf 5 _ rfl).trans hy5) cellsOf3 rfl
  obtain ⟨v5,e5,-,w5⟩ := DataW.trod_int Tryz.underlying3 h5
  obtain rfl := (List.cons.inj e5).1
  obtain ⟨y6,hy6⟩ := hx 6 (by omega)
  have h6 := fld (r := [c6]) ((hf 6 _ rfl).trans hy6) cellsOf3 rfl
  obtain ⟨v6,e6,-,w6⟩ := DataW.trod_int Tryz.underlying3 h6
  obtain rfl := (List.cons.inj e6).1
  obtain ⟨y7,hy7⟩ := hx 7 (by omega)
  have h7 := fld (r := [c7]) ((hf 7 _ rfl).trans hy7) cellsOf9 rfl
  obtain ⟨v7,e7,-,-⟩ := trod_str h7
  obtain rfl := (List.cons.inj e7).1
  obtain ⟨y8,hy8⟩ := hx 8 (by omega)
  have h8 := fld (r := [c8]) ((hf 8 _ rfl).trans hy8) cellsOf9 rfl
  obtain ⟨v8,e8,-,-⟩ := trod_str h8
  obtain rfl := (List.cons.inj e8).1
  obtain ⟨y9,hy9⟩ := hx 9 (by omega)
  have h9 := fld (r := [c9,c10]) ((hf 9 _ rfl).trans hy9) cellsOf23 rfl
  obtain ⟨v9,u9,rfl,rfl,-,-⟩ := trod_time h9
  obtain ⟨y10,hy10⟩ := hx 10 (by omega)
  have h10 := fld (r := [c11]) ((hf 10 _ rfl).trans hy10) cellsOf4 rfl
  obtain ⟨v10,e10,-⟩ := DataW.trod_bool Tryz.underlying4 h10
  obtain rfl := (List.cons.inj e10).1
  obtain ⟨y11,hy11⟩ := hx 11 (by omega)
  have h11 := fld (r := [c12,c13]) ((hf 11 _ rfl).trans hy11) cellsOf23 rfl
  obtain ⟨v11,u11,rfl,rfl,-,-⟩ := trod_time h11
  obtain ⟨y12,hy12⟩ := hx 12 (by omega)
  have h12 := fld (r := [c14]) ((hf 12 _ rfl).trans hy12) cellsOf4 rfl
  obtain ⟨v12,e12,-⟩ := DataW.trod_bool Tryz.underlying4 h12
  obtain rfl := (List.cons.inj e12).1
  obtain ⟨y13,hy13⟩ := hx 13 (by omega)
  have h13 := fld (r := [c15,c16]) ((hf 13 _ rfl).trans hy13) cellsOf23 rfl
  obtain ⟨v13,u13,rfl,rfl,-,-⟩ := trod_time h13
  obtain ⟨y14,hy14⟩ := hx 14 (by omega)
  have h14 := fld (r := [c17]) ((hf 14 _ rfl).trans hy14) cellsOf2 rfl
  obtain ⟨v14,e14,-,w14⟩ := DataW.trod_int Tryz.underlying2 h14
  obtain rfl := (List.cons.inj e14).1
  obtain ⟨y15,hy15⟩ := hx 15 (by omega)
  have h15 := fld (r := [c18]) ((hf 15 _ rfl).trans hy15) cellsOf2 rfl
  obtain ⟨v15,e15,-,w15⟩ := DataW.trod_int Tryz.underlying2 h15
  obtain rfl := (List.cons.inj e15).1
  obtain ⟨y16,hy16⟩ := hx 16 (by omega)
  have h16 := fld (r := [c19]) ((hf 16 _ rfl).trans hy16) cellsOf24 rfl
  obtain ⟨L,hL,hLl⟩ := open_recs h16
  obtain ⟨y17,hy17⟩ := hx 17 (by omega)
  have h17 := fld (r := [c20]) ((hf 17 _ rfl).trans hy17) cellsOf3 rfl
  obtain ⟨v17,e17,-,w17⟩ := DataW.trod_int Tryz.underlying3 h17
  obtain rfl := (List.cons.inj e17).1
  refine ⟨⟨v0,v1,v2,v3,v4,v5,v6,v7,v8,v9,u9,v10,v11,u11,v12,v13,u13,v14,v15,c19,v17⟩,L,rfl,⟨?_,bounds_i64 w3,bounds_i64 w4,bounds_i64 w5,bounds_i64 w6,bounds_i64 w14,bounds_i64 w15⟩,hL,hLl⟩
  have := bounds_u8 w0
  exact ⟨this.1,by show v0 < 256; omega⟩
end
end Go.Proofs.YtkanmkcojlefbaaGreatDoor
