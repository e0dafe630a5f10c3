/-
  Part of the proof; holds the texts Lw1.
-/
import Derived.Test.YtkanmkcojlefbaaGreatDoorM46
import Derived.Test.YtkanmkcojlefbaaGreatDoorM34
set_option maxRecDepth 100000
set_option linter.unusedSimpArgs false
set_option linter.unusedVariables false
namespace Go.Proofs.YtkanmkcojlefbaaGreatDoor
open Go.RowKit
theorem info28 : (Tryz.prog.info? 28).map (·.size) = some 2 := by kernel_rfl
theorem SB.setB {g : Nat} {x x2 : IH} {w : World} (hs : SB g x w) (k : Nat) (v : Value) (he : x.scells.set k v = x2.scells) : SB g x2 (w.setCell ⟨g,k,none⟩ v) := by
  have := heap_set_same (i := k) v hs
  rw [List.setIfInBounds_toArray,he] at this
  exact this
theorem SB.drop2 {g : Nat} {x x1 x2 : IH} {w : World} (hs : SB g x w) (k o : Nat) (v : Value) (h1 : x.scells.set k v = x1.scells) (h2 : x1.scells.take o ++ [.int .i64 0,.int .i64 0] ++ x1.scells.drop (o + 2) = x2.scells) (ho : o + 2 ≤ 21) :
    ∃ w',(storeVar 28 ⟨g,o,none⟩ (.agg #[.int .i64 0,.int .i64 0])).run Tryz.prog (w.setCell ⟨g,k,none⟩ v) = .ok () w' ∧ SB g x2 w' ∧ (∀ q,q ≠ g → w'.heap[q]? = w.heap[q]?) ∧ (∀ (B : Nat) (w0 : World),Below B w0 w → B ≤ g → Below B w0 w') := by
  have h3 := hs.setB k v h1
  have hst := run_store_at (w.setCell ⟨g,k,none⟩ v) g o 31 28 x1.scells.toArray #[.int .i64 0,.int .i64 0] h3 (by rw [info28]; rfl) (by show o + 2 ≤ 21; exact ho) (by intro u hu; simp at hu; subst hu; rfl)
  refine ⟨_,hst,?_,fun q hq => ?_,fun B w0 hb hB => ?_⟩
  · have := setRow_heap (w.setCell ⟨g,k,none⟩ v) g _ (x1.scells.toArray.toList.take o ++ (#[.int .i64 0,.int .i64 0] : Array Value).toList ++ x1.scells.toArray.toList.drop (o + (#[.int .i64 0,.int .i64 0] : Array Value).size)).toArray 31 _ h3
    unfold SB
    rw [this,← h2]; rfl
  · exact (setRow_other _ g q _ hq).trans (heap_set_other (a := ⟨g,k,none⟩) v hq)
  · have hb2 := hb.setCell (p := ⟨g,k,none⟩) hB v
    exact ⟨hb2.os,hb2.tape,hb2.output,by simpa using hb2.size,fun q hq => (setRow_other _ g q _ (by omega)).trans (hb2.block q hq)⟩
theorem SB.dropA {g : Nat} {x : IH} {w : World} (hs : SB g x w) (_ : x.recs.oneCell' = true) : ∃ w',(storeVar 28 ⟨g,13,none⟩ (.agg #[.int .i64 0,.int .i64 0])).run Tryz.prog (w.setCell ⟨g,11,none⟩ (.bool false)) = .ok () w' ∧ SB g x.noA w' ∧ (∀ q,q ≠ g → w'.heap[q]? = w.heap[q]?) ∧ (∀ (B : Nat) (w0 : World),Below B w0 w → B ≤ g → Below B w0 w') :=
  hs.drop2 (x1 := { x with hasA := false }) (x2 := x.noA) 11 13 (.bool false) rfl rfl (by decide)
theorem SB.dropC {g : Nat} {x : IH} {w : World} (hs : SB g x w) (_ : x.recs.oneCell' = true) : ∃ w',(storeVar 28 ⟨g,15,none⟩ (.agg #[.int .i64 0,.int .i64 0])).run Tryz.prog (w.setCell ⟨g,12,none⟩ (.bool false)) = .ok () w' ∧ SB g x.noC w' ∧ (∀ q,q ≠ g → w'.heap[q]? = w.heap[q]?) ∧ (∀ (B : Nat) (w0 : World),Below B w0 w → B ≤ g → Below B w0 w') :=
  hs.drop2 (x1 := { x with hasC := false }) (x2 := x.noC) 12 15 (.bool false) rfl rfl (by decide)
theorem load26 {g : Nat} {h : IH} {w : World} (hs : w.heap[g]? = some (.cells h.cells.toArray 26 (0,0))) : (loadVar 26 ⟨g,0,none⟩).run Tryz.prog w = .ok (.agg h.cells.toArray) w := by
  obtain ⟨d,u1,u2⟩ := und26
  exact run_load_at w g 0 26 h.cells.toArray (At.of_heap hs (fun j v hj => by rw [Nat.zero_add]; simpa using hj)) d u1 u2 (by rw [info26]; rfl)
theorem row_slice {w : World} {B : Nat} {v : Value} {out : List UInt8} (h : w.ownsRow B 5 1 v out.length (Lib.byteCells out)) (h0 : 0 < out.length) : ∃ g c,v = .slice (some ⟨g,0,none⟩) out.length c ∧ At w g 0 (Lib.byteCells out) := by
  rcases h.2 with ⟨-,h1⟩ | ⟨g',cap,cur,rfl,hg',hcur,hnc,-,-,htk⟩
  · omega
  · refine ⟨g',cap,rfl,At.of_heap hcur (fun j u hj => ?_)⟩
    rw [← htk,List.getElem?_take] at hj
    split at hj
    · simpa using hj
    · cases hj
theorem hout_pos {f : Bool × Bool × Bool} {m : KV} {H : Hd} {out : List UInt8} (h : HOut f m H out) : 0 < out.length := by
  rcases h with ⟨-,B2,hu,rfl⟩ | ⟨-,B2,X,hp,-,rfl⟩
  · rw [hu.ok.len]; decide
  · rw [List.length_append,hp.ok.len]; omega
def LawTrue (w : World) (e : Ending) (w' : World) : Prop := e = .returned (.bool true) ∧ Below w.heap.size w w'
noncomputable def restL15 : Code := tailFrom 15 (Tryz.f6.body.getD .skip)
set_option maxHeartbeats 16000000 in
theorem law15 (G0 : Nat) (E : Nat → Addr) (w w0 : World) (hgl : Gl G0 E w) (h want : IH) (hb g5 : Nat) (hH : w.heap[hb]? = some (.cells h.cells.toArray 26 (0,0))) (hW : SB g5 want w) (hB : Below w0.heap.size w0 w) (hb0 : w0.heap.size ≤ hb)
    (aE : Addr) (hE : w.cell? ⟨0,0,none⟩ = some (errV aE)) (k : CanOk h) (g : h.Rng) (hf : h.fmt = 2) (hw : ∃ r f,want = { h.sprom with recs := r,fmt := f }) (L : List (List UInt8 × List UInt8)) (hL : RecS w h.recs L) (hF : FldRecs L) (hlen : ∀ p ∈ L,p.2.length ≤ 2147483647) {c0 c1 c3 c4 c6 c7 c8 c9 c10 c11 c12 c13 c14 c15 c16 c17 c18 c19 c20 c21 c22 c23 c24 c25 c26 c27 c28 c29 c30 c31 c32 c33 c34 c35 c36 c37 c38 c39 c40 c41 c42 c43 c44 c45 c46 c47 c48 c49 c50 c51 c52 c53 c54 c55 c56 c57 c58 c59 c60 c61 c62 c63 c64 c65 c66 c67 c68 c69 c70 c71 c72 c73 c74 c75 c76 c77 c78 c79 c80 c81 c82 c83 c84 c85 c86 c87 c88 c89 c90 c91 c92 c93 c94 c95 c96 : Value} :
    Code.wp Tryz.prog restL15 (bodyPost Tryz.prog Tryz.f6 (LawTrue w0)) ⟨(c0::c1::.pointer (some ⟨hb,0,none⟩)::c3::c4::.pointer (some ⟨g5,0,none⟩)::c6::c7::c8::c9::c10::c11::c12::c13::c14::c15::c16::c17::c18::c19::c20::c21::c22::c23::c24::c25::c26::c27::c28::c29::c30::c31::c32::c33::c34::c35::c36::c37::c38::c39::c40::c41::c42::c43::c44::c45::c46::c47::c48::c49::c50::c51::c52::c53::c54::c55::c56::c57::c58::c59::c60::c61::c62::c63::c64::c65::c66::c67::c68::c69::c70::c71::c72::c73::c74::c75::c76::c77::c78::c79::c80::c81::c82::c83::c84::c85::c86::c87::c88::c89::c90::c91::c92::c93::c94::c95::c96::[]).toArray,[]⟩ w := by
  conv => arg 2; whnf
  obtain ⟨hasR,hr0,hr1⟩ : ∃ hasR : Bool,(hasR = false → ∀ k,putAll (fun _ => none) L k = none) ∧ (hasR = true → ∃ k,putAll (fun _ => none) L k ≠ none) := by
    cases L with
    | nil => exact ⟨false,fun _ _ => rfl,fun e => by cases e⟩
    | cons p L => exact ⟨true,fun e => (by cases e),fun _ => ⟨p.1,putAll_has _ _ _ (.inr (by simp))⟩⟩
  have hkl : ∀ p ∈ L,p.1.length ≤ 9223372036854775807 ∧ p.2.length ≤ 9223372036854775807 := fun p hp => by
    have h1 := hF.key p hp
    have h2 := hlen p hp
    have : ∀ q ∈ tenKeys,q.length ≤ 8 := by decide
    have := this _ h1
    omega
  have hhd := Lib.hid (implHead G0 E w hgl h k.inH L hL (by have := hF.len; omega) hkl (by rw [hf]; decide) hasR (fOf (h.hw (.map none)) (putAll (fun _ => none) L) hasR) (recM ((h.hw (.map none)).st (putAll (fun _ => none) L)).m (putAll (fun _ => none) L) (h.hw (.map none)).typ)
    (fun rv => (hw_hg k g hf L hF rv).hok hasR hr0 hr1 (hw_up k hf _ hasR rv)))
  have HG := Lib.hid (hw_hg k g hf L hF (.map none))
  have HFI := Lib.hid (hw_fits k (.map none))
  have HSB := Lib.hid (fun f rv2 f2 => same_back k hw f (.map none) rv2 f2)
  have HLD := Lib.hid (load26 hH)
  have HH := Lib.hid hH; have HW := Lib.hid hW; have HB := Lib.hid hB; have HE := Lib.hid hE
  have l0 := block_lt_of_cell hE
  have hbl := lt_of_heap hH
  have g5l := lt_of_heap hW
  clear hH hW hB hE hgl hL hr0 hr1 hkl k g hf hF hlen hw
  go_wp2_with (first | (refine wpList_load_run rfl 26 _ rfl ⟨hb,0,none⟩ rfl _ HLD.out ?_) | fail)
  refine hhd.out.mono ?_
  rintro e w1 ⟨v,out,rfl,hout,hown,hb1⟩
  obtain ⟨go,c,rfl,hat⟩ := row_slice hown (hout_pos hout)
  have HF1 := Lib.hid (firstHead w1 go 0 c out aE (h.hw (.map none)) (putAll (fun _ => none) L) hasR HG.out HFI.out hout hat ((hb1.cell (p := ⟨0,0,none⟩) l0).trans HE.out))
  have HH1 := Lib.hid ((hb1.block hb hbl).trans HH.out)
  have HW1 := Lib.hid (HW.out.below hb1 g5l)
  have HB1 := Lib.hid (HB.out.trans (hb1.mono HB.out.size))
  have hs1 := hb1.size
  clear hhd hout hown hat hb1 HH HW HB HG HFI HLD
  go_wp2_with fail
  refine HF1.out.mono ?_
  rintro e w2 ⟨rv2,L2,f2,R2,rfl,hr2,-,-,hl2,hb2⟩
  obtain ⟨x,hx⟩ : ∃ x : IH,x = { ihOf ((h.hw (.map none)).rd f2) with recs := rv2 } := ⟨_,rfl⟩
  rw [← hx]
  have HX := Lib.hid hx
  have hxr : x.recs = rv2 := by rw [hx]
  have hone : x.recs.oneCell' = true := by rw [hxr]; exact recS_one hr2
  have HR2 := Lib.hid hr2
  have HH2 := Lib.hid ((hb2.block hb (by omega)).trans HH1.out)
  have HW2 := Lib.hid (HW1.out.below hb2 (by omega))
  have HB2 := Lib.hid (HB1.out.trans (hb2.mono HB1.out.size))
  have hs2 := hb2.size
  have hz := heap_alloc_new w2 (.cells #[.int .u8 0,.string { data := #[] },.string { data := #[] },.int .i64 0,.int .i64 0,.int .i64 0,.int .i64 0,.string { data := #[] },.string { data := #[] },.int .i64 0,.int .i64 0,.bool false,.int .i64 0,.int .i64 0,.bool false,.int .i64 0,.int .i64 0,.int .i64 0,.int .i64 0,.slice none 0 0,.int .i64 0] 26)
  have hbA : Below w2.heap.size w2 (w2.alloc (.cells #[.int .u8 0,.string { data := #[] },.string { data := #[] },.int .i64 0,.int .i64 0,.int .i64 0,.int .i64 0,.string { data := #[] },.string { data := #[] },.int .i64 0,.int .i64 0,.bool false,.int .i64 0,.int .i64 0,.bool false,.int .i64 0,.int .i64 0,.int .i64 0,.int .i64 0,.slice none 0 0,.int .i64 0] 26)) := (Below.refl _ w2).alloc (Nat.le_refl _) _
  obtain ⟨w3,hst,hg3,ho3,hbl3⟩ := store26 x hone rfl hz
  have hb3 : Below w2.heap.size w2 w3 := hbl3 _ _ hbA (Nat.le_refl _)
  have HST := Lib.hid hst
  have HLD := Lib.hid (load26 hg3)
  have HPL := Lib.hid (specPlain x L2 w3 (by rw [hxr]; exact hr2.below hb3) (by omega))
  have HH3 := Lib.hid ((hb3.block hb (by omega)).trans HH2.out)
  have HW3 := Lib.hid (HW2.out.below hb3 (by omega))
  have HB3 := Lib.hid (HB2.out.trans (hb3.mono HB2.out.size))
  have hs3 := hb3.size
  clear hx hr2 hb2 hz hbA hst hg3 ho3 hbl3 hb3 HH1 HW1 HB1 HF1 HH2 HW2 HB2
  go_wp2_with (first | (refine wpList_store_run rfl 26 _ _ rfl ⟨w2.heap.size,0,none⟩ rfl _ rfl w3 HST.out ?_) | (refine wpList_load_run rfl 26 _ rfl ⟨w2.heap.size,0,none⟩ rfl _ HLD.out ?_) | fail)
  refine HPL.out.mono ?_
  rintro e w4 ⟨rv3,rfl,hr3,ho3,hb4⟩
  have hz := heap_alloc_new w4 (.cells #[.int .u8 0,.string { data := #[] },.string { data := #[] },.int .i64 0,.int .i64 0,.int .i64 0,.int .i64 0,.string { data := #[] },.string { data := #[] },.int .i64 0,.int .i64 0,.bool false,.bool false,.int .i64 0,.int .i64 0,.int .i64 0,.int .i64 0,.int .i64 0,.int .i64 0,.slice none 0 0,.int .i64 0] 31)
  have hbA : Below w4.heap.size w4 (w4.alloc (.cells #[.int .u8 0,.string { data := #[] },.string { data := #[] },.int .i64 0,.int .i64 0,.int .i64 0,.int .i64 0,.string { data := #[] },.string { data := #[] },.int .i64 0,.int .i64 0,.bool false,.bool false,.int .i64 0,.int .i64 0,.int .i64 0,.int .i64 0,.int .i64 0,.int .i64 0,.slice none 0 0,.int .i64 0] 31)) := (Below.refl _ w4).alloc (Nat.le_refl _) _
  obtain ⟨X,hX⟩ : ∃ X : IH,X = { x with recs := rv3 } := ⟨_,rfl⟩
  rw [← hX]
  have hXo : X.recs.oneCell' = true := by rw [hX]; exact ho3
  obtain ⟨w5,hst,hg5,ho5,hbl5,-⟩ := store31 X hXo rfl hz
  have hb5 : Below w4.heap.size w4 w5 := hbl5 _ _ hbA (Nat.le_refl _)
  have hs4 := hb4.size
  have HST := Lib.hid hst; have HS5 := Lib.hid hg5; have HXO := Lib.hid hXo
  have HH5 := Lib.hid ((hb5.block hb (by omega)).trans ((hb4.block hb (by omega)).trans HH3.out))
  have HW5 := Lib.hid ((HW3.out.below hb4 (by omega)).below hb5 (by omega))
  have HB5 := Lib.hid ((HB3.out.trans (hb4.mono HB3.out.size)).trans (hb5.mono (HB3.out.trans (hb4.mono HB3.out.size)).size))
  have HSAME : Hid (SameH (X.cutA h.hasA |>.cutC h.hasC) want) := Lib.hid (by rw [hX,HX.out]; exact HSB.out f2 rv3 _)
  obtain ⟨gy,hgy⟩ : ∃ gy,gy = w4.heap.size := ⟨_,rfl⟩
  have HNE1 : Hid (hb ≠ gy) := Lib.hid (by omega)
  have HNE2 : Hid (g5 ≠ gy) := Lib.hid (by omega)
  have HGY : Hid (w0.heap.size ≤ gy) := Lib.hid (by have := HB3.out.size; omega)
  rw [← hgy] at HS5
  have HGE := Lib.hid hgy
  clear hX hr3 ho3 hb4 hz hbA hst hg5 ho5 hbl5 hb5 HH3 HW3 HB3 HPL HLD hXo hone hxr HX HSB hs1 hs2 hs3 hs4 l0 hbl g5l hgy
  go_upto_region 20 with (first | (refine wpList_store_run rfl 31 _ _ rfl ⟨w4.heap.size,0,none⟩ rfl _ rfl w5 HST.out ?_) | fail)
  rw [← HGE.out]
  cases hA : h.hasA with
  | true =>
    cases hC : h.hasC with
    | true =>
      have cA := ih_cell1 HH5.out 11 (.bool true) (by rw [← hA]; rfl)
      have HAF := Lib.hid hA; have HCF := Lib.hid hC
      have cC := ih_cell1 HH5.out 14 (.bool true) (by rw [← hC]; rfl)
      have L1 := Lib.hid HS5.out.load; have L2' := Lib.hid HW5.out.load
      have HSM : Hid (SameH X want) := Lib.hid (by have := HSAME.out; rw [HAF.out,HCF.out] at this; exact this)
      clear hA hC
      go_wp2_with (first | (refine wpList_load_run rfl 31 _ rfl ⟨gy,0,none⟩ rfl _ L1.out ?_) | (refine wpList_load_run rfl 31 _ rfl ⟨g5,0,none⟩ rfl _ L2'.out ?_) | fail)
      refine (specSame _ want w5 HSM.out).mono ?_
      rintro e w9 ⟨rfl,hb9⟩
      have HB9 := Lib.hid (HB5.out.trans (hb9.mono HB5.out.size))
      clear hb9
      go_wp2_with fail
      go_ret
      exact ⟨rfl,HB9.out⟩
    | false =>
      have cA := ih_cell1 HH5.out 11 (.bool true) (by rw [← hA]; rfl)
      have HAF := Lib.hid hA; have HCF := Lib.hid hC
      have cC := ih_cell1 HH5.out 14 (.bool false) (by rw [← hC]; rfl)
      obtain ⟨w7,st7,S7,o7,b7⟩ := HS5.out.dropC HXO.out
      have zC := HS5.out.hz 12
      have ST7 := Lib.hid st7; have HS7 := Lib.hid S7
      have HW7 : Hid (SB g5 want w7) := Lib.hid ((o7 g5 HNE2.out).trans HW5.out)
      have HB7 := Lib.hid (b7 _ _ HB5.out HGY.out)
      clear st7 S7 o7 b7
      have eC := HS5.out.cell 12 (.bool X.hasC) rfl
      have L1 := Lib.hid HS7.out.load; have L2' := Lib.hid HW7.out.load
      have HSM : Hid (SameH X.noC want) := Lib.hid (by have := HSAME.out; rw [HAF.out,HCF.out] at this; exact this)
      clear hA hC
      go_wp2_with (first | (refine wpList_store_run rfl 28 _ _ rfl ⟨gy,15,none⟩ rfl _ rfl w7 ST7.out ?_) | (refine wpList_load_run rfl 31 _ rfl ⟨gy,0,none⟩ rfl _ L1.out ?_) | (refine wpList_load_run rfl 31 _ rfl ⟨g5,0,none⟩ rfl _ L2'.out ?_) | fail)
      refine (specSame _ want w7 HSM.out).mono ?_
      rintro e w9 ⟨rfl,hb9⟩
      have HB9 := Lib.hid (HB7.out.trans (hb9.mono HB7.out.size))
      clear hb9
      go_wp2_with fail
      go_ret
      exact ⟨rfl,HB9.out⟩
  | false =>
    cases hC : h.hasC with
    | true =>
      have cA := ih_cell1 HH5.out 11 (.bool false) (by rw [← hA]; rfl)
      have HAF := Lib.hid hA; have HCF := Lib.hid hC
      obtain ⟨w6,st6,S6,o6,b6⟩ := HS5.out.dropA HXO.out
      have zA := HS5.out.hz 11
      have hgy : hb ≠ gy := HNE1.out
      have ST6 := Lib.hid st6; have HS6 := Lib.hid S6; have HH6 : Hid (w6.heap[hb]? = some (.cells h.cells.toArray 26 (0,0))) := Lib.hid ((o6 hb HNE1.out).trans HH5.out)
      have HW6 : Hid (SB g5 want w6) := Lib.hid ((o6 g5 HNE2.out).trans HW5.out)
      have HB6 := Lib.hid (b6 _ _ HB5.out HGY.out)
      clear st6 S6 o6 b6
      have cC := ih_cell1 HH6.out 14 (.bool true) (by rw [← hC]; rfl)
      have eA := HS5.out.cell 11 (.bool X.hasA) rfl
      have L1 := Lib.hid HS6.out.load; have L2' := Lib.hid HW6.out.load
      have HSM : Hid (SameH X.noA want) := Lib.hid (by have := HSAME.out; rw [HAF.out,HCF.out] at this; exact this)
      clear hA hC
      go_wp2_with (first | (refine wpList_store_run rfl 28 _ _ rfl ⟨gy,13,none⟩ rfl _ rfl w6 ST6.out ?_) | (refine wpList_load_run rfl 31 _ rfl ⟨gy,0,none⟩ rfl _ L1.out ?_) | (refine wpList_load_run rfl 31 _ rfl ⟨g5,0,none⟩ rfl _ L2'.out ?_) | fail)
      refine (specSame _ want w6 HSM.out).mono ?_
      rintro e w9 ⟨rfl,hb9⟩
      have HB9 := Lib.hid (HB6.out.trans (hb9.mono HB6.out.size))
      clear hb9
      go_wp2_with fail
      go_ret
      exact ⟨rfl,HB9.out⟩
    | false =>
      have cA := ih_cell1 HH5.out 11 (.bool false) (by rw [← hA]; rfl)
      have HAF := Lib.hid hA; have HCF := Lib.hid hC
      obtain ⟨w6,st6,S6,o6,b6⟩ := HS5.out.dropA HXO.out
      have zA := HS5.out.hz 11
      have hgy : hb ≠ gy := HNE1.out
      have ST6 := Lib.hid st6; have HS6 := Lib.hid S6; have HH6 : Hid (w6.heap[hb]? = some (.cells h.cells.toArray 26 (0,0))) := Lib.hid ((o6 hb HNE1.out).trans HH5.out)
      have HW6 : Hid (SB g5 want w6) := Lib.hid ((o6 g5 HNE2.out).trans HW5.out)
      have HB6 := Lib.hid (b6 _ _ HB5.out HGY.out)
      clear st6 S6 o6 b6
      have cC := ih_cell1 HH6.out 14 (.bool false) (by rw [← hC]; rfl)
      have eA := HS5.out.cell 11 (.bool X.hasA) rfl
      obtain ⟨w7,st7,S7,o7,b7⟩ := HS6.out.dropC HXO.out
      have zC := HS6.out.hz 12
      have ST7 := Lib.hid st7; have HS7 := Lib.hid S7
      have HW7 : Hid (SB g5 want w7) := Lib.hid ((o7 g5 HNE2.out).trans HW6.out)
      have HB7 := Lib.hid (b7 _ _ HB6.out HGY.out)
      clear st7 S7 o7 b7
      have eC := HS6.out.cell 12 (.bool X.hasC) rfl
      have L1 := Lib.hid HS7.out.load; have L2' := Lib.hid HW7.out.load
      have HSM : Hid (SameH X.noA.noC want) := Lib.hid (by have := HSAME.out; rw [HAF.out,HCF.out] at this; exact this)
      clear hA hC
      go_wp2_with (first | (refine wpList_store_run rfl 28 _ _ rfl ⟨gy,13,none⟩ rfl _ rfl w6 ST6.out ?_) | (refine wpList_store_run rfl 28 _ _ rfl ⟨gy,15,none⟩ rfl _ rfl w7 ST7.out ?_) | (refine wpList_load_run rfl 31 _ rfl ⟨gy,0,none⟩ rfl _ L1.out ?_) | (refine wpList_load_run rfl 31 _ rfl ⟨g5,0,none⟩ rfl _ L2'.out ?_) | fail)
      refine (specSame _ want w7 HSM.out).mono ?_
      rintro e w9 ⟨rfl,hb9⟩
      have HB9 := Lib.hid (HB7.out.trans (hb9.mono HB7.out.size))
      clear hb9
      go_wp2_with fail
      go_ret
      exact ⟨rfl,HB9.out⟩
end Go.Proofs.YtkanmkcojlefbaaGreatDoor
