/-
  Part of the proof; holds the texts FmtO, Sum, Acc.
-/
import Derived.Test.YtkanmkcojlefbaaGreatDoorM04
import Derived.Test.YtkanmkcojlefbaaGreatDoorM05
import Derived.Test.YtkanmkcojlefbaaGreatDoorM02
set_option maxRecDepth 100000
set_option linter.unusedSimpArgs false
set_option linter.unusedVariables false
namespace Go.Proofs.YtkanmkcojlefbaaGreatDoor
open Go.RowKit
def octFits (n : Nat) (x : Int) : Bool := decide (0 ≤ x ∧ x < 8 ^ (n - 1))
theorem fits8 (x : Int) (w : World) (n : Nat) (hn : n = 7 ∨ n = 8 ∨ n = 12) (h0 : -9223372036854775808 ≤ x) (h1 : x ≤ 9223372036854775807) : Calls Tryz.prog 100 #[.int .i64 n,.int .i64 x] w fun e w' => e = .returned (.bool (octFits n x)) ∧ w = w' := by
  by_cases hx : 0 ≤ x
  · rcases hn with rfl | rfl | rfl
    · have e : octFits 7 x = decide (x < 262144) := by simp [octFits,hx]
      rw [e]
      go_enter Tryz.func100,Tryz.ntmps100
      go_wp2
      go_ret
      exact ⟨rfl,rfl⟩
    · have e : octFits 8 x = decide (x < 2097152) := by simp [octFits,hx]
      rw [e]
      go_enter Tryz.func100,Tryz.ntmps100
      go_wp2
      go_ret
      exact ⟨rfl,rfl⟩
    · have e : octFits 12 x = decide (x < 8589934592) := by simp [octFits,hx]
      rw [e]
      go_enter Tryz.func100,Tryz.ntmps100
      go_wp2
      go_ret
      exact ⟨rfl,rfl⟩
  · have e : octFits n x = false := by simp [octFits,hx]
    rw [e]
    have hn2 : (n : Int) ≤ 12 ∧ (7 : Int) ≤ n := by omega
    go_enter Tryz.func100,Tryz.ntmps100
    go_wp2
    go_ret
    exact ⟨rfl,rfl⟩
def octField (n u : Nat) : List UInt8 := List.replicate (n - 1 - (octDigits u).length) 48 ++ octDigits u ++ [0]
theorem octField_length (n u : Nat) (hn : 2 ≤ n) (h : u < 8 ^ (n - 1)) : (octField n u).length = n := by
  have := octDigits_le (n - 2) u (by rwa [show n - 2 + 1 = n - 1 by omega])
  simp [octField]; omega
theorem repeat48 (c : Nat) : (⟨(Lib.repeatL [48] c).toArray⟩ : ByteArray) = ⟨(List.replicate c (48 : UInt8)).toArray⟩ := by
  congr 2
  induction c with
  | zero => rfl
  | succ c ih =>
    have ih2 : Lib.repeatL [48] c = List.replicate c 48 := by simpa using ih
    show _ = _
    rw [List.replicate_succ,← ih2]; rfl
theorem formatOctal_fits (w : World) (fb g n c : Nat) (x : Int) (T : TypeId) (pre : List Value) (old : List UInt8) (post : List Value) (h : Seg w g T pre old post) (hn : old.length = n) (hn3 : n = 7 ∨ n = 8 ∨ n = 12) (hnc : n ≤ c)
    (hx : octFits n x = true) (hg : g ≠ 15) (hDB : w.cell? ⟨15,7,none⟩ = some (.int .u8 3)) :
    Calls Tryz.prog 130 #[.pointer (some ⟨fb,0,none⟩),.slice (some ⟨g,pre.length,none⟩) n c,.int .i64 x] w fun e w' => e = .returned (.tuple #[]) ∧ Seg w' g T pre (octField n x.toNat) post ∧ Fr w.heap.size [g] w w' := by
  simp only [octFits,decide_eq_true_eq] at hx
  have hx8 : x.toNat < 8 ^ (n - 2 + 1) := by rw [show n - 2 + 1 = n - 1 by omega]; rcases hn3 with rfl | rfl | rfl <;> omega
  have hx9 : x < 8589934592 := by rcases hn3 with rfl | rfl | rfl <;> omega
  have hfit := fits8 x w n hn3 (by omega) (by omega)
  rw [show octFits n x = true by simp [octFits]; exact hx] at hfit
  have hf := formatInt8 x w hx.1 (by omega) hDB
  have hl := octDigits_le (n - 2) x.toNat hx8
  have hl2 := octDigits_pos x.toNat
  have hdef : octField n x.toNat = List.replicate (n - 1 - (octDigits x.toNat).length) 48 ++ octDigits x.toNat ++ [0] := rfl
  have hlen := octField_length n x.toNat (by omega) (by rwa [show n - 2 + 1 = n - 1 by omega] at hx8)
  generalize octField n x.toNat = F at *
  generalize octDigits x.toNat = ds at *
  have hS : ∀ w',Below w.heap.size w w' → Seg w' g T pre old post := fun w' hb => (hb.block g (lt_of_heap h)).trans h
  have hstep : ∀ w' s,Below w.heap.size w w' → s ++ [0] = F → Calls Tryz.prog 129 #[.pointer (some ⟨fb,0,none⟩),.slice (some ⟨g,pre.length,none⟩) n c,str s] w' fun e w2 => e = .returned (.tuple #[]) ∧ Seg w2 g T pre F post ∧ Fr w.heap.size [g] w w2 := fun w' s hb hs => by
    have hs2 : s.length + 1 = n := by rw [← hlen,← hs]; simp
    refine (formatString_fits w' fb g n c s T pre old post (hS w' hb) hn hnc (by omega) (by omega)).mono ?_
    rintro e w2 ⟨rfl,h1,h2⟩
    rw [List.drop_eq_nil_of_le (by omega),hs] at h1
    exact ⟨rfl,h1,(Fr.of_below hb _ _).trans (h2.wide hb.size (by simp))⟩
  have hn4 : (n : Int) ≤ 12 ∧ (7 : Int) ≤ n := by omega
  have hw0 : IntKind.i64.wrap ((n : Int) - ds.length) = (n : Int) - ds.length := by rw [IntWalk.i64_in _ (by omega)]
  have hw1 : IntKind.i64.wrap ((n : Int) - ds.length - 1) = (n : Int) - ds.length - 1 := by rw [IntWalk.i64_in _ (by omega)]
  go_enter Tryz.func130,Tryz.ntmps130
  go_wp2_with fail
  refine hfit.mono ?_
  rintro e w1 ⟨rfl,rfl⟩
  go_wp2_with fail
  refine hf.mono ?_
  rintro e w1 ⟨rfl,hb1⟩
  by_cases hz : ds.length + 1 < n
  · have hz1 : (0 : Int) < (n : Int) - ds.length - 1 := by omega
    have hrep := fun w' => Tryz.strings_Repeat ⟨[48].toArray⟩ (n - 1 - ds.length) w' (by omega) (by simp [ByteArray.size]; omega)
    rw [show (((n - 1 - ds.length : Nat)) : Int) = (n : Int) - ds.length - 1 by omega] at hrep
    simp only [List.toList_toArray] at hrep
    rw [repeat48] at hrep
    go_wp2_with fail
    refine (hrep _).mono ?_
    rintro e w2 ⟨rfl,hb2⟩
    go_wp2_with fail
    rw [str_app]
    refine (hstep _ (List.replicate (n - 1 - ds.length) 48 ++ ds) (hb1.trans (hb2.mono hb1.size)) hdef.symm).mono ?_
    rintro e w3 ⟨rfl,h3,h4⟩
    go_wp2_with fail
    go_end0
    exact ⟨rfl,h3,h4⟩
  · have hz1 : ¬ (0 : Int) < (n : Int) - ds.length - 1 := by omega
    have hz2 : n - 1 - ds.length = 0 := by omega
    rw [hz2] at hdef
    go_wp2_with fail
    refine (hstep _ ds hb1 (by rw [hdef]; rfl)).mono ?_
    rintro e w3 ⟨rfl,h3,h4⟩
    go_wp2_with fail
    go_end0
    exact ⟨rfl,h3,h4⟩
theorem formatOctal_not (w : World) (fb g n c : Nat) (x : Int) (T : TypeId) (pre : List Value) (old : List UInt8) (post : List Value) (err : Value) (aE : Addr) (h : Seg w g T pre old post) (hn : old.length = n) (hn3 : n = 7 ∨ n = 8 ∨ n = 12) (hnc : n ≤ c)
    (hx0 : -9223372036854775808 ≤ x) (hx1 : x ≤ 9223372036854775807) (hx : octFits n x = false) (hDB : w.cell? ⟨15,7,none⟩ = some (.int .u8 3))
    (hfb : w.heap[fb]? = some (.cells #[err] 196 (0,0))) (hne : fb ≠ g) (hf15 : fb ≠ 15) (hE : w.cell? ⟨3,0,none⟩ = some (errV aE)) :
    Calls Tryz.prog 130 #[.pointer (some ⟨fb,0,none⟩),.slice (some ⟨g,pre.length,none⟩) n c,.int .i64 x] w fun e w' => e = .returned (.tuple #[]) ∧ Seg w' g T pre (octField n 0) post ∧ w'.heap[fb]? = some (.cells #[errV aE] 196 (0,0)) ∧ Fr w.heap.size [g,fb] w w' := by
  have hfit := fits8 x w n hn3 hx0 hx1
  rw [hx] at hfit
  have hf0 : w.cell? ⟨fb,0,none⟩ = some err := by rw [Lib.cell_of_heap hfb]; rfl
  have zf0 : w.frozen? ⟨fb,0,none⟩ = false := Lib.frozen_of_heap hfb 0
  have hfb1 := heap_set_same (i := 0) (errV aE) hfb
  have h0 : Seg (w.setCell ⟨fb,0,none⟩ (errV aE)) g T pre old post := (heap_set_other _ (Ne.symm hne)).trans h
  have hF0 : Fr w.heap.size [g,fb] w (w.setCell ⟨fb,0,none⟩ (errV aE)) := (Fr.refl _ _ w).setCell (.inl (by simp)) _
  have hDB1 : (w.setCell ⟨fb,0,none⟩ (errV aE)).cell? ⟨15,7,none⟩ = some (.int .u8 3) := by rw [World.cell?_of_block (w := w) (heap_set_other _ (by simpa using Ne.symm hf15))]; exact hDB
  have hf := formatInt8 0 (w.setCell ⟨fb,0,none⟩ (errV aE)) (by omega) (by omega) hDB1
  have hlen := octField_length n 0 (by omega) (Nat.pow_pos (by omega))
  have hdef : octField n 0 = List.replicate (n - 1 - (octDigits 0).length) 48 ++ octDigits 0 ++ [0] := rfl
  have hd1 : (octDigits 0).length = 1 := by rw [octDigits_lt (by omega)]; rfl
  simp only [Int.toNat_zero] at hf
  generalize octField n 0 = F at *
  generalize octDigits 0 = ds at *
  have hsz : (w.setCell ⟨fb,0,none⟩ (errV aE)).heap.size = w.heap.size := by simp [World.setCell]
  generalize hw1 : w.setCell ⟨fb,0,none⟩ (errV aE) = w1 at *
  have hstep : ∀ w' s,Below w1.heap.size w1 w' → s ++ [0] = F → Calls Tryz.prog 129 #[.pointer (some ⟨fb,0,none⟩),.slice (some ⟨g,pre.length,none⟩) n c,str s] w' fun e w2 => e = .returned (.tuple #[]) ∧ Seg w2 g T pre F post ∧ w2.heap[fb]? = some (.cells #[errV aE] 196 (0,0)) ∧ Fr w.heap.size [g,fb] w w2 := fun w' s hb hs => by
    have hs2 : s.length + 1 = n := by rw [← hlen,← hs]; simp
    refine (formatString_fits w' fb g n c s T pre old post ((hb.block g (lt_of_heap h0)).trans h0) hn hnc (by omega) (by omega)).mono ?_
    rintro e w2 ⟨rfl,h1,h2⟩
    rw [List.drop_eq_nil_of_le (by omega),hs] at h1
    have h3 := h2.cells ((hb.block fb (lt_of_heap hfb1)).trans hfb1) (by simpa using hne) (.inr (by decide))
    exact ⟨rfl,h1,h3,(hF0.trans (Fr.of_below hb _ _)).trans (h2.wide (by have := hb.size; omega) (by simp))⟩
  have hn4 : (n : Int) ≤ 12 ∧ (7 : Int) ≤ n := by omega
  have hd2 : (ds.length : Int) = 1 := by omega
  have hw2 : IntKind.i64.wrap ((n : Int) - 1) = (n : Int) - 1 := by rw [IntWalk.i64_in _ (by omega)]
  have hw3 : IntKind.i64.wrap ((n : Int) - 1 - 1) = (n : Int) - 1 - 1 := by rw [IntWalk.i64_in _ (by omega)]
  have hz1 : (0 : Int) < (n : Int) - 1 - 1 := by omega
  have hrep := fun w' => Tryz.strings_Repeat ⟨[48].toArray⟩ (n - 1 - 1) w' (by omega) (by simp [ByteArray.size]; omega)
  rw [show (((n - 1 - 1 : Nat)) : Int) = (n : Int) - 1 - 1 by omega] at hrep
  simp only [List.toList_toArray] at hrep
  rw [repeat48] at hrep
  rw [hd1] at hdef
  have Hh := Lib.hid h
  have Hh0 := Lib.hid h0
  have HF := Lib.hid hF0
  have Hfb := Lib.hid hfb
  have Hfb1 := Lib.hid hfb1
  clear h h0 hF0 hfb hfb1
  go_enter Tryz.func130,Tryz.ntmps130
  go_wp2_with fail
  refine hfit.mono ?_
  rintro e w1 ⟨rfl,rfl⟩
  go_wp2_with fail
  refine hf.mono ?_
  rintro e w2 ⟨rfl,hb1⟩
  go_wp2_with fail
  refine (hrep _).mono ?_
  rintro e w3 ⟨rfl,hb2⟩
  go_wp2_with fail
  rw [str_app]
  refine (hstep _ (List.replicate (n - 1 - 1) 48 ++ ds) (hb1.trans (hb2.mono hb1.size)) hdef.symm).mono ?_
  rintro e w4 ⟨rfl,h3,h4,h5⟩
  go_wp2_with fail
  go_end0
  exact ⟨rfl,h3,h4,h5⟩
theorem formatOctal_any (w : World) (fb g n c : Nat) (x : Int) (T : TypeId) (pre : List Value) (old : List UInt8) (post : List Value) (err : Value) (aE : Addr) (h : Seg w g T pre old post) (hn : old.length = n) (hn3 : n = 7 ∨ n = 8 ∨ n = 12) (hnc : n ≤ c)
    (hx0 : -9223372036854775808 ≤ x) (hx1 : x ≤ 9223372036854775807) (hg : g ≠ 15) (hDB : w.cell? ⟨15,7,none⟩ = some (.int .u8 3))
    (hfb : w.heap[fb]? = some (.cells #[err] 196 (0,0))) (hne : fb ≠ g) (hf15 : fb ≠ 15) (hE : w.cell? ⟨3,0,none⟩ = some (errV aE)) :
    Calls Tryz.prog 130 #[.pointer (some ⟨fb,0,none⟩),.slice (some ⟨g,pre.length,none⟩) n c,.int .i64 x] w fun e w' => e = .returned (.tuple #[]) ∧
      ∃ err2,(octFits n x = true → err2 = err) ∧ Seg w' g T pre (octField n (if octFits n x then x.toNat else 0)) post ∧ w'.heap[fb]? = some (.cells #[err2] 196 (0,0)) ∧ Fr w.heap.size [g,fb] w w' := by
  by_cases hx : octFits n x = true
  · refine (formatOctal_fits w fb g n c x T pre old post h hn hn3 hnc hx hg hDB).mono ?_
    rintro e w' ⟨rfl,h1,h2⟩
    rw [hx]
    exact ⟨rfl,err,fun _ => rfl,h1,h2.cells hfb (by simpa using hne) (.inr (by decide)),h2.wide (Nat.le_refl _) (by simp)⟩
  · have hx2 : octFits n x = false := by simpa using hx
    refine (formatOctal_not w fb g n c x T pre old post err aE h hn hn3 hnc hx0 hx1 hx2 hDB hfb hne hf15 hE).mono ?_
    rintro e w' ⟨rfl,h1,h2,h3⟩
    rw [hx2]
    exact ⟨rfl,errV aE,(fun h => by cases h),h1,h2,h3⟩
def ckAt (bs : List UInt8) (k : Nat) : Nat := if 148 ≤ k ∧ k < 156 then 32 else (bs.getD k 0).toNat
def cks (bs : List UInt8) : Nat → Nat
  | 0 => 0
  | k + 1 => cks bs k + ckAt bs k
theorem ckAt_le (bs : List UInt8) (k : Nat) : ckAt bs k ≤ 255 := by
  rw [ckAt]; split
  · omega
  · have := (bs.getD k 0).toNat_lt; omega
theorem cks_le (bs : List UInt8) : ∀ k,cks bs k ≤ 255 * k
  | 0 => Nat.le_refl _
  | k + 1 => by have := cks_le bs k; have := ckAt_le bs k; rw [cks]; omega
theorem checksum (w : World) (g : Nat) (T : TypeId) (pre : List Value) (bs : List UInt8) (post : List Value) (h : Seg w g T pre bs post) (hn : bs.length = 512) :
    Calls Tryz.prog 185 #[.pointer (some ⟨g,pre.length,none⟩)] w fun e w' => (∃ z : Int,e = .returned (.tuple #[.int .i64 (cks bs 512),.int .i64 z])) ∧ Drew w w' := by
  have H := Lib.hid h
  clear h
  go_enter Tryz.func185,Tryz.ntmps185
  go_wp2_with fail
  go_loopw [2,3,7] (fun a b i wr => ∃ (k : Nat) (z : Int),k ≤ 512 ∧ a = .int .i64 (cks bs k) ∧ b = .int .i64 z ∧ i = .int .i64 k ∧ Drew w wr) (fun _ _ i _ => 512 - (intOf i).toNat)
  case atStart => exact ⟨0,0,by omega,rfl,rfl,rfl,Drew.refl w⟩
  case round =>
    obtain ⟨k,z,hk,rfl,rfl,rfl,hd⟩ := hrel
    have hd0 := Lib.hid hd
    by_cases hlt : k < 512
    · have hki : (k : Int) < 512 := by omega
      obtain ⟨x,hx⟩ : ∃ x,bs[k]? = some x := ⟨_,List.getElem?_eq_getElem (by omega)⟩
      have hc : wr.cell? ⟨g,pre.length + k,none⟩ = some (.int .u8 x.toNat) := by
        obtain ⟨nd,rfl⟩ := hd
        exact H.out.cell k x hx
      have hck := cks_le bs k
      have hxl := x.toNat_lt
      have e1 : cks bs (k + 1) = cks bs k + ckAt bs k := rfl
      by_cases hin : 148 ≤ k ∧ k < 156
      · have hin1 : (148 : Int) ≤ k := by omega
        have hin2 : (k : Int) < 156 := by omega
        have e2 : ckAt bs k = 32 := by rw [ckAt,if_pos hin]
        have E := Lib.hid (e1.trans (by rw [e2]))
        clear hd hx e1 e2
        go_wp2_with fail
        go_quiet (fail)
        go_wp2_with fail
        go_roundw
        case rel => exact ⟨k + 1,_,by omega,by rw [E.out]; rfl,rfl,by go_num,hd0.out.next _⟩
        case measure => simp [intOf]; omega
      · have e2 : ckAt bs k = x.toNat := by rw [ckAt,if_neg hin,List.getD_eq_getElem?_getD,hx]; rfl
        have E := Lib.hid (e1.trans (by rw [e2]))
        clear hd hx e1 e2
        by_cases hin1 : 148 ≤ k
        · have hin3 : (148 : Int) ≤ k := by omega
          have hin2 : ¬ (k : Int) < 156 := by omega
          go_wp2_with fail
          go_quiet (fail)
          go_wp2_with fail
          go_roundw
          case rel => exact ⟨k + 1,_,by omega,by rw [E.out]; rfl,rfl,by go_num,hd0.out.next _⟩
          case measure => simp [intOf]; omega
        · have hin3 : ¬ (148 : Int) ≤ k := by omega
          go_wp2_with fail
          go_quiet (fail)
          go_wp2_with fail
          go_roundw
          case rel => exact ⟨k + 1,_,by omega,by rw [E.out]; rfl,rfl,by go_num,hd0.out.next _⟩
          case measure => simp [intOf]; omega
    · have hki : ¬ (k : Int) < 512 := by omega
      obtain rfl : k = 512 := by omega
      clear hd
      go_wp2_with fail
      go_ret2
      exact ⟨⟨z,rfl⟩,hd0.out⟩
theorem toV7 (w : World) (a : Addr) : Calls Tryz.prog 106 #[.pointer (some a)] w (RetSame w (.pointer (some a))) := by
  go_enter Tryz.func106,Tryz.ntmps106
  go_wp2_with fail
  go_ret
  exact ⟨rfl,rfl⟩
theorem toUSTAR (w : World) (a : Addr) : Calls Tryz.prog 107 #[.pointer (some a)] w (RetSame w (.pointer (some a))) := by
  go_enter Tryz.func107,Tryz.ntmps107
  go_wp2_with fail
  go_ret
  exact ⟨rfl,rfl⟩
theorem toGNU (w : World) (a : Addr) : Calls Tryz.prog 108 #[.pointer (some a)] w (RetSame w (.pointer (some a))) := by
  go_enter Tryz.func108,Tryz.ntmps108
  go_wp2_with fail
  go_ret
  exact ⟨rfl,rfl⟩
theorem toSTAR (w : World) (a : Addr) : Calls Tryz.prog 178 #[.pointer (some a)] w (RetSame w (.pointer (some a))) := by
  go_enter Tryz.func178,Tryz.ntmps178
  go_wp2_with fail
  go_ret
  exact ⟨rfl,rfl⟩
theorem v7name (w : World) (g o : Nat) : Calls Tryz.prog 109 #[.pointer (some ⟨g,o,none⟩)] w (RetSame w (.slice (some ⟨g,o,none⟩) 100 512)) := by
  go_enter Tryz.func109,Tryz.ntmps109
  go_wp2_with fail
  go_ret
  exact ⟨rfl,rfl⟩
theorem v7link (w : World) (g o : Nat) : Calls Tryz.prog 110 #[.pointer (some ⟨g,o,none⟩)] w (RetSame w (.slice (some ⟨g,o + 157,none⟩) 100 355)) := by
  go_enter Tryz.func110,Tryz.ntmps110
  go_wp2_with fail
  go_ret
  exact ⟨rfl,rfl⟩
theorem v7mode (w : World) (g o : Nat) : Calls Tryz.prog 113 #[.pointer (some ⟨g,o,none⟩)] w (RetSame w (.slice (some ⟨g,o + 100,none⟩) 8 412)) := by
  go_enter Tryz.func113,Tryz.ntmps113
  go_wp2_with fail
  go_ret
  exact ⟨rfl,rfl⟩
theorem v7uid (w : World) (g o : Nat) : Calls Tryz.prog 114 #[.pointer (some ⟨g,o,none⟩)] w (RetSame w (.slice (some ⟨g,o + 108,none⟩) 8 404)) := by
  go_enter Tryz.func114,Tryz.ntmps114
  go_wp2_with fail
  go_ret
  exact ⟨rfl,rfl⟩
theorem v7gid (w : World) (g o : Nat) : Calls Tryz.prog 115 #[.pointer (some ⟨g,o,none⟩)] w (RetSame w (.slice (some ⟨g,o + 116,none⟩) 8 396)) := by
  go_enter Tryz.func115,Tryz.ntmps115
  go_wp2_with fail
  go_ret
  exact ⟨rfl,rfl⟩
theorem v7size (w : World) (g o : Nat) : Calls Tryz.prog 116 #[.pointer (some ⟨g,o,none⟩)] w (RetSame w (.slice (some ⟨g,o + 124,none⟩) 12 388)) := by
  go_enter Tryz.func116,Tryz.ntmps116
  go_wp2_with fail
  go_ret
  exact ⟨rfl,rfl⟩
theorem v7mtime (w : World) (g o : Nat) : Calls Tryz.prog 119 #[.pointer (some ⟨g,o,none⟩)] w (RetSame w (.slice (some ⟨g,o + 136,none⟩) 12 376)) := by
  go_enter Tryz.func119,Tryz.ntmps119
  go_wp2_with fail
  go_ret
  exact ⟨rfl,rfl⟩
theorem v7chk (w : World) (g o : Nat) : Calls Tryz.prog 184 #[.pointer (some ⟨g,o,none⟩)] w (RetSame w (.slice (some ⟨g,o + 148,none⟩) 8 364)) := by
  go_enter Tryz.func184,Tryz.ntmps184
  go_wp2_with fail
  go_ret
  exact ⟨rfl,rfl⟩
theorem v7type (w : World) (g o : Nat) : Calls Tryz.prog 174 #[.pointer (some ⟨g,o,none⟩)] w (RetSame w (.slice (some ⟨g,o + 156,none⟩) 1 356)) := by
  go_enter Tryz.func174,Tryz.ntmps174
  go_wp2_with fail
  go_ret
  exact ⟨rfl,rfl⟩
theorem uUser (w : World) (g o : Nat) : Calls Tryz.prog 111 #[.pointer (some ⟨g,o,none⟩)] w (RetSame w (.slice (some ⟨g,o + 265,none⟩) 32 247)) := by
  go_enter Tryz.func111,Tryz.ntmps111
  go_wp2_with fail
  go_ret
  exact ⟨rfl,rfl⟩
theorem uGroup (w : World) (g o : Nat) : Calls Tryz.prog 112 #[.pointer (some ⟨g,o,none⟩)] w (RetSame w (.slice (some ⟨g,o + 297,none⟩) 32 215)) := by
  go_enter Tryz.func112,Tryz.ntmps112
  go_wp2_with fail
  go_ret
  exact ⟨rfl,rfl⟩
theorem uMaj (w : World) (g o : Nat) : Calls Tryz.prog 117 #[.pointer (some ⟨g,o,none⟩)] w (RetSame w (.slice (some ⟨g,o + 329,none⟩) 8 183)) := by
  go_enter Tryz.func117,Tryz.ntmps117
  go_wp2_with fail
  go_ret
  exact ⟨rfl,rfl⟩
theorem uMin (w : World) (g o : Nat) : Calls Tryz.prog 118 #[.pointer (some ⟨g,o,none⟩)] w (RetSame w (.slice (some ⟨g,o + 337,none⟩) 8 175)) := by
  go_enter Tryz.func118,Tryz.ntmps118
  go_wp2_with fail
  go_ret
  exact ⟨rfl,rfl⟩
theorem uPrefix (w : World) (g o : Nat) : Calls Tryz.prog 131 #[.pointer (some ⟨g,o,none⟩)] w (RetSame w (.slice (some ⟨g,o + 345,none⟩) 155 167)) := by
  go_enter Tryz.func131,Tryz.ntmps131
  go_wp2_with fail
  go_ret
  exact ⟨rfl,rfl⟩
theorem uMagic (w : World) (g o : Nat) : Calls Tryz.prog 182 #[.pointer (some ⟨g,o,none⟩)] w (RetSame w (.slice (some ⟨g,o + 257,none⟩) 6 255)) := by
  go_enter Tryz.func182,Tryz.ntmps182
  go_wp2_with fail
  go_ret
  exact ⟨rfl,rfl⟩
theorem uVersion (w : World) (g o : Nat) : Calls Tryz.prog 183 #[.pointer (some ⟨g,o,none⟩)] w (RetSame w (.slice (some ⟨g,o + 263,none⟩) 2 249)) := by
  go_enter Tryz.func183,Tryz.ntmps183
  go_wp2_with fail
  go_ret
  exact ⟨rfl,rfl⟩
theorem gAccess (w : World) (g o : Nat) : Calls Tryz.prog 120 #[.pointer (some ⟨g,o,none⟩)] w (RetSame w (.slice (some ⟨g,o + 345,none⟩) 12 167)) := by
  go_enter Tryz.func120,Tryz.ntmps120
  go_wp2_with fail
  go_ret
  exact ⟨rfl,rfl⟩
theorem gChange (w : World) (g o : Nat) : Calls Tryz.prog 121 #[.pointer (some ⟨g,o,none⟩)] w (RetSame w (.slice (some ⟨g,o + 357,none⟩) 12 155)) := by
  go_enter Tryz.func121,Tryz.ntmps121
  go_wp2_with fail
  go_ret
  exact ⟨rfl,rfl⟩
theorem sTrailer (w : World) (g o : Nat) : Calls Tryz.prog 181 #[.pointer (some ⟨g,o,none⟩)] w (RetSame w (.slice (some ⟨g,o + 508,none⟩) 4 4)) := by
  go_enter Tryz.func181,Tryz.ntmps181
  go_wp2_with fail
  go_ret
  exact ⟨rfl,rfl⟩
end Go.Proofs.YtkanmkcojlefbaaGreatDoor
