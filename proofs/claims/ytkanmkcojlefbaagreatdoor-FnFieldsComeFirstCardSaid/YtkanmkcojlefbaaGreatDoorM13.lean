/-
  Part of the proof; holds the texts PaxT, VNum.
-/
import Derived.Test.YtkanmkcojlefbaaGreatDoorM09
import Derived.Test.YtkanmkcojlefbaaGreatDoorM08
import Derived.Lib.AppendIntMem
import Derived.Test.YtkanmkcojlefbaaGreatDoorM12
set_option maxRecDepth 100000
set_option linter.unusedSimpArgs false
set_option linter.unusedVariables false
namespace Go.Proofs.YtkanmkcojlefbaaGreatDoor
open Go.RowKit
theorem fmtInt10 {G0 : Nat} {E : Nat → Addr} (w : World) (h : Gl G0 E w) (n : Int) (h0 : -9223372036854775808 ≤ n) (h1 : n ≤ 9223372036854775807) :
    Calls Tryz.prog 101 #[.int .i64 n,.int .i64 10] w fun e w' => e = .returned (str (Lib.itoa n)) ∧ Below w.heap.size w w' := by
  refine (Tryz.strconv_FormatInt_10 n h0 h1 w h.pow).mono ?_
  rintro e w' ⟨rfl,k,os,rfl⟩
  exact ⟨rfl,Lib.below_grow _ w (Nat.le_refl _) k os⟩
theorem itoa10 {G0 : Nat} {E : Nat → Addr} (w : World) (h : Gl G0 E w) (n : Int) (h0 : -9223372036854775808 ≤ n) (h1 : n ≤ 9223372036854775807) :
    Calls Tryz.prog 190 #[.int .i64 n] w fun e w' => e = .returned (str (Lib.itoa n)) ∧ Below w.heap.size w w' := by
  refine (Tryz.strconv_Itoa n h0 h1 w h.pow).mono ?_
  rintro e w' ⟨rfl,k,os,rfl⟩
  exact ⟨rfl,Lib.below_grow _ w (Nat.le_refl _) k os⟩
theorem nine_calls {G0 : Nat} {E : Nat → Addr} (w : World) (h : Gl G0 E w) (n : Nat) (hn : n < 1000000000) :
    Calls Tryz.prog 171 #[.int .i64 n] w fun e w' => e = .returned (str (nineB n)) ∧ Below w.heap.size w w' := by
  have hd := itoa10 w h n (by omega) (by omega)
  rw [itoa_nn _ (by omega)] at hd
  have hl := nDigits_mono_le n 8 (by omega)
  rw [← Lib.decDigits_length] at hl
  have HD : Hid (nineB n = List.replicate (9 - (Lib.decDigits n).length) 48 ++ Lib.decDigits n) := Lib.hid rfl
  clear h
  have e0 : ((n : Int)).toNat = n := by omega
  rw [e0] at hd
  generalize Lib.decDigits n = ds at *
  go_enter Tryz.func171,Tryz.ntmps171
  go_wp2_with fail
  refine hd.mono ?_
  rintro e w1 ⟨rfl,hb⟩
  go_wp2_with fail
  go_loop [3] (fun s => ∃ z : Nat,z + ds.length ≤ 9 ∧ s = str (List.replicate z 48 ++ ds)) (fun s => match s with | .string x => 9 - x.size | _ => 0)
  case atStart => exact ⟨0,by omega,rfl⟩
  case round =>
    obtain ⟨z,hz,rfl⟩ := hrel
    have Hb := Lib.hid hb
    clear hb
    have hlen : (List.replicate z (48 : UInt8) ++ ds).length = z + ds.length := by simp
    by_cases hlt : z + ds.length < 9
    · have hlt2 : (((List.replicate z (48 : UInt8) ++ ds).length : Nat) : Int) < 9 := by rw [hlen]; omega
      generalize hL : List.replicate z (48 : UInt8) ++ ds = L at *
      have HL := Lib.hid hL
      clear hL
      go_wp2_with fail
      go_round
      case rel =>
        refine ⟨z + 1,by omega,?_⟩
        have : (⟨#[48]⟩ : ByteArray) ++ ⟨L.toArray⟩ = ⟨(48::L).toArray⟩ := str_app [48] L
        rw [this,← HL.out]; rfl
      case measure =>
        have : ((⟨#[48]⟩ : ByteArray) ++ ⟨L.toArray⟩ : ByteArray).size = L.length + 1 := by rw [show (⟨#[48]⟩ : ByteArray) ++ ⟨L.toArray⟩ = ⟨(48::L).toArray⟩ from str_app [48] L,str_size]; rfl
        simp only [this,str_size]
        omega
    · have hz9 : 9 - ds.length = z := by omega
      have hlt2 : ¬ (((List.replicate z (48 : UInt8) ++ ds).length : Nat) : Int) < 9 := by rw [hlen]; omega
      rw [hz9] at HD
      generalize List.replicate z (48 : UInt8) ++ ds = L at *
      go_wp2_with fail
      go_ret
      exact ⟨by rw [HD.out]; rfl,Hb.out⟩
def StrBelow (l : List UInt8) (w : World) (e : Ending) (w' : World) : Prop := e = .returned (str l) ∧ Below w.heap.size w w'
theorem fmtPaxTime {G0 : Nat} {E : Nat → Addr} (w : World) (h : Gl G0 E w) (n x : Int) (h0 : 0 ≤ n) (h1 : n < 1000000000) (hx : -100000000000000000 ≤ x - 62135596800 ∧ x - 62135596800 ≤ 100000000000000000) :
    Calls Tryz.prog 105 #[tmV n x] w (StrBelow (paxTime (x - 62135596800) n) w) := by
  have a1 := heap_alloc_new w (.cells #[.int .u64 n,.int .i64 x] 126)
  have hgl := h.alloc (.cells #[.int .u64 n,.int .i64 x] 126)
  have hb1 := (Below.refl w.heap.size w).alloc (Nat.le_refl _) (.cells #[.int .u64 n,.int .i64 x] 126)
  generalize hw1 : w.alloc (.cells #[.int .u64 n,.int .i64 x] 126) = w1 at *
  have c0 : w1.cell? ⟨w.heap.size,0,none⟩ = some (.int .u64 n) := by rw [Lib.cell_of_heap a1]; rfl
  have c1 : w1.cell? ⟨w.heap.size,1,none⟩ = some (.int .i64 x) := by rw [Lib.cell_of_heap a1]; rfl
  have hl1 := lt_of_heap a1
  have HC1 := Lib.hid (tUnix w1.drew n x h0 h1 hx)
  have HC2 := fun w' => Lib.hid (tNano w' n x h0 h1)
  have HG := Lib.hid hgl
  have HB1 := Lib.hid hb1
  have HW1 := Lib.hid hw1
  clear a1 hgl hb1 h
  go_enter Tryz.func105,Tryz.ntmps105
  go_wp2_with fail
  go_region_held3 (fun w' => w'.cell? ⟨w.heap.size,0,none⟩ = some (.int .u64 n) ∧ w'.cell? ⟨w.heap.size,1,none⟩ = some (.int .i64 x)) (first | go_keep | (refine And.intro ?_ ?_ <;> assumption))
    (first | (go_at_call 103; refine HC1.out.mono ?_; rintro e w2 ⟨rfl,hb2⟩; have d0 := (hb2.cell (p := ⟨w.heap.size,0,none⟩) hl1).trans c0; have d1 := (hb2.cell (p := ⟨w.heap.size,1,none⟩) hl1).trans c1) | (go_at_call 104; refine (HC2 _).out.mono ?_; rintro e w3 ⟨rfl,hb3⟩; have e0 := (hb3.cell (p := ⟨w.heap.size,0,none⟩) (Nat.lt_of_lt_of_le hl1 hb2.size)).trans d0; have e1 := (hb3.cell (p := ⟨w.heap.size,1,none⟩) (Nat.lt_of_lt_of_le hl1 hb2.size)).trans d1))
  have hB3 : Below w1.heap.size w1 w3 := ((Below.refl _ w1).drew.trans hb2).trans (hb3.mono hb2.size)
  have HB3 := Lib.hid (HB1.out.trans (hB3.mono (by have := HB1.out.size; exact this)))
  have HG3 := Lib.hid (HG.out.below hB3)
  clear c0 c1 d0 d1 e0 e1 hb2 hb3 hB3 HC1 HC2 hw1 HW1 HB1
  generalize hS : x - 62135596800 = S at *
  by_cases hn0 : n = 0
  · have t0 : (n == 0) = true := by simp [hn0]
    have hP : paxTime S n = Lib.itoa S := by rw [paxTime,if_pos hn0]
    have HP := Lib.hid hP
    have hf := fmtInt10 w3 HG3.out S (by omega) (by omega)
    clear hn0 hP hS
    go_wp2_with fail
    refine hf.mono ?_
    rintro e w4 ⟨rfl,hb4⟩
    go_wp2_with fail
    go_ret
    exact ⟨by rw [HP.out]; rfl,HB3.out.trans (hb4.mono HB3.out.size)⟩
  · have t0 : (n == 0) = false := by simp [hn0]
    by_cases hs : S < 0
    · have hP : paxTime S n = trimR (45::(Lib.itoa (-(S + 1)) ++ 46::nineB (1000000000 - n).toNat)) 48 := by rw [paxTime,if_neg hn0,if_pos hs]
      have w1a : IntKind.i64.wrap (S + 1) = S + 1 := IntWalk.i64_in _ (by omega)
      have w1b : IntKind.i64.wrap (-(S + 1)) = -(S + 1) := IntWalk.i64_in _ (by omega)
      have w1c : IntKind.i64.wrap (n - 1000000000) = n - 1000000000 := IntWalk.i64_in _ (by omega)
      have w1d : IntKind.i64.wrap (-(n - 1000000000)) = -(n - 1000000000) := IntWalk.i64_in _ (by omega)
      have hf := fmtInt10 w3 HG3.out (-(S + 1)) (by omega) (by omega)
      have hnn := fun w' (h : Gl G0 E w') => nine_calls w' h (1000000000 - n).toNat (by omega)
      rw [show (((1000000000 - n).toNat : Nat) : Int) = -(n - 1000000000) by omega] at hnn
      have HP := Lib.hid hP
      have HN := Lib.hid hnn
      have hAl : (Lib.itoa (-(S + 1))).length ≤ 1000 := by
        rw [itoa_nn _ (by omega),Lib.decDigits_length]
        have := nDigits_mono_le (-(S + 1)).toNat 18 (by omega)
        omega
      have hCl : (nineB (1000000000 - n).toNat).length ≤ 1000 := by rw [nineB_length _ (by omega)]; omega
      clear hn0 hP hS hnn
      generalize Lib.itoa (-(S + 1)) = A at *
      generalize nineB (1000000000 - n).toNat = C at *
      go_wp2_with fail
      refine hf.mono ?_
      rintro e w4 ⟨rfl,hb4⟩
      have HB4 := Lib.hid (HB3.out.trans (hb4.mono HB3.out.size))
      have HG4 := Lib.hid (HG3.out.below hb4)
      clear hb4 hf
      go_wp2_with fail
      refine (HN.out _ HG4.out).mono ?_
      rintro e w5 ⟨rfl,hb5⟩
      have HB5 := Lib.hid (HB4.out.trans (hb5.mono HB4.out.size))
      clear hb5
      go_wp2_with fail
      have e1 : (⟨#[45]⟩ : ByteArray) ++ ⟨A.toArray⟩ ++ ⟨#[46]⟩ ++ ⟨C.toArray⟩ = ⟨(45::(A ++ 46::C)).toArray⟩ := by
        rw [show (⟨#[45]⟩ : ByteArray) = ⟨[45].toArray⟩ from rfl,show (⟨#[46]⟩ : ByteArray) = ⟨[46].toArray⟩ from rfl,str_app,str_app,str_app]; simp
      rw [e1]
      refine (zzTrimRight1 (45::(A ++ 46::C)) 48 w5 (by simp; omega)).mono ?_
      rintro e w6 ⟨rfl,nd,rfl⟩
      go_wp2_with fail
      go_ret
      exact ⟨by rw [HP.out]; rfl,HB5.out.trans ⟨rfl,rfl,rfl,Nat.le_refl _,fun _ _ => rfl⟩⟩
    · have hP : paxTime S n = trimR (Lib.itoa S ++ 46::nineB n.toNat) 48 := by rw [paxTime,if_neg hn0,if_neg hs]
      have hf := fmtInt10 w3 HG3.out S (by omega) (by omega)
      have hnn := fun w' (h : Gl G0 E w') => nine_calls w' h n.toNat (by omega)
      rw [show ((n.toNat : Nat) : Int) = n by omega] at hnn
      have HP := Lib.hid hP
      have HN := Lib.hid hnn
      have hAl : (Lib.itoa S).length ≤ 1000 := by
        rw [itoa_nn _ (by omega),Lib.decDigits_length]
        have := nDigits_mono_le S.toNat 18 (by omega)
        omega
      have hCl : (nineB n.toNat).length ≤ 1000 := by rw [nineB_length _ (by omega)]; omega
      clear hn0 hP hS hnn
      generalize Lib.itoa S = A at *
      generalize nineB n.toNat = C at *
      go_wp2_with fail
      refine hf.mono ?_
      rintro e w4 ⟨rfl,hb4⟩
      have HB4 := Lib.hid (HB3.out.trans (hb4.mono HB3.out.size))
      have HG4 := Lib.hid (HG3.out.below hb4)
      clear hb4 hf
      go_wp2_with fail
      refine (HN.out _ HG4.out).mono ?_
      rintro e w5 ⟨rfl,hb5⟩
      have HB5 := Lib.hid (HB4.out.trans (hb5.mono HB4.out.size))
      clear hb5
      go_wp2_with fail
      have e1 : (⟨#[]⟩ : ByteArray) ++ ⟨A.toArray⟩ ++ ⟨#[46]⟩ ++ ⟨C.toArray⟩ = ⟨(A ++ 46::C).toArray⟩ := by
        rw [show (⟨#[]⟩ : ByteArray) = ⟨[].toArray⟩ from rfl,show (⟨#[46]⟩ : ByteArray) = ⟨[46].toArray⟩ from rfl,str_app,str_app,str_app]; simp
      rw [e1]
      refine (zzTrimRight1 (A ++ 46::C) 48 w5 (by simp; omega)).mono ?_
      rintro e w6 ⟨rfl,nd,rfl⟩
      go_wp2_with fail
      go_ret
      exact ⟨by rw [HP.out]; rfl,HB5.out.trans ⟨rfl,rfl,rfl,Nat.le_refl _,fun _ _ => rfl⟩⟩
def b256 (n : Nat) (x : Int) : Bool := decide (9 ≤ n) || (decide (-72057594037927936 ≤ x) && decide (x < 72057594037927936))
theorem fits256 (w : World) (n : Nat) (x : Int) (hn : n = 8 ∨ n = 12) : Calls Tryz.prog 99 #[.int .i64 n,.int .i64 x] w (RetSame w (.bool (b256 n x))) := by
  rcases hn with rfl | rfl
  · have e : b256 8 x = (decide (-72057594037927936 ≤ x) && decide (x < 72057594037927936)) := by simp [b256]
    rw [e]
    go_enter Tryz.func99,Tryz.ntmps99
    go_wp2
    all_goals (go_ret; exact ⟨by congr 2; simp; omega,rfl⟩)
  · have e : b256 12 x = true := by simp [b256]
    rw [e]
    go_enter Tryz.func99,Tryz.ntmps99
    go_wp2
    go_ret
    exact ⟨rfl,rfl⟩
def numM1 (m : KV) (x : Int) (n : Nat) (key : List UInt8) : KV := if octFits n x then m else putF m key (Lib.itoa x)
def numM (m R : KV) (x : Int) (n : Nat) (key : List UInt8) : KV := if !octFits n x || decide (R key = some (Lib.itoa x)) then putF m key (Lib.itoa x) else m
theorem numM_hit (m R : KV) (x : Int) (n : Nat) (key : List UInt8) (h : R key = some (Lib.itoa x)) : putF (numM1 m x n key) key (Lib.itoa x) = numM m R x n key := by
  unfold numM numM1
  rw [decide_eq_true h,Bool.or_true,if_pos rfl]
  split
  · rfl
  · exact putF_twice ..
theorem numM_miss (m R : KV) (x : Int) (n : Nat) (key : List UInt8) (h : R key ≠ some (Lib.itoa x)) : numM1 m x n key = numM m R x n key := by
  unfold numM numM1
  rw [decide_eq_false h,Bool.or_false]
  cases octFits n x <;> rfl
theorem itoa_len (x : Int) (h : nIn x) : (Lib.itoa x).length ≤ 1000 := by
  have h0 := h.1; have h1 := h.2
  rw [Lib.itoa]
  split
  · have := nDigits_mono_le x.natAbs 19 (by omega)
    rw [List.length_cons,Lib.decDigits_length]; omega
  · have := nDigits_mono_le x.toNat 18 (by omega)
    rw [Lib.decDigits_length]; omega
theorem vNum_key (G0 : Nat) (E : Nat → Addr) (b0 : Nat) (H : Hd) (R : KV) (u p g q : Bool) (m : KV) (k : Nat) (w : World) (h : AF G0 E b0 H R u p g q m k w) (x : Int) (n : Nat) (nm : List UInt8) (hx : nIn x) (hn3 : n = 8 ∨ n = 12) (hnm : nm.length ≤ 20) (hk : k < 1000) (key : List UInt8) (hkl : key.length ≤ 20) (hk3 : key.isEmpty = false) :
    Calls Tryz.prog 98 #[.int .i64 x,.int .i64 n,str nm,str key,.pointer (some ⟨b0 + 6,0,none⟩),.pointer (some ⟨b0 + 1,0,none⟩),.pointer (some ⟨b0 + 4,0,none⟩),.pointer (some ⟨b0 + 5,0,none⟩),.pointer (some ⟨b0 + 2,0,none⟩),.pointer (some ⟨b0,0,none⟩)] w
      (AFRet G0 E b0 H R (u && octFits n x) p (g && b256 n x) q (numM m R x n key) (k + 2) w) := by
  have hx0 := hx.1; have hx1 := hx.2
  have h256 := fits256 w n x hn3
  have h8 := fun w' => fits8 x w' n (by omega) hx0 hx1
  have HH := Lib.hid h
  have H8 := Lib.hid h8
  have HL := itoa_len x hx
  clear h h8
  go_enter Tryz.func98,Tryz.ntmps98
  go_upto_if 19 with (go_at_call 99; refine h256.mono ?_; rintro e w' ⟨rfl,rfl⟩)
  go_cut [] (fun wx => AFOut G0 E b0 H R u p (g && b256 n x) q m k w wx)
  case first =>
    have ⟨⟨x4,c4⟩,⟨x5,c5⟩,⟨x6,c6⟩,z4,z5,z6,c2,cR⟩ := HH.out.cells
    have h1 := HH.out.setS3 ((⟨#[71,78,85,32,99,97,110,110,111,116,32,101,110,99,111,100,101,32]⟩ : ByteArray) ++ ⟨nm.toArray⟩)
    have hm := mustNotBe _ (b0 + 1) u p g h1.fF 8 u p false (.inr (.inr ⟨rfl,rfl,rfl,rfl⟩))
    have H1 := Lib.hid h1
    clear h1
    cases hb : b256 n x
    · go_wp2_with fail
      refine hm.mono ?_
      rintro e w' ⟨rfl,rfl⟩
      go_wp2_with fail
      go_meet
      refine ⟨?_,(set_below b0 _ 6 _).trans (set_below b0 _ 1 _)⟩
      rw [hb,Bool.and_false]
      exact H1.out.setF u p false
    · go_wp2_with fail
      go_meet
      refine ⟨?_,Below.refl _ _⟩
      rw [hb,Bool.and_true]
      exact HH.out
  case rest =>
    obtain ⟨HA,HB⟩ := hcut
    obtain ⟨wo,rfl⟩ : ∃ wo : World,wo = wc := ⟨_,rfl⟩
    have HHA := Lib.hid HA
    have HHB := Lib.hid HB
    have hf8 := H8.out wo
    clear HA HB h256
    go_upto_if 26 with (go_at_call 100; refine hf8.mono ?_; rintro e w' ⟨rfl,rfl⟩)
    go_cut [] (fun wx => AFOut G0 E b0 H R (u && octFits n x) p (g && b256 n x) q (numM1 m x n key) (k + 1) wo wx)
    case first =>
      cases ho : octFits n x
      · have Q0 : Hid ((u && octFits n x) = false) := Lib.hid (by rw [ho,Bool.and_false])
        have Q1 : Hid (numM1 m x n key = putF m key (Lib.itoa x)) := Lib.hid (by unfold numM1; rw [ho]; rfl)
        clear ho
        have ⟨⟨x4,c4⟩,⟨x5,c5⟩,⟨x6,c6⟩,z4,z5,z6,c2,cR⟩ := HHA.out.cells
        have h4 := HHA.out.setS1 ((⟨#[85,83,84,65,82,32,99,97,110,110,111,116,32,101,110,99,111,100,101,32]⟩ : ByteArray) ++ ⟨nm.toArray⟩)
        have hm := mustNotBe _ (b0 + 1) u p (g && b256 n x) h4.fF 2 false p (g && b256 n x) (.inl ⟨rfl,rfl,rfl,rfl⟩)
        have h5 := h4.setF false p (g && b256 n x)
        have c2b := h5.cells.2.2.2.2.2.2.1
        have hfi := fun w' (hg : Gl G0 E w') => fmtInt10 w' hg x hx0 hx1
        have H5 := Lib.hid h5
        clear h4 h5
        go_wp2_with fail
        refine hm.mono ?_
        rintro e w6 ⟨rfl,rfl⟩
        go_wp2_with fail
        have HB5 := Lib.hid ((set_below b0 wo 4 (.string ((⟨#[85,83,84,65,82,32,99,97,110,110,111,116,32,101,110,99,111,100,101,32]⟩ : ByteArray) ++ ⟨nm.toArray⟩))).trans (set_below b0 _ 1 (.int .i64 (fm false p (g && b256 n x)))))
        clear hm c4 c5 c6 z4 z5 z6 c2 cR
        generalize (wo.setCell ⟨b0 + 4,0,none⟩ (.string ((⟨#[85,83,84,65,82,32,99,97,110,110,111,116,32,101,110,99,111,100,101,32]⟩ : ByteArray) ++ ⟨nm.toArray⟩))).setCell ⟨b0 + 1,0,none⟩ (.int .i64 (fm false p (g && b256 n x))) = w7 at *
        have HF := Lib.hid (hfi w7.drew H5.out.gl.drew)
        have hsz7 := H5.out.lt
        clear hfi
        go_region_held3 (fun w' => w'.cell? ⟨b0 + 2,0,none⟩ = some (.map (some (b0 + 3)))) (first | go_keep | assumption)
          (first | (go_at_call 101; refine HF.out.mono ?_; rintro e w8 ⟨rfl,hb8⟩; have hA8 := H5.out.below ((Below.refl _ w7).drew.trans hb8); have hB8 := Lib.hid ((((Below.refl _ w7).drew.trans hb8)).mono (show b0 ≤ w7.heap.size by omega)); have d2 := hA8.cells.2.2.2.2.2.2.1; obtain ⟨w9,hr9,hA9,hB9⟩ := hA8.put (by omega) key (Lib.itoa x) (by omega) (by omega); have e2 := hA9.cells.2.2.2.2.2.2.1))
        go_wp2_with fail
        go_meet
        refine ⟨?_,HB5.out.trans (hB8.out.trans hB9)⟩
        rw [Q0.out,Q1.out]
        exact hA9
      · go_wp2_with fail
        go_meet
        refine ⟨?_,Below.refl _ _⟩
        have q1 : numM1 m x n key = m := by unfold numM1; rw [ho]; rfl
        rw [ho,Bool.and_true,q1]
        exact HHA.out.mono (by omega)
    case rest =>
      obtain ⟨HA,HB⟩ := hcut
      obtain ⟨wp,rfl⟩ : ∃ wp : World,wp = wc := ⟨_,rfl⟩
      have HHA3 := Lib.hid HA
      have HHB3 := Lib.hid (HHB.out.trans HB)
      have ⟨⟨x4,c4⟩,⟨x5,c5⟩,⟨x6,c6⟩,z4,z5,z6,c2,cR⟩ := HA.cells
      have hlk := HA.lookR key (by omega)
      have hfi := fmtInt10 wp HA.gl x hx0 hx1
      clear c4 c5 c6 z4 z5 z6 HB HA hf8
      cases hRv : R key with
      | none =>
        rw [hRv] at hlk
        simp only [Option.getD_none,Option.isSome_none] at hlk
        have EM2 := Lib.hid (numM_miss m R x n key (by rw [hRv]; simp))
        clear hRv
        go_wp2_with fail
        go_end0
        refine ⟨rfl,?_,HHB3.out⟩
        rw [← EM2.out]
        exact HHA3.out.mono (by omega)
      | some v =>
        rw [hRv] at hlk
        simp only [Option.getD_some,Option.isSome_some] at hlk
        by_cases hv : v = Lib.itoa x
        · have EM2 := Lib.hid (numM_hit m R x n key (by rw [hRv,hv]))
          have hne : (v == Lib.itoa x) = true := by rw [hv]; simp
          have hvl : v.length ≤ 1000 := by rw [hv]; exact HL
          have HV := Lib.hid hv
          clear hRv hv
          go_wp2_with fail
          refine hfi.mono ?_
          rintro e w4 ⟨rfl,hb4⟩
          have hA4 := HHA3.out.below hb4
          have c2b := hA4.cells.2.2.2.2.2.2.1
          have HB4 := Lib.hid (HHB3.out.trans (hb4.mono (by have := HHA3.out.lt; omega)))
          obtain ⟨w5,hr5,hA5,hB5⟩ := hA4.put (by omega) key v (by omega) (by omega)
          have HA5 := Lib.hid hA5
          have HB5 := Lib.hid (HB4.out.trans hB5)
          clear hA5 hB5 hb4 hA4 c2
          go_wp2_with fail
          go_end0
          refine ⟨rfl,?_,HB5.out⟩
          have := HA5.out
          rw [HV.out,EM2.out] at this
          exact this
        · have EM2 := Lib.hid (numM_miss m R x n key (by rw [hRv]; intro e; cases e; exact hv rfl))
          have hne : (v == Lib.itoa x) = false := by rw [beq_eq_false_iff_ne]; exact hv
          clear hRv hv
          go_wp2_with fail
          refine hfi.mono ?_
          rintro e w4 ⟨rfl,hb4⟩
          have HA4 := Lib.hid (HHA3.out.below hb4)
          have HB4 := Lib.hid (HHB3.out.trans (hb4.mono (by have := HHA3.out.lt; omega)))
          clear hb4 c2
          go_wp2_with fail
          go_end0
          refine ⟨rfl,?_,HB4.out⟩
          rw [← EM2.out]
          exact HA4.out.mono (by omega)
theorem vNum_none (G0 : Nat) (E : Nat → Addr) (b0 : Nat) (H : Hd) (R : KV) (u p g q : Bool) (m : KV) (k : Nat) (w : World) (h : AF G0 E b0 H R u p g q m k w) (x : Int) (n : Nat) (nm : List UInt8) (hx : nIn x) (hn3 : n = 8 ∨ n = 12) (hnm : nm.length ≤ 20) (hk : k < 1000) (hR0 : R [] = none) :
    Calls Tryz.prog 98 #[.int .i64 x,.int .i64 n,str nm,str [],.pointer (some ⟨b0 + 6,0,none⟩),.pointer (some ⟨b0 + 1,0,none⟩),.pointer (some ⟨b0 + 4,0,none⟩),.pointer (some ⟨b0 + 5,0,none⟩),.pointer (some ⟨b0 + 2,0,none⟩),.pointer (some ⟨b0,0,none⟩)] w
      (AFRet G0 E b0 H R (u && octFits n x) (p && octFits n x) (g && b256 n x) q m (k + 2) w) := by
  have hx0 := hx.1; have hx1 := hx.2
  have h256 := fits256 w n x hn3
  have h8 := fun w' => fits8 x w' n (by omega) hx0 hx1
  have HH := Lib.hid h
  have H8 := Lib.hid h8
  have HL := itoa_len x hx
  clear h h8
  go_enter Tryz.func98,Tryz.ntmps98
  go_upto_if 19 with (go_at_call 99; refine h256.mono ?_; rintro e w' ⟨rfl,rfl⟩)
  go_cut [] (fun wx => AFOut G0 E b0 H R u p (g && b256 n x) q m k w wx)
  case first =>
    have ⟨⟨x4,c4⟩,⟨x5,c5⟩,⟨x6,c6⟩,z4,z5,z6,c2,cR⟩ := HH.out.cells
    have h1 := HH.out.setS3 ((⟨#[71,78,85,32,99,97,110,110,111,116,32,101,110,99,111,100,101,32]⟩ : ByteArray) ++ ⟨nm.toArray⟩)
    have hm := mustNotBe _ (b0 + 1) u p g h1.fF 8 u p false (.inr (.inr ⟨rfl,rfl,rfl,rfl⟩))
    have H1 := Lib.hid h1
    clear h1
    cases hb : b256 n x
    · go_wp2_with fail
      refine hm.mono ?_
      rintro e w' ⟨rfl,rfl⟩
      go_wp2_with fail
      go_meet
      refine ⟨?_,(set_below b0 _ 6 _).trans (set_below b0 _ 1 _)⟩
      rw [hb,Bool.and_false]
      exact H1.out.setF u p false
    · go_wp2_with fail
      go_meet
      refine ⟨?_,Below.refl _ _⟩
      rw [hb,Bool.and_true]
      exact HH.out
  case rest =>
    obtain ⟨HA,HB⟩ := hcut
    obtain ⟨wo,rfl⟩ : ∃ wo : World,wo = wc := ⟨_,rfl⟩
    have HHA := Lib.hid HA
    have HHB := Lib.hid HB
    have hf8 := H8.out wo
    clear HA HB h256
    go_upto_if 26 with (go_at_call 100; refine hf8.mono ?_; rintro e w' ⟨rfl,rfl⟩)
    go_cut [] (fun wx => AFOut G0 E b0 H R (u && octFits n x) (p && octFits n x) (g && b256 n x) q m (k + 1) wo wx)
    case first =>
      cases ho : octFits n x
      · have Q0 : Hid ((u && octFits n x) = false) := Lib.hid (by rw [ho,Bool.and_false])
        have Q1 : Hid ((p && octFits n x) = false) := Lib.hid (by rw [ho,Bool.and_false])
        clear ho
        have ⟨⟨x4,c4⟩,⟨x5,c5⟩,⟨x6,c6⟩,z4,z5,z6,c2,cR⟩ := HHA.out.cells
        have h4 := HHA.out.setS1 ((⟨#[85,83,84,65,82,32,99,97,110,110,111,116,32,101,110,99,111,100,101,32]⟩ : ByteArray) ++ ⟨nm.toArray⟩)
        have hm := mustNotBe _ (b0 + 1) u p (g && b256 n x) h4.fF 2 false p (g && b256 n x) (.inl ⟨rfl,rfl,rfl,rfl⟩)
        have h5 := h4.setF false p (g && b256 n x)
        have h6 := h5.setS2 ((⟨#[80,65,88,32,99,97,110,110,111,116,32,101,110,99,111,100,101,32]⟩ : ByteArray) ++ ⟨nm.toArray⟩)
        obtain ⟨-,⟨y5,d5⟩,-,-,zz5,-,-,-⟩ := h5.cells
        have hm2 := mustNotBe _ (b0 + 1) false p (g && b256 n x) h6.fF 4 false false (g && b256 n x) (.inr (.inl ⟨rfl,rfl,rfl,rfl⟩))
        have h7 := h6.setF false false (g && b256 n x)
        have H7 := Lib.hid h7
        have HB7 := Lib.hid ((((set_below b0 wo 4 (.string ((⟨#[85,83,84,65,82,32,99,97,110,110,111,116,32,101,110,99,111,100,101,32]⟩ : ByteArray) ++ ⟨nm.toArray⟩))).trans (set_below b0 _ 1 (.int .i64 (fm false p (g && b256 n x))))).trans (set_below b0 _ 5 (.string ((⟨#[80,65,88,32,99,97,110,110,111,116,32,101,110,99,111,100,101,32]⟩ : ByteArray) ++ ⟨nm.toArray⟩)))).trans (set_below b0 _ 1 (.int .i64 (fm false false (g && b256 n x)))))
        clear h4 h5 h6 h7 c5 z5 c6 z6 c2 cR
        go_wp2_with fail
        refine hm.mono ?_
        rintro e w6 ⟨rfl,rfl⟩
        go_wp2_with fail
        refine hm2.mono ?_
        rintro e w7 ⟨rfl,rfl⟩
        go_wp2_with fail
        go_meet
        refine ⟨?_,HB7.out⟩
        rw [Q0.out,Q1.out]
        exact H7.out.mono (by omega)
      · go_wp2_with fail
        go_meet
        refine ⟨?_,Below.refl _ _⟩
        rw [ho,Bool.and_true,Bool.and_true]
        exact HHA.out.mono (by omega)
    case rest =>
      obtain ⟨HA,HB⟩ := hcut
      obtain ⟨wp,rfl⟩ : ∃ wp : World,wp = wc := ⟨_,rfl⟩
      have HHA3 := Lib.hid HA
      have HHB3 := Lib.hid (HHB.out.trans HB)
      have ⟨⟨x4,c4⟩,⟨x5,c5⟩,⟨x6,c6⟩,z4,z5,z6,c2,cR⟩ := HA.cells
      have hlk := HA.lookR [] (by decide)
      rw [hR0] at hlk
      simp only [Option.getD_none,Option.isSome_none] at hlk
      clear c4 c5 c6 z4 z5 z6 HB HA hf8 hR0
      go_wp2_with fail
      go_end0
      exact ⟨rfl,HHA3.out.mono (by omega),HHB3.out⟩
end Go.Proofs.YtkanmkcojlefbaaGreatDoor
