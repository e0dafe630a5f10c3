/-
  Part of the proof; holds the texts VStr.
-/
import Derived.Test.YtkanmkcojlefbaaGreatDoorM10
import Derived.Test.YtkanmkcojlefbaaGreatDoorM11
set_option maxRecDepth 100000
set_option linter.unusedSimpArgs false
set_option linter.unusedVariables false
namespace Go.Proofs.YtkanmkcojlefbaaGreatDoor
open Go.RowKit
def strG (g : Bool) (s : List UInt8) (sz : Nat) (key : List UInt8) : Bool := if decide (0 ∈ s) || (decide (sz < s.length) && !(decide (key = kPath) || decide (key = kLink))) then false else g
def strU (u : Bool) (s : List UInt8) (sz : Nat) (key : List UInt8) : Bool := if !asciiB s || decide (sz < s.length) then (if decide (key = kPath) && splitB s then u else false) else u
def strM1 (m : KV) (s : List UInt8) (sz : Nat) (key : List UInt8) : KV := if !asciiB s || decide (sz < s.length) then putF m key s else m
def strM (m R : KV) (s : List UInt8) (sz : Nat) (key : List UInt8) : KV := if (!asciiB s || decide (sz < s.length)) || decide (R key = some s) then putF m key s else m
theorem putF_twice (m : KV) (k v : List UInt8) : putF (putF m k v) k v = putF m k v := by
  funext x; unfold putF; split <;> rfl
theorem strM_hit (m R : KV) (s : List UInt8) (sz : Nat) (key : List UInt8) (h : R key = some s) : putF (strM1 m s sz key) key s = strM m R s sz key := by
  unfold strM strM1
  rw [decide_eq_true h,Bool.or_true,if_pos rfl]
  split
  · exact putF_twice ..
  · rfl
theorem strM_miss (m R : KV) (s : List UInt8) (sz : Nat) (key : List UInt8) (h : R key ≠ some s) : strM1 m s sz key = strM m R s sz key := by
  unfold strM strM1
  rw [decide_eq_false h,Bool.or_false]
def AFOut (G0 : Nat) (E : Nat → Addr) (b0 : Nat) (H : Hd) (R : KV) (u p g q : Bool) (m : KV) (n : Nat) (w wx : World) : Prop := AF G0 E b0 H R u p g q m n wx ∧ Below b0 w wx
theorem AF.mono {G0 : Nat} {E : Nat → Addr} {b0 : Nat} {H : Hd} {R : KV} {u p g q : Bool} {m : KV} {n n' : Nat} {w : World} (h : AF G0 E b0 H R u p g q m n w) (hn : n ≤ n') : AF G0 E b0 H R u p g q m n' w := { h with mp := h.mp.mono hn }
theorem AF.cells {G0 : Nat} {E : Nat → Addr} {b0 : Nat} {H : Hd} {R : KV} {u p g q : Bool} {m : KV} {n : Nat} {w : World} (h : AF G0 E b0 H R u p g q m n w) :
    (∃ x,w.cell? ⟨b0 + 4,0,none⟩ = some (.string x)) ∧ (∃ x,w.cell? ⟨b0 + 5,0,none⟩ = some (.string x)) ∧ (∃ x,w.cell? ⟨b0 + 6,0,none⟩ = some (.string x)) ∧ w.frozen? ⟨b0 + 4,0,none⟩ = false ∧ w.frozen? ⟨b0 + 5,0,none⟩ = false ∧ w.frozen? ⟨b0 + 6,0,none⟩ = false ∧
    w.cell? ⟨b0 + 2,0,none⟩ = some (.map (some (b0 + 3))) ∧ w.cell? ⟨b0,18,none⟩ = some H.recs := by
  obtain ⟨x1,h1⟩ := h.s1; obtain ⟨x2,h2⟩ := h.s2; obtain ⟨x3,h3⟩ := h.s3
  exact ⟨⟨x1,by rw [Lib.cell_of_heap h1]; rfl⟩,⟨x2,by rw [Lib.cell_of_heap h2]; rfl⟩,⟨x3,by rw [Lib.cell_of_heap h3]; rfl⟩,Lib.frozen_of_heap h1 0,Lib.frozen_of_heap h2 0,Lib.frozen_of_heap h3 0,by rw [Lib.cell_of_heap h.fM]; rfl,by rw [Lib.cell_of_heap h.hH]; rfl⟩
theorem set_below (b0 : Nat) (w : World) (j : Nat) (v : Value) : Below b0 w (w.setCell ⟨b0 + j,0,none⟩ v) := (Below.refl _ w).setCell (p := ⟨b0 + j,0,none⟩) (by simp) v
def AFRet (G0 : Nat) (E : Nat → Addr) (b0 : Nat) (H : Hd) (R : KV) (u p g q : Bool) (m : KV) (n : Nat) (w : World) (e : Ending) (w' : World) : Prop := e = .returned (.tuple #[]) ∧ AFOut G0 E b0 H R u p g q m n w w'
theorem vStr_path_long (G0 : Nat) (E : Nat → Addr) (b0 : Nat) (H : Hd) (R : KV) (u p g q : Bool) (m : KV) (n : Nat) (w : World) (h : AF G0 E b0 H R u p g q m n w) (s nm : List UInt8) (sz : Nat) (hs : s.length ≤ 1048576) (hnm : nm.length ≤ 20) (hn : n < 1000)  (ht : sz < s.length) (hsp : ∀ w',Calls Tryz.prog 97 #[str s] w' (SplitOut s w')) :
    Calls Tryz.prog 93 #[str s,.int .i64 sz,str nm,str [112,97,116,104],.pointer (some ⟨b0 + 6,0,none⟩),.pointer (some ⟨b0 + 1,0,none⟩),.pointer (some ⟨b0 + 4,0,none⟩),.pointer (some ⟨b0 + 5,0,none⟩),.pointer (some ⟨b0 + 2,0,none⟩),.pointer (some ⟨b0,0,none⟩)] w
      (AFRet G0 E b0 H R (strU u s sz [112,97,116,104]) p (strG g s sz [112,97,116,104]) q (strM m R s sz [112,97,116,104]) (n + 2) w) := by
  have hnul := hasNUL_calls s w (by omega)
  have i1 : (sz : Int) < s.length := by omega
  have eP : decide ([112,97,116,104] = kPath) = true := decide_eq_true rfl
  have eL : decide ([112,97,116,104] = kLink) = false := decide_eq_false (by decide)
  have eT : decide (sz < s.length) = true := by simp; omega
  have eG : strG g s sz [112,97,116,104] = if decide (0 ∈ s) then false else g := by unfold strG; rw [eP,eL,eT]; simp
  have eU : strU u s sz [112,97,116,104] = if true then (if splitB s then u else false) else u := by unfold strU; rw [eP,eT]; simp
  have eM : strM1 m s sz [112,97,116,104] = if true then putF m [112,97,116,104] s else m := by unfold strM1; rw [eT]; simp
  have EG := Lib.hid eG; have EU := Lib.hid eU; have EM := Lib.hid eM
  have HH := Lib.hid h
  have HS := Lib.hid hsp
  clear h hsp eP eL eT eG eU eM
  go_enter Tryz.func93,Tryz.ntmps93
  go_upto_region 2 with fail
  go_cut [40] (fun s40 wx => s40 = .bool (decide (0 ∈ s)) ∧ wx = w)
  case first =>
    go_wp2_with (go_at_call 94; refine hnul.mono ?_; rintro e w' ⟨rfl,rfl⟩)
    all_goals (go_meet; exact ⟨by simp [*],rfl⟩)
  case rest =>
    obtain ⟨rfl,rfl⟩ := hcut
    have ⟨⟨x4,c4⟩,⟨x5,c5⟩,⟨x6,c6⟩,z4,z5,z6,c2,cR⟩ := HH.out.cells
    have h1 := HH.out.setS3 ((⟨#[71,78,85,32,99,97,110,110,111,116,32,101,110,99,111,100,101,32]⟩ : ByteArray) ++ ⟨nm.toArray⟩)
    have hm := mustNotBe _ (b0 + 1) u p g h1.fF 8 u p false (.inr (.inr ⟨rfl,rfl,rfl,rfl⟩))
    have H1 := Lib.hid h1
    clear h1
    go_upto_if 40 with fail
    go_cut [] (fun wx => AFOut G0 E b0 H R u p (strG g s sz [112,97,116,104]) q m n wc wx)
    case first =>
      go_wp2_with fail
      · refine hm.mono ?_
        rintro e w' ⟨rfl,rfl⟩
        go_wp2_with fail
        go_meet
        refine ⟨?_,(set_below b0 _ 6 _).trans (set_below b0 _ 1 _)⟩
        have q0 : strG g s sz [112,97,116,104] = false := by rw [EG.out]; simp [*]
        rw [q0]
        exact H1.out.setF u p false
      · go_meet
        refine ⟨?_,Below.refl _ _⟩
        have q0 : strG g s sz [112,97,116,104] = g := by rw [EG.out]; simp [*]
        rw [q0]
        exact HH.out
    case rest =>
      obtain ⟨HA,HB⟩ := hcut
      obtain ⟨wo,rfl⟩ : ∃ wo : World,wo = wc := ⟨_,rfl⟩
      have HHA := Lib.hid HA
      have HHB := Lib.hid HB
      have hasc := isASCII_calls s wo (by omega)
      clear HA HB c4 c5 c6 z4 z5 z6 c2 cR hm H1
      go_upto_region 5 with fail
      go_cut [49] (fun s49 wx => s49 = .bool (true) ∧ AFOut G0 E b0 H R u p (strG g s sz [112,97,116,104]) q m n wo wx)
      case first =>
        go_wp2_with (go_at_call 96; refine hasc.mono ?_; rintro e w' ⟨rfl,hb⟩)
        all_goals (go_meet; exact ⟨by simp [*],HHA.out.below hb,hb.mono (by have := HHA.out.lt; omega)⟩)
      case rest =>
        obtain ⟨rfl,HA,HB⟩ := hcut
        have HHA2 := Lib.hid HA
        have HHB2 := Lib.hid (HHB.out.trans HB)
        clear HA HB hasc HHA HHB
        have hspc := HS.out wc
        go_upto_if 49 with fail
        go_cut [] (fun wx => AFOut G0 E b0 H R (strU u s sz [112,97,116,104]) p (strG g s sz [112,97,116,104]) q (strM1 m s sz [112,97,116,104]) (n + 1) wc wx)
        case first =>
          go_wp2_with fail
          refine hspc.mono ?_
          rintro e w3 ⟨rfl,hb3⟩
          have HA3 := HHA2.out.below hb3
          have ⟨⟨x4,c4⟩,⟨x5,c5⟩,⟨x6,c6⟩,z4,z5,z6,c2,cR⟩ := HA3.cells
          have HB3 := Lib.hid (hb3.mono (show b0 ≤ wc.heap.size by have := HHA2.out.lt; omega))
          have HHA3 := Lib.hid HA3
          by_cases hsb : splitB s = true
          · rw [if_pos hsb]
            obtain ⟨w5,hr5,hA5,hB5⟩ := HA3.put (by omega) [112,97,116,104] s (by decide) (by omega)
            have HA5 := Lib.hid hA5
            have HB5 := Lib.hid hB5
            clear HA3 hA5 hB5 hspc hb3
            go_wp2_with fail
            go_meet
            refine ⟨?_,HB3.out.trans HB5.out⟩
            have q1 : strU u s sz [112,97,116,104] = u := by rw [EU.out]; simp [*]
            have q2 : strM1 m s sz [112,97,116,104] = putF m [112,97,116,104] s := by rw [EM.out]; simp [*]
            rw [q1,q2]
            exact HA5.out
          · rw [if_neg hsb]
            have h4 := HA3.setS1 ((⟨#[85,83,84,65,82,32,99,97,110,110,111,116,32,101,110,99,111,100,101,32]⟩ : ByteArray) ++ ⟨nm.toArray⟩)
            have hm := mustNotBe _ (b0 + 1) u p (strG g s sz [112,97,116,104]) h4.fF 2 false p (strG g s sz [112,97,116,104]) (.inl ⟨rfl,rfl,rfl,rfl⟩)
            have h5 := h4.setF false p (strG g s sz [112,97,116,104])
            have c2b := h5.cells.2.2.2.2.2.2.1
            obtain ⟨w5,hr5,hA5,hB5⟩ := h5.put (by omega) [112,97,116,104] s (by decide) (by omega)
            have HA5 := Lib.hid hA5
            have HB5 := Lib.hid hB5
            clear HA3 h4 h5 hA5 hB5 hspc hb3
            go_wp2_with fail
            refine hm.mono ?_
            rintro e w6 ⟨rfl,rfl⟩
            go_wp2_with fail
            go_meet
            refine ⟨?_,HB3.out.trans (((set_below b0 _ 4 _).trans (set_below b0 _ 1 _)).trans HB5.out)⟩
            have q1 : strU u s sz [112,97,116,104] = false := by rw [EU.out]; simp [*]
            have q2 : strM1 m s sz [112,97,116,104] = putF m [112,97,116,104] s := by rw [EM.out]; simp [*]
            rw [q1,q2]
            exact HA5.out
        case rest =>
          obtain ⟨HA,HB⟩ := hcut
          obtain ⟨wp,rfl⟩ : ∃ wp : World,wp = wc := ⟨_,rfl⟩
          have HHA3 := Lib.hid HA
          have HHB3 := Lib.hid (HHB2.out.trans HB)
          have ⟨⟨x4,c4⟩,⟨x5,c5⟩,⟨x6,c6⟩,z4,z5,z6,c2,cR⟩ := HA.cells
          have hlk := HA.lookR [112,97,116,104] (by decide)
          clear c4 c5 c6 z4 z5 z6 HB hspc
          by_cases hR : R [112,97,116,104] = some s
          · rw [hR] at hlk
            simp only [Option.getD_some,Option.isSome_some] at hlk
            obtain ⟨w5,hr5,hA5,hB5⟩ := HA.put (by omega) [112,97,116,104] s (by decide) (by omega)
            have HA5 := Lib.hid hA5
            have HB5 := Lib.hid hB5
            have ER := Lib.hid hR
            clear HA hA5 hB5 hR
            go_wp2_with fail
            go_end0
            refine ⟨rfl,?_,HHB3.out.trans HB5.out⟩
            have := HA5.out
            rw [strM_hit m R s sz [112,97,116,104] ER.out] at this
            exact this
          · have EM2 := Lib.hid (strM_miss m R s sz [112,97,116,104] hR)
            clear HA
            cases hRv : R [112,97,116,104] with
            | none =>
              rw [hRv] at hlk
              simp only [Option.getD_none,Option.isSome_none] at hlk
              clear hR hRv
              go_wp2_with fail
              go_end0
              refine ⟨rfl,?_,HHB3.out⟩
              rw [← EM2.out]
              exact HHA3.out.mono (by omega)
            | some v =>
              rw [hRv] at hlk
              simp only [Option.getD_some,Option.isSome_some] at hlk
              have hne : (v == s) = false := by rw [beq_eq_false_iff_ne]; exact fun e => hR (by rw [hRv,e])
              clear hR hRv
              go_wp2_with fail
              go_end0
              refine ⟨rfl,?_,HHB3.out⟩
              rw [← EM2.out]
              exact HHA3.out.mono (by omega)
theorem vStr_path_fits (G0 : Nat) (E : Nat → Addr) (b0 : Nat) (H : Hd) (R : KV) (u p g q : Bool) (m : KV) (n : Nat) (w : World) (h : AF G0 E b0 H R u p g q m n w) (s nm : List UInt8) (sz : Nat) (hs : s.length ≤ 1048576) (hnm : nm.length ≤ 20) (hn : n < 1000)  (ht : ¬ sz < s.length) (hsp : ∀ w',Calls Tryz.prog 97 #[str s] w' (SplitOut s w')) :
    Calls Tryz.prog 93 #[str s,.int .i64 sz,str nm,str [112,97,116,104],.pointer (some ⟨b0 + 6,0,none⟩),.pointer (some ⟨b0 + 1,0,none⟩),.pointer (some ⟨b0 + 4,0,none⟩),.pointer (some ⟨b0 + 5,0,none⟩),.pointer (some ⟨b0 + 2,0,none⟩),.pointer (some ⟨b0,0,none⟩)] w
      (AFRet G0 E b0 H R (strU u s sz [112,97,116,104]) p (strG g s sz [112,97,116,104]) q (strM m R s sz [112,97,116,104]) (n + 2) w) := by
  have hnul := hasNUL_calls s w (by omega)
  have i1 : ¬ (sz : Int) < s.length := by omega
  have eP : decide ([112,97,116,104] = kPath) = true := decide_eq_true rfl
  have eL : decide ([112,97,116,104] = kLink) = false := decide_eq_false (by decide)
  have eT : decide (sz < s.length) = false := by simp; omega
  have eG : strG g s sz [112,97,116,104] = if decide (0 ∈ s) then false else g := by unfold strG; rw [eP,eL,eT]; simp
  have eU : strU u s sz [112,97,116,104] = if !asciiB s then (if splitB s then u else false) else u := by unfold strU; rw [eP,eT]; simp
  have eM : strM1 m s sz [112,97,116,104] = if !asciiB s then putF m [112,97,116,104] s else m := by unfold strM1; rw [eT]; simp
  have EG := Lib.hid eG; have EU := Lib.hid eU; have EM := Lib.hid eM
  have HH := Lib.hid h
  have HS := Lib.hid hsp
  clear h hsp eP eL eT eG eU eM
  go_enter Tryz.func93,Tryz.ntmps93
  go_upto_region 2 with fail
  go_cut [40] (fun s40 wx => s40 = .bool (decide (0 ∈ s)) ∧ wx = w)
  case first =>
    go_wp2_with (go_at_call 94; refine hnul.mono ?_; rintro e w' ⟨rfl,rfl⟩)
    all_goals (go_meet; exact ⟨by simp [*],rfl⟩)
  case rest =>
    obtain ⟨rfl,rfl⟩ := hcut
    have ⟨⟨x4,c4⟩,⟨x5,c5⟩,⟨x6,c6⟩,z4,z5,z6,c2,cR⟩ := HH.out.cells
    have h1 := HH.out.setS3 ((⟨#[71,78,85,32,99,97,110,110,111,116,32,101,110,99,111,100,101,32]⟩ : ByteArray) ++ ⟨nm.toArray⟩)
    have hm := mustNotBe _ (b0 + 1) u p g h1.fF 8 u p false (.inr (.inr ⟨rfl,rfl,rfl,rfl⟩))
    have H1 := Lib.hid h1
    clear h1
    go_upto_if 40 with fail
    go_cut [] (fun wx => AFOut G0 E b0 H R u p (strG g s sz [112,97,116,104]) q m n wc wx)
    case first =>
      go_wp2_with fail
      · refine hm.mono ?_
        rintro e w' ⟨rfl,rfl⟩
        go_wp2_with fail
        go_meet
        refine ⟨?_,(set_below b0 _ 6 _).trans (set_below b0 _ 1 _)⟩
        have q0 : strG g s sz [112,97,116,104] = false := by rw [EG.out]; simp [*]
        rw [q0]
        exact H1.out.setF u p false
      · go_meet
        refine ⟨?_,Below.refl _ _⟩
        have q0 : strG g s sz [112,97,116,104] = g := by rw [EG.out]; simp [*]
        rw [q0]
        exact HH.out
    case rest =>
      obtain ⟨HA,HB⟩ := hcut
      obtain ⟨wo,rfl⟩ : ∃ wo : World,wo = wc := ⟨_,rfl⟩
      have HHA := Lib.hid HA
      have HHB := Lib.hid HB
      have hasc := isASCII_calls s wo (by omega)
      clear HA HB c4 c5 c6 z4 z5 z6 c2 cR hm H1
      go_upto_region 5 with fail
      go_cut [49] (fun s49 wx => s49 = .bool (!asciiB s) ∧ AFOut G0 E b0 H R u p (strG g s sz [112,97,116,104]) q m n wo wx)
      case first =>
        go_wp2_with (go_at_call 96; refine hasc.mono ?_; rintro e w' ⟨rfl,hb⟩)
        all_goals (go_meet; exact ⟨by simp [*],HHA.out.below hb,hb.mono (by have := HHA.out.lt; omega)⟩)
      case rest =>
        obtain ⟨rfl,HA,HB⟩ := hcut
        have HHA2 := Lib.hid HA
        have HHB2 := Lib.hid (HHB.out.trans HB)
        clear HA HB hasc HHA HHB
        have hspc := HS.out wc
        go_upto_if 49 with fail
        go_cut [] (fun wx => AFOut G0 E b0 H R (strU u s sz [112,97,116,104]) p (strG g s sz [112,97,116,104]) q (strM1 m s sz [112,97,116,104]) (n + 1) wc wx)
        case first =>
          go_wp2_with fail
          · refine hspc.mono ?_
            rintro e w3 ⟨rfl,hb3⟩
            have HA3 := HHA2.out.below hb3
            have ⟨⟨x4,c4⟩,⟨x5,c5⟩,⟨x6,c6⟩,z4,z5,z6,c2,cR⟩ := HA3.cells
            have HB3 := Lib.hid (hb3.mono (show b0 ≤ wc.heap.size by have := HHA2.out.lt; omega))
            have HHA3 := Lib.hid HA3
            by_cases hsb : splitB s = true
            · rw [if_pos hsb]
              obtain ⟨w5,hr5,hA5,hB5⟩ := HA3.put (by omega) [112,97,116,104] s (by decide) (by omega)
              have HA5 := Lib.hid hA5
              have HB5 := Lib.hid hB5
              clear HA3 hA5 hB5 hspc hb3
              go_wp2_with fail
              go_meet
              refine ⟨?_,HB3.out.trans HB5.out⟩
              have q1 : strU u s sz [112,97,116,104] = u := by rw [EU.out]; simp [*]
              have q2 : strM1 m s sz [112,97,116,104] = putF m [112,97,116,104] s := by rw [EM.out]; simp [*]
              rw [q1,q2]
              exact HA5.out
            · rw [if_neg hsb]
              have h4 := HA3.setS1 ((⟨#[85,83,84,65,82,32,99,97,110,110,111,116,32,101,110,99,111,100,101,32]⟩ : ByteArray) ++ ⟨nm.toArray⟩)
              have hm := mustNotBe _ (b0 + 1) u p (strG g s sz [112,97,116,104]) h4.fF 2 false p (strG g s sz [112,97,116,104]) (.inl ⟨rfl,rfl,rfl,rfl⟩)
              have h5 := h4.setF false p (strG g s sz [112,97,116,104])
              have c2b := h5.cells.2.2.2.2.2.2.1
              obtain ⟨w5,hr5,hA5,hB5⟩ := h5.put (by omega) [112,97,116,104] s (by decide) (by omega)
              have HA5 := Lib.hid hA5
              have HB5 := Lib.hid hB5
              clear HA3 h4 h5 hA5 hB5 hspc hb3
              go_wp2_with fail
              refine hm.mono ?_
              rintro e w6 ⟨rfl,rfl⟩
              go_wp2_with fail
              go_meet
              refine ⟨?_,HB3.out.trans (((set_below b0 _ 4 _).trans (set_below b0 _ 1 _)).trans HB5.out)⟩
              have q1 : strU u s sz [112,97,116,104] = false := by rw [EU.out]; simp [*]
              have q2 : strM1 m s sz [112,97,116,104] = putF m [112,97,116,104] s := by rw [EM.out]; simp [*]
              rw [q1,q2]
              exact HA5.out
          · go_meet
            refine ⟨?_,Below.refl _ _⟩
            have q1 : strU u s sz [112,97,116,104] = u := by rw [EU.out]; simp [*]
            have q2 : strM1 m s sz [112,97,116,104] = m := by rw [EM.out]; simp [*]
            rw [q1,q2]
            exact HHA2.out.mono (by omega)
        case rest =>
          obtain ⟨HA,HB⟩ := hcut
          obtain ⟨wp,rfl⟩ : ∃ wp : World,wp = wc := ⟨_,rfl⟩
          have HHA3 := Lib.hid HA
          have HHB3 := Lib.hid (HHB2.out.trans HB)
          have ⟨⟨x4,c4⟩,⟨x5,c5⟩,⟨x6,c6⟩,z4,z5,z6,c2,cR⟩ := HA.cells
          have hlk := HA.lookR [112,97,116,104] (by decide)
          clear c4 c5 c6 z4 z5 z6 HB hspc
          by_cases hR : R [112,97,116,104] = some s
          · rw [hR] at hlk
            simp only [Option.getD_some,Option.isSome_some] at hlk
            obtain ⟨w5,hr5,hA5,hB5⟩ := HA.put (by omega) [112,97,116,104] s (by decide) (by omega)
            have HA5 := Lib.hid hA5
            have HB5 := Lib.hid hB5
            have ER := Lib.hid hR
            clear HA hA5 hB5 hR
            go_wp2_with fail
            go_end0
            refine ⟨rfl,?_,HHB3.out.trans HB5.out⟩
            have := HA5.out
            rw [strM_hit m R s sz [112,97,116,104] ER.out] at this
            exact this
          · have EM2 := Lib.hid (strM_miss m R s sz [112,97,116,104] hR)
            clear HA
            cases hRv : R [112,97,116,104] with
            | none =>
              rw [hRv] at hlk
              simp only [Option.getD_none,Option.isSome_none] at hlk
              clear hR hRv
              go_wp2_with fail
              go_end0
              refine ⟨rfl,?_,HHB3.out⟩
              rw [← EM2.out]
              exact HHA3.out.mono (by omega)
            | some v =>
              rw [hRv] at hlk
              simp only [Option.getD_some,Option.isSome_some] at hlk
              have hne : (v == s) = false := by rw [beq_eq_false_iff_ne]; exact fun e => hR (by rw [hRv,e])
              clear hR hRv
              go_wp2_with fail
              go_end0
              refine ⟨rfl,?_,HHB3.out⟩
              rw [← EM2.out]
              exact HHA3.out.mono (by omega)
theorem vStr_link_long (G0 : Nat) (E : Nat → Addr) (b0 : Nat) (H : Hd) (R : KV) (u p g q : Bool) (m : KV) (n : Nat) (w : World) (h : AF G0 E b0 H R u p g q m n w) (s nm : List UInt8) (sz : Nat) (hs : s.length ≤ 1048576) (hnm : nm.length ≤ 20) (hn : n < 1000)  (ht : sz < s.length) (hsp : ∀ w',Calls Tryz.prog 97 #[str s] w' (SplitOut s w')) :
    Calls Tryz.prog 93 #[str s,.int .i64 sz,str nm,str [108,105,110,107,112,97,116,104],.pointer (some ⟨b0 + 6,0,none⟩),.pointer (some ⟨b0 + 1,0,none⟩),.pointer (some ⟨b0 + 4,0,none⟩),.pointer (some ⟨b0 + 5,0,none⟩),.pointer (some ⟨b0 + 2,0,none⟩),.pointer (some ⟨b0,0,none⟩)] w
      (AFRet G0 E b0 H R (strU u s sz [108,105,110,107,112,97,116,104]) p (strG g s sz [108,105,110,107,112,97,116,104]) q (strM m R s sz [108,105,110,107,112,97,116,104]) (n + 2) w) := by
  have hnul := hasNUL_calls s w (by omega)
  have i1 : (sz : Int) < s.length := by omega
  have eP : decide ([108,105,110,107,112,97,116,104] = kPath) = false := decide_eq_false (by decide)
  have eL : decide ([108,105,110,107,112,97,116,104] = kLink) = true := decide_eq_true rfl
  have eT : decide (sz < s.length) = true := by simp; omega
  have eG : strG g s sz [108,105,110,107,112,97,116,104] = if decide (0 ∈ s) then false else g := by unfold strG; rw [eP,eL,eT]; simp
  have eU : strU u s sz [108,105,110,107,112,97,116,104] = if true then (if false then u else false) else u := by unfold strU; rw [eP,eT]; simp
  have eM : strM1 m s sz [108,105,110,107,112,97,116,104] = if true then putF m [108,105,110,107,112,97,116,104] s else m := by unfold strM1; rw [eT]; simp
  have EG := Lib.hid eG; have EU := Lib.hid eU; have EM := Lib.hid eM
  have HH := Lib.hid h
  have HS := Lib.hid hsp
  clear h hsp eP eL eT eG eU eM
  go_enter Tryz.func93,Tryz.ntmps93
  go_upto_region 2 with fail
  go_cut [40] (fun s40 wx => s40 = .bool (decide (0 ∈ s)) ∧ wx = w)
  case first =>
    go_wp2_with (go_at_call 94; refine hnul.mono ?_; rintro e w' ⟨rfl,rfl⟩)
    all_goals (go_meet; exact ⟨by simp [*],rfl⟩)
  case rest =>
    obtain ⟨rfl,rfl⟩ := hcut
    have ⟨⟨x4,c4⟩,⟨x5,c5⟩,⟨x6,c6⟩,z4,z5,z6,c2,cR⟩ := HH.out.cells
    have h1 := HH.out.setS3 ((⟨#[71,78,85,32,99,97,110,110,111,116,32,101,110,99,111,100,101,32]⟩ : ByteArray) ++ ⟨nm.toArray⟩)
    have hm := mustNotBe _ (b0 + 1) u p g h1.fF 8 u p false (.inr (.inr ⟨rfl,rfl,rfl,rfl⟩))
    have H1 := Lib.hid h1
    clear h1
    go_upto_if 40 with fail
    go_cut [] (fun wx => AFOut G0 E b0 H R u p (strG g s sz [108,105,110,107,112,97,116,104]) q m n wc wx)
    case first =>
      go_wp2_with fail
      · refine hm.mono ?_
        rintro e w' ⟨rfl,rfl⟩
        go_wp2_with fail
        go_meet
        refine ⟨?_,(set_below b0 _ 6 _).trans (set_below b0 _ 1 _)⟩
        have q0 : strG g s sz [108,105,110,107,112,97,116,104] = false := by rw [EG.out]; simp [*]
        rw [q0]
        exact H1.out.setF u p false
      · go_meet
        refine ⟨?_,Below.refl _ _⟩
        have q0 : strG g s sz [108,105,110,107,112,97,116,104] = g := by rw [EG.out]; simp [*]
        rw [q0]
        exact HH.out
    case rest =>
      obtain ⟨HA,HB⟩ := hcut
      obtain ⟨wo,rfl⟩ : ∃ wo : World,wo = wc := ⟨_,rfl⟩
      have HHA := Lib.hid HA
      have HHB := Lib.hid HB
      have hasc := isASCII_calls s wo (by omega)
      clear HA HB c4 c5 c6 z4 z5 z6 c2 cR hm H1
      go_upto_region 5 with fail
      go_cut [49] (fun s49 wx => s49 = .bool (true) ∧ AFOut G0 E b0 H R u p (strG g s sz [108,105,110,107,112,97,116,104]) q m n wo wx)
      case first =>
        go_wp2_with (go_at_call 96; refine hasc.mono ?_; rintro e w' ⟨rfl,hb⟩)
        all_goals (go_meet; exact ⟨by simp [*],HHA.out.below hb,hb.mono (by have := HHA.out.lt; omega)⟩)
      case rest =>
        obtain ⟨rfl,HA,HB⟩ := hcut
        have HHA2 := Lib.hid HA
        have HHB2 := Lib.hid (HHB.out.trans HB)
        clear HA HB hasc HHA HHB
        have hspc := HS.out wc
        go_upto_if 49 with fail
        go_cut [] (fun wx => AFOut G0 E b0 H R (strU u s sz [108,105,110,107,112,97,116,104]) p (strG g s sz [108,105,110,107,112,97,116,104]) q (strM1 m s sz [108,105,110,107,112,97,116,104]) (n + 1) wc wx)
        case first =>
          go_wp2_with fail
          refine hspc.mono ?_
          rintro e w3 ⟨rfl,hb3⟩
          have HA3 := HHA2.out.below hb3
          have ⟨⟨x4,c4⟩,⟨x5,c5⟩,⟨x6,c6⟩,z4,z5,z6,c2,cR⟩ := HA3.cells
          have HB3 := Lib.hid (hb3.mono (show b0 ≤ wc.heap.size by have := HHA2.out.lt; omega))
          have HHA3 := Lib.hid HA3
          by_cases hsb : splitB s = true
          · rw [if_pos hsb]
            have h4 := HA3.setS1 ((⟨#[85,83,84,65,82,32,99,97,110,110,111,116,32,101,110,99,111,100,101,32]⟩ : ByteArray) ++ ⟨nm.toArray⟩)
            have hm := mustNotBe _ (b0 + 1) u p (strG g s sz [108,105,110,107,112,97,116,104]) h4.fF 2 false p (strG g s sz [108,105,110,107,112,97,116,104]) (.inl ⟨rfl,rfl,rfl,rfl⟩)
            have h5 := h4.setF false p (strG g s sz [108,105,110,107,112,97,116,104])
            have c2b := h5.cells.2.2.2.2.2.2.1
            obtain ⟨w5,hr5,hA5,hB5⟩ := h5.put (by omega) [108,105,110,107,112,97,116,104] s (by decide) (by omega)
            have HA5 := Lib.hid hA5
            have HB5 := Lib.hid hB5
            clear HA3 h4 h5 hA5 hB5 hspc hb3
            go_wp2_with fail
            refine hm.mono ?_
            rintro e w6 ⟨rfl,rfl⟩
            go_wp2_with fail
            go_meet
            refine ⟨?_,HB3.out.trans (((set_below b0 _ 4 _).trans (set_below b0 _ 1 _)).trans HB5.out)⟩
            have q1 : strU u s sz [108,105,110,107,112,97,116,104] = false := by rw [EU.out]; simp [*]
            have q2 : strM1 m s sz [108,105,110,107,112,97,116,104] = putF m [108,105,110,107,112,97,116,104] s := by rw [EM.out]; simp [*]
            rw [q1,q2]
            exact HA5.out
          · rw [if_neg hsb]
            have h4 := HA3.setS1 ((⟨#[85,83,84,65,82,32,99,97,110,110,111,116,32,101,110,99,111,100,101,32]⟩ : ByteArray) ++ ⟨nm.toArray⟩)
            have hm := mustNotBe _ (b0 + 1) u p (strG g s sz [108,105,110,107,112,97,116,104]) h4.fF 2 false p (strG g s sz [108,105,110,107,112,97,116,104]) (.inl ⟨rfl,rfl,rfl,rfl⟩)
            have h5 := h4.setF false p (strG g s sz [108,105,110,107,112,97,116,104])
            have c2b := h5.cells.2.2.2.2.2.2.1
            obtain ⟨w5,hr5,hA5,hB5⟩ := h5.put (by omega) [108,105,110,107,112,97,116,104] s (by decide) (by omega)
            have HA5 := Lib.hid hA5
            have HB5 := Lib.hid hB5
            clear HA3 h4 h5 hA5 hB5 hspc hb3
            go_wp2_with fail
            refine hm.mono ?_
            rintro e w6 ⟨rfl,rfl⟩
            go_wp2_with fail
            go_meet
            refine ⟨?_,HB3.out.trans (((set_below b0 _ 4 _).trans (set_below b0 _ 1 _)).trans HB5.out)⟩
            have q1 : strU u s sz [108,105,110,107,112,97,116,104] = false := by rw [EU.out]; simp [*]
            have q2 : strM1 m s sz [108,105,110,107,112,97,116,104] = putF m [108,105,110,107,112,97,116,104] s := by rw [EM.out]; simp [*]
            rw [q1,q2]
            exact HA5.out
        case rest =>
          obtain ⟨HA,HB⟩ := hcut
          obtain ⟨wp,rfl⟩ : ∃ wp : World,wp = wc := ⟨_,rfl⟩
          have HHA3 := Lib.hid HA
          have HHB3 := Lib.hid (HHB2.out.trans HB)
          have ⟨⟨x4,c4⟩,⟨x5,c5⟩,⟨x6,c6⟩,z4,z5,z6,c2,cR⟩ := HA.cells
          have hlk := HA.lookR [108,105,110,107,112,97,116,104] (by decide)
          clear c4 c5 c6 z4 z5 z6 HB hspc
          by_cases hR : R [108,105,110,107,112,97,116,104] = some s
          · rw [hR] at hlk
            simp only [Option.getD_some,Option.isSome_some] at hlk
            obtain ⟨w5,hr5,hA5,hB5⟩ := HA.put (by omega) [108,105,110,107,112,97,116,104] s (by decide) (by omega)
            have HA5 := Lib.hid hA5
            have HB5 := Lib.hid hB5
            have ER := Lib.hid hR
            clear HA hA5 hB5 hR
            go_wp2_with fail
            go_end0
            refine ⟨rfl,?_,HHB3.out.trans HB5.out⟩
            have := HA5.out
            rw [strM_hit m R s sz [108,105,110,107,112,97,116,104] ER.out] at this
            exact this
          · have EM2 := Lib.hid (strM_miss m R s sz [108,105,110,107,112,97,116,104] hR)
            clear HA
            cases hRv : R [108,105,110,107,112,97,116,104] with
            | none =>
              rw [hRv] at hlk
              simp only [Option.getD_none,Option.isSome_none] at hlk
              clear hR hRv
              go_wp2_with fail
              go_end0
              refine ⟨rfl,?_,HHB3.out⟩
              rw [← EM2.out]
              exact HHA3.out.mono (by omega)
            | some v =>
              rw [hRv] at hlk
              simp only [Option.getD_some,Option.isSome_some] at hlk
              have hne : (v == s) = false := by rw [beq_eq_false_iff_ne]; exact fun e => hR (by rw [hRv,e])
              clear hR hRv
              go_wp2_with fail
              go_end0
              refine ⟨rfl,?_,HHB3.out⟩
              rw [← EM2.out]
              exact HHA3.out.mono (by omega)
theorem vStr_link_fits (G0 : Nat) (E : Nat → Addr) (b0 : Nat) (H : Hd) (R : KV) (u p g q : Bool) (m : KV) (n : Nat) (w : World) (h : AF G0 E b0 H R u p g q m n w) (s nm : List UInt8) (sz : Nat) (hs : s.length ≤ 1048576) (hnm : nm.length ≤ 20) (hn : n < 1000)  (ht : ¬ sz < s.length) (hsp : ∀ w',Calls Tryz.prog 97 #[str s] w' (SplitOut s w')) :
    Calls Tryz.prog 93 #[str s,.int .i64 sz,str nm,str [108,105,110,107,112,97,116,104],.pointer (some ⟨b0 + 6,0,none⟩),.pointer (some ⟨b0 + 1,0,none⟩),.pointer (some ⟨b0 + 4,0,none⟩),.pointer (some ⟨b0 + 5,0,none⟩),.pointer (some ⟨b0 + 2,0,none⟩),.pointer (some ⟨b0,0,none⟩)] w
      (AFRet G0 E b0 H R (strU u s sz [108,105,110,107,112,97,116,104]) p (strG g s sz [108,105,110,107,112,97,116,104]) q (strM m R s sz [108,105,110,107,112,97,116,104]) (n + 2) w) := by
  have hnul := hasNUL_calls s w (by omega)
  have i1 : ¬ (sz : Int) < s.length := by omega
  have eP : decide ([108,105,110,107,112,97,116,104] = kPath) = false := decide_eq_false (by decide)
  have eL : decide ([108,105,110,107,112,97,116,104] = kLink) = true := decide_eq_true rfl
  have eT : decide (sz < s.length) = false := by simp; omega
  have eG : strG g s sz [108,105,110,107,112,97,116,104] = if decide (0 ∈ s) then false else g := by unfold strG; rw [eP,eL,eT]; simp
  have eU : strU u s sz [108,105,110,107,112,97,116,104] = if !asciiB s then (if false then u else false) else u := by unfold strU; rw [eP,eT]; simp
  have eM : strM1 m s sz [108,105,110,107,112,97,116,104] = if !asciiB s then putF m [108,105,110,107,112,97,116,104] s else m := by unfold strM1; rw [eT]; simp
  have EG := Lib.hid eG; have EU := Lib.hid eU; have EM := Lib.hid eM
  have HH := Lib.hid h
  have HS := Lib.hid hsp
  clear h hsp eP eL eT eG eU eM
  go_enter Tryz.func93,Tryz.ntmps93
  go_upto_region 2 with fail
  go_cut [40] (fun s40 wx => s40 = .bool (decide (0 ∈ s)) ∧ wx = w)
  case first =>
    go_wp2_with (go_at_call 94; refine hnul.mono ?_; rintro e w' ⟨rfl,rfl⟩)
    all_goals (go_meet; exact ⟨by simp [*],rfl⟩)
  case rest =>
    obtain ⟨rfl,rfl⟩ := hcut
    have ⟨⟨x4,c4⟩,⟨x5,c5⟩,⟨x6,c6⟩,z4,z5,z6,c2,cR⟩ := HH.out.cells
    have h1 := HH.out.setS3 ((⟨#[71,78,85,32,99,97,110,110,111,116,32,101,110,99,111,100,101,32]⟩ : ByteArray) ++ ⟨nm.toArray⟩)
    have hm := mustNotBe _ (b0 + 1) u p g h1.fF 8 u p false (.inr (.inr ⟨rfl,rfl,rfl,rfl⟩))
    have H1 := Lib.hid h1
    clear h1
    go_upto_if 40 with fail
    go_cut [] (fun wx => AFOut G0 E b0 H R u p (strG g s sz [108,105,110,107,112,97,116,104]) q m n wc wx)
    case first =>
      go_wp2_with fail
      · refine hm.mono ?_
        rintro e w' ⟨rfl,rfl⟩
        go_wp2_with fail
        go_meet
        refine ⟨?_,(set_below b0 _ 6 _).trans (set_below b0 _ 1 _)⟩
        have q0 : strG g s sz [108,105,110,107,112,97,116,104] = false := by rw [EG.out]; simp [*]
        rw [q0]
        exact H1.out.setF u p false
      · go_meet
        refine ⟨?_,Below.refl _ _⟩
        have q0 : strG g s sz [108,105,110,107,112,97,116,104] = g := by rw [EG.out]; simp [*]
        rw [q0]
        exact HH.out
    case rest =>
      obtain ⟨HA,HB⟩ := hcut
      obtain ⟨wo,rfl⟩ : ∃ wo : World,wo = wc := ⟨_,rfl⟩
      have HHA := Lib.hid HA
      have HHB := Lib.hid HB
      have hasc := isASCII_calls s wo (by omega)
      clear HA HB c4 c5 c6 z4 z5 z6 c2 cR hm H1
      go_upto_region 5 with fail
      go_cut [49] (fun s49 wx => s49 = .bool (!asciiB s) ∧ AFOut G0 E b0 H R u p (strG g s sz [108,105,110,107,112,97,116,104]) q m n wo wx)
      case first =>
        go_wp2_with (go_at_call 96; refine hasc.mono ?_; rintro e w' ⟨rfl,hb⟩)
        all_goals (go_meet; exact ⟨by simp [*],HHA.out.below hb,hb.mono (by have := HHA.out.lt; omega)⟩)
      case rest =>
        obtain ⟨rfl,HA,HB⟩ := hcut
        have HHA2 := Lib.hid HA
        have HHB2 := Lib.hid (HHB.out.trans HB)
        clear HA HB hasc HHA HHB
        have hspc := HS.out wc
        go_upto_if 49 with fail
        go_cut [] (fun wx => AFOut G0 E b0 H R (strU u s sz [108,105,110,107,112,97,116,104]) p (strG g s sz [108,105,110,107,112,97,116,104]) q (strM1 m s sz [108,105,110,107,112,97,116,104]) (n + 1) wc wx)
        case first =>
          go_wp2_with fail
          · refine hspc.mono ?_
            rintro e w3 ⟨rfl,hb3⟩
            have HA3 := HHA2.out.below hb3
            have ⟨⟨x4,c4⟩,⟨x5,c5⟩,⟨x6,c6⟩,z4,z5,z6,c2,cR⟩ := HA3.cells
            have HB3 := Lib.hid (hb3.mono (show b0 ≤ wc.heap.size by have := HHA2.out.lt; omega))
            have HHA3 := Lib.hid HA3
            by_cases hsb : splitB s = true
            · rw [if_pos hsb]
              have h4 := HA3.setS1 ((⟨#[85,83,84,65,82,32,99,97,110,110,111,116,32,101,110,99,111,100,101,32]⟩ : ByteArray) ++ ⟨nm.toArray⟩)
              have hm := mustNotBe _ (b0 + 1) u p (strG g s sz [108,105,110,107,112,97,116,104]) h4.fF 2 false p (strG g s sz [108,105,110,107,112,97,116,104]) (.inl ⟨rfl,rfl,rfl,rfl⟩)
              have h5 := h4.setF false p (strG g s sz [108,105,110,107,112,97,116,104])
              have c2b := h5.cells.2.2.2.2.2.2.1
              obtain ⟨w5,hr5,hA5,hB5⟩ := h5.put (by omega) [108,105,110,107,112,97,116,104] s (by decide) (by omega)
              have HA5 := Lib.hid hA5
              have HB5 := Lib.hid hB5
              clear HA3 h4 h5 hA5 hB5 hspc hb3
              go_wp2_with fail
              refine hm.mono ?_
              rintro e w6 ⟨rfl,rfl⟩
              go_wp2_with fail
              go_meet
              refine ⟨?_,HB3.out.trans (((set_below b0 _ 4 _).trans (set_below b0 _ 1 _)).trans HB5.out)⟩
              have q1 : strU u s sz [108,105,110,107,112,97,116,104] = false := by rw [EU.out]; simp [*]
              have q2 : strM1 m s sz [108,105,110,107,112,97,116,104] = putF m [108,105,110,107,112,97,116,104] s := by rw [EM.out]; simp [*]
              rw [q1,q2]
              exact HA5.out
            · rw [if_neg hsb]
              have h4 := HA3.setS1 ((⟨#[85,83,84,65,82,32,99,97,110,110,111,116,32,101,110,99,111,100,101,32]⟩ : ByteArray) ++ ⟨nm.toArray⟩)
              have hm := mustNotBe _ (b0 + 1) u p (strG g s sz [108,105,110,107,112,97,116,104]) h4.fF 2 false p (strG g s sz [108,105,110,107,112,97,116,104]) (.inl ⟨rfl,rfl,rfl,rfl⟩)
              have h5 := h4.setF false p (strG g s sz [108,105,110,107,112,97,116,104])
              have c2b := h5.cells.2.2.2.2.2.2.1
              obtain ⟨w5,hr5,hA5,hB5⟩ := h5.put (by omega) [108,105,110,107,112,97,116,104] s (by decide) (by omega)
              have HA5 := Lib.hid hA5
              have HB5 := Lib.hid hB5
              clear HA3 h4 h5 hA5 hB5 hspc hb3
              go_wp2_with fail
              refine hm.mono ?_
              rintro e w6 ⟨rfl,rfl⟩
              go_wp2_with fail
              go_meet
              refine ⟨?_,HB3.out.trans (((set_below b0 _ 4 _).trans (set_below b0 _ 1 _)).trans HB5.out)⟩
              have q1 : strU u s sz [108,105,110,107,112,97,116,104] = false := by rw [EU.out]; simp [*]
              have q2 : strM1 m s sz [108,105,110,107,112,97,116,104] = putF m [108,105,110,107,112,97,116,104] s := by rw [EM.out]; simp [*]
              rw [q1,q2]
              exact HA5.out
          · go_meet
            refine ⟨?_,Below.refl _ _⟩
            have q1 : strU u s sz [108,105,110,107,112,97,116,104] = u := by rw [EU.out]; simp [*]
            have q2 : strM1 m s sz [108,105,110,107,112,97,116,104] = m := by rw [EM.out]; simp [*]
            rw [q1,q2]
            exact HHA2.out.mono (by omega)
        case rest =>
          obtain ⟨HA,HB⟩ := hcut
          obtain ⟨wp,rfl⟩ : ∃ wp : World,wp = wc := ⟨_,rfl⟩
          have HHA3 := Lib.hid HA
          have HHB3 := Lib.hid (HHB2.out.trans HB)
          have ⟨⟨x4,c4⟩,⟨x5,c5⟩,⟨x6,c6⟩,z4,z5,z6,c2,cR⟩ := HA.cells
          have hlk := HA.lookR [108,105,110,107,112,97,116,104] (by decide)
          clear c4 c5 c6 z4 z5 z6 HB hspc
          by_cases hR : R [108,105,110,107,112,97,116,104] = some s
          · rw [hR] at hlk
            simp only [Option.getD_some,Option.isSome_some] at hlk
            obtain ⟨w5,hr5,hA5,hB5⟩ := HA.put (by omega) [108,105,110,107,112,97,116,104] s (by decide) (by omega)
            have HA5 := Lib.hid hA5
            have HB5 := Lib.hid hB5
            have ER := Lib.hid hR
            clear HA hA5 hB5 hR
            go_wp2_with fail
            go_end0
            refine ⟨rfl,?_,HHB3.out.trans HB5.out⟩
            have := HA5.out
            rw [strM_hit m R s sz [108,105,110,107,112,97,116,104] ER.out] at this
            exact this
          · have EM2 := Lib.hid (strM_miss m R s sz [108,105,110,107,112,97,116,104] hR)
            clear HA
            cases hRv : R [108,105,110,107,112,97,116,104] with
            | none =>
              rw [hRv] at hlk
              simp only [Option.getD_none,Option.isSome_none] at hlk
              clear hR hRv
              go_wp2_with fail
              go_end0
              refine ⟨rfl,?_,HHB3.out⟩
              rw [← EM2.out]
              exact HHA3.out.mono (by omega)
            | some v =>
              rw [hRv] at hlk
              simp only [Option.getD_some,Option.isSome_some] at hlk
              have hne : (v == s) = false := by rw [beq_eq_false_iff_ne]; exact fun e => hR (by rw [hRv,e])
              clear hR hRv
              go_wp2_with fail
              go_end0
              refine ⟨rfl,?_,HHB3.out⟩
              rw [← EM2.out]
              exact HHA3.out.mono (by omega)
theorem vStr_other_long (G0 : Nat) (E : Nat → Addr) (b0 : Nat) (H : Hd) (R : KV) (u p g q : Bool) (m : KV) (n : Nat) (w : World) (h : AF G0 E b0 H R u p g q m n w) (s nm key : List UInt8) (sz : Nat) (hs : s.length ≤ 1048576) (hnm : nm.length ≤ 20) (hn : n < 1000) (hkl : key.length ≤ 20) (hk1 : ¬ key = [112,97,116,104]) (hk2 : ¬ key = [108,105,110,107,112,97,116,104]) (hk3 : key.isEmpty = false) (ht : sz < s.length) (hsp : ∀ w',Calls Tryz.prog 97 #[str s] w' (SplitOut s w')) :
    Calls Tryz.prog 93 #[str s,.int .i64 sz,str nm,str key,.pointer (some ⟨b0 + 6,0,none⟩),.pointer (some ⟨b0 + 1,0,none⟩),.pointer (some ⟨b0 + 4,0,none⟩),.pointer (some ⟨b0 + 5,0,none⟩),.pointer (some ⟨b0 + 2,0,none⟩),.pointer (some ⟨b0,0,none⟩)] w
      (AFRet G0 E b0 H R (strU u s sz key) p (strG g s sz key) q (strM m R s sz key) (n + 2) w) := by
  have hnul := hasNUL_calls s w (by omega)
  have i1 : (sz : Int) < s.length := by omega
  have eP : decide (key = kPath) = false := decide_eq_false hk1
  have eL : decide (key = kLink) = false := decide_eq_false hk2
  have eT : decide (sz < s.length) = true := by simp; omega
  have eG : strG g s sz key = if true then false else g := by unfold strG; rw [eP,eL,eT]; simp
  have eU : strU u s sz key = if true then (if false then u else false) else u := by unfold strU; rw [eP,eT]; simp
  have eM : strM1 m s sz key = if true then putF m key s else m := by unfold strM1; rw [eT]; simp
  have EG := Lib.hid eG; have EU := Lib.hid eU; have EM := Lib.hid eM
  have HH := Lib.hid h
  have HS := Lib.hid hsp
  clear h hsp eP eL eT eG eU eM
  go_enter Tryz.func93,Tryz.ntmps93
  go_upto_region 2 with fail
  go_cut [40] (fun s40 wx => s40 = .bool (true) ∧ wx = w)
  case first =>
    go_wp2_with (go_at_call 94; refine hnul.mono ?_; rintro e w' ⟨rfl,rfl⟩)
    all_goals (go_meet; exact ⟨by simp [*],rfl⟩)
  case rest =>
    obtain ⟨rfl,rfl⟩ := hcut
    have ⟨⟨x4,c4⟩,⟨x5,c5⟩,⟨x6,c6⟩,z4,z5,z6,c2,cR⟩ := HH.out.cells
    have h1 := HH.out.setS3 ((⟨#[71,78,85,32,99,97,110,110,111,116,32,101,110,99,111,100,101,32]⟩ : ByteArray) ++ ⟨nm.toArray⟩)
    have hm := mustNotBe _ (b0 + 1) u p g h1.fF 8 u p false (.inr (.inr ⟨rfl,rfl,rfl,rfl⟩))
    have H1 := Lib.hid h1
    clear h1
    go_upto_if 40 with fail
    go_cut [] (fun wx => AFOut G0 E b0 H R u p (strG g s sz key) q m n wc wx)
    case first =>
      go_wp2_with fail
      refine hm.mono ?_
      rintro e w' ⟨rfl,rfl⟩
      go_wp2_with fail
      go_meet
      refine ⟨?_,(set_below b0 _ 6 _).trans (set_below b0 _ 1 _)⟩
      have q0 : strG g s sz key = false := by rw [EG.out]; simp
      rw [q0]
      exact H1.out.setF u p false
    case rest =>
      obtain ⟨HA,HB⟩ := hcut
      obtain ⟨wo,rfl⟩ : ∃ wo : World,wo = wc := ⟨_,rfl⟩
      have HHA := Lib.hid HA
      have HHB := Lib.hid HB
      have hasc := isASCII_calls s wo (by omega)
      clear HA HB c4 c5 c6 z4 z5 z6 c2 cR hm H1
      go_upto_region 5 with fail
      go_cut [49] (fun s49 wx => s49 = .bool (true) ∧ AFOut G0 E b0 H R u p (strG g s sz key) q m n wo wx)
      case first =>
        go_wp2_with (go_at_call 96; refine hasc.mono ?_; rintro e w' ⟨rfl,hb⟩)
        all_goals (go_meet; exact ⟨by simp [*],HHA.out.below hb,hb.mono (by have := HHA.out.lt; omega)⟩)
      case rest =>
        obtain ⟨rfl,HA,HB⟩ := hcut
        have HHA2 := Lib.hid HA
        have HHB2 := Lib.hid (HHB.out.trans HB)
        clear HA HB hasc HHA HHB
        have hspc := HS.out wc
        go_upto_if 49 with fail
        go_cut [] (fun wx => AFOut G0 E b0 H R (strU u s sz key) p (strG g s sz key) q (strM1 m s sz key) (n + 1) wc wx)
        case first =>
          go_wp2_with fail
          refine hspc.mono ?_
          rintro e w3 ⟨rfl,hb3⟩
          have HA3 := HHA2.out.below hb3
          have ⟨⟨x4,c4⟩,⟨x5,c5⟩,⟨x6,c6⟩,z4,z5,z6,c2,cR⟩ := HA3.cells
          have HB3 := Lib.hid (hb3.mono (show b0 ≤ wc.heap.size by have := HHA2.out.lt; omega))
          have HHA3 := Lib.hid HA3
          by_cases hsb : splitB s = true
          · rw [if_pos hsb]
            have h4 := HA3.setS1 ((⟨#[85,83,84,65,82,32,99,97,110,110,111,116,32,101,110,99,111,100,101,32]⟩ : ByteArray) ++ ⟨nm.toArray⟩)
            have hm := mustNotBe _ (b0 + 1) u p (strG g s sz key) h4.fF 2 false p (strG g s sz key) (.inl ⟨rfl,rfl,rfl,rfl⟩)
            have h5 := h4.setF false p (strG g s sz key)
            have c2b := h5.cells.2.2.2.2.2.2.1
            obtain ⟨w5,hr5,hA5,hB5⟩ := h5.put (by omega) key s (by omega) (by omega)
            have HA5 := Lib.hid hA5
            have HB5 := Lib.hid hB5
            clear HA3 h4 h5 hA5 hB5 hspc hb3
            go_wp2_with fail
            refine hm.mono ?_
            rintro e w6 ⟨rfl,rfl⟩
            go_wp2_with fail
            go_meet
            refine ⟨?_,HB3.out.trans (((set_below b0 _ 4 _).trans (set_below b0 _ 1 _)).trans HB5.out)⟩
            have q1 : strU u s sz key = false := by rw [EU.out]; simp [*]
            have q2 : strM1 m s sz key = putF m key s := by rw [EM.out]; simp [*]
            rw [q1,q2]
            exact HA5.out
          · rw [if_neg hsb]
            have h4 := HA3.setS1 ((⟨#[85,83,84,65,82,32,99,97,110,110,111,116,32,101,110,99,111,100,101,32]⟩ : ByteArray) ++ ⟨nm.toArray⟩)
            have hm := mustNotBe _ (b0 + 1) u p (strG g s sz key) h4.fF 2 false p (strG g s sz key) (.inl ⟨rfl,rfl,rfl,rfl⟩)
            have h5 := h4.setF false p (strG g s sz key)
            have c2b := h5.cells.2.2.2.2.2.2.1
            obtain ⟨w5,hr5,hA5,hB5⟩ := h5.put (by omega) key s (by omega) (by omega)
            have HA5 := Lib.hid hA5
            have HB5 := Lib.hid hB5
            clear HA3 h4 h5 hA5 hB5 hspc hb3
            go_wp2_with fail
            refine hm.mono ?_
            rintro e w6 ⟨rfl,rfl⟩
            go_wp2_with fail
            go_meet
            refine ⟨?_,HB3.out.trans (((set_below b0 _ 4 _).trans (set_below b0 _ 1 _)).trans HB5.out)⟩
            have q1 : strU u s sz key = false := by rw [EU.out]; simp [*]
            have q2 : strM1 m s sz key = putF m key s := by rw [EM.out]; simp [*]
            rw [q1,q2]
            exact HA5.out
        case rest =>
          obtain ⟨HA,HB⟩ := hcut
          obtain ⟨wp,rfl⟩ : ∃ wp : World,wp = wc := ⟨_,rfl⟩
          have HHA3 := Lib.hid HA
          have HHB3 := Lib.hid (HHB2.out.trans HB)
          have ⟨⟨x4,c4⟩,⟨x5,c5⟩,⟨x6,c6⟩,z4,z5,z6,c2,cR⟩ := HA.cells
          have hlk := HA.lookR key (by omega)
          clear c4 c5 c6 z4 z5 z6 HB hspc
          by_cases hR : R key = some s
          · rw [hR] at hlk
            simp only [Option.getD_some,Option.isSome_some] at hlk
            obtain ⟨w5,hr5,hA5,hB5⟩ := HA.put (by omega) key s (by omega) (by omega)
            have HA5 := Lib.hid hA5
            have HB5 := Lib.hid hB5
            have ER := Lib.hid hR
            clear HA hA5 hB5 hR
            go_wp2_with fail
            go_end0
            refine ⟨rfl,?_,HHB3.out.trans HB5.out⟩
            have := HA5.out
            rw [strM_hit m R s sz key ER.out] at this
            exact this
          · have EM2 := Lib.hid (strM_miss m R s sz key hR)
            clear HA
            cases hRv : R key with
            | none =>
              rw [hRv] at hlk
              simp only [Option.getD_none,Option.isSome_none] at hlk
              clear hR hRv
              go_wp2_with fail
              go_end0
              refine ⟨rfl,?_,HHB3.out⟩
              rw [← EM2.out]
              exact HHA3.out.mono (by omega)
            | some v =>
              rw [hRv] at hlk
              simp only [Option.getD_some,Option.isSome_some] at hlk
              have hne : (v == s) = false := by rw [beq_eq_false_iff_ne]; exact fun e => hR (by rw [hRv,e])
              clear hR hRv
              go_wp2_with fail
              go_end0
              refine ⟨rfl,?_,HHB3.out⟩
              rw [← EM2.out]
              exact HHA3.out.mono (by omega)
theorem vStr_other_fits (G0 : Nat) (E : Nat → Addr) (b0 : Nat) (H : Hd) (R : KV) (u p g q : Bool) (m : KV) (n : Nat) (w : World) (h : AF G0 E b0 H R u p g q m n w) (s nm key : List UInt8) (sz : Nat) (hs : s.length ≤ 1048576) (hnm : nm.length ≤ 20) (hn : n < 1000) (hkl : key.length ≤ 20) (hk1 : ¬ key = [112,97,116,104]) (hk2 : ¬ key = [108,105,110,107,112,97,116,104]) (hk3 : key.isEmpty = false) (ht : ¬ sz < s.length) (hsp : ∀ w',Calls Tryz.prog 97 #[str s] w' (SplitOut s w')) :
    Calls Tryz.prog 93 #[str s,.int .i64 sz,str nm,str key,.pointer (some ⟨b0 + 6,0,none⟩),.pointer (some ⟨b0 + 1,0,none⟩),.pointer (some ⟨b0 + 4,0,none⟩),.pointer (some ⟨b0 + 5,0,none⟩),.pointer (some ⟨b0 + 2,0,none⟩),.pointer (some ⟨b0,0,none⟩)] w
      (AFRet G0 E b0 H R (strU u s sz key) p (strG g s sz key) q (strM m R s sz key) (n + 2) w) := by
  have hnul := hasNUL_calls s w (by omega)
  have i1 : ¬ (sz : Int) < s.length := by omega
  have eP : decide (key = kPath) = false := decide_eq_false hk1
  have eL : decide (key = kLink) = false := decide_eq_false hk2
  have eT : decide (sz < s.length) = false := by simp; omega
  have eG : strG g s sz key = if decide (0 ∈ s) then false else g := by unfold strG; rw [eP,eL,eT]; simp
  have eU : strU u s sz key = if !asciiB s then (if false then u else false) else u := by unfold strU; rw [eP,eT]; simp
  have eM : strM1 m s sz key = if !asciiB s then putF m key s else m := by unfold strM1; rw [eT]; simp
  have EG := Lib.hid eG; have EU := Lib.hid eU; have EM := Lib.hid eM
  have HH := Lib.hid h
  have HS := Lib.hid hsp
  clear h hsp eP eL eT eG eU eM
  go_enter Tryz.func93,Tryz.ntmps93
  go_upto_region 2 with fail
  go_cut [40] (fun s40 wx => s40 = .bool (decide (0 ∈ s)) ∧ wx = w)
  case first =>
    go_wp2_with (go_at_call 94; refine hnul.mono ?_; rintro e w' ⟨rfl,rfl⟩)
    all_goals (go_meet; exact ⟨by simp [*],rfl⟩)
  case rest =>
    obtain ⟨rfl,rfl⟩ := hcut
    have ⟨⟨x4,c4⟩,⟨x5,c5⟩,⟨x6,c6⟩,z4,z5,z6,c2,cR⟩ := HH.out.cells
    have h1 := HH.out.setS3 ((⟨#[71,78,85,32,99,97,110,110,111,116,32,101,110,99,111,100,101,32]⟩ : ByteArray) ++ ⟨nm.toArray⟩)
    have hm := mustNotBe _ (b0 + 1) u p g h1.fF 8 u p false (.inr (.inr ⟨rfl,rfl,rfl,rfl⟩))
    have H1 := Lib.hid h1
    clear h1
    go_upto_if 40 with fail
    go_cut [] (fun wx => AFOut G0 E b0 H R u p (strG g s sz key) q m n wc wx)
    case first =>
      go_wp2_with fail
      · refine hm.mono ?_
        rintro e w' ⟨rfl,rfl⟩
        go_wp2_with fail
        go_meet
        refine ⟨?_,(set_below b0 _ 6 _).trans (set_below b0 _ 1 _)⟩
        have q0 : strG g s sz key = false := by rw [EG.out]; simp [*]
        rw [q0]
        exact H1.out.setF u p false
      · go_meet
        refine ⟨?_,Below.refl _ _⟩
        have q0 : strG g s sz key = g := by rw [EG.out]; simp [*]
        rw [q0]
        exact HH.out
    case rest =>
      obtain ⟨HA,HB⟩ := hcut
      obtain ⟨wo,rfl⟩ : ∃ wo : World,wo = wc := ⟨_,rfl⟩
      have HHA := Lib.hid HA
      have HHB := Lib.hid HB
      have hasc := isASCII_calls s wo (by omega)
      clear HA HB c4 c5 c6 z4 z5 z6 c2 cR hm H1
      go_upto_region 5 with fail
      go_cut [49] (fun s49 wx => s49 = .bool (!asciiB s) ∧ AFOut G0 E b0 H R u p (strG g s sz key) q m n wo wx)
      case first =>
        go_wp2_with (go_at_call 96; refine hasc.mono ?_; rintro e w' ⟨rfl,hb⟩)
        all_goals (go_meet; exact ⟨by simp [*],HHA.out.below hb,hb.mono (by have := HHA.out.lt; omega)⟩)
      case rest =>
        obtain ⟨rfl,HA,HB⟩ := hcut
        have HHA2 := Lib.hid HA
        have HHB2 := Lib.hid (HHB.out.trans HB)
        clear HA HB hasc HHA HHB
        have hspc := HS.out wc
        go_upto_if 49 with fail
        go_cut [] (fun wx => AFOut G0 E b0 H R (strU u s sz key) p (strG g s sz key) q (strM1 m s sz key) (n + 1) wc wx)
        case first =>
          go_wp2_with fail
          · refine hspc.mono ?_
            rintro e w3 ⟨rfl,hb3⟩
            have HA3 := HHA2.out.below hb3
            have ⟨⟨x4,c4⟩,⟨x5,c5⟩,⟨x6,c6⟩,z4,z5,z6,c2,cR⟩ := HA3.cells
            have HB3 := Lib.hid (hb3.mono (show b0 ≤ wc.heap.size by have := HHA2.out.lt; omega))
            have HHA3 := Lib.hid HA3
            by_cases hsb : splitB s = true
            · rw [if_pos hsb]
              have h4 := HA3.setS1 ((⟨#[85,83,84,65,82,32,99,97,110,110,111,116,32,101,110,99,111,100,101,32]⟩ : ByteArray) ++ ⟨nm.toArray⟩)
              have hm := mustNotBe _ (b0 + 1) u p (strG g s sz key) h4.fF 2 false p (strG g s sz key) (.inl ⟨rfl,rfl,rfl,rfl⟩)
              have h5 := h4.setF false p (strG g s sz key)
              have c2b := h5.cells.2.2.2.2.2.2.1
              obtain ⟨w5,hr5,hA5,hB5⟩ := h5.put (by omega) key s (by omega) (by omega)
              have HA5 := Lib.hid hA5
              have HB5 := Lib.hid hB5
              clear HA3 h4 h5 hA5 hB5 hspc hb3
              go_wp2_with fail
              refine hm.mono ?_
              rintro e w6 ⟨rfl,rfl⟩
              go_wp2_with fail
              go_meet
              refine ⟨?_,HB3.out.trans (((set_below b0 _ 4 _).trans (set_below b0 _ 1 _)).trans HB5.out)⟩
              have q1 : strU u s sz key = false := by rw [EU.out]; simp [*]
              have q2 : strM1 m s sz key = putF m key s := by rw [EM.out]; simp [*]
              rw [q1,q2]
              exact HA5.out
            · rw [if_neg hsb]
              have h4 := HA3.setS1 ((⟨#[85,83,84,65,82,32,99,97,110,110,111,116,32,101,110,99,111,100,101,32]⟩ : ByteArray) ++ ⟨nm.toArray⟩)
              have hm := mustNotBe _ (b0 + 1) u p (strG g s sz key) h4.fF 2 false p (strG g s sz key) (.inl ⟨rfl,rfl,rfl,rfl⟩)
              have h5 := h4.setF false p (strG g s sz key)
              have c2b := h5.cells.2.2.2.2.2.2.1
              obtain ⟨w5,hr5,hA5,hB5⟩ := h5.put (by omega) key s (by omega) (by omega)
              have HA5 := Lib.hid hA5
              have HB5 := Lib.hid hB5
              clear HA3 h4 h5 hA5 hB5 hspc hb3
              go_wp2_with fail
              refine hm.mono ?_
              rintro e w6 ⟨rfl,rfl⟩
              go_wp2_with fail
              go_meet
              refine ⟨?_,HB3.out.trans (((set_below b0 _ 4 _).trans (set_below b0 _ 1 _)).trans HB5.out)⟩
              have q1 : strU u s sz key = false := by rw [EU.out]; simp [*]
              have q2 : strM1 m s sz key = putF m key s := by rw [EM.out]; simp [*]
              rw [q1,q2]
              exact HA5.out
          · go_meet
            refine ⟨?_,Below.refl _ _⟩
            have q1 : strU u s sz key = u := by rw [EU.out]; simp [*]
            have q2 : strM1 m s sz key = m := by rw [EM.out]; simp [*]
            rw [q1,q2]
            exact HHA2.out.mono (by omega)
        case rest =>
          obtain ⟨HA,HB⟩ := hcut
          obtain ⟨wp,rfl⟩ : ∃ wp : World,wp = wc := ⟨_,rfl⟩
          have HHA3 := Lib.hid HA
          have HHB3 := Lib.hid (HHB2.out.trans HB)
          have ⟨⟨x4,c4⟩,⟨x5,c5⟩,⟨x6,c6⟩,z4,z5,z6,c2,cR⟩ := HA.cells
          have hlk := HA.lookR key (by omega)
          clear c4 c5 c6 z4 z5 z6 HB hspc
          by_cases hR : R key = some s
          · rw [hR] at hlk
            simp only [Option.getD_some,Option.isSome_some] at hlk
            obtain ⟨w5,hr5,hA5,hB5⟩ := HA.put (by omega) key s (by omega) (by omega)
            have HA5 := Lib.hid hA5
            have HB5 := Lib.hid hB5
            have ER := Lib.hid hR
            clear HA hA5 hB5 hR
            go_wp2_with fail
            go_end0
            refine ⟨rfl,?_,HHB3.out.trans HB5.out⟩
            have := HA5.out
            rw [strM_hit m R s sz key ER.out] at this
            exact this
          · have EM2 := Lib.hid (strM_miss m R s sz key hR)
            clear HA
            cases hRv : R key with
            | none =>
              rw [hRv] at hlk
              simp only [Option.getD_none,Option.isSome_none] at hlk
              clear hR hRv
              go_wp2_with fail
              go_end0
              refine ⟨rfl,?_,HHB3.out⟩
              rw [← EM2.out]
              exact HHA3.out.mono (by omega)
            | some v =>
              rw [hRv] at hlk
              simp only [Option.getD_some,Option.isSome_some] at hlk
              have hne : (v == s) = false := by rw [beq_eq_false_iff_ne]; exact fun e => hR (by rw [hRv,e])
              clear hR hRv
              go_wp2_with fail
              go_end0
              refine ⟨rfl,?_,HHB3.out⟩
              rw [← EM2.out]
              exact HHA3.out.mono (by omega)
theorem vStr (G0 : Nat) (E : Nat → Addr) (b0 : Nat) (H : Hd) (R : KV) (u p g q : Bool) (m : KV) (n : Nat) (w : World) (h : AF G0 E b0 H R u p g q m n w) (s nm key : List UInt8) (sz : Nat) (hs : s.length ≤ 1048576) (hnm : nm.length ≤ 20) (hn : n < 1000) (hkey : key = kPath ∨ key = kLink ∨ key = kUname ∨ key = kGname) :
    Calls Tryz.prog 93 #[str s,.int .i64 sz,str nm,str key,.pointer (some ⟨b0 + 6,0,none⟩),.pointer (some ⟨b0 + 1,0,none⟩),.pointer (some ⟨b0 + 4,0,none⟩),.pointer (some ⟨b0 + 5,0,none⟩),.pointer (some ⟨b0 + 2,0,none⟩),.pointer (some ⟨b0,0,none⟩)] w
      (AFRet G0 E b0 H R (strU u s sz key) p (strG g s sz key) q (strM m R s sz key) (n + 2) w) := by
  have hsp := fun w' => split_any w' s hs
  have ho : key = kUname ∨ key = kGname → (¬ key = [112,97,116,104]) ∧ (¬ key = [108,105,110,107,112,97,116,104]) ∧ (key.isEmpty = false) ∧ key.length ≤ 20 := by
    rintro (rfl | rfl) <;> decide
  by_cases ht : sz < s.length
  · rcases hkey with rfl | rfl | hk
    · exact vStr_path_long G0 E b0 H R u p g q m n w h s nm sz hs hnm hn ht hsp
    · exact vStr_link_long G0 E b0 H R u p g q m n w h s nm sz hs hnm hn ht hsp
    · obtain ⟨k1,k2,k3,k4⟩ := ho hk
      exact vStr_other_long G0 E b0 H R u p g q m n w h s nm key sz hs hnm hn k4 k1 k2 k3 ht hsp
  · rcases hkey with rfl | rfl | hk
    · exact vStr_path_fits G0 E b0 H R u p g q m n w h s nm sz hs hnm hn ht hsp
    · exact vStr_link_fits G0 E b0 H R u p g q m n w h s nm sz hs hnm hn ht hsp
    · obtain ⟨k1,k2,k3,k4⟩ := ho hk
      exact vStr_other_fits G0 E b0 H R u p g q m n w h s nm key sz hs hnm hn k4 k1 k2 k3 ht hsp
end Go.Proofs.YtkanmkcojlefbaaGreatDoor
