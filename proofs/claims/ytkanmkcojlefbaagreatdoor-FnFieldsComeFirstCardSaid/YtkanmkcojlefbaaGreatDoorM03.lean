/-
  Part of the proof; holds the texts Ref2, Rd, Full, Flush.
-/
import Derived.Test.YtkanmkcojlefbaaGreatDoorM02
import Derived.Deep.DeepCutAuto
import Derived.Deep.CutBlock
import Derived.Test.YtkanmkcojlefbaaGreatDoorM00
import Derived.Deep.QuietTactic
import Derived.BigQuiet
import Derived.Deep.RegionHeld3
import Derived.BigRegion
import Derived.LoopN
set_option maxRecDepth 100000
set_option linter.unusedSimpArgs false
set_option linter.unusedVariables false
namespace Go.Proofs.YtkanmkcojlefbaaGreatDoor
open Go.RowKit
def WidthOk (l : List UInt8) (n : Int) : Prop := n = 0 ∨ (1 ≤ n ∧ n ≤ l.length ∧ n ≤ 4 ∧ ∀ j : Nat,0 < j → (j : Int) < n → l[j]? ≠ some 0)
def WOut (l : List UInt8) (w : World) (e : Ending) (w' : World) : Prop := ∃ n,e = .returned (.int .i64 n) ∧ w = w' ∧ WidthOk l n
set_option maxHeartbeats 4000000 in
theorem specWidth (l : List UInt8) (w : World) (hl : l.length < 4611686018427387904) (h0 : 0 < l.length) : Calls Tryz.prog 50 #[str l] w (WOut l w) := by
  go_enter Tryz.func50,Tryz.ntmps50
  go_upto_block 0 with fail
  have e0 : wrap64 (({ data := l.toArray } : ByteArray)[0]'(by rw [str_size]; exact h0)).toNat = (l[0].toNat : Int) := by
    have := l[0].toNat_lt
    show wrap64 (l[0].toNat : Int) = _
    unfold wrap64
    omega
  simp only [e0]
  have e1 : ∀ (h : 0 < (⟨l.toArray⟩ : ByteArray).size),(⟨l.toArray⟩ : ByteArray)[0] = l[0] := fun h => rfl
  simp only [e1]
  clear e0 e1
  generalize l[0] = c at *
  go_cut [4,5,6] (fun s4 s5 s6 wx => (∃ n : Nat,(n = 0 ∨ n = 2 ∨ n = 3 ∨ n = 4) ∧ s4 = .int .i64 n) ∧ (∃ x,s5 = .int .i64 x) ∧ (∃ y,s6 = .int .i64 y) ∧ wx = w)
  case first =>
    by_cases h1 : (c.toNat : Int) < 128
    · go_wp2_with fail
      go_ret
      exact ⟨1,rfl,rfl,.inr ⟨by omega,by omega,by omega,fun j h1 h2 => by omega⟩⟩
    · by_cases h2 : (194 : Int) ≤ c.toNat <;> by_cases h3 : (c.toNat : Int) < 224 <;> by_cases h4 : (c.toNat : Int) < 240 <;> by_cases h5 : (c.toNat : Int) < 245 <;> by_cases h6 : (224 : Int) ≤ c.toNat <;> by_cases h7 : (240 : Int) ≤ c.toNat
      all_goals first | (exfalso; omega) | skip
      all_goals
        go_wp2_with fail
      all_goals go_meet
      all_goals exact ⟨⟨_,by first | exact .inl rfl | exact .inr (.inl rfl) | exact .inr (.inr (.inl rfl)) | exact .inr (.inr (.inr rfl)),rfl⟩,⟨_,rfl⟩,⟨_,rfl⟩,rfl⟩
  case rest =>
    obtain ⟨⟨n,hn,rfl⟩,⟨x,rfl⟩,⟨y,rfl⟩,rfl⟩ := hcut
    rcases Nat.eq_zero_or_pos n with rfl | hp
    · go_wp2_with fail
      go_ret
      exact ⟨0,rfl,rfl,.inl rfl⟩
    · have hn2 : (2 : Int) ≤ n ∧ (n : Int) ≤ 4 := by omega
      have hz : ¬ (n : Int) = 0 := by omega
      clear hn
      by_cases hlen : (l.length : Int) < n
      · go_wp2_with fail
        go_ret
        exact ⟨0,rfl,rfl,.inl rfl⟩
      · go_wp2_with fail
        go_loop [7,5] (fun s7 s5 => ∃ (k : Nat) (x : Int),1 ≤ k ∧ k ≤ n ∧ (∀ j : Nat,0 < j → j < k → l[j]? ≠ some 0) ∧ s7 = .int .i64 k ∧ s5 = .int .i64 x) (fun s7 _ => n - (intOf s7).toNat)
        case atStart => exact ⟨1,_,by omega,by omega,fun j h1 h2 => by omega,rfl,rfl⟩
        case round =>
          obtain ⟨k,x,hk1,hk2,hb,rfl,rfl⟩ := hrel
          have HB := Lib.hid hb
          clear hb
          by_cases hlt : (k : Int) < n
          · have hkl : k < l.length := by omega
            have hx2 := idx_str l k hkl
            have HK := Lib.hid (List.getElem?_eq_getElem hkl)
            generalize l[k] = d at *
            by_cases hd : d = 0
            · subst hd
              go_wp2_with fail
              go_ret
              exact ⟨0,rfl,rfl,.inl rfl⟩
            · have HD := Lib.hid hd
              clear hd
              go_wp2_with fail
              · go_ret
                exact ⟨0,rfl,rfl,.inl rfl⟩
              · go_round
                case rel => exact ⟨k + 1,_,by omega,by omega,fun j h1 h2 => if h : j = k then by rw [h,HK.out]; exact fun e => HD.out (by injection e) else HB.out j h1 (by omega),by go_num,rfl⟩
                case measure => simp [intOf]; omega
          · have hkn : k = n := by omega
            subst hkn
            have HR := Lib.hid (show WidthOk l (k : Int) from .inr ⟨by omega,by omega,by omega,fun j h1 h2 => HB.out j h1 (by omega)⟩)
            go_wp2_with fail
            all_goals go_ret
            all_goals first | exact ⟨0,rfl,rfl,.inl rfl⟩ | exact ⟨(k : Int),rfl,rfl,HR.out⟩
theorem specUTF8 (l : List UInt8) (w : World) (hl : l.length < 4611686018427387904) : Calls Tryz.prog 21 #[str l] w (BTrue ((0 : UInt8) ∉ l) w) := by
  go_enter Tryz.func21,Tryz.ntmps21
  go_wp2_with fail
  go_loop [3] (fun s3 => ∃ k : Nat,k ≤ l.length ∧ (∀ j : Nat,j < k → l[j]? ≠ some 0) ∧ s3 = .int .i64 k) (fun s3 => l.length - (intOf s3).toNat)
  case atStart => exact ⟨0,by omega,fun j h => by omega,rfl⟩
  case round =>
    obtain ⟨k,hk,hb,rfl⟩ := hrel
    have HB := Lib.hid hb
    clear hb
    by_cases hlt : (k : Int) < l.length
    · have hkl : k < l.length := by omega
      have hx := idx_str l k hkl
      have HK := Lib.hid (List.getElem?_eq_getElem hkl)
      generalize l[k] = c at *
      have hwd := specWidth (l.drop k) w (by rw [List.length_drop]; omega) (by rw [List.length_drop]; omega)
      have hse : (⟨l.toArray⟩ : ByteArray).extract k l.length = ⟨(l.drop k).toArray⟩ := by
        rw [str_ext,List.take_of_length_le (by rw [List.length_drop]; omega)]
      have hwd2 : Calls Tryz.prog 50 #[.string ((⟨l.toArray⟩ : ByteArray).extract k l.length)] w (WOut (l.drop k) w) := by rw [hse]; exact hwd
      clear hse hwd
      go_wp2_with fail
      refine hwd2.mono ?_
      clear hwd2
      rintro e w' ⟨n,rfl,rfl,hn⟩
      rcases hn with rfl | ⟨h1,h2,h3,h4⟩
      · go_wp2_with fail
        go_ret
        exact ⟨false,rfl,Below.refl _ _,fun h => by cases h⟩
      · obtain ⟨m,rfl⟩ : ∃ m : Nat,n = m := ⟨n.toNat,by omega⟩
        rw [List.length_drop] at h2
        have HN := Lib.hid h4
        have hm0 : ((m : Int) == 0) = false := by rw [beq_eq_false_iff_ne]; omega
        have h5 : (k : Int) + m ≤ l.length := by omega
        clear h4 h2
        by_cases hc : c = 0
        · subst hc
          go_wp2_with fail
          go_ret
          exact ⟨false,rfl,Below.refl _ _,fun h => by cases h⟩
        · have hc2 : ((c.toNat : Int) == 0) = false := by rw [beq_eq_false_iff_ne]; exact fun e => hc (UInt8.toNat_inj.1 (by simpa using e))
          have HC := Lib.hid hc
          clear hc
          go_wp2_with fail
          go_round
          case rel =>
            refine ⟨k + m,by omega,fun j hj => ?_,by go_num⟩
            by_cases hj2 : j < k
            · exact HB.out j hj2
            · by_cases hj3 : j = k
              · rw [hj3,HK.out]; exact fun e => HC.out (by injection e)
              · have := HN.out (j - k) (by omega) (by omega)
                rw [List.getElem?_drop,show k + (j - k) = j by omega] at this
                exact this
          case measure => simp [intOf]; omega
    · go_wp2_with fail
      go_ret
      exact ⟨true,rfl,Below.refl _ _,fun _ hm => by
        obtain ⟨j,hj,e⟩ := List.getElem_of_mem hm
        exact HB.out j (by omega) (by rw [List.getElem?_eq_getElem hj,e])⟩
def TextOk (s : List UInt8) (n f : Int) : Prop := (0 : UInt8) ∉ s ∧ (f = 1 → asciiB s = true ∧ s.length ≤ n)
theorem specText (s : List UInt8) (n f : Int) (w : World) (hl : s.length < 4611686018427387904) : Calls Tryz.prog 54 #[str s,.int .i64 n,.int .i64 f] w (VRight (TextOk s n f) w) := by
  have hnul := specNUL s w hl
  by_cases hz : (0 : UInt8) ∈ s
  · rw [decide_eq_true hz] at hnul
    go_enter Tryz.func54,Tryz.ntmps54
    go_wp2_with fail
    refine hnul.mono ?_
    rintro e w' ⟨rfl,rfl⟩
    go_wp2_with fail
    go_ret
    exact ⟨0,rfl,Below.refl _ _,by decide,fun h => by cases h⟩
  · rw [decide_eq_false hz] at hnul
    have HZ := Lib.hid hz
    clear hz
    by_cases h1 : f = 1
    · subst h1
      have hasc := specASCII s w hl
      go_enter Tryz.func54,Tryz.ntmps54
      go_wp2_with fail
      refine hnul.mono ?_
      rintro e w' ⟨rfl,rfl⟩
      cases ha : asciiB s with
      | false =>
        rw [ha] at hasc
        go_wp2_with fail
        refine hasc.mono ?_
        rintro e w' ⟨rfl,rfl⟩
        go_wp2_with (go_at_call 55; refine (specWhen _ _).mono ?_; rintro e w' ⟨rfl,rfl⟩)
        go_ret
        exact ⟨2,rfl,Below.refl _ _,by decide,fun h => by cases h⟩
      | true =>
        rw [ha] at hasc
        have HA := Lib.hid ha
        clear ha
        by_cases hn : (s.length : Int) ≤ n
        · have HT := Lib.hid (show TextOk s n 1 from ⟨HZ.out,fun _ => ⟨HA.out,hn⟩⟩)
          go_wp2_with fail
          refine hasc.mono ?_
          rintro e w' ⟨rfl,rfl⟩
          go_wp2_with (go_at_call 55; refine (specWhen _ _).mono ?_; rintro e w' ⟨rfl,rfl⟩)
          go_ret
          exact ⟨1,rfl,Below.refl _ _,by decide,fun _ => HT.out⟩
        · go_wp2_with fail
          refine hasc.mono ?_
          rintro e w' ⟨rfl,rfl⟩
          go_wp2_with (go_at_call 55; refine (specWhen _ _).mono ?_; rintro e w' ⟨rfl,rfl⟩)
          go_ret
          exact ⟨whenV (decide ((s.length : Int) ≤ n)),rfl,Below.refl _ _,whenV_in _,fun h => absurd h (by rw [decide_eq_false (by omega)]; decide)⟩
    · have HT := Lib.hid (show TextOk s n f from ⟨HZ.out,fun h => absurd h h1⟩)
      have hutf := specUTF8 s w hl
      by_cases h2 : f = 2
      · subst h2
        go_enter Tryz.func54,Tryz.ntmps54
        go_wp2_with fail
        refine hnul.mono ?_
        rintro e w' ⟨rfl,rfl⟩
        go_wp2_with fail
        refine hutf.mono ?_
        rintro e w' ⟨b,rfl,hb,-⟩
        have HB := Lib.hid hb
        clear hb
        cases b
        all_goals
          go_wp2_with fail
          go_ret
          first | exact ⟨0,rfl,HB.out,by decide,fun h => by cases h⟩ | exact ⟨1,rfl,HB.out,by decide,fun _ => HT.out⟩
      · go_enter Tryz.func54,Tryz.ntmps54
        go_wp2_with fail
        refine hnul.mono ?_
        rintro e w' ⟨rfl,rfl⟩
        go_wp2_with fail
        go_ret
        exact ⟨1,rfl,Below.refl _ _,by decide,fun _ => HT.out⟩
theorem specAll (xs : List Int) (g c : Nat) (w : World) (hat : At w g 0 (xs.map (.int .i64))) (h3 : ∀ x ∈ xs,x = 0 ∨ x = 1 ∨ x = 2) (hl : xs.length ≤ 100) : Calls Tryz.prog 57 #[.slice (some ⟨g,0,none⟩) xs.length c] w (VRight (∀ x ∈ xs,x = 1) w) := by
  have HAT := Lib.hid hat; have H3 := Lib.hid h3
  clear hat h3
  go_enter Tryz.func57,Tryz.ntmps57
  go_wp2_with fail
  go_loop [8,3] (fun s8 s3 => ∃ (k : Nat) (v : Int),k ≤ xs.length ∧ (v = 0 ∨ v = 1 ∨ v = 2) ∧ (v = 1 → ∀ (j : Nat) x,j < k → xs[j]? = some x → x = 1) ∧ s8 = .int .i64 k ∧ s3 = .int .i64 v) (fun s8 _ => xs.length - (intOf s8).toNat)
  case atStart => exact ⟨0,1,by omega,by decide,fun _ j x h => by omega,rfl,rfl⟩
  case round =>
    obtain ⟨k,v,hk,hv,hb,rfl,rfl⟩ := hrel
    have HB := Lib.hid hb
    clear hb
    by_cases hlt : (k : Int) < xs.length
    · have hkl : k < xs.length := by omega
      have hc := HAT.out k (.int .i64 xs[k]) (by rw [List.getElem?_map,List.getElem?_eq_getElem hkl]; rfl)
      rw [Nat.zero_add] at hc
      have HK := Lib.hid (List.getElem?_eq_getElem hkl)
      have hx := H3.out xs[k] (List.getElem_mem hkl)
      generalize xs[k] = y at *
      have keep : (y = 1 ∨ v ≠ 1) → Hid (v = 1 → ∀ (j : Nat) x,j < k + 1 → xs[j]? = some x → x = 1) := fun hy => Lib.hid fun h1 j x hj hx => by
        by_cases h : j = k
        · rw [h,HK.out] at hx
          injection hx with hx
          rw [← hx]
          rcases hy with hy | hy
          · exact hy
          · exact absurd h1 hy
        · exact HB.out h1 j x (by omega) hx
      have KEEP := Lib.hid keep
      clear keep
      rcases hx with rfl | rfl | rfl <;> rcases hv with rfl | rfl | rfl
      all_goals
        go_wp2_with fail
        go_round
        case rel => first | exact ⟨k + 1,_,by omega,by decide,(KEEP.out (by decide)).out,by go_num,rfl⟩ | exact ⟨k + 1,_,by omega,by decide,fun h => absurd h (by decide),by go_num,rfl⟩
        case measure => simp [intOf]; omega
    · have hkn : k = xs.length := by omega
      subst hkn
      go_wp2_with fail
      go_ret
      exact ⟨v,rfl,Below.refl _ _,hv,fun h x hx => by
        obtain ⟨j,hj,e⟩ := List.getElem_of_mem hx
        exact HB.out h j x hj (by rw [List.getElem?_eq_getElem hj,e])⟩
def OwnerOk (s : List UInt8) (f : Int) : Prop := (0 : UInt8) ∉ s ∧ (f = 1 → asciiB s = true ∧ s.length ≤ 32) ∧ (f = 3 → s.length ≤ 32) ∧ (f ≠ 2 → s.length ≠ 32)
theorem at_new (w : World) (cs : List Value) (T : TypeId) : At (w.alloc (.cells cs.toArray T)) w.heap.size 0 cs :=
  At.of_heap (heap_alloc_new w _) (fun j u hj => by rw [Nat.zero_add,List.getElem?_toArray]; exact hj)
theorem specOwner (s : List UInt8) (f : Int) (w : World) (hl : s.length < 4611686018427387904) : Calls Tryz.prog 58 #[str s,.int .i64 f] w (VRight (OwnerOk s f) w) := by
  have ht := Lib.hid (specText s 32 f w hl)
  have hbl : ∀ (v : Int) (w1 w2 : World),Below w.heap.size w w1 → Below (w1.alloc (.cells #[.int .i64 v,.int .i64 0] 3)).heap.size (w1.alloc (.cells #[.int .i64 v,.int .i64 0] 3)) w2 → Below w.heap.size w w2 := fun v w1 w2 h1 h2 =>
    (h1.alloc h1.size _).trans (h2.mono (Nat.le_trans h1.size (by simp)))
  have HBL := Lib.hid hbl
  clear hbl
  by_cases h3 : f = 3
  · subst h3
    by_cases hg : (32 : Int) < s.length
    · go_enter Tryz.func58,Tryz.ntmps58
      go_wp2_with fail
      refine ht.out.mono ?_
      rintro e w1 ⟨v,rfl,hb,hv,hp⟩
      have HB := Lib.hid hb; have HP := Lib.hid hp
      clear hb hp ht
      go_wp2_with fail
      go_ret
      exact ⟨2,rfl,HB.out,by decide,fun h => absurd h (by decide)⟩
    · by_cases he : (s.length : Int) = 32
      · go_enter Tryz.func58,Tryz.ntmps58
        go_wp2_with fail
        refine ht.out.mono ?_
        rintro e w1 ⟨v,rfl,hb,hv,hp⟩
        have HB := Lib.hid hb; have HP := Lib.hid hp
        clear hb hp ht
        go_wp2_with fail
        refine (specAll [v,0] w1.heap.size 2 _ (at_new w1 [.int .i64 v,.int .i64 0] 3) (by intro x hx; simp at hx; omega) (by simp)).mono ?_
        rintro e w2 ⟨v2,rfl,hb2,hv2,hp2⟩
        have HB2 := Lib.hid hb2; have HP2 := Lib.hid hp2
        clear hb2 hp2
        go_wp2_with fail
        go_ret
        exact ⟨v2,rfl,HBL.out _ _ _ HB.out HB2.out,hv2,fun h => absurd (HP2.out h 0 (by simp)) (by decide)⟩
      · have HK : Hid (TextOk s 32 3 → OwnerOk s 3) := Lib.hid fun h => ⟨h.1,fun e => ⟨(h.2 e).1,by have := (h.2 e).2; omega⟩,fun e => by omega,fun e => by omega⟩
        go_enter Tryz.func58,Tryz.ntmps58
        go_wp2_with fail
        refine ht.out.mono ?_
        rintro e w1 ⟨v,rfl,hb,hv,hp⟩
        have HB := Lib.hid hb; have HP := Lib.hid hp
        clear hb hp ht
        go_wp2_with fail
        go_ret
        exact ⟨v,rfl,HB.out,hv,fun h => HK.out (HP.out h)⟩
  · by_cases h2 : f = 2
    · subst h2
      have HK : Hid (TextOk s 32 2 → OwnerOk s 2) := Lib.hid fun h => ⟨h.1,fun e => ⟨(h.2 e).1,by have := (h.2 e).2; omega⟩,fun e => by omega,fun e => by omega⟩
      go_enter Tryz.func58,Tryz.ntmps58
      go_wp2_with fail
      refine ht.out.mono ?_
      rintro e w1 ⟨v,rfl,hb,hv,hp⟩
      have HB := Lib.hid hb; have HP := Lib.hid hp
      clear hb hp ht
      go_wp2_with fail
      go_ret
      exact ⟨v,rfl,HB.out,hv,fun h => HK.out (HP.out h)⟩
    · by_cases he : (s.length : Int) = 32
      · go_enter Tryz.func58,Tryz.ntmps58
        go_wp2_with fail
        refine ht.out.mono ?_
        rintro e w1 ⟨v,rfl,hb,hv,hp⟩
        have HB := Lib.hid hb; have HP := Lib.hid hp
        clear hb hp ht
        go_wp2_with fail
        refine (specAll [v,0] w1.heap.size 2 _ (at_new w1 [.int .i64 v,.int .i64 0] 3) (by intro x hx; simp at hx; omega) (by simp)).mono ?_
        rintro e w2 ⟨v2,rfl,hb2,hv2,hp2⟩
        have HB2 := Lib.hid hb2; have HP2 := Lib.hid hp2
        clear hb2 hp2
        go_wp2_with fail
        go_ret
        exact ⟨v2,rfl,HBL.out _ _ _ HB.out HB2.out,hv2,fun h => absurd (HP2.out h 0 (by simp)) (by decide)⟩
      · have HK : Hid (TextOk s 32 f → OwnerOk s f) := Lib.hid fun h => ⟨h.1,fun e => ⟨(h.2 e).1,by have := (h.2 e).2; omega⟩,fun e => by omega,fun e => by omega⟩
        have he2 : ((s.length : Int) == 32) = false := by simpa using he
        have e2 : (f == 2) = false := by simpa using h2
        have e3 : (f == 3) = false := by simpa using h3
        go_enter Tryz.func58,Tryz.ntmps58
        go_wp2_with fail
        refine ht.out.mono ?_
        rintro e w1 ⟨v,rfl,hb,hv,hp⟩
        have HB := Lib.hid hb; have HP := Lib.hid hp
        clear hb hp ht
        go_wp2_with fail
        all_goals go_ret
        all_goals exact ⟨v,rfl,HB.out,hv,fun h => HK.out (HP.out h)⟩
def RD (r g n c i : Nat) (w : World) : Prop := ∃ p : Int,w.heap[r]? = some (.cells #[.slice (some ⟨g,0,none⟩) n c,.int .i64 i,.int .i64 p] 154 (0,0))
def GotRead (r g n c i k d o : Nat) (bs : List UInt8) (cur : List Value) (t : TypeId) (w : World) (e : Ending) (w' : World) : Prop :=
  e = .returned (.tuple #[.int .i64 k,.nilIface]) ∧ RD r g n c (i + k) w' ∧ w'.heap[d]? = some (.cells (splice cur o (Lib.byteCells ((bs.drop i).take k))).toArray t (0,0)) ∧ Fr w.heap.size [r,d] w w'
theorem run_copy_u8 (w : World) (g o dLen dCap : Nat) (a : Addr) (sLen sCap : Nat) (cur : List Value) (t : TypeId) (cs : List Value)
    (hg : w.heap[g]? = some (.cells cur.toArray t (0,0))) (hn : cs.length = Nat.min sLen dLen)
    (hsrc : ∀ j v,cs[j]? = some v → w.cell? (a.add j) = some v) (hfit : o + cs.length ≤ cur.length) (h1 : ∀ v ∈ cs,v.oneCell' = true) :
    (Builtin.copy_ #[35,35] 3 #[.slice (some ⟨g,o,none⟩) dLen dCap,.slice (some a) sLen sCap]).run Tryz.prog w = .ok (goInt cs.length) (w.setRow g (splice cur o cs).toArray) := by
  have h := run_copy_row (P := Tryz.prog) w 35 35 3 5 g o dLen dCap a sLen sCap cur.toArray t cs Tryz.underlying35 (by kernel_rfl) hg hn hsrc (by simpa using hfit) h1
  rw [h,splice,List.append_assoc]
theorem read_data (w : World) (r g n c i k d o m dc : Nat) (bs : List UInt8) (cur : List Value) (t : TypeId) (h : RD r g n c i w) (hi : i < n) (hk : k = min m (n - i)) (hm : m < 4611686018427387904) (hbig : n < 4611686018427387904) (hnc : n ≤ c)
    (hb : bs.length = n) (hsrc : At w g 0 (Lib.byteCells bs)) (hd : w.heap[d]? = some (.cells cur.toArray t (0,0))) (hfit : o + m ≤ cur.length) (hdr : d ≠ r) (hgr : g ≠ r) :
    Calls Tryz.prog 340 #[.pointer (some ⟨r,0,none⟩),.slice (some ⟨d,o,none⟩) m dc] w (GotRead r g n c i k d o bs cur t w) := by
  obtain ⟨p,hr⟩ := h
  have c0 : w.cell? ⟨r,0,none⟩ = some (.slice (some ⟨g,0,none⟩) n c) := by rw [Lib.cell_of_heap hr]; rfl
  have c1 : w.cell? ⟨r,1,none⟩ = some (.int .i64 i) := by rw [Lib.cell_of_heap hr]; rfl
  have c2 : w.cell? ⟨r,2,none⟩ = some (.int .i64 p) := by rw [Lib.cell_of_heap hr]; rfl
  have z1 : w.frozen? ⟨r,1,none⟩ = false := Lib.frozen_of_heap hr 1
  have z2 : w.frozen? ⟨r,2,none⟩ = false := Lib.frozen_of_heap hr 2
  have hi2 : (i : Int) < n := by omega
  have hnc2 : (n : Int) ≤ c := by omega
  have hni : ¬ c = i := by omega
  have Hr := Lib.hid hr
  have Hd := Lib.hid hd
  have Hk := Lib.hid hk
  clear hr hd hk
  go_enter Tryz.func340,Tryz.ntmps340
  go_wp2_with fail
  go_quiet (fail)
  go_wp2_with fail
  have hr1 := heap_set_same (w := w.drewN nq) (i := 2) (.int .i64 (-1)) Hr.out
  have hd1 : ((w.drewN nq).setCell ⟨r,2,none⟩ (.int .i64 (-1))).heap[d]? = _ := (heap_set_other _ hdr).trans Hd.out
  have hs1 : At ((w.drewN nq).setCell ⟨r,2,none⟩ (.int .i64 (-1))) g 0 (Lib.byteCells bs) := hsrc.carry (heap_set_other (w := w.drewN nq) (a := ⟨r,2,none⟩) _ hgr)
  have hF1 : Fr w.heap.size [r,d] w ((w.drewN nq).setCell ⟨r,2,none⟩ (.int .i64 (-1))) := ((Fr.refl _ _ w).drewN nq).setCell (p := ⟨r,2,none⟩) (.inl (by simp)) _
  generalize (w.drewN nq).setCell ⟨r,2,none⟩ (.int .i64 (-1)) = w1 at *
  have e0 : w1.cell? ⟨r,0,none⟩ = some (.slice (some ⟨g,0,none⟩) n c) := by rw [Lib.cell_of_heap hr1]; rfl
  have e1 : w1.cell? ⟨r,1,none⟩ = some (.int .i64 i) := by rw [Lib.cell_of_heap hr1]; rfl
  have hkl : (Lib.byteCells ((bs.drop i).take k)).length = k := by rw [Lib.byteCells_length,List.length_take,List.length_drop,hb,Hk.out]; omega
  have hsi : At w1.drew g i (Lib.byteCells ((bs.drop i).take k)) := by
    have := (hs1.drop i).take k
    rw [Nat.zero_add] at this
    exact (show At w1 g i _ by simpa [Lib.byteCells] using this)
  have hcp := run_copy_u8 w1.drew d o m dc ⟨g,i,none⟩ (n - i) (c - i) cur t (Lib.byteCells ((bs.drop i).take k)) hd1 (by rw [hkl,Hk.out]; exact Nat.min_comm _ _) hsi.src (by rw [hkl,Hk.out]; omega) (Lib.byteCells_one _)
  rw [hkl] at hcp
  have Hd1 := Lib.hid hd1
  have Hr1 := Lib.hid hr1
  have Hkl := Lib.hid hkl
  clear hr1 hd1 hs1 hsi hkl c0 c1 c2 z1 z2 hsrc hb
  go_region
  have hr2 : (w1.drew.setRow d (splice cur o (Lib.byteCells ((bs.drop i).take k))).toArray).heap[r]? = _ := (setRow_other w1.drew d r _ (Ne.symm hdr)).trans Hr1.out
  have hd2 : (w1.drew.setRow d (splice cur o (Lib.byteCells ((bs.drop i).take k))).toArray).heap[d]? = _ := setRow_heap w1.drew d _ _ t _ Hd1.out
  have hF2 : Fr w.heap.size [r,d] w (w1.drew.setRow d (splice cur o (Lib.byteCells ((bs.drop i).take k))).toArray) := hF1.drew.setRow (.inl (by simp)) _
  clear hcp
  generalize w1.drew.setRow d (splice cur o (Lib.byteCells ((bs.drop i).take k))).toArray = w2 at *
  have e1 : w2.cell? ⟨r,1,none⟩ = some (.int .i64 i) := by rw [Lib.cell_of_heap hr2]; rfl
  have z1 : w2.frozen? ⟨r,1,none⟩ = false := Lib.frozen_of_heap hr2 1
  have hkn : k ≤ n - i := by rw [Hk.out]; exact Nat.min_le_right _ _
  have Hr2 := Lib.hid hr2
  have Hd2 := Lib.hid hd2
  clear hr2 hd2
  go_wp2_with fail
  go_ret2
  refine ⟨rfl,⟨-1,?_⟩,(heap_set_other _ hdr).trans Hd2.out,hF2.setCell (p := ⟨r,1,none⟩) (.inl (by simp)) _⟩
  have := heap_set_same (i := 1) (.int .i64 (i + k)) Hr2.out
  rw [this]
  simp
theorem m_read84 (w : World) (a : Addr) : (method 511 84 (.pointer (some a)) "Read").run Tryz.prog w = .ok (340,.pointer (some a)) w := by kernel_rfl
theorem na_read84 (w : World) (a : Addr) : (nilAhead 511 84 (.pointer (some a)) "Read").run Tryz.prog w = .ok (some false) w := by kernel_rfl
theorem readAtLeast_full (w : World) (r g n c i d o m dc : Nat) (bs : List UInt8) (cur : List Value) (t : TypeId) (h : RD r g n c i w) (hm0 : 0 < m) (hmn : m ≤ n - i) (hdc : m ≤ dc) (hbig : n < 4611686018427387904) (hnc : n ≤ c)
    (hb : bs.length = n) (hsrc : At w g 0 (Lib.byteCells bs)) (hd : w.heap[d]? = some (.cells cur.toArray t (0,0))) (hfit : o + m ≤ cur.length) (hdr : d ≠ r) (hgr : g ≠ r) :
    Calls Tryz.prog 236 #[.iface 84 (.pointer (some ⟨r,0,none⟩)),.slice (some ⟨d,o,none⟩) m dc,.int .i64 m] w (GotRead r g n c i m d o bs cur t w) := by
  have HC := Lib.hid (read_data w.drew r g n c i m d o m dc bs cur t h (by omega) (by omega) (by omega) hbig hnc hb hsrc hd hfit hdr hgr)
  have hdc2 : (m : Int) ≤ dc := by omega
  have hm2 : (0 : Int) < m := by omega
  have hm3 : (m : Int) < 4611686018427387904 := by omega
  have hm4 : ¬ dc = 0 := by omega
  have mr := m_read84
  have nr := na_read84
  clear h hb hsrc hd
  go_enter Tryz.func236,Tryz.ntmps236
  go_wp2_with fail
  refine wp_loop_rounds 2 ?_
  rw [rounds_succ]
  go_wp2_with fail
  go_region_held3 (fun _ => True) (trivial) (first | (go_at_call 340; refine HC.out.mono ?_; rintro e w1 ⟨rfl,h2,h3,h4⟩))
  go_wp2_with fail
  rw [rounds_succ]
  go_wp2_with fail
  go_ret2
  exact ⟨rfl,h2,h3,(Fr.refl _ _ w).drew.trans h4⟩
theorem readFull_full (w : World) (r g n c i d o m dc : Nat) (bs : List UInt8) (cur : List Value) (t : TypeId) (h : RD r g n c i w) (hm0 : 0 < m) (hmn : m ≤ n - i) (hdc : m ≤ dc) (hbig : n < 4611686018427387904) (hnc : n ≤ c)
    (hb : bs.length = n) (hsrc : At w g 0 (Lib.byteCells bs)) (hd : w.heap[d]? = some (.cells cur.toArray t (0,0))) (hfit : o + m ≤ cur.length) (hdr : d ≠ r) (hgr : g ≠ r) :
    Calls Tryz.prog 196 #[.iface 84 (.pointer (some ⟨r,0,none⟩)),.slice (some ⟨d,o,none⟩) m dc] w (GotRead r g n c i m d o bs cur t w) := by
  have HC := Lib.hid (readAtLeast_full w r g n c i d o m dc bs cur t h hm0 hmn hdc hbig hnc hb hsrc hd hfit hdr hgr)
  clear h hb hsrc hd
  go_enter Tryz.func196,Tryz.ntmps196
  go_wp2_with fail
  refine HC.out.mono ?_
  rintro e w1 ⟨rfl,h2,h3,h4⟩
  go_wp2_with fail
  go_ret2
  exact ⟨rfl,h2,h3,h4⟩
theorem tryReadFull_none (w : World) (rv : Value) (d : Option Addr) (dc : Nat) (aE : Addr) (hE : w.cell? ⟨0,0,none⟩ = some (errV aE)) :
    Calls Tryz.prog 147 #[rv,.slice d 0 dc] w fun e w' => e = .returned (.tuple #[.int .i64 0,.nilIface]) ∧ w = w' := by
  have en := fun w' => eql_nil_err w' aE
  go_enter Tryz.func147,Tryz.ntmps147
  go_wp2_with fail
  refine wp_loop_once ?_
  go_wp2_with fail
  go_ret2
  exact ⟨rfl,rfl⟩
theorem ta_seeker (w : World) (a : Addr) : (Instr.typeAssert (.iface 84 (.pointer (some a))) 145 267 true).run Tryz.prog w = .ok (.tuple #[.iface 84 (.pointer (some a)),.bool true]) w := by kernel_rfl
theorem discardN_none (w : World) (rv : Value) :
    Calls Tryz.prog 195 #[rv,.int .i64 0] w fun e w' => e = .returned (.tuple #[.int .i64 0,.nilIface]) ∧ Below w.heap.size w w' := by
  go_enter Tryz.func195,Tryz.ntmps195
  go_wp2_with fail
  refine wp_loop_once ?_
  go_wp2_with fail
  go_ret2
  exact ⟨rfl,(Below.refl _ _).alloc (Nat.le_refl _) _⟩
theorem discard_none (w : World) (r : Nat) (aE : Addr) (hE : w.cell? ⟨0,0,none⟩ = some (errV aE)) :
    Calls Tryz.prog 146 #[.iface 84 (.pointer (some ⟨r,0,none⟩)),.int .i64 0] w fun e w' => e = .returned (.nilIface) ∧ Below w.heap.size w w' := by
  have en := fun w' => eql_nil_err w' aE
  have ta := ta_seeker
  have h0 := block_lt_of_cell hE
  go_enter Tryz.func146,Tryz.ntmps146
  go_wp2_with fail
  refine (discardN_none _ _).mono ?_
  rintro e w1 ⟨rfl,hb⟩
  have hE1 : w1.cell? ⟨0,0,none⟩ = some (errV aE) := (hb.cell h0).trans hE
  clear hE
  go_wp2_with fail
  go_ret
  exact ⟨rfl,hb⟩
theorem m_logical_w (w : World) (b : Nat) (v : Value) (n : Int) (f0 : w.cell? ⟨b,0,none⟩ = some v) (f1 : w.cell? ⟨b,1,none⟩ = some (.int .i64 n)) : (method 511 119 (.pointer (some ⟨b,0,none⟩)) "tapearchives/pub/gotar.logicalRemaining").run Tryz.prog w =
   .ok (343,.agg #[v,.int .i64 n]) w := by
  have h : (method 511 119 (.pointer (some ⟨b,0,none⟩)) "tapearchives/pub/gotar.logicalRemaining").run Tryz.prog w =
   ((loadVar 121 ⟨b,0,none⟩).bind fun v => pure (343,v)).run Tryz.prog w := by kernel_rfl
  rw [h]
  have hl : (loadVar 121 ⟨b,0,none⟩).run Tryz.prog w = .ok (.agg #[v,.int .i64 n]) w := by
    simp [loadVar,go_sem,f0,f1]
  exact (Sem.run_bind ..).trans (by rw [hl]; rfl)
theorem m_write (w : World) (a : Addr) : (method 511 75 (.pointer (some a)) "Write").run Tryz.prog w = .ok (284,.pointer (some a)) w := by kernel_rfl
theorem blk0_get (j : Nat) (v : Value) (n : Nat) (hn : n ≤ 512) (h : (Lib.byteCells (List.replicate n 0))[j]? = some v) : Tryz.zeroCells132[j]? = some v := by
  have hj : j < n := by
    have := (List.getElem?_eq_some_iff.1 h).1
    simpa [Lib.byteCells_length] using this
  rw [zero132,List.getElem?_toArray]
  have e : ∀ m,j < m → (Lib.byteCells (List.replicate m 0))[j]? = some (.int .u8 0) := fun m hm => by
    simp [Lib.byteCells,hm]
  rw [e n hj] at h
  rw [blk0,e 512 (by omega)]
  exact h
theorem bufWriteNew (B b : Nat) (bs : List UInt8) (n : Nat) (w : World) (o : Obj) (h : Buf B b bs w) (hBw : B ≤ w.heap.size) (hn : n ≤ 512) (hlim : bs.length + n ≤ 140737488355328) :
    Calls Tryz.prog 284 #[.pointer (some ⟨b,0,none⟩),.slice (some ⟨w.heap.size + 1,0,none⟩) n 512] ((w.alloc o).alloc (.cells Tryz.zeroCells132 132)).drew fun e w' =>
      e = .returned (.tuple #[.int .i64 n,.nilIface]) ∧ Buf B b (bs ++ List.replicate n 0) w' ∧ Fr B [b] w w' := by
  have hs : (w.alloc o).heap.size = w.heap.size + 1 := Array.size_push ..
  have hs2 : ((w.alloc o).alloc (.cells Tryz.zeroCells132 132)).heap.size = w.heap.size + 1 + 1 := by rw [← hs]; exact Array.size_push ..
  refine (bufWrite B b bs (List.replicate n 0) _ 0 n 512 _ (((h.alloc _).alloc _).drew) ?_ ?_ ?_ ?_ hlim).mono ?_
  · show B ≤ ((w.alloc o).alloc (.cells Tryz.zeroCells132 132)).heap.size; omega
  · simp
  · have := h.lt; omega
  · refine At.of_heap (cur := Tryz.zeroCells132) (T := 132) (fz := (0,0)) ?_ (fun j v hj => by rw [Nat.zero_add]; exact blk0_get j v n hn hj)
    exact heap_alloc2_new w _ _
  · rintro e w' ⟨rfl,h1,h2⟩
    exact ⟨rfl,h1,((((Fr.refl B [b] w).alloc _).alloc _).drew).trans h2⟩
def FW (fw b : Nat) (nb : Int) (w : World) : Prop := w.heap[fw]? = some (.cells #[.iface 75 (.pointer (some ⟨b,0,none⟩)),.int .i64 nb] 121 (0,0))
def TW (tw b fw : Nat) (pad : Int) (hdr blk : List Value) (err : Value) (w : World) : Prop :=
  w.heap[tw]? = some (.cells (wcells (.iface 75 (.pointer (some ⟨b,0,none⟩))) (.int .i64 pad) (.iface 119 (.pointer (some ⟨fw,0,none⟩))) hdr blk err) 134 (0,0)) ∧ hdr.length = 20 ∧ blk.length = 512
theorem twCells {w : World} {tw : Nat} {wv pad curr err : Value} {hdr blk : List Value} (hh : hdr.length = 20) (hk : blk.length = 512) (hW : w.heap[tw]? = some (.cells (wcells wv pad curr hdr blk err) 134 (0,0))) :
    w.cell? ⟨tw,0,none⟩ = some wv ∧ w.cell? ⟨tw,1,none⟩ = some pad ∧ w.cell? ⟨tw,535,none⟩ = some err ∧ w.frozen? ⟨tw,1,none⟩ = false ∧ w.frozen? ⟨tw,535,none⟩ = false :=
  ⟨by rw [Lib.cell_of_heap hW]; exact wcells_0 ..,by rw [Lib.cell_of_heap hW]; exact wcells_1 ..,by rw [Lib.cell_of_heap hW]; exact wcells_err _ _ _ _ _ _ hh hk,Lib.frozen_of_heap hW 1,Lib.frozen_of_heap hW 535⟩
theorem flush (w : World) (B tw b fw pad : Nat) (hp2 : pad < 512) (bs : List UInt8) (hdr blk : List Value)
    (hB : Buf B b bs w) (hBw : B ≤ w.heap.size) (hW : TW tw b fw pad hdr blk .nilIface w) (hf : FW fw b 0 w) (hlim : bs.length + pad ≤ 140737488355328)
    : Calls Tryz.prog 62 #[.pointer (some ⟨tw,0,none⟩)] w fun e w' => e = .returned (.nilIface) ∧ Buf B b (bs ++ List.replicate pad 0) w' ∧ TW tw b fw 0 hdr blk .nilIface w' ∧ Fr B [b,tw] w w' := by
  obtain ⟨hW,hh,hk⟩ := hW
  have c0 : w.cell? ⟨tw,0,none⟩ = some (.iface 75 (.pointer (some ⟨b,0,none⟩))) := by rw [Lib.cell_of_heap hW]; exact wcells_0 ..
  have c1 : w.cell? ⟨tw,1,none⟩ = some (.int .i64 pad) := by rw [Lib.cell_of_heap hW]; exact wcells_1 ..
  have c2 : w.cell? ⟨tw,2,none⟩ = some (.iface 119 (.pointer (some ⟨fw,0,none⟩))) := by rw [Lib.cell_of_heap hW]; exact wcells_2 ..
  have c535 : w.cell? ⟨tw,535,none⟩ = some .nilIface := by rw [Lib.cell_of_heap hW]; exact wcells_err _ _ _ _ _ _ hh hk
  have m1 := m_logical_w w fw (.iface 75 (.pointer (some ⟨b,0,none⟩))) 0 (by rw [Lib.cell_of_heap hf]; rfl) (by rw [Lib.cell_of_heap hf]; rfl)
  have m2 := m_write
  have hp0 : (0 : Int) ≤ pad := by omega
  have hp3 : (pad : Int) ≤ 512 := by omega
  have hne : tw ≠ b := hB.ne hW (by decide)
  have hns : tw ∉ [b] := by simpa using hne
  have htw : tw < w.heap.size := lt_of_heap hW
  go_enter Tryz.func62,Tryz.ntmps62
  go_wp2
  go_region_held3 (fun w' => w'.cell? ⟨tw,0,none⟩ = some (.iface 75 (.pointer (some ⟨b,0,none⟩))) ∧ w'.cell? ⟨tw,1,none⟩ = some (.int .i64 pad)) (first | go_keep | (refine And.intro ?_ ?_ <;> assumption))
    (first | (go_at_call 284; refine (bufWriteNew B b bs pad w _ hB hBw (by omega) hlim).mono ?_; rintro e w1 ⟨rfl,hB1,hF1⟩; have hW1 := hF1.cells hW hns (.inr (by decide)); obtain ⟨d0,d1,d535,z1,z535⟩ := twCells hh hk hW1; have hW2 := heap_set_same (i := 535) .nilIface hW1; rw [wcells_setErr _ _ _ _ _ _ hh hk] at hW2; obtain ⟨e0,e1,-,-,-⟩ := twCells hh hk hW2))
  go_wp2
  go_ret
  refine ⟨rfl,?_,⟨?_,hh,hk⟩,?_⟩
  · exact ((hB1.setCell (p := ⟨tw,535,none⟩) hW1 (by decide) (by decide) _).setCell (p := ⟨tw,1,none⟩) (heap_set_same _ hW1) (by decide) (by decide) _)
  · have h2 := heap_set_same (i := 1) (.int .i64 0) (heap_set_same (i := 535) .nilIface hW1)
    rw [wcells_setErr _ _ _ _ _ _ hh hk,wcells_set1] at h2
    exact h2
  · exact ((hF1.wide (Nat.le_refl _) (by simp)).setCell (p := ⟨tw,535,none⟩) (.inl (by simp)) _).setCell (p := ⟨tw,1,none⟩) (.inl (by simp)) _
end Go.Proofs.YtkanmkcojlefbaaGreatDoor
