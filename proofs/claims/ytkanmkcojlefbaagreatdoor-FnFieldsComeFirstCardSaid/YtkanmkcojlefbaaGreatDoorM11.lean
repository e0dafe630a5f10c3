/-
  Part of the proof; holds the texts Split.
-/
import Derived.Test.YtkanmkcojlefbaaGreatDoorM10
set_option maxRecDepth 100000
set_option linter.unusedSimpArgs false
set_option linter.unusedVariables false
namespace Go.Proofs.YtkanmkcojlefbaaGreatDoor
open Go.RowKit
theorem lastIndex_lt (l : List UInt8) : Lib.lastIndex l [47] < l.length ∧ -1 ≤ Lib.lastIndex l [47] := by
  have hocc : ∀ k,-1 ≤ Lib.lastOcc l [47] k ∧ Lib.lastOcc l [47] k < (k : Int) := by
    intro k
    induction k with
    | zero => simp [Lib.lastOcc]
    | succ k ih =>
      by_cases h : Lib.occAt l [47] k = true
      · rw [Lib.lastOcc_hit _ _ _ h]; omega
      · rw [Lib.lastOcc_miss _ _ _ (by simpa using h)]; omega
  rw [Lib.lastIndex]
  split
  · rename_i h
    have := hocc (l.length - [47].length + 1)
    simp at this h
    simp; omega
  · omega
theorem split_short (w : World) (l : List UInt8) (hl : l.length ≤ 100) :
    Calls Tryz.prog 97 #[str l] w fun e w' => e = .returned (.tuple #[str [],str [],.bool false]) ∧ Below w.heap.size w w' := by
  have h1 : (l.length : Int) ≤ 100 := by omega
  go_enter Tryz.func97,Tryz.ntmps97
  go_wp2
  go_ret3
  exact ⟨rfl,Below.refl _ w⟩
theorem split_high (w : World) (l : List UInt8) (hl : 100 < l.length) (hl2 : l.length ≤ 1048576) (ha : asciiB l = false) :
    Calls Tryz.prog 97 #[str l] w fun e w' => e = .returned (.tuple #[str [],str [],.bool false]) ∧ Below w.heap.size w w' := by
  have h1 : ¬ (l.length : Int) ≤ 100 := by omega
  have h := isASCII_calls l w (by omega)
  rw [ha] at h
  go_enter Tryz.func97,Tryz.ntmps97
  go_wp2_with fail
  refine h.mono ?_
  rintro e w1 ⟨rfl,hb⟩
  go_wp2_with fail
  go_ret3
  exact ⟨rfl,hb⟩
theorem split_main (w : World) (l : List UInt8) (hl : 100 < l.length) (hl2 : l.length ≤ 1048576) (ha : asciiB l = true) (h156 : 156 < l.length) :
    Calls Tryz.prog 97 #[str l] w (SplitOut l w) := by
  have h1 : ¬ (l.length : Int) ≤ 100 := by omega
  have h2 : (156 : Int) < l.length := by omega
  have h := isASCII_calls l w (by omega)
  rw [ha] at h
  have hc : cutLen l = 156 := by rw [cutLen,if_pos h156]
  have hli := fun w' => Tryz.strings_LastIndex ⟨(l.take 156).toArray⟩ ⟨[47].toArray⟩ (by show (l.take 156).toArray.size < _; simp; omega) w'
  have hat : cutAt l = Lib.lastIndex (l.take 156) [47] := by rw [cutAt,hc]
  simp only at hli
  rw [← hat] at hli
  have hb1 := lastIndex_lt (l.take 156)
  rw [← hat] at hb1
  have hsp : splitB l = decide (0 < cutAt l ∧ (l.length : Int) - cutAt l - 1 ≤ 100 ∧ (l.length : Int) - cutAt l - 1 ≠ 0 ∧ cutAt l ≤ 155) := by rw [splitB,ha,decide_eq_true hl]; rfl
  have e3 : (⟨l.toArray⟩ : ByteArray).extract 0 156 = ⟨(l.take 156).toArray⟩ := by rw [str_ext]; simp
  simp only [List.length_take] at hb1
  generalize hi : cutAt l = i at *
  go_enter Tryz.func97,Tryz.ntmps97
  go_wp2_with fail
  refine h.mono ?_
  rintro e w1 ⟨rfl,hb⟩
  go_wp2_with fail
  refine (hli _).mono ?_
  rintro e w2 ⟨rfl,rfl⟩
  have w1a : IntKind.i64.wrap ((l.length : Int) - i) = (l.length : Int) - i := IntWalk.i64_in _ (by omega)
  have w1b : IntKind.i64.wrap ((l.length : Int) - i - 1) = (l.length : Int) - i - 1 := IntWalk.i64_in _ (by omega)
  have Hb := Lib.hid hb
  have Hb1 := hb1
  clear h hli hat hb e3
  by_cases hok : 0 < i ∧ (l.length : Int) - i - 1 ≤ 100 ∧ (l.length : Int) - i - 1 ≠ 0 ∧ i ≤ 155
  · rw [decide_eq_true hok] at hsp
    obtain ⟨k,rfl⟩ : ∃ k : Nat,i = k := ⟨i.toNat,by omega⟩
    obtain ⟨o1,o2,o3,o4⟩ := hok
    have p1 : ¬ (k : Int) ≤ 0 := by omega
    have p2 : ¬ (100 : Int) < (l.length : Int) - k - 1 := by omega
    have p3 : ((l.length : Int) - k - 1 == 0) = false := by simp; omega
    have p4 : ¬ (155 : Int) < k := by omega
    have p5 : (k : Int) ≤ l.length := by omega
    have p6 : (k : Int) + 1 ≤ l.length := by omega
    have p7 : IntKind.i64.wrap ((k : Int) + 1) = (k : Int) + 1 := IntWalk.i64_in _ (by omega)
    have Hsp := Lib.hid hsp
    have hi0 := hi
    clear hsp hc o1 o2 o3 o4 hi
    go_wp2_with fail
    go_quiet (fail)
    go_wp2_with fail
    go_ret3
    refine ⟨?_,Hb.out.trans ⟨rfl,rfl,rfl,Nat.le_refl _,fun _ _ => rfl⟩⟩
    rw [Hsp.out,if_pos rfl]
    have q2 : (⟨l.toArray⟩ : ByteArray).extract (k + 1) l.length = ⟨(l.drop (k + 1)).toArray⟩ := by rw [str_ext,List.take_of_length_le (by simp)]
    have q1 : (⟨l.toArray⟩ : ByteArray).extract 0 k = ⟨(l.take k).toArray⟩ := by rw [str_ext]; simp
    simp [q1,q2,hi0]
  · rw [decide_eq_false hok] at hsp
    have Hsp := Lib.hid hsp
    clear hsp hc hi
    by_cases r1 : i ≤ 0
    · clear hok
      go_wp2_with fail
      go_ret3
      exact ⟨by rw [Hsp.out]; rfl,Hb.out⟩
    · by_cases r2 : (100 : Int) < (l.length : Int) - i - 1
      · clear hok
        go_wp2_with fail
        go_ret3
        exact ⟨by rw [Hsp.out]; rfl,Hb.out⟩
      · by_cases r3 : (l.length : Int) - i - 1 = 0
        · have r3b : ((l.length : Int) - i - 1 == 0) = true := by simp [r3]
          clear hok r3
          go_wp2_with fail
          go_ret3
          exact ⟨by rw [Hsp.out]; rfl,Hb.out⟩
        · have r3b : ((l.length : Int) - i - 1 == 0) = false := by simp [r3]
          have r4 : (155 : Int) < i := by omega
          clear hok r3
          go_wp2_with fail
          go_ret3
          exact ⟨by rw [Hsp.out]; rfl,Hb.out⟩
theorem split_slash (w : World) (l : List UInt8) (hl : 100 < l.length) (hl2 : l.length ≤ 1048576) (ha : asciiB l = true) (h156 : l.length ≤ 156) (m : Nat) (hm : l.length = m + 1) (x : UInt8) (hx : l[m]? = some x) (hs : x.toNat = 47) :
    Calls Tryz.prog 97 #[str l] w (SplitOut l w) := by
  have h1 : ¬ (l.length : Int) ≤ 100 := by omega
  have h2 : ¬ (156 : Int) < l.length := by omega
  have hml : (m : Int) < l.length := by omega
  have hmi : (l.length : Int) = (m : Int) + 1 := by omega
  have hwm : IntKind.i64.wrap ((l.length : Int) - 1) = (m : Int) := by rw [IntWalk.i64_in _ (by omega)]; omega
  have hms : m < (⟨l.toArray⟩ : ByteArray).size := by rw [str_size]; omega
  have hxx := str_at l m x hms hx
  have hsl : ((x.toNat : Int) == 47) = true := by simp [hs]
  have hx47 : x = 47 ∨ x ≠ 47 := by by_cases h : x = 47 <;> simp [h]
  have h := isASCII_calls l w (by omega)
  rw [ha] at h
  have hc : cutLen l = m := by rw [cutLen,if_neg (by omega),if_pos (by rw [hm]; simp only [Nat.add_sub_cancel]; rw [hx]; congr 1; exact UInt8.toNat_inj.1 hs),hm]; rfl
  have hli := fun w' => Tryz.strings_LastIndex ⟨(l.take m).toArray⟩ ⟨[47].toArray⟩ (by show (l.take m).toArray.size < _; simp; omega) w'
  have hat : cutAt l = Lib.lastIndex (l.take m) [47] := by rw [cutAt,hc]
  simp only at hli
  rw [← hat] at hli
  have hb1 := lastIndex_lt (l.take m)
  rw [← hat] at hb1
  have hsp : splitB l = decide (0 < cutAt l ∧ (l.length : Int) - cutAt l - 1 ≤ 100 ∧ (l.length : Int) - cutAt l - 1 ≠ 0 ∧ cutAt l ≤ 155) := by rw [splitB,ha,decide_eq_true hl]; rfl
  have e3 : (⟨l.toArray⟩ : ByteArray).extract 0 m = ⟨(l.take m).toArray⟩ := by rw [str_ext]; simp
  simp only [List.length_take] at hb1
  clear hx47 hx
  generalize hi : cutAt l = i at *
  clear hm hmi
  go_enter Tryz.func97,Tryz.ntmps97
  go_wp2_with fail
  refine h.mono ?_
  rintro e w1 ⟨rfl,hb⟩
  go_wp2_with fail
  refine (hli _).mono ?_
  rintro e w2 ⟨rfl,rfl⟩
  have w1a : IntKind.i64.wrap ((l.length : Int) - i) = (l.length : Int) - i := IntWalk.i64_in _ (by omega)
  have w1b : IntKind.i64.wrap ((l.length : Int) - i - 1) = (l.length : Int) - i - 1 := IntWalk.i64_in _ (by omega)
  have Hb := Lib.hid hb
  have Hb1 := hb1
  clear h hli hat hb e3
  by_cases hok : 0 < i ∧ (l.length : Int) - i - 1 ≤ 100 ∧ (l.length : Int) - i - 1 ≠ 0 ∧ i ≤ 155
  · rw [decide_eq_true hok] at hsp
    obtain ⟨k,rfl⟩ : ∃ k : Nat,i = k := ⟨i.toNat,by omega⟩
    obtain ⟨o1,o2,o3,o4⟩ := hok
    have p1 : ¬ (k : Int) ≤ 0 := by omega
    have p2 : ¬ (100 : Int) < (l.length : Int) - k - 1 := by omega
    have p3 : ((l.length : Int) - k - 1 == 0) = false := by simp; omega
    have p4 : ¬ (155 : Int) < k := by omega
    have p5 : (k : Int) ≤ l.length := by omega
    have p6 : (k : Int) + 1 ≤ l.length := by omega
    have p7 : IntKind.i64.wrap ((k : Int) + 1) = (k : Int) + 1 := IntWalk.i64_in _ (by omega)
    have Hsp := Lib.hid hsp
    have hi0 := hi
    clear hsp hc o1 o2 o3 o4 hi
    go_wp2_with fail
    go_quiet (fail)
    go_wp2_with fail
    go_ret3
    refine ⟨?_,Hb.out.trans ⟨rfl,rfl,rfl,Nat.le_refl _,fun _ _ => rfl⟩⟩
    rw [Hsp.out,if_pos rfl]
    have q2 : (⟨l.toArray⟩ : ByteArray).extract (k + 1) l.length = ⟨(l.drop (k + 1)).toArray⟩ := by rw [str_ext,List.take_of_length_le (by simp)]
    have q1 : (⟨l.toArray⟩ : ByteArray).extract 0 k = ⟨(l.take k).toArray⟩ := by rw [str_ext]; simp
    simp [q1,q2,hi0]
  · rw [decide_eq_false hok] at hsp
    have Hsp := Lib.hid hsp
    clear hsp hc hi
    by_cases r1 : i ≤ 0
    · clear hok
      go_wp2_with fail
      go_ret3
      exact ⟨by rw [Hsp.out]; rfl,Hb.out⟩
    · by_cases r2 : (100 : Int) < (l.length : Int) - i - 1
      · clear hok
        go_wp2_with fail
        go_ret3
        exact ⟨by rw [Hsp.out]; rfl,Hb.out⟩
      · by_cases r3 : (l.length : Int) - i - 1 = 0
        · have r3b : ((l.length : Int) - i - 1 == 0) = true := by simp [r3]
          clear hok r3
          go_wp2_with fail
          go_ret3
          exact ⟨by rw [Hsp.out]; rfl,Hb.out⟩
        · have r3b : ((l.length : Int) - i - 1 == 0) = false := by simp [r3]
          have r4 : (155 : Int) < i := by omega
          clear hok r3
          go_wp2_with fail
          go_ret3
          exact ⟨by rw [Hsp.out]; rfl,Hb.out⟩
theorem split_plain (w : World) (l : List UInt8) (hl : 100 < l.length) (hl2 : l.length ≤ 1048576) (ha : asciiB l = true) (h156 : l.length ≤ 156) (m : Nat) (hm : l.length = m + 1) (x : UInt8) (hx : l[m]? = some x) (hs : x.toNat ≠ 47) :
    Calls Tryz.prog 97 #[str l] w (SplitOut l w) := by
  have h1 : ¬ (l.length : Int) ≤ 100 := by omega
  have h2 : ¬ (156 : Int) < l.length := by omega
  have hml : (m : Int) < l.length := by omega
  have hmi : (l.length : Int) = (m : Int) + 1 := by omega
  have hwm : IntKind.i64.wrap ((l.length : Int) - 1) = (m : Int) := by rw [IntWalk.i64_in _ (by omega)]; omega
  have hms : m < (⟨l.toArray⟩ : ByteArray).size := by rw [str_size]; omega
  have hxx := str_at l m x hms hx
  have hsl : ((x.toNat : Int) == 47) = false := by simp [hs]; omega
  have hx47 : x = 47 ∨ x ≠ 47 := by by_cases h : x = 47 <;> simp [h]
  have h := isASCII_calls l w (by omega)
  rw [ha] at h
  have hc : cutLen l = l.length := by rw [cutLen,if_neg (by omega),if_neg (by rw [hm]; simp only [Nat.add_sub_cancel]; rw [hx]; intro e; cases e; exact hs rfl)]
  have hli := fun w' => Tryz.strings_LastIndex ⟨l.toArray⟩ ⟨[47].toArray⟩ (by show l.toArray.size < _; simp; omega) w'
  have hat : cutAt l = Lib.lastIndex l [47] := by rw [cutAt,hc,List.take_length]
  simp only at hli
  rw [← hat] at hli
  have hb1 := lastIndex_lt l
  rw [← hat] at hb1
  have hsp : splitB l = decide (0 < cutAt l ∧ (l.length : Int) - cutAt l - 1 ≤ 100 ∧ (l.length : Int) - cutAt l - 1 ≠ 0 ∧ cutAt l ≤ 155) := by rw [splitB,ha,decide_eq_true hl]; rfl
  have e3 : (⟨l.toArray⟩ : ByteArray).extract 0 l.length = ⟨l.toArray⟩ := by rw [str_ext]; simp
  clear hx47 hx
  generalize hi : cutAt l = i at *
  clear hm hmi
  go_enter Tryz.func97,Tryz.ntmps97
  go_wp2_with fail
  refine h.mono ?_
  rintro e w1 ⟨rfl,hb⟩
  go_wp2_with fail
  refine (hli _).mono ?_
  rintro e w2 ⟨rfl,rfl⟩
  have w1a : IntKind.i64.wrap ((l.length : Int) - i) = (l.length : Int) - i := IntWalk.i64_in _ (by omega)
  have w1b : IntKind.i64.wrap ((l.length : Int) - i - 1) = (l.length : Int) - i - 1 := IntWalk.i64_in _ (by omega)
  have Hb := Lib.hid hb
  have Hb1 := hb1
  clear h hli hat hb e3
  by_cases hok : 0 < i ∧ (l.length : Int) - i - 1 ≤ 100 ∧ (l.length : Int) - i - 1 ≠ 0 ∧ i ≤ 155
  · rw [decide_eq_true hok] at hsp
    obtain ⟨k,rfl⟩ : ∃ k : Nat,i = k := ⟨i.toNat,by omega⟩
    obtain ⟨o1,o2,o3,o4⟩ := hok
    have p1 : ¬ (k : Int) ≤ 0 := by omega
    have p2 : ¬ (100 : Int) < (l.length : Int) - k - 1 := by omega
    have p3 : ((l.length : Int) - k - 1 == 0) = false := by simp; omega
    have p4 : ¬ (155 : Int) < k := by omega
    have p5 : (k : Int) ≤ l.length := by omega
    have p6 : (k : Int) + 1 ≤ l.length := by omega
    have p7 : IntKind.i64.wrap ((k : Int) + 1) = (k : Int) + 1 := IntWalk.i64_in _ (by omega)
    have Hsp := Lib.hid hsp
    have hi0 := hi
    clear hsp hc o1 o2 o3 o4 hi
    go_wp2_with fail
    go_quiet (fail)
    go_wp2_with fail
    go_ret3
    refine ⟨?_,Hb.out.trans ⟨rfl,rfl,rfl,Nat.le_refl _,fun _ _ => rfl⟩⟩
    rw [Hsp.out,if_pos rfl]
    have q2 : (⟨l.toArray⟩ : ByteArray).extract (k + 1) l.length = ⟨(l.drop (k + 1)).toArray⟩ := by rw [str_ext,List.take_of_length_le (by simp)]
    have q1 : (⟨l.toArray⟩ : ByteArray).extract 0 k = ⟨(l.take k).toArray⟩ := by rw [str_ext]; simp
    simp [q1,q2,hi0]
  · rw [decide_eq_false hok] at hsp
    have Hsp := Lib.hid hsp
    clear hsp hc hi
    by_cases r1 : i ≤ 0
    · clear hok
      go_wp2_with fail
      go_ret3
      exact ⟨by rw [Hsp.out]; rfl,Hb.out⟩
    · by_cases r2 : (100 : Int) < (l.length : Int) - i - 1
      · clear hok
        go_wp2_with fail
        go_ret3
        exact ⟨by rw [Hsp.out]; rfl,Hb.out⟩
      · by_cases r3 : (l.length : Int) - i - 1 = 0
        · have r3b : ((l.length : Int) - i - 1 == 0) = true := by simp [r3]
          clear hok r3
          go_wp2_with fail
          go_ret3
          exact ⟨by rw [Hsp.out]; rfl,Hb.out⟩
        · have r3b : ((l.length : Int) - i - 1 == 0) = false := by simp [r3]
          have r4 : (155 : Int) < i := by omega
          clear hok r3
          go_wp2_with fail
          go_ret3
          exact ⟨by rw [Hsp.out]; rfl,Hb.out⟩
theorem split_any (w : World) (l : List UInt8) (hl2 : l.length ≤ 1048576) : Calls Tryz.prog 97 #[str l] w (SplitOut l w) := by
  by_cases hl : l.length ≤ 100
  · have e : splitB l = false := by simp [splitB]; omega
    refine (split_short w l hl).mono ?_
    rintro e w' ⟨rfl,hb⟩
    exact ⟨by rw [e]; rfl,hb⟩
  · by_cases ha : asciiB l = true
    · by_cases h156 : 156 < l.length
      · exact split_main w l (by omega) hl2 ha h156
      · obtain ⟨m,hm⟩ : ∃ m,l.length = m + 1 := ⟨l.length - 1,by omega⟩
        obtain ⟨x,hx⟩ : ∃ x,l[m]? = some x := ⟨_,List.getElem?_eq_getElem (by omega)⟩
        by_cases hs : x.toNat = 47
        · exact split_slash w l (by omega) hl2 ha (by omega) m hm x hx hs
        · exact split_plain w l (by omega) hl2 ha (by omega) m hm x hx hs
    · have ha2 : asciiB l = false := by simpa using ha
      have e : splitB l = false := by simp [splitB,ha2]
      refine (split_high w l (by omega) hl2 ha2).mono ?_
      rintro e w' ⟨rfl,hb⟩
      exact ⟨by rw [e]; rfl,hb⟩
end Go.Proofs.YtkanmkcojlefbaaGreatDoor
