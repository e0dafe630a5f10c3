/-
  Part of the proof; holds the texts Str, Ascii.
-/
import Derived.Test.YtkanmkcojlefbaaGreatDoorM00
import Derived.LoopTactic
import Derived.Lib.Strings
import Derived.Deep.QuietTactic
import Derived.BigQuiet
import Derived.Deep.RegionHeld3
import Derived.BigRegion
import Derived.IntWalk
import Derived.Laws.RangeAny
import Derived.Lib.OthersKept
set_option maxRecDepth 100000
set_option linter.unusedSimpArgs false
set_option linter.unusedVariables false
namespace Go.Proofs.YtkanmkcojlefbaaGreatDoor
open Go.RowKit
abbrev str (l : List UInt8) : Value := .string ⟨l.toArray⟩
theorem str_ext (l : List UInt8) (a b : Nat) : (⟨l.toArray⟩ : ByteArray).extract a b = ⟨((l.drop a).take (b - a)).toArray⟩ := by
  rw [Lib.extract_eq]
theorem str_app (l m : List UInt8) : (⟨l.toArray⟩ : ByteArray) ++ ⟨m.toArray⟩ = ⟨(l ++ m).toArray⟩ := by
  apply ByteArray.ext; simp [ByteArray.data_append]
theorem str_size (l : List UInt8) : (⟨l.toArray⟩ : ByteArray).size = l.length := by simp [ByteArray.size]
theorem str_list (l : List UInt8) : (⟨l.toArray⟩ : ByteArray).toList = l := by
  simp
theorem str_eq (l m : List UInt8) : ((⟨l.toArray⟩ : ByteArray).toList == m) = decide (l = m) := by
  rw [str_list]; by_cases h : l = m <;> simp [h]
theorem str_one (l : List UInt8) (k : Nat) (c : UInt8) : (((⟨l.toArray⟩ : ByteArray).extract k (k + 1)).toList == [c]) = decide (l[k]? = some c) := by
  rw [str_ext,str_eq]
  rcases h : l[k]? with _ | x
  · have := List.getElem?_eq_none_iff.1 h
    rw [List.drop_eq_nil_of_le this]; simp
  · rw [List.drop_eq_getElem?_toList_append,h]; simp
def idxI (l : List UInt8) (c : UInt8) : Int := if c ∈ l then l.idxOf c else -1
theorem idxI_hit {l : List UInt8} {c : UInt8} {k : Nat} (h : l[k]? = some c) (hb : ∀ j,j < k → l[j]? ≠ some c) : idxI l c = k := by
  have hm : c ∈ l := List.mem_of_getElem? h
  rw [idxI,if_pos hm]
  have h1 : l.idxOf c < l.length := List.idxOf_lt_length_iff.2 hm
  have h2 : l[l.idxOf c]? = some c := by rw [List.getElem?_eq_getElem h1,List.getElem_idxOf h1]
  have h3 : k ≤ l.idxOf c := Nat.le_of_not_lt fun hlt => hb _ hlt h2
  have h4 : l.idxOf c ≤ k := by
    refine Nat.le_of_not_lt fun hlt => ?_
    have := List.not_of_lt_findIdx (show k < l.findIdx (· == c) from hlt)
    obtain ⟨hk,hk2⟩ := List.getElem?_eq_some_iff.1 h
    simp [hk2] at this
  omega
theorem idxI_miss {l : List UInt8} {c : UInt8} {k : Nat} (hk : l.length ≤ k) (hb : ∀ j,j < k → l[j]? ≠ some c) : idxI l c = -1 := by
  rw [idxI,if_neg]
  intro hm
  obtain ⟨j,hj,e⟩ := List.getElem_of_mem hm
  exact hb j (by omega) (by rw [List.getElem?_eq_getElem hj,e])
def Drew (w w' : World) : Prop := ∃ n,w' = w.drewN n
theorem Drew.refl (w : World) : Drew w w := ⟨0,rfl⟩
theorem Drew.next {w w' : World} (h : Drew w w') (n : Nat) : Drew w (w'.drewN n) := by
  obtain ⟨k,rfl⟩ := h; exact ⟨_,World.drewN_drewN _ _ _⟩
theorem zzIndex1 (l : List UInt8) (c : UInt8) (w : World) (hl : l.length < 4611686018427387904) :
    Calls Tryz.prog 219 #[str l,str [c]] w fun e w' => e = .returned (.int .i64 (idxI l c)) ∧ w = w' := by
  go_enter Tryz.func219,Tryz.ntmps219
  go_wp2_with fail
  go_loop [5] (fun i => ∃ k : Nat,k ≤ l.length ∧ (∀ j,j < k → l[j]? ≠ some c) ∧ i = .int .i64 k) (fun i => l.length - (intOf i).toNat)
  case atStart => exact ⟨0,Nat.zero_le _,fun j h => by omega,rfl⟩
  case round =>
    obtain ⟨k,hk,hb,rfl⟩ := hrel
    by_cases hlt : k < l.length
    · have hlt' : (k : Int) + 1 ≤ l.length := by omega
      have e1 := str_one l k c
      have h0 := Lib.hid hb
      clear hb
      by_cases hc : l[k]? = some c
      · rw [decide_eq_true hc] at e1
        go_wp2
        go_ret
        exact ⟨by rw [idxI_hit hc h0.out]; rfl,rfl⟩
      · rw [decide_eq_false hc] at e1
        go_wp2
        go_round
        case rel => exact ⟨k + 1,by omega,fun j hj => if h : j = k then h ▸ hc else h0.out j (by omega),by go_num⟩
        case measure => simp [intOf]; omega
    · have hlt' : ¬ (k : Int) + 1 ≤ l.length := by omega
      have h0 := Lib.hid hb
      clear hb
      go_wp2
      go_ret
      exact ⟨by rw [idxI_miss (by omega) h0.out]; rfl,rfl⟩
theorem zzContains1 (l : List UInt8) (c : UInt8) (w : World) (hl : l.length < 4611686018427387904) :
    Calls Tryz.prog 166 #[str l,str [c]] w fun e w' => e = .returned (.bool (decide (c ∈ l))) ∧ w = w' := by
  have h := zzIndex1 l c w hl
  by_cases hc : c ∈ l
  · have h2 : (0 : Int) ≤ idxI l c := by rw [idxI,if_pos hc]; omega
    rw [decide_eq_true hc]
    go_enter Tryz.func166,Tryz.ntmps166
    go_wp2_with fail
    refine h.mono ?_
    rintro e w1 ⟨rfl,rfl⟩
    go_wp2_with fail
    go_ret
    exact ⟨rfl,rfl⟩
  · rw [idxI,if_neg hc] at h
    rw [decide_eq_false hc]
    go_enter Tryz.func166,Tryz.ntmps166
    go_wp2_with fail
    refine h.mono ?_
    rintro e w1 ⟨rfl,rfl⟩
    go_wp2_with fail
    go_ret
    exact ⟨rfl,rfl⟩
theorem hasNUL_calls (l : List UInt8) (w : World) (hl : l.length < 4611686018427387904) :
    Calls Tryz.prog 94 #[str l] w fun e w' => e = .returned (.bool (decide (0 ∈ l))) ∧ w = w' := by
  have h := zzContains1 l 0 w hl
  go_enter Tryz.func94,Tryz.ntmps94
  go_wp2_with fail
  refine h.mono ?_
  rintro e w1 ⟨rfl,rfl⟩
  go_wp2_with fail
  go_ret
  exact ⟨rfl,rfl⟩
theorem zzCut1 (l : List UInt8) (c : UInt8) (w : World) (hl : l.length < 4611686018427387904) (hc : c ∈ l) :
    Calls Tryz.prog 239 #[str l,str [c]] w fun e w' => e = .returned (.tuple #[str (l.take (l.idxOf c)),str (l.drop (l.idxOf c + 1)),.bool true]) ∧ Drew w w' := by
  have h := zzIndex1 l c w hl
  have h2 : idxI l c = (l.idxOf c : Nat) := by rw [idxI,if_pos hc]
  have h3 : l.idxOf c < l.length := List.idxOf_lt_length_iff.2 hc
  rw [h2] at h
  generalize l.idxOf c = k at *
  have h4 : (0 : Int) ≤ k := by omega
  have h6 : (k : Int) ≤ l.length := by omega
  have h7 : (k : Int) + 1 ≤ l.length := by omega
  have h8 : IntKind.i64.wrap ((k : Int) + 1) = (k : Int) + 1 := by rw [IntWalk.i64_in _ (by omega)]
  go_enter Tryz.func239,Tryz.ntmps239
  go_wp2_with fail
  refine h.mono ?_
  rintro e w1 ⟨rfl,rfl⟩
  go_wp2_with fail
  go_quiet (fail)
  go_wp2_with fail
  go_ret3
  refine ⟨?_,(Drew.refl w).next _⟩
  rw [str_ext,str_ext]
  have : List.take (l.length - (k + 1)) (l.drop (k + 1)) = l.drop (k + 1) := List.take_of_length_le (by simp)
  simp [this]
theorem zzCut0 (l : List UInt8) (c : UInt8) (w : World) (hl : l.length < 4611686018427387904) (hc : c ∉ l) :
    Calls Tryz.prog 239 #[str l,str [c]] w fun e w' => e = .returned (.tuple #[str l,str [],.bool false]) ∧ w = w' := by
  have h := zzIndex1 l c w hl
  rw [idxI,if_neg hc] at h
  go_enter Tryz.func239,Tryz.ntmps239
  go_wp2_with fail
  refine h.mono ?_
  rintro e w1 ⟨rfl,rfl⟩
  go_wp2_with fail
  go_ret3
  exact ⟨rfl,rfl⟩
def trimR (l : List UInt8) (c : UInt8) : List UInt8 := (l.reverse.dropWhile (· == c)).reverse
theorem trimR_hit {l : List UInt8} {c : UInt8} {m : Nat} (h : l[m]? = some c) : trimR (l.take (m + 1)) c = trimR (l.take m) c := by
  obtain ⟨hm,e⟩ := List.getElem?_eq_some_iff.1 h
  rw [List.take_succ_eq_append_getElem hm,e]
  simp [trimR]
theorem trimR_app {l : List UInt8} {c x : UInt8} (h : x ≠ c) : trimR (l ++ [x]) c = l ++ [x] := by simp [trimR,h]
theorem trimR_miss {l : List UInt8} {c : UInt8} {m : Nat} (hm : m < l.length) (h : l[m]? ≠ some c) : trimR (l.take (m + 1)) c = l.take (m + 1) := by
  rw [List.getElem?_eq_getElem hm] at h
  rw [List.take_succ_eq_append_getElem hm]
  exact trimR_app fun e => h (by rw [e])
theorem byte_eq (l : List UInt8) (c : UInt8) (m : Nat) (h0 : 0 < (⟨[c].toArray⟩ : ByteArray).size) (hm : m < (⟨l.toArray⟩ : ByteArray).size) :
    (((((⟨[c].toArray⟩ : ByteArray)[0]'h0).toNat : Int) == (((⟨l.toArray⟩ : ByteArray)[m]'hm).toNat : Int))) = decide (l[m]? = some c) := by
  have hm2 : m < l.length := by rwa [str_size] at hm
  have e1 : (⟨[c].toArray⟩ : ByteArray)[0]'h0 = c := rfl
  have e2 : (⟨l.toArray⟩ : ByteArray)[m]'hm = l[m] := by
    show (l.toArray)[m]'_ = _
    simp
  rw [e1,e2,List.getElem?_eq_getElem hm2]
  by_cases h : l[m] = c
  · rw [h]; simp
  · have h3 : ¬ ((c.toNat : Int) = (l[m].toNat : Int)) := fun e => h (UInt8.toNat_inj.1 (by omega)).symm
    simp [h,h3]
theorem zzTrimRight1 (l : List UInt8) (c : UInt8) (w : World) (hl : l.length < 4611686018427387904) :
    Calls Tryz.prog 170 #[str l,str [c]] w fun e w' => e = .returned (str (trimR l c)) ∧ Drew w w' := by
  go_enter Tryz.func170,Tryz.ntmps170
  go_wp2_with fail
  go_loopw [5] (fun i wr => ∃ k : Nat,k ≤ l.length ∧ trimR l c = trimR (l.take k) c ∧ i = .int .i64 k ∧ Drew w wr) (fun i _ => (intOf i).toNat)
  case atStart => exact ⟨l.length,Nat.le_refl _,by rw [List.take_length],rfl,Drew.refl w⟩
  case round =>
    obtain ⟨k,hk,hb,rfl,hd⟩ := hrel
    have h0 := Lib.hid hb
    have hd0 := Lib.hid hd
    clear hb hd
    by_cases hlt : 0 < k
    · obtain ⟨m,rfl⟩ : ∃ m,k = m + 1 := ⟨k - 1,by omega⟩
      have hlt' : (0 : Int) < ((m + 1 : Nat) : Int) := by omega
      have hw1 : IntKind.i64.wrap (((m + 1 : Nat) : Int) - 1) = (m : Int) := by rw [IntWalk.i64_in _ (by omega)]; omega
      have hm : m < (⟨l.toArray⟩ : ByteArray).size := by rw [str_size]; omega
      have hm2 : m < l.length := by omega
      have hmi : (m : Int) < l.length := by omega
      have e1 := byte_eq l c m (by show 0 < 1; omega) hm
      by_cases hc : l[m]? = some c
      · rw [decide_eq_true hc] at e1
        go_wp2
        refine wp_loop_rounds 2 ?_
        rw [rounds_succ]
        go_wp2
        go_quiet (fail)
        go_wp2
        rw [rounds_succ]
        go_wp2
        go_round
        case rel => exact ⟨m,by omega,by rw [h0.out,trimR_hit hc],by go_num,hd0.out.next _⟩
        case measure => simp [intOf]
      · rw [decide_eq_false hc] at e1
        go_wp2
        refine wp_loop_rounds 2 ?_
        rw [rounds_succ]
        go_wp2
        go_quiet (fail)
        go_wp2
        rw [rounds_succ]
        go_wp2
        go_ret
        refine ⟨?_,hd0.out.next _⟩
        rw [h0.out,trimR_miss hm2 hc]
        show Ending.returned (.string ((⟨l.toArray⟩ : ByteArray).extract 0 (m + 1))) = _
        rw [str_ext]; rfl
    · have hlt' : k = 0 := by omega
      subst hlt'
      go_wp2
      go_ret
      refine ⟨?_,hd0.out⟩
      rw [h0.out]
      rfl
def ascB (b : UInt8) : Bool := decide (b.toNat < 128) && decide (b.toNat ≠ 0)
def asciiB (l : List UInt8) : Bool := l.all ascB
theorem asciiB_iff (l : List UInt8) : asciiB l = true ↔ ∀ (k : Nat) (x : UInt8),l[k]? = some x → ascB x = true := by
  simp only [asciiB,List.all_eq_true]
  constructor
  · intro h k x hk; exact h x (List.mem_of_getElem? hk)
  · intro h x hx
    obtain ⟨k,hk,e⟩ := List.getElem_of_mem hx
    exact h k x (by rw [List.getElem?_eq_getElem hk,e])
theorem asciiB_false {l : List UInt8} {k : Nat} {x : UInt8} (h : l[k]? = some x) (hx : ascB x = false) : asciiB l = false := by
  rw [Bool.eq_false_iff]; intro h2; have := (asciiB_iff l).1 h2 k x h; rw [hx] at this; cases this
theorem str_at (l : List UInt8) (k : Nat) (x : UInt8) (h : k < (⟨l.toArray⟩ : ByteArray).size) (h2 : l[k]? = some x) : (⟨l.toArray⟩ : ByteArray)[k]'h = x := by
  obtain ⟨hk,rfl⟩ := List.getElem?_eq_some_iff.1 h2
  show (l.toArray)[k]'_ = _
  simp
theorem below_iter (w : World) (s : ByteArray) (p : Nat) : Below w.heap.size w (w.iter s p) := (Below.refl _ w).alloc (Nat.le_refl _) _
theorem isASCII_calls (l : List UInt8) (w : World) (hl : l.length < 4611686018427387904) :
    Calls Tryz.prog 96 #[str l] w fun e w' => e = .returned (.bool (asciiB l)) ∧ Below w.heap.size w w' := by
  go_enter Tryz.func96,Tryz.ntmps96
  go_wp2
  go_loopw [] (fun w' => ∃ (pos : Nat),w' = w.iter ⟨l.toArray⟩ pos ∧ (∀ (k : Nat) (x : UInt8),k < pos → l[k]? = some x → ascB x = true)) (fun w' => l.length - w'.iterPos w.heap.size)
  case atStart => exact ⟨0,rfl,fun k x h => by omega⟩
  case round =>
    obtain ⟨pos,rfl,hb⟩ := hrel
    have h0 := Lib.hid hb
    clear hb
    by_cases hp : pos < l.length
    · have hp' : pos < (⟨l.toArray⟩ : ByteArray).size := by rw [str_size]; exact hp
      obtain ⟨x,hg⟩ : ∃ x,l[pos]? = some x := ⟨_,List.getElem?_eq_getElem hp⟩
      have hx := str_at l pos x hp' hg
      have Hg := Lib.hid hg
      clear hg
      by_cases ha : x.toNat < 128
      · have hnx : ∀ ty,(Instr.next (.pointer (some ⟨w.heap.size,0,none⟩)) true ty).run Tryz.prog (w.iter ⟨l.toArray⟩ pos) = _ := fun ty => run_next_ascii w ⟨l.toArray⟩ pos ty hp' (by rw [hx]; exact ha)
        rw [hx] at hnx
        have ha2 : ¬ (128 : Int) ≤ x.toNat := by omega
        by_cases hz : x.toNat = 0
        · have hf : asciiB l = false := asciiB_false Hg.out (by simp [ascB,hz])
          have Hf := Lib.hid hf
          have hz2 : ((x.toNat : Int) == 0) = true := by rw [hz]; rfl
          clear hx hf
          go_wp2
          go_ret
          exact ⟨by rw [Hf.out]; rfl,below_iter ..⟩
        · have hz2 : ((x.toNat : Int) == 0) = false := by simp; omega
          clear hx
          go_wp2
          go_roundw
          case rel => exact ⟨pos + 1,rfl,fun k y hk hy => if e : k = pos then by subst e; rw [Hg.out] at hy; cases hy; simp [ascB,ha,hz] else h0.out k y (by omega) hy⟩
          case measure => simp; omega
      · obtain ⟨hd,hd2⟩ := decode_high ⟨l.toArray⟩ pos hp' (by rw [hx]; omega)
        have hnx : ∀ ty,(Instr.next (.pointer (some ⟨w.heap.size,0,none⟩)) true ty).run Tryz.prog (w.iter ⟨l.toArray⟩ pos) = _ := fun ty => run_next_any w ⟨l.toArray⟩ pos ty hp'
        have hd3 : (128 : Int) ≤ (Utf8.decode ⟨l.toArray⟩ pos).1 := by omega
        have hf : asciiB l = false := asciiB_false Hg.out (by simp [ascB,ha])
        have Hf := Lib.hid hf
        clear hx hf
        go_wp2
        go_ret
        exact ⟨by rw [Hf.out]; rfl,below_iter ..⟩
    · have hnx : ∀ ty,(Instr.next (.pointer (some ⟨w.heap.size,0,none⟩)) true ty).run Tryz.prog (w.iter ⟨l.toArray⟩ pos) = _ := fun ty => run_next_end w ⟨l.toArray⟩ pos ty (by rw [str_size]; exact hp)
      have hf : asciiB l = true := (asciiB_iff l).2 fun k x hk => h0.out k x (by have := (List.getElem?_eq_some_iff.1 hk).1; omega) hk
      have Hf := Lib.hid hf
      clear hf
      go_wp2
      go_ret
      exact ⟨by rw [Hf.out]; rfl,below_iter ..⟩
theorem info5z : (Tryz.prog.info? 5).map (fun i => (i.zero,i.size,i.bytes)) = some (some (.int .u8 0),1,1) := by kernel_rfl
theorem toASCII_any (l : List UInt8) (w : World) (hl : l.length ≤ 1048576) :
    Calls Tryz.prog 143 #[str l] w fun e w' => (∃ m,e = .returned (str m) ∧ (asciiB l = true → m = l) ∧ asciiB m = true ∧ m.length ≤ l.length) ∧ Below w.heap.size w w' := by
  by_cases ha : asciiB l = true
  · have h := isASCII_calls l w (by omega)
    rw [ha] at h
    go_enter Tryz.func143,Tryz.ntmps143
    go_wp2_with fail
    refine h.mono ?_
    rintro e w1 ⟨rfl,hb⟩
    go_wp2_with fail
    go_ret
    exact ⟨⟨l,rfl,fun _ => rfl,ha,Nat.le_refl _⟩,hb⟩
  · have hf : asciiB l = false := by simpa using ha
    have h := isASCII_calls l w (by omega)
    rw [hf] at h
    obtain ⟨i,hi,hz0,hz1,hz2⟩ := info_parts info5z
    go_enter Tryz.func143,Tryz.ntmps143
    go_wp2_with fail
    refine h.mono ?_
    rintro e w1 ⟨rfl,hb⟩
    go_wp2_with (first | (at_make; refine wpList_make_own _ rfl _ _ 35 rfl w1.heap.size 5 i (.int .u8 0) 1 Tryz.underlying35 hi hz0 hz1 _ _ _ l.length rfl rfl rfl (by rw [hz2]; omega) (by unfold maxLen; omega) (Nat.le_refl _) ?_))
    intro w2 hown hgr
    have hb2 : Below w.heap.size w w2 := hb.grown hgr hb.size (fun k hk => by cases hk)
    have hw12 : w1.heap.size < w2.heap.size := hown.2.elim (fun h => by cases h.1) fun ⟨g,_,_,e,_,hg,_⟩ => by cases e; exact lt_of_heap hg
    clear hgr h
    go_wp2_with fail
    go_loopw [3] (fun v wr => ∃ (pos : Nat) (acc : List UInt8),wr.heap[w2.heap.size]? = some (.stringIter ⟨l.toArray⟩ pos) ∧ acc.length ≤ pos ∧ acc.length ≤ l.length ∧ asciiB acc = true ∧ v = .slice (some ⟨w1.heap.size,0,none⟩) acc.length l.length ∧ wr.ownsRow w1.heap.size 5 1 (.slice (some ⟨w1.heap.size,0,none⟩) acc.length l.length) acc.length (Lib.byteCells acc) ∧ Below w.heap.size w wr)
      (fun _ wr => l.length - wr.iterPos w2.heap.size)
    case atStart => exact ⟨0,[],heap_alloc_new _ _,by simp,by simp,rfl,rfl,hown.alloc _,hb2.alloc hb2.size _⟩
    case round =>
      obtain ⟨pos,acc,hit,hac,hpl,has,rfl,hown1,hbe⟩ := hrel
      have hm0 : wr.iterPos w2.heap.size = pos := by simp [World.iterPos,hit]
      have hsize : w2.heap.size < wr.heap.size := lt_of_heap hit
      by_cases hp : pos < l.length
      · have hp' : pos < (⟨l.toArray⟩ : ByteArray).size := by rw [str_size]; exact hp
        obtain ⟨x,hg⟩ : ∃ x,l[pos]? = some x := ⟨_,List.getElem?_eq_getElem hp⟩
        have hx := str_at l pos x hp' hg
        by_cases ha : x.toNat < 128
        · have hnx : ∀ ty,(Instr.next (.pointer (some ⟨w2.heap.size,0,none⟩)) true ty).run Tryz.prog wr = _ := fun ty => Lib.run_next_ascii_at wr w2.heap.size ⟨l.toArray⟩ pos ty hit hp' (by rw [hx]; exact ha)
          rw [hx] at hnx
          have ha2 : (x.toNat : Int) < 128 := by omega
          have hit2 := Lib.iterAt_heap wr w2.heap.size ⟨l.toArray⟩ pos (pos + 1) hit
          have hbe2 := Lib.below_iterAt (k := w2.heap.size) hbe (by have := hb.size; omega) ⟨l.toArray⟩ (pos + 1)
          have hown2 : (wr.iterAt w2.heap.size ⟨l.toArray⟩ (pos + 1)).ownsRow w1.heap.size 5 1 (.slice (some ⟨w1.heap.size,0,none⟩) acc.length l.length) acc.length (Lib.byteCells acc) :=
            hown1.kept (row := some w2.heap.size) ⟨rfl,rfl,rfl,by rw [Lib.iterAt_size]; exact Nat.le_refl _,fun k hk hne => Lib.iterAt_other wr w2.heap.size k _ _ (fun e => hne (by rw [e]))⟩ (.inr (by simp [Value.ownBlock]; omega))
          have hm1 : (wr.iterAt w2.heap.size ⟨l.toArray⟩ (pos + 1)).iterPos w2.heap.size = pos + 1 := by simp [World.iterPos,hit2]
          have Hx := Lib.hid hx
          have Hit := Lib.hid hit
          have Hit2 := Lib.hid hit2
          have Hm0 := Lib.hid hm0
          clear hx hit hit2 hm0 hg
          generalize wr.iterAt w2.heap.size ⟨l.toArray⟩ (pos + 1) = w3 at *
          by_cases hz : x.toNat = 0
          · have hz2 : ((x.toNat : Int) != 0) = false := by rw [hz]; rfl
            go_wp2
            go_roundw
            case rel => exact ⟨pos + 1,acc,Hit2.out,by omega,hpl,has,rfl,hown2,hbe2⟩
            case measure => rw [hm1,Hm0.out]; omega
          · have hz2 : ((x.toNat : Int) != 0) = true := by simp; omega
            have hs3 : w2.heap.size < w3.heap.size := lt_of_heap Hit2.out
            go_wp2_with (first | (at_builtin; refine wpList_append_fits _ rfl (.tmp 23) (.tmp 26) 35 rfl w1.heap.size 5 i 1 Tryz.underlying35 hi hz1 w1.heap.size acc.length l.length _ rfl (hown2.alloc _) ⟨w3.heap.size,0,none⟩ 1 1 [.int .u8 x.toNat] rfl rfl ?c1 ?c2 ?c3 ?_) | fail)
            case c1 => intro j u hj; match j,hj with | 0,hj => simp at hj; subst hj; simp [Addr.add]
            case c2 => intro u hu; simp at hu; subst hu; rfl
            case c3 => omega
            intro w4 hown4 hgr4
            have hit4 : w4.heap[w2.heap.size]? = some (.stringIter ⟨l.toArray⟩ (pos + 1)) := by
              rw [hgr4.block _ (by simp; omega) (fun e => by have := Option.some.inj e; omega),heap_alloc_old _ _ hs3]; exact Hit2.out
            have hm4 : w4.iterPos w2.heap.size = pos + 1 := by simp [World.iterPos,hit4]
            have hbe4 : Below w.heap.size w w4 := (hbe2.alloc hbe2.size _).grown hgr4 (by have := hbe2.size; simp; omega) (fun k hk => by cases hk; exact hb.size)
            have Hit4 := Lib.hid hit4
            have Hgr := Lib.hid hgr4
            clear hit4 hgr4 hnx
            go_wp2
            go_roundw
            case rel => exact ⟨pos + 1,acc ++ [x],Hit4.out,by simp; omega,by simp; omega,by rw [asciiB,List.all_append,Bool.and_eq_true]; exact ⟨has,by simp [ascB,ha,hz]⟩,by simp,by simpa [Lib.byteCells] using hown4,hbe4⟩
            case measure => rw [hm4,Hm0.out]; omega
        · obtain ⟨hd,hd2⟩ := decode_high ⟨l.toArray⟩ pos hp' (by rw [hx]; omega)
          have hnx : ∀ ty,(Instr.next (.pointer (some ⟨w2.heap.size,0,none⟩)) true ty).run Tryz.prog wr = _ := fun ty => Lib.run_next_any_at wr w2.heap.size ⟨l.toArray⟩ pos ty hit hp'
          have hd3 : ¬ ((Utf8.decode ⟨l.toArray⟩ pos).1 : Int) < 128 := by omega
          have hit2 := Lib.iterAt_heap wr w2.heap.size ⟨l.toArray⟩ pos (pos + (Utf8.decode ⟨l.toArray⟩ pos).2) hit
          have hbe2 := Lib.below_iterAt (k := w2.heap.size) hbe (by have := hb.size; omega) ⟨l.toArray⟩ (pos + (Utf8.decode ⟨l.toArray⟩ pos).2)
          have hown2 : (wr.iterAt w2.heap.size ⟨l.toArray⟩ (pos + (Utf8.decode ⟨l.toArray⟩ pos).2)).ownsRow w1.heap.size 5 1 (.slice (some ⟨w1.heap.size,0,none⟩) acc.length l.length) acc.length (Lib.byteCells acc) :=
            hown1.kept (row := some w2.heap.size) ⟨rfl,rfl,rfl,by rw [Lib.iterAt_size]; exact Nat.le_refl _,fun k hk hne => Lib.iterAt_other wr w2.heap.size k _ _ (fun e => hne (by rw [e]))⟩ (.inr (by simp [Value.ownBlock]; omega))
          have hm1 : (wr.iterAt w2.heap.size ⟨l.toArray⟩ (pos + (Utf8.decode ⟨l.toArray⟩ pos).2)).iterPos w2.heap.size = pos + (Utf8.decode ⟨l.toArray⟩ pos).2 := by simp [World.iterPos,hit2]
          have Hit2 := Lib.hid hit2
          have Hm0 := Lib.hid hm0
          clear hx hit hit2 hm0 hg
          generalize wr.iterAt w2.heap.size ⟨l.toArray⟩ (pos + (Utf8.decode ⟨l.toArray⟩ pos).2) = w3 at *
          generalize Utf8.decode ⟨l.toArray⟩ pos = dd at *
          go_wp2
          go_roundw
          case rel => exact ⟨_,acc,Hit2.out,by omega,hpl,has,rfl,hown2,hbe2⟩
          case measure => rw [hm1,Hm0.out]; omega
      · have hnx : ∀ ty,(Instr.next (.pointer (some ⟨w2.heap.size,0,none⟩)) true ty).run Tryz.prog wr = _ := fun ty => Lib.run_next_end_at wr w2.heap.size ⟨l.toArray⟩ pos ty hit (by rw [str_size]; exact hp)
        have hcv : (convert 35 9 (.slice (some ⟨w1.heap.size,0,none⟩) acc.length l.length)).run Tryz.prog wr = .ok (.string ⟨acc.toArray⟩) wr :=
          run_convert_bytes_back wr 35 9 5 ⟨w1.heap.size,0,none⟩ l.length acc Tryz.underlying35 Tryz.underlying5 Tryz.underlying9 (fun j hj => hown1.cells (g := w1.heap.size) rfl j _ (by simp [Lib.byteCells,hj]))
        clear hit hm0
        go_wp2
        go_ret
        exact ⟨⟨acc,rfl,fun h => (ha h).elim,has,hpl⟩,hbe⟩
end Go.Proofs.YtkanmkcojlefbaaGreatDoor
