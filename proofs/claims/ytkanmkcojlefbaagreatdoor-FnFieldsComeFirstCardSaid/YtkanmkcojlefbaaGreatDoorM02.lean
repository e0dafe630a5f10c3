/-
  Part of the proof; holds the texts FmtS, Hd, Ref1.
-/
import Derived.Test.YtkanmkcojlefbaaGreatDoorM01
import Derived.Test.YtkanmkcojlefbaaGreatDoorM00
import Derived.Lib.LastIndexLaws
set_option maxRecDepth 100000
set_option linter.unusedSimpArgs false
set_option linter.unusedVariables false
namespace Go.Proofs.YtkanmkcojlefbaaGreatDoor
open Go.RowKit
def Seg (w : World) (g : Nat) (T : TypeId) (pre : List Value) (bs : List UInt8) (post : List Value) : Prop := w.heap[g]? = some (.cells (pre ++ Lib.byteCells bs ++ post).toArray T (0,0))
theorem splice3 {α : Type} (pre a post new : List α) (h : new.length ≤ a.length) : (pre ++ (a ++ post)).take pre.length ++ (new ++ (pre ++ (a ++ post)).drop (pre.length + new.length)) = pre ++ ((new ++ a.drop new.length) ++ post) := by
  rw [List.take_left,← List.drop_drop,List.drop_left,List.drop_append_of_le_length h]; simp
theorem run_copy_str (w : World) (g n c : Nat) (s : List UInt8) (T : TypeId) (pre : List Value) (old : List UInt8) (post : List Value) (h : Seg w g T pre old post) (hn : old.length = n) :
    (Builtin.copy_ #[35,9] 3 #[.slice (some ⟨g,pre.length,none⟩) n c,str s]).run Tryz.prog w =
      .ok (goInt (min s.length n)) (w.setRow g (pre ++ Lib.byteCells (s.take n ++ old.drop s.length) ++ post).toArray) := by
  have hlen : (Lib.byteCells (s.take n)).length = min s.length n := by rw [Lib.byteCells_length,List.length_take,Nat.min_comm]
  have hst := run_storeCells_at Tryz.prog g pre.length T (Lib.byteCells (s.take n)) 0 _ w h (by rw [hlen]; simp [Lib.byteCells_length,hn]; omega) (Lib.byteCells_one _)
  rw [hlen] at hst
  simp only [Nat.add_zero] at hst
  obtain ⟨i,hi,hsz⟩ : ∃ i,Tryz.prog.info? 5 = some i ∧ i.size = 1 := by
    have hs : (Tryz.prog.info? 5).map (·.size) = some 1 := by kernel_rfl
    obtain ⟨i,hi,e⟩ := Option.map_eq_some_iff.1 hs
    exact ⟨i,hi,e⟩
  have hmin : Nat.min s.length n = min s.length n := rfl
  have e3 : s.take (min s.length n) = s.take n := by
    rcases Nat.le_total s.length n with h | h
    · rw [Nat.min_eq_left h,List.take_length,List.take_of_length_le h]
    · rw [Nat.min_eq_right h]
  have htk : List.take (min s.length n) (List.map (fun b : UInt8 => Value.int IntKind.u8 (b.toNat : Int)) s) = Lib.byteCells (s.take n) := by
    rw [← List.map_take,e3]; rfl
  have e4 : (Lib.byteCells old).drop (Lib.byteCells (s.take n)).length = Lib.byteCells (old.drop s.length) := by
    rw [hlen,Lib.byteCells,← List.map_drop]
    have e5 : old.drop (min s.length n) = old.drop s.length := by
      rcases Nat.le_total s.length n with h | h
      · rw [Nat.min_eq_left h]
      · rw [Nat.min_eq_right h,List.drop_eq_nil_of_le (by omega),List.drop_eq_nil_of_le (by omega)]
    rw [e5]; rfl
  have e2 := splice3 pre (Lib.byteCells old) post (Lib.byteCells (s.take n)) (by rw [hlen,Lib.byteCells_length]; omega)
  rw [e4,hlen,← Lib.byteCells_append] at e2
  simp [Builtin.copy_,run_underlying Tryz.underlying35,Builtin.lenOf,Builtin.firstCells,sizeOf,typeInfo,hi,hmin,str_size]
  rw [htk]
  simp only [List.append_assoc] at hst e2 ⊢
  rw [hst,e2]
  simp [Result.andThen]
  exact congrArg goInt (by omega)
theorem Seg.cell {w : World} {g : Nat} {T : TypeId} {pre post : List Value} {bs : List UInt8} (h : Seg w g T pre bs post) (j : Nat) (x : UInt8) (hx : bs[j]? = some x) : w.cell? ⟨g,pre.length + j,none⟩ = some (.int .u8 x.toNat) := by
  have hj := (List.getElem?_eq_some_iff.1 hx).1
  rw [Lib.cell_of_heap h,List.getElem?_toArray,List.append_assoc,List.getElem?_append_right (by omega),List.getElem?_append_left (by simp [Lib.byteCells_length]; omega)]
  simp [Lib.byteCells,hx]
theorem Seg.frozen {w : World} {g : Nat} {T : TypeId} {pre post : List Value} {bs : List UInt8} (h : Seg w g T pre bs post) (j : Nat) : w.frozen? ⟨g,pre.length + j,none⟩ = false := Lib.frozen_of_heap h _
theorem Seg.set {w : World} {g : Nat} {T : TypeId} {pre post : List Value} {bs : List UInt8} (h : Seg w g T pre bs post) (j : Nat) (hj : j < bs.length) (x : UInt8) :
    Seg (w.setCell ⟨g,pre.length + j,none⟩ (.int .u8 x.toNat)) g T pre (bs.set j x) post := by
  have := heap_set_same (i := pre.length + j) (.int .u8 x.toNat) h
  rw [Seg,this]
  congr 2
  simp only [List.setIfInBounds_toArray]
  rw [List.append_assoc,List.set_append_right _ _ (by omega),List.set_append_left _ _ (by simp [Lib.byteCells_length]; omega)]
  simp [Lib.byteCells,List.map_set]
theorem Seg.row {w : World} {g : Nat} {T : TypeId} {pre post : List Value} {bs : List UInt8} (h : Seg w g T pre bs post) (new : List UInt8) : Seg (w.setRow g (pre ++ Lib.byteCells new ++ post).toArray) g T pre new post :=
  setRow_heap w g _ _ T _ h
theorem formatString_fits (w : World) (fb g n c : Nat) (s : List UInt8) (T : TypeId) (pre : List Value) (old : List UInt8) (post : List Value) (h : Seg w g T pre old post) (hn : old.length = n) (hnc : n ≤ c) (hn2 : n ≤ 512) (hs : s.length < n) :
    Calls Tryz.prog 129 #[.pointer (some ⟨fb,0,none⟩),.slice (some ⟨g,pre.length,none⟩) n c,str s] w fun e w' => e = .returned (.tuple #[]) ∧ Seg w' g T pre (s ++ 0::old.drop (s.length + 1)) post ∧ Fr w.heap.size [g] w w' := by
  have hcp := run_copy_str w g n c s T pre old post h hn
  have h1 := h.row (s.take n ++ old.drop s.length)
  have hF1 : Fr w.heap.size [g] w (w.setRow g (pre ++ Lib.byteCells (s.take n ++ old.drop s.length) ++ post).toArray) := (Fr.refl _ _ w).setRow (.inl (by simp)) _
  generalize w.setRow g (pre ++ Lib.byteCells (s.take n ++ old.drop s.length) ++ post).toArray = w1 at *
  have e1 : s.take n = s := List.take_of_length_le (by omega)
  rw [e1] at h1
  obtain ⟨x,hx⟩ : ∃ x,(s ++ old.drop s.length)[s.length]? = some x := ⟨_,List.getElem?_eq_getElem (by simp; omega)⟩
  have c1 := h1.cell s.length x hx
  have z1 := h1.frozen s.length
  have h2 := h1.set s.length (by simp; omega) 0
  have e2 : (s ++ old.drop s.length).set s.length 0 = s ++ 0::old.drop (s.length + 1) := by
    rw [List.set_append_right _ _ (Nat.le_refl _),Nat.sub_self,List.drop_eq_getElem_cons (by omega)]; rfl
  rw [e2] at h2
  have hF2 : Fr w.heap.size [g] w (w1.setCell ⟨g,pre.length + s.length,none⟩ (.int .u8 (0 : UInt8).toNat)) := hF1.setCell (.inl (by simp)) _
  have i1 : (s.length : Int) < n := by omega
  have i2 : ¬ (n : Int) < s.length := by omega
  have i3 : ((n : Int)) ≤ c := by omega
  have H2 := Lib.hid h2
  have HF2 := Lib.hid hF2
  have H := Lib.hid h
  clear h2 hF2 h h1 hF1 hx e1 e2
  go_enter Tryz.func129,Tryz.ntmps129
  go_wp2_with fail
  go_end0
  exact ⟨rfl,H2.out,HF2.out⟩
theorem formatString_full (w : World) (fb g n c : Nat) (s : List UInt8) (T : TypeId) (pre : List Value) (old : List UInt8) (post : List Value) (h : Seg w g T pre old post) (hn : old.length = n) (hnc : n ≤ c) (hn2 : n ≤ 512) (hs : s.length = n) :
    Calls Tryz.prog 129 #[.pointer (some ⟨fb,0,none⟩),.slice (some ⟨g,pre.length,none⟩) n c,str s] w fun e w' => e = .returned (.tuple #[]) ∧ Seg w' g T pre s post ∧ Fr w.heap.size [g] w w' := by
  have hcp := run_copy_str w g n c s T pre old post h hn
  have h1 := h.row (s.take n ++ old.drop s.length)
  have hF1 : Fr w.heap.size [g] w (w.setRow g (pre ++ Lib.byteCells (s.take n ++ old.drop s.length) ++ post).toArray) := (Fr.refl _ _ w).setRow (.inl (by simp)) _
  generalize w.setRow g (pre ++ Lib.byteCells (s.take n ++ old.drop s.length) ++ post).toArray = w1 at *
  have e1 : s.take n ++ old.drop s.length = s := by rw [List.take_of_length_le (by omega),List.drop_eq_nil_of_le (by omega),List.append_nil]
  rw [e1] at h1
  have i1 : ¬ (s.length : Int) < n := by omega
  have i2 : ¬ (n : Int) < s.length := by omega
  have i3 : ((n : Int)) ≤ c := by omega
  have H2 := Lib.hid h1
  have HF2 := Lib.hid hF1
  have H := Lib.hid h
  clear h h1 hF1 e1
  go_enter Tryz.func129,Tryz.ntmps129
  go_wp2_with fail
  go_end0
  exact ⟨rfl,H2.out,HF2.out⟩
theorem formatString_long (w : World) (fb g n c : Nat) (s : List UInt8) (T : TypeId) (pre : List Value) (old : List UInt8) (post : List Value) (err : Value) (aE : Addr) (h : Seg w g T pre old post) (hn : old.length = n) (hnc : n ≤ c) (hn0 : 0 < n) (hn2 : n ≤ 512) (hs : n < s.length) (hl : s.length ≤ 1048576)
    (hfb : w.heap[fb]? = some (.cells #[err] 196 (0,0))) (hne : fb ≠ g) (hE : w.cell? ⟨3,0,none⟩ = some (errV aE)) :
    Calls Tryz.prog 129 #[.pointer (some ⟨fb,0,none⟩),.slice (some ⟨g,pre.length,none⟩) n c,str s] w fun e w' => e = .returned (.tuple #[]) ∧ (∃ new : List UInt8,Seg w' g T pre new post ∧ new.length = n ∧ (∀ b ∈ new,b = 0 ∨ b ∈ s)) ∧ w'.heap[fb]? = some (.cells #[errV aE] 196 (0,0)) ∧ Fr w.heap.size [g,fb] w w' := by
  have hf0 : w.cell? ⟨fb,0,none⟩ = some err := by rw [Lib.cell_of_heap hfb]; rfl
  have zf0 : w.frozen? ⟨fb,0,none⟩ = false := Lib.frozen_of_heap hfb 0
  have hfb1 := heap_set_same (i := 0) (errV aE) hfb
  have h0 : Seg (w.setCell ⟨fb,0,none⟩ (errV aE)) g T pre old post := (heap_set_other _ (Ne.symm hne)).trans h
  have hF0 : Fr w.heap.size [g,fb] w (w.setCell ⟨fb,0,none⟩ (errV aE)) := (Fr.refl _ _ w).setCell (.inl (by simp)) _
  have hcp := run_copy_str _ g n c s T pre old post h0 hn
  have h1 := h0.row (s.take n ++ old.drop s.length)
  have hfb2 := (setRow_other (w.setCell ⟨fb,0,none⟩ (errV aE)) g fb (pre ++ Lib.byteCells (s.take n ++ old.drop s.length) ++ post).toArray hne).trans hfb1
  have hF1 : Fr w.heap.size [g,fb] w ((w.setCell ⟨fb,0,none⟩ (errV aE)).setRow g (pre ++ Lib.byteCells (s.take n ++ old.drop s.length) ++ post).toArray) := hF0.setRow (.inl (by simp)) _
  generalize (w.setCell ⟨fb,0,none⟩ (errV aE)).setRow g (pre ++ Lib.byteCells (s.take n ++ old.drop s.length) ++ post).toArray = w1 at *
  have e1 : s.take n ++ old.drop s.length = s.take n := by rw [(List.drop_eq_nil_of_le (by omega) : old.drop s.length = []),List.append_nil]
  rw [e1] at h1
  obtain ⟨m,rfl⟩ : ∃ m,n = m + 1 := ⟨n - 1,by omega⟩
  obtain ⟨x,hx⟩ : ∃ x,(s.take (m + 1))[m]? = some x := ⟨_,List.getElem?_eq_getElem (by simp; omega)⟩
  have c1 := h1.cell m x hx
  have hw1 : IntKind.i64.wrap (((m + 1 : Nat) : Int) - 1) = (m : Int) := by rw [IntWalk.i64_in _ (by omega)]; omega
  have i1 : ¬ (s.length : Int) < (m + 1 : Nat) := by omega
  have i2 : ((m + 1 : Nat) : Int) < s.length := by omega
  have i3 : (((m + 1 : Nat) : Int)) ≤ c := by omega
  have i4 : (m : Int) < (m + 1 : Nat) := by omega
  have i5 : (m : Int) ≤ s.length := by omega
  have e3 : (⟨s.toArray⟩ : ByteArray).extract 0 m = ⟨(s.take m).toArray⟩ := by rw [str_ext]; simp
  have htr := fun w2 => zzTrimRight1 (s.take m) 47 w2 (by simp; omega)
  have hlen : (trimR (s.take m) 47).length ≤ m := by
    have h3 := (List.dropWhile_sublist (· == (47 : UInt8)) (l := (s.take m).reverse)).length_le
    simp only [trimR,List.length_reverse] at h3 ⊢
    simp at h3
    omega
  obtain ⟨y,hy⟩ : ∃ y,(s.take (m + 1))[(trimR (s.take m) 47).length]? = some y := ⟨_,List.getElem?_eq_getElem (by simp; omega)⟩
  have c2 := h1.cell _ y hy
  have z2 := h1.frozen (trimR (s.take m) 47).length
  have h2 := h1.set (trimR (s.take m) 47).length (by simp; omega) 0
  generalize hk : (trimR (s.take m) 47).length = k at *
  have i6 : (k : Int) < (m + 1 : Nat) := by omega
  have H := Lib.hid h
  have H1 := Lib.hid h1
  have H2 := Lib.hid h2
  have HF1 := Lib.hid hF1
  have Hb := Lib.hid hfb2
  clear h h0 h1 h2 hF1 hF0 hfb hfb1 hfb2 hx hy e1
  by_cases hsl : x.toNat = 47
  · have hs1 : ((x.toNat : Int) == 47) = true := by rw [hsl]; rfl
    go_enter Tryz.func129,Tryz.ntmps129
    go_wp2_with fail
    refine (htr _).mono ?_
    rintro e w2 ⟨rfl,nd,rfl⟩
    have c3 : (w1.drewN nd).cell? ⟨g,pre.length + k,none⟩ = some (.int .u8 y.toNat) := c2
    have z3 : (w1.drewN nd).frozen? ⟨g,pre.length + k,none⟩ = false := z2
    go_wp2_with fail
    go_end0
    refine ⟨rfl,⟨_,H2.out,by simp; omega,?_⟩,(heap_set_other _ hne).trans Hb.out,?_⟩
    · intro b hb
      rcases List.mem_or_eq_of_mem_set hb with hb | hb
      · exact .inr (List.mem_of_mem_take hb)
      · exact .inl hb
    · exact (HF1.out.drewN nd).setCell (p := ⟨g,pre.length + k,none⟩) (.inl (by simp)) _
  · have hs1 : ((x.toNat : Int) == 47) = false := by simp; omega
    go_enter Tryz.func129,Tryz.ntmps129
    go_wp2_with fail
    go_end0
    exact ⟨rfl,⟨_,H1.out,by simp; omega,fun b hb => .inr (List.mem_of_mem_take hb)⟩,Hb.out,HF1.out⟩
structure FmtS (old s new : List UInt8) : Prop where
  len : new.length = old.length
  short : s.length < old.length → new = s ++ 0::old.drop (s.length + 1)
  full : s.length = old.length → new = s
  mem : ∀ b ∈ new,b = 0 ∨ b ∈ s ∨ b ∈ old
theorem formatString_any (w : World) (fb g n c : Nat) (s : List UInt8) (T : TypeId) (pre : List Value) (old : List UInt8) (post : List Value) (err : Value) (aE : Addr) (h : Seg w g T pre old post) (hn : old.length = n) (hnc : n ≤ c) (hn0 : 0 < n) (hn2 : n ≤ 512) (hl : s.length ≤ 1048576)
    (hfb : w.heap[fb]? = some (.cells #[err] 196 (0,0))) (hne : fb ≠ g) (hE : w.cell? ⟨3,0,none⟩ = some (errV aE)) :
    Calls Tryz.prog 129 #[.pointer (some ⟨fb,0,none⟩),.slice (some ⟨g,pre.length,none⟩) n c,str s] w fun e w' => e = .returned (.tuple #[]) ∧ ∃ new err2,FmtS old s new ∧ (s.length ≤ n → err2 = err) ∧ Seg w' g T pre new post ∧ w'.heap[fb]? = some (.cells #[err2] 196 (0,0)) ∧ Fr w.heap.size [g,fb] w w' := by
  have hfb2 : ∀ w',Fr w.heap.size [g] w w' → w'.heap[fb]? = some (.cells #[err] 196 (0,0)) := fun w' f => f.cells hfb (by simpa using hne) (.inr (by decide))
  rcases Nat.lt_trichotomy s.length n with hs | hs | hs
  · refine (formatString_fits w fb g n c s T pre old post h hn hnc hn2 hs).mono ?_
    rintro e w' ⟨rfl,h1,h2⟩
    refine ⟨rfl,_,err,⟨?_,fun _ => rfl,fun e => by omega,?_⟩,fun _ => rfl,h1,hfb2 _ h2,h2.wide (Nat.le_refl _) (by simp)⟩
    · simp; omega
    · intro b hb
      rcases List.mem_append.1 hb with hb | hb
      · exact .inr (.inl hb)
      · rcases List.mem_cons.1 hb with hb | hb
        · exact .inl hb
        · exact .inr (.inr (List.mem_of_mem_drop hb))
  · refine (formatString_full w fb g n c s T pre old post h hn hnc hn2 hs).mono ?_
    rintro e w' ⟨rfl,h1,h2⟩
    exact ⟨rfl,s,err,⟨by omega,fun e => by omega,fun _ => rfl,fun b hb => .inr (.inl hb)⟩,fun _ => rfl,h1,hfb2 _ h2,h2.wide (Nat.le_refl _) (by simp)⟩
  · refine (formatString_long w fb g n c s T pre old post err aE h hn hnc hn0 hn2 hs hl hfb hne hE).mono ?_
    rintro e w' ⟨rfl,⟨new,h1,h2,h3⟩,h4,h5⟩
    exact ⟨rfl,new,errV aE,⟨by omega,fun e => by omega,fun e => by omega,fun b hb => (h3 b hb).elim .inl (fun h => .inr (.inl h))⟩,fun e => by omega,h1,h4,h5⟩
def RetSame (w : World) (v : Value) (e : Ending) (w' : World) : Prop := e = .returned v ∧ w = w'
def headIs (n : Nat) : Code → Bool
  | .region k _ _ => k == n
  | .seq a _ => headIs n a
  | _ => false
def tailFrom (n : Nat) : Code → Code
  | .seq a b => match headIs n a with
    | true => .seq a b
    | false => tailFrom n b
  | c => c
structure Hd where
  typ : Int
  name : List UInt8
  link : List UInt8
  size : Int
  mode : Int
  uid : Int
  gid : Int
  user : List UInt8
  group : List UInt8
  mw : Int
  mx : Int
  aw : Int
  ax : Int
  cw : Int
  cx : Int
  maj : Int
  mnr : Int
  xattr : Value
  recs : Value
  fmt : Int
def Hd.cells (h : Hd) : List Value := [.int .u8 h.typ, str h.name, str h.link, .int .i64 h.size, .int .i64 h.mode, .int .i64 h.uid, .int .i64 h.gid, str h.user, str h.group, .int .u64 h.mw, .int .i64 h.mx, .int .u64 h.aw, .int .i64 h.ax, .int .u64 h.cw, .int .i64 h.cx, .int .i64 h.maj, .int .i64 h.mnr, h.xattr, h.recs, .int .i64 h.fmt]
def cutLen (l : List UInt8) : Nat := if 156 < l.length then 156 else if l[l.length - 1]? = some 47 then l.length - 1 else l.length
def cutAt (l : List UInt8) : Int := Lib.lastIndex (l.take (cutLen l)) [47]
def splitB (l : List UInt8) : Bool := decide (100 < l.length) && asciiB l && decide (0 < cutAt l ∧ (l.length : Int) - cutAt l - 1 ≤ 100 ∧ (l.length : Int) - cutAt l - 1 ≠ 0 ∧ cutAt l ≤ 155)
def SplitOut (l : List UInt8) (w : World) (e : Ending) (w' : World) : Prop :=
  e = .returned (if splitB l then .tuple #[str (l.take (cutAt l).toNat), str (l.drop ((cutAt l).toNat + 1)), .bool true] else .tuple #[str [], str [], .bool false]) ∧ Below w.heap.size w w'
theorem idx_str (l : List UInt8) (k : Nat) (h : k < l.length) (wx : World) : (Instr.index 9 (str l) (.int .i64 k)).run Tryz.prog wx = .ok (.int .u8 l[k].toNat) wx := by
  rw [run_index_string (P := Tryz.prog) (w := wx) 9 ⟨l.toArray⟩ .i64 k Tryz.underlying9,dif_pos ⟨by omega,by rw [str_size]; omega⟩]
  rfl
theorem specNUL (l : List UInt8) (w : World) (hl : l.length < 4611686018427387904) : Calls Tryz.prog 82 #[str l] w (RetSame w (.bool (decide (0 ∈ l)))) := by
  go_enter Tryz.func82,Tryz.ntmps82
  go_wp2_with fail
  go_loop [6] (fun i => ∃ k : Nat,k ≤ l.length ∧ (∀ j,j < k → l[j]? ≠ some 0) ∧ i = .int .i64 k) (fun i => l.length - (intOf i).toNat)
  case atStart => exact ⟨0,Nat.zero_le _,fun j h => by omega,rfl⟩
  case round =>
    obtain ⟨k,hk,hb,rfl⟩ := hrel
    by_cases hlt : k < l.length
    · have hlt' : (k : Int) < l.length := by omega
      have hx := idx_str l k hlt
      have h0 := Lib.hid hb
      clear hb
      by_cases hc : l[k] = 0
      · rw [hc] at hx
        go_wp2_with fail
        go_ret
        exact ⟨by rw [decide_eq_true (hc ▸ List.getElem_mem hlt)]; rfl,rfl⟩
      · have hc2 : l[k].toNat ≠ 0 := fun e => hc (UInt8.toNat_inj.1 e)
        have HC := Lib.hid (show l[k]? ≠ some 0 by rw [List.getElem?_eq_getElem hlt]; simpa using hc)
        generalize l[k] = c at *
        go_wp2_with fail
        go_round
        case rel => exact ⟨k + 1,by omega,fun j hj => if h : j = k then h ▸ HC.out else h0.out j (by omega),by go_num⟩
        case measure => simp [intOf]; omega
    · have hlt' : ¬ (k : Int) < l.length := by omega
      have h0 := Lib.hid hb
      clear hb
      go_wp2_with fail
      go_ret
      refine ⟨?_,rfl⟩
      rw [decide_eq_false (fun hm => by
        obtain ⟨j,hj,e⟩ := List.getElem_of_mem hm
        exact h0.out j (by omega) (by rw [List.getElem?_eq_getElem hj,e]))]; rfl
theorem specASCII (l : List UInt8) (w : World) (hl : l.length < 4611686018427387904) : Calls Tryz.prog 83 #[str l] w (RetSame w (.bool (asciiB l))) := by
  go_enter Tryz.func83,Tryz.ntmps83
  go_wp2_with fail
  go_loop [6] (fun i => ∃ k : Nat,k ≤ l.length ∧ (∀ j x,j < k → l[j]? = some x → ascB x = true) ∧ i = .int .i64 k) (fun i => l.length - (intOf i).toNat)
  case atStart => exact ⟨0,Nat.zero_le _,fun j x h => by omega,rfl⟩
  case round =>
    obtain ⟨k,hk,hb,rfl⟩ := hrel
    by_cases hlt : k < l.length
    · have hlt' : (k : Int) < l.length := by omega
      have hx := idx_str l k hlt
      have h0 := Lib.hid hb
      have HK := Lib.hid (List.getElem?_eq_getElem hlt)
      have hbad : ascB l[k] = false → asciiB l = false := fun e => by
        rw [Bool.eq_false_iff]
        intro h
        have := (asciiB_iff l).1 h k l[k] (List.getElem?_eq_getElem hlt)
        rw [e] at this; cases this
      have HB := Lib.hid hbad
      clear hb hbad
      generalize l[k] = c at *
      by_cases h1 : 128 ≤ c.toNat
      · have h2 : (128 : Int) ≤ c.toNat := by omega
        go_wp2_with fail
        go_ret
        exact ⟨by rw [HB.out (by simp [ascB]; omega)]; rfl,rfl⟩
      · have h2 : ¬ (128 : Int) ≤ c.toNat := by omega
        by_cases hc : c = 0
        · subst hc
          go_wp2_with fail
          go_ret
          exact ⟨by rw [HB.out (by decide)]; rfl,rfl⟩
        · have hc2 : c.toNat ≠ 0 := fun e => hc (UInt8.toNat_inj.1 e)
          have HC := Lib.hid (show ascB c = true by simp [ascB]; omega)
          go_wp2_with fail
          go_round
          case rel => exact ⟨k + 1,by omega,fun j x hj hy => if h : j = k then by rw [h,HK.out] at hy; cases hy; exact HC.out else h0.out j x (by omega) hy,by go_num⟩
          case measure => simp [intOf]; omega
    · have hlt' : ¬ (k : Int) < l.length := by omega
      have h0 := Lib.hid hb
      clear hb
      go_wp2_with fail
      go_ret
      refine ⟨?_,rfl⟩
      rw [(asciiB_iff l).2 (fun j x hx => h0.out j x (by have := (List.getElem?_eq_some_iff.1 hx).1; omega) hx)]; rfl
def whenV (b : Bool) : Int := if b then 1 else 2
theorem specWhen (b : Bool) (w : World) : Calls Tryz.prog 55 #[.bool b] w (RetSame w (.int .i64 (whenV b))) := by
  cases b
  all_goals
    go_enter Tryz.func55,Tryz.ntmps55
    go_wp2_with fail
    go_ret
    exact ⟨rfl,rfl⟩
def hasDataB (t : Int) : Bool := decide (t < 49) || decide (54 < t)
theorem specHasData (t : Int) (w : World) : Calls Tryz.prog 44 #[.int .u8 t] w (RetSame w (.bool (hasDataB t))) := by
  by_cases h1 : t < 49 <;> by_cases h2 : 54 < t
  all_goals
    go_enter Tryz.func44,Tryz.ntmps44
    go_wp2_with fail
    go_ret
    exact ⟨by simp [hasDataB,h1,h2],rfl⟩
def BFalse (p : Prop) (w : World) (e : Ending) (w' : World) : Prop := ∃ b,e = .returned (.bool b) ∧ Below w.heap.size w w' ∧ (b = false → p)
def BTrue (p : Prop) (w : World) (e : Ending) (w' : World) : Prop := ∃ b,e = .returned (.bool b) ∧ Below w.heap.size w w' ∧ (b = true → p)
def VRight (p : Prop) (w : World) (e : Ending) (w' : World) : Prop := ∃ v,e = .returned (.int .i64 v) ∧ Below w.heap.size w w' ∧ (v = 0 ∨ v = 1 ∨ v = 2) ∧ (v = 1 → p)
theorem whenV_in (b : Bool) : whenV b = 0 ∨ whenV b = 1 ∨ whenV b = 2 := by cases b <;> decide
def OddOk (s n : Int) : Prop := 0 ≤ n ∧ n ≤ 999999999 ∧ (s = -62135596800 → n ≠ 0)
theorem specOdd (s n : Int) (w : World) : Calls Tryz.prog 52 #[.agg #[.int .i64 s,.int .i64 n]] w (BFalse (OddOk s n) w) := by
  have a1 := heap_alloc_new w (.cells #[.int .i64 s,.int .i64 n] 28)
  have c0 : (w.alloc (.cells #[.int .i64 s,.int .i64 n] 28)).cell? ⟨w.heap.size,0,none⟩ = some (.int .i64 s) := by rw [Lib.cell_of_heap a1]; rfl
  have c1 : (w.alloc (.cells #[.int .i64 s,.int .i64 n] 28)).cell? ⟨w.heap.size,1,none⟩ = some (.int .i64 n) := by rw [Lib.cell_of_heap a1]; rfl
  have hb := Lib.hid (fun o => (Below.refl w.heap.size w).alloc (Nat.le_refl _) o)
  clear a1
  by_cases h1 : s = -62135596800 <;> by_cases h2 : n = 0 <;> by_cases h3 : n < 0 <;> by_cases h4 : 999999999 < n
  all_goals first | (exfalso; omega) | skip
  all_goals
    go_enter Tryz.func52,Tryz.ntmps52
    go_wp2_with fail
    go_ret
    refine ⟨_,rfl,hb.out _,fun h => ?_⟩
    first | (refine absurd h ?_; simp; done) | (unfold OddOk; refine ⟨?_,?_,fun h => ?_⟩ <;> omega)
def SmallOk (n f : Int) (p : Bool) : Prop := 0 ≤ n ∧ (f = 3 → n < 72057594037927936) ∧ (f ≠ 3 → (f = 2 ∧ p = true) ∨ n < 2097152)
def MomentOk (s n f : Int) : Prop := -100000000000000000 ≤ s ∧ s ≤ 100000000000000000 ∧ (f ≠ 2 → n = 0)
theorem specSmall (n f : Int) (p : Bool) (w : World) : Calls Tryz.prog 59 #[.int .i64 n,.int .i64 f,.bool p] w (VRight (SmallOk n f p) w) := by
  by_cases h3 : f = 3
  · subst h3
    by_cases h1 : n < 0 <;> by_cases h2 : 72057594037927936 ≤ n <;> by_cases h4 : n < 144115188075855872 <;> by_cases h5 : n < 72057594037927936
    all_goals first | (exfalso; omega) | skip
    all_goals
      go_enter Tryz.func59,Tryz.ntmps59
      go_wp2_with (go_at_call 55; refine (specWhen _ _).mono ?_; rintro e w' ⟨rfl,rfl⟩)
      go_ret
      refine ⟨_,rfl,Below.refl _ _,by first | decide | exact whenV_in _,fun h => ?_⟩
      first | (refine absurd h ?_; simp [whenV]; done) | (unfold SmallOk; refine ⟨?_,fun _ => ?_,fun h => absurd rfl h⟩ <;> omega)
  · have e3 : (f == 3) = false := by simpa using h3
    by_cases h2 : f = 2
    · subst h2
      cases p <;> by_cases h1 : n < 0 <;> by_cases h4 : 0 ≤ n <;> by_cases h5 : n < 2097152
      all_goals first | (exfalso; omega) | skip
      all_goals
        go_enter Tryz.func59,Tryz.ntmps59
        go_wp2_with (go_at_call 55; refine (specWhen _ _).mono ?_; rintro e w' ⟨rfl,rfl⟩)
        go_ret
        refine ⟨_,rfl,Below.refl _ _,by first | decide | exact whenV_in _,fun h => ?_⟩
        first | (refine absurd h ?_; simp [whenV]; done) | (unfold SmallOk; refine ⟨?_,fun h => ?_,fun _ => .inl ⟨rfl,?_⟩⟩ <;> first | omega | rfl) | (unfold SmallOk; refine ⟨?_,fun h => ?_,fun _ => .inr ?_⟩ <;> omega)
    · have e2 : (f == 2) = false := by simpa using h2
      by_cases h4 : 0 ≤ n <;> by_cases h5 : n < 2097152
      all_goals first | (exfalso; omega) | skip
      all_goals
        go_enter Tryz.func59,Tryz.ntmps59
        go_wp2_with (go_at_call 55; refine (specWhen _ _).mono ?_; rintro e w' ⟨rfl,rfl⟩)
        go_ret
        refine ⟨_,rfl,Below.refl _ _,by first | decide | exact whenV_in _,fun h => ?_⟩
        first | (refine absurd h ?_; simp [whenV]; done) | (unfold SmallOk; refine ⟨?_,fun h => ?_,fun _ => .inr ?_⟩ <;> omega)
theorem specMoment (s n f : Int) (w : World) : Calls Tryz.prog 60 #[.agg #[.int .i64 s,.int .i64 n],.int .i64 f] w (VRight (MomentOk s n f) w) := by
  have a1 := heap_alloc_new w (.cells #[.int .i64 s,.int .i64 n] 28)
  have c0 : (w.alloc (.cells #[.int .i64 s,.int .i64 n] 28)).cell? ⟨w.heap.size,0,none⟩ = some (.int .i64 s) := by rw [Lib.cell_of_heap a1]; rfl
  have c1 : (w.alloc (.cells #[.int .i64 s,.int .i64 n] 28)).cell? ⟨w.heap.size,1,none⟩ = some (.int .i64 n) := by rw [Lib.cell_of_heap a1]; rfl
  have hb := Lib.hid (fun o => (Below.refl w.heap.size w).alloc (Nat.le_refl _) o)
  clear a1
  by_cases h1 : 100000000000000000 < s <;> by_cases h2 : s < -100000000000000000 <;> by_cases h3 : f = 2 <;> by_cases h4 : n = 0
  all_goals first | (exfalso; omega) | skip
  all_goals
    go_enter Tryz.func60,Tryz.ntmps60
    go_wp2_with fail
    all_goals go_ret
    all_goals refine ⟨_,rfl,hb.out _,by decide,fun h => ?_⟩
    all_goals first | (refine absurd h ?_; simp; done) | (exfalso; simp_all; done) | (unfold MomentOk; refine ⟨?_,?_,fun h => ?_⟩ <;> omega)
def slashB (l : List UInt8) : Bool := l.getLast? == some 47
theorem specSlashed (l : List UInt8) (w : World) (hl : l.length < 4611686018427387904) : Calls Tryz.prog 53 #[str l] w (RetSame w (.bool (slashB l))) := by
  cases hn : l with
  | nil =>
    go_enter Tryz.func53,Tryz.ntmps53
    go_wp2_with fail
    go_ret
    exact ⟨rfl,rfl⟩
  | cons c r =>
    rw [← hn]
    have hp : 0 < l.length := by rw [hn]; simp
    have hx := idx_str l (l.length - 1) (by omega)
    have hs : slashB l = (l[l.length - 1].toNat == 47) := by
      rw [slashB,List.getLast?_eq_getElem?,List.getElem?_eq_getElem (by omega)]
      rw [Bool.eq_iff_iff]
      simp only [beq_iff_eq,Option.some.injEq]
      exact ⟨fun e => by rw [e]; rfl,fun e => UInt8.toNat_inj.1 e⟩
    have hw : IntKind.i64.wrap ((l.length : Int) - 1) = ((l.length - 1 : Nat) : Int) := by rw [IntWalk.i64_in _ (by omega)]; omega
    have hne : l.isEmpty = false := by rw [hn]; rfl
    have HN := Lib.hid hn
    rw [hs]
    clear hs hn
    generalize l[l.length - 1] = x at *
    by_cases h47 : x.toNat = 47
    · have e47 : (x.toNat == 47) = true := by simp [h47]
      rw [e47]
      go_enter Tryz.func53,Tryz.ntmps53
      go_wp2_with fail
      go_ret
      exact ⟨rfl,rfl⟩
    · have e47 : (x.toNat == 47) = false := by simp [h47]
      have h48 : ¬ (x.toNat : Int) = 47 := by omega
      rw [e47]
      go_enter Tryz.func53,Tryz.ntmps53
      go_wp2_with fail
      go_ret
      exact ⟨by show Ending.returned (.bool ((x.toNat : Int) == 47)) = _; rw [show ((x.toNat : Int) == 47) = false by simpa using h48],rfl⟩
end Go.Proofs.YtkanmkcojlefbaaGreatDoor
