/-
  Part of the proof; holds the texts SRange.
-/
import Derived.Test.YtkanmkcojlefbaaGreatDoorM09
set_option maxRecDepth 100000
set_option linter.unusedSimpArgs false
set_option linter.unusedVariables false
namespace Go.Proofs.YtkanmkcojlefbaaGreatDoor
open Go.RowKit Go.Maps Go.WideMaps Go.ChangeMaps
def SRange (w : World) (b r n : Nat) (m : List UInt8 → Option (List UInt8)) (todo : List UInt8 → Bool) (cnt : Nat) : Prop :=
  ∃ (D : DataW Unit) (left : Lit → Bool),w.ranges Tryz.prog 9 (plainElem Tryz.prog 9) b r n D left cnt ∧ Reads D m ∧ ∀ k,left (.string k) = todo k
theorem SRange.owns {w : World} {b r n : Nat} {m : List UInt8 → Option (List UInt8)} {todo : List UInt8 → Bool} {cnt : Nat} (h : SRange w b r n m todo cnt) : SMap w b n m := by
  obtain ⟨D,left,h1,h2,h3⟩ := h
  exact ⟨D,h1.owns,h2⟩
theorem SRange.left_eq {w : World} {b r n : Nat} {m : List UInt8 → Option (List UInt8)} {todo : List UInt8 → Bool} {cnt : Nat} (h : SRange w b r n m todo cnt) : w.rangeLeft b r = cnt := by
  obtain ⟨D,left,h1,h2,h3⟩ := h
  exact h1.left_eq
theorem SRange.lt {w : World} {b r n : Nat} {m : List UInt8 → Option (List UInt8)} {todo : List UInt8 → Bool} {cnt : Nat} (h : SRange w b r n m todo cnt) : r < w.heap.size := by
  obtain ⟨D,left,h1,h2,h3⟩ := h
  exact h1.lt
theorem SRange.block {w w' : World} {b r n : Nat} {m : List UInt8 → Option (List UInt8)} {todo : List UInt8 → Bool} {cnt : Nat} (h : SRange w b r n m todo cnt) (hb : w'.heap[b]? = w.heap[b]?) (hr : w'.heap[r]? = w.heap[r]?) : SRange w' b r n m todo cnt := by
  obtain ⟨D,left,⟨es,clock,since,seen,c0,x1,x2,x3,x4,x5,x6⟩,h2,h3⟩ := h
  exact ⟨D,left,⟨es,clock,since,seen,c0,hb.trans x1,x2,x3,x4,hr.trans x5,x6⟩,h2,h3⟩
theorem SRange.below {w w' : World} {b r n : Nat} {m : List UInt8 → Option (List UInt8)} {todo : List UInt8 → Bool} {cnt : Nat} (h : SRange w b r n m todo cnt) (f : Below w.heap.size w w') : SRange w' b r n m todo cnt :=
  h.block (f.block b h.owns.lt) (f.block r h.lt)
theorem str_of (s : ByteArray) : (Value.string s) = str s.data.toList := by
  show _ = Value.string ⟨s.data.toList.toArray⟩
  rw [Array.toArray_toList]
theorem keyOf9_inv {key : Value} {kl : Lit} (h : keyOf Tryz.prog 9 key = some kl) : ∃ k : List UInt8,key = str k ∧ kl = .string k ∧ k.length ≤ maxLen := by
  cases key <;> simp [keyOf,Tryz.underlying9,mapKey] at h
  rename_i s
  obtain ⟨hl,rfl⟩ := h
  exact ⟨s.data.toList,str_of s,rfl,hl⟩
theorem size_le {w : World} {b n : Nat} {D : DataW Unit} (h : w.ownsMap Tryz.prog 9 (plainElem Tryz.prog 9) b n D) : Maps.size D ≤ n := by
  obtain ⟨es,clock,h1,h2,h3,rfl⟩ := h
  rw [size_eq,length_sorted]; simpa using h3
section
variable {ops : Array Oper} {rest : List Oper} {o : Oper} {a : Act} {Q : Exit → Act → World → Prop}
theorem wpList_range_s (w : World) (hg : o.guard = none) (mo : Operand) (hop : o.op = Op.range 127 mo) (b n : Nat) (m : List UInt8 → Option (List UInt8)) (hm : a.eval mo = .map (some b)) (h : SMap w b n m)
    (hK : ∀ w' cnt,SRange w' b w.heap.size n m (fun k => (m k).isSome) cnt → cnt ≤ n → w.grownBy w' none → w'.heap.size = w.heap.size + 1 → wpList Tryz.prog ops Q rest (a.put o.dst (.pointer (some ⟨w.heap.size,0,none⟩))) w') :
    wpList Tryz.prog ops Q (o::rest) a w := by
  obtain ⟨D,h1,h2⟩ := h
  refine wpList_range_own w hg mo 127 hop 9 9 key9 Tryz.underlying127 (plainElem Tryz.prog 9) b n D hm h1 (fun w' r1 r2 r3 => hK w' (Maps.size D) ⟨D,Maps.has D,r1,h2,fun k => ?_⟩ (size_le h1) r2 r3)
  have := h2 k
  cases hmk : m k with
  | none => rw [hmk] at this; show has D _ = (m k).isSome; rw [hmk]; exact this
  | some v => rw [hmk] at this; show has D _ = (m k).isSome; rw [hmk]; exact this.1
theorem wpList_next_s (w : World) (hg : o.guard = none) (it : Operand) (hop : o.op = Op.next it false) (b r n : Nat) (m : List UInt8 → Option (List UInt8)) (todo : List UInt8 → Bool) (cnt : Nat) (hit : a.eval it = .pointer (some ⟨r,0,none⟩)) (h : SRange w b r n m todo cnt)
    (hDone : cnt = 0 → (∀ k,todo k = false) → wpList Tryz.prog ops Q rest (a.put o.dst (.tuple #[.bool false])) w)
    (hMore : ∀ (k v : List UInt8) (w' : World) (cnt' : Nat),k.length ≤ maxLen → v.length ≤ maxLen → todo k = true → m k = some v → SRange w' b r n m (fun z => todo z && !decide (z = k)) cnt' → cnt' < cnt →
      Fr w.heap.size [r] w w' → w'.heap.size = w.heap.size → (Instr.entry (.pointer (some ⟨r,0,none⟩))).run Tryz.prog w' = .ok (.tuple #[str k,str v]) w' → wpList Tryz.prog ops Q rest (a.put o.dst (.tuple #[.bool true,str k,str v])) w') :
    wpList Tryz.prog ops Q (o::rest) a w := by
  obtain ⟨D,left,h1,h2,h3⟩ := h
  refine wpList_next_ranges w hg it hop 9 key9 (plainElem Tryz.prog 9) (fun l : List UInt8 => str l) (fun l : List UInt8 => str l) (fun key kl hk => by obtain ⟨k,rfl,-,-⟩ := keyOf9_inv hk; exact ⟨k,rfl⟩)
    (fun v y hv => by obtain ⟨s,rfl,-,-⟩ := plainElem_string_inv Tryz.underlying9 hv; exact ⟨_,str_of s⟩) b r n D left cnt hit h1 (fun c0 hl => hDone c0 (fun k => by rw [← h3 k]; exact hl _)) ?_
  intro k v kl y w' cnt' hkey hlk hv hat hrg hlt hgr hsz hen
  obtain ⟨k2,hk2,rfl,hkl⟩ := keyOf9_inv hkey
  obtain rfl : k = k2 := by
    have : (⟨k.toArray⟩ : ByteArray) = ⟨k2.toArray⟩ := by injection hk2
    have := congrArg (fun b : ByteArray => b.data.toList) this
    simpa using this
  obtain ⟨s,hs,rfl,hvl⟩ := plainElem_string_inv Tryz.underlying9 hv
  have hs2 : (⟨v.toArray⟩ : ByteArray) = s := by injection hs
  subst hs2
  have hmk : m k = some v := by
    have hk := h2 k
    cases hm : m k with
    | none =>
      rw [hm] at hk
      simp only at hk
      have h5 := hat .nil
      rw [atKey_of_not_has hk] at h5
      cases h5
    | some u =>
      rw [hm] at hk
      simp only at hk
      have h5 := hat .nil
      rw [hk.2] at h5
      simp at h5
      rw [h5]
  have hz3 : ∀ z : List UInt8,(left (.string z) && !(Lit.string z).sameKey (.string k)) = (todo z && !decide (z = k)) := fun z => by
    rw [h3 z]
    refine congrArg (fun b => todo z && !b) ?_
    by_cases hz : z = k
    · subst hz; simp [Lit.sameKey]
    · simp [Lit.sameKey,hz]
  exact hMore k v w' cnt' hkl hvl (by rw [← h3 k]; exact hlk) hmk ⟨D,_,hrg,h2,hz3⟩ hlt (grown_fr hgr _) hsz hen
end
theorem SMap.len_run {w : World} {b n : Nat} {m : List UInt8 → Option (List UInt8)} (h : SMap w b n m) : ∃ c : Nat,(∀ ty,(Builtin.len_ #[127] ty #[.map (some b)]).run Tryz.prog w = .ok (.int .i64 c) w) ∧ c ≤ n ∧ (c = 0 ↔ ∀ k,m k = none) := by
  obtain ⟨D,h1,h2⟩ := h
  refine ⟨Maps.size D,fun ty => h1.len Tryz.underlying127 ty,size_le h1,?_,?_⟩
  · intro h0 k
    obtain ⟨es,rfl⟩ := h1.isMap
    have : es = [] := List.eq_nil_of_length_eq_zero h0
    subst this
    have := h2 k
    cases hm : m k with
    | none => rfl
    | some v => rw [hm] at this; exact absurd this.1 (by simp [has_eq])
  · intro hn
    obtain ⟨es,he,hap,hk⟩ := h1.entries key9
    subst he
    cases es with
    | nil => rfl
    | cons p r =>
      exfalso
      obtain ⟨es0,clock,h3,F,h4,h5⟩ := h1
      have hp : p ∈ (es0.toList.map (Go.WideElems.rg Tryz.prog 9 (plainElem Tryz.prog 9))) := by
        have h6 : (DataW.map (p::r) : DataW Unit) = _ := h5
        injection h6 with h6
        rw [← Go.mem_sorted,← h6]; simp
      obtain ⟨k,hk9⟩ := fit_keys F p hp
      obtain ⟨kk,rfl,hpe,-⟩ := keyOf9_inv hk9
      have := h2 kk
      rw [hn kk] at this
      simp only at this
      rw [has_eq,List.any_eq_false] at this
      exact this p (by simp) (by rw [hpe]; simp [Lit.sameKey])
theorem nil_len_run (w : World) (ty : TypeId) : (Builtin.len_ #[127] ty #[.map none]).run Tryz.prog w = .ok (.int .i64 0) w := Maps.len_nil Tryz.underlying127 ty
end Go.Proofs.YtkanmkcojlefbaaGreatDoor
