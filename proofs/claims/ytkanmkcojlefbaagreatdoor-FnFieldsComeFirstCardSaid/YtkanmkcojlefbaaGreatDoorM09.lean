/-
  Part of the proof; holds the texts PlainNum, PlainTime, SMap, PlainRec, Glob.
-/
import Derived.Lib.ItoaNum
import Derived.Lib.ParseIntB
import Derived.Test.YtkanmkcojlefbaaGreatDoorM01
import Derived.Maps.StringElems
import Derived.Maps.Ext
import Derived.Lib.LaidTab
import Derived.Test.YtkanmkcojlefbaaGreatDoorM00
set_option maxRecDepth 100000
set_option linter.unusedSimpArgs false
set_option linter.unusedVariables false
namespace Go.Proofs.YtkanmkcojlefbaaGreatDoor
open Go.Lib
theorem u8_of_dec (k : Nat) (h : k < 10) : (UInt8.ofNat (48 + k)).toNat = 48 + k := by
  rw [UInt8.toNat_ofNat']; omega
theorem dec_bytes (u : Nat) : ∀ c ∈ decDigits u,48 ≤ c.toNat ∧ c.toNat ≤ 57 := by
  induction u using Nat.strongRecOn with
  | _ u ih =>
    intro c hc
    rw [decDigits] at hc
    split at hc
    · rename_i h
      obtain rfl := List.mem_singleton.1 hc
      rw [u8_of_dec u h]; omega
    · rename_i h
      rcases List.mem_append.1 hc with hc | hc
      · exact ih (u / 10) (by omega) c hc
      · obtain rfl := List.mem_singleton.1 hc
        rw [u8_of_dec _ (Nat.mod_lt _ (by omega))]; omega
theorem dec_ne (u : Nat) : decDigits u ≠ [] := by
  rw [decDigits]; split <;> simp
theorem parseUintM_dec (M u : Nat) (r : List UInt8) (hM : M < 18446744073709551616) (hu : u ≤ M) : parseUintM M 0 (decDigits u ++ r) = parseUintM M u r := by
  induction u using Nat.strongRecOn generalizing r with
  | _ u ih =>
    rw [decDigits]
    split
    · rename_i h
      show parseUintM M 0 (UInt8.ofNat (48 + u)::r) = _
      rw [parseUintM,u8_of_dec u h,if_pos (by omega),if_neg (by omega),if_neg (by omega)]
      congr 1; omega
    · rename_i h
      rw [List.append_assoc,ih (u / 10) (by omega) _ (by omega)]
      show parseUintM M (u / 10) (UInt8.ofNat (48 + u % 10)::r) = _
      rw [parseUintM,u8_of_dec _ (Nat.mod_lt _ (by omega)),if_pos (by omega),if_neg (by omega),if_neg (by omega)]
      congr 1; omega
theorem parseUintB_dec (u : Nat) (hu : u < 18446744073709551616) : parseUintB 64 (decDigits u) = .ok u := by
  rw [parseUintB,if_neg (dec_ne u)]
  have := parseUintM_dec (2 ^ 64 - 1) u [] (by omega) (by omega)
  rw [List.append_nil] at this
  rw [this]; rfl
theorem parseIntB_dec (l : List UInt8) (u : Nat) (hl : parseUintB 64 l = .ok u) (hu : u < 9223372036854775808) (hd : ∀ c ∈ l,48 ≤ c.toNat ∧ c.toNat ≤ 57) : parseIntB 64 l = .ok (u : Int) := by
  cases l with
  | nil => simp [parseUintB] at hl
  | cons c r =>
    have hc := hd c (by simp)
    have h1 : ¬ (c.toNat = 43 ∨ c.toNat = 45) := by omega
    have h2 : ¬ c.toNat = 45 := by omega
    simp only [parseIntB,if_neg h1,hl]
    rw [if_neg (by intro h; have := h.2; omega),if_neg (by intro h; exact h2 h.1),if_neg h2]
theorem parseIntB_minus (r : List UInt8) (u : Nat) (h : parseUintB 64 r = .ok u) (hu : u ≤ 9223372036854775808) : parseIntB 64 (45::r) = .ok (-(u : Int)) := by
  have e : (if (45 : UInt8).toNat = 43 ∨ (45 : UInt8).toNat = 45 then r else 45::r) = r := if_pos (.inr rfl)
  unfold parseIntB
  simp only
  rw [e,h]
  simp only
  rw [if_neg (by intro hh; exact hh.1 rfl),if_neg (by intro hh; have := hh.2; omega)]
  exact congrArg NumEnd.ok (if_pos rfl)
theorem parseIntB_itoa (n : Int) (h0 : -9223372036854775808 ≤ n) (h1 : n ≤ 9223372036854775807) : parseIntB 64 (itoa n) = .ok n := by
  by_cases hn : n < 0
  · have e : itoa n = 45::decDigits n.natAbs := by rw [itoa,if_pos hn]
    rw [e,parseIntB_minus _ n.natAbs (parseUintB_dec _ (by omega)) (by omega)]
    congr 1; omega
  · have e : itoa n = decDigits n.toNat := by rw [itoa,if_neg hn]
    rw [e,parseIntB_dec _ n.toNat (parseUintB_dec _ (by omega)) (by omega) (dec_bytes _)]
    congr 1; omega
def recLen (k v : List UInt8) : Nat :=
  if k.length + v.length + 3 + nDigits (k.length + v.length + 3 + nDigits (k.length + v.length + 3)) = k.length + v.length + 3 + nDigits (k.length + v.length + 3) then k.length + v.length + 3 + nDigits (k.length + v.length + 3)
  else k.length + v.length + 3 + nDigits (k.length + v.length + 3 + nDigits (k.length + v.length + 3))
theorem nDigits_lt_pow (d : Nat) : d < 10 ^ d := by
  induction d with
  | zero => decide
  | succ d ih => rw [Nat.pow_succ]; omega
theorem pow_le_nDigits (u : Nat) (h : 1 ≤ u) : 10 ^ (nDigits u - 1) ≤ u := by
  induction u using Nat.strongRecOn with
  | _ u ih =>
    by_cases h10 : u < 10
    · rw [nDigits_small h10]; simpa using h
    · rw [nDigits_big h10,Nat.add_sub_cancel]
      have h1 := ih (u / 10) (by omega) (by omega)
      have h2 := nDigits_pos (u / 10)
      obtain ⟨m,hm⟩ : ∃ m,nDigits (u / 10) = m + 1 := ⟨_,(Nat.sub_add_cancel h2).symm⟩
      rw [hm] at h1 ⊢
      rw [Nat.add_sub_cancel] at h1
      rw [Nat.pow_succ]; omega
theorem nDigits_step (n : Nat) (h : 1 ≤ n) : nDigits (n + nDigits n) = nDigits n ∨ nDigits (n + nDigits n) = nDigits n + 1 := by
  have h1 := lt_pow_nDigits n
  have h2 := nDigits_lt_pow (nDigits n)
  have h4 := pow_le_nDigits n h
  have h5 := nDigits_pos n
  generalize hd : nDigits n = d at *
  obtain ⟨m,rfl⟩ : ∃ m,d = m + 1 := ⟨d - 1,by omega⟩
  by_cases h3 : n + (m + 1) < 10 ^ (m + 1)
  · left
    rw [Nat.add_sub_cancel] at h4
    exact nDigits_unique m _ (by omega) h3
  · right
    refine nDigits_unique (m + 1) _ (by omega) ?_
    rw [Nat.pow_succ]; omega
theorem recLen_eq (k v : List UInt8) : recLen k v = k.length + v.length + 3 + nDigits (recLen k v) := by
  unfold recLen
  generalize hn : k.length + v.length + 3 = n
  have h1 : 1 ≤ n := by omega
  split
  · rename_i h; omega
  · rename_i h
    rcases nDigits_step n h1 with h2 | h2
    · exact absurd (by rw [h2]) h
    · rw [h2]
      have q1 := lt_pow_nDigits n
      have q2 := nDigits_lt_pow (nDigits n)
      have q3 := lt_pow_nDigits (n + nDigits n)
      have q4 := pow_le_nDigits (n + nDigits n) (by omega)
      rw [h2] at q3 q4
      have q5 := nDigits_pos n
      generalize nDigits n = d at *
      have : nDigits (n + (d + 1)) = d + 1 := by
        refine nDigits_unique d _ ?_ ?_
        · rw [Nat.add_sub_cancel] at q4; omega
        · rw [Nat.pow_succ] at q3 ⊢; omega
      omega
def recB (k v : List UInt8) : List UInt8 := decDigits (recLen k v) ++ (32::(k ++ (61::(v ++ [10]))))
theorem recB_length (k v : List UInt8) : (recB k v).length = recLen k v := by
  have := recLen_eq k v
  simp [recB,decDigits_length]; omega
theorem nDigits_mono_le (u k : Nat) (h : u < 10 ^ (k + 1)) : nDigits u ≤ k + 1 := by
  induction k generalizing u with
  | zero => rw [nDigits_small (by simpa using h)]; omega
  | succ k ih =>
    by_cases h10 : u < 10
    · rw [nDigits_small h10]; omega
    · rw [nDigits_big h10]
      have := ih (u / 10) (by rw [Nat.pow_succ] at h; omega)
      omega
theorem recLen_le (k v : List UInt8) (h : k.length + v.length ≤ 4294967296) : recLen k v ≤ k.length + v.length + 14 := by
  unfold recLen
  have h1 := nDigits_mono_le (k.length + v.length + 3) 10 (by omega)
  have h2 := nDigits_mono_le (k.length + v.length + 3 + nDigits (k.length + v.length + 3)) 10 (by omega)
  split <;> omega
theorem recLen_ge (k v : List UInt8) (h : 1 ≤ k.length) : 5 ≤ recLen k v := by
  have h1 := recLen_eq k v
  have h2 := nDigits_pos (recLen k v)
  omega
def nineB (n : Nat) : List UInt8 := List.replicate (9 - (decDigits n).length) 48 ++ decDigits n
theorem nineB_length (n : Nat) (h : n < 1000000000) : (nineB n).length = 9 := by
  have h1 := nDigits_mono_le n 8 (by omega)
  simp [nineB,decDigits_length]; omega
theorem parseUintM_zeros (M z : Nat) (r : List UInt8) : parseUintM M 0 (List.replicate z 48 ++ r) = parseUintM M 0 r := by
  induction z with
  | zero => rfl
  | succ z ih =>
    rw [List.replicate_succ,List.cons_append,parseUintM,if_pos (by decide),if_neg (by decide)]
    rw [if_neg (by show ¬ M < 0 * 10 + 0; omega)]
    exact ih
theorem parseIntB_nine (n : Nat) (h : n < 1000000000) : parseIntB 64 (nineB n) = .ok (n : Int) := by
  refine parseIntB_dec _ n ?_ (by omega) ?_
  · have hl := nineB_length n h
    rw [parseUintB,if_neg (by intro e; rw [e] at hl; simp at hl),nineB,parseUintM_zeros]
    have := parseUintM_dec (2 ^ 64 - 1) n [] (by omega) (by omega)
    rw [List.append_nil] at this
    rw [this]; rfl
  · intro c hc
    rcases List.mem_append.1 hc with hc | hc
    · rw [List.eq_of_mem_replicate hc]; decide
    · exact dec_bytes n c hc
def paxTime (s n : Int) : List UInt8 :=
  if n = 0 then itoa s else if s < 0 then trimR (45::(itoa (-(s + 1)) ++ 46::nineB (1000000000 - n).toNat)) 48 else trimR (itoa s ++ 46::nineB n.toNat) 48
theorem trimR_stop (a b : List UInt8) (x c : UInt8) (h : x ≠ c) : trimR (a ++ x::b) c = a ++ x::trimR b c := by
  have e : (a ++ x::b).reverse = b.reverse ++ (x::a.reverse) := by simp
  rw [trimR,e,List.dropWhile_append]
  have e2 : List.dropWhile (· == c) (x::a.reverse) = x::a.reverse := by rw [List.dropWhile_cons_of_neg (by simp [h])]
  split
  · rename_i hh
    have : List.dropWhile (· == c) b.reverse = [] := List.isEmpty_iff.1 hh
    rw [e2,trimR,this]; simp
  · simp [trimR]
theorem dropWhile_rep (l : List UInt8) (c : UInt8) : List.replicate (l.length - (l.dropWhile (· == c)).length) c ++ l.dropWhile (· == c) = l := by
  induction l with
  | nil => rfl
  | cons x r ih =>
    by_cases h : x = c
    · subst h
      rw [List.dropWhile_cons_of_pos (by simp)]
      have hle : (r.dropWhile (· == x)).length ≤ r.length := (List.dropWhile_sublist _).length_le
      rw [show (x::r).length - (r.dropWhile (· == x)).length = (r.length - (r.dropWhile (· == x)).length) + 1 by rw [List.length_cons]; omega,List.replicate_succ,List.cons_append,ih]
    · rw [List.dropWhile_cons_of_neg (by simp [h])]; simp
theorem trimR_rep (l : List UInt8) (c : UInt8) : trimR l c ++ List.replicate (l.length - (trimR l c).length) c = l := by
  have := congrArg List.reverse (dropWhile_rep l.reverse c)
  rw [List.reverse_append,List.reverse_reverse,List.reverse_replicate,List.length_reverse] at this
  simpa [trimR] using this
theorem trimR_len (l : List UInt8) (c : UInt8) : (trimR l c).length ≤ l.length := by
  have := congrArg List.length (trimR_rep l c)
  rw [List.length_append] at this; omega
theorem trimR_mem {l : List UInt8} {c x : UInt8} (h : x ∈ trimR l c) : x ∈ l := by
  rw [← trimR_rep l c]; exact List.mem_append_left _ h
theorem nine_digits (n : Nat) : ∀ c ∈ nineB n,48 ≤ c.toNat ∧ c.toNat ≤ 57 := by
  intro c hc
  rcases List.mem_append.1 hc with hc | hc
  · rw [List.eq_of_mem_replicate hc]; decide
  · exact dec_bytes n c hc
theorem nine_trim_ne (n : Nat) (h : n < 1000000000) (h0 : n ≠ 0) : trimR (nineB n) 48 ≠ [] := by
  intro e
  have h1 := trimR_rep (nineB n) 48
  rw [e,List.nil_append] at h1
  have h2 := parseIntB_nine n h
  have h3 := parseIntB_nine 0 (by omega)
  have e0 : nineB 0 = List.replicate 9 48 := by rw [nineB,decDigits_one (by omega)]; rfl
  rw [nineB_length n h,List.length_nil] at h1
  rw [← h1,← e0,h3] at h2
  injection h2 with h2
  omega
structure TForm (l ss p : List UInt8) (x y : Int) : Prop where
  eq : l = ss ++ 46::p
  nodot : (46 : UInt8) ∉ ss
  whole : parseIntB 64 ss = .ok x
  ne : p ≠ []
  len : p.length ≤ 9
  dig : ∀ c ∈ p,48 ≤ c.toNat ∧ c.toNat ≤ 57
  part : parseIntB 64 (p ++ List.replicate (9 - p.length) 48) = .ok y
  y0 : 0 < y
  y1 : y < 1000000000
theorem itoa_nn (s : Int) (h : 0 ≤ s) : itoa s = decDigits s.toNat := by rw [itoa,if_neg (by omega)]
theorem nodot_dec (u : Nat) : (46 : UInt8) ∉ decDigits u := fun h => by
  have := (dec_bytes u _ h).1
  revert this; decide
theorem nodot_itoa (s : Int) : (46 : UInt8) ∉ itoa s := by
  rw [itoa]; split
  · rw [List.mem_cons]; rintro (h | h)
    · revert h; decide
    · exact nodot_dec _ h
  · exact nodot_dec _
theorem paxTime_part (ss : List UInt8) (n : Nat) (x : Int) (hn : n < 1000000000) (h0 : n ≠ 0) (hd : (46 : UInt8) ∉ ss) (hw : parseIntB 64 ss = .ok x) :
    TForm (trimR (ss ++ 46::nineB n) 48) ss (trimR (nineB n) 48) x n := by
  refine ⟨trimR_stop _ _ _ _ (by decide),hd,hw,nine_trim_ne n hn h0,?_,fun c hc => nine_digits n c (trimR_mem hc),?_,by omega,by omega⟩
  · have := trimR_len (nineB n) 48; rw [nineB_length n hn] at this; exact this
  · have h1 := trimR_rep (nineB n) 48
    rw [nineB_length n hn] at h1
    rw [h1]; exact parseIntB_nine n hn
theorem paxTime_pos (s n : Int) (hs0 : 0 ≤ s) (hs1 : s ≤ 9223372036854775807) (hn0 : 0 < n) (hn1 : n < 1000000000) : ∃ p,TForm (paxTime s n) (itoa s) p s n := by
  have h := paxTime_part (itoa s) n.toNat s (by omega) (by omega) (nodot_itoa s) (parseIntB_itoa s (by omega) hs1)
  rw [paxTime,if_neg (by omega),if_neg (by omega)]
  rw [show ((n.toNat : Nat) : Int) = n by omega] at h
  exact ⟨_,h⟩
theorem paxTime_neg (s n : Int) (hs0 : s < 0) (hs1 : -9223372036854775808 ≤ s) (hn0 : 0 < n) (hn1 : n < 1000000000) : ∃ p,TForm (paxTime s n) (45::itoa (-(s + 1))) p (s + 1) (1000000000 - n) := by
  have hw : parseIntB 64 (45::itoa (-(s + 1))) = .ok (s + 1) := by
    rw [itoa_nn _ (by omega),parseIntB_minus _ (-(s + 1)).toNat (parseUintB_dec _ (by omega)) (by omega)]
    congr 1; omega
  have hd : (46 : UInt8) ∉ (45::itoa (-(s + 1)) : List UInt8) := by
    rw [List.mem_cons]; rintro (h | h)
    · revert h; decide
    · exact nodot_itoa _ h
  have h := paxTime_part (45::itoa (-(s + 1))) (1000000000 - n).toNat (s + 1) (by omega) (by omega) hd hw
  rw [paxTime,if_neg (by omega),if_pos hs0]
  rw [show (((1000000000 - n).toNat : Nat) : Int) = 1000000000 - n by omega] at h
  exact ⟨_,h⟩
end Go.Proofs.YtkanmkcojlefbaaGreatDoor
namespace Go.Proofs.YtkanmkcojlefbaaGreatDoor
open Go.RowKit Go.Maps Go.WideMaps Go.ChangeMaps
theorem key9 : Keyed Tryz.prog 9 := string_keyed Tryz.underlying9
theorem keyOf9 (k : List UInt8) (h : k.length ≤ 9223372036854775807) : keyOf Tryz.prog 9 (str k) = some (.string k) := by
  have := keyOf_string_mk (P := Tryz.prog) (k := 9) Tryz.underlying9 (s := ⟨k.toArray⟩) (by rw [str_size]; unfold maxLen; omega)
  simpa using this
theorem elem9 (v : List UInt8) (h : v.length ≤ 9223372036854775807) : plainElem (H := Unit) Tryz.prog 9 (str v) = some (.lit (.string v),[]) := by
  have := plainElem_string (H := Unit) (P := Tryz.prog) (e := 9) Tryz.underlying9 (s := ⟨v.toArray⟩) (by rw [str_size]; unfold maxLen; omega)
  simpa using this
def Reads (D : DataW Unit) (m : List UInt8 → Option (List UInt8)) : Prop := ∀ k,match m k with
  | some v => has D (.string k) = true ∧ ∀ z,D.atKey (.string k) z = .lit (.string v)
  | none => has D (.string k) = false
def SMap (w : World) (b n : Nat) (m : List UInt8 → Option (List UInt8)) : Prop := ∃ D : DataW Unit,w.ownsMap Tryz.prog 9 (plainElem Tryz.prog 9) b n D ∧ Reads D m
theorem SMap.lt {w : World} {b n : Nat} {m : List UInt8 → Option (List UInt8)} (h : SMap w b n m) : b < w.heap.size := by
  obtain ⟨D,h,_⟩ := h; exact h.lt
theorem SMap.block {w w' : World} {b n : Nat} {m : List UInt8 → Option (List UInt8)} (h : SMap w b n m) (hb : w'.heap[b]? = w.heap[b]?) : SMap w' b n m := by
  obtain ⟨D,⟨es,clock,h1,h2⟩,h3⟩ := h
  exact ⟨D,⟨es,clock,hb.trans h1,h2⟩,h3⟩
theorem SMap.fr {w w' : World} {b n : Nat} {m : List UInt8 → Option (List UInt8)} (h : SMap w b n m) {B : Nat} {S : List Nat} (f : Fr B S w w') (hS : b ∉ S) : SMap w' b n m := by
  obtain ⟨D,⟨es,clock,h1,h2⟩,h3⟩ := h
  exact ⟨D,⟨es,clock,f.same h1 hS (.inr fun c fz e => by cases e),h2⟩,h3⟩
theorem SMap.below {w w' : World} {b n : Nat} {m : List UInt8 → Option (List UInt8)} (h : SMap w b n m) (f : Below w.heap.size w w') : SMap w' b n m := h.block (f.block b h.lt)
theorem SMap.mono {w : World} {b n n' : Nat} {m : List UInt8 → Option (List UInt8)} (h : SMap w b n m) (hn : n ≤ n') : SMap w b n' m := by
  obtain ⟨D,h1,h2⟩ := h; exact ⟨D,h1.mono hn,h2⟩
theorem reads_empty : Reads (.map []) (fun _ => none) := fun _ => rfl
theorem SMap.made (w : World) : SMap (w.alloc (.map #[] 0)) w.heap.size 0 (fun _ => none) := ⟨_,World.ownsMap_made ..,reads_empty⟩
def putF (m : List UInt8 → Option (List UInt8)) (k v : List UInt8) : List UInt8 → Option (List UInt8) := fun x => if x = k then some v else m x
theorem putF_same (m : List UInt8 → Option (List UInt8)) (k v : List UInt8) : putF m k v k = some v := by simp [putF]
theorem putF_other (m : List UInt8 → Option (List UInt8)) (k v x : List UInt8) (h : x ≠ k) : putF m k v x = m x := by simp [putF,h]
theorem Reads.put {D : DataW Unit} {m : List UInt8 → Option (List UInt8)} (h : Reads D m) (hm : IsMap D) (k v : List UInt8) : Reads (D.put (.string k) (.lit (.string v))) (putF m k v) := by
  intro x
  by_cases hx : x = k
  · subst hx
    rw [putF_same]
    exact ⟨has_put_same hm (show WideAt.IsKeyLit (.string x) by simp [WideAt.IsKeyLit]) _,fun z => atKey_put_same hm (show WideAt.IsKeyLit (.string x) by simp [WideAt.IsKeyLit]) _ z⟩
  · have hne : (Lit.string x) ≠ Lit.string k := fun e => hx (by injection e)
    have h0 := h x
    rw [putF_other _ _ _ _ hx]
    cases hmx : m x with
    | none => rw [hmx] at h0; simp only at h0 ⊢; rw [has_put_other hne]; exact h0
    | some u => rw [hmx] at h0; simp only at h0 ⊢; exact ⟨by rw [has_put_other hne]; exact h0.1,fun z => by rw [atKey_put_other hne]; exact h0.2 z⟩
theorem grown_fr {w w' : World} {b : Nat} (h : w.grownBy w' (some b)) (B : Nat) : Fr B [b] w w' := Fr.of_grown h [b] (fun k e => .inl (by cases e; simp))
theorem SMap.update {w : World} {b n t : Nat} {m : List UInt8 → Option (List UInt8)} (h : SMap w b n m) (ht : Tryz.prog.underlying t = some (.map 9 9)) (hn : n < 1099511627776) (k v : List UInt8) (hk : k.length ≤ 9223372036854775807) (hv : v.length ≤ 9223372036854775807) :
    ∃ w',(Instr.mapUpdate t (.map (some b)) (str k) (str v)).run Tryz.prog w = .ok () w' ∧ SMap w' b (n + 1) (putF m k v) ∧ Fr w.heap.size [b] w w' := by
  obtain ⟨D,h1,h2⟩ := h
  obtain ⟨w',hr,ho,hg⟩ := h1.update key9 ht (by unfold maxLen; omega) (keyOf9 k hk) (elem9 v hv)
  exact ⟨w',hr,⟨_,ho,h2.put h1.isMap k v⟩,grown_fr hg _⟩
theorem zero9 (w : World) : (zeroValue 9).run Tryz.prog w = .ok (str []) w := by kernel_rfl
theorem SMap.look2 {w : World} {b n t : Nat} {m : List UInt8 → Option (List UInt8)} (h : SMap w b n m) (ht : Tryz.prog.underlying t = some (.map 9 9)) (k : List UInt8) (hk : k.length ≤ 9223372036854775807) :
    (Instr.lookup t (.map (some b)) (str k) true).run Tryz.prog w = .ok (.tuple #[str ((m k).getD []),.bool (m k).isSome]) w := by
  obtain ⟨D,h1,h2⟩ := h
  obtain ⟨v,ps,hr,hv⟩ := h1.look_ok key9 ht (zero9 w) (elem9 [] (by simp)) (keyOf9 k hk)
  obtain ⟨s,rfl,hz,-⟩ := plainElem_string_inv Tryz.underlying9 hv
  have hk := h2 k
  rw [hr]
  cases hm : m k with
  | none =>
    rw [hm] at hk
    simp only at hk
    rw [atKey_of_not_has hk] at hz
    simp only [Prod.mk.injEq,DataW.lit.injEq,Lit.string.injEq] at hz
    have : s = ⟨#[]⟩ := by
      apply ByteArray.ext; apply Array.ext'; simpa using hz.1.symm
    rw [this,hk]; rfl
  | some u =>
    rw [hm] at hk
    simp only at hk
    rw [hk.2] at hz
    simp only [Prod.mk.injEq,DataW.lit.injEq,Lit.string.injEq] at hz
    have : s = ⟨u.toArray⟩ := by
      apply ByteArray.ext; apply Array.ext'; simpa using hz.1.symm
    rw [this,hk.1]; rfl
theorem SMap.look1 {w : World} {b n t : Nat} {m : List UInt8 → Option (List UInt8)} (h : SMap w b n m) (ht : Tryz.prog.underlying t = some (.map 9 9)) (k : List UInt8) (hk : k.length ≤ 9223372036854775807) :
    (Instr.lookup t (.map (some b)) (str k) false).run Tryz.prog w = .ok (str ((m k).getD [])) w := by
  obtain ⟨D,h1,h2⟩ := h
  obtain ⟨v,ps,hr,hv⟩ := h1.lookup key9 ht (zero9 w) (elem9 [] (by simp)) (keyOf9 k hk)
  obtain ⟨s,rfl,hz,-⟩ := plainElem_string_inv Tryz.underlying9 hv
  have hk := h2 k
  rw [hr]
  cases hm : m k with
  | none =>
    rw [hm] at hk
    simp only at hk
    rw [atKey_of_not_has hk] at hz
    simp only [Prod.mk.injEq,DataW.lit.injEq,Lit.string.injEq] at hz
    have : s = ⟨#[]⟩ := by
      apply ByteArray.ext; apply Array.ext'; simpa using hz.1.symm
    rw [this]; rfl
  | some u =>
    rw [hm] at hk
    simp only at hk
    rw [hk.2] at hz
    simp only [Prod.mk.injEq,DataW.lit.injEq,Lit.string.injEq] at hz
    have : s = ⟨u.toArray⟩ := by
      apply ByteArray.ext; apply Array.ext'; simpa using hz.1.symm
    rw [this]; rfl
theorem nil_look2 (w : World) (t : Nat) (ht : Tryz.prog.underlying t = some (.map 9 9)) (k : List UInt8) (hk : k.length ≤ 9223372036854775807) : (Instr.lookup t (.map none) (str k) true).run Tryz.prog w = .ok (.tuple #[str [],.bool false]) w := by
  have := Maps.look_nil (P := Tryz.prog) true key9 ht (zero9 w) (keyOf9 k hk)
  simpa using this
theorem nil_look1 (w : World) (t : Nat) (ht : Tryz.prog.underlying t = some (.map 9 9)) (k : List UInt8) (hk : k.length ≤ 9223372036854775807) : (Instr.lookup t (.map none) (str k) false).run Tryz.prog w = .ok (str []) w := by
  have := Maps.look_nil (P := Tryz.prog) false key9 ht (zero9 w) (keyOf9 k hk)
  simpa using this
end Go.Proofs.YtkanmkcojlefbaaGreatDoor
namespace Go.Proofs.YtkanmkcojlefbaaGreatDoor
open Go.Lib
abbrev KV := List UInt8 → Option (List UInt8)
theorem cut_at (a b : List UInt8) (c : UInt8) (h : c ∉ a) : (a ++ c::b).idxOf c = a.length := by
  rw [List.idxOf_append,if_neg h,List.idxOf_cons_self]; omega
theorem cut_take (a b : List UInt8) (c : UInt8) (h : c ∉ a) : (a ++ c::b).take ((a ++ c::b).idxOf c) = a := by
  rw [cut_at a b c h,List.take_left]
theorem cut_drop (a b : List UInt8) (c : UInt8) (h : c ∉ a) : (a ++ c::b).drop ((a ++ c::b).idxOf c + 1) = b := by
  rw [cut_at a b c h,← List.drop_drop,List.drop_left]; rfl
theorem mem_cut (a b : List UInt8) (c : UInt8) : c ∈ a ++ c::b := by simp
theorem nospace_dec (u : Nat) : (32 : UInt8) ∉ decDigits u := fun h => by
  have := (dec_bytes u _ h).1
  revert this; decide
def kPath : List UInt8 := [112,97,116,104]
def kLink : List UInt8 := [108,105,110,107,112,97,116,104]
def kSize : List UInt8 := [115,105,122,101]
def kUid : List UInt8 := [117,105,100]
def kGid : List UInt8 := [103,105,100]
def kUname : List UInt8 := [117,110,97,109,101]
def kGname : List UInt8 := [103,110,97,109,101]
def kMtime : List UInt8 := [109,116,105,109,101]
def kAtime : List UInt8 := [97,116,105,109,101]
def kCtime : List UInt8 := [99,116,105,109,101]
def tenKeys : List (List UInt8) := [kPath,kLink,kSize,kUid,kGid,kUname,kGname,kMtime,kAtime,kCtime]
def validRec (k v : List UInt8) : Bool := !(k == []) && !(decide ((61 : UInt8) ∈ k)) && (if k = kPath ∨ k = kLink ∨ k = kUname ∨ k = kGname then !(decide ((0 : UInt8) ∈ v)) else !(decide ((0 : UInt8) ∈ k)))
theorem validRec_parts {k v : List UInt8} (h : validRec k v = true) : k ≠ [] ∧ (61 : UInt8) ∉ k := by
  simp only [validRec,Bool.and_eq_true,Bool.not_eq_true',beq_eq_false_iff_ne,decide_eq_false_iff_not] at h
  exact ⟨h.1.1,h.1.2⟩
def recsB (L : List (List UInt8 × List UInt8)) : List UInt8 := (L.map fun p => recB p.1 p.2).flatten
theorem recsB_cons (p : List UInt8 × List UInt8) (L : List (List UInt8 × List UInt8)) : recsB (p::L) = recB p.1 p.2 ++ recsB L := rfl
theorem recsB_app (L M : List (List UInt8 × List UInt8)) : recsB (L ++ M) = recsB L ++ recsB M := by simp [recsB]
def putAll (m : KV) : List (List UInt8 × List UInt8) → KV
  | [] => m
  | p::L => putAll (putF m p.1 p.2) L
theorem putAll_app (m : KV) (L M : List (List UInt8 × List UInt8)) : putAll m (L ++ M) = putAll (putAll m L) M := by
  induction L generalizing m with
  | nil => rfl
  | cons p L ih => exact ih _
theorem putAll_eq (m : KV) (L : List (List UInt8 × List UInt8)) (h : ∀ p ∈ L,m p.1 = some p.2) : ∀ (m0 : KV) (k : List UInt8),putAll m0 L k = if k ∈ L.map (·.1) then m k else m0 k := by
  induction L with
  | nil => intro m0 k; simp [putAll]
  | cons p L ih =>
    intro m0 k
    rw [putAll,ih (fun q hq => h q (by simp [hq]))]
    by_cases hk : k ∈ L.map (·.1)
    · rw [if_pos hk,if_pos (by rw [List.map_cons]; exact List.mem_cons_of_mem _ hk)]
    · rw [if_neg hk]
      by_cases hp : k = p.1
      · subst hp; rw [putF_same,if_pos (by simp),h p (by simp)]
      · rw [putF_other _ _ _ _ hp,if_neg (by
          intro hm
          rcases List.mem_cons.1 (by simpa using hm : k ∈ p.1::L.map (·.1)) with e | e
          · exact hp e
          · exact hk e)]
theorem putAll_all (m : KV) (L : List (List UInt8 × List UInt8)) (h : ∀ p ∈ L,m p.1 = some p.2) (hk : ∀ k,m k ≠ none → k ∈ L.map (·.1)) : putAll (fun _ => none) L = m := by
  funext k
  rw [putAll_eq m L h]
  split
  · rfl
  · rename_i hn
    cases hm : m k with
    | none => rfl
    | some v => exact absurd (hk k (by rw [hm]; simp)) hn
structure Pax where
  path : Option (List UInt8)
  link : Option (List UInt8)
  uname : Option (List UInt8)
  gname : Option (List UInt8)
  uid : Option Int
  gid : Option Int
  size : Option Int
  mtime : Option (Int × Int)
  atime : Option (Int × Int)
  ctime : Option (Int × Int)
def tIn (t : Int × Int) : Prop := 0 ≤ t.1 ∧ t.1 < 1000000000 ∧ -100000000000000000 ≤ t.2 ∧ t.2 ≤ 100000000000000000
def nIn (n : Int) : Prop := -9223372036854775808 ≤ n ∧ n ≤ 9223372036854775807
structure PaxOf (m : KV) (P : Pax) : Prop where
  path : m kPath = P.path
  link : m kLink = P.link
  uname : m kUname = P.uname
  gname : m kGname = P.gname
  uid : m kUid = P.uid.map itoa
  gid : m kGid = P.gid.map itoa
  size : m kSize = P.size.map itoa
  mtime : m kMtime = P.mtime.map fun t => paxTime t.2 t.1
  atime : m kAtime = P.atime.map fun t => paxTime t.2 t.1
  ctime : m kCtime = P.ctime.map fun t => paxTime t.2 t.1
  uidIn : ∀ n ∈ P.uid,nIn n
  gidIn : ∀ n ∈ P.gid,nIn n
  sizeIn : ∀ n ∈ P.size,nIn n
  mtimeIn : ∀ t ∈ P.mtime,tIn t
  atimeIn : ∀ t ∈ P.atime,tIn t
  ctimeIn : ∀ t ∈ P.ctime,tIn t
end Go.Proofs.YtkanmkcojlefbaaGreatDoor
namespace Go.Proofs.YtkanmkcojlefbaaGreatDoor
open Go.RowKit Go.Maps
def KeySet (w : World) (mb : Nat) : Prop := ∃ (D : DataW Unit) (n : Nat), w.ownsMap Tryz.prog 9 (plainElem Tryz.prog 4) mb n D ∧ ∀ k, D.atKey (.string k) (.lit (.bool false)) = .lit (.bool (decide (k ∈ tenKeys)))
structure Gl (G0 : Nat) (E : Nat → Addr) (w : World) : Prop where
  le : G0 ≤ w.heap.size
  g19 : 19 ≤ G0
  err : ∀ i, i < 7 → w.cell? ⟨i, 0, none⟩ = some (errV (E i))
  db : w.cell? ⟨15, 7, none⟩ = some (.int .u8 3)
  pow : Lib.TabIs Tryz.prog w "internal/strconv.uint64pow10" .u64 Lib.pow10Tab
  keys : ∃ mb, mb < G0 ∧ w.cell? ⟨7, 0, none⟩ = some (.map (some mb)) ∧ KeySet w mb
theorem glob10 : Tryz.prog.globalNamed "internal/strconv.uint64pow10" = some 10 := by kernel_rfl
theorem Gl.same {G0 : Nat} {E : Nat → Addr} {w w' : World} (h : Gl G0 E w) (hle : w.heap.size ≤ w'.heap.size) (hb : ∀ k, k < G0 → w'.heap[k]? = w.heap[k]?) : Gl G0 E w' := by
  have hc : ∀ k o, k < G0 → w'.cell? ⟨k, o, none⟩ = w.cell? ⟨k, o, none⟩ := fun k o hk => World.cell?_of_block (w := w) (a := ⟨k, o, none⟩) (hb k hk)
  have g := h.g19
  refine ⟨Nat.le_trans h.le hle, g, fun i hi => by rw [hc i 0 (by omega)]; exact h.err i hi, by rw [hc 15 7 (by omega)]; exact h.db, ?_, ?_⟩
  · have := h.pow
    unfold Lib.TabIs World.var? at this ⊢
    simp only [glob10, Option.bind_some] at this ⊢
    rw [hb 10 (by omega)]; exact this
  · obtain ⟨mb, hm, h1, D, n, ⟨es, clock, h2, h3⟩, h4⟩ := h.keys
    exact ⟨mb, hm, by rw [hc 7 0 (by omega)]; exact h1, D, n, ⟨es, clock, (hb mb hm).trans h2, h3⟩, h4⟩
theorem Gl.fr {G0 : Nat} {E : Nat → Addr} {w w' : World} (h : Gl G0 E w) {B : Nat} {S : List Nat} (f : Fr B S w w') (hB : G0 ≤ B) (hS : ∀ k ∈ S, G0 ≤ k) : Gl G0 E w' :=
  h.same f.size fun k hk => by
    obtain ⟨o, ho⟩ : ∃ o, w.heap[k]? = some o := ⟨_, Array.getElem?_eq_getElem (by have := h.le; omega)⟩
    rw [ho]
    exact f.same ho (fun hm => by have := hS k hm; omega) (.inl (by omega))
theorem Gl.below {G0 : Nat} {E : Nat → Addr} {w w' : World} (h : Gl G0 E w) (f : Below w.heap.size w w') : Gl G0 E w' :=
  h.same f.size fun k hk => f.block k (by have := h.le; omega)
theorem Gl.alloc {G0 : Nat} {E : Nat → Addr} {w : World} (h : Gl G0 E w) (o : Obj) : Gl G0 E (w.alloc o) := h.below ((Below.refl _ w).alloc (Nat.le_refl _) _)
theorem Gl.drew {G0 : Nat} {E : Nat → Addr} {w : World} (h : Gl G0 E w) : Gl G0 E w.drew := h.same (Nat.le_refl _) fun _ _ => rfl
theorem Gl.set {G0 : Nat} {E : Nat → Addr} {w : World} (h : Gl G0 E w) (p : Addr) (hp : G0 ≤ p.block) (v : Value) : Gl G0 E (w.setCell p v) :=
  h.fr (B := G0) (S := [p.block]) ((Fr.refl _ _ w).setCell (.inl (by simp)) v) (Nat.le_refl _) (by simpa using hp)
end Go.Proofs.YtkanmkcojlefbaaGreatDoor
