/-
  Part of the proof; holds the texts HeadEnd, Oct8.
-/
import Derived.Test.YtkanmkcojlefbaaGreatDoorM03
import Derived.Test.YtkanmkcojlefbaaGreatDoorM00
import Derived.Laws.IdiomStrings
import Derived.Test.YtkanmkcojlefbaaGreatDoorM02
set_option maxRecDepth 100000
set_option linter.unusedSimpArgs false
set_option linter.unusedVariables false
namespace Go.Proofs.YtkanmkcojlefbaaGreatDoor
open Go.RowKit
theorem convBytes (w : World) (g o c : Nat) (l : List UInt8) (h : At w g o (Lib.byteCells l)) : (convert 35 9 (.slice (some ⟨g,o,none⟩) l.length c)).run Tryz.prog w = .ok (.string ⟨l.toArray⟩) w :=
  run_convert_bytes_back w 35 9 5 ⟨g,o,none⟩ c l Tryz.underlying35 Tryz.underlying5 Tryz.underlying9 (fun j hj => h.src j _ (by simp [Lib.byteCells,hj]))
theorem bytesEqual (w : World) (g1 o1 n1 c1 g2 o2 n2 c2 : Nat) (xs ys : List UInt8) (h1 : At w g1 o1 (Lib.byteCells xs)) (h2 : At w g2 o2 (Lib.byteCells ys)) (e1 : xs.length = n1) (e2 : ys.length = n2) :
    Calls Tryz.prog 197 #[.slice (some ⟨g1,o1,none⟩) n1 c1,.slice (some ⟨g2,o2,none⟩) n2 c2] w fun e w' => e = .returned (.bool (xs == ys)) ∧ w = w' := by
  subst e1; subst e2
  refine (Tryz.bytes_Equal_strs _ _ _ _ w (convBytes w g1 o1 c1 xs h1) (convBytes w g2 o2 c2 ys h2)).mono ?_
  rintro e w' ⟨rfl,rfl⟩
  simp
theorem rcells_splice (rv pad curr err : Value) (blk new : List Value) (k : blk.length = 512) (k2 : new.length = 512) :
    splice (rv::pad::curr::(blk ++ [err])) 3 new = rv::pad::curr::(new ++ [err]) := by
  simp [splice,k2,k]
def TR (tr r : Nat) (pad : Int) (curr : Value) (blk : List Value) (err : Value) (w : World) : Prop :=
  w.heap[tr]? = some (.cells (rcells (.iface 84 (.pointer (some ⟨r,0,none⟩))) (.int .i64 pad) curr blk err) 152 (0,0)) ∧ blk.length = 512
theorem trCells {w : World} {tr : Nat} {rv pad curr err : Value} {blk : List Value} (hk : blk.length = 512) (hW : w.heap[tr]? = some (.cells (rcells rv pad curr blk err) 152 (0,0))) :
    w.cell? ⟨tr,0,none⟩ = some rv ∧ w.cell? ⟨tr,1,none⟩ = some pad ∧ w.cell? ⟨tr,2,none⟩ = some curr ∧ w.cell? ⟨tr,515,none⟩ = some err ∧ w.frozen? ⟨tr,1,none⟩ = false ∧ w.frozen? ⟨tr,2,none⟩ = false ∧ w.frozen? ⟨tr,515,none⟩ = false :=
  ⟨by rw [Lib.cell_of_heap hW]; exact rcells_0 ..,by rw [Lib.cell_of_heap hW]; exact rcells_1 ..,by rw [Lib.cell_of_heap hW]; exact rcells_2 ..,by rw [Lib.cell_of_heap hW]; exact rcells_err _ _ _ _ _ hk,Lib.frozen_of_heap hW 1,Lib.frozen_of_heap hW 2,Lib.frozen_of_heap hW 515⟩
def GotBlock (tr r g n c i : Nat) (pad : Int) (curr : Value) (bs : List UInt8) (err : Value) (w : World) (e : Ending) (w' : World) : Prop :=
  e = .returned (.tuple #[.int .i64 512,.nilIface]) ∧ RD r g n c (i + 512) w' ∧ TR tr r pad curr (Lib.byteCells ((bs.drop i).take 512)) err w' ∧ Fr w.heap.size [r,tr] w w'
theorem readBlock (w : World) (tr r g n c i : Nat) (pad : Int) (curr err : Value) (bs : List UInt8) (blk : List Value) (h : RD r g n c i w) (ht : TR tr r pad curr blk err w) (hi : i + 512 ≤ n) (hbig : n < 4611686018427387904) (hnc : n ≤ c)
    (hb : bs.length = n) (hsrc : At w g 0 (Lib.byteCells bs)) (hgr : g ≠ r) :
    Calls Tryz.prog 196 #[.iface 84 (.pointer (some ⟨r,0,none⟩)),.slice (some ⟨tr,3,none⟩) 512 512] w (GotBlock tr r g n c i pad curr bs err w) := by
  obtain ⟨ht,hk⟩ := ht
  have hne : tr ≠ r := by
    rintro rfl
    obtain ⟨p,hr⟩ := h
    rw [ht] at hr
    cases hr
  refine (readFull_full w r g n c i tr 3 512 512 bs _ 152 h (by omega) (by omega) (Nat.le_refl _) hbig hnc hb hsrc ht (by simp [hk]) hne hgr).mono ?_
  rintro e w' ⟨rfl,h2,h3,h4⟩
  have hl : (Lib.byteCells ((bs.drop i).take 512)).length = 512 := by rw [Lib.byteCells_length,List.length_take,List.length_drop,hb]; omega
  rw [rcells_splice _ _ _ _ _ _ hk hl] at h3
  exact ⟨rfl,h2,⟨h3,hl⟩,h4⟩
theorem TR.at {tr r : Nat} {pad : Int} {curr err : Value} {l : List UInt8} {w : World} (h : TR tr r pad curr (Lib.byteCells l) err w) : At w tr 3 (Lib.byteCells l) :=
  At.of_heap h.1 (fun j v hj => by rw [rcells_blk _ _ _ _ _ h.2 j (by have := (List.getElem?_eq_some_iff.1 hj).1; rw [h.2] at this; exact this)]; exact hj)
theorem RD.alloc {r g n c i : Nat} {w : World} (h : RD r g n c i w) (o : Obj) : RD r g n c i (w.alloc o) := by
  obtain ⟨p,hr⟩ := h
  exact ⟨p,(Below.heap_alloc w o r (lt_of_heap hr)).trans hr⟩
theorem newBlock (w : World) : At (w.alloc (.cells Tryz.zeroCells132 132)).drew w.heap.size 0 (Lib.byteCells (List.replicate 512 0)) :=
  At.of_heap (T := 132) (fz := (0,0)) (heap_alloc_new w _) (fun j v hj => by rw [Nat.zero_add]; exact blk0_get j v 512 (Nat.le_refl _) hj)
theorem At.frame {w w' : World} {g o : Nat} {cs : List Value} (h : At w g o cs) {B : Nat} {S : List Nat} (f : Fr B S w w') (hB : w.heap.size ≤ B) (hg : g ∉ S) : At w' g o cs := fun j v hj =>
  f.cell (h j v hj) hg (Nat.lt_of_lt_of_le (block_lt_of_cell (h j v hj)) hB)
theorem isPow8 (w : World) : Calls Tryz.prog 260 #[.int .i64 8] w fun e w' => e = .returned (.bool true) ∧ w = w' := by
  go_enter Tryz.func260,Tryz.ntmps260
  go_wp2
  go_ret
  exact ⟨rfl,rfl⟩
theorem tz8 (w : World) (hDB : w.cell? ⟨15,7,none⟩ = some (.int .u8 3)) : Calls Tryz.prog 289 #[.int .u64 8] w fun e w' => e = .returned (.int .i64 3) ∧ w = w' := by
  have hv : IntKind.u64.wrap (bits BinOp.and IntKind.u64 8 (IntKind.u64.wrap (-8)) * 285870213051353865) / 288230376151711744 = 7 := by kernel_rfl
  go_enter Tryz.func289,Tryz.ntmps289
  go_wp2
  go_ret
  exact ⟨rfl,rfl⟩
theorem tzs8 (w : World) (hDB : w.cell? ⟨15,7,none⟩ = some (.int .u8 3)) : Calls Tryz.prog 261 #[.int .u64 8] w fun e w' => e = .returned (.int .i64 3) ∧ w = w' := by
  have h := tz8 w hDB
  go_enter Tryz.func261,Tryz.ntmps261
  go_wp2_with fail
  refine h.mono ?_
  rintro e w1 ⟨rfl,rfl⟩
  go_wp2_with fail
  go_ret
  exact ⟨rfl,rfl⟩
def od (k : Nat) : UInt8 := UInt8.ofNat (48 + k)
def octDigits (u : Nat) : List UInt8 := if u < 8 then [od u] else octDigits (u / 8) ++ [od (u % 8)]
termination_by u
decreasing_by omega
theorem octDigits_lt {u : Nat} (h : u < 8) : octDigits u = [od u] := by rw [octDigits,if_pos h]
theorem octDigits_ge {u : Nat} (h : 8 ≤ u) : octDigits u = octDigits (u / 8) ++ [od (u % 8)] := by rw [octDigits,if_neg (by omega)]
theorem octDigits_le : ∀ (k u : Nat),u < 8 ^ (k + 1) → (octDigits u).length ≤ k + 1 := by
  intro k
  induction k with
  | zero => intro u h; rw [octDigits_lt (by omega)]; simp
  | succ k ih =>
    intro u h
    by_cases h8 : u < 8
    · rw [octDigits_lt h8]; simp
    · rw [octDigits_ge (by omega),List.length_append]
      have : u / 8 < 8 ^ (k + 1) := by rw [Nat.div_lt_iff_lt_mul (by omega),← Nat.pow_succ]; exact h
      have := ih _ this
      simp; omega
def digits36 : ByteArray := ⟨#[48,49,50,51,52,53,54,55,56,57,97,98,99,100,101,102,103,104,105,106,107,108,109,110,111,112,113,114,115,116,117,118,119,120,121,122]⟩
theorem digit36 (k : Nat) (h : k < 8) (h2 : k < digits36.size) : digits36[k]'h2 = od k := by
  match k,h with
  | 0,_ => rfl
  | 1,_ => rfl
  | 2,_ => rfl
  | 3,_ => rfl
  | 4,_ => rfl
  | 5,_ => rfl
  | 6,_ => rfl
  | 7,_ => rfl
theorem and7 (v : Nat) (h : v < 9223372036854775808) : bits .and .u64 (v : Int) 7 = ((v % 8 : Nat) : Int) := by
  rw [show (7 : Int) = ((7 : Nat) : Int) from rfl,u64_and_nat v 7 (by omega) (by omega)]
  rw [show 7 = 2 ^ 3 - 1 from rfl,Nat.and_two_pow_sub_one_eq_mod]
theorem zero336 : Tryz.zeroCells336 = ([] ++ Lib.byteCells (List.replicate 65 0) ++ []).toArray := by kernel_rfl
theorem octDigits_pos (u : Nat) : 1 ≤ (octDigits u).length := by rw [octDigits]; split <;> simp
theorem digitI (z : Int) (k : Nat) (hz : z.toNat = k) (hk : k < 8) (h2 : z.toNat < (⟨#[48,49,50,51,52,53,54,55,56,57,97,98,99,100,101,102,103,104,105,106,107,108,109,110,111,112,113,114,115,116,117,118,119,120,121,122]⟩ : ByteArray).size) : (⟨#[48,49,50,51,52,53,54,55,56,57,97,98,99,100,101,102,103,104,105,106,107,108,109,110,111,112,113,114,115,116,117,118,119,120,121,122]⟩ : ByteArray)[z.toNat]'h2 = od k := by subst hz; exact digit36 _ hk h2
theorem formatBits8 (u : Nat) (w : World) (hu : u < 9223372036854775808) (hDB : w.cell? ⟨15,7,none⟩ = some (.int .u8 3)) :
    Calls Tryz.prog 224 #[.slice none 0 0,.int .u64 u,.int .i64 8,.bool false,.bool false] w fun e w' => e = .returned (.tuple #[.slice none 0 0,str (octDigits u)]) ∧ Below w.heap.size w w' := by
  have hp := fun w => isPow8 w
  have hDB1 : (w.alloc (.cells (Tryz.zeroCells336) 336)).cell? ⟨15,7,none⟩ = some (.int .u8 3) := ((Below.refl w.heap.size w).alloc (Nat.le_refl _) _).cell (block_lt_of_cell hDB) |>.trans hDB
  have ht := tzs8 _ hDB1
  have hS : Seg (w.alloc (.cells (Tryz.zeroCells336) 336)) w.heap.size 336 [] (List.replicate 65 0) [] := by rw [Seg,← zero336]; exact heap_alloc_new w _
  have hbe := (Below.refl w.heap.size w).alloc (Nat.le_refl _) (.cells (Tryz.zeroCells336) 336)
  have hu21 := octDigits_le 20 u (by omega)
  go_enter Tryz.func224,Tryz.ntmps224
  go_wp2_with fail
  refine (hp _).mono ?_
  rintro e w1 ⟨rfl,rfl⟩
  go_wp2_with fail
  refine ht.mono ?_
  rintro e w1 ⟨rfl,rfl⟩
  go_wp2_with fail
  generalize w.alloc (.cells (Tryz.zeroCells336) 336) = w1 at *
  go_loopw [1,13] (fun a b wr => ∃ (v i : Nat) (acc : List UInt8),a = .int .u64 v ∧ b = .int .i64 i ∧ octDigits u = octDigits v ++ acc ∧ i + acc.length = 65 ∧ v < 9223372036854775808 ∧ Seg wr w.heap.size 336 [] (List.replicate i 0 ++ acc) [] ∧ Below w.heap.size w wr) (fun a _ _ => (intOf a).toNat)
  case atStart => exact ⟨u,65,[],rfl,rfl,by simp,rfl,hu,by simpa using hS,hbe⟩
  case round =>
    obtain ⟨v,i,acc,rfl,rfl,he,hi,hv,hs,hb⟩ := hrel
    have hv1 := octDigits_pos v
    have hl : (octDigits u).length = (octDigits v).length + acc.length := by rw [he,List.length_append]
    obtain ⟨m,rfl⟩ : ∃ m,i = m + 1 := ⟨i - 1,by omega⟩
    have hm : m < 65 := by omega
    have hx : (List.replicate (m + 1) (0 : UInt8) ++ acc)[m]? = some 0 := by rw [List.getElem?_append_left (by simp)]; simp
    have c1 := hs.cell m 0 hx
    have z1 := hs.frozen m
    simp only [List.length_nil,Nat.zero_add] at c1 z1
    have hset : ∀ d,(List.replicate (m + 1) (0 : UInt8) ++ acc).set m d = List.replicate m 0 ++ d::acc := fun d => by
      rw [List.replicate_succ',List.append_assoc,List.set_append_right _ _ (by simp)]; simp
    have h7 := and7 v hv
    have hw1 : IntKind.i64.wrap (((m + 1 : Nat) : Int) - 1) = (m : Int) := by rw [IntWalk.i64_in _ (by omega)]; omega
    have hm2 : (m : Int) < 65 := by omega
    have Hs := Lib.hid hs
    have He := Lib.hid he
    clear hs he hx hl
    by_cases h8 : 8 ≤ v
    · have h8i : (8 : Int) ≤ v := by omega
      have hd := digitI (v % 8 : Int) (v % 8) (by omega) (by omega)
      go_wp2
      go_roundw
      case rel =>
        refine ⟨v / 8,m,od (v % 8)::acc,by go_num,rfl,by rw [He.out,octDigits_ge h8,List.append_assoc]; rfl,by simp; omega,by omega,?_,hb.setCell (Nat.le_refl _) _⟩
        have h2 := Hs.out.set m (by simp; omega) (od (v % 8))
        rw [hset] at h2
        simp only [List.length_nil,Nat.zero_add] at h2
        exact h2
      case measure => simp [intOf]; omega
    · have h8i : ¬ (8 : Int) ≤ v := by omega
      have hv36 : (v : Int) < 36 := by omega
      have hd : ∀ h2 : v < (⟨#[48,49,50,51,52,53,54,55,56,57,97,98,99,100,101,102,103,104,105,106,107,108,109,110,111,112,113,114,115,116,117,118,119,120,121,122]⟩ : ByteArray).size,(⟨#[48,49,50,51,52,53,54,55,56,57,97,98,99,100,101,102,103,104,105,106,107,108,109,110,111,112,113,114,115,116,117,118,119,120,121,122]⟩ : ByteArray)[v]'h2 = od v := fun h2 => digit36 v (by omega) h2
      have hal : Tryz.prog.arrayLen 336 = 65 := by kernel_rfl
      have hm4 : (m : Int) ≤ 65 := by omega
      have hm5 : ¬ m = 65 := by omega
      have hm6 : ¬ 65 = m := by omega
      have h2 := Hs.out.set m (by simp; omega) (od v)
      rw [hset] at h2
      simp only [List.length_nil,Nat.zero_add] at h2
      have hb2 : Below w.heap.size w (wr.setCell ⟨w.heap.size,m,none⟩ (.int .u8 (od v).toNat)) := hb.setCell (Nat.le_refl _) _
      have e1 : octDigits u = od v::acc := by rw [He.out,octDigits_lt (by omega)]; rfl
      have e2 : 65 - m = (od v::acc).length := by simp; omega
      have ha : At (wr.setCell ⟨w.heap.size,m,none⟩ (.int .u8 (od v).toNat)) w.heap.size m (Lib.byteCells (od v::acc)) := by
        refine At.of_heap h2 fun j x hj => ?_
        rw [List.getElem?_toArray,List.nil_append,List.append_nil,Lib.byteCells_append,List.getElem?_append_right (by simp [Lib.byteCells_length])]
        simpa [Lib.byteCells_length] using hj
      have hcv := convBytes _ w.heap.size m (65 - m) (od v::acc) ha
      rw [← e2,← e1] at hcv
      have Hb2 := Lib.hid hb2
      clear hb2 ha h2 e1 e2 hb h7
      go_wp2
      go_ret2
      exact ⟨rfl,Hb2.out⟩
theorem formatInt8i (x : Int) (w : World) (h0 : 0 ≤ x) (hu : x < 9223372036854775808) (hDB : w.cell? ⟨15,7,none⟩ = some (.int .u8 3)) :
    Calls Tryz.prog 168 #[.int .i64 x,.int .i64 8] w fun e w' => e = .returned (str (octDigits x.toNat)) ∧ Below w.heap.size w w' := by
  obtain ⟨u,rfl⟩ : ∃ u : Nat,x = u := ⟨x.toNat,by omega⟩
  have h := formatBits8 u w (by omega) hDB
  have h1 : ¬ (u : Int) < 0 := by omega
  go_enter Tryz.func168,Tryz.ntmps168
  go_wp2_with fail
  refine h.mono ?_
  rintro e w1 ⟨rfl,hb⟩
  go_wp2_with fail
  go_ret
  exact ⟨rfl,hb⟩
theorem formatInt8 (x : Int) (w : World) (h0 : 0 ≤ x) (hu : x < 9223372036854775808) (hDB : w.cell? ⟨15,7,none⟩ = some (.int .u8 3)) :
    Calls Tryz.prog 101 #[.int .i64 x,.int .i64 8] w fun e w' => e = .returned (str (octDigits x.toNat)) ∧ Below w.heap.size w w' := by
  have h := formatInt8i x w h0 hu hDB
  go_enter Tryz.func101,Tryz.ntmps101
  go_wp2_with fail
  refine h.mono ?_
  rintro e w1 ⟨rfl,hb⟩
  go_wp2_with fail
  go_ret
  exact ⟨rfl,hb⟩
end Go.Proofs.YtkanmkcojlefbaaGreatDoor
