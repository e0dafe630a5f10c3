/-
  Part of the proof; holds the texts Par, PRec.
-/
import Derived.Test.YtkanmkcojlefbaaGreatDoorM04
import Derived.Test.YtkanmkcojlefbaaGreatDoorM05
import Derived.Test.YtkanmkcojlefbaaGreatDoorM19
import Derived.Test.YtkanmkcojlefbaaGreatDoorM02
import Derived.Lib.ConvBytes
import Derived.Lib.AtoiErrMem
import Derived.Laws.Closers25
import Derived.Laws.Closers25b
import Derived.BigCall
import Derived.BigGuard
import Derived.Test.YtkanmkcojlefbaaGreatDoorM17
import Derived.Test.YtkanmkcojlefbaaGreatDoorM09
set_option maxRecDepth 100000
set_option linter.unusedSimpArgs false
set_option linter.unusedVariables false
namespace Go.Proofs.YtkanmkcojlefbaaGreatDoor
open Go.RowKit
theorem bdn {B : Nat} {a w : World} (h : Below B a w) (n : Nat) : Below B a (w.drewN n) := ⟨h.os,h.tape,h.output,h.size,h.block⟩
def cstr (l : List UInt8) : List UInt8 := l.take (l.idxOf 0)
theorem indexByte_idx (l : List UInt8) (c : UInt8) : Lib.indexByte l c = idxI l c := by
  have hge := Lib.indexByte_ge l c
  by_cases h : Lib.indexByte l c = -1
  · rw [h,idxI_miss (Nat.le_refl _) (fun j _ => Lib.indexByte_none h j)]
  · obtain ⟨o,ho⟩ : ∃ o : Nat,Lib.indexByte l c = o := ⟨(Lib.indexByte l c).toNat,by omega⟩
    obtain ⟨h1,h2⟩ := Lib.indexByte_some ho
    rw [ho,idxI_hit h1 h2]
theorem bytesOf_back (l : List UInt8) : Lib.bytesOf (l.map fun b => (b.toNat : Int)) = l := by
  simp [Lib.bytesOf,Function.comp_def]
theorem at_cell {w : World} {g o : Nat} {l : List UInt8} (hat : At w g o (Lib.byteCells l)) (i : Nat) (hi : i < l.length) : w.cell? ⟨g,o + i,none⟩ = some (.int .u8 (l.getD i 0).toNat) := by
  refine hat i _ ?_
  simp [Lib.byteCells,hi]
theorem indexByte0 (w : World) (g o n c : Nat) (l : List UInt8) (hat : At w g o (Lib.byteCells l)) (hn : l.length = n) :
    Calls Tryz.prog 212 #[.slice (some ⟨g,o,none⟩) n c,.int .u8 0] w (RetSame w (.int .i64 (idxI l 0))) := by
  refine (Tryz.bytes_IndexByte g o n c (l.map fun b => (b.toNat : Int)) 0 w (by simpa using hn) ?_).mono ?_
  · intro i hi
    refine hat i _ ?_
    simp [Lib.byteCells,hn,hi]
  · rintro e w' ⟨rfl,rfl⟩
    refine ⟨?_,rfl⟩
    rw [bytesOf_back,indexByte_idx]; rfl
theorem parseString (w : World) (p : Value) (g o n c : Nat) (l : List UInt8) (hat : At w g o (Lib.byteCells l)) (hn : l.length = n) (hnc : n ≤ c) :
    Calls Tryz.prog 153 #[p,.slice (some ⟨g,o,none⟩) n c] w (RetSame w (str (cstr l))) := by
  have h := indexByte0 w g o n c l hat hn
  by_cases h0 : (0 : UInt8) ∈ l
  · have e : idxI l 0 = (l.idxOf 0 : Nat) := by rw [idxI,if_pos h0]
    rw [e] at h
    have hlt := List.idxOf_lt_length_iff.2 h0
    have hcv := convBytes w g o c (l.take (l.idxOf 0)) (by
      have := hat.take (l.idxOf 0)
      simpa [Lib.byteCells] using this)
    rw [List.length_take,Nat.min_eq_left (by omega)] at hcv
    unfold cstr
    generalize l.idxOf 0 = k at *
    have hk0 : (0 : Int) ≤ k := by omega
    have hkc : (k : Int) ≤ c := by omega
    clear hat h0 e
    go_enter Tryz.func153,Tryz.ntmps153
    go_wp2_with fail
    refine h.mono ?_
    rintro e w1 ⟨rfl,rfl⟩
    go_wp2_with fail
    go_ret
    exact ⟨rfl,rfl⟩
  · have e : idxI l 0 = -1 := by rw [idxI,if_neg h0]
    rw [e] at h
    have hcv := convBytes w g o c l hat
    rw [hn] at hcv
    have hcs : cstr l = l := by unfold cstr; rw [List.idxOf_eq_length h0]; exact List.take_length
    rw [hcs]
    clear hat h0 e
    go_enter Tryz.func153,Tryz.ntmps153
    go_wp2_with fail
    refine h.mono ?_
    rintro e w1 ⟨rfl,rfl⟩
    go_wp2_with fail
    go_ret
    exact ⟨rfl,rfl⟩
theorem trimRightS_field (body tail : List UInt8) (ht : ∀ b ∈ tail,b = 0 ∨ b = 32) (hb : ∀ b ∈ body,b ≠ 0 ∧ b ≠ 32) : Lib.trimRightS (body ++ tail) [32,0] = body := by
  unfold Lib.trimRightS
  rw [List.reverse_append,List.dropWhile_append_of_pos]
  · cases hr : body.reverse with
    | nil => have := List.reverse_eq_nil_iff.1 hr; rw [this]; rfl
    | cons x r =>
      have hx := hb x (by rw [← List.mem_reverse,hr]; simp)
      rw [List.dropWhile_cons_of_neg (by simp [hx.1,hx.2]),← hr,List.reverse_reverse]
  · intro b hm
    rcases ht b (List.mem_reverse.1 hm) with rfl | rfl <;> rfl
theorem trimLeftS_field (body : List UInt8) (hb : ∀ b ∈ body,b ≠ 0 ∧ b ≠ 32) : Lib.trimLeftS body [32,0] = body := by
  cases body with
  | nil => rfl
  | cons x r =>
    have hx := hb x (by simp)
    exact List.dropWhile_cons_of_neg (by simp [hx.1,hx.2])
theorem trim_field (w : World) (g o n c : Nat) (body tail : List UInt8) (hat : At w g o (Lib.byteCells (body ++ tail))) (hn : (body ++ tail).length = n) (hnc : n ≤ c) (hbig : c ≤ 9223372036854775807) (ht : ∀ b ∈ tail,b = 0 ∨ b = 32) (hb : ∀ b ∈ body,b ≠ 0 ∧ b ≠ 32) :
    Calls Tryz.prog 275 #[.slice (some ⟨g,o,none⟩) n c,.string ⟨#[32,0]⟩] w fun e w' => e = .returned (if body = [] then .slice none 0 0 else .slice (some ⟨g,o,none⟩) body.length c) ∧ Below w.heap.size w w' := by
  refine (Tryz.bytes_Trim_laid (some ⟨g,o,none⟩) n c ((body ++ tail).map fun b => (b.toNat : Int)) ⟨#[32,0]⟩ w (by simpa using hn) hnc hbig ?_ ?_ (by decide) ?_).mono ?_
  · intro hn0
    refine ⟨g,o,rfl,fun i hi => ?_⟩
    have := at_cell hat i (by omega)
    rw [this,List.getD_eq_getElem?_getD,List.getD_eq_getElem?_getD,List.getElem?_map,List.getElem?_eq_getElem (show i < (body ++ tail).length by omega)]
    rfl
  · intro x hx
    obtain ⟨b,-,rfl⟩ := List.mem_map.1 hx
    have := b.toNat_lt
    omega
  · intro j b hj
    have : b ∈ [(32 : UInt8),0] := List.mem_of_getElem? hj
    simp at this
    rcases this with rfl | rfl <;> decide
  · rintro e w' ⟨rfl,hb2⟩
    refine ⟨?_,hb2⟩
    rw [bytesOf_back]
    have e1 := trimRightS_field body tail ht hb
    have e2 : Lib.trimS (body ++ tail) [32,0] = body := by unfold Lib.trimS; rw [e1,trimLeftS_field body hb]
    show Ending.returned (Lib.leftV _ (Lib.trimRightS (body ++ tail) [32,0]).length c ((Lib.trimRightS (body ++ tail) [32,0]).length - (Lib.trimS (body ++ tail) [32,0]).length)) = _
    rw [e1,e2,Nat.sub_self]
    unfold Lib.leftV Lib.fromV
    by_cases h0 : body = []
    · subst h0; rfl
    · have : body.length ≠ 0 := fun e => h0 (List.eq_nil_of_length_eq_zero e)
      rw [if_neg (by omega),if_neg h0]
      congr 1
      split
      · rfl
      · rfl
theorem octVal_lt (l : List UInt8) : ∀ (acc : Nat),(∀ c ∈ l,48 ≤ c.toNat ∧ c.toNat ≤ 55) → octVal acc l < (acc + 1) * 8 ^ l.length := by
  induction l with
  | nil => intro acc _; show acc < (acc + 1) * 1; omega
  | cons c r ih =>
    intro acc hd
    have h1 := ih (acc * 8 + (c.toNat - 48)) (fun x hx => hd x (List.mem_cons_of_mem _ hx))
    have h2 := hd c List.mem_cons_self
    have e : octVal acc (c::r) = octVal (acc * 8 + (c.toNat - 48)) r := rfl
    rw [e,List.length_cons,Nat.pow_succ]
    refine Nat.lt_of_lt_of_le h1 ?_
    rw [Nat.mul_comm (8 ^ r.length) 8,← Nat.mul_assoc]
    exact Nat.mul_le_mul_right _ (by omega)
theorem octVal_snoc (a : List UInt8) (x : UInt8) : octVal 0 (a ++ [x]) = octVal 0 a * 8 + (x.toNat - 48) := by
  rw [octVal_app]; rfl
theorem octVal_take (l : List UInt8) (k : Nat) (hk : k < l.length) : octVal 0 (l.take (k + 1)) = octVal 0 (l.take k) * 8 + ((l.getD k 0).toNat - 48) := by
  have e : l.getD k 0 = l[k] := by rw [List.getD_eq_getElem?_getD,List.getElem?_eq_getElem hk]; rfl
  rw [List.take_succ_eq_append_getElem hk,octVal_snoc,e]
theorem octVal_take_lt (l : List UInt8) (hl : l.length ≤ 12) (hd : ∀ c ∈ l,48 ≤ c.toNat ∧ c.toNat ≤ 55) (k : Nat) : octVal 0 (l.take k) < 68719476736 := by
  have h := octVal_lt (l.take k) 0 (fun c hc => hd c (List.mem_of_mem_take hc))
  have h2 : (l.take k).length ≤ 12 := by rw [List.length_take]; omega
  have h3 : 8 ^ (l.take k).length ≤ 8 ^ 12 := Nat.pow_le_pow_right (by omega) h2
  omega
set_option maxHeartbeats 4000000 in
theorem pu8_in (l : List UInt8) (hne : l ≠ []) (hl : l.length ≤ 12) (hd : ∀ c ∈ l,48 ≤ c.toNat ∧ c.toNat ≤ 55) (w : World) :
    Calls Tryz.prog 278 #[str l,.int .i64 8,.int .i64 64] w fun e w' => e = .returned (.tuple #[.int .u64 (octVal 0 l),.nilIface]) ∧ w' = Lib.bytesWorld w 5 ⟨l.toArray⟩ := by
  have hemp : l.isEmpty = false := by cases l with
    | nil => exact absurd rfl hne
    | cons x r => rfl
  have hcv := Lib.run_convert_string_bytes (P := Tryz.prog) w 9 35 5 ⟨l.toArray⟩ (u := .string) Tryz.underlying9 Tryz.underlying35 Tryz.underlying5
  have hB : ∀ j,j < l.length → (Lib.bytesWorld w 5 ⟨l.toArray⟩).cell? ⟨w.heap.size,j,none⟩ = some (.int .u8 (l.getD j 0).toNat) := fun j hj => Lib.bytesWorld_cell w 5 ⟨l.toArray⟩ j (by rw [str_size]; exact hj)
  obtain ⟨W1,hW1⟩ : ∃ W1,W1 = Lib.bytesWorld w 5 ⟨l.toArray⟩ := ⟨_,rfl⟩
  rw [← hW1] at hcv hB ⊢
  clear hW1
  have hsz : (⟨l.toArray⟩ : ByteArray).size = l.length := str_size l
  rw [hsz] at hcv
  have hmv : IntKind.u64.wrap (IntKind.u64.wrap 18446744073709551616 - 1) = 18446744073709551615 := by
    rw [IntKind.wrap_u64,IntKind.wrap_u64]
    decide
  have HD := Lib.hid hd
  have HL := Lib.hid hl
  clear hd hne
  go_enter Tryz.func278,Tryz.ntmps278
  go_wp2_with fail
  go_loop [12,13,101] (fun vu vn vi => ∃ (k : Nat) (a : Int),vu = .bool false ∧ vn = .int .u64 a ∧ vi = .int .i64 k ∧ k ≤ l.length ∧ Hid (a = (octVal 0 (l.take k) : Int)))
    (fun _ _ vi => l.length - (intOf vi).toNat)
  case atStart => exact ⟨0,0,rfl,rfl,rfl,by omega,rfl⟩
  case round =>
    obtain ⟨k,a,rfl,rfl,rfl,hk,hh⟩ := hrel
    have ha := hh.out
    have hlt8 := octVal_take_lt l HL.out HD.out k
    have a0 : 0 ≤ a := by omega
    have a1 : a < 68719476736 := by omega
    by_cases hkn : k < l.length
    · have hkn2 : (k : Int) < l.length := by omega
      have hc := hB k hkn
      have hcd := HD.out (l.getD k 0) (by rw [List.getD_eq_getElem?_getD,List.getElem?_eq_getElem hkn]; exact List.getElem_mem hkn)
      have HN := Lib.hid (octVal_take l k hkn)
      generalize (l.getD k 0) = c at hc hcd HN
      obtain ⟨hd0,hd1⟩ := hcd
      have hE : Hid (a * 8 + ((c.toNat : Int) - 48) = ((octVal 0 (l.take (k + 1)) : Nat) : Int)) := Lib.hid (by have := HN.out; omega)
      have icut : a < 2305843009213693952 := by omega
      have hd2 : (c.toNat : Int) - 48 < 8 := by omega
      have hd3 : 0 ≤ (c.toNat : Int) - 48 := by omega
      clear hh ha hB hlt8
      go_wp2_with fail
      go_round
      case rel => exact ⟨k + 1,a * 8 + ((c.toNat : Int) - 48),rfl,by go_num,by go_num,by omega,hE⟩
      case measure => simp [intOf]; omega
    · have hkk : k = l.length := by omega
      subst hkk
      have hkn2 : ¬ ((l.length : Int) < l.length) := by omega
      clear hB
      go_wp2_with fail
      go_ret2
      exact ⟨rfl,rfl⟩
theorem pu8 (l : List UInt8) (hne : l ≠ []) (hl : l.length ≤ 12) (hd : ∀ c ∈ l,48 ≤ c.toNat ∧ c.toNat ≤ 55) (w : World) :
    Calls Tryz.prog 276 #[str l,.int .i64 8,.int .i64 64] w fun e w' => e = .returned (.tuple #[.int .u64 (octVal 0 l),.nilIface]) ∧ Below w.heap.size w w' := by
  have h := pu8_in l hne hl hd w
  go_enter Tryz.func276,Tryz.ntmps276
  go_wp2_with fail
  refine h.mono ?_
  rintro e w1 ⟨rfl,rfl⟩
  have hb := Lib.bytesWorld_below w 5 ⟨l.toArray⟩
  go_wp2_with fail
  go_ret2
  exact ⟨rfl,hb⟩
def NumO (f : List UInt8) (u : Nat) : Prop := ∃ body tail,f = body ++ tail ∧ (∀ b ∈ tail,b = 0 ∨ b = 32) ∧ (∀ c ∈ body,48 ≤ c.toNat ∧ c.toNat ≤ 55) ∧ body.length ≤ 12 ∧ octVal 0 body = u
theorem NumO.field (n u : Nat) (hn : 2 ≤ n) (hn2 : n ≤ 12) (h : u < 8 ^ (n - 1)) : NumO (octField n u) u := by
  refine ⟨octBody n u,[0],octField_body n u,by simp,octBody_bytes n u,?_,octBody_val n u⟩
  have := octField_length n u hn h
  rw [octField_body,List.length_append] at this
  simp at this; omega
theorem NumO.chk (u : Nat) (h : u < 8 ^ 6) : NumO (octField 7 u ++ [32]) u := by
  refine ⟨octBody 7 u,[0,32],by rw [octField_body]; simp,by simp,octBody_bytes 7 u,?_,octBody_val 7 u⟩
  have := octField_length 7 u (by omega) h
  rw [octField_body,List.length_append] at this
  simp at this; omega
theorem NumO.zero (n : Nat) : NumO (List.replicate n 0) 0 := ⟨[],List.replicate n 0,rfl,fun b hb => .inl (List.eq_of_mem_replicate hb),by simp,by simp,rfl⟩
theorem NumO.lt {f : List UInt8} {u : Nat} (h : NumO f u) : u < 68719476736 := by
  obtain ⟨body,tail,rfl,ht,hb,hl,rfl⟩ := h
  have := octVal_take_lt body hl hb body.length
  rwa [List.take_length] at this
theorem NumO.low {f : List UInt8} {u : Nat} (h : NumO f u) : ∀ b ∈ f,b.toNat < 128 := by
  obtain ⟨body,tail,rfl,ht,hb,hl,rfl⟩ := h
  intro b hm
  rcases List.mem_append.1 hm with hm | hm
  · have := hb b hm; omega
  · rcases ht b hm with rfl | rfl <;> decide
theorem parseOctal (w : World) (p : Value) (g o n c u : Nat) (f : List UInt8) (hf : NumO f u) (hat : At w g o (Lib.byteCells f)) (hn : f.length = n) (hnc : n ≤ c) (hbig : c ≤ 9223372036854775807) :
    Calls Tryz.prog 237 #[p,.slice (some ⟨g,o,none⟩) n c] w fun e w' => e = .returned (.int .i64 u) ∧ Below w.heap.size w w' := by
  have hu := hf.lt
  obtain ⟨body,tail,rfl,ht,hb,hl,rfl⟩ := hf
  have htr := trim_field w g o n c body tail hat hn hnc hbig ht (fun b hm => by have := hb b hm; constructor <;> rintro rfl <;> revert this <;> decide)
  by_cases h0 : body = []
  · subst h0
    rw [if_pos rfl] at htr
    clear hat
    go_enter Tryz.func237,Tryz.ntmps237
    go_wp2_with fail
    refine htr.mono ?_
    rintro e w1 ⟨rfl,hb1⟩
    go_wp2_with fail
    go_ret
    exact ⟨rfl,hb1⟩
  · rw [if_neg h0] at htr
    have hlen : ¬ ((body.length : Int) = 0) := by have := List.length_pos_iff.2 h0; omega
    have hlt : g < w.heap.size := block_lt_of_cell (at_cell hat 0 (by have := List.length_pos_iff.2 h0; simp; omega))
    have HAT := Lib.hid hat
    have HPU := Lib.hid (pu8 body h0 hl hb)
    have hcs : cstr body = body := by
      unfold cstr
      rw [List.idxOf_eq_length (fun hm => by have := hb 0 hm; revert this; decide),List.take_length]
    generalize octVal 0 body = u at *
    clear hat ht hb hl h0
    go_enter Tryz.func237,Tryz.ntmps237
    go_wp2_with fail
    refine htr.mono ?_
    rintro e w1 ⟨rfl,hb1⟩
    have hat1 : At w1 g o (Lib.byteCells body) := by
      have := (HAT.out.carry (hb1.block g hlt)).take body.length
      simpa [Lib.byteCells] using this
    have HPS := Lib.hid (parseString w1 p g o body.length c body hat1 rfl (by simp at hn; omega))
    clear hat1
    go_wp2_with fail
    refine HPS.out.mono ?_
    rintro e w2 ⟨rfl,rfl⟩
    rw [hcs]
    go_wp2_with fail
    refine (HPU.out _).mono ?_
    rintro e w3 ⟨rfl,hb3⟩
    go_wp2_with fail
    go_ret
    exact ⟨rfl,hb1.trans (hb3.mono hb1.size)⟩
end Go.Proofs.YtkanmkcojlefbaaGreatDoor
namespace Go.Proofs.YtkanmkcojlefbaaGreatDoor
open Go.RowKit Go.Lib
theorem parseInt0 (w : World) (l : List UInt8) (hl : l.length ≤ 4611686018427387904) (v : Int) (h : parseIntB 64 l = .ok v) :
    Calls Tryz.prog 208 #[str l,.int .i64 10,.int .i64 0] w fun e w' => e = .returned (.tuple #[.int .i64 v,.nilIface]) ∧ Below w.heap.size w w' := by
  refine (Tryz.strconv_ParseInt_10_at0_ok ⟨l.toArray⟩ (by rw [str_size]; omega) v (by simpa using h) w).mono ?_
  rintro e w' ⟨rfl,h | ⟨t,h⟩⟩
  · rw [h]; exact ⟨rfl,Below.refl _ _⟩
  · rw [h]; exact ⟨rfl,bytesWorld_below w 5 t⟩
theorem parseInt64 (w : World) (l : List UInt8) (hl : l.length ≤ 4611686018427387904) (v : Int) (h : parseIntB 64 l = .ok v) :
    Calls Tryz.prog 208 #[str l,.int .i64 10,.int .i64 64] w fun e w' => e = .returned (.tuple #[.int .i64 v,.nilIface]) ∧ Below w.heap.size w w' := by
  refine (Tryz.strconv_ParseInt_10_at64_ok ⟨l.toArray⟩ (by rw [str_size]; omega) v (by simpa using h) w).mono ?_
  rintro e w' ⟨rfl,h | ⟨t,h⟩⟩
  · rw [h]; exact ⟨rfl,Below.refl _ _⟩
  · rw [h]; exact ⟨rfl,bytesWorld_below w 5 t⟩
theorem results_tmp4 {fn : Func} {t u v x : Tmp} (h : fn.results = #[.tmp t,.tmp u,.tmp v,.tmp x]) (tmps : Array Value) (P : Program) (w : World) :
    (results fn tmps).run P w = .ok (.tuple #[tmps.getD t undef,tmps.getD u undef,tmps.getD v undef,tmps.getD x undef]) w := by
  simp [results,h,go_sem]
set_option maxHeartbeats 1000000 in
theorem parseRec (w : World) (k v rest : List UInt8) (hval : validRec k v = true) (hlen : (recB k v ++ rest).length ≤ 1099511627776) :
    Calls Tryz.prog 206 #[str (recB k v ++ rest)] w fun e w' => e = .returned (.tuple #[str k,str v,str rest,.nilIface]) ∧ Below w.heap.size w w' := by
  have hk1 := (validRec_parts hval).1
  have hk61 := (validRec_parts hval).2
  have hkp := List.length_pos_iff.2 hk1
  have heq : recB k v ++ rest = decDigits (recLen k v) ++ 32::(k ++ 61::(v ++ 10::rest)) := by simp [recB]
  have hns := nospace_dec (recLen k v)
  have hc := zzCut1 (recB k v ++ rest) 32 w (by omega) (by rw [heq]; exact mem_cut _ _ _)
  rw [show (recB k v ++ rest).take ((recB k v ++ rest).idxOf 32) = decDigits (recLen k v) by rw [heq]; exact cut_take _ _ _ hns,show (recB k v ++ rest).drop ((recB k v ++ rest).idxOf 32 + 1) = k ++ 61::(v ++ 10::rest) by rw [heq]; exact cut_drop _ _ _ hns] at hc
  have hN := recLen_eq k v
  have hN5 := recLen_ge k v (by omega)
  have hsl : (recB k v ++ rest).length = recLen k v + rest.length := by rw [List.length_append,recB_length]
  have hp := parseIntB_dec (decDigits (recLen k v)) (recLen k v) (parseUintB_dec _ (by omega)) (by omega) (dec_bytes _)
  have hdl : (decDigits (recLen k v)).length = nDigits (recLen k v) := decDigits_length ..
  have hPI := fun w' => parseInt0 w' (decDigits (recLen k v)) (by omega) _ hp
  have hv := fun w' => validRec_calls w' k v (by omega) (by omega) hval
  obtain ⟨m,hm⟩ : ∃ m,m = k.length + v.length + 1 := ⟨_,rfl⟩
  obtain ⟨rec,hrec⟩ : ∃ rec,rec = k ++ 61::v := ⟨_,rfl⟩
  have hcut := fun w' => zzCut1 rec 61 w' (by rw [hrec]; simp; omega) (by rw [hrec]; exact mem_cut _ _ _)
  rw [show rec.take (rec.idxOf 61) = k by rw [hrec]; exact cut_take _ _ _ hk61,show rec.drop (rec.idxOf 61 + 1) = v by rw [hrec]; exact cut_drop _ _ _ hk61] at hcut
  obtain ⟨r0,hr0⟩ : ∃ r0,r0 = k ++ 61::(v ++ 10::rest) := ⟨_,rfl⟩
  have hr0e : r0 = rec ++ ([10] ++ rest) := by rw [hr0,hrec]; simp
  have hrl : rec.length = m := by rw [hrec,hm]; simp; omega
  have hr0l : r0.length = m + 1 + rest.length := by rw [hr0e,List.length_append,hrl]; simp; omega
  have hx1 : (⟨r0.toArray⟩ : ByteArray).extract 0 m = ⟨rec.toArray⟩ := by
    rw [str_ext,List.drop_zero,Nat.sub_zero,hr0e,← hrl,List.take_left]
  have hx2 : (⟨r0.toArray⟩ : ByteArray).extract m (m + 1) = ⟨#[10]⟩ := by
    rw [str_ext,hr0e,← hrl,List.drop_left]
    simp
  have hx3 : (⟨r0.toArray⟩ : ByteArray).extract (m + 1) r0.length = ⟨rest.toArray⟩ := by
    rw [str_ext,hr0e,← hrl,← List.drop_drop,List.drop_left]
    have e : (([10] ++ rest : List UInt8).drop 1).take ((rec ++ ([10] ++ rest)).length - (rec.length + 1)) = rest := by
      rw [show ([10] ++ rest : List UInt8).drop 1 = rest from rfl]
      exact List.take_of_length_le (by rw [List.length_append,List.length_append]; simp; omega)
    rw [e]
  have hi1 : IntKind.i64.wrap ((recLen k v : Int) - ((decDigits (recLen k v)).length + 1)) = ((m + 1 : Nat) : Int) := by rw [IntWalk.i64_in _ (by omega)]; omega
  have hi2 : IntKind.i64.wrap ((m : Int) + 1 - 1) = (m : Int) := by rw [IntWalk.i64_in _ (by omega)]; omega
  have hi3 : IntKind.i64.wrap (m : Int) = (m : Int) := by rw [IntWalk.i64_in _ (by omega)]
  have hj1 : (m : Int) ≤ r0.length := by omega
  have hj2 : (m : Int) + 1 ≤ r0.length := by omega
  have hj3 : (m : Int) ≤ (m : Int) + 1 := by omega
  have hj4 : (0 : Int) < (m : Int) + 1 := by omega
  have hle : ¬ ((recB k v ++ rest).length : Int) < recLen k v := by omega
  have hge : ¬ (recLen k v : Int) < 5 := by omega
  have hdd : ((decDigits (recLen k v)).length : Int) < 100 := by have := nDigits_mono_le (recLen k v) 20 (by omega); omega
  rw [← hr0] at hc
  generalize recB k v ++ rest = s at *
  generalize decDigits (recLen k v) = ds at *
  generalize recLen k v = N at *
  clear hrec hr0 hr0e hN hN5 hsl hp hdl hk1 hk61 hkp heq hns hval hlen hrl hr0l hm
  have HC := Lib.hid hc; have HPI := Lib.hid hPI; have HV := Lib.hid hv; have HCUT := Lib.hid hcut
  clear hc hPI hv hcut
  go_enter Tryz.func206,Tryz.ntmps206
  go_wp2_with fail
  refine HC.out.mono ?_
  rintro e w1 ⟨rfl,hd1⟩
  have hb1 : Below w.heap.size w w1 := by obtain ⟨q,rfl⟩ := hd1; exact bdn (Below.refl _ w) q
  clear hd1
  go_wp2_with fail
  refine (HPI.out w1).mono ?_
  rintro e w2 ⟨rfl,hb2⟩
  have hb12 := hb1.trans (hb2.mono hb1.size)
  clear hb1 hb2
  go_wp2_with fail
  go_quiet (fail)
  go_wp2_with fail
  refine (HCUT.out _).mono ?_
  rintro e w3 ⟨rfl,hd3⟩
  have hb3 : Below w.heap.size w w3 := by obtain ⟨q,rfl⟩ := hd3; exact bdn (bdn hb12 _) q
  clear hd3 hb12
  go_wp2_with fail
  refine (HV.out _).mono ?_
  rintro e w4 ⟨rfl,rfl⟩
  go_wp2_with fail
  exact bodyPost_ret (results_tmp4 rfl _ _ _) rfl ⟨rfl,hb3⟩
end Go.Proofs.YtkanmkcojlefbaaGreatDoor
