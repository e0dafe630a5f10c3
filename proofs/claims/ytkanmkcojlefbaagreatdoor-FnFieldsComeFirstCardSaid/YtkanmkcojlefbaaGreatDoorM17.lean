/-
  Part of the proof; holds the texts Small, Allow0.
-/
import Derived.Test.YtkanmkcojlefbaaGreatDoorM10
import Derived.Test.YtkanmkcojlefbaaGreatDoorM06
import Derived.Test.YtkanmkcojlefbaaGreatDoorM05
import Derived.Test.YtkanmkcojlefbaaGreatDoorM14
import Derived.Test.YtkanmkcojlefbaaGreatDoorM15
import Derived.Test.YtkanmkcojlefbaaGreatDoorM16
import Derived.Deep.CutBlock
set_option maxRecDepth 100000
set_option linter.unusedSimpArgs false
set_option linter.unusedVariables false
namespace Go.Proofs.YtkanmkcojlefbaaGreatDoor
open Go.RowKit
theorem mayOnlyBe (w : World) (a : Nat) (u p g u2 p2 g2 : Bool) (h : w.heap[a]? = some (.cells #[.int .i64 (fm u p g)] 128 (0,0))) :
    Calls Tryz.prog 123 #[.pointer (some ⟨a,0,none⟩),.int .i64 (fm u2 p2 g2)] w (RetSame (w.setCell ⟨a,0,none⟩ (.int .i64 (fm (u && u2) (p && p2) (g && g2)))) (.tuple #[])) := by
  have c0 : w.cell? ⟨a,0,none⟩ = some (.int .i64 (fm u p g)) := by rw [Lib.cell_of_heap h]; rfl
  have z0 : w.frozen? ⟨a,0,none⟩ = false := Lib.frozen_of_heap h 0
  have e : bits .and .i64 (fm u p g) (fm u2 p2 g2) = fm (u && u2) (p && p2) (g && g2) := by
    cases u <;> cases p <;> cases g <;> cases u2 <;> cases p2 <;> cases g2 <;> kernel_rfl
  generalize fm u p g = f at *
  generalize fm (u && u2) (p && p2) (g && g2) = f3 at *
  generalize fm u2 p2 g2 = f2 at *
  clear h
  go_enter Tryz.func123,Tryz.ntmps123
  go_wp2_with fail
  go_end0
  exact ⟨rfl,rfl⟩
theorem mayBe (w : World) (a : Nat) (u p g u2 p2 g2 : Bool) (h : w.heap[a]? = some (.cells #[.int .i64 (fm u p g)] 128 (0,0))) :
    Calls Tryz.prog 127 #[.pointer (some ⟨a,0,none⟩),.int .i64 (fm u2 p2 g2)] w (RetSame (w.setCell ⟨a,0,none⟩ (.int .i64 (fm (u || u2) (p || p2) (g || g2)))) (.tuple #[])) := by
  have c0 : w.cell? ⟨a,0,none⟩ = some (.int .i64 (fm u p g)) := by rw [Lib.cell_of_heap h]; rfl
  have z0 : w.frozen? ⟨a,0,none⟩ = false := Lib.frozen_of_heap h 0
  have e : bits .or .i64 (fm u p g) (fm u2 p2 g2) = fm (u || u2) (p || p2) (g || g2) := by
    cases u <;> cases p <;> cases g <;> cases u2 <;> cases p2 <;> cases g2 <;> kernel_rfl
  generalize fm u p g = f at *
  generalize fm (u || u2) (p || p2) (g || g2) = f3 at *
  generalize fm u2 p2 g2 = f2 at *
  clear h
  go_enter Tryz.func127,Tryz.ntmps127
  go_wp2_with fail
  go_end0
  exact ⟨rfl,rfl⟩
theorem hasF (w : World) (u p g u2 p2 g2 : Bool) : Calls Tryz.prog 66 #[.int .i64 (fm u p g),.int .i64 (fm u2 p2 g2)] w (RetSame w (.bool ((u && u2) || (p && p2) || (g && g2)))) := by
  have e : (bits .and .i64 (fm u p g) (fm u2 p2 g2) != 0) = ((u && u2) || (p && p2) || (g && g2)) := by
    cases u <;> cases p <;> cases g <;> cases u2 <;> cases p2 <;> cases g2 <;> kernel_rfl
  cases hb : ((u && u2) || (p && p2) || (g && g2))
  · rw [hb] at e
    generalize fm u p g = f at *
    generalize fm u2 p2 g2 = f2 at *
    clear hb
    go_enter Tryz.func66,Tryz.ntmps66
    go_wp2
    go_ret
    exact ⟨rfl,rfl⟩
  · rw [hb] at e
    generalize fm u p g = f at *
    generalize fm u2 p2 g2 = f2 at *
    clear hb
    go_enter Tryz.func66,Tryz.ntmps66
    go_wp2
    go_ret
    exact ⟨rfl,rfl⟩
def slashEnd (l : List UInt8) : Bool := Lib.hasSuffix l [47]
theorem hasSuffix1 (w : World) (l : List UInt8) (hl : l.length ≤ 4611686018427387904) : Calls Tryz.prog 63 #[str l,str [47]] w (RetSame w (.bool (slashEnd l))) := by
  refine (Tryz.strings_HasSuffix ⟨l.toArray⟩ ⟨[47].toArray⟩ w (by rw [str_size]; omega)).mono ?_
  rintro e w' ⟨rfl,rfl⟩
  exact ⟨by simp [slashEnd],rfl⟩
theorem hasPrefix1 (w : World) (l p : List UInt8) : Calls Tryz.prog 125 #[str l,str p] w (RetSame w (.bool (Lib.hasPrefix l p))) := by
  refine (Tryz.strings_HasPrefix ⟨l.toArray⟩ ⟨p.toArray⟩ w).mono ?_
  rintro e w' ⟨rfl,rfl⟩
  exact ⟨by simp,rfl⟩
theorem validRec_calls (w : World) (k v : List UInt8) (hk : k.length ≤ 2305843009213693952) (hv : v.length ≤ 2305843009213693952) (h : validRec k v = true) : Calls Tryz.prog 126 #[str k,str v] w (RetSame w (.bool true)) := by
  have hne := (validRec_parts h).1
  have h61 := (validRec_parts h).2
  have hc := zzContains1 k 61 w (by omega)
  rw [decide_eq_false h61] at hc
  have he : k.isEmpty = false := by cases k with
    | nil => exact absurd rfl hne
    | cons a b => rfl
  have h3 : (if k = kPath ∨ k = kLink ∨ k = kUname ∨ k = kGname then !(decide ((0 : UInt8) ∈ v)) else !(decide ((0 : UInt8) ∈ k))) = true := by
    simp only [validRec,Bool.and_eq_true] at h
    exact h.2
  by_cases hk4 : k = kPath ∨ k = kLink ∨ k = kUname ∨ k = kGname
  · rw [if_pos hk4] at h3
    have hn := hasNUL_calls v w (by omega)
    rw [show decide ((0 : UInt8) ∈ v) = false by simpa using h3] at hn
    rcases hk4 with rfl | rfl | rfl | rfl <;>
    · (try unfold kPath at *); (try unfold kLink at *); (try unfold kUname at *); (try unfold kGname at *)
      clear h h3 hne h61 hk
      go_enter Tryz.func126,Tryz.ntmps126
      go_wp2_with (first | (go_at_call 166; refine hc.mono ?_; rintro e w' ⟨rfl,rfl⟩) | (go_at_call 94; refine hn.mono ?_; rintro e w' ⟨rfl,rfl⟩))
      go_ret
      exact ⟨rfl,rfl⟩
  · rw [if_neg hk4] at h3
    have hn := hasNUL_calls k w (by omega)
    rw [show decide ((0 : UInt8) ∈ k) = false by simpa using h3] at hn
    have q1 : (k == [112,97,116,104]) = false := by rw [beq_eq_false_iff_ne]; exact fun e => hk4 (.inl e)
    have q2 : (k == [108,105,110,107,112,97,116,104]) = false := by rw [beq_eq_false_iff_ne]; exact fun e => hk4 (.inr (.inl e))
    have q3 : (k == [117,110,97,109,101]) = false := by rw [beq_eq_false_iff_ne]; exact fun e => hk4 (.inr (.inr (.inl e)))
    have q4 : (k == [103,110,97,109,101]) = false := by rw [beq_eq_false_iff_ne]; exact fun e => hk4 (.inr (.inr (.inr e)))
    clear h h3 hne h61 hk hk4
    go_enter Tryz.func126,Tryz.ntmps126
    go_wp2_with (first | (go_at_call 166; refine hc.mono ?_; rintro e w' ⟨rfl,rfl⟩) | (go_at_call 94; refine hn.mono ?_; rintro e w' ⟨rfl,rfl⟩))
    go_ret
    exact ⟨rfl,rfl⟩
theorem plainElem_bool_inv {v : Value} {x : Bool} {ps : List MemPlace} (h : plainElem (H := Unit) Tryz.prog 4 v = some (.lit (.bool x),ps)) : v = .bool x := by
  have hu := Tryz.underlying4
  revert h
  generalize Tryz.prog.underlying 4 = u at *
  subst hu
  intro h
  unfold plainElem at h
  cases v <;> simp_all
open Go.Maps Go.WideMaps Go.ChangeMaps in
theorem KeySet.look {w : World} {mb : Nat} (h : KeySet w mb) (k : List UInt8) (hk : k.length ≤ maxLen) : (Instr.lookup 194 (.map (some mb)) (str k) false).run Tryz.prog w = .ok (.bool (decide (k ∈ tenKeys))) w := by
  obtain ⟨D,n,h1,h2⟩ := h
  have hz : (zeroValue 4).run Tryz.prog w = .ok (.bool false) w := by kernel_rfl
  have hkey : keyOf Tryz.prog 9 (str k) = some (.string k) := by
    have := keyOf_string_mk (P := Tryz.prog) (k := 9) Tryz.underlying9 (s := ⟨k.toArray⟩) (by rw [str_size]; exact hk)
    simpa using this
  obtain ⟨v,ps,hr,hv⟩ := h1.lookup (t := 194) key9 Tryz.underlying194 hz (plainElem_bool (H := Unit) Tryz.underlying4 false) hkey
  have e := h2 k
  generalize decide (k ∈ tenKeys) = x0 at *
  rw [e] at hv
  refine hr.trans ?_
  have hv2 := plainElem_bool_inv hv
  rw [hv2]
structure St where
  u : Bool
  p : Bool
  g : Bool
  q : Bool
  m : KV
def St.zero : St := ⟨true,true,true,false,fun _ => none⟩
def St.str (S : St) (R : KV) (s : List UInt8) (sz : Nat) (key : List UInt8) : St := ⟨strU S.u s sz key,S.p,strG S.g s sz key,S.q,strM S.m R s sz key⟩
def St.num (S : St) (R : KV) (x : Int) (n : Nat) (key : List UInt8) : St := ⟨S.u && octFits n x,S.p,S.g && b256 n x,S.q,numM S.m R x n key⟩
def St.numN (S : St) (x : Int) (n : Nat) : St := ⟨S.u && octFits n x,S.p && octFits n x,S.g && b256 n x,S.q,S.m⟩
def St.tim (S : St) (R : KV) (n x : Int) (key : List UInt8) : St := ⟨timU S.u n x key,S.p,S.g,timQ S.q n x key,timM S.m R n x key⟩
def Hd.st (H : Hd) (R : KV) : St :=
  ((((((((((((St.zero.str R H.name 100 kPath).str R H.link 100 kLink).str R H.user 32 kUname).str R H.group 32 kGname).numN H.mode 8).num R H.uid 8 kUid).num R H.gid 8 kGid).num R H.size 12 kSize).numN H.maj 8).numN H.mnr 8).tim R H.mw H.mx kMtime).tim R H.aw H.ax kAtime).tim R H.cw H.cx kCtime
def AFS (G0 : Nat) (E : Nat → Addr) (b0 : Nat) (H : Hd) (R : KV) (S : St) (n : Nat) (w : World) : Prop := AF G0 E b0 H R S.u S.p S.g S.q S.m n w
structure Hd.InT (H : Hd) : Prop extends H.In where
  aw : 0 ≤ H.aw ∧ H.aw < 1000000000
  ax : -100000000000000000 ≤ H.ax - 62135596800 ∧ H.ax - 62135596800 ≤ 100000000000000000
  cw : 0 ≤ H.cw ∧ H.cw < 1000000000
  cx : -100000000000000000 ≤ H.cx - 62135596800 ∧ H.cx - 62135596800 ≤ 100000000000000000
noncomputable def allowW (w : World) (H : Hd) : World :=
  ((((((((w.alloc (.cells H.cells.toArray 130)).alloc (.cells #[.int .i64 14] 128)).alloc (.cells #[.map (some (w.heap.size + 1 + 1 + 1))] 127)).alloc (.map #[] 0)).alloc (.cells #[.string ⟨#[]⟩] 9)).alloc (.cells #[.string ⟨#[]⟩] 9)).alloc (.cells #[.string ⟨#[]⟩] 9)).alloc (.cells #[.bool false] 4)).alloc (.cells Tryz.zeroCells132 132)
theorem allowW_heap (w : World) (H : Hd) : (allowW w H).heap = ((((((((w.heap.push (.cells H.cells.toArray 130)).push (.cells #[.int .i64 14] 128)).push (.cells #[.map (some (w.heap.size + 1 + 1 + 1))] 127)).push (.map #[] 0)).push (.cells #[.string ⟨#[]⟩] 9)).push (.cells #[.string ⟨#[]⟩] 9)).push (.cells #[.string ⟨#[]⟩] 9)).push (.cells #[.bool false] 4)).push (.cells Tryz.zeroCells132 132) := rfl
theorem allowW_below (w : World) (H : Hd) : Below w.heap.size w (allowW w H) := by
  have h : ∀ (B : Nat) (w1 : World) (o : Obj),B ≤ w1.heap.size → Below B w1 (w1.alloc o) := fun B w1 o hB => (Below.refl _ _).alloc hB o
  have s : ∀ (w1 : World) (o : Obj),(w1.alloc o).heap.size = w1.heap.size + 1 := fun w1 o => Array.size_push ..
  unfold allowW
  refine ((((((((h _ _ _ ?_).trans (h _ _ _ ?_)).trans (h _ _ _ ?_)).trans (h _ _ _ ?_)).trans (h _ _ _ ?_)).trans (h _ _ _ ?_)).trans (h _ _ _ ?_)).trans (h _ _ _ ?_)).trans (h _ _ _ ?_) <;> (try simp only [s]) <;> omega
theorem push_last {α : Type} (a : Array α) (x : α) (n : Nat) (h : n = a.size) : (a.push x)[n]? = some x := by subst h; simp
theorem push_old {α : Type} (a : Array α) (x : α) (n : Nat) (h : n < a.size) : (a.push x)[n]? = a[n]? := by
  rw [Array.getElem?_push,if_neg (by omega)]
theorem allowW_af {G0 : Nat} {E : Nat → Addr} (w : World) (H : Hd) (R : KV) (hg : Gl G0 E w) (hr : RecMap w H.recs R w.heap.size) : AFS G0 E w.heap.size H R St.zero 0 (allowW w H) := by
  have hb := allowW_below w H
  have hh := allowW_heap w H
  have hg2 := hg.below hb
  have hr2 : RecMap (allowW w H) H.recs R w.heap.size := by
    rcases hr with h | ⟨rb,n,h1,h2,h3,h4⟩
    · exact .inl h
    · exact .inr ⟨rb,n,h1,h2,h3.below hb,h4⟩
  generalize allowW w H = W at *
  have hm : SMap W (w.heap.size + 3) 0 (fun _ => none) := by
    have e : W.heap[w.heap.size + 3]? = ((((w.alloc (.cells H.cells.toArray 130)).alloc (.cells #[.int .i64 14] 128)).alloc (.cells #[.map (some (w.heap.size + 1 + 1 + 1))] 127)).alloc (.map #[] 0)).heap[w.heap.size + 3]? := by
      show _ = ((((w.heap.push (.cells H.cells.toArray 130)).push (.cells #[.int .i64 14] 128)).push (.cells #[.map (some (w.heap.size + 1 + 1 + 1))] 127)).push (.map #[] 0))[w.heap.size + 3]?
      rw [hh]
      repeat (rw [push_old _ _ _ (by simp only [Array.size_push]; omega)])
    have h0 := SMap.made (((w.alloc (.cells H.cells.toArray 130)).alloc (.cells #[.int .i64 14] 128)).alloc (.cells #[.map (some (w.heap.size + 1 + 1 + 1))] 127))
    have es : (((w.alloc (.cells H.cells.toArray 130)).alloc (.cells #[.int .i64 14] 128)).alloc (.cells #[.map (some (w.heap.size + 1 + 1 + 1))] 127)).heap.size = w.heap.size + 3 := by show (((w.heap.push _).push _).push _).size = _; simp only [Array.size_push]
    rw [es] at h0
    exact h0.block e
  refine ⟨hg2,hg.le,?_,?_,?_,hm,⟨⟨#[]⟩,?_⟩,⟨⟨#[]⟩,?_⟩,⟨⟨#[]⟩,?_⟩,?_,hr2⟩ <;> (rw [hh]; (repeat (rw [push_old _ _ _ (by simp only [Array.size_push]; omega)])); exact push_last _ _ _ (by simp only [Array.size_push]))
theorem AF.drew {G0 : Nat} {E : Nat → Addr} {b0 : Nat} {H : Hd} {R : KV} {u p g q : Bool} {m : KV} {n : Nat} {w : World} (h : AF G0 E b0 H R u p g q m n w) : AF G0 E b0 H R u p g q m n w.drew := h.below (Below.refl _ w).drew
theorem AF.hd {G0 : Nat} {E : Nat → Addr} {b0 : Nat} {H : Hd} {R : KV} {u p g q : Bool} {m : KV} {n : Nat} {w : World} (h : AF G0 E b0 H R u p g q m n w) (k : Nat) (v : Value) (hv : H.cells[k]? = some v) : w.cell? ⟨b0,k,none⟩ = some v := by
  rw [Lib.cell_of_heap h.hH,List.getElem?_toArray]; exact hv
def recM (m R : KV) (typ : Int) : KV := fun k => match m k with
  | some v => some v
  | none => if typ = 103 ∨ (k ∉ tenKeys ∧ Lib.hasPrefix k [71,78,85,46,115,112,97,114,115,101,46] = false) then R k else none
def finF (u p g q : Bool) (fmt : Int) : Bool × Bool × Bool := if fmt = 0 then (u,p,g) else if fmt = 2 then (u,false,false) else if fmt = 4 then (u && !q,p,false) else (false,false,g)
def AllowOut (G0 : Nat) (E : Nat → Addr) (f : Bool × Bool × Bool) (m : KV) (w : World) (e : Ending) (w' : World) : Prop := ∃ mb n,e = .returned (.tuple #[.int .i64 (fm f.1 f.2.1 f.2.2),.map (some mb),.nilIface]) ∧ SMap w' mb n m ∧ n ≤ 8589934592 ∧ w.heap.size ≤ mb ∧ Gl G0 E w' ∧ Below w.heap.size w w'
theorem recM_none (m R : KV) (typ : Int) (h : ∀ k,R k = none) : recM m R typ = m := by
  funext k
  unfold recM
  cases hm : m k with
  | some v => rfl
  | none => simp only [h k,ite_self]
def recT (m R : KV) (typ : Int) (todo : List UInt8 → Bool) : KV := fun k => match m k with
  | some v => some v
  | none => if todo k then none else if typ = 103 ∨ (k ∉ tenKeys ∧ Lib.hasPrefix k [71,78,85,46,115,112,97,114,115,101,46] = false) then R k else none
theorem recT_start (m R : KV) (typ : Int) : recT m R typ (fun k => (R k).isSome) = m := by
  funext k
  unfold recT
  cases m k with
  | some v => rfl
  | none =>
    cases hR : R k with
    | some v => simp only [hR,Option.isSome_some,if_true]
    | none => simp only [hR,ite_self]
theorem recT_end (m R : KV) (typ : Int) (todo : List UInt8 → Bool) (h : ∀ k,todo k = false) : recT m R typ todo = recM m R typ := by
  funext k
  unfold recT recM
  rw [h k]
  rfl
theorem recT_keep (m R : KV) (typ : Int) (todo : List UInt8 → Bool) (k u : List UInt8) (h : m k = some u) : recT m R typ (fun z => todo z && !decide (z = k)) = recT m R typ todo := by
  funext z
  unfold recT
  by_cases hz : z = k
  · subst hz; rw [h]
  · simp [hz]
theorem recT_skip (m R : KV) (typ : Int) (todo : List UInt8 → Bool) (k : List UInt8) (ht : todo k = true) (h : ¬ (typ = 103 ∨ (k ∉ tenKeys ∧ Lib.hasPrefix k [71,78,85,46,115,112,97,114,115,101,46] = false))) : recT m R typ (fun z => todo z && !decide (z = k)) = recT m R typ todo := by
  funext z
  unfold recT
  by_cases hz : z = k
  · subst hz; rw [if_neg h,ht]; simp
  · simp [hz]
theorem recT_put (m R : KV) (typ : Int) (todo : List UInt8 → Bool) (k v : List UInt8) (hm : m k = none) (hR : R k = some v) (h : typ = 103 ∨ (k ∉ tenKeys ∧ Lib.hasPrefix k [71,78,85,46,115,112,97,114,115,101,46] = false)) : putF (recT m R typ todo) k v = recT m R typ (fun z => todo z && !decide (z = k)) := by
  funext z
  by_cases hz : z = k
  · subst hz; rw [putF_same]; unfold recT; rw [hm,if_pos h]; simp [hR]
  · rw [putF_other _ _ _ _ hz]; unfold recT; simp [hz]
theorem recT_look (m R : KV) (typ : Int) (todo : List UInt8 → Bool) (k : List UInt8) (ht : todo k = true) : recT m R typ todo k = m k := by
  unfold recT
  cases m k with
  | some v => rfl
  | none => rw [ht]; rfl
theorem AF.other {G0 : Nat} {E : Nat → Addr} {b0 : Nat} {H : Hd} {R : KV} {u p g q : Bool} {m : KV} {n : Nat} {w w' : World} (h : AF G0 E b0 H R u p g q m n w) {j : Nat} (f : Fr w.heap.size [j] w w') (hj : b0 + 7 < j) : AF G0 E b0 H R u p g q m n w' := by
  obtain ⟨k0,k1,k2,k3,k4,k5,k6,k7,k8,k9⟩ := h.kept f (by omega)
  exact ⟨k0,h.le,k1,k2 (by omega),k3 (by omega),k4 (by omega),k5 (by omega),k6 (by omega),k7 (by omega),k8 (by omega),k9⟩
theorem results_cct {fn : Func} {p q u : Tmp} (h : fn.results = #[.cell p 128,.cell q 127,.tmp u]) (tmps : Array Value) (w : World) (a b : Addr) (x y : Value) (hp : tmps.getD p undef = .pointer (some a)) (hq : tmps.getD q undef = .pointer (some b)) (ca : w.cell? a = some x) (cb : w.cell? b = some y) :
    (results fn tmps).run Tryz.prog w = .ok (.tuple #[x,y,tmps.getD u undef]) w := by
  have hp' : tmps[p]?.getD undef = .pointer (some a) := by simpa using hp
  have hq' : tmps[q]?.getD undef = .pointer (some b) := by simpa using hq
  simp [results,h,hp',hq',asAddr,Sem.run_bind,Result.andThen,loadVar,Tryz.isAgg127,Tryz.isAgg128,ca,cb]
noncomputable def restA : Code := tailFrom 44 (Tryz.f65.body.getD .skip)
noncomputable def restC : Code := tailFrom 53 (Tryz.f65.body.getD .skip)
noncomputable def restB : Code := tailFrom 65 (Tryz.f65.body.getD .skip)
def RecLoop (G0 : Nat) (E : Nat → Addr) (b0 : Nat) (H : Hd) (R : KV) (S : St) (rb nR r0 : Nat) (w wr : World) : Prop :=
  ∃ todo cnt n2,SRange wr rb r0 nR R todo cnt ∧ AF G0 E b0 H R S.u S.p S.g S.q (recT S.m R H.typ todo) n2 wr ∧ n2 + cnt ≤ 26 + nR ∧ Below b0 w wr
def ValLoop (G0 : Nat) (E : Nat → Addr) (b0 : Nat) (H : Hd) (R : KV) (u p g q : Bool) (m : KV) (n2 r1 : Nat) (w wr : World) : Prop :=
  ∃ todo cnt,SRange wr (b0 + 3) r1 n2 m todo cnt ∧ AF G0 E b0 H R u p g q m n2 wr ∧ Below b0 w wr
end Go.Proofs.YtkanmkcojlefbaaGreatDoor
