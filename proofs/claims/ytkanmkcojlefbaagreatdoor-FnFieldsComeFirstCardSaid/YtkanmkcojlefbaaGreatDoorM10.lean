/-
  Part of the proof; holds the texts AF, Step.
-/
import Derived.Test.YtkanmkcojlefbaaGreatDoorM09
import Derived.Test.YtkanmkcojlefbaaGreatDoorM02
import Derived.Deep.DeepCutAuto
import Derived.Test.YtkanmkcojlefbaaGreatDoorM08
set_option maxRecDepth 100000
set_option linter.unusedSimpArgs false
set_option linter.unusedVariables false
namespace Go.Proofs.YtkanmkcojlefbaaGreatDoor
open Go.RowKit
def fm (u p g : Bool) : Int := (if u then 2 else 0) + (if p then 4 else 0) + (if g then 8 else 0)
theorem mustNotBe (w : World) (a : Nat) (u p g : Bool) (h : w.heap[a]? = some (.cells #[.int .i64 (fm u p g)] 128 (0,0))) (k : Int) (u2 p2 g2 : Bool)
    (hk : (k = 2 ∧ u2 = false ∧ p2 = p ∧ g2 = g) ∨ (k = 4 ∧ u2 = u ∧ p2 = false ∧ g2 = g) ∨ (k = 8 ∧ u2 = u ∧ p2 = p ∧ g2 = false)) :
    Calls Tryz.prog 95 #[.pointer (some ⟨a,0,none⟩),.int .i64 k] w (RetSame (w.setCell ⟨a,0,none⟩ (.int .i64 (fm u2 p2 g2))) (.tuple #[])) := by
  have c0 : w.cell? ⟨a,0,none⟩ = some (.int .i64 (fm u p g)) := by rw [Lib.cell_of_heap h]; rfl
  have z0 : w.frozen? ⟨a,0,none⟩ = false := Lib.frozen_of_heap h 0
  have e : bits .andNot .i64 (fm u p g) k = fm u2 p2 g2 := by
    rcases hk with ⟨rfl,rfl,rfl,rfl⟩ | ⟨rfl,rfl,rfl,rfl⟩ | ⟨rfl,rfl,rfl,rfl⟩
    · cases u <;> cases p2 <;> cases g2 <;> kernel_rfl
    · cases u2 <;> cases p <;> cases g2 <;> kernel_rfl
    · cases u2 <;> cases p2 <;> cases g <;> kernel_rfl
  generalize fm u p g = f at *
  generalize fm u2 p2 g2 = f2 at *
  clear hk h
  go_enter Tryz.func95,Tryz.ntmps95
  go_wp2_with fail
  go_end0
  exact ⟨rfl,rfl⟩
def RecMap (w : World) (v : Value) (R : KV) (b0 : Nat) : Prop := (v = .map none ∧ ∀ k,R k = none) ∨ ∃ rb n,v = .map (some rb) ∧ rb < b0 ∧ SMap w rb n R ∧ n ≤ 4294967296
theorem und127 : Tryz.prog.underlying 127 = some (.map 9 9) := Tryz.underlying127
theorem RecMap.look2 {w : World} {v : Value} {R : KV} {b0 : Nat} (h : RecMap w v R b0) (k : List UInt8) (hk : k.length ≤ 9223372036854775807) :
    (Instr.lookup 127 v (str k) true).run Tryz.prog w = .ok (.tuple #[str ((R k).getD []),.bool (R k).isSome]) w := by
  rcases h with ⟨rfl,h⟩ | ⟨rb,n,rfl,-,h,-⟩
  · rw [h k]; exact nil_look2 w 127 und127 k hk
  · exact h.look2 und127 k hk
structure AF (G0 : Nat) (E : Nat → Addr) (b0 : Nat) (H : Hd) (R : KV) (u p g q : Bool) (m : KV) (n : Nat) (w : World) : Prop where
  gl : Gl G0 E w
  le : G0 ≤ b0
  hH : w.heap[b0]? = some (.cells H.cells.toArray 130 (0,0))
  fF : w.heap[b0 + 1]? = some (.cells #[.int .i64 (fm u p g)] 128 (0,0))
  fM : w.heap[b0 + 2]? = some (.cells #[.map (some (b0 + 3))] 127 (0,0))
  mp : SMap w (b0 + 3) n m
  s1 : ∃ s,w.heap[b0 + 4]? = some (.cells #[.string s] 9 (0,0))
  s2 : ∃ s,w.heap[b0 + 5]? = some (.cells #[.string s] 9 (0,0))
  s3 : ∃ s,w.heap[b0 + 6]? = some (.cells #[.string s] 9 (0,0))
  pr : w.heap[b0 + 7]? = some (.cells #[.bool q] 4 (0,0))
  rm : RecMap w H.recs R b0
section
variable {G0 : Nat} {E : Nat → Addr} {b0 : Nat} {H : Hd} {R : KV} {u p g q : Bool} {m : KV} {n : Nat} {w w' : World}
theorem AF.lt (h : AF G0 E b0 H R u p g q m n w) : b0 + 7 < w.heap.size := lt_of_heap h.pr
theorem AF.kept (h : AF G0 E b0 H R u p g q m n w) {j : Nat} (f : Fr w.heap.size [j] w w') (hj : b0 < j) :
    Gl G0 E w' ∧ w'.heap[b0]? = some (.cells H.cells.toArray 130 (0,0)) ∧ (j ≠ b0 + 1 → w'.heap[b0 + 1]? = some (.cells #[.int .i64 (fm u p g)] 128 (0,0))) ∧ (j ≠ b0 + 2 → w'.heap[b0 + 2]? = some (.cells #[.map (some (b0 + 3))] 127 (0,0))) ∧
    (j ≠ b0 + 3 → SMap w' (b0 + 3) n m) ∧ (j ≠ b0 + 4 → ∃ s,w'.heap[b0 + 4]? = some (.cells #[.string s] 9 (0,0))) ∧ (j ≠ b0 + 5 → ∃ s,w'.heap[b0 + 5]? = some (.cells #[.string s] 9 (0,0))) ∧ (j ≠ b0 + 6 → ∃ s,w'.heap[b0 + 6]? = some (.cells #[.string s] 9 (0,0))) ∧
    (j ≠ b0 + 7 → w'.heap[b0 + 7]? = some (.cells #[.bool q] 4 (0,0))) ∧ RecMap w' H.recs R b0 := by
  have hb : ∀ k o,w.heap[k]? = some o → k ≠ j → w'.heap[k]? = some o := fun k o hk hne => f.same hk (by simpa using hne) (.inl (lt_of_heap hk))
  have le := h.le
  obtain ⟨x1,h1⟩ := h.s1; obtain ⟨x2,h2⟩ := h.s2; obtain ⟨x3,h3⟩ := h.s3
  refine ⟨h.gl.fr f h.gl.le (by simp; omega),hb _ _ h.hH (by omega),fun e => hb _ _ h.fF (Ne.symm e),fun e => hb _ _ h.fM (Ne.symm e),fun e => h.mp.fr f (by simpa using Ne.symm e),fun e => ⟨x1,hb _ _ h1 (Ne.symm e)⟩,fun e => ⟨x2,hb _ _ h2 (Ne.symm e)⟩,fun e => ⟨x3,hb _ _ h3 (Ne.symm e)⟩,fun e => hb _ _ h.pr (Ne.symm e),?_⟩
  rcases h.rm with h | ⟨rb,n',h1,h2,h3,h4⟩
  · exact .inl h
  · exact .inr ⟨rb,n',h1,h2,h3.fr f (by simp; omega),h4⟩
theorem AF.setF (h : AF G0 E b0 H R u p g q m n w) (u2 p2 g2 : Bool) : AF G0 E b0 H R u2 p2 g2 q m n (w.setCell ⟨b0 + 1,0,none⟩ (.int .i64 (fm u2 p2 g2))) := by
  obtain ⟨k0,k1,k2,k3,k4,k5,k6,k7,k8,k9⟩ := h.kept (j := b0 + 1) ((Fr.refl _ _ w).setCell (p := ⟨b0 + 1,0,none⟩) (.inl (by simp)) (.int .i64 (fm u2 p2 g2))) (by omega)
  exact ⟨k0,h.le,k1,heap_set_same _ h.fF,k3 (by omega),k4 (by omega),k5 (by omega),k6 (by omega),k7 (by omega),k8 (by omega),k9⟩
theorem AF.setS1 (h : AF G0 E b0 H R u p g q m n w) (x : ByteArray) : AF G0 E b0 H R u p g q m n (w.setCell ⟨b0 + 4,0,none⟩ (.string x)) := by
  obtain ⟨k0,k1,k2,k3,k4,k5,k6,k7,k8,k9⟩ := h.kept (j := b0 + 4) ((Fr.refl _ _ w).setCell (p := ⟨b0 + 4,0,none⟩) (.inl (by simp)) (.string x)) (by omega)
  obtain ⟨s,hs⟩ := h.s1
  exact ⟨k0,h.le,k1,k2 (by omega),k3 (by omega),k4 (by omega),⟨x,heap_set_same _ hs⟩,k6 (by omega),k7 (by omega),k8 (by omega),k9⟩
theorem AF.setS2 (h : AF G0 E b0 H R u p g q m n w) (x : ByteArray) : AF G0 E b0 H R u p g q m n (w.setCell ⟨b0 + 5,0,none⟩ (.string x)) := by
  obtain ⟨k0,k1,k2,k3,k4,k5,k6,k7,k8,k9⟩ := h.kept (j := b0 + 5) ((Fr.refl _ _ w).setCell (p := ⟨b0 + 5,0,none⟩) (.inl (by simp)) (.string x)) (by omega)
  obtain ⟨s,hs⟩ := h.s2
  exact ⟨k0,h.le,k1,k2 (by omega),k3 (by omega),k4 (by omega),k5 (by omega),⟨x,heap_set_same _ hs⟩,k7 (by omega),k8 (by omega),k9⟩
theorem AF.setS3 (h : AF G0 E b0 H R u p g q m n w) (x : ByteArray) : AF G0 E b0 H R u p g q m n (w.setCell ⟨b0 + 6,0,none⟩ (.string x)) := by
  obtain ⟨k0,k1,k2,k3,k4,k5,k6,k7,k8,k9⟩ := h.kept (j := b0 + 6) ((Fr.refl _ _ w).setCell (p := ⟨b0 + 6,0,none⟩) (.inl (by simp)) (.string x)) (by omega)
  obtain ⟨s,hs⟩ := h.s3
  exact ⟨k0,h.le,k1,k2 (by omega),k3 (by omega),k4 (by omega),k5 (by omega),k6 (by omega),⟨x,heap_set_same _ hs⟩,k8 (by omega),k9⟩
theorem AF.setQ (h : AF G0 E b0 H R u p g q m n w) (q2 : Bool) : AF G0 E b0 H R u p g q2 m n (w.setCell ⟨b0 + 7,0,none⟩ (.bool q2)) := by
  obtain ⟨k0,k1,k2,k3,k4,k5,k6,k7,k8,k9⟩ := h.kept (j := b0 + 7) ((Fr.refl _ _ w).setCell (p := ⟨b0 + 7,0,none⟩) (.inl (by simp)) (.bool q2)) (by omega)
  exact ⟨k0,h.le,k1,k2 (by omega),k3 (by omega),k4 (by omega),k5 (by omega),k6 (by omega),k7 (by omega),heap_set_same _ h.pr,k9⟩
theorem AF.below (h : AF G0 E b0 H R u p g q m n w) (f : Below w.heap.size w w') : AF G0 E b0 H R u p g q m n w' := by
  obtain ⟨k0,k1,k2,k3,k4,k5,k6,k7,k8,k9⟩ := h.kept (j := w.heap.size) (Fr.of_below f _ _) (by have := h.lt; omega)
  have := h.lt
  exact ⟨k0,h.le,k1,k2 (by omega),k3 (by omega),k4 (by omega),k5 (by omega),k6 (by omega),k7 (by omega),k8 (by omega),k9⟩
theorem AF.put (h : AF G0 E b0 H R u p g q m n w) (hn : n < 1099511627776) (k v : List UInt8) (hk : k.length ≤ 9223372036854775807) (hv : v.length ≤ 9223372036854775807) :
    ∃ w',(Instr.mapUpdate 127 (.map (some (b0 + 3))) (str k) (str v)).run Tryz.prog w = .ok () w' ∧ AF G0 E b0 H R u p g q (putF m k v) (n + 1) w' ∧ Below b0 w w' := by
  obtain ⟨w',hr,hm,f⟩ := h.mp.update und127 hn k v hk hv
  obtain ⟨k0,k1,k2,k3,k4,k5,k6,k7,k8,k9⟩ := h.kept f (by omega)
  refine ⟨w',hr,⟨k0,h.le,k1,k2 (by omega),k3 (by omega),hm,k5 (by omega),k6 (by omega),k7 (by omega),k8 (by omega),k9⟩,?_⟩
  have := (Fr.below (f.wide (B' := w.heap.size) (S' := [b0 + 3]) (Nat.le_refl _) (fun k hk _ => hk)))
  exact ⟨f.os,f.tape,f.output,f.size,fun i hi => by
    have hl := h.lt
    obtain ⟨o,ho⟩ : ∃ o,w.heap[i]? = some o := ⟨_,Array.getElem?_eq_getElem (by omega)⟩
    rw [ho]; exact f.same ho (by simp; omega) (.inl (by omega))⟩
theorem AF.lookR (h : AF G0 E b0 H R u p g q m n w) (k : List UInt8) (hk : k.length ≤ 9223372036854775807) : (Instr.lookup 127 H.recs (str k) true).run Tryz.prog w = .ok (.tuple #[str ((R k).getD []),.bool (R k).isSome]) w := h.rm.look2 k hk
end
structure TB (tw b fw : Nat) (pad : Int) (hdr : List Value) (fb : Nat) (ferr : Value) (aE : Addr) (B : Blk) (w : World) : Prop where
  W : TW tw b fw pad hdr (Lib.byteCells B.bytes) .nilIface w
  ok : B.Ok
  F : w.heap[fb]? = some (.cells #[ferr] 196 (0,0))
  db : w.cell? ⟨15,7,none⟩ = some (.int .u8 3)
  e3 : w.cell? ⟨3,0,none⟩ = some (errV aE)
  tw15 : tw ≠ 15
  tw3 : tw ≠ 3
  f15 : fb ≠ 15
  f3 : fb ≠ 3
def twPre (b fw : Nat) (pad : Int) (hdr : List Value) : List Value := .iface 75 (.pointer (some ⟨b,0,none⟩))::.int .i64 pad::.iface 119 (.pointer (some ⟨fw,0,none⟩))::hdr
theorem TB.pre {tw b fw : Nat} {pad : Int} {hdr : List Value} {fb : Nat} {ferr : Value} {aE : Addr} {B : Blk} {w : World} (h : TB tw b fw pad hdr fb ferr aE B w) : (twPre b fw pad hdr).length = 23 := by simp [twPre,h.W.2.1]
theorem TB.seg {tw b fw : Nat} {pad : Int} {hdr : List Value} {fb : Nat} {ferr : Value} {aE : Addr} {B : Blk} {w : World} (h : TB tw b fw pad hdr fb ferr aE B w) : Seg w tw 134 (twPre b fw pad hdr) B.bytes [.nilIface] := h.W.seg
theorem TB.ne {tw b fw : Nat} {pad : Int} {hdr : List Value} {fb : Nat} {ferr : Value} {aE : Addr} {B : Blk} {w : World} (h : TB tw b fw pad hdr fb ferr aE B w) : fb ≠ tw := by
  rintro rfl
  have := h.F
  rw [h.W.1] at this
  cases this
theorem TB.next {tw b fw : Nat} {pad : Int} {hdr : List Value} {fb : Nat} {ferr ferr2 : Value} {aE : Addr} {B B2 : Blk} {w w' : World} (h : TB tw b fw pad hdr fb ferr aE B w) (hs : Seg w' tw 134 (twPre b fw pad hdr) B2.bytes [.nilIface]) (ok : B2.Ok) (hf : w'.heap[fb]? = some (.cells #[ferr2] 196 (0,0))) (hF : Fr w.heap.size [tw,fb] w w') :
    TB tw b fw pad hdr fb ferr2 aE B2 w' :=
  ⟨TW.of_seg hs h.W.2.1 ok.len,ok,hf,hF.cell h.db (by simp [Ne.symm h.tw15,Ne.symm h.f15]) (block_lt_of_cell h.db),hF.cell h.e3 (by simp [Ne.symm h.tw3,Ne.symm h.f3]) (block_lt_of_cell h.e3),h.tw15,h.tw3,h.f15,h.f3⟩
section
variable {tw b fw : Nat} {pad : Int} {hdr : List Value} {fb : Nat} {ferr : Value} {aE : Addr} {B : Blk} {w : World}
theorem stepS_name (h : TB tw b fw pad hdr fb ferr aE B w) (s : List UInt8) (hl : s.length ≤ 1048576) :
    Calls Tryz.prog 129 #[.pointer (some ⟨fb,0,none⟩),.slice (some ⟨tw,23,none⟩) 100 512,str s] w fun e w' => e = .returned (.tuple #[]) ∧ ∃ new ferr2,FmtS B.name s new ∧ (s.length ≤ 100 → ferr2 = ferr) ∧ TB tw b fw pad hdr fb ferr2 aE { B with name := new } w' ∧ Fr w.heap.size [tw,fb] w w' := by
  have hp := h.pre
  have k := formatString_any w fb tw 100 512 s 134 _ _ _ ferr aE h.seg.get_name h.ok.name (by omega) (by omega) (by omega) hl h.F h.ne h.e3
  rw [h.ok.off_name,hp] at k
  refine k.mono ?_
  rintro e w' ⟨rfl,new,ferr2,k1,k2,k3,k4,k5⟩
  exact ⟨rfl,new,ferr2,k1,k2,h.next k3.put_name (h.ok.put_name new (k1.len.trans h.ok.name)) k4 k5,k5⟩
theorem stepS_link (h : TB tw b fw pad hdr fb ferr aE B w) (s : List UInt8) (hl : s.length ≤ 1048576) :
    Calls Tryz.prog 129 #[.pointer (some ⟨fb,0,none⟩),.slice (some ⟨tw,180,none⟩) 100 355,str s] w fun e w' => e = .returned (.tuple #[]) ∧ ∃ new ferr2,FmtS B.link s new ∧ (s.length ≤ 100 → ferr2 = ferr) ∧ TB tw b fw pad hdr fb ferr2 aE { B with link := new } w' ∧ Fr w.heap.size [tw,fb] w w' := by
  have hp := h.pre
  have k := formatString_any w fb tw 100 355 s 134 _ _ _ ferr aE h.seg.get_link h.ok.link (by omega) (by omega) (by omega) hl h.F h.ne h.e3
  rw [h.ok.off_link,hp] at k
  refine k.mono ?_
  rintro e w' ⟨rfl,new,ferr2,k1,k2,k3,k4,k5⟩
  exact ⟨rfl,new,ferr2,k1,k2,h.next k3.put_link (h.ok.put_link new (k1.len.trans h.ok.link)) k4 k5,k5⟩
theorem stepS_user (h : TB tw b fw pad hdr fb ferr aE B w) (s : List UInt8) (hl : s.length ≤ 1048576) :
    Calls Tryz.prog 129 #[.pointer (some ⟨fb,0,none⟩),.slice (some ⟨tw,288,none⟩) 32 247,str s] w fun e w' => e = .returned (.tuple #[]) ∧ ∃ new ferr2,FmtS B.user s new ∧ (s.length ≤ 32 → ferr2 = ferr) ∧ TB tw b fw pad hdr fb ferr2 aE { B with user := new } w' ∧ Fr w.heap.size [tw,fb] w w' := by
  have hp := h.pre
  have k := formatString_any w fb tw 32 247 s 134 _ _ _ ferr aE h.seg.get_user h.ok.user (by omega) (by omega) (by omega) hl h.F h.ne h.e3
  rw [h.ok.off_user,hp] at k
  refine k.mono ?_
  rintro e w' ⟨rfl,new,ferr2,k1,k2,k3,k4,k5⟩
  exact ⟨rfl,new,ferr2,k1,k2,h.next k3.put_user (h.ok.put_user new (k1.len.trans h.ok.user)) k4 k5,k5⟩
theorem stepS_group (h : TB tw b fw pad hdr fb ferr aE B w) (s : List UInt8) (hl : s.length ≤ 1048576) :
    Calls Tryz.prog 129 #[.pointer (some ⟨fb,0,none⟩),.slice (some ⟨tw,320,none⟩) 32 215,str s] w fun e w' => e = .returned (.tuple #[]) ∧ ∃ new ferr2,FmtS B.group s new ∧ (s.length ≤ 32 → ferr2 = ferr) ∧ TB tw b fw pad hdr fb ferr2 aE { B with group := new } w' ∧ Fr w.heap.size [tw,fb] w w' := by
  have hp := h.pre
  have k := formatString_any w fb tw 32 215 s 134 _ _ _ ferr aE h.seg.get_group h.ok.group (by omega) (by omega) (by omega) hl h.F h.ne h.e3
  rw [h.ok.off_group,hp] at k
  refine k.mono ?_
  rintro e w' ⟨rfl,new,ferr2,k1,k2,k3,k4,k5⟩
  exact ⟨rfl,new,ferr2,k1,k2,h.next k3.put_group (h.ok.put_group new (k1.len.trans h.ok.group)) k4 k5,k5⟩
theorem stepO_mode (h : TB tw b fw pad hdr fb ferr aE B w) (x : Int) (hx0 : -9223372036854775808 ≤ x) (hx1 : x ≤ 9223372036854775807) :
    Calls Tryz.prog 130 #[.pointer (some ⟨fb,0,none⟩),.slice (some ⟨tw,123,none⟩) 8 412,.int .i64 x] w fun e w' => e = .returned (.tuple #[]) ∧ ∃ ferr2,(octFits 8 x = true → ferr2 = ferr) ∧ TB tw b fw pad hdr fb ferr2 aE { B with mode := octField 8 (if octFits 8 x then x.toNat else 0) } w' ∧ Fr w.heap.size [tw,fb] w w' := by
  have hp := h.pre
  have k := formatOctal_any w fb tw 8 412 x 134 _ _ _ ferr aE h.seg.get_mode h.ok.mode (by omega) (by omega) hx0 hx1 h.tw15 h.db h.F h.ne h.f15 h.e3
  rw [h.ok.off_mode,hp] at k
  refine k.mono ?_
  rintro e w' ⟨rfl,ferr2,k2,k3,k4,k5⟩
  refine ⟨rfl,ferr2,k2,h.next k3.put_mode (h.ok.put_mode _ (octField_length _ _ (by omega) ?_)) k4 k5,k5⟩
  split
  · rename_i hf
    simp only [octFits,decide_eq_true_eq] at hf
    omega
  · omega
theorem stepO_uid (h : TB tw b fw pad hdr fb ferr aE B w) (x : Int) (hx0 : -9223372036854775808 ≤ x) (hx1 : x ≤ 9223372036854775807) :
    Calls Tryz.prog 130 #[.pointer (some ⟨fb,0,none⟩),.slice (some ⟨tw,131,none⟩) 8 404,.int .i64 x] w fun e w' => e = .returned (.tuple #[]) ∧ ∃ ferr2,(octFits 8 x = true → ferr2 = ferr) ∧ TB tw b fw pad hdr fb ferr2 aE { B with uid := octField 8 (if octFits 8 x then x.toNat else 0) } w' ∧ Fr w.heap.size [tw,fb] w w' := by
  have hp := h.pre
  have k := formatOctal_any w fb tw 8 404 x 134 _ _ _ ferr aE h.seg.get_uid h.ok.uid (by omega) (by omega) hx0 hx1 h.tw15 h.db h.F h.ne h.f15 h.e3
  rw [h.ok.off_uid,hp] at k
  refine k.mono ?_
  rintro e w' ⟨rfl,ferr2,k2,k3,k4,k5⟩
  refine ⟨rfl,ferr2,k2,h.next k3.put_uid (h.ok.put_uid _ (octField_length _ _ (by omega) ?_)) k4 k5,k5⟩
  split
  · rename_i hf
    simp only [octFits,decide_eq_true_eq] at hf
    omega
  · omega
theorem stepO_gid (h : TB tw b fw pad hdr fb ferr aE B w) (x : Int) (hx0 : -9223372036854775808 ≤ x) (hx1 : x ≤ 9223372036854775807) :
    Calls Tryz.prog 130 #[.pointer (some ⟨fb,0,none⟩),.slice (some ⟨tw,139,none⟩) 8 396,.int .i64 x] w fun e w' => e = .returned (.tuple #[]) ∧ ∃ ferr2,(octFits 8 x = true → ferr2 = ferr) ∧ TB tw b fw pad hdr fb ferr2 aE { B with gid := octField 8 (if octFits 8 x then x.toNat else 0) } w' ∧ Fr w.heap.size [tw,fb] w w' := by
  have hp := h.pre
  have k := formatOctal_any w fb tw 8 396 x 134 _ _ _ ferr aE h.seg.get_gid h.ok.gid (by omega) (by omega) hx0 hx1 h.tw15 h.db h.F h.ne h.f15 h.e3
  rw [h.ok.off_gid,hp] at k
  refine k.mono ?_
  rintro e w' ⟨rfl,ferr2,k2,k3,k4,k5⟩
  refine ⟨rfl,ferr2,k2,h.next k3.put_gid (h.ok.put_gid _ (octField_length _ _ (by omega) ?_)) k4 k5,k5⟩
  split
  · rename_i hf
    simp only [octFits,decide_eq_true_eq] at hf
    omega
  · omega
theorem stepO_size (h : TB tw b fw pad hdr fb ferr aE B w) (x : Int) (hx0 : -9223372036854775808 ≤ x) (hx1 : x ≤ 9223372036854775807) :
    Calls Tryz.prog 130 #[.pointer (some ⟨fb,0,none⟩),.slice (some ⟨tw,147,none⟩) 12 388,.int .i64 x] w fun e w' => e = .returned (.tuple #[]) ∧ ∃ ferr2,(octFits 12 x = true → ferr2 = ferr) ∧ TB tw b fw pad hdr fb ferr2 aE { B with size := octField 12 (if octFits 12 x then x.toNat else 0) } w' ∧ Fr w.heap.size [tw,fb] w w' := by
  have hp := h.pre
  have k := formatOctal_any w fb tw 12 388 x 134 _ _ _ ferr aE h.seg.get_size h.ok.size (by omega) (by omega) hx0 hx1 h.tw15 h.db h.F h.ne h.f15 h.e3
  rw [h.ok.off_size,hp] at k
  refine k.mono ?_
  rintro e w' ⟨rfl,ferr2,k2,k3,k4,k5⟩
  refine ⟨rfl,ferr2,k2,h.next k3.put_size (h.ok.put_size _ (octField_length _ _ (by omega) ?_)) k4 k5,k5⟩
  split
  · rename_i hf
    simp only [octFits,decide_eq_true_eq] at hf
    omega
  · omega
theorem stepO_mtime (h : TB tw b fw pad hdr fb ferr aE B w) (x : Int) (hx0 : -9223372036854775808 ≤ x) (hx1 : x ≤ 9223372036854775807) :
    Calls Tryz.prog 130 #[.pointer (some ⟨fb,0,none⟩),.slice (some ⟨tw,159,none⟩) 12 376,.int .i64 x] w fun e w' => e = .returned (.tuple #[]) ∧ ∃ ferr2,(octFits 12 x = true → ferr2 = ferr) ∧ TB tw b fw pad hdr fb ferr2 aE { B with mtime := octField 12 (if octFits 12 x then x.toNat else 0) } w' ∧ Fr w.heap.size [tw,fb] w w' := by
  have hp := h.pre
  have k := formatOctal_any w fb tw 12 376 x 134 _ _ _ ferr aE h.seg.get_mtime h.ok.mtime (by omega) (by omega) hx0 hx1 h.tw15 h.db h.F h.ne h.f15 h.e3
  rw [h.ok.off_mtime,hp] at k
  refine k.mono ?_
  rintro e w' ⟨rfl,ferr2,k2,k3,k4,k5⟩
  refine ⟨rfl,ferr2,k2,h.next k3.put_mtime (h.ok.put_mtime _ (octField_length _ _ (by omega) ?_)) k4 k5,k5⟩
  split
  · rename_i hf
    simp only [octFits,decide_eq_true_eq] at hf
    omega
  · omega
theorem stepO_maj (h : TB tw b fw pad hdr fb ferr aE B w) (x : Int) (hx0 : -9223372036854775808 ≤ x) (hx1 : x ≤ 9223372036854775807) :
    Calls Tryz.prog 130 #[.pointer (some ⟨fb,0,none⟩),.slice (some ⟨tw,352,none⟩) 8 183,.int .i64 x] w fun e w' => e = .returned (.tuple #[]) ∧ ∃ ferr2,(octFits 8 x = true → ferr2 = ferr) ∧ TB tw b fw pad hdr fb ferr2 aE { B with maj := octField 8 (if octFits 8 x then x.toNat else 0) } w' ∧ Fr w.heap.size [tw,fb] w w' := by
  have hp := h.pre
  have k := formatOctal_any w fb tw 8 183 x 134 _ _ _ ferr aE h.seg.get_maj h.ok.maj (by omega) (by omega) hx0 hx1 h.tw15 h.db h.F h.ne h.f15 h.e3
  rw [h.ok.off_maj,hp] at k
  refine k.mono ?_
  rintro e w' ⟨rfl,ferr2,k2,k3,k4,k5⟩
  refine ⟨rfl,ferr2,k2,h.next k3.put_maj (h.ok.put_maj _ (octField_length _ _ (by omega) ?_)) k4 k5,k5⟩
  split
  · rename_i hf
    simp only [octFits,decide_eq_true_eq] at hf
    omega
  · omega
theorem stepO_mnr (h : TB tw b fw pad hdr fb ferr aE B w) (x : Int) (hx0 : -9223372036854775808 ≤ x) (hx1 : x ≤ 9223372036854775807) :
    Calls Tryz.prog 130 #[.pointer (some ⟨fb,0,none⟩),.slice (some ⟨tw,360,none⟩) 8 175,.int .i64 x] w fun e w' => e = .returned (.tuple #[]) ∧ ∃ ferr2,(octFits 8 x = true → ferr2 = ferr) ∧ TB tw b fw pad hdr fb ferr2 aE { B with mnr := octField 8 (if octFits 8 x then x.toNat else 0) } w' ∧ Fr w.heap.size [tw,fb] w w' := by
  have hp := h.pre
  have k := formatOctal_any w fb tw 8 175 x 134 _ _ _ ferr aE h.seg.get_mnr h.ok.mnr (by omega) (by omega) hx0 hx1 h.tw15 h.db h.F h.ne h.f15 h.e3
  rw [h.ok.off_mnr,hp] at k
  refine k.mono ?_
  rintro e w' ⟨rfl,ferr2,k2,k3,k4,k5⟩
  refine ⟨rfl,ferr2,k2,h.next k3.put_mnr (h.ok.put_mnr _ (octField_length _ _ (by omega) ?_)) k4 k5,k5⟩
  split
  · rename_i hf
    simp only [octFits,decide_eq_true_eq] at hf
    omega
  · omega
end
end Go.Proofs.YtkanmkcojlefbaaGreatDoor
