/-
  Part of the proof; holds the texts RAll, RSp.
-/
import Derived.Test.YtkanmkcojlefbaaGreatDoorM21
import Derived.Test.YtkanmkcojlefbaaGreatDoorM20
import Derived.Test.YtkanmkcojlefbaaGreatDoorM10
set_option maxRecDepth 100000
set_option linter.unusedSimpArgs false
set_option linter.unusedVariables false
namespace Go.Proofs.YtkanmkcojlefbaaGreatDoor
open Go.RowKit
section
variable {ops : Array Oper} {rest : List Oper} {o : Oper} {a : Act} {w : World} {Q : Exit → Act → World → Prop}
theorem wpList_app_run (hg : o.guard = none) (s x : Operand) (t : TypeId) (ho : o.op = .call { callee := .builtin .append,args := #[s,x],argTypes := #[t,t] }) (v u : Value) (hs : a.eval s = v) (hx : a.eval x = u) (v' : Value) (w' : World)
    (hr : (Builtin.append_ #[t,t] o.type #[v,u]).run Tryz.prog w = .ok v' w') (h : wpList Tryz.prog ops Q rest (a.put o.dst v') w') : wpList Tryz.prog ops Q (o::rest) a w :=
  wpList_plain hg fun _ hK => by
    unfold Oper.wp execOp
    simp only [ho,resolve,invoke,builtin,Sem.run_bind,Sem.run_pure,Result.andThen_ok,List.map_toArray,List.map_cons,List.map_nil,hs,hx,hr]
    exact hK _ _ h
end
theorem slice131 (w : World) (d k : Nat) (hk5 : k ≤ 512) : (Instr.sliceAt 131 (.pointer (some ⟨d,0,none⟩)) none (some (.int .i64 k)) none).run Tryz.prog w = .ok (.slice (some ⟨d,0,none⟩) k 512) w := by
  have hal : Tryz.prog.arrayLen 131 = 512 := by kernel_rfl
  have hsz : ∀ w,(sizeOf (Tryz.prog.elem 131)).run Tryz.prog w = .ok 1 w := by intro w; kernel_rfl
  rw [run_sliceAt_array_h w 131 ⟨d,0,none⟩ (by kernel_rfl) .i64 k (by omega) (by rw [hal]; omega),hsz,hal]
  simp [slicedAt]
  rfl
def LR (lr tr : Nat) (N : Int) (w : World) : Prop := w.heap[lr]? = some (.cells #[.iface 82 (.pointer (some ⟨tr,0,none⟩)),.int .i64 N] 321 (0,0))
def GotLim (tr r g n c i k nb fr d lr : Nat) (N : Int) (bs : List UInt8) (cur : List Value) (t : TypeId) (aE : Addr) (w : World) (e : Ending) (w' : World) : Prop :=
  e = .returned (.tuple #[.int .i64 k,endErr nb k aE]) ∧ RD r g n c (i + k) w' ∧ FRd fr r (nb - k : Nat) w' ∧ w'.heap[d]? = some (.cells (splice cur 0 (Lib.byteCells ((bs.drop i).take k))).toArray t (0,0)) ∧ LR lr tr (N - k) w' ∧ Fr w.heap.size [r,d,fr,lr] w w'
theorem lrRead (w : World) (tr r g n c i k nb fr d lr : Nat) (N pad : Int) (blk : List Value) (bs : List UInt8) (cur : List Value) (t : TypeId) (aE : Addr) (h : RD r g n c i w) (hf : FRd fr r nb w) (ht : TR tr r pad (.iface 146 (.pointer (some ⟨fr,0,none⟩))) blk .nilIface w) (hl : LR lr tr N w) (hN : 512 ≤ N) (hN2 : N ≤ 2097152) (hk : k = min 512 nb) (hin : i + nb ≤ n) (hbig : n < 4611686018427387904) (hnc : n ≤ c)
    (hb : bs.length = n) (hsrc : At w g 0 (Lib.byteCells bs)) (hd : w.heap[d]? = some (.cells cur.toArray t (0,0))) (hfit : 512 ≤ cur.length) (hdr : d ≠ r) (hgr : g ≠ r) (hdf : d ≠ fr) (hdt : d ≠ tr) (hdl : d ≠ lr) (hE : w.cell? ⟨0,0,none⟩ = some (errV aE)) (hE0 : 0 ∉ [r,d,fr]) :
    Calls Tryz.prog 360 #[.pointer (some ⟨lr,0,none⟩),.slice (some ⟨d,0,none⟩) 512 512] w (GotLim tr r g n c i k nb fr d lr N bs cur t aE w) := by
  have HC := Lib.hid (trRead w tr r g n c i k nb fr d 0 512 512 pad blk bs cur t aE h hf ht hk hin (by omega) (by omega) (by omega) hbig hnc hb hsrc hd (by omega) hdr hgr hdf hdt hE hE0)
  have hlr : lr ≠ r := by
    rintro rfl
    obtain ⟨p,hr⟩ := h
    rw [LR,hr] at hl; cases hl
  have hlf : lr ≠ fr := by
    rintro rfl
    rw [FRd,hl] at hf; cases hf
  have l0 : w.cell? ⟨lr,0,none⟩ = some (.iface 82 (.pointer (some ⟨tr,0,none⟩))) := by rw [Lib.cell_of_heap hl]; rfl
  have l1 : w.cell? ⟨lr,1,none⟩ = some (.int .i64 N) := by rw [Lib.cell_of_heap hl]; rfl
  have hk512 : k ≤ 512 := by omega
  have hN0 : ¬ N ≤ 0 := by omega
  have hN3 : ¬ N < 512 := by omega
  have hsub : IntKind.i64.wrap (N - (k : Int)) = N - k := by rw [IntWalk.i64_in _ (by omega)]
  have mr := m_read82
  have nr := na_read82
  have HL := Lib.hid hl
  clear h hf ht hl hsrc hd hE hk
  go_enter Tryz.func360,Tryz.ntmps360
  go_wp2_with fail
  refine HC.out.mono ?_
  rintro e w1 ⟨rfl,g1,g2,g3,g4⟩
  have hl1 : w1.heap[lr]? = some (.cells #[.iface 82 (.pointer (some ⟨tr,0,none⟩)),.int .i64 N] 321 (0,0)) := g4.cells HL.out (by simp [hlr,hlf,Ne.symm hdl]) (.inr (by decide))
  have hfin : GotLim tr r g n c i k nb fr d lr N bs cur t aE w (.returned (.tuple #[.int .i64 k,endErr nb k aE])) (w1.setCell ⟨lr,1,none⟩ (.int .i64 (N - k))) := by
    refine ⟨rfl,?_,(heap_set_other (a := ⟨lr,1,none⟩) _ (Ne.symm hlf)).trans g2,(heap_set_other (a := ⟨lr,1,none⟩) _ hdl).trans g3,heap_set_same (i := 1) _ hl1,?_⟩
    · obtain ⟨p,hr⟩ := g1
      exact ⟨p,(heap_set_other (a := ⟨lr,1,none⟩) _ (Ne.symm hlr)).trans hr⟩
    · exact (g4.wide (S' := [r,d,fr,lr]) (Nat.le_refl _) (fun k hk _ => by simp at hk ⊢; omega)).setCell (p := ⟨lr,1,none⟩) (.inl (by simp)) _
  have q0 : w1.cell? ⟨lr,1,none⟩ = some (.int .i64 N) := by rw [Lib.cell_of_heap hl1]; rfl
  have z1 : w1.frozen? ⟨lr,1,none⟩ = false := Lib.frozen_of_heap hl1 1
  have HFIN := Lib.hid hfin
  clear hfin g1 g2 g3 g4 hl1 l0 l1 HC
  generalize endErr nb k aE = ev at *
  go_wp2_with fail
  go_ret2
  exact HFIN.out
theorem info5 : (Tryz.prog.info? 5).map (fun i => (i.zero,i.size,i.bytes)) = some (some (.int .u8 0),1,1) := by kernel_rfl
structure RAS (tr r g n c i0 nb0 fr d lr : Nat) (bs : List UInt8) (w0 : World) (all : Value) (p : Nat) (w : World) : Prop where
  R : RD r g n c (i0 + p) w
  F : FRd fr r (nb0 - p : Nat) w
  L : LR lr tr (1048577 - p) w
  D : ∃ cur : List Value,w.heap[d]? = some (.cells cur.toArray 131 (0,0)) ∧ cur.length = 512
  A : w.ownsRow (d + 1) 5 1 all p (Lib.byteCells ((bs.drop i0).take p))
  K : Fr w0.heap.size [r,d,fr,lr] w0 w
def AllOut (r g n c i0 nb0 fr lr : Nat) (bs : List UInt8) (w : World) (e : Ending) (w' : World) : Prop :=
  ∃ v,e = .returned (.tuple #[v,.nilIface]) ∧ RD r g n c (i0 + nb0) w' ∧ FRd fr r 0 w' ∧ w'.ownsRow w.heap.size 5 1 v nb0 (Lib.byteCells ((bs.drop i0).take nb0)) ∧ Fr w.heap.size [r,fr,lr] w w'
theorem ownsRow_low {w : World} {B B' : Nat} {e : TypeId} {v : Value} {n : Nat} {xs : List Value} (h : w.ownsRow B e 1 v n xs) (hB : B' ≤ B) : w.ownsRow B' e 1 v n xs := by
  refine ⟨h.1,?_⟩
  rcases h.2 with h | ⟨g,cap,cur,h1,h2,h3⟩
  · exact .inl h
  · exact .inr ⟨g,cap,cur,h1,Nat.le_trans hB h2,h3⟩
theorem ownsRow_fr {w w' : World} {B : Nat} {v : Value} {n : Nat} {xs : List Value} (h : w.ownsRow B 5 1 v n xs) {B' : Nat} {S : List Nat} (f : Fr B' S w w') (hS : ∀ k ∈ S,k < B) (hB : w.heap.size ≤ B') : w'.ownsRow B 5 1 v n xs := by
  refine ⟨h.1,?_⟩
  rcases h.2 with h | ⟨g,cap,cur,h1,h2,h3,h4⟩
  · exact .inl h
  · exact .inr ⟨g,cap,cur,h1,h2,f.cells h3 (fun hm => by have := hS g hm; omega) (.inl (Nat.lt_of_lt_of_le (lt_of_heap h3) hB)),h4⟩
theorem own_fr {w w' : World} {B B' : Nat} {v : Value} {n : Nat} {xs : List Value} (h : w.ownsRow B 5 1 v n xs) (hg : w.grownBy w' v.ownBlock) (hB : B' ≤ B) (S : List Nat) : Fr B' S w w' :=
  ⟨hg.os,hg.tape,hg.output,hg.size,fun k o hk hS hb => by
    by_cases e : v.ownBlock = some k
    · exfalso
      rcases h.2 with ⟨rfl,-⟩ | ⟨g,cap,cur,rfl,h2,h3,h4⟩
      · cases e
      · obtain rfl : g = k := by simpa [Value.ownBlock] using e
        rw [h3] at hk
        cases hk
        exact hb (by omega) _ _ rfl
    · rw [hg.block k (lt_of_heap hk) (fun e2 => e e2.symm)]; exact hk⟩
def lenV : Value → Nat
  | .slice _ n _ => n
  | _ => 0
theorem ownsRow_len {w : World} {B : Nat} {e : TypeId} {v : Value} {n : Nat} {xs : List Value} (h : w.ownsRow B e 1 v n xs) : lenV v = n := by
  rcases h.2 with ⟨rfl,h2⟩ | ⟨g,cap,cur,rfl,-⟩
  · exact h2.symm
  · rfl
theorem drop_take_app (l : List UInt8) (i p k : Nat) : (l.drop i).take p ++ ((l.drop (i + p)).take k) = (l.drop i).take (p + k) := by
  rw [← List.drop_drop,← List.take_add]
set_option maxHeartbeats 2000000 in
theorem readAll (w : World) (tr r g n c i0 nb0 fr lr : Nat) (pad : Int) (blk : List Value) (bs : List UInt8) (aE : Addr) (h : RD r g n c i0 w) (hf : FRd fr r nb0 w) (ht : TR tr r pad (.iface 146 (.pointer (some ⟨fr,0,none⟩))) blk .nilIface w) (hl : LR lr tr 1048577 w) (hnb : nb0 ≤ 1048576) (hin : i0 + nb0 ≤ n) (hbig : n < 4611686018427387904) (hnc : n ≤ c)
    (hb : bs.length = n) (hsrc : At w g 0 (Lib.byteCells bs)) (hg0 : g < w.heap.size) (hgS : g ∉ [r,fr,lr]) (htS : tr ∉ [r,fr,lr]) (hE : w.cell? ⟨0,0,none⟩ = some (errV aE)) (hE0 : 0 ∉ [r,fr,lr]) :
    Calls Tryz.prog 210 #[.iface 319 (.pointer (some ⟨lr,0,none⟩))] w (AllOut r g n c i0 nb0 fr lr bs w) := by
  have hlr0 : lr < w.heap.size := lt_of_heap hl
  have hfr0 : fr < w.heap.size := lt_of_heap hf
  have hrr0 : r < w.heap.size := by obtain ⟨p,hr⟩ := h; exact lt_of_heap hr
  have htr0 : tr < w.heap.size := lt_of_heap ht.1
  have h00 := block_lt_of_cell hE
  have mr := m_read319
  have nr := na_read319
  have en := fun w' => eql_nil_err w' aE
  have es := fun w' => eql_err_same w' aE
  obtain ⟨i5,hi5,hz0,hz1,hz2⟩ := info_parts info5
  have hS0 : ∀ wz : World,wz = w.alloc (.cells Tryz.zeroCells131 131) → RAS tr r g n c i0 nb0 fr w.heap.size lr bs w (.slice none 0 0) 0 wz := by
    rintro wz rfl
    have hb0 : Below w.heap.size w (w.alloc (.cells Tryz.zeroCells131 131)) := (Below.refl _ w).alloc (Nat.le_refl _) _
    refine ⟨h.below hb0,(hb0.block fr hfr0).trans hf,(hb0.block lr hlr0).trans hl,⟨Tryz.zeroCells131.toList,by rw [Array.toArray_toList]; exact heap_alloc_new w _,by kernel_rfl⟩,?_,Fr.of_below hb0 _ _⟩
    exact World.ownsRow_nil _ _ _ _
  obtain ⟨d,hd0⟩ : ∃ d,d = w.heap.size := ⟨_,rfl⟩
  have HS0 := Lib.hid hS0; have HT := Lib.hid ht; have HSRC := Lib.hid hsrc; have HE := Lib.hid hE
  have HAP := Lib.hid (fun (wx : World) (v : Value) (p k : Nat) (xs : List Value) (ys : List UInt8) (hown : wx.ownsRow (d + 1) 5 1 v p xs) (hys : ys.length = k) (hat : At wx d 0 (Lib.byteCells ys)) (hsm : p + k ≤ 140737488355328) (hdx : d + 1 ≤ wx.heap.size) =>
    run_append_own (P := Tryz.prog) (w := wx) (d + 1) 35 35 5 i5 (.int .u8 0) 1 1 Tryz.underlying35 hi5 hz0 hz1 hz2 rfl (by decide) v p xs hown ⟨d,0,none⟩ k 512 (Lib.byteCells ys) (by rw [Lib.byteCells_length,hys,Nat.mul_one]) hat.src (Lib.byteCells_one _) (by unfold maxLen; omega) (by omega) hdx)
  have HD0 := Lib.hid hd0
  clear hS0 h hf ht hl hsrc hE hi5 hz0 hz1 hz2
  go_enter Tryz.func210,Tryz.ntmps210
  go_wp2_with fail
  have hrs := Lib.hid (HS0.out _ rfl)
  rw [← hd0] at hrs ⊢
  clear HS0 hd0
  generalize w.alloc (.cells Tryz.zeroCells131 131) = wz at *
  go_loopw [4] (fun s4 wr => ∃ (p : Nat) (v : Value),v = s4 ∧ p ≤ nb0 ∧ (p = 0 ∨ p < nb0) ∧ p % 512 = 0 ∧ Hid (RAS tr r g n c i0 nb0 fr d lr bs w v p wr)) (fun v _ => nb0 - lenV v)
  case atStart => exact ⟨0,_,rfl,by omega,.inl rfl,by omega,hrs⟩
  case round =>
    obtain ⟨p,v,rfl,hp,hpl,hmod,hS⟩ := hrel
    obtain ⟨cur,hcur,hcl⟩ := hS.out.D
    obtain ⟨k,hk⟩ : ∃ k,k = min 512 (nb0 - p) := ⟨_,rfl⟩
    have hdw0 : w.heap.size = d := HD0.out.symm
    have hN : (512 : Int) ≤ 1048577 - p := by omega
    have hT2 : TR tr r pad (.iface 146 (.pointer (some ⟨fr,0,none⟩))) blk .nilIface wr.drew := HT.out.fr (S := [r,d,fr,lr]) hS.out.K.drew (by simp at htS ⊢; omega)
    have hA2 : At wr.drew g 0 (Lib.byteCells bs) := HSRC.out.frame (w' := wr.drew) (S := [r,d,fr,lr]) hS.out.K.drew (Nat.le_refl _) (by simp at hgS ⊢; omega)
    have hE2 : wr.drew.cell? ⟨0,0,none⟩ = some (errV aE) := hS.out.K.drew.cell HE.out (by simp at hE0 ⊢; omega) h00
    have HC := Lib.hid (lrRead wr.drew tr r g n c (i0 + p) k (nb0 - p) fr d lr (1048577 - p) pad blk bs cur 131 aE hS.out.R hS.out.F hT2 hS.out.L hN (by omega) hk (by omega) hbig hnc hb hA2 hcur (by omega) (by omega) (by simp at hgS; omega) (by omega) (by omega) (by omega) hE2 (by simp at hE0 ⊢; omega))
    have hk5 : (k : Int) ≤ 512 := by omega
    have hsl := fun wx => slice131 wx d k (by omega)
    clear hdw0
    have HK := Lib.hid hk
    have hdb : d < wr.heap.size := lt_of_heap hcur
    have HS := Lib.hid hS.out
    have HS0 := HS
    clear hrs hcur hk hS hT2 hA2 hE2 hN
    go_wp2_with fail
    go_region_held3 (fun _ => True) (trivial) (first | (go_at_call 360; refine HC.out.mono ?_; rintro e w1 ⟨rfl,g1,g2,g3,g4,g5⟩))
    have g6 : Fr wr.heap.size [r,d,fr,lr] wr w1 := (Fr.refl _ _ wr).drew.trans g5
    have hsz1 : wr.heap.size ≤ w1.heap.size := g6.size
    have hke : k ≤ nb0 - p := by have := HK.out; omega
    have hdw := HD0.out
    have hlen : ((bs.drop (i0 + p)).take k).length = k := by rw [List.length_take,List.length_drop,hb]; omega
    have hown1 : w1.ownsRow (d + 1) 5 1 v p (Lib.byteCells ((bs.drop i0).take p)) := ownsRow_fr HS.out.A g6 (by simp; omega) (Nat.le_refl _)
    have hat1 : At w1 d 0 (Lib.byteCells ((bs.drop (i0 + p)).take k)) := At.of_heap g3 (fun j u hj => by
      have hj2 := (List.getElem?_eq_some_iff.1 hj).1
      rw [Nat.zero_add,List.getElem?_toArray,splice,List.take_zero,List.nil_append,List.getElem?_append_left hj2]
      exact hj)
    obtain ⟨v2,w2,hr,ho2,hgr2,-⟩ := HAP.out w1 v p k _ ((bs.drop (i0 + p)).take k) hown1 hlen hat1 (by omega) (by omega)
    have hf2 : Fr w.heap.size [r,d,fr,lr] w1 w2 := own_fr hown1 hgr2 (by omega) _
    have hf2n : Fr (d + 1) [] w1 w2 := own_fr hown1 hgr2 (Nat.le_refl _) _
    have hf1 : Fr w.heap.size [r,d,fr,lr] wr w1 := ⟨g6.os,g6.tape,g6.output,g6.size,fun q o hq hS hB => g6.block q o hq hS (fun hB2 => hB (Nat.le_trans HS.out.K.size hB2))⟩
    have hnext : RAS tr r g n c i0 nb0 fr d lr bs w v2 (p + k) w2 := by
      refine ⟨?_,?_,?_,?_,?_,(HS.out.K.trans hf1).trans hf2⟩
      · rw [show i0 + (p + k) = i0 + p + k by omega]; exact g1.fr hf2n (by simp)
      · rw [show nb0 - (p + k) = nb0 - p - k by omega]; exact hf2n.cells g2 (by simp) (.inr (by decide))
      · rw [show (1048577 : Int) - ((p + k : Nat) : Int) = 1048577 - p - k by omega]; exact hf2n.cells g4 (by simp) (.inr (by decide))
      · refine ⟨_,hf2n.cells g3 (by simp) (.inl (by omega)),?_⟩
        have e : (Lib.byteCells ((bs.drop (i0 + p)).take k)).length = k := by rw [Lib.byteCells_length,hlen]
        simp only [splice,List.take_zero,List.nil_append,List.length_append,List.length_drop,e,hcl]
        omega
      · rw [← Lib.byteCells_append,drop_take_app] at ho2; exact ho2
    have hE2 : w2.cell? ⟨0,0,none⟩ = some (errV aE) := hnext.K.cell HE.out (by simp at hE0 ⊢; omega) h00
    have HN := Lib.hid hnext
    clear g1 g2 g3 g4 g5 g6 hown1 hat1 ho2 hgr2 hf2 hf2n hf1 hnext HC HS hlen hdw hdb HAP hke hsz1 hcl hpl
    by_cases hl : nb0 - p = k
    · have eE : endErr (nb0 - p) k aE = errV aE := if_pos hl
      rw [eE]
      clear eE
      go_wp2_with (first | (at_builtin; refine wpList_app_run rfl (.tmp 17) (.tmp 19) 35 rfl _ _ rfl rfl v2 w2 hr ?_) | fail)
      go_ret2
      have hpk : p + k = nb0 := by omega
      have hdw := HD0.out
      have hn := HN.out
      rw [hpk] at hn
      refine ⟨v2,rfl,hn.R,?_,ownsRow_low hn.A (by omega),hn.K.wide (Nat.le_refl _) (fun q hq hq2 => by simp at hq ⊢; omega)⟩
      have := hn.F
      rwa [Nat.sub_self] at this
    · have eE : endErr (nb0 - p) k aE = .nilIface := if_neg hl
      have hk512 := Lib.hid (show k = 512 by have := HK.out; omega)
      rw [eE]
      clear eE
      go_wp2_with (first | (at_builtin; refine wpList_app_run rfl (.tmp 17) (.tmp 19) 35 rfl _ _ rfl rfl v2 w2 hr ?_) | fail)
      go_roundw
      case rel => exact ⟨p + k,v2,rfl,(by have := HK.out; omega),.inr (by have := HK.out; omega),(by have := hk512.out; omega),HN⟩
      case measure =>
        have hlv := ownsRow_len HN.out.A
        have hlv0 := ownsRow_len HS0.out.A
        have := hk512.out
        have := HK.out
        rw [hlv,hlv0]
        omega
end Go.Proofs.YtkanmkcojlefbaaGreatDoor
namespace Go.Proofs.YtkanmkcojlefbaaGreatDoor
open Go.RowKit Go.Lib
theorem look_none {w : World} {v : Value} {R : KV} {B : Nat} (h : RecMap w v R B) (k : List UInt8) (hk : R k = none) (hl : k.length ≤ 100) : (Instr.lookup 127 v (str k) false).run Tryz.prog w = .ok (str []) w := by
  rcases h with ⟨rfl,h⟩ | ⟨rb,n,rfl,-,h,-⟩
  · exact nil_look1 w 127 und127 k (by omega)
  · have := h.look1 und127 k (by omega)
    rw [hk] at this
    exact this
def kMajor : List UInt8 := [71,78,85,46,115,112,97,114,115,101,46,109,97,106,111,114]
def kMinor : List UInt8 := [71,78,85,46,115,112,97,114,115,101,46,109,105,110,111,114]
def kMap : List UInt8 := [71,78,85,46,115,112,97,114,115,101,46,109,97,112]
def kOff : List UInt8 := [71,78,85,46,115,112,97,114,115,101,46,111,102,102,115,101,116]
def kNum : List UInt8 := [71,78,85,46,115,112,97,114,115,101,46,110,117,109,98,121,116,101,115]
theorem gnuPax (w : World) (tr hb B : Nat) (H : Hd) (R : KV) (hh : w.heap[hb]? = some (.cells H.cells.toArray 130 (0,0))) (hr : RecMap w H.recs R B) (h1 : R kMajor = none) (h2 : R kMinor = none) (h3 : R kMap = none) :
    Calls Tryz.prog 214 #[.pointer (some ⟨tr,0,none⟩),.pointer (some ⟨hb,0,none⟩)] w fun e w' => e = .returned (.tuple #[.slice none 0 0,.nilIface]) ∧ Drew w w' := by
  have l1 : ∀ q,(Instr.lookup 127 H.recs (.string ⟨#[71,78,85,46,115,112,97,114,115,101,46,109,97,106,111,114]⟩) false).run Tryz.prog (w.drewN q) = .ok (str []) (w.drewN q) := fun q => look_none (w := w.drewN q) (B := B) hr kMajor h1 (by decide)
  have l2 : ∀ q,(Instr.lookup 127 H.recs (.string ⟨#[71,78,85,46,115,112,97,114,115,101,46,109,105,110,111,114]⟩) false).run Tryz.prog (w.drewN q) = .ok (str []) (w.drewN q) := fun q => look_none (w := w.drewN q) (B := B) hr kMinor h2 (by decide)
  have l3 : ∀ q,(Instr.lookup 127 H.recs (.string ⟨#[71,78,85,46,115,112,97,114,115,101,46,109,97,112]⟩) false).run Tryz.prog (w.drewN q) = .ok (str []) (w.drewN q) := fun q => look_none (w := w.drewN q) (B := B) hr kMap h3 (by decide)
  have c18 : w.cell? ⟨hb,18,none⟩ = some H.recs := by rw [Lib.cell_of_heap hh]; rfl
  have l10 : (Instr.lookup 127 H.recs (.string ⟨#[71,78,85,46,115,112,97,114,115,101,46,109,97,106,111,114]⟩) false).run Tryz.prog w.drew = .ok (str []) w.drew := l1 1
  have l20 : (Instr.lookup 127 H.recs (.string ⟨#[71,78,85,46,115,112,97,114,115,101,46,109,105,110,111,114]⟩) false).run Tryz.prog w.drew = .ok (str []) w.drew := l2 1
  have l30 : (Instr.lookup 127 H.recs (.string ⟨#[71,78,85,46,115,112,97,114,115,101,46,109,97,112]⟩) false).run Tryz.prog w.drew = .ok (str []) w.drew := l3 1
  clear hr h1 h2 h3 hh l1 l2 l3
  generalize H.recs = rv at *
  go_enter Tryz.func214,Tryz.ntmps214
  go_wp2_with fail
  go_region
  all_goals (go_wp2_with fail; go_ret2; exact ⟨rfl,(Drew.refl w).next 1⟩)
theorem handleSparse (w : World) (tr hb B : Nat) (H : Hd) (R : KV) (raw : Value) (hh : w.heap[hb]? = some (.cells H.cells.toArray 130 (0,0))) (hr : RecMap w H.recs R B) (ht : H.typ ≠ 83) (h1 : R kMajor = none) (h2 : R kMinor = none) (h3 : R kMap = none) :
    Calls Tryz.prog 154 #[.pointer (some ⟨tr,0,none⟩),.pointer (some ⟨hb,0,none⟩),raw] w fun e w' => e = .returned .nilIface ∧ Drew w w' := by
  have h := gnuPax w tr hb B H R hh hr h1 h2 h3
  have c0 : w.cell? ⟨hb,0,none⟩ = some (.int .u8 H.typ) := by rw [Lib.cell_of_heap hh]; rfl
  have q : (H.typ == 83) = false := by rw [beq_eq_false_iff_ne]; exact ht
  clear hh hr h1 h2 h3 ht
  go_enter Tryz.func154,Tryz.ntmps154
  go_wp2_with fail
  refine h.mono ?_
  rintro e w1 ⟨rfl,hd⟩
  go_wp2_with fail
  go_ret
  exact ⟨rfl,hd⟩
theorem limitReader (w : World) (tr : Nat) (N : Int) : Calls Tryz.prog 211 #[.iface 82 (.pointer (some ⟨tr,0,none⟩)),.int .i64 N] w fun e w' => e = .returned (.iface 319 (.pointer (some ⟨w.heap.size,0,none⟩))) ∧ LR w.heap.size tr N w' ∧ Below w.heap.size w w' := by
  go_enter Tryz.func211,Tryz.ntmps211
  go_wp2_with fail
  go_ret
  exact ⟨rfl,heap_alloc_new w _,(Below.refl _ _).alloc (Nat.le_refl _) _⟩
def SpecOut (r g n c i0 nb0 fr : Nat) (bs : List UInt8) (w : World) (e : Ending) (w' : World) : Prop :=
  ∃ v,e = .returned (.tuple #[v,.nilIface]) ∧ RD r g n c (i0 + nb0) w' ∧ FRd fr r 0 w' ∧ w'.ownsRow w.heap.size 5 1 v nb0 (Lib.byteCells ((bs.drop i0).take nb0)) ∧ Fr w.heap.size [r,fr] w w'
theorem readSpecial (w : World) (tr r g n c i0 nb0 fr : Nat) (pad : Int) (blk : List Value) (bs : List UInt8) (aE : Addr) (h : RD r g n c i0 w) (hf : FRd fr r nb0 w) (ht : TR tr r pad (.iface 146 (.pointer (some ⟨fr,0,none⟩))) blk .nilIface w) (hnb : nb0 ≤ 1048576) (hin : i0 + nb0 ≤ n) (hbig : n < 4611686018427387904) (hnc : n ≤ c)
    (hb : bs.length = n) (hsrc : At w g 0 (Lib.byteCells bs)) (hg0 : g < w.heap.size) (hgS : g ∉ [r,fr]) (htS : tr ∉ [r,fr]) (hE : w.cell? ⟨0,0,none⟩ = some (errV aE)) (hE0 : 0 ∉ [r,fr]) :
    Calls Tryz.prog 152 #[.iface 82 (.pointer (some ⟨tr,0,none⟩))] w (SpecOut r g n c i0 nb0 fr bs w) := by
  have hrr0 : r < w.heap.size := by obtain ⟨p,hr⟩ := h; exact lt_of_heap hr
  have hfr0 : fr < w.heap.size := lt_of_heap hf
  have htr0 : tr < w.heap.size := lt_of_heap ht.1
  have h00 := block_lt_of_cell hE
  have H := Lib.hid h; have HF := Lib.hid hf; have HT := Lib.hid ht; have HS := Lib.hid hsrc; have HE := Lib.hid hE
  clear h hf ht hsrc hE
  go_enter Tryz.func152,Tryz.ntmps152
  go_wp2_with fail
  refine (limitReader w tr 1048577).mono ?_
  rintro e w1 ⟨rfl,hl1,hb1⟩
  have HRA := Lib.hid (readAll w1 tr r g n c i0 nb0 fr w.heap.size pad blk bs aE (H.out.below hb1) ((hb1.block fr hfr0).trans HF.out) (HT.out.below hb1) hl1 hnb hin hbig hnc hb (HS.out.carry (hb1.block g hg0)) (Nat.lt_of_lt_of_le hg0 hb1.size) (by simp at hgS ⊢; omega) (by simp at htS ⊢; omega) ((hb1.cell h00).trans HE.out) (by simp at hE0 ⊢; omega))
  have HB1 := Lib.hid hb1
  clear hl1 hb1
  go_wp2_with fail
  refine HRA.out.mono ?_
  rintro e w2 ⟨v,rfl,g1,g2,g3,g4⟩
  have hsz := HB1.out.size
  have hF : Fr w.heap.size [r,fr] w w2 := ((Fr.of_below HB1.out w.heap.size [r,fr,w.heap.size]).trans (g4.wide hsz (fun k hk _ => hk))).wide (Nat.le_refl _) (fun k hk hk2 => by simp at hk ⊢; omega)
  obtain ⟨a,cp,hv⟩ : ∃ a cp,v = .slice a nb0 cp := by
    rcases g3.2 with ⟨h1,h2⟩ | ⟨gg,cap,cur,h1,-⟩
    · exact ⟨none,0,by rw [h1,h2]⟩
    · exact ⟨_,cap,h1⟩
  have hfin : SpecOut r g n c i0 nb0 fr bs w (.returned (.tuple #[v,.nilIface])) w2 := ⟨v,rfl,g1,g2,ownsRow_low g3 hsz,hF⟩
  rw [hv] at hfin ⊢
  have HFIN := Lib.hid hfin
  have hnbi : ¬ (1048576 : Int) < (nb0 : Int) := by omega
  clear hfin g1 g2 g3 g4 hF hv hsz HRA
  go_wp2_with fail
  go_ret2
  exact HFIN.out
def RecsOk (L : List (List UInt8 × List UInt8)) : Prop := ∀ p ∈ L,validRec p.1 p.2 = true ∧ p.1 ≠ kOff ∧ p.1 ≠ kNum
theorem recsB_len : ∀ L : List (List UInt8 × List UInt8),RecsOk L → L.length ≤ (recsB L).length
  | [],_ => Nat.zero_le _
  | p::L,h => by
    have h1 := recsB_len L (fun q hq => h q (List.mem_cons_of_mem _ hq))
    have h2 := recLen_ge p.1 p.2 (List.length_pos_iff.2 (validRec_parts (h p List.mem_cons_self).1).1)
    rw [recsB_cons,List.length_append,recB_length,List.length_cons]
    omega
def lenS : Value → Nat
  | .string s => s.size
  | _ => 0
def PPS (L : List (List UInt8 × List UInt8)) (mb j : Nat) (w0 w : World) : Prop := SMap w mb j (putAll (fun _ => none) (L.take j)) ∧ Below mb w0 w
def PaxOut (r g n c i0 nb0 fr : Nat) (L : List (List UInt8 × List UInt8)) (w : World) (e : Ending) (w' : World) : Prop :=
  ∃ mb,e = .returned (.tuple #[.map (some mb),.nilIface]) ∧ w.heap.size ≤ mb ∧ SMap w' mb L.length (putAll (fun _ => none) L) ∧ RD r g n c (i0 + nb0) w' ∧ FRd fr r 0 w' ∧ Fr w.heap.size [r,fr] w w'
set_option maxHeartbeats 1000000 in
theorem parsePAX (w : World) (tr r g n c i0 nb0 fr : Nat) (pad : Int) (blk : List Value) (bs : List UInt8) (aE : Addr) (L : List (List UInt8 × List UInt8)) (h : RD r g n c i0 w) (hf : FRd fr r nb0 w) (ht : TR tr r pad (.iface 146 (.pointer (some ⟨fr,0,none⟩))) blk .nilIface w) (hnb : nb0 ≤ 1048576) (hin : i0 + nb0 ≤ n) (hbig : n < 4611686018427387904) (hnc : n ≤ c)
    (hb : bs.length = n) (hsrc : At w g 0 (Lib.byteCells bs)) (hg0 : g < w.heap.size) (hgS : g ∉ [r,fr]) (htS : tr ∉ [r,fr]) (hE : w.cell? ⟨0,0,none⟩ = some (errV aE)) (hE0 : 0 ∉ [r,fr]) (hL : (bs.drop i0).take nb0 = recsB L) (hn0 : 0 < nb0) (hok : RecsOk L) :
    Calls Tryz.prog 150 #[.iface 82 (.pointer (some ⟨tr,0,none⟩))] w (PaxOut r g n c i0 nb0 fr L w) := by
  have HC := Lib.hid (readSpecial w tr r g n c i0 nb0 fr pad blk bs aE h hf ht hnb hin hbig hnc hb hsrc hg0 hgS htS hE hE0)
  have hrr0 : r < w.heap.size := by obtain ⟨p,hr⟩ := h; exact lt_of_heap hr
  have hfr0 : fr < w.heap.size := lt_of_heap hf
  have hlen : (recsB L).length = nb0 := by rw [← hL,List.length_take,List.length_drop,hb]; omega
  have hmm := @run_makeMap Tryz.prog
  have HLL := Lib.hid hL; have HOK := Lib.hid hok; have HLEN := Lib.hid hlen
  clear h hf ht hsrc hE hL hok hlen
  go_enter Tryz.func150,Tryz.ntmps150
  go_wp2_with fail
  refine HC.out.mono ?_
  rintro e w1 ⟨v,rfl,g1,g2,g3,g4⟩
  obtain ⟨gg,cp,hv,hgg,hcur⟩ : ∃ gg cp,v = .slice (some ⟨gg,0,none⟩) nb0 cp ∧ gg < w1.heap.size ∧ At w1 gg 0 (Lib.byteCells (recsB L)) := by
    rcases g3.2 with ⟨h1,h2⟩ | ⟨gg,cap,cur,h1,h2,h3,h4,h5,h6,h7⟩
    · omega
    · refine ⟨gg,cap,h1,lt_of_heap h3,At.of_heap h3 (fun j u hj => ?_)⟩
      rw [HLL.out] at h7
      rw [← h7,List.getElem?_take] at hj
      split at hj
      · rw [Nat.zero_add]; simpa using hj
      · cases hj
  have hcv := convBytes w1 gg 0 cp (recsB L) hcur
  rw [HLEN.out] at hcv
  have hmade := SMap.made w1
  have hbm : Below w1.heap.size w1 (w1.alloc (.map #[] 0)) := (Below.refl _ w1).alloc (Nat.le_refl _) _
  have HPS0 : Hid (PPS L w1.heap.size 0 w1 (w1.alloc (.map #[] 0))) := Lib.hid ⟨hmade,hbm⟩
  have HG := Lib.hid (And.intro g1 (And.intro g2 g4))
  have hsz1 : w.heap.size ≤ w1.heap.size := g4.size
  rw [hv]
  clear g1 g2 g3 g4 hv hmade hbm hcur HC
  go_wp2_with fail
  clear hcv hmm
  obtain ⟨mb,hmb⟩ : ∃ mb,mb = w1.heap.size := ⟨_,rfl⟩
  rw [← hmb] at HPS0 ⊢
  have HMB := Lib.hid hmb
  clear hmb
  generalize w1.alloc (.map #[] 0) = wz at *
  go_loopw [6,7] (fun s6 s7 wr => ∃ j : Nat,j ≤ L.length ∧ s6 = str (recsB (L.drop j)) ∧ s7 = .slice none 0 0 ∧ Hid (PPS L mb j w1 wr)) (fun s6 _ _ => lenS s6)
  case atStart => exact ⟨0,by omega,rfl,rfl,HPS0⟩
  case round =>
    obtain ⟨j,hj,rfl,rfl,hS⟩ := hrel
    by_cases hlt : j < L.length
    · have hd : recsB (L.drop j) = recB L[j].1 L[j].2 ++ recsB (L.drop (j + 1)) := by rw [List.drop_eq_getElem_cons hlt,recsB_cons]
      have hput : putAll (fun _ => none) (L.take (j + 1)) = putF (putAll (fun _ => none) (L.take j)) L[j].1 L[j].2 := by
        rw [List.take_succ_eq_append_getElem hlt,putAll_app]; rfl
      obtain ⟨hval,hk1,hk2⟩ := HOK.out _ (List.getElem_mem hlt)
      have hle : (recsB (L.drop j)).length ≤ nb0 := by
        have h1 : recsB L = recsB (L.take j) ++ recsB (L.drop j) := by rw [← recsB_app,List.take_append_drop]
        have h2 := HLEN.out
        rw [h1,List.length_append] at h2; omega
      rw [hd] at hle ⊢
      generalize hk : L[j].1 = k at *
      generalize hv2 : L[j].2 = v2 at *
      generalize hrest : recsB (L.drop (j + 1)) = rest at *
      have hpr := fun wx => parseRec wx k v2 rest hval (by omega)
      have hrl : 5 ≤ (recB k v2).length := by rw [recB_length]; exact recLen_ge k v2 (List.length_pos_iff.2 (validRec_parts hval).1)
      have hkl : k.length + v2.length ≤ (recB k v2).length := by rw [recB_length]; have := recLen_eq k v2; omega
      have hlen2 : (recB k v2 ++ rest).length = (recB k v2).length + rest.length := List.length_append
      generalize recB k v2 ++ rest = s at *
      have hpos : (0 : Int) < (s.length : Int) := by omega
      have HPR := Lib.hid hpr; have HPUT := Lib.hid hput; have HST := Lib.hid hS.out; have HREST := Lib.hid hrest; have HLE := Lib.hid hle; have HKL := Lib.hid hkl; have HL2 := Lib.hid hlen2; have HRL := Lib.hid hrl
      have q1 : (k == [71,78,85,46,115,112,97,114,115,101,46,111,102,102,115,101,116]) = false := by rw [beq_eq_false_iff_ne]; exact hk1
      have q2 : (k == [71,78,85,46,115,112,97,114,115,101,46,110,117,109,98,121,116,101,115]) = false := by rw [beq_eq_false_iff_ne]; exact hk2
      clear hd hput hval hle hk hv2 hrest hpr hrl hkl hlen2 hS HPS0 hk1 hk2
      go_wp2_with fail
      refine (HPR.out _).mono ?_
      rintro e w2 ⟨rfl,hb2⟩
      obtain ⟨hm,hbl⟩ := HST.out
      have hsm := hm.below hb2
      obtain ⟨w9,hup,hm9,hf9⟩ := hsm.update und127 (by have := HLEN.out; have := recsB_len L HOK.out; omega) k v2 (by have := HLE.out; have := HKL.out; have := HL2.out; omega) (by have := HLE.out; have := HKL.out; have := HL2.out; omega)
      have hnew : PPS L mb (j + 1) w1 w9 := ⟨by rw [HPUT.out]; exact hm9,(hbl.trans (hb2.mono (Nat.le_of_lt hm.lt))).trans (hf9.below_of (Nat.le_of_lt hsm.lt) (by simp))⟩
      have HN := Lib.hid hnew
      clear hm hbl hsm hb2 hm9 hf9 hnew HST
      go_wp2_with fail
      go_roundw
      case rel => exact ⟨j + 1,by omega,by rw [HREST.out],rfl,HN⟩
      case measure =>
        show lenS (str rest) < lenS (str s)
        have := HL2.out; have := HRL.out
        simp only [lenS,str_size]
        omega
    · obtain rfl : j = L.length := by omega
      have hd : recsB (L.drop L.length) = [] := by rw [List.drop_length]; rfl
      rw [hd]
      have HST := Lib.hid hS.out
      clear hS HPS0 hd
      go_wp2_with fail
      go_ret2
      obtain ⟨hm,hbl⟩ := HST.out
      rw [List.take_length] at hm
      obtain ⟨g1,g2,g4⟩ := HG.out
      have hmb := HMB.out
      subst hmb
      exact ⟨w1.heap.size,rfl,hsz1,hm,g1.below hbl,(hbl.block fr (lt_of_heap g2)).trans g2,g4.trans (Fr.of_below hbl _ _)⟩
end Go.Proofs.YtkanmkcojlefbaaGreatDoor
