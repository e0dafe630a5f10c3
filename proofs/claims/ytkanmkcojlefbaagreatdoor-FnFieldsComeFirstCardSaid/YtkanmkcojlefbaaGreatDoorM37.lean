/-
  Part of the proof; holds the texts Ref6, Ref7.
-/
import Derived.Test.YtkanmkcojlefbaaGreatDoorM35
import Derived.Test.YtkanmkcojlefbaaGreatDoorM36
set_option maxRecDepth 100000
set_option linter.unusedSimpArgs false
set_option linter.unusedVariables false
namespace Go.Proofs.YtkanmkcojlefbaaGreatDoor
open Go.RowKit
def KeysOut (w : World) (e : Ending) (w' : World) : Prop := ∃ g,e = .returned (.slice (some ⟨g,0,none⟩) 10 10) ∧ At w' g 0 (tenKeys.map str) ∧ w.heap.size ≤ g ∧ g < w'.heap.size ∧ Below w.heap.size w w'
theorem specKeys (w : World) : Calls Tryz.prog 22 #[] w (KeysOut w) := by
  have hat := Lib.hid (at_new w (tenKeys.map str) 9)
  have hb := Lib.hid (fun o => (Below.refl w.heap.size w).alloc (Nat.le_refl _) o)
  have hl := Lib.hid (fun o => lt_of_heap (heap_alloc_new w o))
  go_enter Tryz.func22,Tryz.ntmps22
  go_wp2_with fail
  go_ret
  exact ⟨w.heap.size,rfl,hat.out,Nat.le_refl _,hl.out _,hb.out _⟩
theorem und29 : Tryz.prog.underlying 29 = some (.slice 108) := Tryz.underlying29
theorem info108 : (Tryz.prog.info? 108).map (fun i => (i.zero,i.size,i.bytes)) = some (some (.agg #[str [],str []]),2,32) := by kernel_rfl
theorem own_recsT {T : TypeId} {w : World} {B : Nat} {rv : Value} {L : List (List UInt8 × List UInt8)} (h : w.ownsRow B T 2 rv L.length (cells2 L)) : RecS w rv L := by
  rcases h.2 with ⟨rfl,h0⟩ | ⟨g,cap,cur,rfl,h2,h3,h4,h5,h6,h7⟩
  · have : L = [] := List.eq_nil_of_length_eq_zero h0
    subst this
    exact ⟨none,0,rfl,fun j hj => absurd hj (Nat.not_lt_zero _)⟩
  · refine ⟨_,cap,rfl,fun j hj => ⟨g,0,rfl,lt_of_heap h3,?_⟩⟩
    obtain ⟨e1,e2⟩ := cells2_get L j hj
    rw [← h7] at e1 e2
    rw [List.getElem?_take] at e1 e2
    constructor
    · rw [Nat.zero_add,Lib.cell_of_heap h3]
      split at e1
      · simpa using e1
      · cases e1
    · rw [Nat.zero_add,Lib.cell_of_heap h3]
      split at e2
      · simpa using e2
      · cases e2
theorem appendPair {T ts : TypeId} (hu : Tryz.prog.underlying ts = some (.slice T)) (hi : (Tryz.prog.info? T).map (fun i => (i.zero,i.size,i.bytes)) = some (some (.agg #[str [],str []]),2,32)) {w : World} {B n : Nat} {v : Value} {xs : List Value} (hown : w.ownsRow B T 2 v n xs) (g : Nat) (a b : List UInt8) (hg : At w g 0 [str a,str b]) (hn : n ≤ 4294967296) (hB : B ≤ w.heap.size) :
    ∃ v2 w2,(Builtin.append_ #[ts,ts] ts #[v,.slice (some ⟨g,0,none⟩) 1 1]).run Tryz.prog w = .ok v2 w2 ∧ w2.ownsRow B T 2 v2 (n + 1) (xs ++ [str a,str b]) ∧ (∀ w0,Below B w0 w → Below B w0 w2) ∧ w.heap.size ≤ w2.heap.size ∧ (∀ (k : Nat) (o : Obj),w.heap[k]? = some o → (∀ c fz,o ≠ .cells c T fz) → w2.heap[k]? = some o) := by
  obtain ⟨i5,hi5,hz0,hz1,hz2⟩ := info_parts hi
  have hnw : ∀ j u,([str a,str b] : List Value)[j]? = some u → w.cell? ((⟨g,0,none⟩ : Addr).add j) = some u := hg.src
  obtain ⟨v2,w2,hr,ho2,hgr2,-⟩ := run_append_own (P := Tryz.prog) w B ts ts T i5 (.agg #[str [],str []]) 2 32 hu hi5 hz0 hz1 hz2 rfl (by omega) v n xs hown ⟨g,0,none⟩ 1 1 [str a,str b] rfl hnw (by intro u hu; simp at hu; rcases hu with rfl | rfl <;> rfl) (by simp only [maxLen]; omega) (by omega) hB
  have hne : ∀ (k : Nat) (o : Obj),w.heap[k]? = some o → (∀ c fz,o ≠ .cells c T fz) → v.ownBlock ≠ some k := by
    intro k o hk ho e
    rcases hown.2 with ⟨rfl,-⟩ | ⟨g,cap,cur,rfl,h2,h3,h4⟩
    · cases e
    · cases e
      rw [hk] at h3
      injection h3 with h3
      exact ho _ _ h3
  refine ⟨v2,w2,hr,ho2,fun w0 hb => ⟨hgr2.os.trans hb.os,hgr2.tape.trans hb.tape,hgr2.output.trans hb.output,Nat.le_trans hb.size hgr2.size,fun k hk => ?_⟩,hgr2.size,fun k o hk ho => (hgr2.block k (lt_of_heap hk) (fun e => hne k o hk ho e.symm)).trans hk⟩
  have hne2 : v.ownBlock ≠ some k := by
    intro e
    rcases hown.2 with ⟨rfl,-⟩ | ⟨g,cap,cur,rfl,h2,h3,h4⟩
    · cases e
    · cases e; have h9 : g < B := hk; omega
  exact (hgr2.block k (Nat.lt_of_lt_of_le hk hB) (fun e => hne2 e.symm)).trans (hb.block k hk)
theorem own_belowT {w w' : World} {B : Nat} {T : TypeId} {s : Nat} {v : Value} {n : Nat} {xs : List Value} (h : w.ownsRow B T s v n xs) (f : Below w.heap.size w w') : w'.ownsRow B T s v n xs := own_below h f
def RecsOut (L : List (List UInt8 × List UInt8)) (w : World) (e : Ending) (w' : World) : Prop := ∃ rv,e = .returned rv ∧ RecS w' rv L ∧ rv.oneCell' = true ∧ (∀ p n c,rv = .slice (some p) n c → w.heap.size ≤ p.block) ∧ Below w.heap.size w w'
theorem own_at {T : TypeId} {w : World} {B m : Nat} {rv : Value} {xs : List Value} (h : w.ownsRow B T 2 rv m xs) : ∀ p n c,rv = .slice (some p) n c → B ≤ p.block := by
  intro p n c e
  rcases h.2 with ⟨h0,-⟩ | ⟨g,cap,cur,h1,h2,-⟩
  · rw [h0] at e; cases e
  · rw [h1] at e; cases e; exact h2
theorem recS_one {w : World} {v : Value} {L : List (List UInt8 × List UInt8)} (h : RecS w v L) : v.oneCell' = true := by
  obtain ⟨p,c,rfl,-⟩ := h; rfl
set_option maxHeartbeats 4000000 in
theorem specRecords (v : Value) (L : List (List UInt8 × List UInt8)) (w : World) (hL : RecS w v L) (hLl : L.length ≤ 4294967296) : Calls Tryz.prog 28 #[v] w (RecsOut L w) := by
  obtain ⟨p,c,rfl,hcl⟩ := hL
  have HCL := Lib.hid hcl
  clear hcl
  go_enter Tryz.func28,Tryz.ntmps28
  go_wp2_with fail
  go_loopw [8,3] (fun s8 s3 wr => ∃ k : Nat,s8 = .int .i64 k ∧ k ≤ L.length ∧ Hid (wr.ownsRow w.heap.size 108 2 s3 k (cells2 (L.take k))) ∧ Hid (Below w.heap.size w wr)) (fun s8 _ _ => L.length - (intOf s8).toNat)
  case atStart => exact ⟨0,rfl,Nat.zero_le _,Lib.hid (World.ownsRow_nil _ _ _ _),Lib.hid (Below.refl _ _)⟩
  case round =>
    obtain ⟨k,rfl,hk,hO,hB⟩ := hrel
    by_cases hlt : k < L.length
    · obtain ⟨rg,ro,rfl,hrg,k1,k2⟩ := HCL.out k hlt
      have ck : wr.cell? ⟨rg,ro + k * 2,none⟩ = some (str L[k].1) := (hB.out.cell (p := ⟨rg,ro + k * 2,none⟩) hrg).trans k1
      have cv : wr.cell? ⟨rg,ro + k * 2 + 1,none⟩ = some (str L[k].2) := (hB.out.cell (p := ⟨rg,ro + k * 2 + 1,none⟩) hrg).trans k2
      have HT : Hid (cells2 (L.take (k + 1)) = cells2 (L.take k) ++ [str L[k].1,str L[k].2]) := Lib.hid (by
        rw [List.take_succ_eq_append_getElem hlt,cells2_append]; rfl)
      clear k1 k2
      generalize L[k].1 = kk at *
      generalize L[k].2 = vv at *
      go_upto_region 5 with fail
      have hbA : Below wr.heap.size wr (wr.alloc (.cells #[str kk,str vv] 59)) := (Below.refl _ wr).alloc (Nat.le_refl _) _
      obtain ⟨wA,hwA⟩ : ∃ wA,wA = wr.alloc (.cells #[str kk,str vv] 59) := ⟨_,rfl⟩
      have d0 : wA.cell? ⟨wr.heap.size,0,none⟩ = some (str kk) := by rw [hwA,Lib.cell_of_heap (heap_alloc_new wr _)]; rfl
      have d1 : wA.cell? ⟨wr.heap.size,1,none⟩ = some (str vv) := by rw [hwA,Lib.cell_of_heap (heap_alloc_new wr _)]; rfl
      rw [← hwA] at hbA ⊢
      have hbB : Below wA.heap.size wA (wA.alloc (.cells #[str kk,str vv] 108)) := (Below.refl _ wA).alloc (Nat.le_refl _) _
      have hBA := hB.out.trans (hbA.mono hB.out.size)
      have hBB := hBA.trans (hbB.mono hBA.size)
      obtain ⟨v2,w2,hr,ho2,hb2,hs2,-⟩ := appendPair und29 info108 (own_belowT (own_belowT hO.out hbA) hbB) wA.heap.size kk vv (at_new wA [str kk,str vv] 108) (by omega) hBB.size
      have HR := Lib.hid hr
      have HO2 : Hid (w2.ownsRow w.heap.size 108 2 v2 (k + 1) (cells2 (L.take (k + 1)))) := Lib.hid (by rw [HT.out]; exact ho2)
      have HB2 := Lib.hid (hb2 w hBB)
      clear hr ho2 hb2 hbA hbB hBA hBB hwA ck cv hs2
      go_wp2_with (first | (at_builtin; refine wpList_app_run rfl (.tmp 12) (.tmp 18) 29 rfl _ _ rfl rfl _ w2 HR.out ?_) | fail)
      go_roundw
      case rel => exact ⟨k + 1,by go_num,by omega,HO2,HB2⟩
      case measure => simp [intOf]; omega
    · obtain rfl : k = L.length := by omega
      rw [List.take_length] at hO
      go_wp2_with fail
      go_ret
      exact ⟨_,rfl,own_recsT hO.out,recS_one (own_recsT hO.out),own_at hO.out,hB.out⟩
theorem ih_cell1 {w : World} {g : Nat} {h : IH} (hh : w.heap[g]? = some (.cells h.cells.toArray 26 (0,0))) (k : Nat) (v : Value) (hv : h.cells[k]? = some v) : w.cell? ⟨g,k,none⟩ = some v := by
  rw [Lib.cell_of_heap hh,List.getElem?_toArray]; exact hv
theorem ld24 {w : World} {p : Addr} {v : Value} (h : w.cell? p = some v) : (loadVar 24 p).run Tryz.prog w = .ok v w := by simp [loadVar,go_sem,h]
theorem ld23 {w : World} {g k : Nat} {u v : Value} (h0 : w.cell? ⟨g,k,none⟩ = some u) (h1 : w.cell? ⟨g,k + 1,none⟩ = some v) : (loadVar 23 ⟨g,k,none⟩).run Tryz.prog w = .ok (.agg #[u,v]) w := by simp [loadVar,go_sem,h0,h1]
def PlainOut (h : IH) (L : List (List UInt8 × List UInt8)) (w : World) (e : Ending) (w' : World) : Prop := ∃ rv,e = .returned (.agg ({ h with recs := rv } : IH).scells.toArray) ∧ RecS w' rv L ∧ rv.oneCell' = true ∧ Below w.heap.size w w'
set_option maxHeartbeats 16000000 in
theorem specPlain (h : IH) (L : List (List UInt8 × List UInt8)) (w : World) (hL : RecS w h.recs L) (hLl : L.length ≤ 4294967296) : Calls Tryz.prog 9 #[.agg h.cells.toArray] w (PlainOut h L w) := by
  have HRC : Hid (∀ wx,Below w.heap.size w wx → Calls Tryz.prog 28 #[h.recs] wx (RecsOut L wx)) := Lib.hid fun wx hb => specRecords h.recs L wx (hL.below hb) hLl
  clear hL
  go_enter Tryz.func9,Tryz.ntmps9
  go_upto_region 1 with fail
  rename_i K1 hK1
  have HK1 := Lib.hid hK1
  clear hK1
  obtain ⟨w1,hw1⟩ : ∃ w1,w1 = (w.alloc (.cells h.cells.toArray 26)).alloc (.cells #[.int .u8 0,.string { data := #[] },.string { data := #[] },.int .i64 0,.int .i64 0,.int .i64 0,.int .i64 0,.string { data := #[] },.string { data := #[] },.int .i64 0,.int .i64 0,.bool false,.bool false,.int .i64 0,.int .i64 0,.int .i64 0,.int .i64 0,.int .i64 0,.int .i64 0,.slice none 0 0,.int .i64 0] 31) := ⟨_,rfl⟩
  rw [← hw1]
  have s1 : (w.alloc (.cells h.cells.toArray 26)).heap.size = w.heap.size + 1 := Array.size_push ..
  have hB1 : Below w.heap.size w w1 := by rw [hw1]; exact ((Below.refl _ w).alloc (Nat.le_refl _) _).alloc (by omega) _
  have hH1 : w1.heap[w.heap.size]? = some (.cells h.cells.toArray 26 (0,0)) := by rw [hw1]; exact (Below.heap_alloc _ _ _ (by omega)).trans (heap_alloc_new w _)
  have hZ1 : w1.heap[w.heap.size + 1]? = some (.cells #[.int .u8 0,.string { data := #[] },.string { data := #[] },.int .i64 0,.int .i64 0,.int .i64 0,.int .i64 0,.string { data := #[] },.string { data := #[] },.int .i64 0,.int .i64 0,.bool false,.bool false,.int .i64 0,.int .i64 0,.int .i64 0,.int .i64 0,.int .i64 0,.int .i64 0,.slice none 0 0,.int .i64 0] 31 (0,0)) := by rw [hw1,← s1]; exact heap_alloc_new _ _
  clear hw1 s1
  have HH1 := Lib.hid hH1
  have HBD := Lib.hid hB1.drew
  have HHD : Hid (w1.drew.heap[w.heap.size]? = some (.cells h.cells.toArray 26 (0,0))) := Lib.hid hH1
  have HZD : Hid (w1.drew.heap[w.heap.size + 1]? = some (.cells #[.int .u8 0,.string { data := #[] },.string { data := #[] },.int .i64 0,.int .i64 0,.int .i64 0,.int .i64 0,.string { data := #[] },.string { data := #[] },.int .i64 0,.int .i64 0,.bool false,.bool false,.int .i64 0,.int .i64 0,.int .i64 0,.int .i64 0,.int .i64 0,.int .i64 0,.slice none 0 0,.int .i64 0] 31 (0,0))) := Lib.hid hZ1
  clear hB1 hH1 hZ1
  obtain ⟨hb,hhb⟩ : ∃ hb,hb = w.heap.size := ⟨_,rfl⟩
  obtain ⟨rb,hrb⟩ : ∃ rb,rb = w.heap.size + 1 := ⟨_,rfl⟩
  have HNE : Hid (hb ≠ rb) := Lib.hid (by omega)
  have HRB := Lib.hid hrb
  rw [← hhb] at HH1 HHD ⊢
  rw [← hrb] at HZD
  rw [show hb + 1 = rb by omega]
  clear hhb hrb
  refine region_named (S := fun w' => w'.heap[hb]? = some (.cells h.cells.toArray 26 (0,0))) (n := 39) (l0 := (bt 39 0)) (by kernel_rfl) rfl (by kernel_rfl) HH1.out (fun ops HOPS hHeld => ?_)
  clear HH1
  generalize w1.drew = v1 at *
  refine take_named HOPS.out (i := 0) (d := (some 3)) (v := ?v0) (a' := ?a0) (l' := (bt 39 1)) (by simp only [ga1,ga2,ga3]; exact rfl) (by kernel_rfl) (by kernel_rfl) (by kernel_rfl) (fun _ _ _ h => h) (Or.inl ⟨by rfl,?hy0⟩) (by assumption) (by rfl) ?ha0 (by kernel_rfl) ?r0
  case hy0 => intro w hSw; go_simp; try with_reducible rfl
  case ha0 => simp only [Act.put,sa1,sa2,sa3]; exact rfl
  refine take_named HOPS.out (i := 1) (d := (some 4)) (a' := ?a1) (l' := (bt 39 3)) (by simp only [ga1,ga2,ga3]; exact rfl) (by kernel_rfl) (by kernel_rfl) (by kernel_rfl) (fun _ _ _ h => h) (yieldsIf_load_run (by rfl) _ _ rfl ⟨hb,0,none⟩ rfl (.int .u8 h.typ) (fun w' hw' => ld5 (ih_cell1 hw' 0 (.int .u8 h.typ) rfl))) (by assumption) (by rfl) ?ha1 (by kernel_rfl) ?r1
  case ha1 => simp only [Act.put,sa1,sa2,sa3]; exact rfl
  refine take_named HOPS.out (i := 2) (d := (some 5)) (v := ?v2) (a' := ?a2) (l' := (bt 39 7)) (by simp only [ga1,ga2,ga3]; exact rfl) (by kernel_rfl) (by kernel_rfl) (by kernel_rfl) (fun _ _ _ h => h) (Or.inl ⟨by rfl,?hy2⟩) (by assumption) (by rfl) ?ha2 (by kernel_rfl) ?r2
  case hy2 => intro w hSw; go_simp; try with_reducible rfl
  case ha2 => simp only [Act.put,sa1,sa2,sa3]; exact rfl
  refine take_named HOPS.out (i := 3) (d := (some 6)) (a' := ?a3) (l' := (bt 39 15)) (by simp only [ga1,ga2,ga3]; exact rfl) (by kernel_rfl) (by kernel_rfl) (by kernel_rfl) (fun _ _ _ h => h) (yieldsIf_load_run (by rfl) _ _ rfl ⟨hb,1,none⟩ rfl (str h.name) (fun w' hw' => ld9 (ih_cell1 hw' 1 (str h.name) rfl))) (by assumption) (by rfl) ?ha3 (by kernel_rfl) ?r3
  case ha3 => simp only [Act.put,sa1,sa2,sa3]; exact rfl
  refine take_named HOPS.out (i := 4) (d := (some 7)) (v := ?v4) (a' := ?a4) (l' := (bt 39 31)) (by simp only [ga1,ga2,ga3]; exact rfl) (by kernel_rfl) (by kernel_rfl) (by kernel_rfl) (fun _ _ _ h => h) (Or.inl ⟨by rfl,?hy4⟩) (by assumption) (by rfl) ?ha4 (by kernel_rfl) ?r4
  case hy4 => intro w hSw; go_simp; try with_reducible rfl
  case ha4 => simp only [Act.put,sa1,sa2,sa3]; exact rfl
  refine take_named HOPS.out (i := 5) (d := (some 8)) (a' := ?a5) (l' := (bt 39 63)) (by simp only [ga1,ga2,ga3]; exact rfl) (by kernel_rfl) (by kernel_rfl) (by kernel_rfl) (fun _ _ _ h => h) (yieldsIf_load_run (by rfl) _ _ rfl ⟨hb,2,none⟩ rfl (str h.link) (fun w' hw' => ld9 (ih_cell1 hw' 2 (str h.link) rfl))) (by assumption) (by rfl) ?ha5 (by kernel_rfl) ?r5
  case ha5 => simp only [Act.put,sa1,sa2,sa3]; exact rfl
  refine take_named HOPS.out (i := 6) (d := (some 9)) (v := ?v6) (a' := ?a6) (l' := (bt 39 127)) (by simp only [ga1,ga2,ga3]; exact rfl) (by kernel_rfl) (by kernel_rfl) (by kernel_rfl) (fun _ _ _ h => h) (Or.inl ⟨by rfl,?hy6⟩) (by assumption) (by rfl) ?ha6 (by kernel_rfl) ?r6
  case hy6 => intro w hSw; go_simp; try with_reducible rfl
  case ha6 => simp only [Act.put,sa1,sa2,sa3]; exact rfl
  refine take_named HOPS.out (i := 7) (d := (some 10)) (a' := ?a7) (l' := (bt 39 255)) (by simp only [ga1,ga2,ga3]; exact rfl) (by kernel_rfl) (by kernel_rfl) (by kernel_rfl) (fun _ _ _ h => h) (yieldsIf_load_run (by rfl) _ _ rfl ⟨hb,3,none⟩ rfl (.int .i64 h.size) (fun w' hw' => ld2 (ih_cell1 hw' 3 (.int .i64 h.size) rfl))) (by assumption) (by rfl) ?ha7 (by kernel_rfl) ?r7
  case ha7 => simp only [Act.put,sa1,sa2,sa3]; exact rfl
  refine take_named HOPS.out (i := 8) (d := (some 11)) (v := ?v8) (a' := ?a8) (l' := (bt 39 511)) (by simp only [ga1,ga2,ga3]; exact rfl) (by kernel_rfl) (by kernel_rfl) (by kernel_rfl) (fun _ _ _ h => h) (Or.inl ⟨by rfl,?hy8⟩) (by assumption) (by rfl) ?ha8 (by kernel_rfl) ?r8
  case hy8 => intro w hSw; go_simp; try with_reducible rfl
  case ha8 => simp only [Act.put,sa1,sa2,sa3]; exact rfl
  refine take_named HOPS.out (i := 9) (d := (some 12)) (a' := ?a9) (l' := (bt 39 1023)) (by simp only [ga1,ga2,ga3]; exact rfl) (by kernel_rfl) (by kernel_rfl) (by kernel_rfl) (fun _ _ _ h => h) (yieldsIf_load_run (by rfl) _ _ rfl ⟨hb,4,none⟩ rfl (.int .i64 h.mode) (fun w' hw' => ld2 (ih_cell1 hw' 4 (.int .i64 h.mode) rfl))) (by assumption) (by rfl) ?ha9 (by kernel_rfl) ?r9
  case ha9 => simp only [Act.put,sa1,sa2,sa3]; exact rfl
  refine take_named HOPS.out (i := 10) (d := (some 13)) (v := ?v10) (a' := ?a10) (l' := (bt 39 2047)) (by simp only [ga1,ga2,ga3]; exact rfl) (by kernel_rfl) (by kernel_rfl) (by kernel_rfl) (fun _ _ _ h => h) (Or.inl ⟨by rfl,?hy10⟩) (by assumption) (by rfl) ?ha10 (by kernel_rfl) ?r10
  case hy10 => intro w hSw; go_simp; try with_reducible rfl
  case ha10 => simp only [Act.put,sa1,sa2,sa3]; exact rfl
  refine take_named HOPS.out (i := 11) (d := (some 14)) (a' := ?a11) (l' := (bt 39 4095)) (by simp only [ga1,ga2,ga3]; exact rfl) (by kernel_rfl) (by kernel_rfl) (by kernel_rfl) (fun _ _ _ h => h) (yieldsIf_load_run (by rfl) _ _ rfl ⟨hb,5,none⟩ rfl (.int .i64 h.uid) (fun w' hw' => ld3 (ih_cell1 hw' 5 (.int .i64 h.uid) rfl))) (by assumption) (by rfl) ?ha11 (by kernel_rfl) ?r11
  case ha11 => simp only [Act.put,sa1,sa2,sa3]; exact rfl
  refine take_named HOPS.out (i := 12) (d := (some 15)) (v := ?v12) (a' := ?a12) (l' := (bt 39 8191)) (by simp only [ga1,ga2,ga3]; exact rfl) (by kernel_rfl) (by kernel_rfl) (by kernel_rfl) (fun _ _ _ h => h) (Or.inl ⟨by rfl,?hy12⟩) (by assumption) (by rfl) ?ha12 (by kernel_rfl) ?r12
  case hy12 => intro w hSw; go_simp; try with_reducible rfl
  case ha12 => simp only [Act.put,sa1,sa2,sa3]; exact rfl
  refine take_named HOPS.out (i := 13) (d := (some 16)) (a' := ?a13) (l' := (bt 39 16383)) (by simp only [ga1,ga2,ga3]; exact rfl) (by kernel_rfl) (by kernel_rfl) (by kernel_rfl) (fun _ _ _ h => h) (yieldsIf_load_run (by rfl) _ _ rfl ⟨hb,6,none⟩ rfl (.int .i64 h.gid) (fun w' hw' => ld3 (ih_cell1 hw' 6 (.int .i64 h.gid) rfl))) (by assumption) (by rfl) ?ha13 (by kernel_rfl) ?r13
  case ha13 => simp only [Act.put,sa1,sa2,sa3]; exact rfl
  refine take_named HOPS.out (i := 14) (d := (some 17)) (v := ?v14) (a' := ?a14) (l' := (bt 39 32767)) (by simp only [ga1,ga2,ga3]; exact rfl) (by kernel_rfl) (by kernel_rfl) (by kernel_rfl) (fun _ _ _ h => h) (Or.inl ⟨by rfl,?hy14⟩) (by assumption) (by rfl) ?ha14 (by kernel_rfl) ?r14
  case hy14 => intro w hSw; go_simp; try with_reducible rfl
  case ha14 => simp only [Act.put,sa1,sa2,sa3]; exact rfl
  refine take_named HOPS.out (i := 15) (d := (some 18)) (a' := ?a15) (l' := (bt 39 65535)) (by simp only [ga1,ga2,ga3]; exact rfl) (by kernel_rfl) (by kernel_rfl) (by kernel_rfl) (fun _ _ _ h => h) (yieldsIf_load_run (by rfl) _ _ rfl ⟨hb,7,none⟩ rfl (str h.user) (fun w' hw' => ld9 (ih_cell1 hw' 7 (str h.user) rfl))) (by assumption) (by rfl) ?ha15 (by kernel_rfl) ?r15
  case ha15 => simp only [Act.put,sa1,sa2,sa3]; exact rfl
  refine take_named HOPS.out (i := 16) (d := (some 19)) (v := ?v16) (a' := ?a16) (l' := (bt 39 131071)) (by simp only [ga1,ga2,ga3]; exact rfl) (by kernel_rfl) (by kernel_rfl) (by kernel_rfl) (fun _ _ _ h => h) (Or.inl ⟨by rfl,?hy16⟩) (by assumption) (by rfl) ?ha16 (by kernel_rfl) ?r16
  case hy16 => intro w hSw; go_simp; try with_reducible rfl
  case ha16 => simp only [Act.put,sa1,sa2,sa3]; exact rfl
  refine take_named HOPS.out (i := 17) (d := (some 20)) (a' := ?a17) (l' := (bt 39 262143)) (by simp only [ga1,ga2,ga3]; exact rfl) (by kernel_rfl) (by kernel_rfl) (by kernel_rfl) (fun _ _ _ h => h) (yieldsIf_load_run (by rfl) _ _ rfl ⟨hb,8,none⟩ rfl (str h.group) (fun w' hw' => ld9 (ih_cell1 hw' 8 (str h.group) rfl))) (by assumption) (by rfl) ?ha17 (by kernel_rfl) ?r17
  case ha17 => simp only [Act.put,sa1,sa2,sa3]; exact rfl
  refine take_named HOPS.out (i := 18) (d := (some 21)) (v := ?v18) (a' := ?a18) (l' := (bt 39 524287)) (by simp only [ga1,ga2,ga3]; exact rfl) (by kernel_rfl) (by kernel_rfl) (by kernel_rfl) (fun _ _ _ h => h) (Or.inl ⟨by rfl,?hy18⟩) (by assumption) (by rfl) ?ha18 (by kernel_rfl) ?r18
  case hy18 => intro w hSw; go_simp; try with_reducible rfl
  case ha18 => simp only [Act.put,sa1,sa2,sa3]; exact rfl
  refine take_named HOPS.out (i := 19) (d := (some 22)) (a' := ?a19) (l' := (bt 39 1048575)) (by simp only [ga1,ga2,ga3]; exact rfl) (by kernel_rfl) (by kernel_rfl) (by kernel_rfl) (fun _ _ _ h => h) (yieldsIf_load_run (by rfl) _ _ rfl ⟨hb,9,none⟩ rfl (.agg #[.int .i64 h.ms,.int .i64 h.mn]) (fun w' hw' => ld23 (ih_cell1 hw' 9 (.int .i64 h.ms) rfl) (ih_cell1 hw' 10 (.int .i64 h.mn) rfl))) (by assumption) (by rfl) ?ha19 (by kernel_rfl) ?r19
  case ha19 => simp only [Act.put,sa1,sa2,sa3]; exact rfl
  refine take_named HOPS.out (i := 20) (d := (some 23)) (v := ?v20) (a' := ?a20) (l' := (bt 39 2097151)) (by simp only [ga1,ga2,ga3]; exact rfl) (by kernel_rfl) (by kernel_rfl) (by kernel_rfl) (fun _ _ _ h => h) (Or.inl ⟨by rfl,?hy20⟩) (by assumption) (by rfl) ?ha20 (by kernel_rfl) ?r20
  case hy20 => intro w hSw; go_simp; try with_reducible rfl
  case ha20 => simp only [Act.put,sa1,sa2,sa3]; exact rfl
  refine take_named HOPS.out (i := 21) (d := (some 24)) (a' := ?a21) (l' := (bt 39 4194303)) (by simp only [ga1,ga2,ga3]; exact rfl) (by kernel_rfl) (by kernel_rfl) (by kernel_rfl) (fun _ _ _ h => h) (yieldsIf_load_run (by rfl) _ _ rfl ⟨hb,11,none⟩ rfl (.bool h.hasA) (fun w' hw' => ld4 (ih_cell1 hw' 11 (.bool h.hasA) rfl))) (by assumption) (by rfl) ?ha21 (by kernel_rfl) ?r21
  case ha21 => simp only [Act.put,sa1,sa2,sa3]; exact rfl
  refine take_named HOPS.out (i := 22) (d := (some 25)) (v := ?v22) (a' := ?a22) (l' := (bt 39 8388607)) (by simp only [ga1,ga2,ga3]; exact rfl) (by kernel_rfl) (by kernel_rfl) (by kernel_rfl) (fun _ _ _ h => h) (Or.inl ⟨by rfl,?hy22⟩) (by assumption) (by rfl) ?ha22 (by kernel_rfl) ?r22
  case hy22 => intro w hSw; go_simp; try with_reducible rfl
  case ha22 => simp only [Act.put,sa1,sa2,sa3]; exact rfl
  refine take_named HOPS.out (i := 23) (d := (some 26)) (a' := ?a23) (l' := (bt 39 16777215)) (by simp only [ga1,ga2,ga3]; exact rfl) (by kernel_rfl) (by kernel_rfl) (by kernel_rfl) (fun _ _ _ h => h) (yieldsIf_load_run (by rfl) _ _ rfl ⟨hb,12,none⟩ rfl (.agg #[.int .i64 h.ats,.int .i64 h.atn]) (fun w' hw' => ld23 (ih_cell1 hw' 12 (.int .i64 h.ats) rfl) (ih_cell1 hw' 13 (.int .i64 h.atn) rfl))) (by assumption) (by rfl) ?ha23 (by kernel_rfl) ?r23
  case ha23 => simp only [Act.put,sa1,sa2,sa3]; exact rfl
  refine take_named HOPS.out (i := 24) (d := (some 27)) (v := ?v24) (a' := ?a24) (l' := (bt 39 33554431)) (by simp only [ga1,ga2,ga3]; exact rfl) (by kernel_rfl) (by kernel_rfl) (by kernel_rfl) (fun _ _ _ h => h) (Or.inl ⟨by rfl,?hy24⟩) (by assumption) (by rfl) ?ha24 (by kernel_rfl) ?r24
  case hy24 => intro w hSw; go_simp; try with_reducible rfl
  case ha24 => simp only [Act.put,sa1,sa2,sa3]; exact rfl
  refine take_named HOPS.out (i := 25) (d := (some 28)) (a' := ?a25) (l' := (bt 39 67108863)) (by simp only [ga1,ga2,ga3]; exact rfl) (by kernel_rfl) (by kernel_rfl) (by kernel_rfl) (fun _ _ _ h => h) (yieldsIf_load_run (by rfl) _ _ rfl ⟨hb,14,none⟩ rfl (.bool h.hasC) (fun w' hw' => ld4 (ih_cell1 hw' 14 (.bool h.hasC) rfl))) (by assumption) (by rfl) ?ha25 (by kernel_rfl) ?r25
  case ha25 => simp only [Act.put,sa1,sa2,sa3]; exact rfl
  refine take_named HOPS.out (i := 26) (d := (some 29)) (v := ?v26) (a' := ?a26) (l' := (bt 39 134217727)) (by simp only [ga1,ga2,ga3]; exact rfl) (by kernel_rfl) (by kernel_rfl) (by kernel_rfl) (fun _ _ _ h => h) (Or.inl ⟨by rfl,?hy26⟩) (by assumption) (by rfl) ?ha26 (by kernel_rfl) ?r26
  case hy26 => intro w hSw; go_simp; try with_reducible rfl
  case ha26 => simp only [Act.put,sa1,sa2,sa3]; exact rfl
  refine take_named HOPS.out (i := 27) (d := (some 30)) (a' := ?a27) (l' := (bt 39 268435455)) (by simp only [ga1,ga2,ga3]; exact rfl) (by kernel_rfl) (by kernel_rfl) (by kernel_rfl) (fun _ _ _ h => h) (yieldsIf_load_run (by rfl) _ _ rfl ⟨hb,15,none⟩ rfl (.agg #[.int .i64 h.cts,.int .i64 h.ctn]) (fun w' hw' => ld23 (ih_cell1 hw' 15 (.int .i64 h.cts) rfl) (ih_cell1 hw' 16 (.int .i64 h.ctn) rfl))) (by assumption) (by rfl) ?ha27 (by kernel_rfl) ?r27
  case ha27 => simp only [Act.put,sa1,sa2,sa3]; exact rfl
  refine take_named HOPS.out (i := 28) (d := (some 31)) (v := ?v28) (a' := ?a28) (l' := (bt 39 536870911)) (by simp only [ga1,ga2,ga3]; exact rfl) (by kernel_rfl) (by kernel_rfl) (by kernel_rfl) (fun _ _ _ h => h) (Or.inl ⟨by rfl,?hy28⟩) (by assumption) (by rfl) ?ha28 (by kernel_rfl) ?r28
  case hy28 => intro w hSw; go_simp; try with_reducible rfl
  case ha28 => simp only [Act.put,sa1,sa2,sa3]; exact rfl
  refine take_named HOPS.out (i := 29) (d := (some 32)) (a' := ?a29) (l' := (bt 39 1073741823)) (by simp only [ga1,ga2,ga3]; exact rfl) (by kernel_rfl) (by kernel_rfl) (by kernel_rfl) (fun _ _ _ h => h) (yieldsIf_load_run (by rfl) _ _ rfl ⟨hb,17,none⟩ rfl (.int .i64 h.maj) (fun w' hw' => ld2 (ih_cell1 hw' 17 (.int .i64 h.maj) rfl))) (by assumption) (by rfl) ?ha29 (by kernel_rfl) ?r29
  case ha29 => simp only [Act.put,sa1,sa2,sa3]; exact rfl
  refine take_named HOPS.out (i := 30) (d := (some 33)) (v := ?v30) (a' := ?a30) (l' := (bt 39 2147483647)) (by simp only [ga1,ga2,ga3]; exact rfl) (by kernel_rfl) (by kernel_rfl) (by kernel_rfl) (fun _ _ _ h => h) (Or.inl ⟨by rfl,?hy30⟩) (by assumption) (by rfl) ?ha30 (by kernel_rfl) ?r30
  case hy30 => intro w hSw; go_simp; try with_reducible rfl
  case ha30 => simp only [Act.put,sa1,sa2,sa3]; exact rfl
  refine take_named HOPS.out (i := 31) (d := (some 34)) (a' := ?a31) (l' := (bt 39 4294967295)) (by simp only [ga1,ga2,ga3]; exact rfl) (by kernel_rfl) (by kernel_rfl) (by kernel_rfl) (fun _ _ _ h => h) (yieldsIf_load_run (by rfl) _ _ rfl ⟨hb,18,none⟩ rfl (.int .i64 h.mnr) (fun w' hw' => ld2 (ih_cell1 hw' 18 (.int .i64 h.mnr) rfl))) (by assumption) (by rfl) ?ha31 (by kernel_rfl) ?r31
  case ha31 => simp only [Act.put,sa1,sa2,sa3]; exact rfl
  refine take_named HOPS.out (i := 32) (d := (some 35)) (v := ?v32) (a' := ?a32) (l' := (bt 39 8589934591)) (by simp only [ga1,ga2,ga3]; exact rfl) (by kernel_rfl) (by kernel_rfl) (by kernel_rfl) (fun _ _ _ h => h) (Or.inl ⟨by rfl,?hy32⟩) (by assumption) (by rfl) ?ha32 (by kernel_rfl) ?r32
  case hy32 => intro w hSw; go_simp; try with_reducible rfl
  case ha32 => simp only [Act.put,sa1,sa2,sa3]; exact rfl
  refine take_named HOPS.out (i := 33) (d := (some 36)) (a' := ?a33) (l' := (bt 39 17179869183)) (by simp only [ga1,ga2,ga3]; exact rfl) (by kernel_rfl) (by kernel_rfl) (by kernel_rfl) (fun _ _ _ h => h) (yieldsIf_load_run (by rfl) _ _ rfl ⟨hb,19,none⟩ rfl (h.recs) (fun w' hw' => ld24 (ih_cell1 hw' 19 (h.recs) rfl))) (by assumption) (by rfl) ?ha33 (by kernel_rfl) ?r33
  case ha33 => simp only [Act.put,sa1,sa2,sa3]; exact rfl
  refine take_named HOPS.out (i := 35) (d := (some 38)) (v := ?v35) (a' := ?a35) (l' := (bt 39 51539607551)) (by simp only [ga1,ga2,ga3]; exact rfl) (by kernel_rfl) (by kernel_rfl) (by kernel_rfl) (fun _ _ _ h => h) (Or.inl ⟨by rfl,?hy35⟩) (by assumption) (by rfl) ?ha35 (by kernel_rfl) ?r35
  case hy35 => intro w hSw; go_simp; try with_reducible rfl
  case ha35 => simp only [Act.put,sa1,sa2,sa3]; exact rfl
  refine take_named HOPS.out (i := 36) (d := (some 39)) (a' := ?a36) (l' := (bt 39 120259084287)) (by simp only [ga1,ga2,ga3]; exact rfl) (by kernel_rfl) (by kernel_rfl) (by kernel_rfl) (fun _ _ _ h => h) (yieldsIf_load_run (by rfl) _ _ rfl ⟨hb,20,none⟩ rfl (.int .i64 h.fmt) (fun w' hw' => ld3 (ih_cell1 hw' 20 (.int .i64 h.fmt) rfl))) (by assumption) (by rfl) ?ha36 (by kernel_rfl) ?r36
  case ha36 => simp only [Act.put,sa1,sa2,sa3]; exact rfl
  refine wpAnyH_ready (rs := [34]) (by rw [HOPS.out]; kernel_rfl) (by simp) ?_
  refine ready_named HOPS.out (l' := (bt 39 137438953471)) (by simp only [ga1,ga2,ga3]; exact rfl) (by kernel_rfl) (fun K hK => ?_) AllReadyH.nil
  go_simp
  go_at_call 28
  refine (HRC.out _ HBD.out).mono ?_
  rintro e u1 ⟨rv,rfl,hr1,ho1,ha1,hb1⟩
  obtain ⟨pp,cc,rfl,hcl⟩ := hr1
  have hr1 : RecS u1 (.slice pp L.length cc) L := ⟨pp,cc,rfl,hcl⟩
  clear hcl
  have HB2 := Lib.hid (HBD.out.trans (hb1.mono HBD.out.size))
  have HH2 := Lib.hid ((hb1.block hb (lt_of_heap HHD.out)).trans HHD.out)
  have HZ2 := Lib.hid ((hb1.block rb (lt_of_heap HZD.out)).trans HZD.out)
  have HR1 := Lib.hid hr1; have HO1 := Lib.hid ho1; have HA1 := Lib.hid ha1
  refine hK.out _ _ HH2.out (fun hHeld => ?_)
  clear hK K hb1 hr1 ho1 ha1
  try simp only [Act.put,sa1,sa2,sa3]
  refine take_named HOPS.out (i := 37) (d := (some 40)) (v := ?v37) (a' := ?a37) (l' := (bt 39 274877906943)) (by simp only [ga1,ga2,ga3]; exact rfl) (by kernel_rfl) (by kernel_rfl) (by kernel_rfl) (fun _ _ _ h => h) (Or.inl ⟨by rfl,?hy37⟩) (by assumption) (by rfl) ?ha37 (by kernel_rfl) ?r37
  case hy37 => intro w hSw; go_simp; try with_reducible rfl
  case ha37 => simp only [Act.put,sa1,sa2,sa3]; exact rfl
  refine wpAnyH_ready (rs := [38]) (by rw [HOPS.out]; kernel_rfl) (by simp) ?_
  refine ready_named HOPS.out (l' := (bt 39 549755813887)) (by simp only [ga1,ga2,ga3]; exact rfl) (by kernel_rfl) (fun K hK => ?_) AllReadyH.nil
  obtain ⟨w3,hst,hg,ho,hz,-⟩ := store31 ({ h with recs := .slice pp L.length cc } : IH) HO1.out rfl HZ2.out
  refine step_store_run rfl 31 _ _ rfl ⟨rb,0,none⟩ rfl _ rfl w3 hst ?_
  have HH3 := Lib.hid ((ho hb HNE.out).trans HH2.out)
  refine hK.out _ _ HH3.out (fun hHeld => ?_)
  clear hK K
  refine wpAnyH_done (by rw [HOPS.out]; kernel_rfl) ?_ _
  refine HK1.out _ _ ?_
  have hfin : PlainOut h L w (.returned (.agg ({ h with recs := .slice pp L.length cc } : IH).scells.toArray)) w3 := by
    refine ⟨_,rfl,?_,HO1.out,hz _ _ HB2.out (by rw [HRB.out]; omega)⟩
    obtain ⟨p,c,hv,hc⟩ := HR1.out
    refine ⟨p,c,hv,fun j hj => ?_⟩
    obtain ⟨rg,ro,rfl,h2,h3,h4⟩ := hc j hj
    have hne : rg ≠ rb := by
      have := HA1.out _ _ _ hv
      have := lt_of_heap HZD.out
      intro e; simp only at *; omega
    refine ⟨rg,ro,rfl,?_,?_,?_⟩
    · have h5 : w3.heap[rg]? = u1.heap[rg]? := ho rg hne
      rw [Array.getElem?_eq_getElem h2] at h5
      exact lt_of_heap h5
    · rw [World.cell?_of_block (w := u1) (a := ⟨rg,ro + j * 2,none⟩) (ho rg hne)]; exact h3
    · rw [World.cell?_of_block (w := u1) (a := ⟨rg,ro + j * 2 + 1,none⟩) (ho rg hne)]; exact h4
  have HF := Lib.hid hfin; have HG := Lib.hid hg
  clear hst hg ho hz hfin
  go_wp2_with fail
  exact ret31 rb _ rfl w3 rfl rfl rfl HG.out HF.out
end Go.Proofs.YtkanmkcojlefbaaGreatDoor
