/-
  Part of the proof; holds the texts VTim.
-/
import Derived.Test.YtkanmkcojlefbaaGreatDoorM13
set_option maxRecDepth 100000
set_option linter.unusedSimpArgs false
set_option linter.unusedVariables false
namespace Go.Proofs.YtkanmkcojlefbaaGreatDoor
open Go.RowKit
def timNeed (n x : Int) (key : List UInt8) : Bool := !(decide (key = kMtime)) || !(octFits 12 (x - 62135596800)) || !(decide (n = 0))
def timU (u : Bool) (n x : Int) (key : List UInt8) : Bool := if tZero n x then u else u && (decide (key = kMtime) && octFits 12 (x - 62135596800))
def timQ (q : Bool) (n x : Int) (key : List UInt8) : Bool := if tZero n x then q else q || timNeed n x key
def timM1 (m : KV) (n x : Int) (key : List UInt8) : KV := if timNeed n x key then putF m key (paxTime (x - 62135596800) n) else m
def timM (m R : KV) (n x : Int) (key : List UInt8) : KV := if tZero n x then m else if timNeed n x key || decide (R key = some (paxTime (x - 62135596800) n)) then putF m key (paxTime (x - 62135596800) n) else m
theorem timM_hit (m R : KV) (n x : Int) (key : List UInt8) (hz : tZero n x = false) (h : R key = some (paxTime (x - 62135596800) n)) : putF (timM1 m n x key) key (paxTime (x - 62135596800) n) = timM m R n x key := by
  unfold timM timM1
  rw [hz,decide_eq_true h,Bool.or_true]
  cases timNeed n x key
  · simp
  · simp [putF_twice]
theorem timM_miss (m R : KV) (n x : Int) (key : List UInt8) (hz : tZero n x = false) (h : R key ≠ some (paxTime (x - 62135596800) n)) : timM1 m n x key = timM m R n x key := by
  unfold timM timM1
  rw [hz,decide_eq_false h,Bool.or_false]
  simp
theorem paxTime_len (s n : Int) (h0 : 0 ≤ n) (h1 : n < 1000000000) (hs : -100000000000000000 ≤ s ∧ s ≤ 100000000000000000) : (paxTime s n).length ≤ 2000 := by
  have hi := itoa_len s ⟨by omega,by omega⟩
  have hi2 := itoa_len (-(s + 1)) ⟨by omega,by omega⟩
  unfold paxTime
  split
  · omega
  · split
    · have h2 := trimR_len (45::(Lib.itoa (-(s + 1)) ++ 46::nineB (1000000000 - n).toNat)) 48
      have h3 := nineB_length (1000000000 - n).toNat (by omega)
      simp only [List.length_cons,List.length_append,h3] at h2
      omega
    · have h2 := trimR_len (Lib.itoa s ++ 46::nineB n.toNat) 48
      have h3 := nineB_length n.toNat (by omega)
      simp only [List.length_cons,List.length_append,h3] at h2
      omega
theorem fits256_12 (w : World) (x : Int) : Calls Tryz.prog 99 #[.int .i64 12,.int .i64 x] w (RetSame w (.bool true)) := fits256 w 12 x (.inr rfl)
theorem vTim_zero (G0 : Nat) (E : Nat → Addr) (b0 : Nat) (H : Hd) (R : KV) (u p g q : Bool) (m : KV) (k : Nat) (w : World) (h : AF G0 E b0 H R u p g q m k w) (n x : Int) (nm key : List UInt8) (hz : tZero n x = true) :
    Calls Tryz.prog 102 #[tmV n x,.int .i64 12,str nm,str key,.pointer (some ⟨b0 + 6,0,none⟩),.pointer (some ⟨b0 + 1,0,none⟩),.pointer (some ⟨b0 + 4,0,none⟩),.pointer (some ⟨b0 + 7,0,none⟩),.pointer (some ⟨b0 + 5,0,none⟩),.pointer (some ⟨b0 + 2,0,none⟩),.pointer (some ⟨b0,0,none⟩)] w
      (AFRet G0 E b0 H R (timU u n x key) p g (timQ q n x key) (timM m R n x key) (k + 2) w) := by
  have a1 := heap_alloc_new w (.cells #[.int .u64 n,.int .i64 x] 126)
  have hb1 := (Below.refl w.heap.size w).alloc (Nat.le_refl _) (.cells #[.int .u64 n,.int .i64 x] 126)
  have hiz := fun w' => tIsZero w' n x
  have HH := Lib.hid h
  have HB1 := Lib.hid hb1
  have EQ : Hid (timU u n x key = u ∧ timQ q n x key = q ∧ timM m R n x key = m) := Lib.hid ⟨by unfold timU; rw [hz]; rfl,by unfold timQ; rw [hz]; rfl,by unfold timM; rw [hz]; rfl⟩
  rw [hz] at hiz
  have c0 : (w.alloc (.cells #[.int .u64 n,.int .i64 x] 126)).cell? ⟨w.heap.size,0,none⟩ = some (.int .u64 n) := by rw [Lib.cell_of_heap a1]; rfl
  have c1 : (w.alloc (.cells #[.int .u64 n,.int .i64 x] 126)).cell? ⟨w.heap.size,1,none⟩ = some (.int .i64 x) := by rw [Lib.cell_of_heap a1]; rfl
  clear h hb1 a1 hz
  go_enter Tryz.func102,Tryz.ntmps102
  go_wp2_with fail
  refine (hiz _).mono ?_
  rintro e w1 ⟨rfl,hb⟩
  have HB := Lib.hid (HB1.out.trans (hb.mono HB1.out.size))
  clear hb
  go_wp2_with fail
  go_end0
  refine ⟨rfl,?_,HB.out.mono (by have := HH.out.lt; omega)⟩
  rw [EQ.out.1,EQ.out.2.1,EQ.out.2.2]
  exact (HH.out.below HB.out).mono (by omega)
theorem AF.put2 {G0 : Nat} {E : Nat → Addr} {b0 : Nat} {H : Hd} {R : KV} {u p g q : Bool} {m : KV} {n : Nat} {w : World} (h : AF G0 E b0 H R u p g q m n w) (hn : n < 1099511627776) (k v : List UInt8) (hk : k.length ≤ 9223372036854775807) (hv : v.length ≤ 9223372036854775807) :
    ∃ w',(Instr.mapUpdate 127 (.map (some (b0 + 3))) (str k) (str v)).run Tryz.prog w = .ok () w' ∧ AF G0 E b0 H R u p g q (putF m k v) (n + 1) w' ∧ Below b0 w w' ∧ ∀ i,i ≠ b0 + 3 → i < w.heap.size → w'.heap[i]? = w.heap[i]? := by
  obtain ⟨w',hr,hm,f⟩ := h.mp.update und127 hn k v hk hv
  obtain ⟨w2,hr2,h1,h2⟩ := h.put hn k v hk hv
  obtain rfl : w' = w2 := by rw [hr] at hr2; injection hr2
  refine ⟨w',hr,h1,h2,fun i hi hl => ?_⟩
  obtain ⟨o,ho⟩ : ∃ o,w.heap[i]? = some o := ⟨_,Array.getElem?_eq_getElem hl⟩
  rw [ho]; exact f.same ho (by simpa using hi) (.inl hl)
theorem vTim_A (G0 : Nat) (E : Nat → Addr) (b0 : Nat) (H : Hd) (R : KV) (u p g q : Bool) (m : KV) (k : Nat) (w : World) (h : AF G0 E b0 H R u p g q m k w) (n x : Int) (nm : List UInt8) (hnm : nm.length ≤ 20) (hk : k < 1000) (hz : tZero n x = false) (h0 : 0 ≤ n) (h1 : n < 1000000000) (hx : -100000000000000000 ≤ x - 62135596800 ∧ x - 62135596800 ≤ 100000000000000000) (hfo : octFits 12 (x - 62135596800) = true) (hn0 : n = 0) :
    Calls Tryz.prog 102 #[tmV n x,.int .i64 12,str nm,str [109,116,105,109,101],.pointer (some ⟨b0 + 6,0,none⟩),.pointer (some ⟨b0 + 1,0,none⟩),.pointer (some ⟨b0 + 4,0,none⟩),.pointer (some ⟨b0 + 7,0,none⟩),.pointer (some ⟨b0 + 5,0,none⟩),.pointer (some ⟨b0 + 2,0,none⟩),.pointer (some ⟨b0,0,none⟩)] w
      (AFRet G0 E b0 H R (timU u n x [109,116,105,109,101]) p g (timQ q n x [109,116,105,109,101]) (timM m R n x [109,116,105,109,101]) (k + 2) w) := by
  have hkd : decide ([109,116,105,109,101] = kMtime) = true := decide_eq_true rfl
  have hnd : timNeed n x [109,116,105,109,101] = false := by unfold timNeed; rw [hkd]; rw [hfo,decide_eq_true hn0]; rfl
  have eU : timU u n x [109,116,105,109,101] = u := by unfold timU; rw [hz,hkd]; simp [hfo]
  have eQ : timQ q n x [109,116,105,109,101] = q := by unfold timQ; rw [hz,hnd]; simp
  have eM1 : timM1 m n x [109,116,105,109,101] = m := by unfold timM1; rw [hnd]; rfl
  have EU := Lib.hid eU; have EQ := Lib.hid eQ; have EM1 := Lib.hid eM1
  have HMH := Lib.hid (fun h => timM_hit m R n x [109,116,105,109,101] hz h)
  have HMM := Lib.hid (fun h => timM_miss m R n x [109,116,105,109,101] hz h)
  have t0 : (n != 0) = false := by simp [hn0]
  clear hn0
  have hlenP := paxTime_len (x - 62135596800) n h0 h1 hx
  have hle8 := fun w' => fits8 (x - 62135596800) w' 12 (by omega) (by omega) (by omega)
  rw [hfo] at hle8
  have a1 := heap_alloc_new w (.cells #[.int .u64 n,.int .i64 x] 126)
  have hb1 := (Below.refl w.heap.size w).alloc (Nat.le_refl _) (.cells #[.int .u64 n,.int .i64 x] 126)
  have hiz := fun w' => tIsZero w' n x
  rw [hz] at hiz
  have hun := fun w' => tUnix w' n x h0 h1 hx
  have hna := fun w' => tNano w' n x h0 h1
  have hft := fun w' (hg : Gl G0 E w') => fmtPaxTime w' hg n x h0 h1 hx
  have HU := Lib.hid hun; have HNA := Lib.hid hna; have HFT := Lib.hid hft; have H8 := Lib.hid hle8; have HIZ := Lib.hid hiz
  have HA0 := Lib.hid (h.below hb1)
  have HB0 := Lib.hid (hb1.mono (show b0 ≤ w.heap.size by have := h.lt; omega))
  have hlb := h.lt
  generalize hw1 : w.alloc (.cells #[.int .u64 n,.int .i64 x] 126) = w1 at *
  generalize hB : w.heap.size = B1 at *
  have A1 := Lib.hid a1
  have c0 : w1.cell? ⟨B1,0,none⟩ = some (.int .u64 n) := by rw [Lib.cell_of_heap a1]; rfl
  have c1 : w1.cell? ⟨B1,1,none⟩ = some (.int .i64 x) := by rw [Lib.cell_of_heap a1]; rfl
  clear h hb1 a1 hz hkd hnd eU eQ eM1 hun hna hft hle8 hiz hfo
  generalize hS : x - 62135596800 = S at *
  have HSS := Lib.hid hS
  clear hS
  go_enter Tryz.func102,Tryz.ntmps102
  go_wp2_with fail
  refine (HIZ.out _).mono ?_
  rintro e w2 ⟨rfl,hb⟩
  have HA2 := Lib.hid (HA0.out.below hb)
  have HB2 := Lib.hid (HB0.out.trans (hb.mono (show b0 ≤ w1.heap.size by have := HA0.out.lt; omega)))
  have a1 := (hb.block B1 (lt_of_heap A1.out)).trans A1.out
  have A2 := Lib.hid a1
  have c0 : w2.cell? ⟨B1,0,none⟩ = some (.int .u64 n) := by rw [Lib.cell_of_heap a1]; rfl
  have c1 : w2.cell? ⟨B1,1,none⟩ = some (.int .i64 x) := by rw [Lib.cell_of_heap a1]; rfl
  clear hb a1
  go_wp2_with fail
  refine (HU.out _).mono ?_
  rintro e w3 ⟨rfl,hb⟩
  have HA3 := Lib.hid (HA2.out.below hb)
  have HB3 := Lib.hid (HB2.out.trans (hb.mono (show b0 ≤ w2.heap.size by have := HA2.out.lt; omega)))
  have a1 := (hb.block B1 (lt_of_heap A2.out)).trans A2.out
  have A3 := Lib.hid a1
  have c0 : w3.cell? ⟨B1,0,none⟩ = some (.int .u64 n) := by rw [Lib.cell_of_heap a1]; rfl
  have c1 : w3.cell? ⟨B1,1,none⟩ = some (.int .i64 x) := by rw [Lib.cell_of_heap a1]; rfl
  clear hb a1
  go_wp2_with fail
  refine (fits256_12 _ _).mono ?_
  rintro e wx ⟨rfl,rfl⟩
  go_wp2_with fail
  refine (HU.out _).mono ?_
  rintro e w4 ⟨rfl,hb⟩
  have HA4 := Lib.hid (HA3.out.below hb)
  have HB4 := Lib.hid (HB3.out.trans (hb.mono (show b0 ≤ w3.heap.size by have := HA3.out.lt; omega)))
  have a1 := (hb.block B1 (lt_of_heap A3.out)).trans A3.out
  have A4 := Lib.hid a1
  have c0 : w4.cell? ⟨B1,0,none⟩ = some (.int .u64 n) := by rw [Lib.cell_of_heap a1]; rfl
  have c1 : w4.cell? ⟨B1,1,none⟩ = some (.int .i64 x) := by rw [Lib.cell_of_heap a1]; rfl
  clear hb a1
  go_wp2_with fail
  refine (H8.out _).mono ?_
  rintro e wx ⟨rfl,rfl⟩
  go_wp2_with fail
  refine (HNA.out _).mono ?_
  rintro e w6 ⟨rfl,hb⟩
  have HA6 := Lib.hid (HA4.out.below hb)
  have HB6 := Lib.hid (HB4.out.trans (hb.mono (show b0 ≤ w4.heap.size by have := HA4.out.lt; omega)))
  have a1 := (hb.block B1 (lt_of_heap A4.out)).trans A4.out
  have A6 := Lib.hid a1
  have c0 : w6.cell? ⟨B1,0,none⟩ = some (.int .u64 n) := by rw [Lib.cell_of_heap a1]; rfl
  have c1 : w6.cell? ⟨B1,1,none⟩ = some (.int .i64 x) := by rw [Lib.cell_of_heap a1]; rfl
  clear hb a1
  clear c0 c1
  have hcR := HA6.out.cells.2.2.2.2.2.2.2
  have hlk := HA6.out.lookR [109,116,105,109,101] (by decide)
  cases hRv : R [109,116,105,109,101] with
  | none =>
    rw [hRv] at hlk
    simp only [Option.getD_none,Option.isSome_none] at hlk
    have EM2 := Lib.hid (HMM.out (by rw [hRv]; simp))
    clear hRv
    go_wp2_with fail
    go_end0
    refine ⟨rfl,?_,HB6.out⟩
    rw [EU.out,EQ.out,← EM2.out,EM1.out]
    exact HA6.out.mono (by omega)
  | some v =>
    rw [hRv] at hlk
    simp only [Option.getD_some,Option.isSome_some] at hlk
    have a1 := A6.out
    have c0 : w6.cell? ⟨B1,0,none⟩ = some (.int .u64 n) := by rw [Lib.cell_of_heap a1]; rfl
    have c1 : w6.cell? ⟨B1,1,none⟩ = some (.int .i64 x) := by rw [Lib.cell_of_heap a1]; rfl
    clear a1
    have hfp := HFT.out w6 HA6.out.gl
    by_cases hv : v = paxTime S n
    · have EM2 := Lib.hid (HMH.out (by rw [hRv,hv]))
      have hne : (v == paxTime S n) = true := by rw [hv]; simp
      have hvl : v.length ≤ 2000 := by rw [hv]; exact hlenP
      have HV := Lib.hid hv
      clear hRv hv
      go_wp2_with fail
      refine hfp.mono ?_
      rintro e w14 ⟨rfl,hb4⟩
      have hA4 := HA6.out.below hb4
      have c2b := hA4.cells.2.2.2.2.2.2.1
      have HB14 := Lib.hid (HB6.out.trans (hb4.mono (by have := HA6.out.lt; omega)))
      obtain ⟨w15,hr5,hA5,hB5⟩ := hA4.put (by omega) [109,116,105,109,101] v (by decide) (by omega)
      have HA15 := Lib.hid hA5
      have HB15 := Lib.hid (HB14.out.trans hB5)
      clear hA5 hB5 hb4 hA4 hcR c0 c1
      go_wp2_with fail
      go_end0
      refine ⟨rfl,?_,HB15.out⟩
      have := HA15.out
      rw [HV.out] at this
      rw [EU.out,EQ.out,← EM2.out,EM1.out]
      exact this.mono (by omega)
    · have EM2 := Lib.hid (HMM.out (by rw [hRv]; intro e; cases e; exact hv rfl))
      have hne : (v == paxTime S n) = false := by rw [beq_eq_false_iff_ne]; exact hv
      clear hRv hv
      go_wp2_with fail
      refine hfp.mono ?_
      rintro e w14 ⟨rfl,hb4⟩
      have HA14 := Lib.hid (HA6.out.below hb4)
      have HB14 := Lib.hid (HB6.out.trans (hb4.mono (by have := HA6.out.lt; omega)))
      clear hb4 hcR c0 c1
      go_wp2_with fail
      go_end0
      refine ⟨rfl,?_,HB14.out⟩
      rw [EU.out,EQ.out,← EM2.out,EM1.out]
      exact HA14.out.mono (by omega)
theorem vTim_B (G0 : Nat) (E : Nat → Addr) (b0 : Nat) (H : Hd) (R : KV) (u p g q : Bool) (m : KV) (k : Nat) (w : World) (h : AF G0 E b0 H R u p g q m k w) (n x : Int) (nm : List UInt8) (hnm : nm.length ≤ 20) (hk : k < 1000) (hz : tZero n x = false) (h0 : 0 ≤ n) (h1 : n < 1000000000) (hx : -100000000000000000 ≤ x - 62135596800 ∧ x - 62135596800 ≤ 100000000000000000) (hfo : octFits 12 (x - 62135596800) = true) (hn0 : ¬ n = 0) :
    Calls Tryz.prog 102 #[tmV n x,.int .i64 12,str nm,str [109,116,105,109,101],.pointer (some ⟨b0 + 6,0,none⟩),.pointer (some ⟨b0 + 1,0,none⟩),.pointer (some ⟨b0 + 4,0,none⟩),.pointer (some ⟨b0 + 7,0,none⟩),.pointer (some ⟨b0 + 5,0,none⟩),.pointer (some ⟨b0 + 2,0,none⟩),.pointer (some ⟨b0,0,none⟩)] w
      (AFRet G0 E b0 H R (timU u n x [109,116,105,109,101]) p g (timQ q n x [109,116,105,109,101]) (timM m R n x [109,116,105,109,101]) (k + 2) w) := by
  have hkd : decide ([109,116,105,109,101] = kMtime) = true := decide_eq_true rfl
  have hnd : timNeed n x [109,116,105,109,101] = true := by unfold timNeed; rw [hkd]; rw [hfo,decide_eq_false hn0]; rfl
  have eU : timU u n x [109,116,105,109,101] = u := by unfold timU; rw [hz,hkd]; simp [hfo]
  have eQ : timQ q n x [109,116,105,109,101] = true := by unfold timQ; rw [hz,hnd]; simp
  have eM1 : timM1 m n x [109,116,105,109,101] = putF m [109,116,105,109,101] (paxTime (x - 62135596800) n) := by unfold timM1; rw [hnd]; rfl
  have EU := Lib.hid eU; have EQ := Lib.hid eQ; have EM1 := Lib.hid eM1
  have HMH := Lib.hid (fun h => timM_hit m R n x [109,116,105,109,101] hz h)
  have HMM := Lib.hid (fun h => timM_miss m R n x [109,116,105,109,101] hz h)
  have t0 : (n != 0) = true := by simp [hn0]
  clear hn0
  have hlenP := paxTime_len (x - 62135596800) n h0 h1 hx
  have hle8 := fun w' => fits8 (x - 62135596800) w' 12 (by omega) (by omega) (by omega)
  rw [hfo] at hle8
  have a1 := heap_alloc_new w (.cells #[.int .u64 n,.int .i64 x] 126)
  have hb1 := (Below.refl w.heap.size w).alloc (Nat.le_refl _) (.cells #[.int .u64 n,.int .i64 x] 126)
  have hiz := fun w' => tIsZero w' n x
  rw [hz] at hiz
  have hun := fun w' => tUnix w' n x h0 h1 hx
  have hna := fun w' => tNano w' n x h0 h1
  have hft := fun w' (hg : Gl G0 E w') => fmtPaxTime w' hg n x h0 h1 hx
  have HU := Lib.hid hun; have HNA := Lib.hid hna; have HFT := Lib.hid hft; have H8 := Lib.hid hle8; have HIZ := Lib.hid hiz
  have HA0 := Lib.hid (h.below hb1)
  have HB0 := Lib.hid (hb1.mono (show b0 ≤ w.heap.size by have := h.lt; omega))
  have hlb := h.lt
  generalize hw1 : w.alloc (.cells #[.int .u64 n,.int .i64 x] 126) = w1 at *
  generalize hB : w.heap.size = B1 at *
  have A1 := Lib.hid a1
  have c0 : w1.cell? ⟨B1,0,none⟩ = some (.int .u64 n) := by rw [Lib.cell_of_heap a1]; rfl
  have c1 : w1.cell? ⟨B1,1,none⟩ = some (.int .i64 x) := by rw [Lib.cell_of_heap a1]; rfl
  clear h hb1 a1 hz hkd hnd eU eQ eM1 hun hna hft hle8 hiz hfo
  generalize hS : x - 62135596800 = S at *
  have HSS := Lib.hid hS
  clear hS
  go_enter Tryz.func102,Tryz.ntmps102
  go_wp2_with fail
  refine (HIZ.out _).mono ?_
  rintro e w2 ⟨rfl,hb⟩
  have HA2 := Lib.hid (HA0.out.below hb)
  have HB2 := Lib.hid (HB0.out.trans (hb.mono (show b0 ≤ w1.heap.size by have := HA0.out.lt; omega)))
  have a1 := (hb.block B1 (lt_of_heap A1.out)).trans A1.out
  have A2 := Lib.hid a1
  have c0 : w2.cell? ⟨B1,0,none⟩ = some (.int .u64 n) := by rw [Lib.cell_of_heap a1]; rfl
  have c1 : w2.cell? ⟨B1,1,none⟩ = some (.int .i64 x) := by rw [Lib.cell_of_heap a1]; rfl
  clear hb a1
  go_wp2_with fail
  refine (HU.out _).mono ?_
  rintro e w3 ⟨rfl,hb⟩
  have HA3 := Lib.hid (HA2.out.below hb)
  have HB3 := Lib.hid (HB2.out.trans (hb.mono (show b0 ≤ w2.heap.size by have := HA2.out.lt; omega)))
  have a1 := (hb.block B1 (lt_of_heap A2.out)).trans A2.out
  have A3 := Lib.hid a1
  have c0 : w3.cell? ⟨B1,0,none⟩ = some (.int .u64 n) := by rw [Lib.cell_of_heap a1]; rfl
  have c1 : w3.cell? ⟨B1,1,none⟩ = some (.int .i64 x) := by rw [Lib.cell_of_heap a1]; rfl
  clear hb a1
  go_wp2_with fail
  refine (fits256_12 _ _).mono ?_
  rintro e wx ⟨rfl,rfl⟩
  go_wp2_with fail
  refine (HU.out _).mono ?_
  rintro e w4 ⟨rfl,hb⟩
  have HA4 := Lib.hid (HA3.out.below hb)
  have HB4 := Lib.hid (HB3.out.trans (hb.mono (show b0 ≤ w3.heap.size by have := HA3.out.lt; omega)))
  have a1 := (hb.block B1 (lt_of_heap A3.out)).trans A3.out
  have A4 := Lib.hid a1
  have c0 : w4.cell? ⟨B1,0,none⟩ = some (.int .u64 n) := by rw [Lib.cell_of_heap a1]; rfl
  have c1 : w4.cell? ⟨B1,1,none⟩ = some (.int .i64 x) := by rw [Lib.cell_of_heap a1]; rfl
  clear hb a1
  go_wp2_with fail
  refine (H8.out _).mono ?_
  rintro e wx ⟨rfl,rfl⟩
  go_wp2_with fail
  refine (HNA.out _).mono ?_
  rintro e w6 ⟨rfl,hb⟩
  have HA6 := Lib.hid (HA4.out.below hb)
  have HB6 := Lib.hid (HB4.out.trans (hb.mono (show b0 ≤ w4.heap.size by have := HA4.out.lt; omega)))
  have a1 := (hb.block B1 (lt_of_heap A4.out)).trans A4.out
  have A6 := Lib.hid a1
  have c0 : w6.cell? ⟨B1,0,none⟩ = some (.int .u64 n) := by rw [Lib.cell_of_heap a1]; rfl
  have c1 : w6.cell? ⟨B1,1,none⟩ = some (.int .i64 x) := by rw [Lib.cell_of_heap a1]; rfl
  clear hb a1
  have h7 := HA6.out.setQ true
  have cq : w6.cell? ⟨b0 + 7,0,none⟩ = some (.bool q) := by rw [Lib.cell_of_heap HA6.out.pr]; rfl
  have zq : w6.frozen? ⟨b0 + 7,0,none⟩ = false := Lib.frozen_of_heap HA6.out.pr 0
  have H7 := Lib.hid h7
  have HB7 := Lib.hid (HB6.out.trans (set_below b0 w6 7 (.bool true)))
  have a1 : (w6.setCell ⟨b0 + 7,0,none⟩ (.bool true)).heap[B1]? = some (.cells #[.int .u64 n,.int .i64 x] 126 (0,0)) := (heap_set_other _ (by show B1 ≠ b0 + 7; omega)).trans A6.out
  have A7 := Lib.hid a1
  clear h7 a1
  go_wp2_with fail
  clear cq zq c0 c1
  generalize w6.setCell ⟨b0 + 7,0,none⟩ (.bool true) = w7 at *
  have a1 := A7.out
  have c0 : w7.cell? ⟨B1,0,none⟩ = some (.int .u64 n) := by rw [Lib.cell_of_heap a1]; rfl
  have c1 : w7.cell? ⟨B1,1,none⟩ = some (.int .i64 x) := by rw [Lib.cell_of_heap a1]; rfl
  have c2b := H7.out.cells.2.2.2.2.2.2.1
  have HF := Lib.hid (HFT.out w7.drew H7.out.gl.drew)
  have hsz7 := lt_of_heap a1
  have hlt7 := H7.out.lt
  clear a1
  go_region_held3 (fun w' => w'.cell? ⟨b0 + 2,0,none⟩ = some (.map (some (b0 + 3))) ∧ w'.cell? ⟨B1,0,none⟩ = some (.int .u64 n) ∧ w'.cell? ⟨B1,1,none⟩ = some (.int .i64 x)) (first | go_keep | (refine And.intro ?_ (And.intro ?_ ?_) <;> assumption))
    (first | (go_at_call 105; refine HF.out.mono ?_; rintro e w8 ⟨rfl,hb8⟩; have hA8 := H7.out.below ((Below.refl _ w7).drew.trans hb8); have hB8 := Lib.hid ((((Below.refl _ w7).drew.trans hb8)).mono (show b0 ≤ w7.heap.size by omega)); have d2 := hA8.cells.2.2.2.2.2.2.1; have d0 := (hb8.cell (p := ⟨B1,0,none⟩) hsz7).trans c0; have d1 := (hb8.cell (p := ⟨B1,1,none⟩) hsz7).trans c1; obtain ⟨w9,hr9,hA9,hB9,hK9⟩ := hA8.put2 (by omega) [109,116,105,109,101] (paxTime S n) (by decide) (by omega); have e2 := hA9.cells.2.2.2.2.2.2.1; have e0 := (World.cell?_of_block (w := w8) (a := ⟨B1,0,none⟩) (hK9 B1 (by omega) (Nat.lt_of_lt_of_le hsz7 hb8.size))).trans d0; have e1 := (World.cell?_of_block (w := w8) (a := ⟨B1,1,none⟩) (hK9 B1 (by omega) (Nat.lt_of_lt_of_le hsz7 hb8.size))).trans d1))
  have HB9 := Lib.hid (HB7.out.trans (hB8.out.trans hB9))
  have A9 := Lib.hid ((hK9 B1 (by omega) (Nat.lt_of_lt_of_le hsz7 hb8.size)).trans ((hb8.block B1 hsz7).trans A7.out))
  have HA9 := Lib.hid hA9
  clear c0 c1 c2b hb8 hA8 hB8 d0 d1 d2 e0 e1 e2 hA9 hB9 hK9 hr9 HF
  have hcR := HA9.out.cells.2.2.2.2.2.2.2
  have hlk := HA9.out.lookR [109,116,105,109,101] (by decide)
  cases hRv : R [109,116,105,109,101] with
  | none =>
    rw [hRv] at hlk
    simp only [Option.getD_none,Option.isSome_none] at hlk
    have EM2 := Lib.hid (HMM.out (by rw [hRv]; simp))
    clear hRv
    go_wp2_with fail
    go_end0
    refine ⟨rfl,?_,HB9.out⟩
    rw [EU.out,EQ.out,← EM2.out,EM1.out]
    exact HA9.out.mono (by omega)
  | some v =>
    rw [hRv] at hlk
    simp only [Option.getD_some,Option.isSome_some] at hlk
    have a1 := A9.out
    have c0 : w9.cell? ⟨B1,0,none⟩ = some (.int .u64 n) := by rw [Lib.cell_of_heap a1]; rfl
    have c1 : w9.cell? ⟨B1,1,none⟩ = some (.int .i64 x) := by rw [Lib.cell_of_heap a1]; rfl
    clear a1
    have hfp := HFT.out w9 HA9.out.gl
    by_cases hv : v = paxTime S n
    · have EM2 := Lib.hid (HMH.out (by rw [hRv,hv]))
      have hne : (v == paxTime S n) = true := by rw [hv]; simp
      have hvl : v.length ≤ 2000 := by rw [hv]; exact hlenP
      have HV := Lib.hid hv
      clear hRv hv
      go_wp2_with fail
      refine hfp.mono ?_
      rintro e w14 ⟨rfl,hb4⟩
      have hA4 := HA9.out.below hb4
      have c2b := hA4.cells.2.2.2.2.2.2.1
      have HB14 := Lib.hid (HB9.out.trans (hb4.mono (by have := HA9.out.lt; omega)))
      obtain ⟨w15,hr5,hA5,hB5⟩ := hA4.put (by omega) [109,116,105,109,101] v (by decide) (by omega)
      have HA15 := Lib.hid hA5
      have HB15 := Lib.hid (HB14.out.trans hB5)
      clear hA5 hB5 hb4 hA4 hcR c0 c1
      go_wp2_with fail
      go_end0
      refine ⟨rfl,?_,HB15.out⟩
      have := HA15.out
      rw [HV.out] at this
      rw [EU.out,EQ.out,← EM2.out,EM1.out]
      exact this.mono (by omega)
    · have EM2 := Lib.hid (HMM.out (by rw [hRv]; intro e; cases e; exact hv rfl))
      have hne : (v == paxTime S n) = false := by rw [beq_eq_false_iff_ne]; exact hv
      clear hRv hv
      go_wp2_with fail
      refine hfp.mono ?_
      rintro e w14 ⟨rfl,hb4⟩
      have HA14 := Lib.hid (HA9.out.below hb4)
      have HB14 := Lib.hid (HB9.out.trans (hb4.mono (by have := HA9.out.lt; omega)))
      clear hb4 hcR c0 c1
      go_wp2_with fail
      go_end0
      refine ⟨rfl,?_,HB14.out⟩
      rw [EU.out,EQ.out,← EM2.out,EM1.out]
      exact HA14.out.mono (by omega)
theorem vTim_C (G0 : Nat) (E : Nat → Addr) (b0 : Nat) (H : Hd) (R : KV) (u p g q : Bool) (m : KV) (k : Nat) (w : World) (h : AF G0 E b0 H R u p g q m k w) (n x : Int) (nm : List UInt8) (hnm : nm.length ≤ 20) (hk : k < 1000) (hz : tZero n x = false) (h0 : 0 ≤ n) (h1 : n < 1000000000) (hx : -100000000000000000 ≤ x - 62135596800 ∧ x - 62135596800 ≤ 100000000000000000) (hfo : octFits 12 (x - 62135596800) = false) :
    Calls Tryz.prog 102 #[tmV n x,.int .i64 12,str nm,str [109,116,105,109,101],.pointer (some ⟨b0 + 6,0,none⟩),.pointer (some ⟨b0 + 1,0,none⟩),.pointer (some ⟨b0 + 4,0,none⟩),.pointer (some ⟨b0 + 7,0,none⟩),.pointer (some ⟨b0 + 5,0,none⟩),.pointer (some ⟨b0 + 2,0,none⟩),.pointer (some ⟨b0,0,none⟩)] w
      (AFRet G0 E b0 H R (timU u n x [109,116,105,109,101]) p g (timQ q n x [109,116,105,109,101]) (timM m R n x [109,116,105,109,101]) (k + 2) w) := by
  have hkd : decide ([109,116,105,109,101] = kMtime) = true := decide_eq_true rfl
  have hnd : timNeed n x [109,116,105,109,101] = true := by unfold timNeed; rw [hkd]; rw [hfo]; rfl
  have eU : timU u n x [109,116,105,109,101] = false := by unfold timU; rw [hz,hkd]; simp [hfo]
  have eQ : timQ q n x [109,116,105,109,101] = true := by unfold timQ; rw [hz,hnd]; simp
  have eM1 : timM1 m n x [109,116,105,109,101] = putF m [109,116,105,109,101] (paxTime (x - 62135596800) n) := by unfold timM1; rw [hnd]; rfl
  have EU := Lib.hid eU; have EQ := Lib.hid eQ; have EM1 := Lib.hid eM1
  have HMH := Lib.hid (fun h => timM_hit m R n x [109,116,105,109,101] hz h)
  have HMM := Lib.hid (fun h => timM_miss m R n x [109,116,105,109,101] hz h)
  have hlenP := paxTime_len (x - 62135596800) n h0 h1 hx
  have hle8 := fun w' => fits8 (x - 62135596800) w' 12 (by omega) (by omega) (by omega)
  rw [hfo] at hle8
  have a1 := heap_alloc_new w (.cells #[.int .u64 n,.int .i64 x] 126)
  have hb1 := (Below.refl w.heap.size w).alloc (Nat.le_refl _) (.cells #[.int .u64 n,.int .i64 x] 126)
  have hiz := fun w' => tIsZero w' n x
  rw [hz] at hiz
  have hun := fun w' => tUnix w' n x h0 h1 hx
  have hna := fun w' => tNano w' n x h0 h1
  have hft := fun w' (hg : Gl G0 E w') => fmtPaxTime w' hg n x h0 h1 hx
  have HU := Lib.hid hun; have HNA := Lib.hid hna; have HFT := Lib.hid hft; have H8 := Lib.hid hle8; have HIZ := Lib.hid hiz
  have HA0 := Lib.hid (h.below hb1)
  have HB0 := Lib.hid (hb1.mono (show b0 ≤ w.heap.size by have := h.lt; omega))
  have hlb := h.lt
  generalize hw1 : w.alloc (.cells #[.int .u64 n,.int .i64 x] 126) = w1 at *
  generalize hB : w.heap.size = B1 at *
  have A1 := Lib.hid a1
  have c0 : w1.cell? ⟨B1,0,none⟩ = some (.int .u64 n) := by rw [Lib.cell_of_heap a1]; rfl
  have c1 : w1.cell? ⟨B1,1,none⟩ = some (.int .i64 x) := by rw [Lib.cell_of_heap a1]; rfl
  clear h hb1 a1 hz hkd hnd eU eQ eM1 hun hna hft hle8 hiz hfo
  generalize hS : x - 62135596800 = S at *
  have HSS := Lib.hid hS
  clear hS
  go_enter Tryz.func102,Tryz.ntmps102
  go_wp2_with fail
  refine (HIZ.out _).mono ?_
  rintro e w2 ⟨rfl,hb⟩
  have HA2 := Lib.hid (HA0.out.below hb)
  have HB2 := Lib.hid (HB0.out.trans (hb.mono (show b0 ≤ w1.heap.size by have := HA0.out.lt; omega)))
  have a1 := (hb.block B1 (lt_of_heap A1.out)).trans A1.out
  have A2 := Lib.hid a1
  have c0 : w2.cell? ⟨B1,0,none⟩ = some (.int .u64 n) := by rw [Lib.cell_of_heap a1]; rfl
  have c1 : w2.cell? ⟨B1,1,none⟩ = some (.int .i64 x) := by rw [Lib.cell_of_heap a1]; rfl
  clear hb a1
  go_wp2_with fail
  refine (HU.out _).mono ?_
  rintro e w3 ⟨rfl,hb⟩
  have HA3 := Lib.hid (HA2.out.below hb)
  have HB3 := Lib.hid (HB2.out.trans (hb.mono (show b0 ≤ w2.heap.size by have := HA2.out.lt; omega)))
  have a1 := (hb.block B1 (lt_of_heap A2.out)).trans A2.out
  have A3 := Lib.hid a1
  have c0 : w3.cell? ⟨B1,0,none⟩ = some (.int .u64 n) := by rw [Lib.cell_of_heap a1]; rfl
  have c1 : w3.cell? ⟨B1,1,none⟩ = some (.int .i64 x) := by rw [Lib.cell_of_heap a1]; rfl
  clear hb a1
  go_wp2_with fail
  refine (fits256_12 _ _).mono ?_
  rintro e wx ⟨rfl,rfl⟩
  go_wp2_with fail
  refine (HU.out _).mono ?_
  rintro e w4 ⟨rfl,hb⟩
  have HA4 := Lib.hid (HA3.out.below hb)
  have HB4 := Lib.hid (HB3.out.trans (hb.mono (show b0 ≤ w3.heap.size by have := HA3.out.lt; omega)))
  have a1 := (hb.block B1 (lt_of_heap A3.out)).trans A3.out
  have A4 := Lib.hid a1
  have c0 : w4.cell? ⟨B1,0,none⟩ = some (.int .u64 n) := by rw [Lib.cell_of_heap a1]; rfl
  have c1 : w4.cell? ⟨B1,1,none⟩ = some (.int .i64 x) := by rw [Lib.cell_of_heap a1]; rfl
  clear hb a1
  go_wp2_with fail
  refine (H8.out _).mono ?_
  rintro e wx ⟨rfl,rfl⟩
  have ⟨⟨x4,c4⟩,⟨x5,c5⟩,⟨x6,c6⟩,z4,z5,z6,c2,cR⟩ := HA4.out.cells
  have h4 := HA4.out.setS1 ((⟨#[85,83,84,65,82,32,99,97,110,110,111,116,32,101,110,99,111,100,101,32]⟩ : ByteArray) ++ ⟨nm.toArray⟩)
  have hm := mustNotBe _ (b0 + 1) u p g h4.fF 2 false p g (.inl ⟨rfl,rfl,rfl,rfl⟩)
  have h5 := h4.setF false p g
  have H5 := Lib.hid h5
  have HB5 := Lib.hid (HB4.out.trans ((set_below b0 w4 4 (.string ((⟨#[85,83,84,65,82,32,99,97,110,110,111,116,32,101,110,99,111,100,101,32]⟩ : ByteArray) ++ ⟨nm.toArray⟩))).trans (set_below b0 _ 1 (.int .i64 (fm false p g)))))
  have a1 : ((w4.setCell ⟨b0 + 4,0,none⟩ (.string ((⟨#[85,83,84,65,82,32,99,97,110,110,111,116,32,101,110,99,111,100,101,32]⟩ : ByteArray) ++ ⟨nm.toArray⟩))).setCell ⟨b0 + 1,0,none⟩ (.int .i64 (fm false p g))).heap[B1]? = some (.cells #[.int .u64 n,.int .i64 x] 126 (0,0)) := (heap_set_other _ (by show B1 ≠ b0 + 1; omega)).trans ((heap_set_other _ (by show B1 ≠ b0 + 4; omega)).trans A4.out)
  have A5 := Lib.hid a1
  clear c5 c6 z5 z6 c2 cR h4 h5 a1
  go_wp2_with fail
  refine hm.mono ?_
  rintro e w6 ⟨rfl,rfl⟩
  clear c4 z4 hm c0 c1
  generalize (w4.setCell ⟨b0 + 4,0,none⟩ (.string ((⟨#[85,83,84,65,82,32,99,97,110,110,111,116,32,101,110,99,111,100,101,32]⟩ : ByteArray) ++ ⟨nm.toArray⟩))).setCell ⟨b0 + 1,0,none⟩ (.int .i64 (fm false p g)) = w5 at *
  have a1 := A5.out
  have c0 : w5.cell? ⟨B1,0,none⟩ = some (.int .u64 n) := by rw [Lib.cell_of_heap a1]; rfl
  have c1 : w5.cell? ⟨B1,1,none⟩ = some (.int .i64 x) := by rw [Lib.cell_of_heap a1]; rfl
  clear a1
  go_wp2_with fail
  refine (HNA.out _).mono ?_
  rintro e w6 ⟨rfl,hb⟩
  have HA6 := Lib.hid (H5.out.below hb)
  have HB6 := Lib.hid (HB5.out.trans (hb.mono (show b0 ≤ w5.heap.size by have := H5.out.lt; omega)))
  have a1 := (hb.block B1 (lt_of_heap A5.out)).trans A5.out
  have A6 := Lib.hid a1
  have c0 : w6.cell? ⟨B1,0,none⟩ = some (.int .u64 n) := by rw [Lib.cell_of_heap a1]; rfl
  have c1 : w6.cell? ⟨B1,1,none⟩ = some (.int .i64 x) := by rw [Lib.cell_of_heap a1]; rfl
  clear hb a1
  have h7 := HA6.out.setQ true
  have cq : w6.cell? ⟨b0 + 7,0,none⟩ = some (.bool q) := by rw [Lib.cell_of_heap HA6.out.pr]; rfl
  have zq : w6.frozen? ⟨b0 + 7,0,none⟩ = false := Lib.frozen_of_heap HA6.out.pr 0
  have H7 := Lib.hid h7
  have HB7 := Lib.hid (HB6.out.trans (set_below b0 w6 7 (.bool true)))
  have a1 : (w6.setCell ⟨b0 + 7,0,none⟩ (.bool true)).heap[B1]? = some (.cells #[.int .u64 n,.int .i64 x] 126 (0,0)) := (heap_set_other _ (by show B1 ≠ b0 + 7; omega)).trans A6.out
  have A7 := Lib.hid a1
  clear h7 a1
  go_wp2_with fail
  clear cq zq c0 c1
  generalize w6.setCell ⟨b0 + 7,0,none⟩ (.bool true) = w7 at *
  have a1 := A7.out
  have c0 : w7.cell? ⟨B1,0,none⟩ = some (.int .u64 n) := by rw [Lib.cell_of_heap a1]; rfl
  have c1 : w7.cell? ⟨B1,1,none⟩ = some (.int .i64 x) := by rw [Lib.cell_of_heap a1]; rfl
  have c2b := H7.out.cells.2.2.2.2.2.2.1
  have HF := Lib.hid (HFT.out w7.drew H7.out.gl.drew)
  have hsz7 := lt_of_heap a1
  have hlt7 := H7.out.lt
  clear a1
  go_region_held3 (fun w' => w'.cell? ⟨b0 + 2,0,none⟩ = some (.map (some (b0 + 3))) ∧ w'.cell? ⟨B1,0,none⟩ = some (.int .u64 n) ∧ w'.cell? ⟨B1,1,none⟩ = some (.int .i64 x)) (first | go_keep | (refine And.intro ?_ (And.intro ?_ ?_) <;> assumption))
    (first | (go_at_call 105; refine HF.out.mono ?_; rintro e w8 ⟨rfl,hb8⟩; have hA8 := H7.out.below ((Below.refl _ w7).drew.trans hb8); have hB8 := Lib.hid ((((Below.refl _ w7).drew.trans hb8)).mono (show b0 ≤ w7.heap.size by omega)); have d2 := hA8.cells.2.2.2.2.2.2.1; have d0 := (hb8.cell (p := ⟨B1,0,none⟩) hsz7).trans c0; have d1 := (hb8.cell (p := ⟨B1,1,none⟩) hsz7).trans c1; obtain ⟨w9,hr9,hA9,hB9,hK9⟩ := hA8.put2 (by omega) [109,116,105,109,101] (paxTime S n) (by decide) (by omega); have e2 := hA9.cells.2.2.2.2.2.2.1; have e0 := (World.cell?_of_block (w := w8) (a := ⟨B1,0,none⟩) (hK9 B1 (by omega) (Nat.lt_of_lt_of_le hsz7 hb8.size))).trans d0; have e1 := (World.cell?_of_block (w := w8) (a := ⟨B1,1,none⟩) (hK9 B1 (by omega) (Nat.lt_of_lt_of_le hsz7 hb8.size))).trans d1))
  have HB9 := Lib.hid (HB7.out.trans (hB8.out.trans hB9))
  have A9 := Lib.hid ((hK9 B1 (by omega) (Nat.lt_of_lt_of_le hsz7 hb8.size)).trans ((hb8.block B1 hsz7).trans A7.out))
  have HA9 := Lib.hid hA9
  clear c0 c1 c2b hb8 hA8 hB8 d0 d1 d2 e0 e1 e2 hA9 hB9 hK9 hr9 HF
  have hcR := HA9.out.cells.2.2.2.2.2.2.2
  have hlk := HA9.out.lookR [109,116,105,109,101] (by decide)
  cases hRv : R [109,116,105,109,101] with
  | none =>
    rw [hRv] at hlk
    simp only [Option.getD_none,Option.isSome_none] at hlk
    have EM2 := Lib.hid (HMM.out (by rw [hRv]; simp))
    clear hRv
    go_wp2_with fail
    go_end0
    refine ⟨rfl,?_,HB9.out⟩
    rw [EU.out,EQ.out,← EM2.out,EM1.out]
    exact HA9.out.mono (by omega)
  | some v =>
    rw [hRv] at hlk
    simp only [Option.getD_some,Option.isSome_some] at hlk
    have a1 := A9.out
    have c0 : w9.cell? ⟨B1,0,none⟩ = some (.int .u64 n) := by rw [Lib.cell_of_heap a1]; rfl
    have c1 : w9.cell? ⟨B1,1,none⟩ = some (.int .i64 x) := by rw [Lib.cell_of_heap a1]; rfl
    clear a1
    have hfp := HFT.out w9 HA9.out.gl
    by_cases hv : v = paxTime S n
    · have EM2 := Lib.hid (HMH.out (by rw [hRv,hv]))
      have hne : (v == paxTime S n) = true := by rw [hv]; simp
      have hvl : v.length ≤ 2000 := by rw [hv]; exact hlenP
      have HV := Lib.hid hv
      clear hRv hv
      go_wp2_with fail
      refine hfp.mono ?_
      rintro e w14 ⟨rfl,hb4⟩
      have hA4 := HA9.out.below hb4
      have c2b := hA4.cells.2.2.2.2.2.2.1
      have HB14 := Lib.hid (HB9.out.trans (hb4.mono (by have := HA9.out.lt; omega)))
      obtain ⟨w15,hr5,hA5,hB5⟩ := hA4.put (by omega) [109,116,105,109,101] v (by decide) (by omega)
      have HA15 := Lib.hid hA5
      have HB15 := Lib.hid (HB14.out.trans hB5)
      clear hA5 hB5 hb4 hA4 hcR c0 c1
      go_wp2_with fail
      go_end0
      refine ⟨rfl,?_,HB15.out⟩
      have := HA15.out
      rw [HV.out] at this
      rw [EU.out,EQ.out,← EM2.out,EM1.out]
      exact this.mono (by omega)
    · have EM2 := Lib.hid (HMM.out (by rw [hRv]; intro e; cases e; exact hv rfl))
      have hne : (v == paxTime S n) = false := by rw [beq_eq_false_iff_ne]; exact hv
      clear hRv hv
      go_wp2_with fail
      refine hfp.mono ?_
      rintro e w14 ⟨rfl,hb4⟩
      have HA14 := Lib.hid (HA9.out.below hb4)
      have HB14 := Lib.hid (HB9.out.trans (hb4.mono (by have := HA9.out.lt; omega)))
      clear hb4 hcR c0 c1
      go_wp2_with fail
      go_end0
      refine ⟨rfl,?_,HB14.out⟩
      rw [EU.out,EQ.out,← EM2.out,EM1.out]
      exact HA14.out.mono (by omega)
theorem vTim_D (G0 : Nat) (E : Nat → Addr) (b0 : Nat) (H : Hd) (R : KV) (u p g q : Bool) (m : KV) (k : Nat) (w : World) (h : AF G0 E b0 H R u p g q m k w) (n x : Int) (nm : List UInt8) (hnm : nm.length ≤ 20) (hk : k < 1000) (key : List UInt8) (hkl : key.length ≤ 20) (hk1 : ¬ key = [109,116,105,109,101]) (hk3 : key.isEmpty = false) (hz : tZero n x = false) (h0 : 0 ≤ n) (h1 : n < 1000000000) (hx : -100000000000000000 ≤ x - 62135596800 ∧ x - 62135596800 ≤ 100000000000000000) :
    Calls Tryz.prog 102 #[tmV n x,.int .i64 12,str nm,str key,.pointer (some ⟨b0 + 6,0,none⟩),.pointer (some ⟨b0 + 1,0,none⟩),.pointer (some ⟨b0 + 4,0,none⟩),.pointer (some ⟨b0 + 7,0,none⟩),.pointer (some ⟨b0 + 5,0,none⟩),.pointer (some ⟨b0 + 2,0,none⟩),.pointer (some ⟨b0,0,none⟩)] w
      (AFRet G0 E b0 H R (timU u n x key) p g (timQ q n x key) (timM m R n x key) (k + 2) w) := by
  have hkd : decide (key = kMtime) = false := decide_eq_false hk1
  have hnd : timNeed n x key = true := by unfold timNeed; rw [hkd]; rfl
  have eU : timU u n x key = false := by unfold timU; rw [hz,hkd]; simp
  have eQ : timQ q n x key = true := by unfold timQ; rw [hz,hnd]; simp
  have eM1 : timM1 m n x key = putF m key (paxTime (x - 62135596800) n) := by unfold timM1; rw [hnd]; rfl
  have EU := Lib.hid eU; have EQ := Lib.hid eQ; have EM1 := Lib.hid eM1
  have HMH := Lib.hid (fun h => timM_hit m R n x key hz h)
  have HMM := Lib.hid (fun h => timM_miss m R n x key hz h)
  have hlenP := paxTime_len (x - 62135596800) n h0 h1 hx
  have hle8 := fun w' => fits8 (x - 62135596800) w' 12 (by omega) (by omega) (by omega)
  have a1 := heap_alloc_new w (.cells #[.int .u64 n,.int .i64 x] 126)
  have hb1 := (Below.refl w.heap.size w).alloc (Nat.le_refl _) (.cells #[.int .u64 n,.int .i64 x] 126)
  have hiz := fun w' => tIsZero w' n x
  rw [hz] at hiz
  have hun := fun w' => tUnix w' n x h0 h1 hx
  have hna := fun w' => tNano w' n x h0 h1
  have hft := fun w' (hg : Gl G0 E w') => fmtPaxTime w' hg n x h0 h1 hx
  have HU := Lib.hid hun; have HNA := Lib.hid hna; have HFT := Lib.hid hft; have H8 := Lib.hid hle8; have HIZ := Lib.hid hiz
  have HA0 := Lib.hid (h.below hb1)
  have HB0 := Lib.hid (hb1.mono (show b0 ≤ w.heap.size by have := h.lt; omega))
  have hlb := h.lt
  generalize hw1 : w.alloc (.cells #[.int .u64 n,.int .i64 x] 126) = w1 at *
  generalize hB : w.heap.size = B1 at *
  have A1 := Lib.hid a1
  have c0 : w1.cell? ⟨B1,0,none⟩ = some (.int .u64 n) := by rw [Lib.cell_of_heap a1]; rfl
  have c1 : w1.cell? ⟨B1,1,none⟩ = some (.int .i64 x) := by rw [Lib.cell_of_heap a1]; rfl
  have hk1b : (key == [109,116,105,109,101]) = false := by rw [beq_eq_false_iff_ne]; exact hk1
  clear h hb1 a1 hz hkd hnd eU eQ eM1 hun hna hft hle8 hiz
  generalize hS : x - 62135596800 = S at *
  have HSS := Lib.hid hS
  clear hS
  go_enter Tryz.func102,Tryz.ntmps102
  go_wp2_with fail
  refine (HIZ.out _).mono ?_
  rintro e w2 ⟨rfl,hb⟩
  have HA2 := Lib.hid (HA0.out.below hb)
  have HB2 := Lib.hid (HB0.out.trans (hb.mono (show b0 ≤ w1.heap.size by have := HA0.out.lt; omega)))
  have a1 := (hb.block B1 (lt_of_heap A1.out)).trans A1.out
  have A2 := Lib.hid a1
  have c0 : w2.cell? ⟨B1,0,none⟩ = some (.int .u64 n) := by rw [Lib.cell_of_heap a1]; rfl
  have c1 : w2.cell? ⟨B1,1,none⟩ = some (.int .i64 x) := by rw [Lib.cell_of_heap a1]; rfl
  clear hb a1
  go_wp2_with fail
  refine (HU.out _).mono ?_
  rintro e w3 ⟨rfl,hb⟩
  have HA3 := Lib.hid (HA2.out.below hb)
  have HB3 := Lib.hid (HB2.out.trans (hb.mono (show b0 ≤ w2.heap.size by have := HA2.out.lt; omega)))
  have a1 := (hb.block B1 (lt_of_heap A2.out)).trans A2.out
  have A3 := Lib.hid a1
  have c0 : w3.cell? ⟨B1,0,none⟩ = some (.int .u64 n) := by rw [Lib.cell_of_heap a1]; rfl
  have c1 : w3.cell? ⟨B1,1,none⟩ = some (.int .i64 x) := by rw [Lib.cell_of_heap a1]; rfl
  clear hb a1
  go_wp2_with fail
  refine (fits256_12 _ _).mono ?_
  rintro e wx ⟨rfl,rfl⟩
  go_wp2_with fail
  refine (HU.out _).mono ?_
  rintro e w4 ⟨rfl,hb⟩
  have HA4 := Lib.hid (HA3.out.below hb)
  have HB4 := Lib.hid (HB3.out.trans (hb.mono (show b0 ≤ w3.heap.size by have := HA3.out.lt; omega)))
  have a1 := (hb.block B1 (lt_of_heap A3.out)).trans A3.out
  have A4 := Lib.hid a1
  have c0 : w4.cell? ⟨B1,0,none⟩ = some (.int .u64 n) := by rw [Lib.cell_of_heap a1]; rfl
  have c1 : w4.cell? ⟨B1,1,none⟩ = some (.int .i64 x) := by rw [Lib.cell_of_heap a1]; rfl
  clear hb a1
  go_wp2_with fail
  refine (H8.out _).mono ?_
  rintro e wx ⟨rfl,rfl⟩
  have ⟨⟨x4,c4⟩,⟨x5,c5⟩,⟨x6,c6⟩,z4,z5,z6,c2,cR⟩ := HA4.out.cells
  have h4 := HA4.out.setS1 ((⟨#[85,83,84,65,82,32,99,97,110,110,111,116,32,101,110,99,111,100,101,32]⟩ : ByteArray) ++ ⟨nm.toArray⟩)
  have hm := mustNotBe _ (b0 + 1) u p g h4.fF 2 false p g (.inl ⟨rfl,rfl,rfl,rfl⟩)
  have h5 := h4.setF false p g
  have H5 := Lib.hid h5
  have HB5 := Lib.hid (HB4.out.trans ((set_below b0 w4 4 (.string ((⟨#[85,83,84,65,82,32,99,97,110,110,111,116,32,101,110,99,111,100,101,32]⟩ : ByteArray) ++ ⟨nm.toArray⟩))).trans (set_below b0 _ 1 (.int .i64 (fm false p g)))))
  have a1 : ((w4.setCell ⟨b0 + 4,0,none⟩ (.string ((⟨#[85,83,84,65,82,32,99,97,110,110,111,116,32,101,110,99,111,100,101,32]⟩ : ByteArray) ++ ⟨nm.toArray⟩))).setCell ⟨b0 + 1,0,none⟩ (.int .i64 (fm false p g))).heap[B1]? = some (.cells #[.int .u64 n,.int .i64 x] 126 (0,0)) := (heap_set_other _ (by show B1 ≠ b0 + 1; omega)).trans ((heap_set_other _ (by show B1 ≠ b0 + 4; omega)).trans A4.out)
  have A5 := Lib.hid a1
  clear c5 c6 z5 z6 c2 cR h4 h5 a1
  go_wp2_with fail
  refine hm.mono ?_
  rintro e w6 ⟨rfl,rfl⟩
  clear c4 z4 hm c0 c1
  generalize (w4.setCell ⟨b0 + 4,0,none⟩ (.string ((⟨#[85,83,84,65,82,32,99,97,110,110,111,116,32,101,110,99,111,100,101,32]⟩ : ByteArray) ++ ⟨nm.toArray⟩))).setCell ⟨b0 + 1,0,none⟩ (.int .i64 (fm false p g)) = w5 at *
  have a1 := A5.out
  have c0 : w5.cell? ⟨B1,0,none⟩ = some (.int .u64 n) := by rw [Lib.cell_of_heap a1]; rfl
  have c1 : w5.cell? ⟨B1,1,none⟩ = some (.int .i64 x) := by rw [Lib.cell_of_heap a1]; rfl
  clear a1
  go_wp2_with fail
  refine (HNA.out _).mono ?_
  rintro e w6 ⟨rfl,hb⟩
  have HA6 := Lib.hid (H5.out.below hb)
  have HB6 := Lib.hid (HB5.out.trans (hb.mono (show b0 ≤ w5.heap.size by have := H5.out.lt; omega)))
  have a1 := (hb.block B1 (lt_of_heap A5.out)).trans A5.out
  have A6 := Lib.hid a1
  have c0 : w6.cell? ⟨B1,0,none⟩ = some (.int .u64 n) := by rw [Lib.cell_of_heap a1]; rfl
  have c1 : w6.cell? ⟨B1,1,none⟩ = some (.int .i64 x) := by rw [Lib.cell_of_heap a1]; rfl
  clear hb a1
  have h7 := HA6.out.setQ true
  have cq : w6.cell? ⟨b0 + 7,0,none⟩ = some (.bool q) := by rw [Lib.cell_of_heap HA6.out.pr]; rfl
  have zq : w6.frozen? ⟨b0 + 7,0,none⟩ = false := Lib.frozen_of_heap HA6.out.pr 0
  have H7 := Lib.hid h7
  have HB7 := Lib.hid (HB6.out.trans (set_below b0 w6 7 (.bool true)))
  have a1 : (w6.setCell ⟨b0 + 7,0,none⟩ (.bool true)).heap[B1]? = some (.cells #[.int .u64 n,.int .i64 x] 126 (0,0)) := (heap_set_other _ (by show B1 ≠ b0 + 7; omega)).trans A6.out
  have A7 := Lib.hid a1
  clear h7 a1
  go_wp2_with fail
  clear cq zq c0 c1
  generalize w6.setCell ⟨b0 + 7,0,none⟩ (.bool true) = w7 at *
  have a1 := A7.out
  have c0 : w7.cell? ⟨B1,0,none⟩ = some (.int .u64 n) := by rw [Lib.cell_of_heap a1]; rfl
  have c1 : w7.cell? ⟨B1,1,none⟩ = some (.int .i64 x) := by rw [Lib.cell_of_heap a1]; rfl
  have c2b := H7.out.cells.2.2.2.2.2.2.1
  have HF := Lib.hid (HFT.out w7.drew H7.out.gl.drew)
  have hsz7 := lt_of_heap a1
  have hlt7 := H7.out.lt
  clear a1
  go_region_held3 (fun w' => w'.cell? ⟨b0 + 2,0,none⟩ = some (.map (some (b0 + 3))) ∧ w'.cell? ⟨B1,0,none⟩ = some (.int .u64 n) ∧ w'.cell? ⟨B1,1,none⟩ = some (.int .i64 x)) (first | go_keep | (refine And.intro ?_ (And.intro ?_ ?_) <;> assumption))
    (first | (go_at_call 105; refine HF.out.mono ?_; rintro e w8 ⟨rfl,hb8⟩; have hA8 := H7.out.below ((Below.refl _ w7).drew.trans hb8); have hB8 := Lib.hid ((((Below.refl _ w7).drew.trans hb8)).mono (show b0 ≤ w7.heap.size by omega)); have d2 := hA8.cells.2.2.2.2.2.2.1; have d0 := (hb8.cell (p := ⟨B1,0,none⟩) hsz7).trans c0; have d1 := (hb8.cell (p := ⟨B1,1,none⟩) hsz7).trans c1; obtain ⟨w9,hr9,hA9,hB9,hK9⟩ := hA8.put2 (by omega) key (paxTime S n) (by omega) (by omega); have e2 := hA9.cells.2.2.2.2.2.2.1; have e0 := (World.cell?_of_block (w := w8) (a := ⟨B1,0,none⟩) (hK9 B1 (by omega) (Nat.lt_of_lt_of_le hsz7 hb8.size))).trans d0; have e1 := (World.cell?_of_block (w := w8) (a := ⟨B1,1,none⟩) (hK9 B1 (by omega) (Nat.lt_of_lt_of_le hsz7 hb8.size))).trans d1))
  have HB9 := Lib.hid (HB7.out.trans (hB8.out.trans hB9))
  have A9 := Lib.hid ((hK9 B1 (by omega) (Nat.lt_of_lt_of_le hsz7 hb8.size)).trans ((hb8.block B1 hsz7).trans A7.out))
  have HA9 := Lib.hid hA9
  clear c0 c1 c2b hb8 hA8 hB8 d0 d1 d2 e0 e1 e2 hA9 hB9 hK9 hr9 HF
  have hcR := HA9.out.cells.2.2.2.2.2.2.2
  have hlk := HA9.out.lookR key (by omega)
  cases hRv : R key with
  | none =>
    rw [hRv] at hlk
    simp only [Option.getD_none,Option.isSome_none] at hlk
    have EM2 := Lib.hid (HMM.out (by rw [hRv]; simp))
    clear hRv
    go_wp2_with fail
    go_end0
    refine ⟨rfl,?_,HB9.out⟩
    rw [EU.out,EQ.out,← EM2.out,EM1.out]
    exact HA9.out.mono (by omega)
  | some v =>
    rw [hRv] at hlk
    simp only [Option.getD_some,Option.isSome_some] at hlk
    have a1 := A9.out
    have c0 : w9.cell? ⟨B1,0,none⟩ = some (.int .u64 n) := by rw [Lib.cell_of_heap a1]; rfl
    have c1 : w9.cell? ⟨B1,1,none⟩ = some (.int .i64 x) := by rw [Lib.cell_of_heap a1]; rfl
    clear a1
    have hfp := HFT.out w9 HA9.out.gl
    by_cases hv : v = paxTime S n
    · have EM2 := Lib.hid (HMH.out (by rw [hRv,hv]))
      have hne : (v == paxTime S n) = true := by rw [hv]; simp
      have hvl : v.length ≤ 2000 := by rw [hv]; exact hlenP
      have HV := Lib.hid hv
      clear hRv hv
      go_wp2_with fail
      refine hfp.mono ?_
      rintro e w14 ⟨rfl,hb4⟩
      have hA4 := HA9.out.below hb4
      have c2b := hA4.cells.2.2.2.2.2.2.1
      have HB14 := Lib.hid (HB9.out.trans (hb4.mono (by have := HA9.out.lt; omega)))
      obtain ⟨w15,hr5,hA5,hB5⟩ := hA4.put (by omega) key v (by omega) (by omega)
      have HA15 := Lib.hid hA5
      have HB15 := Lib.hid (HB14.out.trans hB5)
      clear hA5 hB5 hb4 hA4 hcR c0 c1
      go_wp2_with fail
      go_end0
      refine ⟨rfl,?_,HB15.out⟩
      have := HA15.out
      rw [HV.out] at this
      rw [EU.out,EQ.out,← EM2.out,EM1.out]
      exact this.mono (by omega)
    · have EM2 := Lib.hid (HMM.out (by rw [hRv]; intro e; cases e; exact hv rfl))
      have hne : (v == paxTime S n) = false := by rw [beq_eq_false_iff_ne]; exact hv
      clear hRv hv
      go_wp2_with fail
      refine hfp.mono ?_
      rintro e w14 ⟨rfl,hb4⟩
      have HA14 := Lib.hid (HA9.out.below hb4)
      have HB14 := Lib.hid (HB9.out.trans (hb4.mono (by have := HA9.out.lt; omega)))
      clear hb4 hcR c0 c1
      go_wp2_with fail
      go_end0
      refine ⟨rfl,?_,HB14.out⟩
      rw [EU.out,EQ.out,← EM2.out,EM1.out]
      exact HA14.out.mono (by omega)
theorem vTim (G0 : Nat) (E : Nat → Addr) (b0 : Nat) (H : Hd) (R : KV) (u p g q : Bool) (m : KV) (k : Nat) (w : World) (h : AF G0 E b0 H R u p g q m k w) (n x : Int) (nm key : List UInt8) (hnm : nm.length ≤ 20) (hk : k < 1000) (h0 : 0 ≤ n) (h1 : n < 1000000000) (hx : -100000000000000000 ≤ x - 62135596800 ∧ x - 62135596800 ≤ 100000000000000000) (hkey : key = kMtime ∨ key = kAtime ∨ key = kCtime) :
    Calls Tryz.prog 102 #[tmV n x,.int .i64 12,str nm,str key,.pointer (some ⟨b0 + 6,0,none⟩),.pointer (some ⟨b0 + 1,0,none⟩),.pointer (some ⟨b0 + 4,0,none⟩),.pointer (some ⟨b0 + 7,0,none⟩),.pointer (some ⟨b0 + 5,0,none⟩),.pointer (some ⟨b0 + 2,0,none⟩),.pointer (some ⟨b0,0,none⟩)] w
      (AFRet G0 E b0 H R (timU u n x key) p g (timQ q n x key) (timM m R n x key) (k + 2) w) := by
  cases hz : tZero n x
  · rcases hkey with rfl | hkey
    · cases hfo : octFits 12 (x - 62135596800)
      · exact vTim_C G0 E b0 H R u p g q m k w h n x nm hnm hk hz h0 h1 hx hfo
      · by_cases hn0 : n = 0
        · exact vTim_A G0 E b0 H R u p g q m k w h n x nm hnm hk hz h0 h1 hx hfo hn0
        · exact vTim_B G0 E b0 H R u p g q m k w h n x nm hnm hk hz h0 h1 hx hfo hn0
    · have ho : key.length ≤ 20 ∧ (¬ key = [109,116,105,109,101]) ∧ key.isEmpty = false := by rcases hkey with rfl | rfl <;> decide
      exact vTim_D G0 E b0 H R u p g q m k w h n x nm hnm hk key ho.1 ho.2.1 ho.2.2 hz h0 h1 hx
  · exact vTim_zero G0 E b0 H R u p g q m k w h n x nm key hz
end Go.Proofs.YtkanmkcojlefbaaGreatDoor
