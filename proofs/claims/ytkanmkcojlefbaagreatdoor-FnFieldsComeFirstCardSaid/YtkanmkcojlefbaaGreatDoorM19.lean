/-
  Part of the proof; holds the texts WUstar, Agg, Shelf3, PlainOct.
-/
import Derived.Test.YtkanmkcojlefbaaGreatDoorM16
import Derived.Test.YtkanmkcojlefbaaGreatDoorM11
import Derived.Test.YtkanmkcojlefbaaGreatDoorM09
import Derived.Deep.DeepCutAuto
import Derived.Ground.SlbvProg
import Derived.Shelf.Bytes.SlTrim
import Derived.Test.YtkanmkcojlefbaaGreatDoorProg
import Derived.Test.YtkanmkcojlefbaaGreatDoorM06
set_option maxRecDepth 100000
set_option linter.unusedSimpArgs false
set_option linter.unusedVariables false
namespace Go.Proofs.YtkanmkcojlefbaaGreatDoor
open Go.RowKit
def splitP (l : List UInt8) : List UInt8 := if splitB l then l.take (cutAt l).toNat else []
def splitN (l : List UInt8) : List UInt8 := if splitB l then l.drop ((cutAt l).toNat + 1) else l
structure UBlk (h : Hd) (B : Blk) : Prop where
  ok : B.Ok
  typ : B.typ = [UInt8.ofNat h.typ.toNat]
  name : FmtS (List.replicate 100 0) (splitN h.name) B.name
  link : FmtS (List.replicate 100 0) h.link B.link
  user : FmtS (List.replicate 32 0) h.user B.user
  group : FmtS (List.replicate 32 0) h.group B.group
  mode : B.mode = octField 8 h.mode.toNat
  uid : B.uid = octField 8 h.uid.toNat
  gid : B.gid = octField 8 h.gid.toNat
  size : B.size = octField 12 h.size.toNat
  mtime : B.mtime = octField 12 h.sec.toNat
  maj : B.maj = octField 8 h.maj.toNat
  mnr : B.mnr = octField 8 h.mnr.toNat
  magic : B.magic = [117,115,116,97,114,0]
  ver : B.ver = [48,48]
  chk : B.chk = octField 7 (cks B.bytes 512) ++ [32]
  rest : ∃ pf,FmtS (List.replicate 155 0) (splitP h.name) pf ∧ B.rest = pf ++ List.replicate 12 0
structure WS (G0 : Nat) (E : Nat → Addr) (B tw b fw : Nat) (pad : Nat) (H : Hd) (blk bs : List UInt8) (err : Value) (w : World) : Prop where
  W : TW tw b fw pad H.cells (Lib.byteCells blk) err w
  buf : Buf B b bs w
  F : FW fw b 0 w
  gl : Gl G0 E w
  BG : G0 ≤ B
  tG : G0 ≤ tw
  fG : G0 ≤ fw
  Bw : B ≤ w.heap.size
  blk512 : blk.length = 512
theorem WS.tb {G0 : Nat} {E : Nat → Addr} {B tw b fw pad : Nat} {H : Hd} {blk bs : List UInt8} {err : Value} {w : World} (h : WS G0 E B tw b fw pad H blk bs err w) : tw ≠ b := h.buf.ne h.W.1 (by decide)
theorem WS.tf {G0 : Nat} {E : Nat → Addr} {B tw b fw pad : Nat} {H : Hd} {blk bs : List UInt8} {err : Value} {w : World} (h : WS G0 E B tw b fw pad H blk bs err w) : fw ≠ tw := by
  rintro rfl
  have := h.F
  rw [FW,h.W.1] at this
  cases this
theorem WS.bG {G0 : Nat} {E : Nat → Addr} {B tw b fw pad : Nat} {H : Hd} {blk bs : List UInt8} {err : Value} {w : World} (h : WS G0 E B tw b fw pad H blk bs err w) : G0 ≤ b := Nat.le_trans h.BG h.buf.base
theorem WS.below {G0 : Nat} {E : Nat → Addr} {B tw b fw pad : Nat} {H : Hd} {blk bs : List UInt8} {err : Value} {w w' : World} (h : WS G0 E B tw b fw pad H blk bs err w) (f : Below w.heap.size w w') : WS G0 E B tw b fw pad H blk bs err w' :=
  ⟨⟨(f.block tw (lt_of_heap h.W.1)).trans h.W.1,h.W.2⟩,h.buf.carry (B' := w.heap.size) (S := []) (Fr.of_below f _ _) (Nat.le_refl _) (by simp) (by simp),(f.block fw (lt_of_heap h.F)).trans h.F,h.gl.below f,h.BG,h.tG,h.fG,Nat.le_trans h.Bw f.size,h.blk512⟩
theorem WS.drew {G0 : Nat} {E : Nat → Addr} {B tw b fw pad : Nat} {H : Hd} {blk bs : List UInt8} {err : Value} {w : World} (h : WS G0 E B tw b fw pad H blk bs err w) : WS G0 E B tw b fw pad H blk bs err w.drew := h.below (Below.refl _ w).drew
theorem WS.hdr {G0 : Nat} {E : Nat → Addr} {B tw b fw pad : Nat} {H : Hd} {blk bs : List UInt8} {err : Value} {w : World} (h : WS G0 E B tw b fw pad H blk bs err w) (k : Nat) (v : Value) (hv : H.cells[k]? = some v) : w.cell? ⟨tw,3 + k,none⟩ = some v := by
  have hk : k < 20 := by have := (List.getElem?_eq_some_iff.1 hv).1; have := h.W.2.1; omega
  rw [Lib.cell_of_heap h.W.1,wcells_hdr _ _ _ _ _ _ h.W.2.1 k hk,hv]
theorem WS.setHdr {G0 : Nat} {E : Nat → Addr} {B tw b fw pad : Nat} {H : Hd} {blk bs : List UInt8} {err : Value} {w : World} (h : WS G0 E B tw b fw pad H blk bs err w) (k : Nat) (hk : k < 20) (v : Value) (H2 : Hd) (he : H.cells.set k v = H2.cells) :
    WS G0 E B tw b fw pad H2 blk bs err (w.setCell ⟨tw,3 + k,none⟩ v) := by
  have q := heap_set_same (i := 3 + k) v h.W.1
  rw [wcells_setHdr _ _ _ _ _ _ h.W.2.1 k hk,he] at q
  exact ⟨⟨q,rfl,h.W.2.2⟩,h.buf.setCell (p := ⟨tw,3 + k,none⟩) h.W.1 (by decide) (by decide) v,(heap_set_other _ h.tf).trans h.F,h.gl.set _ h.tG v,h.BG,h.tG,h.fG,by simpa [World.setCell] using h.Bw,h.blk512⟩
theorem WS.next {G0 : Nat} {E : Nat → Addr} {B tw b fw pad fb : Nat} {H : Hd} {blk blk2 bs : List UInt8} {err v : Value} {w w' : World} (h : WS G0 E B tw b fw pad H blk bs err w) (f : Fr w.heap.size [tw,fb] w w') (hfb : w.heap[fb]? = some (.cells #[v] 196 (0,0))) (hG : G0 ≤ fb)
    (hW : TW tw b fw pad H.cells (Lib.byteCells blk2) err w') (h2 : blk2.length = 512) : WS G0 E B tw b fw pad H blk2 bs err w' := by
  have hb1 : fb ≠ b := h.buf.ne hfb (by decide)
  have hf1 : fb ≠ fw := by rintro rfl; have := h.F; rw [FW,hfb] at this; cases this
  refine ⟨hW,h.buf.carry (B' := w.heap.size) (S := [tw,fb]) f (Nat.le_refl _) (by simp; exact ⟨Ne.symm h.tb,Ne.symm hb1⟩) ?_,f.cells h.F (by simp; exact ⟨h.tf,Ne.symm hf1⟩) (.inr (by decide)),h.gl.fr f h.gl.le (by simp; exact ⟨h.tG,hG⟩),h.BG,h.tG,h.fG,Nat.le_trans h.Bw f.size,h2⟩
  intro k hk c fz e
  rcases List.mem_cons.1 hk with rfl | hk
  · rw [h.W.1] at e; cases e
  · obtain rfl := List.mem_singleton.1 hk
    rw [hfb] at e; cases e
theorem hdr_cell {tw b fw : Nat} {pad : Int} {hdr blk : List Value} {err : Value} {w : World} (h : TW tw b fw pad hdr blk err w) (k : Nat) (v : Value) (hv : hdr[k]? = some v) : w.cell? ⟨tw,3 + k,none⟩ = some v := by
  have hk : k < 20 := by have := (List.getElem?_eq_some_iff.1 hv).1; have := h.2.1; omega
  rw [Lib.cell_of_heap h.1,wcells_hdr _ _ _ _ _ _ h.2.1 k hk,hv]
theorem cks_congr (b : Blk) (hb : b.Ok) (x : List UInt8) (hx : x.length = 8) : cks ({ b with chk := x } : Blk).bytes 512 = cks b.bytes 512 := by
  have h : ∀ k,ckAt ({ b with chk := x } : Blk).bytes k = ckAt b.bytes k := by
    intro k
    unfold ckAt
    split
    · rfl
    · rename_i hk
      have e1 : ({ b with chk := x } : Blk).bytes = b.bef_chk ++ (x ++ b.aft_chk) := Blk.put_chk b x
      have e2 : b.bytes = b.bef_chk ++ (b.chk ++ b.aft_chk) := Blk.at_chk b
      have l1 := hb.bef_chk
      have l2 := hb.chk
      rw [e1,e2]
      congr 1
      rw [List.getD_eq_getElem?_getD,List.getD_eq_getElem?_getD]
      congr 1
      by_cases h1 : k < 148
      · rw [List.getElem?_append_left (by omega),List.getElem?_append_left (by omega)]
      · rw [List.getElem?_append_right (by omega),List.getElem?_append_right (by omega),List.getElem?_append_right (by omega),List.getElem?_append_right (by omega),hx,l2]
  have : ∀ n,cks ({ b with chk := x } : Blk).bytes n = cks b.bytes n := by
    intro n
    induction n with
    | zero => rfl
    | succ n ih => rw [cks,cks,ih,h n]
  exact this 512
def blkOf (l : List UInt8) : Blk := ⟨(l.drop 0).take 100,(l.drop 100).take 8,(l.drop 108).take 8,(l.drop 116).take 8,(l.drop 124).take 12,(l.drop 136).take 12,(l.drop 148).take 8,(l.drop 156).take 1,(l.drop 157).take 100,(l.drop 257).take 6,(l.drop 263).take 2,(l.drop 265).take 32,(l.drop 297).take 32,(l.drop 329).take 8,(l.drop 337).take 8,(l.drop 345).take 167⟩
theorem blkOf_ok (l : List UInt8) (h : l.length = 512) : (blkOf l).Ok := by
  constructor <;> (simp only [blkOf,List.length_take,List.length_drop,h]; omega)
theorem take_drop_join (l : List UInt8) (a n : Nat) (r : List UInt8) (h : r = l.drop (a + n)) : (l.drop a).take n ++ r = l.drop a := by
  rw [h,← List.drop_drop,List.take_append_drop]
theorem blkOf_bytes (l : List UInt8) (h : l.length = 512) : (blkOf l).bytes = l := by
  unfold Blk.bytes blkOf
  have e : (l.drop 345).take 167 = l.drop 345 := List.take_of_length_le (by rw [List.length_drop,h]; omega)
  simp only [e]
  rw [take_drop_join l 337 8 _ rfl]
  rw [take_drop_join l 329 8 _ rfl]
  rw [take_drop_join l 297 32 _ rfl]
  rw [take_drop_join l 265 32 _ rfl]
  rw [take_drop_join l 263 2 _ rfl]
  rw [take_drop_join l 257 6 _ rfl]
  rw [take_drop_join l 157 100 _ rfl]
  rw [take_drop_join l 156 1 _ rfl]
  rw [take_drop_join l 148 8 _ rfl]
  rw [take_drop_join l 136 12 _ rfl]
  rw [take_drop_join l 124 12 _ rfl]
  rw [take_drop_join l 116 8 _ rfl]
  rw [take_drop_join l 108 8 _ rfl]
  rw [take_drop_join l 100 8 _ rfl]
  rw [take_drop_join l 0 100 _ rfl]
  rfl
def UMid (G0 : Nat) (E : Nat → Addr) (B tw b fw pad : Nat) (H : Hd) (blk bs : List UInt8) (w wx : World) : Prop := WS G0 E B tw b fw pad { H with name := splitN H.name } blk bs .nilIface wx ∧ Fr B [b,tw] w wx
def UOut (G0 : Nat) (E : Nat → Addr) (B tw b pad : Nat) (H : Hd) (bs : List UInt8) (sz : Int) (w : World) (e : Ending) (w' : World) : Prop :=
  e = .returned .nilIface ∧ ∃ fw2 B2,UBlk H B2 ∧ Buf B b (bs ++ List.replicate pad 0 ++ B2.bytes) w' ∧ TW tw b fw2 (padOf sz) ({ H with name := splitN H.name } : Hd).cells (Lib.byteCells B2.bytes) .nilIface w' ∧ FW fw2 b sz w' ∧ w.heap.size ≤ fw2 ∧ fw2 < w'.heap.size ∧ Fr B [b,tw] w w'
structure UFits (H : Hd) : Prop where
  name : (splitN H.name).length ≤ 100
  pre : (splitP H.name).length ≤ 155
  link : H.link.length ≤ 100
  user : H.user.length ≤ 32
  group : H.group.length ≤ 32
  mode : octFits 8 H.mode = true
  uid : octFits 8 H.uid = true
  gid : octFits 8 H.gid = true
  size : octFits 12 H.size = true
  mtime : octFits 12 H.sec = true
  maj : octFits 8 H.maj = true
  mnr : octFits 8 H.mnr = true
theorem writeUSTAR (G0 : Nat) (E : Nat → Addr) (B tw b fw pad : Nat) (H : Hd) (blk bs : List UInt8) (w : World) (h : WS G0 E B tw b fw pad H blk bs .nilIface w) (hp : pad < 512) (hin : H.In) (hf : UFits H) (sz : Int) (hsz : sz = if hdrOnly H.typ then 0 else H.size) (hlim : bs.length + pad + 512 ≤ 140737488355328) :
    Calls Tryz.prog 67 #[.pointer (some ⟨tw,0,none⟩),.pointer (some ⟨tw,3,none⟩)] w (UOut G0 E B tw b pad H bs sz w) := by
  have cn := h.hdr 1 (str H.name) rfl
  have zn : w.frozen? ⟨tw,4,none⟩ = false := Lib.frozen_of_heap h.W.1 4
  have hlt := lt_of_heap h.W.1
  have hsp := split_any w H.name hin.name
  have HH := Lib.hid h
  have HIN := Lib.hid hin; have HF := Lib.hid hf; have HSZ := Lib.hid hsz
  clear h hin hf hsz
  go_enter Tryz.func67,Tryz.ntmps67
  go_upto_region 2 with fail
  go_cut [5,8,6,7] (fun s5 s8 s6 s7 wx => s5 = .string ⟨#[]⟩ ∧ s8 = .bool (splitB H.name) ∧ (splitB H.name = true → s6 = str (splitP H.name) ∧ s7 = str (splitN H.name)) ∧ Below w.heap.size w wx)
  case first =>
    go_wp2_with (go_at_call 97; refine hsp.mono ?_; rintro e w1 ⟨rfl,hb1⟩; cases hsb : splitB H.name)
    · go_meet
      exact ⟨rfl,by simp [hsb],(fun h => by rw [hsb] at h; cases h),hb1⟩
    · go_meet
      exact ⟨rfl,by simp [hsb],(fun h => ⟨by simp [splitP,hsb],by simp [splitN,hsb]⟩),hb1⟩
  case rest =>
    obtain ⟨rfl,rfl,hs67,hb1⟩ := hcut
    have HH1 := Lib.hid (HH.out.below hb1)
    have HF1 := Lib.hid (Fr.of_below hb1 B [b,tw])
    have cn := HH1.out.hdr 1 (str H.name) rfl
    have zn : wc.frozen? ⟨tw,4,none⟩ = false := Lib.frozen_of_heap HH1.out.W.1 4
    clear hsp hb1
    go_upto_if 20 with fail
    go_cut [5,6,7,8] (fun s5 _ _ _ wx => s5 = str (splitP H.name) ∧ UMid G0 E B tw b fw pad H blk bs w wx)
    case first =>
      cases hsb : splitB H.name
      · clear hs67
        go_wp2_with fail
        go_meet
        have eP : splitP H.name = [] := by simp [splitP,hsb]
        have eN : splitN H.name = H.name := by simp [splitN,hsb]
        refine ⟨by rw [eP],?_,HF1.out⟩
        rw [eN]
        exact HH1.out
      · obtain ⟨rfl,rfl⟩ := hs67 hsb
        have hset := HH1.out.setHdr 1 (by decide) (str (splitN H.name)) { H with name := splitN H.name } rfl
        have HST := Lib.hid hset
        clear hset hs67
        go_wp2_with fail
        go_meet
        refine ⟨rfl,HST.out,HF1.out.setCell (p := ⟨tw,4,none⟩) (.inl (by simp)) _⟩
    case rest =>
      obtain ⟨rfl,HM,HFm⟩ := hcut
      obtain ⟨w2,rfl⟩ : ∃ w2 : World,w2 = wc := ⟨_,rfl⟩
      have hM2 := HM.below ((Below.refl _ w2).alloc (Nat.le_refl _) (.cells #[.nilIface] 196))
      have hfb := heap_alloc_new w2 (.cells #[.nilIface] 196)
      have hTB : TB tw b fw pad ({ H with name := splitN H.name } : Hd).cells w2.heap.size .nilIface (E 3) (blkOf blk) (w2.alloc (.cells #[.nilIface] 196)) :=
        ⟨by rw [blkOf_bytes _ hM2.blk512]; exact hM2.W,blkOf_ok _ hM2.blk512,hfb,hM2.gl.db,hM2.gl.err 3 (by decide),by have := hM2.tG; have := hM2.gl.g19; omega,by have := hM2.tG; have := hM2.gl.g19; omega,by have := HM.gl.le; have := HM.gl.g19; omega,by have := HM.gl.le; have := HM.gl.g19; omega⟩
      have hT := template (w2.alloc (.cells #[.nilIface] 196)) tw b fw w2.heap.size pad { H with name := splitN H.name } ⟨HIN.out.mode,HIN.out.uid,HIN.out.gid,HIN.out.size,HIN.out.maj,HIN.out.mnr,HIN.out.mw,HIN.out.mx,HIN.out.typ,by have := HF.out.name; show (splitN H.name).length ≤ _; omega,HIN.out.link,HIN.out.user,HIN.out.group⟩ .nilIface (E 3) _ hTB
      have HT := Lib.hid hT
      have HM2 := Lib.hid hM2
      have HFm2 := Lib.hid (HFm.alloc (.cells #[.nilIface] 196))
      have hfs : w2.heap.size ≠ b := by have := HM.buf.lt; omega
      have hft : w2.heap.size ≠ tw := by have := lt_of_heap HM.W.1; omega
      have hff : w2.heap.size ≠ fw := by have := lt_of_heap HM.F; omega
      have hwle : w.heap.size ≤ w2.heap.size := HFm.size
      have HFB := Lib.hid hfb
      clear HM HFm hM2 hfb hTB hT cn zn HH1 HF1 hs67
      generalize hw3 : w2.alloc (.cells #[.nilIface] 196) = wa at *
      have hwa : w2.heap.size < wa.heap.size := lt_of_heap HFB.out
      generalize hfbn : w2.heap.size = fb at *
      have HFBN := Lib.hid hfbn
      go_wp2_with fail
      refine HT.out.mono ?_
      clear hfbn hw3
      rintro e w3 ⟨rfl,B2,ferr2,hT2,hTm,herr,hF3⟩
      have hferr : ferr2 = .nilIface := herr HF.out.name HF.out.link HF.out.user HF.out.group HF.out.mode HF.out.uid HF.out.gid HF.out.size HF.out.mtime HF.out.maj HF.out.mnr
      subst hferr
      have hWS3 := HM2.out.next hF3 HFB.out (by have := HM2.out.gl.le; have := HFBN.out; have := HH.out.gl.le; omega) hT2.W hT2.ok.len
      have hsr := hT2.seg.get_rest
      rw [hTm.rest,show List.replicate 167 (0 : UInt8) = List.replicate 155 0 ++ List.replicate 12 0 by rw [List.replicate_append_replicate]] at hsr
      have hsr2 := Seg.first.1 hsr
      have hpl := hT2.pre
      have hE3 := hWS3.gl.err 3 (by decide)
      have hl3 : (splitP H.name).length ≤ 1048576 := Nat.le_trans HF.out.pre (by decide)
      have hfP := formatString_any w3 fb tw 155 167 (splitP H.name) 134 (twPre b fw pad ({ H with name := splitN H.name } : Hd).cells ++ Lib.byteCells B2.bef_rest) (List.replicate 155 0) (Lib.byteCells (List.replicate 12 0) ++ (Lib.byteCells B2.aft_rest ++ [.nilIface])) .nilIface (E 3) hsr2 List.length_replicate (by decide) (by decide) (by decide) hl3 hT2.F hft hE3
      rw [hT2.ok.off_rest,hpl] at hfP
      have vu := Lib.hid toUSTAR; have vp := Lib.hid uPrefix
      have HW3 := Lib.hid hWS3; have HT3 := Lib.hid hT2; have HTM := Lib.hid hTm; have HF3 := Lib.hid hF3; have HFP := Lib.hid hfP
      clear hsr hsr2 hWS3 hT2 hTm hF3 hfP herr hpl HT
      go_wp2_with fail
      refine (vu.out _ _).mono ?_
      rintro e wx ⟨rfl,rfl⟩
      go_wp2_with fail
      refine (vp.out _ _ _).mono ?_
      rintro e wx ⟨rfl,rfl⟩
      go_wp2_with fail
      refine HFP.out.mono ?_
      rintro e w4 ⟨rfl,pf,err4,hpf,herr4,hs4,hfb4,hF4⟩
      obtain rfl := herr4 HF.out.pre
      have hpl2 := hpf.len
      rw [List.length_replicate] at hpl2
      have hs4b := (Seg.first.2 hs4).put_rest
      have ok4 := HT3.out.ok.put_rest (pf ++ List.replicate 12 0) (by rw [List.length_append,hpl2,List.length_replicate])
      have hsetf := fun (o : Nat) (ho : (twPre b fw pad ({ H with name := splitN H.name } : Hd).cells).length = o) => setFormat_ustar w4 tw 134 _ _ _ 2 (.inl rfl) ok4 hs4b HT3.out.tw15 (hF4.cell HT3.out.db (by simp; exact ⟨Ne.symm HT3.out.tw15,Ne.symm HT3.out.f15⟩) (block_lt_of_cell HT3.out.db))
      have hsf := hsetf 23 HT3.out.pre
      rw [HT3.out.pre] at hsf
      have hTW4 : TW tw b fw pad ({ H with name := splitN H.name } : Hd).cells (Lib.byteCells ({ B2 with rest := pf ++ List.replicate 12 0 } : Blk).bytes) .nilIface w4 := TW.of_seg hs4b rfl ok4.len
      have hWS4 := HW3.out.next hF4 HT3.out.F (by have := HW3.out.gl.le; have := HFBN.out; have := HH.out.gl.le; omega) hTW4 ok4.len
      have HSF := Lib.hid hsf; have HW4 := Lib.hid hWS4; have HFB4 := Lib.hid hfb4; have HF4 := Lib.hid hF4; have HPF := Lib.hid hpf; have HOK4 := Lib.hid ok4
      clear hsf hsetf hTW4 hWS4 hfb4 hF4 hpf ok4 hs4b hs4 hpl2 herr4 HFP
      generalize hB4 : ({ B2 with rest := pf ++ List.replicate 12 0 } : Blk) = B4 at *
      have HB4 := Lib.hid hB4
      clear hB4
      go_wp2_with fail
      refine HSF.out.mono ?_
      rintro e w5 ⟨rfl,hs5,hF5⟩
      have okM := HOK4.out.put_magic [117,115,116,97,114,0] rfl
      have ok5u : B4.ustar.Ok := okM.put_ver [48,48] rfl
      have hck := cks_le B4.ustar.bytes 512
      have hol : (octField 7 (cks B4.ustar.bytes 512)).length = 7 := octField_length 7 _ (by omega) (by omega)
      have ok5 : B4.ustar.summed.Ok := ok5u.put_chk _ (by rw [List.length_append,hol]; rfl)
      have hTW5 : TW tw b fw pad ({ H with name := splitN H.name } : Hd).cells (Lib.byteCells B4.ustar.summed.bytes) .nilIface w5 := TW.of_seg hs5 rfl ok5.len
      have hF5w : Fr w4.heap.size [tw,fb] w4 w5 := hF5.wide (Nat.le_refl _) (by simp)
      have hWS5 := HW4.out.next hF5w HFB4.out (by have := HW3.out.gl.le; have := HFBN.out; have := HH.out.gl.le; omega) hTW5 ok5.len
      have hfb5 := hF5.cells HFB4.out (by simpa using hft) (.inr (by decide))
      have c5 : w5.cell? ⟨fb,0,none⟩ = some .nilIface := by rw [Lib.cell_of_heap hfb5]; rfl
      have cs := hWS5.hdr 3 (.int .i64 H.size) rfl
      have ct := hWS5.hdr 0 (.int .u8 H.typ) rfl
      have hsz0 : 0 ≤ sz ∧ sz ≤ 9223372036854775807 := by
        have h1 := HSZ.out; have h2 := HF.out.size; have h3 := HIN.out.size
        simp only [octFits,decide_eq_true_eq] at h2
        split at h1
        · omega
        · omega
      have hrh := writeRawHeader w5.drew B tw b fw pad hp bs B4.ustar.summed.bytes ({ H with name := splitN H.name } : Hd).cells H.size sz H.typ hWS5.drew.buf hWS5.drew.Bw hWS5.drew.W hWS5.drew.F hlim hsz0.1 hsz0.2 HSZ.out
      have HRH := Lib.hid hrh
      have hin3 : ∀ k ∈ [tw,fb],k ∈ [b,tw,fb] := fun k hk => List.mem_cons_of_mem _ hk
      have hin2 : ∀ k ∈ [b,tw],k ∈ [b,tw,fb] := fun k hk => by
        rcases List.mem_cons.1 hk with h | h
        · subst h; exact List.mem_cons_self
        · rw [List.mem_singleton.1 h]; exact List.mem_cons_of_mem _ List.mem_cons_self
      have hF15a : Fr B [b,tw,fb] w w5.drew := ((((HFm2.out.wide (Nat.le_refl _) (fun k hk _ => hin2 k hk)).trans (HF3.out.wide (B' := B) (S' := [b,tw,fb]) HM2.out.Bw (fun k hk _ => hin3 k hk))).trans (HF4.out.wide HW3.out.Bw (fun k hk _ => hin3 k hk))).trans (hF5.wide HW4.out.Bw (by simp))).drew
      have hF15 : Fr B [b,tw] w w5.drew := hF15a.wide (Nat.le_refl _) (fun k hk hlt => by
        rcases List.mem_cons.1 hk with h | hk
        · rw [h]; simp
        · rcases List.mem_cons.1 hk with h | hk
          · rw [h]; simp
          · have := List.mem_singleton.1 hk; have := HFBN.out; omega)
      clear hF15a hin3 hin2
      have HF15 := Lib.hid hF15
      have HOK5 := Lib.hid ok5
      clear hs5 hF5 okM ok5u hck hol ok5 hTW5 hF5w hWS5 hfb5 hrh hF15 hsz0
      go_wp2_with fail
      go_region_held3 (fun w' => w'.cell? ⟨tw,6,none⟩ = some (.int .i64 H.size) ∧ w'.cell? ⟨tw,3,none⟩ = some (.int .u8 H.typ)) (first | go_keep | (refine And.intro ?_ ?_ <;> assumption)) (first | (go_at_call 133; refine HRH.out.mono ?_; rintro e w6 ⟨rfl,fw2,r1,r2,r3,r4,r5,r6⟩; have d0 := (hdr_cell r2 3 (.int .i64 H.size) rfl); have d1 := (hdr_cell r2 0 (.int .u8 H.typ) rfl)))
      go_wp2_with fail
      go_ret
      have hwl : w.heap.size ≤ w5.drew.heap.size := HF15.out.size
      refine ⟨rfl,fw2,B4.ustar.summed,?_,r1,r2,r3,Nat.le_trans hwl r4,r5,HF15.out.trans (r6.wide (Nat.le_refl _) (fun k hk _ => hk))⟩
      have hTM := HTM.out
      have eB := HB4.out
      refine ⟨HOK5.out,?_,?_,?_,?_,?_,?_,?_,?_,?_,?_,?_,?_,rfl,rfl,?_,⟨pf,HPF.out,?_⟩⟩
      · rw [← eB]; exact hTM.typ
      · rw [← eB]; exact hTM.name
      · rw [← eB]; exact hTM.link
      · rw [← eB]; exact hTM.user
      · rw [← eB]; exact hTM.group
      · rw [← eB]; have := hTM.mode; rw [if_pos (show octFits 8 H.mode = true from HF.out.mode)] at this; exact this
      · rw [← eB]; have := hTM.uid; rw [if_pos (show octFits 8 H.uid = true from HF.out.uid)] at this; exact this
      · rw [← eB]; have := hTM.gid; rw [if_pos (show octFits 8 H.gid = true from HF.out.gid)] at this; exact this
      · rw [← eB]; have := hTM.size; rw [if_pos (show octFits 12 H.size = true from HF.out.size)] at this; exact this
      · rw [← eB]; have := hTM.mtime; rw [if_pos (show octFits 12 ({ H with name := splitN H.name } : Hd).sec = true from HF.out.mtime)] at this; exact this
      · rw [← eB]; have := hTM.maj; rw [if_pos (show octFits 8 H.maj = true from HF.out.maj)] at this; exact this
      · rw [← eB]; have := hTM.mnr; rw [if_pos (show octFits 8 H.mnr = true from HF.out.mnr)] at this; exact this
      · show octField 7 (cks B4.ustar.bytes 512) ++ [32] = octField 7 (cks B4.ustar.summed.bytes 512) ++ [32]
        have hok : B4.ustar.Ok := (HOK4.out.put_magic [117,115,116,97,114,0] rfl).put_ver [48,48] rfl
        have hck := cks_le B4.ustar.bytes 512
        have hol : (octField 7 (cks B4.ustar.bytes 512)).length = 7 := octField_length 7 _ (by omega) (by omega)
        rw [show cks B4.ustar.summed.bytes 512 = cks B4.ustar.bytes 512 from cks_congr B4.ustar hok (octField 7 (cks B4.ustar.bytes 512) ++ [32]) (by rw [List.length_append,hol]; rfl)]
      · rw [← eB]; rfl
section
variable {ops : Array Oper} {rest : List Oper} {o : Oper} {a : Act} {w : World} {Q : Exit → Act → World → Prop}
theorem wpList_load_run (hg : o.guard = none) (t : TypeId) (x : Operand) (hop : o.op = Op.load t x) (p : Addr) (hx : a.eval x = .pointer (some p)) (v : Value) (hrun : (loadVar t p).run Tryz.prog w = .ok v w)
    (h : wpList Tryz.prog ops Q rest (a.put o.dst v) w) : wpList Tryz.prog ops Q (o::rest) a w :=
  wpList_plain hg fun _ hK => by
    unfold Oper.wp execOp
    simp only [hop,hx,Instr.loadAt,Instr.sureAddr,Sem.run_bind,Sem.run_pure,Result.andThen_ok,hrun]
    exact hK _ _ h
theorem wpList_store_run (hg : o.guard = none) (t : TypeId) (x y : Operand) (hop : o.op = Op.store t x y) (p : Addr) (hx : a.eval x = .pointer (some p)) (v : Value) (hy : a.eval y = v) (w' : World) (hrun : (storeVar t p v).run Tryz.prog w = .ok () w')
    (h : wpList Tryz.prog ops Q rest (a.put o.dst undef) w') : wpList Tryz.prog ops Q (o::rest) a w :=
  wpList_plain hg fun _ hK => by
    unfold Oper.wp execOp
    simp only [hop,hx,hy,Instr.storeAt,Instr.sureAddr,Sem.run_bind,Sem.run_pure,Result.andThen_ok,hrun]
    exact hK _ _ h
end
def aggD : TypeDesc → Bool
  | .struct _ => true
  | .array _ _ => true
  | _ => false
theorem run_load_at (w : World) (g o : Nat) (ty : TypeId) (cs : Array Value) (hat : At w g o cs.toList) (d : TypeDesc)
    (hu : Tryz.prog.underlying ty = some d) (hd : aggD d = true) (hi : (Tryz.prog.info? ty).map (·.size) = some cs.size) :
    (loadVar ty ⟨g,o,none⟩).run Tryz.prog w = .ok (.agg cs) w := by
  have hl : (loadCells ⟨g,o,none⟩ cs.toList.length).run Tryz.prog w = .ok cs.toList.toArray w :=
    run_loadCells_list (P := Tryz.prog) w ⟨g,o,none⟩ cs.toList hat.src
  cases hq : Tryz.prog.info? ty with
  | none => simp [hq] at hi
  | some i =>
    have hs : i.size = cs.size := by simpa [hq] using hi
    have hagg : (isAgg ty).run Tryz.prog w = .ok true w := by
      unfold isAgg
      rw [Sem.run_bind,run_underlying hu w]
      cases d <;> simp_all [aggD]
    simp only [Array.length_toList,Array.toArray_toList] at hl
    simp [loadVar,Sem.run_bind,hagg,sizeOf,typeInfo,hq,hs,hl]
theorem run_store_at (w : World) (g o : Nat) (t ty : TypeId) (cur cells : Array Value) (hg : w.heap[g]? = some (.cells cur t (0,0))) (hi : (Tryz.prog.info? ty).map (·.size) = some cells.size)
    (ho : o + cells.size ≤ cur.size) (h1 : ∀ v ∈ cells.toList,v.oneCell' = true) :
    (storeVar ty ⟨g,o,none⟩ (.agg cells)).run Tryz.prog w = .ok () (w.setRow g (cur.toList.take o ++ cells.toList ++ cur.toList.drop (o + cells.size)).toArray) := by
  have := run_storeCells_at Tryz.prog g o t cells.toList 0 cur w hg (by simp; omega) h1
  simp only [Nat.add_zero,Array.length_toList] at this
  cases hq : Tryz.prog.info? ty with
  | none => simp [hq] at hi
  | some i =>
    have hs : cells.size = i.size := by simp [hq] at hi; omega
    simp [storeVar,sizeOf,typeInfo,hq,Value.cells,hs] at this ⊢
    exact this
theorem und130 : ∃ d,Tryz.prog.underlying 130 = some d ∧ aggD d = true := ⟨_,Tryz.underlying130,rfl⟩
theorem info130 : (Tryz.prog.info? 130).map (·.size) = some 20 := by kernel_rfl
theorem hd_load (w : World) (g o : Nat) (H : Hd) (hat : At w g o H.cells) : (loadVar 130 ⟨g,o,none⟩).run Tryz.prog w = .ok (.agg H.cells.toArray) w := by
  obtain ⟨d,h1,h2⟩ := und130
  exact run_load_at w g o 130 H.cells.toArray (by simpa using hat) d h1 h2 info130
theorem wcells_at {w : World} {tw b fw : Nat} {pad : Int} {hdr blk : List Value} {err : Value} (h : TW tw b fw pad hdr blk err w) : At w tw 3 hdr := fun j v hj => hdr_cell h j v hj
theorem wcells_put (wv p curr : Value) (hdr hdr2 blk : List Value) (err : Value) (h : hdr.length = 20) (h2 : hdr2.length = 20) :
    ((wcells wv p curr hdr blk err).toList.take 3 ++ hdr2 ++ (wcells wv p curr hdr blk err).toList.drop (3 + 20)).toArray = wcells wv p curr hdr2 blk err := by
  have e : (wcells wv p curr hdr blk err).toList = wv::p::curr::(hdr ++ (blk ++ [err])) := by simp [wcells]
  rw [e]
  have e2 : (wv::p::curr::(hdr ++ (blk ++ [err]))).drop (3 + 20) = blk ++ [err] := by
    show (hdr ++ (blk ++ [err])).drop 20 = _
    rw [← h,List.drop_left]
  rw [e2]
  simp [wcells]
theorem hd_one (H : Hd) (h1 : H.xattr.oneCell' = true) (h2 : H.recs.oneCell' = true) : ∀ v ∈ H.cells,v.oneCell' = true := by
  intro v hv
  simp only [Hd.cells,List.mem_cons,List.mem_nil_iff,or_false] at hv
  rcases hv with rfl | rfl | rfl | rfl | rfl | rfl | rfl | rfl | rfl | rfl | rfl | rfl | rfl | rfl | rfl | rfl | rfl | rfl | rfl | rfl <;> first | exact h1 | exact h2 | rfl
theorem hd_store {w : World} {tw b fw : Nat} {pad : Int} {hdr blk : List Value} {err : Value} (h : TW tw b fw pad hdr blk err w) (H : Hd) (h1 : H.xattr.oneCell' = true) (h2 : H.recs.oneCell' = true) :
    ∃ w',(storeVar 130 ⟨tw,3,none⟩ (.agg H.cells.toArray)).run Tryz.prog w = .ok () w' ∧ TW tw b fw pad H.cells blk err w' ∧ Fr w.heap.size [tw] w w' := by
  have hs := run_store_at w tw 3 134 130 _ H.cells.toArray h.1 info130 (by have := h.2.1; have := h.2.2; simp [wcells,Hd.cells]; omega) (by simpa using hd_one H h1 h2)
  have e := wcells_put (.iface 75 (.pointer (some ⟨b,0,none⟩))) (.int .i64 pad) (.iface 119 (.pointer (some ⟨fw,0,none⟩))) hdr H.cells blk err h.2.1 rfl
  have e3 : H.cells.toArray.size = 20 := rfl
  rw [e3] at hs
  rw [show H.cells.toArray.toList = H.cells from rfl] at hs
  rw [e] at hs
  exact ⟨_,hs,⟨setRow_heap w tw _ _ 134 (0,0) h.1,rfl,h.2.2⟩,(Fr.refl _ _ w).setRow (.inl (by simp)) _⟩
end Go.Proofs.YtkanmkcojlefbaaGreatDoor
namespace Go.Proofs
open Go.Shelf
def Tryz.laysSlV6_ren : Go.Shelf.Ren := ⟨fun | 6 => 275 | 10 => 298 | 9 => 297 | 11 => 299 | 13 => 301 | 12 => 300 | 15 => 303 | 14 => 302 | 16 => 312 | 19 => 314 | 18 => 313 | 17 => 277 | 21 => 318 | 20 => 304 | n => n,fun | 22 => 35 | 9 => 9 | 3 => 3 | 4 => 4 | 5 => 5 | 28 => 372 | 27 => 371 | 0 => 0 | 31 => 375 | 21 => 21 | 33 => 353 | 36 => 387 | 37 => 167 | 40 => 390 | 39 => 389 | n => n,fun | 0 => 16 | 1 => 17 | n => n⟩
theorem Tryz.laysSlV6 : Go.Proofs.SlLaysV.n6 Tryz.prog Tryz.laysSlV6_ren := {
  mixed := by kernel_rfl
  f6 := Tryz.func275.trans (congrArg some (by kernel_rfl))
  f9 := Tryz.func297.trans (congrArg some (by kernel_rfl))
  f10 := Tryz.func298.trans (congrArg some (by kernel_rfl))
  f11 := Tryz.func299.trans (congrArg some (by kernel_rfl))
  f12 := Tryz.func300.trans (congrArg some (by kernel_rfl))
  f13 := Tryz.func301.trans (congrArg some (by kernel_rfl))
  f14 := Tryz.func302.trans (congrArg some (by kernel_rfl))
  f15 := Tryz.func303.trans (congrArg some (by kernel_rfl))
  f16 := Tryz.func312.trans (congrArg some (by kernel_rfl))
  f17 := Tryz.func277.trans (congrArg some (by kernel_rfl))
  f18 := Tryz.func313.trans (congrArg some (by kernel_rfl))
  f19 := Tryz.func314.trans (congrArg some (by kernel_rfl))
  f20 := Tryz.func304.trans (congrArg some (by kernel_rfl))
  f21 := Tryz.func318.trans (congrArg some (by kernel_rfl))
  t0 := Tryz.underlying0
  a0 := Tryz.isAgg0
  z0 := Tryz.sizeOf0
  v0 := Tryz.zeroValue0
  t3 := Tryz.underlying3
  a3 := Tryz.isAgg3
  z3 := Tryz.sizeOf3
  v3 := Tryz.zeroValue3
  t4 := Tryz.underlying4
  a4 := Tryz.isAgg4
  z4 := Tryz.sizeOf4
  v4 := Tryz.zeroValue4
  t5 := Tryz.underlying5
  a5 := Tryz.isAgg5
  z5 := Tryz.sizeOf5
  v5 := Tryz.zeroValue5
  t9 := Tryz.underlying9
  a9 := Tryz.isAgg9
  z9 := Tryz.sizeOf9
  v9 := Tryz.zeroValue9
  t21 := Tryz.underlying21
  a21 := Tryz.isAgg21
  z21 := Tryz.sizeOf21
  v21 := Tryz.zeroValue21
  t22 := Tryz.underlying35
  a22 := Tryz.isAgg35
  z22 := Tryz.sizeOf35
  v22 := Tryz.zeroValue35
  t27 := Tryz.underlying371
  a27 := Tryz.isAgg371
  z27 := Tryz.sizeOf371
  t28 := Tryz.underlying372
  a28 := Tryz.isAgg372
  z28 := Tryz.sizeOf372
  v28 := Tryz.zeroValue372
  t31 := Tryz.underlying375
  a31 := Tryz.isAgg375
  z31 := Tryz.sizeOf375
  v31 := Tryz.zeroValue375
  t33 := Tryz.underlying353
  a33 := Tryz.isAgg353
  z33 := Tryz.sizeOf353
  v33 := Tryz.zeroValue353
  t36 := Tryz.underlying387
  a36 := Tryz.isAgg387
  z36 := Tryz.sizeOf387
  t37 := Tryz.underlying167
  a37 := Tryz.isAgg167
  z37 := Tryz.sizeOf167
  v37 := Tryz.zeroValue167
  t39 := Tryz.underlying389
  a39 := Tryz.isAgg389
  z39 := Tryz.sizeOf389
  v39 := Tryz.zeroValue389
  t40 := Tryz.underlying390
  a40 := Tryz.isAgg390
  z40 := Tryz.sizeOf390
  v40 := Tryz.zeroValue390 }
open Go.RowKit Go.Lib in
theorem Tryz.bytes_Trim_laid (p : Option Addr) (n c : Nat) (xs : List Int) (cutset : ByteArray) (w : World)
    (hx : xs.length = n) (hnc : n ≤ c) (hbig : c ≤ 9223372036854775807) (h1 : Lib.BytesIn w p n xs) (hr : ∀ x ∈ xs,0 ≤ x ∧ x < 256) (hcs : cutset.size < 4294967281) (hascii : ∀ (j : Nat) b,cutset.data.toList[j]? = some b → b.toNat < 128) :
    Calls Tryz.prog 275 #[.slice p n c,.string cutset] w fun e w' => e = .returned (Lib.leftV p (Lib.trimRightS (Lib.bytesOf xs) cutset.data.toList).length c ((Lib.trimRightS (Lib.bytesOf xs) cutset.data.toList).length - (Lib.trimS (Lib.bytesOf xs) cutset.data.toList).length)) ∧ Below w.heap.size w w' := Any.bytes_Trim_laid Tryz.laysSlV6 (by kernel_rfl) p n c xs cutset w hx hnc hbig h1 hr hcs hascii
end Go.Proofs
namespace Go.Proofs.YtkanmkcojlefbaaGreatDoor
open Go.Lib
def octVal (acc : Nat) : List UInt8 → Nat
  | [] => acc
  | c::r => octVal (acc * 8 + (c.toNat - 48)) r
theorem octVal_app (acc : Nat) (a b : List UInt8) : octVal acc (a ++ b) = octVal (octVal acc a) b := by
  induction a generalizing acc with
  | nil => rfl
  | cons c r ih => exact ih _
theorem od_toNat (k : Nat) (h : k < 8) : (od k).toNat = 48 + k := by rw [od, UInt8.toNat_ofNat']; omega
theorem octVal_digits (u : Nat) : octVal 0 (octDigits u) = u := by
  induction u using Nat.strongRecOn with
  | _ u ih =>
    by_cases h : u < 8
    · rw [octDigits_lt h]; show 0 * 8 + ((od u).toNat - 48) = u; rw [od_toNat u h]; omega
    · rw [octDigits_ge (by omega), octVal_app, ih (u / 8) (by omega)]
      show u / 8 * 8 + ((od (u % 8)).toNat - 48) = u
      rw [od_toNat _ (Nat.mod_lt _ (by omega))]; omega
theorem octVal_zeros (z : Nat) (r : List UInt8) : octVal 0 (List.replicate z 48 ++ r) = octVal 0 r := by
  induction z with
  | zero => rfl
  | succ z ih => rw [List.replicate_succ, List.cons_append]; exact ih
theorem oct_bytes (u : Nat) : ∀ c ∈ octDigits u, 48 ≤ c.toNat ∧ c.toNat ≤ 55 := by
  induction u using Nat.strongRecOn with
  | _ u ih =>
    intro c hc
    by_cases h : u < 8
    · rw [octDigits_lt h] at hc; obtain rfl := List.mem_singleton.1 hc; rw [od_toNat u h]; omega
    · rw [octDigits_ge (by omega)] at hc
      rcases List.mem_append.1 hc with hc | hc
      · exact ih (u / 8) (by omega) c hc
      · obtain rfl := List.mem_singleton.1 hc; rw [od_toNat _ (Nat.mod_lt _ (by omega))]; omega
def octBody (n u : Nat) : List UInt8 := List.replicate (n - 1 - (octDigits u).length) 48 ++ octDigits u
theorem octField_body (n u : Nat) : octField n u = octBody n u ++ [0] := rfl
theorem octBody_val (n u : Nat) : octVal 0 (octBody n u) = u := by rw [octBody, octVal_zeros, octVal_digits]
theorem octBody_bytes (n u : Nat) : ∀ c ∈ octBody n u, 48 ≤ c.toNat ∧ c.toNat ≤ 55 := by
  intro c hc
  rcases List.mem_append.1 hc with hc | hc
  · rw [List.eq_of_mem_replicate hc]; decide
  · exact oct_bytes u c hc
end Go.Proofs.YtkanmkcojlefbaaGreatDoor
