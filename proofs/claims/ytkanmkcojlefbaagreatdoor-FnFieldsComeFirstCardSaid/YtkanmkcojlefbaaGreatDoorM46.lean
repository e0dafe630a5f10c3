/-
  Part of the proof; holds the texts Frd, Lw0.
-/
import Derived.Test.YtkanmkcojlefbaaGreatDoorM44
import Derived.Test.YtkanmkcojlefbaaGreatDoorM45
import Derived.Test.YtkanmkcojlefbaaGreatDoorM39
import Derived.Test.YtkanmkcojlefbaaGreatDoorM40
set_option maxRecDepth 100000
set_option linter.unusedSimpArgs false
set_option linter.unusedVariables false
namespace Go.Proofs.YtkanmkcojlefbaaGreatDoor
open Go.RowKit
def Hd.rd (H : Hd) (f : Int) : Hd := { H with xattr := .map none,recs := .map none,fmt := f }
def FrdOut (H : Hd) (m : KV) (hasR : Bool) (w : World) (e : Ending) (w' : World) : Prop :=
  ∃ rv L f R2,e = .returned (.tuple #[.agg ({ ihOf (H.rd f) with recs := rv } : IH).cells.toArray,.int .i64 0]) ∧ RecS w' rv L ∧ RecL R2 L ∧ (R2 = m ∨ (hasR = false ∧ ∀ k,R2 k = none)) ∧ L.length ≤ 1048576 ∧ Below w.heap.size w w'
theorem HG.recl_len {H : Hd} {R : KV} (hg : HG H R) {L : List (List UInt8 × List UInt8)} (h : RecL (recM (H.st R).m R H.typ) L) : L.length ≤ 1048576 := by
  have h1 := hg.total L h.nd h.mem
  have hm := h.mem
  have : L.length ≤ (recsB L).length := by
    clear h h1
    induction L with
    | nil => exact Nat.zero_le _
    | cons p L ih =>
      have hv := (hg.val p.1 p.2 (hm p (by simp))).1
      have := recLen_ge p.1 p.2 (List.length_pos_iff.2 (validRec_parts hv).1)
      rw [recsB_cons,List.length_append,recB_length,List.length_cons]
      have := ih (fun q hq => hm q (List.mem_cons_of_mem _ hq))
      omega
  omega
theorem recl_nil {L : List (List UInt8 × List UInt8)} (h : RecL (fun _ => none) L) : L.length ≤ 1048576 := by
  cases L with
  | nil => decide
  | cons p L => have := h.mem p (by simp); cases this
theorem HG.inO {H : Hd} {R : KV} (g : HG H R) (f : Int) (hf : f = 2 ∨ f = 4) (rv : Value) : ({ H.rd f with recs := rv } : Hd).InO :=
  ⟨g.inT.mw,g.inT.mx,g.inT.aw,g.inT.ax,g.inT.cw,g.inT.cx,hf⟩
theorem hd_zero (H : Hd) (h1 : H.mw = 0) (h2 : H.aw = 0) (h3 : H.ax = 0) (h4 : H.cw = 0) (h5 : H.cx = 0) : ({ H with mw := 0,aw := 0,ax := 0,cw := 0,cx := 0,xattr := .map none,recs := .map none,fmt := 6 } : Hd) = { H with xattr := .map none,recs := .map none,fmt := 6 } := by
  cases H; simp_all
theorem recM_sparse {m R : KV} {typ : Int} (ht : typ ≠ 103) {k : List UInt8} (hm : m k = none) (hp : Lib.hasPrefix k [71,78,85,46,115,112,97,114,115,101,46] = true) : recM m R typ k = none := by
  unfold recM
  rw [hm]
  simp only
  rw [if_neg]
  rintro (h | ⟨-,h⟩)
  · exact ht h
  · rw [hp] at h; cases h
theorem take_at {α : Type} (a b c : List α) (n : Nat) (hn : b.length = n) : ((a ++ (b ++ c)).drop a.length).take n = b := by
  rw [List.drop_left,List.take_left' hn]
theorem firstHead (w : World) (g o c : Nat) (out : List UInt8) (aE : Addr) (H : Hd) (R : KV) (hasR : Bool) (hg : HG H R) (hp : octFits 8 H.mode = true ∧ octFits 8 H.maj = true ∧ octFits 8 H.mnr = true)
    (ho : HOut (fOf H R hasR) (recM (H.st R).m R H.typ) H out) (hat : At w g o (Lib.byteCells out)) (hE : w.cell? ⟨0,0,none⟩ = some (errV aE)) :
    Calls Tryz.prog 11 #[.slice (some ⟨g,o,none⟩) out.length c] w (FrdOut H (recM (H.st R).m R H.typ) hasR w) := by
  have hsz : ∀ B : Blk,rdTyp B = H.typ → True := fun _ _ => trivial
  rcases ho with ⟨hf,B2,hu,rfl⟩ | ⟨hf,B2,X,hpb,hpx,rfl⟩
  · obtain ⟨hfu,hr,hmw⟩ := fOf_u hg hasR hf
    obtain ⟨u1,u2,u3,u4,u5,u6⟩ := u_fits H R hfu
    have hty := hg.ty
    have hrdf := hu.rdf u1 u2 (by omega)
    have hback := hu.back u1 u2 (by omega) hg.tz
    have hfin : ({ rdHd B2 (uV H) with fmt := 2 } : Hd) = H.rd 2 := by
      rw [hback,hd_zero H hmw u3 u4 u5 u6]; rfl
    have htyp : rdTyp B2 = H.typ := by rw [rdTyp,hu.typ]; exact typ_back _ (by omega)
    have hlen : B2.bytes.length = 512 := hu.ok.len
    refine (first11 w g o B2.bytes.length c (0 + 512) B2.bytes aE B2 (fun _ => H.rd 2) (fun _ => none) (if hdrOnly (rdHd B2 (uV H)).typ then 0 else (rdHd B2 (uV H)).size) hat rfl (by omega) (by omega) hE (fun mb => hg.inO 2 (.inl rfl) _) ?_).mono ?_
    · intro w' tr r g' c' fr hr hfr ht hnc hat' hgS hE' hE0
      refine (nextU w' tr r g' _ c' 0 fr B2.bytes blk0 aE B2 (uV H) _ hrdf hr hfr ht (by omega) (by omega) hnc rfl hat' hgS (by rw [List.drop_zero,List.take_of_length_le (by omega)]) hE' hE0 (by rw [htyp]; exact hty) rfl ?_ ?_).mono (fun e w'' h => ⟨0,?_⟩)
      · rw [hback]; show 0 ≤ (if hdrOnly H.typ then (0 : Int) else H.size); split
        · decide
        · exact hg.size
      · rw [hback]; show (if hdrOnly H.typ then (0 : Int) else H.size) ≤ _; split
        · decide
        · exact hg.inT.size.2
      · rw [hfin] at h
        exact h
    · rintro e w' ⟨mb,rv,L,rfl,h3,h4,h5⟩
      exact ⟨rv,L,2,fun _ => none,rfl,h3,h4,.inr ⟨hr,fun _ => rfl⟩,recl_nil h4,h5⟩
  · have hty := hg.ty
    have ht : H.typ ≠ 103 := by omega
    have hrdf := hpb.rdf (by omega)
    have hback := hpb.back R hty hp.1 hp.2.1 hp.2.2 hg.tz
    have htyp : rdTyp B2 = H.typ := by rw [rdTyp,hpb.typ]; exact typ_back _ (by omega)
    have hl2 : B2.bytes.length = 512 := hpb.ok.len
    have hs0 : 0 ≤ (if hdrOnly H.typ then (0 : Int) else H.size) := by
      split
      · decide
      · exact hg.size
    have hs1 : (if hdrOnly H.typ then (0 : Int) else H.size) ≤ 9223372036854775807 := by
      split
      · decide
      · exact hg.inT.size.2
    have hr0 : 0 ≤ (if hdrOnly (rdHd B2 (pV H)).typ then (0 : Int) else (rdHd B2 (pV H)).size) ∧ (if hdrOnly (rdHd B2 (pV H)).typ then (0 : Int) else (rdHd B2 (pV H)).size) ≤ 9223372036854775807 := by
      have h9 : (rdHd B2 (pV H)).size = (oP 12 H.size : Nat) := rfl
      have h8 := oP_lt 12 H.size
      rw [h9]
      split
      · exact ⟨by decide,by decide⟩
      · have : (8 : Nat) ^ (12 - 1) = 8589934592 := by decide
        omega
    rcases hpx with ⟨hm,rfl⟩ | ⟨Rb,L,hrb,hL1,hL2,hL3,hL4,rfl⟩
    · have e1 : mrg (rdHd B2 (pV H)) (paxP H R) (fun k => (recM (H.st R).m R H.typ k).isSome) = rdHd B2 (pV H) := by
        have : (fun k => (recM (H.st R).m R H.typ k).isSome) = fun _ => false := by funext k; rw [hm k]; rfl
        rw [this]; rfl
      rw [e1] at hback
      have hfin : ({ rdHd B2 (pV H) with fmt := 2 } : Hd) = H.rd 2 := by rw [hback]; rfl
      rw [List.nil_append] at hat ⊢
      refine (first11 w g o B2.bytes.length c (0 + 512) B2.bytes aE B2 (fun _ => H.rd 2) (fun _ => none) (if hdrOnly (rdHd B2 (pV H)).typ then 0 else (rdHd B2 (pV H)).size) hat rfl (by omega) (by omega) hE (fun mb => hg.inO 2 (.inl rfl) _) ?_).mono ?_
      · intro w' tr r g' c' fr hr hfr ht hnc hat' hgS hE' hE0
        refine (nextU w' tr r g' _ c' 0 fr B2.bytes blk0 aE B2 (pV H) _ hrdf hr hfr ht (by omega) (by omega) hnc rfl hat' hgS (by rw [List.drop_zero,List.take_of_length_le (by omega)]) hE' hE0 (by rw [htyp]; exact hty) rfl hr0.1 hr0.2).mono (fun e w'' h => ⟨0,?_⟩)
        rw [hfin] at h
        exact h
      · rintro e w' ⟨mb,rv,L,rfl,h3,h4,h5⟩
        exact ⟨rv,L,2,fun _ => none,rfl,h3,h4,.inl (funext fun k => (hm k).symm),recl_nil h4,h5⟩
    · have hpa : putAll (fun _ => none) L = recM (H.st R).m R H.typ := putAll_all _ L hL1 hL2
      have hrx := hrb.rdf (by omega) (by omega)
      have hlx : Rb.bytes.length = 512 := hrb.ok.len
      have hpd : 0 ≤ padOf (recsB L).length ∧ padOf (recsB L).length < 512 := by unfold padOf; omega
      have hno : ∀ k,k ∉ tenKeys → Lib.hasPrefix k [71,78,85,46,115,112,97,114,115,101,46] = true → recM (H.st R).m R H.typ k = none := fun k h1 h2 => recM_sparse ht (st_none H R h1) h2
      have n1 := hno kMajor (by decide) (by decide)
      have n2 := hno kMinor (by decide) (by decide)
      have n3 := hno kMap (by decide) (by decide)
      have n4 := hno kOff (by decide) (by decide)
      have n5 := hno kNum (by decide) (by decide)
      have hrok : RecsOk L := fun p hp => by
        have h := hL1 p hp
        refine ⟨(hg.val p.1 p.2 h).1,fun e => ?_,fun e => ?_⟩
        · rw [e,n4] at h; cases h
        · rw [e,n5] at h; cases h
      have hpos : 0 < (recsB L).length := by
        obtain ⟨p,L',rfl⟩ := List.exists_cons_of_ne_nil hL3
        rw [recsB_cons,List.length_append,recB_length]
        have := recLen_ge p.1 p.2 (by
          have h := validRec_parts (hrok p (by simp)).1
          exact List.length_pos_iff.2 h.1)
        omega
      have hout : (Rb.bytes ++ recsB L ++ List.replicate (padOf (recsB L).length).toNat 0 ++ B2.bytes) = Rb.bytes ++ (recsB L ++ (List.replicate (padOf (recsB L).length).toNat 0 ++ B2.bytes)) := by simp [List.append_assoc]
      have hlen : (Rb.bytes ++ recsB L ++ List.replicate (padOf (recsB L).length).toNat 0 ++ B2.bytes).length = 512 + (recsB L).length + (padOf (recsB L).length).toNat + 512 := by
        simp only [List.length_append,List.length_replicate,hlx,hl2]
      have hfin : (mrg (rdHd B2 (pV H)) (paxP H R) (fun k => (putAll (fun _ => none) L k).isSome)) = { H with xattr := .map none,recs := .map none,fmt := 6 } := by rw [hpa]; exact hback
      have hb1 : ((Rb.bytes ++ recsB L ++ List.replicate (padOf (recsB L).length).toNat 0 ++ B2.bytes).drop 0).take 512 = Rb.bytes := by
        rw [hout,List.drop_zero,List.take_left' hlx]
      have hb2 : ((Rb.bytes ++ recsB L ++ List.replicate (padOf (recsB L).length).toNat 0 ++ B2.bytes).drop (0 + 512)).take (recsB L).length = recsB L := by
        rw [hout,Nat.zero_add]
        have := take_at Rb.bytes (recsB L) (List.replicate (padOf (recsB L).length).toNat 0 ++ B2.bytes) _ rfl
        rwa [hlx] at this
      have hb3 : ((Rb.bytes ++ recsB L ++ List.replicate (padOf (recsB L).length).toNat 0 ++ B2.bytes).drop (0 + 512 + (recsB L).length + (padOf (recsB L).length).toNat)).take 512 = B2.bytes := by
        have := take_at (Rb.bytes ++ recsB L ++ List.replicate (padOf (recsB L).length).toNat 0) B2.bytes [] 512 hl2
        rw [List.append_nil] at this
        have hl : (Rb.bytes ++ recsB L ++ List.replicate (padOf (recsB L).length).toNat 0).length = 0 + 512 + (recsB L).length + (padOf (recsB L).length).toNat := by
          simp only [List.length_append,List.length_replicate,hlx] <;> omega
        rwa [hl] at this
      generalize hbs : (Rb.bytes ++ recsB L ++ List.replicate (padOf (recsB L).length).toNat 0 ++ B2.bytes) = bs at *
      refine (first11 w g o bs.length c (0 + 512 + (recsB L).length + (padOf (recsB L).length).toNat + 512) bs aE B2 (fun mb => { H.rd 4 with recs := .map (some mb) }) (recM (H.st R).m R H.typ) (if hdrOnly H.typ then 0 else H.size) hat rfl (by omega) (by omega) hE (fun mb => hg.inO 4 (.inr rfl) _) ?_).mono ?_
      · intro w' tr r g' c' fr hr hfr ht hnc hat' hgS hE' hE0
        refine (nextP w' tr r g' _ c' 0 fr (recsB L).length (padOf (recsB L).length).toNat bs blk0 aE Rb B2 _ (pV H) L (paxP H R) _ hrx hrdf hr hfr ht (by omega) (by omega) (by omega) (by omega) hnc rfl hat' hgS hb1 hb2 hb3 hE' hE0 (hrb.typ_back (by omega)) rfl hpos hL4 hrok (by rw [hpa]; exact hg.mok) (by rw [hpa]; exact n1) (by rw [hpa]; exact n2) (by rw [hpa]; exact n3) (by rw [htyp]; exact hty) _ rfl _ rfl hr0.1 hr0.2 ?_ hs0 hs1).mono ?_
        · rw [hfin]
        · rintro e w'' ⟨mb,h⟩
          rw [hfin,hpa] at h
          exact ⟨mb,h⟩
      · rintro e w' ⟨mb,rv,L2,rfl,h3,h4,h5⟩
        exact ⟨rv,L2,4,_,rfl,h3,h4,.inl rfl,hg.recl_len h4,h5⟩
def IH.hw (h : IH) (rv : Value) : Hd := ({ h.hd2 with recs := rv } : Hd).prom
theorem hw_typ (h : IH) (rv : Value) : (h.hw rv).typ = h.sprom.typ := by
  show (if h.typ = 0 then (if slashEnd h.name then (53 : Int) else 48) else h.typ) = if h.typ = 0 then (if slashB h.name then (53 : Int) else 48) else h.typ
  rw [slash_end]
theorem putAll_some (L : List (List UInt8 × List UInt8)) : ∀ (m : KV) (k v : List UInt8),putAll m L k = some v → (k,v) ∈ L ∨ m k = some v := by
  induction L with
  | nil => intro m k v h; exact .inr h
  | cons p L ih =>
    intro m k v h
    rcases ih _ k v h with h | h
    · exact .inl (List.mem_cons_of_mem _ h)
    · by_cases hk : k = p.1
      · subst hk; rw [putF_same] at h; cases h; exact .inl (by simp)
      · rw [putF_other _ _ _ _ hk] at h; exact .inr h
theorem putAll_has (L : List (List UInt8 × List UInt8)) : ∀ (m : KV) (k : List UInt8),(m k ≠ none ∨ k ∈ L.map (·.1)) → putAll m L k ≠ none := by
  induction L with
  | nil => intro m k h; rcases h with h | h
           · exact h
           · cases h
  | cons p L ih =>
    intro m k h
    refine ih _ k ?_
    by_cases hk : k = p.1
    · subst hk; left; rw [putF_same]; simp
    · rcases h with h | h
      · left; rw [putF_other _ _ _ _ hk]; exact h
      · right
        rcases List.mem_cons.1 (by simpa using h : k ∈ p.1::L.map (·.1)) with e | e
        · exact absurd e hk
        · exact e
structure IH.Rng (h : IH) : Prop where
  typ : 0 ≤ h.typ ∧ h.typ < 256
  size : -9223372036854775808 ≤ h.size ∧ h.size ≤ 9223372036854775807
  mode : -9223372036854775808 ≤ h.mode ∧ h.mode ≤ 9223372036854775807
  uid : -9223372036854775808 ≤ h.uid ∧ h.uid ≤ 9223372036854775807
  gid : -9223372036854775808 ≤ h.gid ∧ h.gid ≤ 9223372036854775807
  maj : -9223372036854775808 ≤ h.maj ∧ h.maj ≤ 9223372036854775807
  mnr : -9223372036854775808 ≤ h.mnr ∧ h.mnr ≤ 9223372036854775807
structure FldRecs (L : List (List UInt8 × List UInt8)) : Prop where
  key : ∀ p ∈ L,p.1 ∈ tenKeys
  ne : ∀ p ∈ L,p.2 ≠ []
  len : L.length ≤ 10
theorem CanOk.inH {h : IH} (k : CanOk h) : h.In where
  mn := by have := k.1.2.2.2.1; unfold OddOk at this; omega
  ms := by have := k.2.2.2.2.1; unfold MomentOk at this; exact ⟨this.1,this.2.1⟩
  atn := fun e => by have := k.1.2.2.2.2.1 e; unfold OddOk at this; omega
  ats := fun e => by have := k.2.2.2.2.2.2.1 e; unfold MomentOk at this; exact ⟨this.1,this.2.1⟩
  ctn := fun e => by have := k.1.2.2.2.2.2 e; unfold OddOk at this; omega
  cts := fun e => by have := k.2.2.2.2.2.2.2 e; unfold MomentOk at this; exact ⟨this.1,this.2.1⟩
theorem small_fits {n : Int} (h : SmallOk n 2 false) : octFits 8 n = true := by
  unfold SmallOk at h
  unfold octFits
  rw [decide_eq_true_eq]
  have : (8 : Int) ^ (8 - 1) = 2097152 := by decide
  rcases h.2.2 (by decide) with ⟨-,h2⟩ | h2
  · cases h2
  · omega
theorem hw_hg {h : IH} (k : CanOk h) (g : h.Rng) (hf : h.fmt = 2) (L : List (List UInt8 × List UInt8)) (hL : FldRecs L) (rv : Value) : HG (h.hw rv) (putAll (fun _ => none) L) where
  inT := by
    have hi := k.inH
    have hs := k.1.1
    simp only [recSz] at hs
    have e1 : (h.hw rv).aw = if h.hasA then h.atn else 0 := rfl
    have e2 : (h.hw rv).ax = if h.hasA then h.ats + 62135596800 else 0 := rfl
    have e3 : (h.hw rv).cw = if h.hasC then h.ctn else 0 := rfl
    have e4 : (h.hw rv).cx = if h.hasC then h.cts + 62135596800 else 0 := rfl
    refine { mode := g.mode,uid := g.uid,gid := g.gid,size := g.size,maj := g.maj,mnr := g.mnr,mw := hi.mn,mx := ?_,typ := ?_,name := ?_,link := ?_,user := ?_,group := ?_,aw := ?_,ax := ?_,cw := ?_,cx := ?_ }
    · show _ ≤ h.ms + 62135596800 - 62135596800 ∧ h.ms + 62135596800 - 62135596800 ≤ _
      have := hi.ms; omega
    · rw [hw_typ]; have := k.2.1; unfold TypOk at this; omega
    · show h.name.length ≤ _; omega
    · show h.link.length ≤ _; omega
    · show h.user.length ≤ _; omega
    · show h.group.length ≤ _; omega
    · rw [e1]; split
      · rename_i e; exact hi.atn e
      · decide
    · rw [e2]; split
      · rename_i e; have := hi.ats e; omega
      · decide
    · rw [e3]; split
      · rename_i e; exact hi.ctn e
      · decide
    · rw [e4]; split
      · rename_i e; have := hi.cts e; omega
      · decide
  ty := by rw [hw_typ]; have := k.2.1; unfold TypOk at this; omega
  sl := fun e => by
    rw [hw_typ]
    exact k.2.1.2.2.2 (by rw [← slash_end]; exact e)
  size := k.2.2.2.2.2.1.1
  xa := rfl
  zn := k.2.2.1.1.1
  zl := k.2.2.1.2.1.1
  zu := k.2.2.1.2.2.1.1
  zg := k.2.2.1.2.2.2.1
  fmt := by show fmtOf h.fmt = 0 ∨ fmtOf h.fmt = 2 ∨ fmtOf h.fmt = 4; rw [hf]; decide
  tz := by
    have := k.1.2.2.2.1
    unfold OddOk at this
    unfold tZero
    rw [decide_eq_false_iff_not]
    rintro ⟨e1,e2⟩
    have e1 : h.mn = 0 := e1
    have e2 : h.ms + 62135596800 = 0 := e2
    exact this.2.2 (by omega) e1
  mw := fun e => absurd (show fmtOf h.fmt = 4 by rw [hf]; decide) e
  r0 := by
    cases hr : putAll (fun _ => none) L [] with
    | none => rfl
    | some v =>
      rcases putAll_some L _ _ _ hr with h | h
      · exact absurd (show ([] : List UInt8) ∈ tenKeys from hL.key _ h) (by decide)
      · cases h
  rne := fun k v hr => by
    rcases putAll_some L _ _ _ hr with h | h
    · exact hL.ne _ h
    · cases h
  rval := fun k v hr hk => by
    rcases putAll_some L _ _ _ hr with h | h
    · exact absurd (hL.key _ h) hk
    · cases h
  sum := fun M _ hM => by
    have hs := k.1.1
    simp only [recSz] at hs
    have : M = [] := by
      cases M with
      | nil => rfl
      | cons p M =>
        have := hM p (by simp)
        rcases putAll_some L _ _ _ this.1 with h | h
        · exact absurd (hL.key _ h) this.2
        · cases h
    subst this
    show 0 + h.name.length + h.link.length + h.user.length + h.group.length ≤ _
    omega
theorem hw_fits {h : IH} (k : CanOk h) (rv : Value) : octFits 8 (h.hw rv).mode = true ∧ octFits 8 (h.hw rv).maj = true ∧ octFits 8 (h.hw rv).mnr = true :=
  ⟨small_fits k.2.2.2.1.1,small_fits k.2.2.2.1.2.2.2.1,small_fits k.2.2.2.1.2.2.2.2⟩
theorem hw_up {h : IH} (k : CanOk h) (hf : h.fmt = 2) (R : KV) (hasR : Bool) (rv : Value) : (fOf (h.hw rv) R hasR).1 = true ∨ (fOf (h.hw rv) R hasR).2.1 = true := by
  right
  have hp := hw_fits k rv
  unfold fOf finF
  have : (h.hw rv).fmt = 4 := by show fmtOf h.fmt = 4; rw [hf]; decide
  rw [this,if_neg (by decide),if_neg (by decide),if_pos rfl,st_p,hp.1,hp.2.1,hp.2.2]; rfl
def IH.noA (x : IH) : IH := { x with hasA := false,ats := 0,atn := 0 }
def IH.noC (x : IH) : IH := { x with hasC := false,cts := 0,ctn := 0 }
def IH.cutA (x : IH) (b : Bool) : IH := if b then x else x.noA
def IH.cutC (x : IH) (b : Bool) : IH := if b then x else x.noC
theorem same_back {h want : IH} (k : CanOk h) (hw : ∃ r f,want = { h.sprom with recs := r,fmt := f }) (f : Int) (rv rv2 : Value) (f2 : Int) : SameH (({ ihOf ((h.hw rv).rd f) with recs := rv2,fmt := f2 } : IH).cutA h.hasA |>.cutC h.hasC) want := by
  obtain ⟨r,f',rfl⟩ := hw
  have hA : h.hasA = true → tZero h.atn (h.ats + 62135596800) = false := fun e => by
    have := k.1.2.2.2.2.1 e
    unfold OddOk at this
    unfold tZero
    rw [decide_eq_false_iff_not]
    rintro ⟨e1,e2⟩
    exact this.2.2 (by omega) e1
  have hC : h.hasC = true → tZero h.ctn (h.cts + 62135596800) = false := fun e => by
    have := k.1.2.2.2.2.2 e
    unfold OddOk at this
    unfold tZero
    rw [decide_eq_false_iff_not]
    rintro ⟨e1,e2⟩
    exact this.2.2 (by omega) e1
  have et := hw_typ h rv
  have e1 : (h.hw rv).aw = if h.hasA then h.atn else 0 := rfl
  have e2 : (h.hw rv).ax = if h.hasA then h.ats + 62135596800 else 0 := rfl
  have e3 : (h.hw rv).cw = if h.hasC then h.ctn else 0 := rfl
  have e4 : (h.hw rv).cx = if h.hasC then h.cts + 62135596800 else 0 := rfl
  have em : (h.hw rv).mx - 62135596800 = h.ms := by show h.ms + 62135596800 - 62135596800 = h.ms; omega
  cases ha : h.hasA <;> cases hc : h.hasC
  all_goals
    rw [ha] at e1 e2; rw [hc] at e3 e4
    simp only [Bool.false_eq_true,if_false,if_true] at e1 e2 e3 e4
    simp only [IH.cutA,IH.cutC,IH.noA,IH.noC,Bool.false_eq_true,if_false,if_true]
    refine ⟨et.symm,rfl,rfl,rfl,rfl,rfl,rfl,rfl,rfl,em.symm,rfl,?_,?_,?_,?_,rfl,rfl⟩
  all_goals first
    | (show h.hasA = !tZero (h.hw rv).aw (h.hw rv).ax; rw [ha,e1,e2,hA ha]; rfl)
    | (show h.hasC = !tZero (h.hw rv).cw (h.hw rv).cx; rw [hc,e3,e4,hC hc]; rfl)
    | (show h.hasA = false; exact ha)
    | (show h.hasC = false; exact hc)
    | (intro e; cases e; done)
    | (intro _; show h.ats = (if tZero (h.hw rv).aw (h.hw rv).ax then 0 else (h.hw rv).ax - 62135596800) ∧ h.atn = (if tZero (h.hw rv).aw (h.hw rv).ax then 0 else (h.hw rv).aw); rw [e1,e2,hA ha]; simp; done)
    | (intro _; show h.cts = (if tZero (h.hw rv).cw (h.hw rv).cx then 0 else (h.hw rv).cx - 62135596800) ∧ h.ctn = (if tZero (h.hw rv).cw (h.hw rv).cx then 0 else (h.hw rv).cw); rw [e3,e4,hC hc]; simp; done)
end Go.Proofs.YtkanmkcojlefbaaGreatDoor
