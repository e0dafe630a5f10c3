/-
  Part of the proof; holds the texts Brg.
-/
import Derived.Test.YtkanmkcojlefbaaGreatDoorM33
import Derived.Test.YtkanmkcojlefbaaGreatDoorM34
import Derived.Test.YtkanmkcojlefbaaGreatDoorM23
import Derived.Test.YtkanmkcojlefbaaGreatDoorM24
set_option maxRecDepth 100000
set_option linter.unusedSimpArgs false
set_option linter.unusedVariables false
namespace Go.Proofs.YtkanmkcojlefbaaGreatDoor
open Go.Lib
theorem ascB_low {b : UInt8} (h : ascB b = true) : b.toNat < 128 := by
  simp only [ascB,Bool.and_eq_true,decide_eq_true_eq] at h; exact h.1
theorem asciiB_low {l : List UInt8} (h : asciiB l = true) : ∀ b ∈ l,b.toNat < 128 := fun b hb => by
  simp only [asciiB,List.all_eq_true] at h
  exact ascB_low (h b hb)
theorem asciiB_nz {l : List UInt8} (h : asciiB l = true) : (0 : UInt8) ∉ l := fun hm => by
  simp only [asciiB,List.all_eq_true] at h
  have := h 0 hm
  revert this; decide
theorem cstr_fmt {n : Nat} {s fld : List UInt8} (h : FmtS (List.replicate n 0) s fld) (hz : (0 : UInt8) ∉ s) (hl : s.length ≤ n) : cstr fld = s := by
  rcases Nat.lt_or_eq_of_le hl with hl | hl
  · rw [h.short (by rw [List.length_replicate]; exact hl)]
    exact cut_take _ _ _ hz
  · have := h.full (by rw [List.length_replicate]; exact hl)
    subst this
    rw [cstr,List.idxOf_eq_length hz,List.take_length]
theorem FmtS.low {n : Nat} {s fld : List UInt8} (h : FmtS (List.replicate n 0) s fld) (hs : asciiB s = true) : ∀ b ∈ fld,b.toNat < 128 := fun b hb => by
  rcases h.mem b hb with rfl | h | h
  · decide
  · exact asciiB_low hs b h
  · rw [List.eq_of_mem_replicate h]; decide
theorem cstr_zeros (n : Nat) : cstr (List.replicate n 0) = [] := by
  cases n with
  | zero => rfl
  | succ n => rw [cstr,List.replicate_succ,List.idxOf_cons_self]; rfl
theorem splitP_sub (l : List UInt8) : ∀ b ∈ splitP l,b ∈ l := fun b hb => by
  unfold splitP at hb
  split at hb
  · exact List.mem_of_mem_take hb
  · cases hb
theorem splitN_sub (l : List UInt8) : ∀ b ∈ splitN l,b ∈ l := fun b hb => by
  unfold splitN at hb
  split at hb
  · exact List.mem_of_mem_drop hb
  · exact hb
theorem occAt_byte {s : List UInt8} {c : UInt8} {i : Nat} (h : occAt s [c] i = true) : s[i]? = some c := by
  unfold occAt at h
  cases hd : s.drop i with
  | nil => rw [hd] at h; cases h
  | cons x r =>
    rw [hd] at h
    have : c = x := by simpa [List.isPrefixOf] using h
    have h2 : (s.drop i)[0]? = some x := by rw [hd]; rfl
    rw [List.getElem?_drop] at h2
    rw [this]; simpa using h2
theorem cutAt_slash {l : List UInt8} (h : 0 < cutAt l) : l[(cutAt l).toNat]? = some 47 := by
  unfold cutAt at h ⊢
  unfold lastIndex at h ⊢
  split at h
  · rename_i hl
    rw [if_pos hl]
    rcases lastOcc_spec (l.take (cutLen l)) [47] ((l.take (cutLen l)).length - [(47 : UInt8)].length + 1) with ⟨e,-⟩ | ⟨i,-,e,ho,-⟩
    · omega
    · rw [e]
      have := occAt_byte ho
      rw [List.getElem?_take] at this
      split at this
      · simpa using this
      · cases this
  · omega
theorem split_join (l : List UInt8) : (if splitP l = [] then splitN l else splitP l ++ 47::splitN l) = l := by
  unfold splitP splitN
  by_cases hs : splitB l = true
  · rw [if_pos hs,if_pos hs]
    have h2 := hs
    simp only [splitB,Bool.and_eq_true,decide_eq_true_eq] at h2
    obtain ⟨⟨h100,ha⟩,h0,h3,h4,h5⟩ := h2
    have hsl := cutAt_slash h0
    obtain ⟨hlt,he⟩ := List.getElem?_eq_some_iff.1 hsl
    rw [if_neg (fun e => by
      have := congrArg List.length e
      rw [List.length_take,List.length_nil] at this
      omega)]
    conv => rhs; rw [← List.take_append_drop (cutAt l).toNat l]
    rw [List.drop_eq_getElem_cons hlt,he]
  · rw [if_neg hs,if_neg hs,if_pos rfl]
theorem typ_back (x : Int) (h : 0 ≤ x ∧ x < 256) : (([UInt8.ofNat x.toNat] : List UInt8)[0]?.getD 0).toNat = x := by
  simp only [List.getElem?_cons_zero,Option.getD_some,UInt8.toNat_ofNat']
  omega
theorem octField_last (n u : Nat) (hn : 2 ≤ n) (h : u < 8 ^ (n - 1)) : (octField n u)[n - 1]? = some 0 := by
  have hl := octField_length n u hn h
  rw [octField_body] at hl ⊢
  rw [List.length_append,List.length_singleton] at hl
  rw [List.getElem?_append_right (by omega),show n - 1 - (octBody n u).length = 0 by omega]; rfl
theorem octFits_nat {n : Nat} {x : Int} (h : octFits n x = true) : 0 ≤ x ∧ x.toNat < 8 ^ (n - 1) := by
  simp only [octFits,decide_eq_true_eq] at h
  refine ⟨h.1,?_⟩
  have : ((x.toNat : Nat) : Int) < ((8 ^ (n - 1) : Nat) : Int) := by
    rw [Int.toNat_of_nonneg h.1]; push_cast; exact h.2
  exact_mod_cast this
theorem octP_lt (n : Nat) (x : Int) : (if octFits n x then x.toNat else 0) < 8 ^ (n - 1) := by
  split
  · rename_i h; exact (octFits_nat h).2
  · exact Nat.pow_pos (by omega)
theorem Blk.mem {B : Blk} {b : UInt8} (h : b ∈ B.bytes) : b ∈ B.name ∨ b ∈ B.mode ∨ b ∈ B.uid ∨ b ∈ B.gid ∨ b ∈ B.size ∨ b ∈ B.mtime ∨ b ∈ B.chk ∨ b ∈ B.typ ∨ b ∈ B.link ∨ b ∈ B.magic ∨ b ∈ B.ver ∨ b ∈ B.user ∨ b ∈ B.group ∨ b ∈ B.maj ∨ b ∈ B.mnr ∨ b ∈ B.rest := by
  simpa only [Blk.bytes,List.mem_append] using h
theorem mk_rdf {B : Blk} (V : RdV) (ok : B.Ok) (t : Int) (ht : 0 ≤ t ∧ t < 128) (typ : B.typ = [UInt8.ofNat t.toNat]) (hname : ∀ b ∈ B.name,b.toNat < 128) (hlink : ∀ b ∈ B.link,b.toNat < 128) (huser : ∀ b ∈ B.user,b.toNat < 128) (hgroup : ∀ b ∈ B.group,b.toNat < 128) (hrest : ∀ b ∈ B.rest,b.toNat < 128)
    (mode : B.mode = octField 8 V.mode ∧ V.mode < 8 ^ (8 - 1)) (uid : B.uid = octField 8 V.uid ∧ V.uid < 8 ^ (8 - 1)) (gid : B.gid = octField 8 V.gid ∧ V.gid < 8 ^ (8 - 1)) (size : B.size = octField 12 V.size ∧ V.size < 8 ^ (12 - 1)) (mtime : B.mtime = octField 12 V.mtime ∧ V.mtime < 8 ^ (12 - 1))
    (maj : NumO B.maj V.maj ∧ B.maj[7]? = some 0) (mnr : NumO B.mnr V.mnr ∧ B.mnr[7]? = some 0) (magic : B.magic = [117,115,116,97,114,0]) (ver : B.ver = [48,48]) (chk : B.chk = octField 7 (cks B.bytes 512) ++ [32]) (rest : B.rest.drop 163 = [0,0,0,0]) : RdF B V where
  ok := ok
  magic := magic
  chk := chk
  end4 := rest
  low := fun b hb => by
    have n1 : ∀ (n u : Nat),2 ≤ n → n ≤ 12 → u < 8 ^ (n - 1) → ∀ b ∈ octField n u,b.toNat < 128 := fun n u h1 h2 h3 => (NumO.field n u h1 h2 h3).low
    rcases Blk.mem hb with h | h | h | h | h | h | h | h | h | h | h | h | h | h | h | h
    · exact hname b h
    · rw [mode.1] at h; exact n1 8 _ (by omega) (by omega) mode.2 b h
    · rw [uid.1] at h; exact n1 8 _ (by omega) (by omega) uid.2 b h
    · rw [gid.1] at h; exact n1 8 _ (by omega) (by omega) gid.2 b h
    · rw [size.1] at h; exact n1 12 _ (by omega) (by omega) size.2 b h
    · rw [mtime.1] at h; exact n1 12 _ (by omega) (by omega) mtime.2 b h
    · rw [chk] at h; exact (NumO.chk _ (cks_small _)).low b h
    · rw [typ,List.mem_singleton] at h; subst h; rw [UInt8.toNat_ofNat']; omega
    · exact hlink b h
    · rw [magic] at h; exact (by decide : ∀ b ∈ ([117,115,116,97,114,0] : List UInt8),b.toNat < 128) b h
    · rw [ver] at h; exact (by decide : ∀ b ∈ ([48,48] : List UInt8),b.toNat < 128) b h
    · exact huser b h
    · exact hgroup b h
    · exact maj.1.low b h
    · exact mnr.1.low b h
    · exact hrest b h
  mode := by rw [mode.1]; exact NumO.field 8 _ (by omega) (by omega) mode.2
  uid := by rw [uid.1]; exact NumO.field 8 _ (by omega) (by omega) uid.2
  gid := by rw [gid.1]; exact NumO.field 8 _ (by omega) (by omega) gid.2
  size := by rw [size.1]; exact NumO.field 12 _ (by omega) (by omega) size.2
  mtime := by rw [mtime.1]; exact NumO.field 12 _ (by omega) (by omega) mtime.2
  maj := maj.1
  mnr := mnr.1
  zmode := by rw [mode.1]; exact octField_last 8 _ (by omega) mode.2
  zuid := by rw [uid.1]; exact octField_last 8 _ (by omega) uid.2
  zgid := by rw [gid.1]; exact octField_last 8 _ (by omega) gid.2
  zsize := by rw [size.1]; exact octField_last 12 _ (by omega) size.2
  zmtime := by rw [mtime.1]; exact octField_last 12 _ (by omega) mtime.2
  zmaj := maj.2
  zmnr := mnr.2
def uV (H : Hd) : RdV := ⟨H.mode.toNat,H.uid.toNat,H.gid.toNat,H.size.toNat,H.sec.toNat,H.maj.toNat,H.mnr.toNat⟩
structure AscH (H : Hd) : Prop where
  name : asciiB H.name = true
  link : asciiB H.link = true
  user : asciiB H.user = true
  group : asciiB H.group = true
theorem UBlk.rdf {H : Hd} {B : Blk} (h : UBlk H B) (hf : UFits H) (ha : AscH H) (ht : 0 ≤ H.typ ∧ H.typ < 128) : RdF B (uV H) := by
  obtain ⟨pf,hp,hr⟩ := h.rest
  have oc : ∀ {n : Nat} {x : Int} {f : List UInt8},octFits n x = true → f = octField n x.toNat → f = octField n x.toNat ∧ x.toNat < 8 ^ (n - 1) := fun h1 h2 => ⟨h2,(octFits_nat h1).2⟩
  have on : ∀ {x : Int} {f : List UInt8},octFits 8 x = true → f = octField 8 x.toNat → NumO f x.toNat ∧ f[7]? = some 0 := fun h1 h2 => by
    have h3 := (octFits_nat h1).2
    rw [h2]; exact ⟨NumO.field 8 _ (by omega) (by omega) h3,octField_last 8 _ (by omega) h3⟩
  have hpl : pf.length = 155 := by rw [hp.len,List.length_replicate]
  refine mk_rdf (uV H) h.ok H.typ ht h.typ (h.name.low (asciiB_sub ha.name (splitN_sub _))) (h.link.low ha.link) (h.user.low ha.user) (h.group.low ha.group) ?_ (oc hf.mode h.mode) (oc hf.uid h.uid) (oc hf.gid h.gid) (oc hf.size h.size) (oc hf.mtime h.mtime) (on hf.maj h.maj) (on hf.mnr h.mnr) h.magic h.ver h.chk ?_
  · intro b hb
    rw [hr] at hb
    rcases List.mem_append.1 hb with hb | hb
    · exact hp.low (asciiB_sub ha.name (splitP_sub _)) b hb
    · rw [List.eq_of_mem_replicate hb]; decide
  · rw [hr,List.drop_append,hpl,List.drop_eq_nil_of_le (by omega)]; decide
theorem UBlk.name_back {H : Hd} {B : Blk} (h : UBlk H B) (hf : UFits H) (ha : AscH H) : rdName B = H.name := by
  obtain ⟨pf,hp,hr⟩ := h.rest
  have hpl : pf.length = 155 := by rw [hp.len,List.length_replicate]
  have h1 : rdPre B = splitP H.name := by
    rw [rdPre,hr,List.take_left' hpl]
    exact cstr_fmt hp (asciiB_nz (asciiB_sub ha.name (splitP_sub _))) hf.pre
  have h2 : cstr B.name = splitN H.name := cstr_fmt h.name (asciiB_nz (asciiB_sub ha.name (splitN_sub _))) hf.name
  rw [rdName,h1,h2]
  exact split_join H.name
theorem UBlk.back {H : Hd} {B : Blk} (h : UBlk H B) (hf : UFits H) (ha : AscH H) (ht : 0 ≤ H.typ ∧ H.typ < 128) (hz : tZero H.mw H.mx = false) :
    rdHd B (uV H) = { H with mw := 0,aw := 0,ax := 0,cw := 0,cx := 0,xattr := .map none,recs := .map none,fmt := 6 } := by
  have e1 : rdTyp B = H.typ := by rw [rdTyp,h.typ]; exact typ_back _ (by omega)
  have hm : ((H.sec.toNat : Nat) : Int) + 62135596800 = H.mx := by
    have h1 := (octFits_nat hf.mtime).1
    rw [Int.toNat_of_nonneg h1,Hd.sec,hz]; simp
  have cn : ∀ {n : Nat} {x : Int},octFits n x = true → ((x.toNat : Nat) : Int) = x := fun h1 => Int.toNat_of_nonneg (octFits_nat h1).1
  rw [rdHd,rdHd1,e1,h.name_back hf ha,cstr_fmt h.link (asciiB_nz ha.link) hf.link,cstr_fmt h.user (asciiB_nz ha.user) hf.user,cstr_fmt h.group (asciiB_nz ha.group) hf.group]
  simp only [uV,Hd.nil,cn hf.mode,cn hf.uid,cn hf.gid,cn hf.size,cn hf.maj,cn hf.mnr,hm]
def sNeed (R : KV) (s : List UInt8) (sz : Nat) (key : List UInt8) : Bool := (!asciiB s || decide (sz < s.length)) || decide (R key = some s)
def nNeed (R : KV) (x : Int) (n : Nat) (key : List UInt8) : Bool := !octFits n x || decide (R key = some (itoa x))
def tNeed (R : KV) (n x : Int) (key : List UInt8) : Bool := !tZero n x && (timNeed n x key || decide (R key = some (paxTime (x - 62135596800) n)))
theorem strM_same (m R : KV) (s : List UInt8) (sz : Nat) (key : List UInt8) : strM m R s sz key key = if sNeed R s sz key then some s else m key := by
  unfold strM sNeed; split <;> simp_all [putF_same]
theorem strM_other (m R : KV) (s : List UInt8) (sz : Nat) (key x : List UInt8) (h : x ≠ key) : strM m R s sz key x = m x := by
  unfold strM; split
  · exact putF_other _ _ _ _ h
  · rfl
theorem numM_same (m R : KV) (y : Int) (n : Nat) (key : List UInt8) : numM m R y n key key = if nNeed R y n key then some (itoa y) else m key := by
  unfold numM nNeed; split <;> simp_all [putF_same]
theorem numM_other (m R : KV) (y : Int) (n : Nat) (key x : List UInt8) (h : x ≠ key) : numM m R y n key x = m x := by
  unfold numM; split
  · exact putF_other _ _ _ _ h
  · rfl
theorem timM_same (m R : KV) (n y : Int) (key : List UInt8) : timM m R n y key key = if tNeed R n y key then some (paxTime (y - 62135596800) n) else m key := by
  unfold timM tNeed; split
  · simp_all
  · split <;> simp_all [putF_same]
theorem timM_other (m R : KV) (n y : Int) (key x : List UInt8) (h : x ≠ key) : timM m R n y key x = m x := by
  unfold timM; split
  · rfl
  · split
    · exact putF_other _ _ _ _ h
    · rfl
section
variable (H : Hd) (R : KV)
theorem st_m : (H.st R).m = timM (timM (timM (numM (numM (numM (strM (strM (strM (strM (fun _ => none) R H.name 100 kPath) R H.link 100 kLink) R H.user 32 kUname) R H.group 32 kGname) R H.uid 8 kUid) R H.gid 8 kGid) R H.size 12 kSize) R H.mw H.mx kMtime) R H.aw H.ax kAtime) R H.cw H.cx kCtime := rfl
theorem st_path : (H.st R).m kPath = if sNeed R H.name 100 kPath then some H.name else none := by
  rw [st_m,timM_other _ _ _ _ _ _ (by decide),timM_other _ _ _ _ _ _ (by decide),timM_other _ _ _ _ _ _ (by decide),numM_other _ _ _ _ _ _ (by decide),numM_other _ _ _ _ _ _ (by decide),numM_other _ _ _ _ _ _ (by decide),strM_other _ _ _ _ _ _ (by decide),strM_other _ _ _ _ _ _ (by decide),strM_other _ _ _ _ _ _ (by decide),strM_same]
theorem st_link : (H.st R).m kLink = if sNeed R H.link 100 kLink then some H.link else none := by
  rw [st_m,timM_other _ _ _ _ _ _ (by decide),timM_other _ _ _ _ _ _ (by decide),timM_other _ _ _ _ _ _ (by decide),numM_other _ _ _ _ _ _ (by decide),numM_other _ _ _ _ _ _ (by decide),numM_other _ _ _ _ _ _ (by decide),strM_other _ _ _ _ _ _ (by decide),strM_other _ _ _ _ _ _ (by decide),strM_same,strM_other _ _ _ _ _ _ (by decide)]
theorem st_uname : (H.st R).m kUname = if sNeed R H.user 32 kUname then some H.user else none := by
  rw [st_m,timM_other _ _ _ _ _ _ (by decide),timM_other _ _ _ _ _ _ (by decide),timM_other _ _ _ _ _ _ (by decide),numM_other _ _ _ _ _ _ (by decide),numM_other _ _ _ _ _ _ (by decide),numM_other _ _ _ _ _ _ (by decide),strM_other _ _ _ _ _ _ (by decide),strM_same,strM_other _ _ _ _ _ _ (by decide),strM_other _ _ _ _ _ _ (by decide)]
theorem st_gname : (H.st R).m kGname = if sNeed R H.group 32 kGname then some H.group else none := by
  rw [st_m,timM_other _ _ _ _ _ _ (by decide),timM_other _ _ _ _ _ _ (by decide),timM_other _ _ _ _ _ _ (by decide),numM_other _ _ _ _ _ _ (by decide),numM_other _ _ _ _ _ _ (by decide),numM_other _ _ _ _ _ _ (by decide),strM_same,strM_other _ _ _ _ _ _ (by decide),strM_other _ _ _ _ _ _ (by decide),strM_other _ _ _ _ _ _ (by decide)]
theorem str4 (x : List UInt8) (h1 : x ≠ kPath) (h2 : x ≠ kLink) (h3 : x ≠ kUname) (h4 : x ≠ kGname) : strM (strM (strM (strM (fun _ => none) R H.name 100 kPath) R H.link 100 kLink) R H.user 32 kUname) R H.group 32 kGname x = none := by
  rw [strM_other _ _ _ _ _ _ h4,strM_other _ _ _ _ _ _ h3,strM_other _ _ _ _ _ _ h2,strM_other _ _ _ _ _ _ h1]
theorem st_uid : (H.st R).m kUid = if nNeed R H.uid 8 kUid then some (itoa H.uid) else none := by
  rw [st_m,timM_other _ _ _ _ _ _ (by decide),timM_other _ _ _ _ _ _ (by decide),timM_other _ _ _ _ _ _ (by decide),numM_other _ _ _ _ _ _ (by decide),numM_other _ _ _ _ _ _ (by decide),numM_same,str4 _ _ _ (by decide) (by decide) (by decide) (by decide)]
theorem st_gid : (H.st R).m kGid = if nNeed R H.gid 8 kGid then some (itoa H.gid) else none := by
  rw [st_m,timM_other _ _ _ _ _ _ (by decide),timM_other _ _ _ _ _ _ (by decide),timM_other _ _ _ _ _ _ (by decide),numM_other _ _ _ _ _ _ (by decide),numM_same,numM_other _ _ _ _ _ _ (by decide),str4 _ _ _ (by decide) (by decide) (by decide) (by decide)]
theorem st_size : (H.st R).m kSize = if nNeed R H.size 12 kSize then some (itoa H.size) else none := by
  rw [st_m,timM_other _ _ _ _ _ _ (by decide),timM_other _ _ _ _ _ _ (by decide),timM_other _ _ _ _ _ _ (by decide),numM_same,numM_other _ _ _ _ _ _ (by decide),numM_other _ _ _ _ _ _ (by decide),str4 _ _ _ (by decide) (by decide) (by decide) (by decide)]
theorem num3 (x : List UInt8) (h1 : x ≠ kPath) (h2 : x ≠ kLink) (h3 : x ≠ kUname) (h4 : x ≠ kGname) (h5 : x ≠ kUid) (h6 : x ≠ kGid) (h7 : x ≠ kSize) : (numM (numM (numM (strM (strM (strM (strM (fun _ => none) R H.name 100 kPath) R H.link 100 kLink) R H.user 32 kUname) R H.group 32 kGname) R H.uid 8 kUid) R H.gid 8 kGid) R H.size 12 kSize) x = none := by
  rw [numM_other _ _ _ _ _ _ h7,numM_other _ _ _ _ _ _ h6,numM_other _ _ _ _ _ _ h5,str4 _ _ _ h1 h2 h3 h4]
theorem st_mtime : (H.st R).m kMtime = if tNeed R H.mw H.mx kMtime then some (paxTime (H.mx - 62135596800) H.mw) else none := by
  rw [st_m,timM_other _ _ _ _ _ _ (by decide),timM_other _ _ _ _ _ _ (by decide),timM_same,num3 _ _ _ (by decide) (by decide) (by decide) (by decide) (by decide) (by decide) (by decide)]
theorem st_atime : (H.st R).m kAtime = if tNeed R H.aw H.ax kAtime then some (paxTime (H.ax - 62135596800) H.aw) else none := by
  rw [st_m,timM_other _ _ _ _ _ _ (by decide),timM_same,timM_other _ _ _ _ _ _ (by decide),num3 _ _ _ (by decide) (by decide) (by decide) (by decide) (by decide) (by decide) (by decide)]
theorem st_ctime : (H.st R).m kCtime = if tNeed R H.cw H.cx kCtime then some (paxTime (H.cx - 62135596800) H.cw) else none := by
  rw [st_m,timM_same,timM_other _ _ _ _ _ _ (by decide),timM_other _ _ _ _ _ _ (by decide),num3 _ _ _ (by decide) (by decide) (by decide) (by decide) (by decide) (by decide) (by decide)]
theorem tenKeys_not {x : List UInt8} (h : x ∉ tenKeys) : x ≠ kPath ∧ x ≠ kLink ∧ x ≠ kSize ∧ x ≠ kUid ∧ x ≠ kGid ∧ x ≠ kUname ∧ x ≠ kGname ∧ x ≠ kMtime ∧ x ≠ kAtime ∧ x ≠ kCtime := by
  refine ⟨?_,?_,?_,?_,?_,?_,?_,?_,?_,?_⟩ <;> (intro e; subst e; exact h (by decide))
theorem st_none {x : List UInt8} (h : x ∉ tenKeys) : (H.st R).m x = none := by
  obtain ⟨h1,h2,h3,h4,h5,h6,h7,h8,h9,h0⟩ := tenKeys_not h
  rw [st_m,timM_other _ _ _ _ _ _ h0,timM_other _ _ _ _ _ _ h9,timM_other _ _ _ _ _ _ h8,num3 _ _ _ h1 h2 h6 h7 h4 h5 h3]
def paxP : Pax :=
  ⟨if sNeed R H.name 100 kPath then some H.name else none,if sNeed R H.link 100 kLink then some H.link else none,if sNeed R H.user 32 kUname then some H.user else none,if sNeed R H.group 32 kGname then some H.group else none,
   if nNeed R H.uid 8 kUid then some H.uid else none,if nNeed R H.gid 8 kGid then some H.gid else none,if nNeed R H.size 12 kSize then some H.size else none,
   if tNeed R H.mw H.mx kMtime then some (H.mw,H.mx - 62135596800) else none,if tNeed R H.aw H.ax kAtime then some (H.aw,H.ax - 62135596800) else none,if tNeed R H.cw H.cx kCtime then some (H.cw,H.cx - 62135596800) else none⟩
theorem ite_in {α : Type} {c : Bool} {v : α} {p : α → Prop} (h : p v) : ∀ n ∈ (if c then some v else none),p n := by
  intro n hn
  cases c with
  | false => cases hn
  | true => cases hn; exact h
theorem recM_ten {m R : KV} {typ : Int} (ht : typ ≠ 103) {k : List UInt8} (hk : k ∈ tenKeys) : recM m R typ k = m k := by
  unfold recM
  cases hm : m k with
  | some v => rfl
  | none => simp only; rw [if_neg (by rintro (h | ⟨h,-⟩); exact ht h; exact h hk)]
theorem pax_of (hin : H.InT) (ht : H.typ ≠ 103) : PaxOf (recM (H.st R).m R H.typ) (paxP H R) where
  path := by rw [recM_ten ht (by decide),st_path]; rfl
  link := by rw [recM_ten ht (by decide),st_link]; rfl
  uname := by rw [recM_ten ht (by decide),st_uname]; rfl
  gname := by rw [recM_ten ht (by decide),st_gname]; rfl
  uid := by rw [recM_ten ht (by decide),st_uid]; simp only [paxP]; split <;> rfl
  gid := by rw [recM_ten ht (by decide),st_gid]; simp only [paxP]; split <;> rfl
  size := by rw [recM_ten ht (by decide),st_size]; simp only [paxP]; split <;> rfl
  mtime := by rw [recM_ten ht (by decide),st_mtime]; simp only [paxP]; split <;> rfl
  atime := by rw [recM_ten ht (by decide),st_atime]; simp only [paxP]; split <;> rfl
  ctime := by rw [recM_ten ht (by decide),st_ctime]; simp only [paxP]; split <;> rfl
  uidIn := ite_in hin.uid
  gidIn := ite_in hin.gid
  sizeIn := ite_in hin.size
  mtimeIn := ite_in (show tIn _ from ⟨hin.mw.1,hin.mw.2,hin.mx.1,hin.mx.2⟩)
  atimeIn := ite_in (show tIn _ from ⟨hin.aw.1,hin.aw.2,hin.ax.1,hin.ax.2⟩)
  ctimeIn := ite_in (show tIn _ from ⟨hin.cw.1,hin.cw.2,hin.cx.1,hin.cx.2⟩)
end
def oP (n : Nat) (x : Int) : Nat := if octFits n x then x.toNat else 0
def pV (H : Hd) : RdV := ⟨oP 8 H.mode,oP 8 H.uid,oP 8 H.gid,oP 12 H.size,oP 12 H.sec,oP 8 H.maj,oP 8 H.mnr⟩
theorem oP_lt (n : Nat) (x : Int) : oP n x < 8 ^ (n - 1) := octP_lt n x
theorem oP_fits {n : Nat} {x : Int} (h : octFits n x = true) : ((oP n x : Nat) : Int) = x := by
  rw [oP,if_pos h,Int.toNat_of_nonneg (octFits_nat h).1]
theorem PStr.low {n : Nat} {s f : List UInt8} (h : PStr n s f) : ∀ b ∈ f,b.toNat < 128 := by
  obtain ⟨s2,ha,hf⟩ := h
  exact hf.low ha.2
theorem PStr.back {n : Nat} {s f : List UInt8} (h : PStr n s f) (ha : asciiB s = true) (hl : s.length ≤ n) : cstr f = s := by
  obtain ⟨s2,h2,hf⟩ := h
  rw [h2.1 ha] at hf
  exact cstr_fmt hf (asciiB_nz ha) hl
theorem PBlk.rdf {H : Hd} {B : Blk} (h : PBlk H B) (ht : 0 ≤ H.typ ∧ H.typ < 128) : RdF B (pV H) := by
  have on : ∀ {x : Int} {f : List UInt8},f = octP 8 x → NumO f (oP 8 x) ∧ f[7]? = some 0 := fun h2 => by
    have h3 := oP_lt 8
    rw [h2]; exact ⟨NumO.field 8 _ (by omega) (by omega) (h3 _),octField_last 8 _ (by omega) (h3 _)⟩
  refine mk_rdf (pV H) h.ok H.typ ht h.typ h.name.low h.link.low h.user.low h.group.low ?_ ⟨h.mode,oP_lt 8 _⟩ ⟨h.uid,oP_lt 8 _⟩ ⟨h.gid,oP_lt 8 _⟩ ⟨h.size,oP_lt 12 _⟩ ⟨h.mtime,oP_lt 12 _⟩ (on h.maj) (on h.mnr) h.magic h.ver h.chk ?_
  · intro b hb
    rw [h.rest] at hb
    rw [List.eq_of_mem_replicate hb]; decide
  · rw [h.rest]; decide
theorem PBlk.rdname {H : Hd} {B : Blk} (h : PBlk H B) : rdName B = cstr B.name := by
  have : rdPre B = [] := by rw [rdPre,h.rest,List.take_replicate]; exact cstr_zeros _
  rw [rdName,this,if_pos rfl]
theorem sNeed_false {R : KV} {s : List UInt8} {sz : Nat} {key : List UInt8} (h : sNeed R s sz key = false) : asciiB s = true ∧ s.length ≤ sz := by
  simp only [sNeed,Bool.or_eq_false_iff,Bool.not_eq_false',decide_eq_false_iff_not] at h
  exact ⟨h.1.1,by omega⟩
theorem nNeed_false {R : KV} {x : Int} {n : Nat} {key : List UInt8} (h : nNeed R x n key = false) : octFits n x = true := by
  simp only [nNeed,Bool.or_eq_false_iff,Bool.not_eq_false'] at h
  exact h.1
theorem tZero_iff {n x : Int} (h : tZero n x = true) : n = 0 ∧ x = 0 := by simpa [tZero] using h
theorem tNeed_false {R : KV} {n x : Int} {key : List UInt8} (h : tNeed R n x key = false) (hk : key ≠ kMtime) : n = 0 ∧ x = 0 := by
  simp only [tNeed,timNeed,decide_eq_false hk,Bool.not_false,Bool.true_or,Bool.and_true,Bool.not_eq_false'] at h
  exact tZero_iff h
theorem tNeed_mtime {R : KV} {n x : Int} (h : tNeed R n x kMtime = false) (hz : tZero n x = false) : n = 0 ∧ octFits 12 (x - 62135596800) = true := by
  simp only [tNeed,timNeed,hz,Bool.not_false,Bool.true_and,Bool.or_eq_false_iff,decide_true,Bool.not_true,Bool.false_or,Bool.not_eq_false',decide_eq_true_eq] at h
  exact ⟨h.1.2,h.1.1⟩
theorem some_str (c : Bool) (s a b : List UInt8) (h : c = false → a = b) (hs : s = b) : (if (if c then some s else none : Option (List UInt8)).isSome then (if c then some s else none : Option (List UInt8)).getD a else a) = b := by
  cases c with
  | false => simpa using h rfl
  | true => simpa using hs
theorem some_int (c : Bool) (x a b : Int) (s : List UInt8) (h : c = false → a = b) (hs : x = b) : (if (if c then some s else none : Option (List UInt8)).isSome then (if c then some x else none : Option Int).getD a else a) = b := by
  cases c with
  | false => simpa using h rfl
  | true => simpa using hs
theorem some_tim (c : Bool) (t : Int × Int) (f : Int × Int → Int) (a b : Int) (s : List UInt8) (h : c = false → a = b) (hs : f t = b) : (if (if c then some s else none : Option (List UInt8)).isSome then ((if c then some t else none : Option (Int × Int)).map f).getD a else a) = b := by
  cases c with
  | false => simpa using h rfl
  | true => simpa using hs
theorem PBlk.back {H : Hd} {B : Blk} (h : PBlk H B) (R : KV) (ht : 48 ≤ H.typ ∧ H.typ ≤ 55) (hp1 : octFits 8 H.mode = true) (hp2 : octFits 8 H.maj = true) (hp3 : octFits 8 H.mnr = true) (hz : tZero H.mw H.mx = false) :
    mrg (rdHd B (pV H)) (paxP H R) (fun k => (recM (H.st R).m R H.typ k).isSome) = { H with xattr := .map none,recs := .map none,fmt := 6 } := by
  have h103 : H.typ ≠ 103 := by omega
  have e1 : rdTyp B = H.typ := by rw [rdTyp,h.typ]; exact typ_back _ (by omega)
  rw [mrg_ext (rdHd B (pV H)) (paxP H R) (fun k => ((H.st R).m k).isSome) _ (fun k hk => by rw [recM_ten h103 hk])]
  have a1 := some_str (sNeed R H.name 100 kPath) H.name (rdName B) H.name (fun e => by
    have := sNeed_false e
    rw [h.rdname]; exact h.name.back this.1 this.2) rfl
  have a2 := some_str (sNeed R H.link 100 kLink) H.link (cstr B.link) H.link (fun e => h.link.back (sNeed_false e).1 (sNeed_false e).2) rfl
  have a3 := some_str (sNeed R H.user 32 kUname) H.user (cstr B.user) H.user (fun e => h.user.back (sNeed_false e).1 (sNeed_false e).2) rfl
  have a4 := some_str (sNeed R H.group 32 kGname) H.group (cstr B.group) H.group (fun e => h.group.back (sNeed_false e).1 (sNeed_false e).2) rfl
  have a5 := some_int (nNeed R H.uid 8 kUid) H.uid (oP 8 H.uid) H.uid (itoa H.uid) (fun e => oP_fits (nNeed_false e)) rfl
  have a6 := some_int (nNeed R H.gid 8 kGid) H.gid (oP 8 H.gid) H.gid (itoa H.gid) (fun e => oP_fits (nNeed_false e)) rfl
  have a7 := some_int (nNeed R H.size 12 kSize) H.size (oP 12 H.size) H.size (itoa H.size) (fun e => oP_fits (nNeed_false e)) rfl
  have hsec : H.sec = H.mx - 62135596800 := by rw [Hd.sec,hz]; rfl
  have a8 := some_tim (tNeed R H.mw H.mx kMtime) (H.mw,H.mx - 62135596800) (·.1) 0 H.mw (paxTime (H.mx - 62135596800) H.mw) (fun e => (tNeed_mtime e hz).1.symm) rfl
  have a9 := some_tim (tNeed R H.mw H.mx kMtime) (H.mw,H.mx - 62135596800) (fun t => t.2 + 62135596800) ((oP 12 H.sec : Nat) + 62135596800) H.mx (paxTime (H.mx - 62135596800) H.mw) (fun e => by
    rw [hsec,oP_fits (tNeed_mtime e hz).2]; omega) (by show H.mx - 62135596800 + 62135596800 = H.mx; omega)
  have b8 := some_tim (tNeed R H.aw H.ax kAtime) (H.aw,H.ax - 62135596800) (·.1) 0 H.aw (paxTime (H.ax - 62135596800) H.aw) (fun e => (tNeed_false e (by decide)).1.symm) rfl
  have b9 := some_tim (tNeed R H.aw H.ax kAtime) (H.aw,H.ax - 62135596800) (fun t => t.2 + 62135596800) 0 H.ax (paxTime (H.ax - 62135596800) H.aw) (fun e => (tNeed_false e (by decide)).2.symm) (by show H.ax - 62135596800 + 62135596800 = H.ax; omega)
  have c8 := some_tim (tNeed R H.cw H.cx kCtime) (H.cw,H.cx - 62135596800) (·.1) 0 H.cw (paxTime (H.cx - 62135596800) H.cw) (fun e => (tNeed_false e (by decide)).1.symm) rfl
  have c9 := some_tim (tNeed R H.cw H.cx kCtime) (H.cw,H.cx - 62135596800) (fun t => t.2 + 62135596800) 0 H.cx (paxTime (H.cx - 62135596800) H.cw) (fun e => (tNeed_false e (by decide)).2.symm) (by show H.cx - 62135596800 + 62135596800 = H.cx; omega)
  simp only [mrg,rdHd,rdHd1,Hd.nil,pV,st_path,st_link,st_uname,st_gname,st_uid,st_gid,st_size,st_mtime,st_atime,st_ctime,paxP]
  simp only [a1,a2,a3,a4,a5,a6,a7,a8,a9,b8,b9,c8,c9,e1,oP_fits hp1,oP_fits hp2,oP_fits hp3]
theorem RBlk.rdf {flag : Int} {n : Nat} {B : Blk} (h : RBlk flag n B) (ht : 0 ≤ flag ∧ flag < 128) (hn : n < 8 ^ 11) : RdF B ⟨0,0,0,n,0,0,0⟩ := by
  obtain ⟨nm,ha,hf⟩ := h.name
  have z : ∀ (k : Nat),∀ b ∈ (List.replicate k 0 : List UInt8),b.toNat < 128 := fun k b hb => by rw [List.eq_of_mem_replicate hb]; decide
  refine mk_rdf ⟨0,0,0,n,0,0,0⟩ h.ok flag ht h.typ (hf.low ha) ?_ ?_ ?_ ?_ ⟨h.mode,Nat.pow_pos (by omega)⟩ ⟨h.uid,Nat.pow_pos (by omega)⟩ ⟨h.gid,Nat.pow_pos (by omega)⟩ ⟨h.size,hn⟩ ⟨h.mtime,Nat.pow_pos (by omega)⟩ ⟨?_,?_⟩ ⟨?_,?_⟩ h.magic h.ver h.chk ?_
  · rw [h.link]; exact z _
  · rw [h.user]; exact z _
  · rw [h.group]; exact z _
  · rw [h.rest]; exact z _
  · rw [h.maj]; exact NumO.zero 8
  · rw [h.maj]; rfl
  · rw [h.mnr]; exact NumO.zero 8
  · rw [h.mnr]; rfl
  · rw [h.rest]; decide
theorem RBlk.typ_back {flag : Int} {n : Nat} {B : Blk} (h : RBlk flag n B) (ht : 0 ≤ flag ∧ flag < 128) : rdTyp B = flag := by
  rw [rdTyp,h.typ]; exact Go.Proofs.YtkanmkcojlefbaaGreatDoor.typ_back _ (by omega)
theorem strU_true {u : Bool} {s : List UInt8} {sz : Nat} {key : List UInt8} (h : strU u s sz key = true) (hk : key ≠ kPath) : u = true ∧ asciiB s = true ∧ s.length ≤ sz := by
  unfold strU at h
  rw [decide_eq_false hk] at h
  cases ha : asciiB s <;> by_cases hl : sz < s.length <;> simp_all <;> omega
theorem strU_path {u : Bool} {s : List UInt8} {sz : Nat} (h : strU u s sz kPath = true) : u = true ∧ asciiB s = true ∧ (s.length ≤ sz ∨ splitB s = true) := by
  unfold strU at h
  rw [decide_eq_true (rfl : kPath = kPath)] at h
  have hsp : splitB s = true → asciiB s = true := fun e => by
    simp only [splitB,Bool.and_eq_true] at e; exact e.1.2
  cases ha : asciiB s <;> by_cases hl : sz < s.length <;> cases hs : splitB s <;> simp_all <;> omega
theorem timU_other {u : Bool} {n x : Int} {key : List UInt8} (h : timU u n x key = true) (hk : key ≠ kMtime) : u = true ∧ n = 0 ∧ x = 0 := by
  unfold timU at h
  rw [decide_eq_false hk] at h
  split at h
  · rename_i hz; exact ⟨h,tZero_iff hz⟩
  · simp at h
theorem timU_mtime {u : Bool} {n x : Int} (h : timU u n x kMtime = true) : u = true ∧ (tZero n x = true ∨ octFits 12 (x - 62135596800) = true) := by
  unfold timU at h
  split at h
  · rename_i hz; exact ⟨h,.inl hz⟩
  · simp only [Bool.and_eq_true] at h; exact ⟨h.1,.inr h.2.2⟩
section
variable (H : Hd) (R : KV)
theorem st_u : (H.st R).u = timU (timU (timU ((((((strU (strU (strU (strU true H.name 100 kPath) H.link 100 kLink) H.user 32 kUname) H.group 32 kGname && octFits 8 H.mode) && octFits 8 H.uid) && octFits 8 H.gid) && octFits 12 H.size) && octFits 8 H.maj) && octFits 8 H.mnr) H.mw H.mx kMtime) H.aw H.ax kAtime) H.cw H.cx kCtime := rfl
theorem st_p : (H.st R).p = ((octFits 8 H.mode && octFits 8 H.maj) && octFits 8 H.mnr) := by
  show (((true && octFits 8 H.mode) && octFits 8 H.maj) && octFits 8 H.mnr) = _
  rw [Bool.true_and]
theorem st_q : (H.st R).q = timQ (timQ (timQ false H.mw H.mx kMtime) H.aw H.ax kAtime) H.cw H.cx kCtime := rfl
theorem u_fits (h : (H.st R).u = true) : UFits H ∧ AscH H ∧ H.aw = 0 ∧ H.ax = 0 ∧ H.cw = 0 ∧ H.cx = 0 := by
  rw [st_u] at h
  obtain ⟨h,c1,c2⟩ := timU_other h (by decide)
  obtain ⟨h,a1,a2⟩ := timU_other h (by decide)
  obtain ⟨h,hm⟩ := timU_mtime h
  simp only [Bool.and_eq_true] at h
  obtain ⟨⟨⟨⟨⟨⟨h,n1⟩,n2⟩,n3⟩,n4⟩,n5⟩,n6⟩ := h
  obtain ⟨h,g1,g2⟩ := strU_true h (by decide)
  obtain ⟨h,u1,u2⟩ := strU_true h (by decide)
  obtain ⟨h,l1,l2⟩ := strU_true h (by decide)
  obtain ⟨-,p1,p2⟩ := strU_path h
  refine ⟨⟨?_,?_,l2,u2,g2,n1,n2,n3,n4,?_,n5,n6⟩,⟨p1,l1,u1,g1⟩,a1,a2,c1,c2⟩
  · unfold splitN
    split
    · rename_i hs
      simp only [splitB,Bool.and_eq_true,decide_eq_true_eq] at hs
      rw [List.length_drop]; omega
    · rename_i hs
      rcases p2 with h | h
      · exact h
      · exact absurd h hs
  · unfold splitP
    split
    · rename_i hs
      simp only [splitB,Bool.and_eq_true,decide_eq_true_eq] at hs
      rw [List.length_take]; omega
    · simp
  · unfold Hd.sec
    rcases hm with h | h
    · rw [h,if_pos rfl]; decide
    · split
      · decide
      · exact h
theorem q_false (h : (H.st R).q = false) (hz : tZero H.mw H.mx = false) : H.mw = 0 := by
  rw [st_q] at h
  have t : ∀ {q n x key},timQ q n x key = false → q = false := fun {q n x key} h => by
    unfold timQ at h
    split at h
    · exact h
    · simp only [Bool.or_eq_false_iff] at h; exact h.1
  have h := t (t h)
  simp only [timQ,hz,Bool.false_or,timNeed,decide_true,Bool.not_true] at h
  simp at h
  exact h.2
end
structure HG (H : Hd) (R : KV) : Prop where
  inT : H.InT
  ty : 48 ≤ H.typ ∧ H.typ ≤ 55
  sl : slashEnd H.name = true → H.typ = 53
  size : 0 ≤ H.size
  xa : H.xattr = .map none
  zn : (0 : UInt8) ∉ H.name
  zl : (0 : UInt8) ∉ H.link
  zu : (0 : UInt8) ∉ H.user
  zg : (0 : UInt8) ∉ H.group
  fmt : H.fmt = 0 ∨ H.fmt = 2 ∨ H.fmt = 4
  tz : tZero H.mw H.mx = false
  mw : H.fmt ≠ 4 → H.mw = 0
  r0 : R [] = none
  rne : ∀ k v,R k = some v → v ≠ []
  rval : ∀ k v,R k = some v → k ∉ tenKeys → validRec k v = true ∧ k.length ≤ 1048576 ∧ v.length ≤ 1048576 ∧ hasPrefix k [83,67,72,73,76,89,46,120,97,116,116,114,46] = false ∧ hasPrefix k [71,78,85,46,115,112,97,114,115,101,46] = false
  sum : ∀ L : List (List UInt8 × List UInt8),(L.map (·.1)).Nodup → (∀ p ∈ L,R p.1 = some p.2 ∧ p.1 ∉ tenKeys) → (recsB L).length + H.name.length + H.link.length + H.user.length + H.group.length ≤ 524288
theorem itoa_ne (n : Int) : itoa n ≠ [] := by
  unfold itoa
  split
  · exact List.cons_ne_nil _ _
  · exact dec_ne _
theorem paxTime_ne (s n : Int) : paxTime s n ≠ [] := by
  unfold paxTime
  split
  · exact itoa_ne s
  · split
    · intro e
      have := trimR_stop [] (itoa (-(s + 1)) ++ 46::nineB (1000000000 - n).toNat) 45 48 (by decide)
      rw [List.nil_append] at this
      rw [this] at e; cases e
    · intro e
      have := trimR_stop (itoa s) (nineB n.toNat) 46 48 (by decide)
      rw [this] at e
      exact absurd e (by simp)
section
variable {H : Hd} {R : KV}
theorem st_val {k v : List UInt8} (h : (H.st R).m k = some v) : (k = kPath ∧ v = H.name ∧ sNeed R H.name 100 kPath = true) ∨ (k = kLink ∧ v = H.link ∧ sNeed R H.link 100 kLink = true) ∨ (k = kUname ∧ v = H.user ∧ sNeed R H.user 32 kUname = true) ∨ (k = kGname ∧ v = H.group ∧ sNeed R H.group 32 kGname = true) ∨
    (k = kUid ∧ v = itoa H.uid) ∨ (k = kGid ∧ v = itoa H.gid) ∨ (k = kSize ∧ v = itoa H.size) ∨ (k = kMtime ∧ v = paxTime (H.mx - 62135596800) H.mw) ∨ (k = kAtime ∧ v = paxTime (H.ax - 62135596800) H.aw) ∨ (k = kCtime ∧ v = paxTime (H.cx - 62135596800) H.cw) := by
  have hk : k ∈ tenKeys := by
    by_cases hk : k ∈ tenKeys
    · exact hk
    · rw [st_none H R hk] at h; cases h
  have tk : ∀ {c : Bool} {s v : List UInt8},(if c then some s else none) = some v → v = s ∧ c = true := fun {c s v} e => by
    cases c with
    | false => cases e
    | true => cases e; exact ⟨rfl,rfl⟩
  simp only [tenKeys,List.mem_cons,List.not_mem_nil,or_false] at hk
  rcases hk with rfl | rfl | rfl | rfl | rfl | rfl | rfl | rfl | rfl | rfl
  · rw [st_path] at h; exact .inl ⟨rfl,tk h⟩
  · rw [st_link] at h; exact .inr (.inl ⟨rfl,tk h⟩)
  · rw [st_size] at h; have := tk h; simp [this.1]
  · rw [st_uid] at h; have := tk h; simp [this.1]
  · rw [st_gid] at h; have := tk h; simp [this.1]
  · rw [st_uname] at h; exact .inr (.inr (.inl ⟨rfl,tk h⟩))
  · rw [st_gname] at h; exact .inr (.inr (.inr (.inl ⟨rfl,tk h⟩)))
  · rw [st_mtime] at h; have := tk h; simp [this.1]
  · rw [st_atime] at h; have := tk h; simp [this.1]
  · rw [st_ctime] at h; have := tk h; simp [this.1]
theorem sNeed_ne {s : List UInt8} {sz : Nat} {key : List UInt8} (h : sNeed R s sz key = true) (hr : ∀ k v,R k = some v → v ≠ []) : s ≠ [] := by
  rintro rfl
  have ha : asciiB ([] : List UInt8) = true := rfl
  simp only [sNeed,ha,Bool.not_true,Bool.false_or,List.length_nil,Nat.not_lt_zero,decide_false,decide_eq_true_eq] at h
  exact hr _ _ h rfl
theorem recM_some {m R : KV} {typ : Int} {k v : List UInt8} (ht : typ ≠ 103) (h : recM m R typ k = some v) : m k = some v ∨ (m k = none ∧ k ∉ tenKeys ∧ R k = some v) := by
  unfold recM at h
  cases hm : m k with
  | some u => rw [hm] at h; exact .inl h
  | none =>
    rw [hm] at h
    simp only at h
    split at h
    · rename_i hc
      rcases hc with hc | ⟨hc,-⟩
      · exact absurd hc ht
      · exact .inr ⟨rfl,hc,h⟩
    · cases h
theorem HG.val (g : HG H R) (k v : List UInt8) (h : recM (H.st R).m R H.typ k = some v) : validRec k v = true ∧ k.length ≤ 1048576 ∧ v.length ≤ 1048576 := by
  have ht : H.typ ≠ 103 := by have := g.ty; omega
  have hi := g.inT
  rcases recM_some ht h with h | ⟨-,hk,h⟩
  · have z : ∀ {s : List UInt8},(0 : UInt8) ∉ s → (!decide ((0 : UInt8) ∈ s)) = true := fun h => by simp [h]
    have d1 : ∀ s : List UInt8,(0 : UInt8) ∉ s → validRec kPath s = true ∧ validRec kLink s = true ∧ validRec kUname s = true ∧ validRec kGname s = true := fun s hs => by
      refine ⟨?_,?_,?_,?_⟩ <;> (unfold validRec; rw [if_pos (by decide),z hs]; decide)
    have d2 : ∀ s : List UInt8,validRec kUid s = true ∧ validRec kGid s = true ∧ validRec kSize s = true ∧ validRec kMtime s = true ∧ validRec kAtime s = true ∧ validRec kCtime s = true := fun s => by
      refine ⟨?_,?_,?_,?_,?_,?_⟩ <;> (unfold validRec; rw [if_neg (by decide)]; decide)
    have i1 := itoa_len H.uid hi.uid
    have i2 := itoa_len H.gid hi.gid
    have i3 := itoa_len H.size hi.size
    have t1 := paxTime_len (H.mx - 62135596800) H.mw hi.mw.1 hi.mw.2 hi.mx
    have t2 := paxTime_len (H.ax - 62135596800) H.aw hi.aw.1 hi.aw.2 hi.ax
    have t3 := paxTime_len (H.cx - 62135596800) H.cw hi.cw.1 hi.cw.2 hi.cx
    rcases st_val h with ⟨rfl,rfl,-⟩ | ⟨rfl,rfl,-⟩ | ⟨rfl,rfl,-⟩ | ⟨rfl,rfl,-⟩ | ⟨rfl,rfl⟩ | ⟨rfl,rfl⟩ | ⟨rfl,rfl⟩ | ⟨rfl,rfl⟩ | ⟨rfl,rfl⟩ | ⟨rfl,rfl⟩
    · exact ⟨(d1 _ g.zn).1,by decide,hi.name⟩
    · exact ⟨(d1 _ g.zl).2.1,by decide,hi.link⟩
    · exact ⟨(d1 _ g.zu).2.2.1,by decide,hi.user⟩
    · exact ⟨(d1 _ g.zg).2.2.2,by decide,hi.group⟩
    · exact ⟨(d2 _).1,by decide,by omega⟩
    · exact ⟨(d2 _).2.1,by decide,by omega⟩
    · exact ⟨(d2 _).2.2.1,by decide,by omega⟩
    · exact ⟨(d2 _).2.2.2.1,by decide,by omega⟩
    · exact ⟨(d2 _).2.2.2.2.1,by decide,by omega⟩
    · exact ⟨(d2 _).2.2.2.2.2,by decide,by omega⟩
  · have := g.rval k v h hk
    exact ⟨this.1,this.2.1,this.2.2.1⟩
theorem HG.mok (g : HG H R) : MOk (recM (H.st R).m R H.typ) (paxP H R) where
  toPaxOf := pax_of H R g.inT (by have := g.ty; omega)
  ne := fun k v h => by
    rcases recM_some (by have := g.ty; omega) h with h | ⟨-,hk,h⟩
    · rcases st_val h with ⟨rfl,rfl,hn⟩ | ⟨rfl,rfl,hn⟩ | ⟨rfl,rfl,hn⟩ | ⟨rfl,rfl,hn⟩ | ⟨rfl,rfl⟩ | ⟨rfl,rfl⟩ | ⟨rfl,rfl⟩ | ⟨rfl,rfl⟩ | ⟨rfl,rfl⟩ | ⟨rfl,rfl⟩
      · exact sNeed_ne hn g.rne
      · exact sNeed_ne hn g.rne
      · exact sNeed_ne hn g.rne
      · exact sNeed_ne hn g.rne
      all_goals first | exact itoa_ne _ | exact paxTime_ne _ _
    · exact g.rne k v h
  sch := fun k v h => by
    rcases recM_some (by have := g.ty; omega) h with h | ⟨-,hk,h⟩
    · rcases st_val h with ⟨rfl,-⟩ | ⟨rfl,-⟩ | ⟨rfl,-⟩ | ⟨rfl,-⟩ | ⟨rfl,-⟩ | ⟨rfl,-⟩ | ⟨rfl,-⟩ | ⟨rfl,-⟩ | ⟨rfl,-⟩ | ⟨rfl,-⟩ <;> decide
    · exact (g.rval k v h hk).2.2.2.1
  len := fun k v h => (g.val k v h).2.2
theorem recsB_sum (F : List UInt8 → Nat) : ∀ (L : List (List UInt8 × List UInt8)) (K : List (List UInt8)),(L.map (·.1)).Nodup → (∀ p ∈ L,p.1 ∈ K ∧ recLen p.1 p.2 ≤ F p.1) → (recsB L).length ≤ (K.map F).sum := by
  intro L
  induction L with
  | nil => intro K _ _; exact Nat.zero_le _
  | cons p L ih =>
    intro K hn h
    rw [List.map_cons,List.nodup_cons] at hn
    have hp := h p (by simp)
    have := ih (K.erase p.1) hn.2 (fun q hq => ⟨(List.mem_erase_of_ne (fun e => hn.1 (by rw [← e]; exact List.mem_map.2 ⟨q,hq,rfl⟩))).2 (h q (by simp [hq])).1,(h q (by simp [hq])).2⟩)
    have hs := ((List.perm_cons_erase hp.1).map F).sum_nat
    rw [List.map_cons,List.sum_cons] at hs
    rw [recsB_cons,List.length_append,recB_length]
    omega
theorem recsB_part (p : List UInt8 × List UInt8 → Bool) (L : List (List UInt8 × List UInt8)) : (recsB L).length = (recsB (L.filter p)).length + (recsB (L.filter fun q => !p q)).length := by
  induction L with
  | nil => rfl
  | cons q L ih =>
    rw [recsB_cons,List.length_append,ih]
    cases hp : p q <;> simp [hp,recsB_cons] <;> omega
theorem HG.total (g : HG H R) (L : List (List UInt8 × List UInt8)) (hn : (L.map (·.1)).Nodup) (h : ∀ p ∈ L,recM (H.st R).m R H.typ p.1 = some p.2) : (recsB L).length ≤ 1048576 := by
  have hi := g.inT
  have ht : H.typ ≠ 103 := by have := g.ty; omega
  rw [recsB_part (fun p => decide (p.1 ∈ tenKeys)) L]
  have h2 := g.sum (L.filter fun q => !decide (q.1 ∈ tenKeys)) ((List.filter_sublist.map _).nodup hn) (fun p hp => by
    obtain ⟨hp,hk⟩ := List.mem_filter.1 hp
    have hk : p.1 ∉ tenKeys := by simpa using hk
    rcases recM_some ht (h p hp) with h | ⟨-,-,h⟩
    · rw [st_none H R hk] at h; cases h
    · exact ⟨h,hk⟩)
  have h0 := g.sum [] (by simp) (by simp)
  have h1 := recsB_sum (fun k => recLen k (((H.st R).m k).getD [])) (L.filter fun p => decide (p.1 ∈ tenKeys)) tenKeys ((List.filter_sublist.map _).nodup hn) (fun p hp => by
    obtain ⟨hp,hk⟩ := List.mem_filter.1 hp
    have hk : p.1 ∈ tenKeys := by simpa using hk
    rcases recM_some ht (h p hp) with h | ⟨-,hk2,-⟩
    · exact ⟨hk,by rw [h]; exact Nat.le_refl _⟩
    · exact absurd hk hk2)
  have i1 := itoa_len H.uid hi.uid
  have i2 := itoa_len H.gid hi.gid
  have i3 := itoa_len H.size hi.size
  have t1 := paxTime_len (H.mx - 62135596800) H.mw hi.mw.1 hi.mw.2 hi.mx
  have t2 := paxTime_len (H.ax - 62135596800) H.aw hi.aw.1 hi.aw.2 hi.ax
  have t3 := paxTime_len (H.cx - 62135596800) H.cw hi.cw.1 hi.cw.2 hi.cx
  generalize (recsB (List.filter (fun p => decide (p.1 ∈ tenKeys)) L)).length = y at h1 ⊢
  have gd : ∀ (c : Bool) (s : List UInt8) (k : List UInt8) (b : Nat),s.length ≤ b → b ≤ 1000000 → k.length ≤ 8 → recLen k ((if c then some s else none : Option (List UInt8)).getD []) ≤ b + 22 := fun c s k b hs hb hk => by
    have h1 : ((if c then some s else none : Option (List UInt8)).getD []).length ≤ b := by
      cases c with
      | false => exact Nat.zero_le _
      | true => exact hs
    have := recLen_le k ((if c then some s else none : Option (List UInt8)).getD []) (by omega)
    omega
  simp only [tenKeys,List.map_cons,List.map_nil,List.sum_cons,List.sum_nil,st_path,st_link,st_size,st_uid,st_gid,st_uname,st_gname,st_mtime,st_atime,st_ctime] at h1
  have hz : (recsB ([] : List (List UInt8 × List UInt8))).length = 0 := rfl
  have g1 := gd (sNeed R H.name 100 kPath) H.name kPath _ (Nat.le_refl _) (by omega) (by decide)
  have g2 := gd (sNeed R H.link 100 kLink) H.link kLink _ (Nat.le_refl _) (by omega) (by decide)
  have g3 := gd (nNeed R H.size 12 kSize) (itoa H.size) kSize _ i3 (by omega) (by decide)
  have g4 := gd (nNeed R H.uid 8 kUid) (itoa H.uid) kUid _ i1 (by omega) (by decide)
  have g5 := gd (nNeed R H.gid 8 kGid) (itoa H.gid) kGid _ i2 (by omega) (by decide)
  have g6 := gd (sNeed R H.user 32 kUname) H.user kUname _ (Nat.le_refl _) (by omega) (by decide)
  have g7 := gd (sNeed R H.group 32 kGname) H.group kGname _ (Nat.le_refl _) (by omega) (by decide)
  have g8 := gd (tNeed R H.mw H.mx kMtime) (paxTime (H.mx - 62135596800) H.mw) kMtime _ t1 (by omega) (by decide)
  have g9 := gd (tNeed R H.aw H.ax kAtime) (paxTime (H.ax - 62135596800) H.aw) kAtime _ t2 (by omega) (by decide)
  have g0 := gd (tNeed R H.cw H.cx kCtime) (paxTime (H.cx - 62135596800) H.cw) kCtime _ t3 (by omega) (by decide)
  omega
def fOf (H : Hd) (R : KV) (hasR : Bool) : Bool × Bool × Bool := finF ((H.st R).u && !hasR) (H.st R).p ((H.st R).g && !hasR) (H.st R).q H.fmt
theorem fOf_u (g : HG H R) (hasR : Bool) (h : (fOf H R hasR).1 = true) : (H.st R).u = true ∧ hasR = false ∧ H.mw = 0 := by
  unfold fOf finF at h
  split at h
  · rename_i hf
    simp only [Bool.and_eq_true,Bool.not_eq_true'] at h
    exact ⟨h.1,h.2,g.mw (by omega)⟩
  · split at h
    · rename_i hf
      simp only [Bool.and_eq_true,Bool.not_eq_true'] at h
      exact ⟨h.1,h.2,g.mw (by omega)⟩
    · split at h
      · simp only [Bool.and_eq_true,Bool.not_eq_true'] at h
        exact ⟨h.1.1,h.1.2,q_false H R h.2 g.tz⟩
      · cases h
theorem HG.hok (g : HG H R) (hasR : Bool) (h0 : hasR = false → ∀ k,R k = none) (h1 : hasR = true → ∃ k,R k ≠ none) (hup : (fOf H R hasR).1 = true ∨ (fOf H R hasR).2.1 = true) : HOk H R hasR (fOf H R hasR) (recM (H.st R).m R H.typ) where
  inT := g.inT
  r0 := g.r0
  ty := g.ty
  sl := fun h => .inr (.inr (.inl (g.sl h)))
  sz := .inr g.size
  xa := g.xa
  h0 := h0
  h1 := h1
  fmt := by have := g.fmt; omega
  fe := rfl
  me := rfl
  up := hup
  uf := fun h => (u_fits H R (fOf_u g hasR h).1).1
  nl := by have := g.sum [] (by simp) (by simp); omega
  val := g.val
  sum := g.total
end
end Go.Proofs.YtkanmkcojlefbaaGreatDoor
