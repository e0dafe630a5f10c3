/-
  Part of the proof; holds the texts Rfmt, Nm, RHs, RH2.
-/
import Derived.Test.YtkanmkcojlefbaaGreatDoorM20
import Derived.Test.YtkanmkcojlefbaaGreatDoorM07
import Derived.Test.YtkanmkcojlefbaaGreatDoorM08
import Derived.Test.YtkanmkcojlefbaaGreatDoorM02
set_option maxRecDepth 100000
set_option linter.unusedSimpArgs false
set_option linter.unusedVariables false
namespace Go.Proofs.YtkanmkcojlefbaaGreatDoor
open Go.RowKit
theorem At.mid {w : World} {g o : Nat} {a f c : List UInt8} (h : At w g o (Lib.byteCells (a ++ (f ++ c)))) : At w g (o + a.length) (Lib.byteCells f) := by
  have h1 := (h.drop a.length).take f.length
  have e : ((Lib.byteCells (a ++ (f ++ c))).drop a.length).take f.length = Lib.byteCells f := by
    rw [Lib.byteCells_append,Lib.byteCells_append]
    rw [show a.length = (Lib.byteCells a).length by rw [Lib.byteCells_length],List.drop_left]
    rw [show f.length = (Lib.byteCells f).length by rw [Lib.byteCells_length],List.take_left]
  rwa [e] at h1
theorem At.get_name {w : World} {g o : Nat} {B : Blk} (hok : B.Ok) (h : At w g o (Lib.byteCells B.bytes)) : At w g (o + 0) (Lib.byteCells B.name) := by
  have := At.mid (a := B.bef_name) (f := B.name) (c := B.aft_name) (by rw [← Blk.at_name]; exact h)
  rwa [hok.bef_name] at this
theorem At.get_mode {w : World} {g o : Nat} {B : Blk} (hok : B.Ok) (h : At w g o (Lib.byteCells B.bytes)) : At w g (o + 100) (Lib.byteCells B.mode) := by
  have := At.mid (a := B.bef_mode) (f := B.mode) (c := B.aft_mode) (by rw [← Blk.at_mode]; exact h)
  rwa [hok.bef_mode] at this
theorem At.get_uid {w : World} {g o : Nat} {B : Blk} (hok : B.Ok) (h : At w g o (Lib.byteCells B.bytes)) : At w g (o + 108) (Lib.byteCells B.uid) := by
  have := At.mid (a := B.bef_uid) (f := B.uid) (c := B.aft_uid) (by rw [← Blk.at_uid]; exact h)
  rwa [hok.bef_uid] at this
theorem At.get_gid {w : World} {g o : Nat} {B : Blk} (hok : B.Ok) (h : At w g o (Lib.byteCells B.bytes)) : At w g (o + 116) (Lib.byteCells B.gid) := by
  have := At.mid (a := B.bef_gid) (f := B.gid) (c := B.aft_gid) (by rw [← Blk.at_gid]; exact h)
  rwa [hok.bef_gid] at this
theorem At.get_size {w : World} {g o : Nat} {B : Blk} (hok : B.Ok) (h : At w g o (Lib.byteCells B.bytes)) : At w g (o + 124) (Lib.byteCells B.size) := by
  have := At.mid (a := B.bef_size) (f := B.size) (c := B.aft_size) (by rw [← Blk.at_size]; exact h)
  rwa [hok.bef_size] at this
theorem At.get_mtime {w : World} {g o : Nat} {B : Blk} (hok : B.Ok) (h : At w g o (Lib.byteCells B.bytes)) : At w g (o + 136) (Lib.byteCells B.mtime) := by
  have := At.mid (a := B.bef_mtime) (f := B.mtime) (c := B.aft_mtime) (by rw [← Blk.at_mtime]; exact h)
  rwa [hok.bef_mtime] at this
theorem At.get_chk {w : World} {g o : Nat} {B : Blk} (hok : B.Ok) (h : At w g o (Lib.byteCells B.bytes)) : At w g (o + 148) (Lib.byteCells B.chk) := by
  have := At.mid (a := B.bef_chk) (f := B.chk) (c := B.aft_chk) (by rw [← Blk.at_chk]; exact h)
  rwa [hok.bef_chk] at this
theorem At.get_typ {w : World} {g o : Nat} {B : Blk} (hok : B.Ok) (h : At w g o (Lib.byteCells B.bytes)) : At w g (o + 156) (Lib.byteCells B.typ) := by
  have := At.mid (a := B.bef_typ) (f := B.typ) (c := B.aft_typ) (by rw [← Blk.at_typ]; exact h)
  rwa [hok.bef_typ] at this
theorem At.get_link {w : World} {g o : Nat} {B : Blk} (hok : B.Ok) (h : At w g o (Lib.byteCells B.bytes)) : At w g (o + 157) (Lib.byteCells B.link) := by
  have := At.mid (a := B.bef_link) (f := B.link) (c := B.aft_link) (by rw [← Blk.at_link]; exact h)
  rwa [hok.bef_link] at this
theorem At.get_magic {w : World} {g o : Nat} {B : Blk} (hok : B.Ok) (h : At w g o (Lib.byteCells B.bytes)) : At w g (o + 257) (Lib.byteCells B.magic) := by
  have := At.mid (a := B.bef_magic) (f := B.magic) (c := B.aft_magic) (by rw [← Blk.at_magic]; exact h)
  rwa [hok.bef_magic] at this
theorem At.get_ver {w : World} {g o : Nat} {B : Blk} (hok : B.Ok) (h : At w g o (Lib.byteCells B.bytes)) : At w g (o + 263) (Lib.byteCells B.ver) := by
  have := At.mid (a := B.bef_ver) (f := B.ver) (c := B.aft_ver) (by rw [← Blk.at_ver]; exact h)
  rwa [hok.bef_ver] at this
theorem At.get_user {w : World} {g o : Nat} {B : Blk} (hok : B.Ok) (h : At w g o (Lib.byteCells B.bytes)) : At w g (o + 265) (Lib.byteCells B.user) := by
  have := At.mid (a := B.bef_user) (f := B.user) (c := B.aft_user) (by rw [← Blk.at_user]; exact h)
  rwa [hok.bef_user] at this
theorem At.get_group {w : World} {g o : Nat} {B : Blk} (hok : B.Ok) (h : At w g o (Lib.byteCells B.bytes)) : At w g (o + 297) (Lib.byteCells B.group) := by
  have := At.mid (a := B.bef_group) (f := B.group) (c := B.aft_group) (by rw [← Blk.at_group]; exact h)
  rwa [hok.bef_group] at this
theorem At.get_maj {w : World} {g o : Nat} {B : Blk} (hok : B.Ok) (h : At w g o (Lib.byteCells B.bytes)) : At w g (o + 329) (Lib.byteCells B.maj) := by
  have := At.mid (a := B.bef_maj) (f := B.maj) (c := B.aft_maj) (by rw [← Blk.at_maj]; exact h)
  rwa [hok.bef_maj] at this
theorem At.get_mnr {w : World} {g o : Nat} {B : Blk} (hok : B.Ok) (h : At w g o (Lib.byteCells B.bytes)) : At w g (o + 337) (Lib.byteCells B.mnr) := by
  have := At.mid (a := B.bef_mnr) (f := B.mnr) (c := B.aft_mnr) (by rw [← Blk.at_mnr]; exact h)
  rwa [hok.bef_mnr] at this
theorem At.get_rest {w : World} {g o : Nat} {B : Blk} (hok : B.Ok) (h : At w g o (Lib.byteCells B.bytes)) : At w g (o + 345) (Lib.byteCells B.rest) := by
  have := At.mid (a := B.bef_rest) (f := B.rest) (c := B.aft_rest) (by rw [← Blk.at_rest]; exact h)
  rwa [hok.bef_rest] at this
theorem At.get_pre {w : World} {g o : Nat} {B : Blk} (hok : B.Ok) (h : At w g o (Lib.byteCells B.bytes)) : At w g (o + 345) (Lib.byteCells (B.rest.take 155)) := by
  have := (At.get_rest hok h).take 155
  simpa [Lib.byteCells] using this
theorem At.get_trailer {w : World} {g o : Nat} {B : Blk} (hok : B.Ok) (h : At w g o (Lib.byteCells B.bytes)) : At w g (o + 508) (Lib.byteCells (B.rest.drop 163)) := by
  have := (At.get_rest hok h).drop 163
  simpa [Lib.byteCells,Nat.add_assoc] using this
structure RdB (B : Blk) : Prop where
  ok : B.Ok
  magic : B.magic = [117,115,116,97,114,0]
  chk : B.chk = octField 7 (cks B.bytes 512) ++ [32]
  end4 : B.rest.drop 163 = [0,0,0,0]
theorem cks_small (bs : List UInt8) : cks bs 512 < 8 ^ 6 := by have := cks_le bs 512; omega
theorem getFormat (w : World) (g o : Nat) (T : TypeId) (pre post : List Value) (B : Blk) (hR : RdB B) (hs : Seg w g T pre B.bytes post) (ho : pre.length = o) :
    Calls Tryz.prog 198 #[.pointer (some ⟨g,o,none⟩)] w fun e w' => e = .returned (.int .i64 6) ∧ Below w.heap.size w w' := by
  have hat : At w g o (Lib.byteCells B.bytes) := At.of_heap hs (fun j v hj => by
    rw [List.getElem?_toArray,← ho,List.append_assoc,List.getElem?_append_right (Nat.le_add_right _ _),Nat.add_sub_cancel_left,List.getElem?_append_left (List.getElem?_eq_some_iff.1 hj).1]
    exact hj)
  have hg : g < w.heap.size := lt_of_heap hs
  have v7 := Lib.hid toV7; have vu := Lib.hid toUSTAR; have vs := Lib.hid toSTAR; have vc := Lib.hid v7chk; have vm := Lib.hid uMagic; have vv := Lib.hid uVersion; have vt := Lib.hid sTrailer
  have HO := Lib.hid (parseOctal (w.alloc (.cells #[.nilIface] 231)) (.pointer (some ⟨w.heap.size,0,none⟩)) g (o + 148) 8 364 (cks B.bytes 512) B.chk (by rw [hR.chk]; exact NumO.chk _ (cks_small _)) ((At.get_chk hR.ok hat).carry (Below.heap_alloc w _ g hg)) hR.ok.chk (by omega) (by omega))
  have HAT := Lib.hid hat; have HR := Lib.hid hR; have HS := Lib.hid hs; have HOO := Lib.hid ho
  clear hat hR hs ho
  go_enter Tryz.func198,Tryz.ntmps198
  go_wp2_with fail
  refine (v7.out _ _).mono ?_
  rintro e w1 ⟨rfl,rfl⟩
  go_wp2_with fail
  refine (vc.out _ _ _).mono ?_
  rintro e w1 ⟨rfl,rfl⟩
  go_wp2_with fail
  refine HO.out.mono ?_
  rintro e w1 ⟨rfl,hb1⟩
  have hb : Below w.heap.size w w1 := ((Below.refl _ w).alloc (Nat.le_refl _) _).trans (hb1.mono (by simp))
  have hp1 : w1.cell? ⟨w.heap.size,0,none⟩ = some .nilIface := by
    rw [Lib.cell_of_heap ((hb1.block w.heap.size (by simp)).trans (heap_alloc_new w (.cells #[.nilIface] 231)))]; rfl
  have HB1 := Lib.hid hb
  have HS1 : Hid (Seg w1 g T pre B.bytes post) := Lib.hid ((hb.block g hg).trans HS.out)
  have HC := Lib.hid (checksum w1 g T pre B.bytes post HS1.out HR.out.ok.len)
  rw [HOO.out] at HC
  clear hb hb1 HO
  go_wp2_with fail
  refine HC.out.mono ?_
  rintro e w2 ⟨⟨z,rfl⟩,hd2⟩
  have hp2 : w2.cell? ⟨w.heap.size,0,none⟩ = some .nilIface := by obtain ⟨nd,rfl⟩ := hd2; exact hp1
  have HB2 : Hid (Below w.heap.size w w2) := by obtain ⟨nd,rfl⟩ := hd2; exact bdn HB1.out nd
  have hatm := (HAT.out.carry (HB2.out.block g hg))
  have cm := convBytes w2 g (o + 257) 255 B.magic (At.get_magic HR.out.ok hatm)
  have cv := convBytes w2 g (o + 263) 249 B.ver (At.get_ver HR.out.ok hatm)
  have ct := convBytes w2 g (o + 508) 4 (B.rest.drop 163) (At.get_trailer HR.out.ok hatm)
  rw [HR.out.magic] at cm
  rw [HR.out.ok.ver] at cv
  rw [HR.out.end4] at ct
  simp only [List.length_cons,List.length_nil] at cm ct
  clear hatm hd2 hp1 HC
  go_wp2_with (first | (go_at_call 107; refine (vu.out _ _).mono ?_; rintro e wx ⟨rfl,rfl⟩) | (go_at_call 178; refine (vs.out _ _).mono ?_; rintro e wx ⟨rfl,rfl⟩) | (go_at_call 182; refine (vm.out _ _ _).mono ?_; rintro e wx ⟨rfl,rfl⟩) | (go_at_call 183; refine (vv.out _ _ _).mono ?_; rintro e wx ⟨rfl,rfl⟩) | (go_at_call 181; refine (vt.out _ _ _).mono ?_; rintro e wx ⟨rfl,rfl⟩))
  go_ret
  exact ⟨rfl,HB2.out⟩
theorem and128 (x : Nat) (h : x < 128) : bits .and .u8 (x : Int) 128 = 0 := by
  have : ∀ k : Fin 128,bits .and .u8 ((k.val : Nat) : Int) 128 = 0 := by decide
  exact this ⟨x,h⟩
theorem parseNumeric (w : World) (p : Value) (g o n c u : Nat) (f : List UInt8) (hf : NumO f u) (hat : At w g o (Lib.byteCells f)) (hn : f.length = n) (hn0 : 0 < n) (hnc : n ≤ c) (hbig : c ≤ 9223372036854775807) :
    Calls Tryz.prog 199 #[p,.slice (some ⟨g,o,none⟩) n c] w fun e w' => e = .returned (.int .i64 u) ∧ Below w.heap.size w w' := by
  have h := parseOctal w p g o n c u f hf hat hn hnc hbig
  have hc := at_cell hat 0 (by omega)
  have hlow := hf.low (f.getD 0 0) (by rw [List.getD_eq_getElem?_getD,List.getElem?_eq_getElem (by omega)]; exact List.getElem_mem (by omega))
  have ha := and128 _ hlow
  generalize (f.getD 0 0).toNat = x at *
  have hn1 : (0 : Int) < n := by omega
  rw [Nat.add_zero] at hc
  clear hat hf hlow
  go_enter Tryz.func199,Tryz.ntmps199
  go_wp2_with fail
  refine h.mono ?_
  rintro e w1 ⟨rfl,hb⟩
  go_wp2_with fail
  go_ret
  exact ⟨rfl,hb⟩
theorem notAscii (w : World) (x : Int) (h : x < 128) : Calls Tryz.prog 200 #[.int .i32 x] w (RetSame w (.bool false)) := by
  have h2 : ¬ (128 : Int) ≤ x := by omega
  go_enter Tryz.func200,Tryz.ntmps200
  go_wp2_with fail
  go_ret
  exact ⟨rfl,rfl⟩
theorem decodeLow (w : World) (g o n c : Nat) (x : Nat) (hn : 0 < n) (hx : x < 128) (hc : w.cell? ⟨g,o,none⟩ = some (.int .u8 x)) :
    Calls Tryz.prog 277 #[.slice (some ⟨g,o,none⟩) n c] w (RetSame w (.tuple #[.int .i32 x,.int .i64 1])) := by
  have hn1 : (0 : Int) < n := by omega
  have hx1 : (x : Int) < 128 := by omega
  have hw1 : IntKind.i32.wrap (x : Int) = x := by rw [IntKind.wrap_i32]; omega
  go_enter Tryz.func277,Tryz.ntmps277
  go_wp2_with fail
  refine wp_loop_once ?_
  go_wp2_with fail
  go_ret2
  exact ⟨rfl,rfl⟩
theorem indexFunc (w : World) (g o n c : Nat) (l : List UInt8) (hat : At w g o (Lib.byteCells l)) (hn : l.length = n) (hnc : n ≤ c) (hlow : ∀ b ∈ l,b.toNat < 128) (hbig : n < 4611686018427387904) :
    Calls Tryz.prog 201 #[.slice (some ⟨g,o,none⟩) n c,.func (.func 200) #[] #[]] w (RetSame w (.int .i64 (-1))) := by
  have HAT := Lib.hid hat
  have HLOW := Lib.hid hlow
  clear hat hlow
  have main : Calls Tryz.prog 238 #[.slice (some ⟨g,o,none⟩) n c,.func (.func 200) #[] #[],.bool true] w (RetSame w (.int .i64 (-1))) := by
    go_enter Tryz.func238,Tryz.ntmps238
    go_wp2_with fail
    go_loop [7] (fun i => ∃ k : Nat,k ≤ n ∧ i = .int .i64 k) (fun i => n - (intOf i).toNat)
    case atStart => exact ⟨0,Nat.zero_le _,rfl⟩
    case round =>
      obtain ⟨k,hk,rfl⟩ := hrel
      by_cases hlt : k < n
      · have hlt1 : (k : Int) < n := by omega
        have hkc : (k : Int) ≤ c := by omega
        have hck : ¬ c = k := by omega
        have hx := HLOW.out (l.getD k 0) (by rw [List.getD_eq_getElem?_getD,List.getElem?_eq_getElem (by omega)]; exact List.getElem_mem (by omega))
        have hc := at_cell HAT.out k (by omega)
        have hd := decodeLow w g (o + k) (n - k) (c - k) (l.getD k 0).toNat (by omega) hx hc
        have hna := notAscii w ((l.getD k 0).toNat : Int) (by omega)
        generalize (l.getD k 0).toNat = x at *
        clear hc
        go_wp2_with fail
        refine hd.mono ?_
        rintro e w1 ⟨rfl,rfl⟩
        go_wp2_with fail
        refine hna.mono ?_
        rintro e w1 ⟨rfl,rfl⟩
        go_wp2_with fail
        go_round
        case rel => exact ⟨k + 1,by omega,by go_num⟩
        case measure => simp [intOf]; omega
      · have hlt1 : ¬ (k : Int) < n := by omega
        go_wp2_with fail
        go_ret
        exact ⟨rfl,rfl⟩
  go_enter Tryz.func201,Tryz.ntmps201
  go_wp2_with fail
  refine main.mono ?_
  rintro e w1 ⟨rfl,rfl⟩
  go_wp2_with fail
  go_ret
  exact ⟨rfl,rfl⟩
theorem endsNul (w : World) (g o n c : Nat) (l : List UInt8) (hat : At w g o (Lib.byteCells l)) (hn : l.length = n + 1) (hz : l[n]? = some 0) (hbig : n < 4611686018427387904) :
    Calls Tryz.prog 202 #[.slice (some ⟨g,o,none⟩) (n + 1) c] w (RetSame w (.bool true)) := by
  have hc := at_cell hat n (by omega)
  have e : (l.getD n 0).toNat = 0 := by rw [List.getD_eq_getElem?_getD,hz]; rfl
  rw [e] at hc
  have hw1 : IntKind.i64.wrap (((n + 1 : Nat) : Int) - 1) = (n : Int) := by rw [IntWalk.i64_in _ (by omega)]; omega
  have hlt : (n : Int) < ((n + 1 : Nat) : Int) := by omega
  clear hat hz e
  go_enter Tryz.func202,Tryz.ntmps202
  go_wp2_with fail
  go_ret
  exact ⟨rfl,rfl⟩
structure RdV where
  mode : Nat
  uid : Nat
  gid : Nat
  size : Nat
  mtime : Nat
  maj : Nat
  mnr : Nat
structure RdF (B : Blk) (V : RdV) : Prop extends RdB B where
  low : ∀ b ∈ B.bytes,b.toNat < 128
  mode : NumO B.mode V.mode
  uid : NumO B.uid V.uid
  gid : NumO B.gid V.gid
  size : NumO B.size V.size
  mtime : NumO B.mtime V.mtime
  maj : NumO B.maj V.maj
  mnr : NumO B.mnr V.mnr
  zmode : B.mode[7]? = some 0
  zuid : B.uid[7]? = some 0
  zgid : B.gid[7]? = some 0
  zsize : B.size[11]? = some 0
  zmtime : B.mtime[11]? = some 0
  zmaj : B.maj[7]? = some 0
  zmnr : B.mnr[7]? = some 0
def rdPre (B : Blk) : List UInt8 := cstr (B.rest.take 155)
def rdName (B : Blk) : List UInt8 := if rdPre B = [] then cstr B.name else rdPre B ++ 47::cstr B.name
def Hd.nil : Hd := ⟨0,[],[],0,0,0,0,[],[],0,0,0,0,0,0,0,0,.map none,.map none,0⟩
def rdTyp (B : Blk) : Int := (B.typ[0]?.getD 0).toNat
def rdHd1 (B : Blk) (V : RdV) : Hd := { Hd.nil with typ := rdTyp B,name := cstr B.name,link := cstr B.link,size := V.size,mode := V.mode,uid := V.uid,gid := V.gid,mx := V.mtime + 62135596800 }
def rdHd (B : Blk) (V : RdV) : Hd := { rdHd1 B V with name := rdName B,user := cstr B.user,group := cstr B.group,maj := V.maj,mnr := V.mnr,fmt := 6 }
structure RHS (tr r : Nat) (pad : Int) (curr err : Value) (B : Blk) (pb hb : Nat) (H : Hd) (v0 w : World) : Prop where
  T : TR tr r pad curr (Lib.byteCells B.bytes) err w
  P : w.cell? ⟨pb,0,none⟩ = some .nilIface
  Hh : w.heap[hb]? = some (.cells H.cells.toArray 130 (0,0))
  F : Below v0.heap.size v0 w
  h0 : v0.heap.size ≤ hb
  hp : pb ≠ hb
  ht : tr < v0.heap.size
theorem RHS.below {tr r : Nat} {pad : Int} {curr err : Value} {B : Blk} {pb hb : Nat} {H : Hd} {v0 w w' : World} (h : RHS tr r pad curr err B pb hb H v0 w) (f : Below w.heap.size w w') : RHS tr r pad curr err B pb hb H v0 w' :=
  ⟨⟨(f.block tr (lt_of_heap h.T.1)).trans h.T.1,h.T.2⟩,(f.cell (block_lt_of_cell h.P)).trans h.P,(f.block hb (lt_of_heap h.Hh)).trans h.Hh,h.F.trans (f.mono h.F.size),h.h0,h.hp,h.ht⟩
theorem RHS.set {tr r : Nat} {pad : Int} {curr err : Value} {B : Blk} {pb hb : Nat} {H : Hd} {v0 w : World} (h : RHS tr r pad curr err B pb hb H v0 w) (k : Nat) (v : Value) (H2 : Hd) (he : H.cells.set k v = H2.cells) : RHS tr r pad curr err B pb hb H2 v0 (w.setCell ⟨hb,k,none⟩ v) := by
  have ht := h.ht
  have h0 := h.h0
  refine ⟨⟨(heap_set_other _ (show tr ≠ hb by omega)).trans h.T.1,h.T.2⟩,?_,?_,h.F.setCell (p := ⟨hb,k,none⟩) h.h0 _,h.h0,h.hp,h.ht⟩
  · exact (World.cell?_setCell_other w ⟨hb,k,none⟩ ⟨pb,0,none⟩ _ (fun e => h.hp (by cases e; rfl))).trans h.P
  · have := heap_set_same (i := k) v h.Hh
    rw [this,List.setIfInBounds_toArray,he]
theorem RHS.hz {tr r : Nat} {pad : Int} {curr err : Value} {B : Blk} {pb hb : Nat} {H : Hd} {v0 w : World} (h : RHS tr r pad curr err B pb hb H v0 w) (k : Nat) : w.frozen? ⟨hb,k,none⟩ = false := Lib.frozen_of_heap h.Hh k
theorem RHS.hc {tr r : Nat} {pad : Int} {curr err : Value} {B : Blk} {pb hb : Nat} {H : Hd} {v0 w : World} (h : RHS tr r pad curr err B pb hb H v0 w) (k : Nat) (v : Value) (hv : H.cells[k]? = some v) : w.cell? ⟨hb,k,none⟩ = some v := by
  rw [Lib.cell_of_heap h.Hh,List.getElem?_toArray,hv]
theorem RHS.at {tr r : Nat} {pad : Int} {curr err : Value} {B : Blk} {pb hb : Nat} {H : Hd} {v0 w : World} (h : RHS tr r pad curr err B pb hb H v0 w) : At w tr 3 (Lib.byteCells B.bytes) := h.T.at
noncomputable def restH1 : Code := tailFrom 16 (Tryz.f148.body.getD .skip)
noncomputable def restH2 : Code := tailFrom 25 (Tryz.f148.body.getD .skip)
theorem has66 (w : World) : Calls Tryz.prog 66 #[.int .i64 6,.int .i64 6] w (RetSame w (.bool true)) := by
  have e : bits .and .i64 6 6 = 6 := by decide
  go_enter Tryz.func66,Tryz.ntmps66
  go_wp2_with fail
  go_ret
  exact ⟨rfl,rfl⟩
set_option maxHeartbeats 8000000 in
theorem rh2 (tr r : Nat) (pad : Int) (curr err : Value) (B : Blk) (V : RdV) (pb hb : Nat) (v0 u0 : World) (hR : RdF B V) (h : RHS tr r pad curr err B pb hb (rdHd1 B V) v0 u0)
    (R : Ending → World → Prop) (hK : ∀ w',RHS tr r pad curr err B pb hb (rdHd B V) v0 w' → R (.returned (.tuple #[.pointer (some ⟨hb,0,none⟩),.pointer (some ⟨tr,3,none⟩),.nilIface])) w') {c1 c2 c3 c4 c5 c6 c7 c8 c13 c14 c15 c16 c17 c18 c19 c20 c21 c22 c23 c24 c25 c26 c27 c28 c29 c30 c31 c32 c33 c34 c35 c36 c37 c38 c39 c40 c41 c42 c43 c44 c45 c46 c47 c48 c49 c50 c51 c52 c53 c54 c55 c56 c57 c58 c59 c60 c61 c62 c63 c64 c65 c66 c67 c68 c69 c70 c71 c72 c73 c74 c75 c76 c77 c78 c79 c80 c81 c82 c83 c84 c85 c86 c87 c88 c89 c90 c91 c92 c93 c94 c95 c96 c97 c98 c99 c100 c101 c102 c103 c104 c105 c106 c107 c108 c109 c110 c111 c112 c113 c114 c115 c116 c117 c118 c119 c120 c121 c122 c123 c124 c125 c126 c127 c128 c129 c130 c131 c132 c133 c134 c135 c136 c137 c138 c139 c140 c141 c142 c143 c144 c145 c146 c147 c148 c149 c150 c151 c152 c153 c154 c155 c156 c157 c158 c159 c160 c161 c162 c163 c164 c165 c166 c167 c168 c169 c170 c171 c172 c173 c174 c175 c176 c177 c178 c179 c180 c181 c182 c183 c184 c185 c186 c187 c188 c189 c190 c191 c192 c193 c194 c195 c196 c197 c198 c199 c200 c201 c202 c203 c204 c205 c206 c207 c208 c209 c210 c211 c212 c213 c214 c215 c216 c217 c218 c219 c220 c221 c222 c223 c224 c225 c226 c227 c228 c229 c230 c231 c232 c233 c234 c235 c236 c237 c238 c239 c240 c241 c242 c243 c244 c245 c246 c247 c248 c249 c250 c251 c252 c253 c254 c255 c256 c257 c258 c259 c260 c261 c262 c263 c264 c265 c266 c267 c268 c269 c270 c271 c272 c273 c274 c275 c276 c277 c278 c279 c280 c281 c282 c283 c284 c285 c286 c287 c288 c289 c290 c291 c292 c293 c294 c295 c296 c297 c298 c299 c300 c301 c302 c303 c304 c305 c306 c307 c308 c309 c310 c311 c312 c313 c314 c315 c316 c317 c318 c319 c320 c321 c322 c323 c324 c325 c326 c327 c328 c329 c330 c331 c332 c333 c334 : Value} :
    Code.wp Tryz.prog restH2 (bodyPost Tryz.prog Tryz.f148 R) ⟨(.pointer (some ⟨tr,0,none⟩)::c1::c2::c3::c4::c5::c6::c7::c8::.int .i64 6::.pointer (some ⟨pb,0,none⟩)::.pointer (some ⟨hb,0,none⟩)::.pointer (some ⟨tr,3,none⟩)::c13::c14::c15::c16::c17::c18::c19::c20::c21::c22::c23::c24::c25::c26::c27::c28::c29::c30::c31::c32::c33::c34::c35::c36::c37::c38::c39::c40::c41::c42::c43::c44::c45::c46::c47::c48::c49::c50::c51::c52::c53::c54::c55::c56::c57::c58::c59::c60::c61::c62::c63::c64::c65::c66::c67::c68::c69::c70::c71::c72::c73::c74::c75::c76::c77::c78::c79::c80::c81::c82::c83::c84::c85::c86::c87::c88::c89::c90::c91::c92::c93::c94::c95::c96::c97::c98::c99::c100::c101::c102::c103::c104::c105::c106::c107::c108::c109::c110::c111::c112::c113::c114::c115::c116::c117::c118::c119::c120::c121::c122::c123::c124::c125::c126::c127::c128::c129::c130::c131::c132::c133::c134::c135::c136::c137::c138::c139::c140::c141::c142::c143::c144::c145::c146::c147::c148::c149::c150::c151::c152::c153::c154::c155::c156::c157::c158::c159::c160::c161::c162::c163::c164::c165::c166::c167::c168::c169::c170::c171::c172::c173::c174::c175::c176::c177::c178::c179::c180::c181::c182::c183::c184::c185::c186::c187::c188::c189::c190::c191::c192::c193::c194::c195::c196::c197::c198::c199::c200::c201::c202::c203::c204::c205::c206::c207::c208::c209::c210::c211::c212::c213::c214::c215::c216::c217::c218::c219::c220::c221::c222::c223::c224::c225::c226::c227::c228::c229::c230::c231::c232::c233::c234::c235::c236::c237::c238::c239::c240::c241::c242::c243::c244::c245::c246::c247::c248::c249::c250::c251::c252::c253::c254::c255::c256::c257::c258::c259::c260::c261::c262::c263::c264::c265::c266::c267::c268::c269::c270::c271::c272::c273::c274::c275::c276::c277::c278::c279::c280::c281::c282::c283::c284::c285::c286::c287::c288::c289::c290::c291::c292::c293::c294::c295::c296::c297::c298::c299::c300::c301::c302::c303::c304::c305::c306::c307::c308::c309::c310::c311::c312::c313::c314::c315::c316::c317::c318::c319::c320::c321::c322::c323::c324::c325::c326::c327::c328::c329::c330::c331::c332::c333::c334::[]).toArray,[]⟩ u0 := by
  conv => arg 2; whnf
  obtain ⟨u1,hu1⟩ : ∃ u1,u1 = u0 := ⟨_,rfl⟩
  rw [← hu1] at h ⊢
  clear hu1 u0
  have HS := Lib.hid h
  have HR := Lib.hid hR; have HK := Lib.hid hK
  have vu := Lib.hid toUSTAR; have va := Lib.hid uUser; have vb := Lib.hid uGroup; have vc := Lib.hid uMaj; have vd := Lib.hid uMin; have ve := Lib.hid uPrefix
  have vs := Lib.hid v7size; have vm := Lib.hid v7mode; have vi := Lib.hid v7uid; have vg := Lib.hid v7gid; have vt := Lib.hid v7mtime
  have v66 := Lib.hid has66
  clear h hR hK
  go_wp2_with fail
  refine (vu.out _ _).mono ?_
  rintro e wx ⟨rfl,rfl⟩
  go_wp2_with fail
  refine (va.out _ _ _).mono ?_
  rintro e wx ⟨rfl,rfl⟩
  have HPS := Lib.hid (parseString u1 (.pointer (some ⟨pb,0,none⟩)) tr 268 32 247 _ (At.get_user HR.out.ok HS.out.at) HR.out.ok.user (by omega))
  have z := HS.out.hz 7
  have hc := HS.out.hc 7 _ rfl
  go_wp2_with fail
  refine HPS.out.mono ?_
  rintro e wx ⟨rfl,rfl⟩
  go_wp2_with fail
  have HSn : Hid (RHS tr r pad curr err B pb hb ({ rdHd1 B V with user := cstr B.user } : Hd) v0 (u1.setCell ⟨hb,7,none⟩ (str (cstr B.user)))) := Lib.hid (HS.out.set 7 _ _ rfl)
  clear HPS HS z hc
  have HS := HSn
  clear HSn
  generalize (u1.setCell ⟨hb,7,none⟩ (str (cstr B.user))) = u2 at *
  refine (vb.out _ _ _).mono ?_
  rintro e wx ⟨rfl,rfl⟩
  have HPS := Lib.hid (parseString u2 (.pointer (some ⟨pb,0,none⟩)) tr 300 32 215 _ (At.get_group HR.out.ok HS.out.at) HR.out.ok.group (by omega))
  have z := HS.out.hz 8
  have hc := HS.out.hc 8 _ rfl
  go_wp2_with fail
  refine HPS.out.mono ?_
  rintro e wx ⟨rfl,rfl⟩
  go_wp2_with fail
  have HSn : Hid (RHS tr r pad curr err B pb hb ({ rdHd1 B V with user := cstr B.user,group := cstr B.group } : Hd) v0 (u2.setCell ⟨hb,8,none⟩ (str (cstr B.group)))) := Lib.hid (HS.out.set 8 _ _ rfl)
  clear HPS HS z hc
  have HS := HSn
  clear HSn
  generalize (u2.setCell ⟨hb,8,none⟩ (str (cstr B.group))) = u3 at *
  refine (vc.out _ _ _).mono ?_
  rintro e wx ⟨rfl,rfl⟩
  have HPS := Lib.hid (parseNumeric u3 (.pointer (some ⟨pb,0,none⟩)) tr 332 8 183 _ _ HR.out.maj (At.get_maj HR.out.ok HS.out.at) HR.out.ok.maj (by omega) (by omega) (by omega))
  go_wp2_with fail
  refine HPS.out.mono ?_
  rintro e q ⟨rfl,hb1⟩
  have HQ := Lib.hid (HS.out.below hb1)
  clear hb1 HS
  have HS := HQ
  clear HQ
  have z := HS.out.hz 15
  have hc := HS.out.hc 15 _ rfl
  go_wp2_with fail
  have HSn : Hid (RHS tr r pad curr err B pb hb ({ rdHd1 B V with user := cstr B.user,group := cstr B.group,maj := V.maj } : Hd) v0 (q.setCell ⟨hb,15,none⟩ (.int .i64 V.maj))) := Lib.hid (HS.out.set 15 _ _ rfl)
  clear HPS HS z hc
  have HS := HSn
  clear HSn
  generalize (q.setCell ⟨hb,15,none⟩ (.int .i64 V.maj)) = u4 at *
  refine (vd.out _ _ _).mono ?_
  rintro e wx ⟨rfl,rfl⟩
  have HPS := Lib.hid (parseNumeric u4 (.pointer (some ⟨pb,0,none⟩)) tr 340 8 175 _ _ HR.out.mnr (At.get_mnr HR.out.ok HS.out.at) HR.out.ok.mnr (by omega) (by omega) (by omega))
  go_wp2_with fail
  refine HPS.out.mono ?_
  rintro e q ⟨rfl,hb1⟩
  have HQ := Lib.hid (HS.out.below hb1)
  clear hb1 HS
  have HS := HQ
  clear HQ
  have z := HS.out.hz 16
  have hc := HS.out.hc 16 _ rfl
  go_wp2_with fail
  have HSn : Hid (RHS tr r pad curr err B pb hb ({ rdHd1 B V with user := cstr B.user,group := cstr B.group,maj := V.maj,mnr := V.mnr } : Hd) v0 (q.setCell ⟨hb,16,none⟩ (.int .i64 V.mnr))) := Lib.hid (HS.out.set 16 _ _ rfl)
  clear HPS HS z hc
  have HS := HSn
  clear HSn
  generalize (q.setCell ⟨hb,16,none⟩ (.int .i64 V.mnr)) = u5 at *
  refine (v66.out _).mono ?_
  rintro e wx ⟨rfl,rfl⟩
  have z := HS.out.hz 19
  have hc := HS.out.hc 19 _ rfl
  go_wp2_with fail
  have HSn : Hid (RHS tr r pad curr err B pb hb ({ rdHd1 B V with user := cstr B.user,group := cstr B.group,maj := V.maj,mnr := V.mnr,fmt := 6 } : Hd) v0 (u5.setCell ⟨hb,19,none⟩ (.int .i64 6))) := Lib.hid (HS.out.set 19 _ _ rfl)
  clear HS z hc
  have HS := HSn
  clear HSn
  generalize (u5.setCell ⟨hb,19,none⟩ (.int .i64 6)) = q at *
  refine (vu.out _ _).mono ?_
  rintro e wx ⟨rfl,rfl⟩
  go_wp2_with fail
  refine (ve.out _ _ _).mono ?_
  rintro e wx ⟨rfl,rfl⟩
  have HPS := Lib.hid (parseString q (.pointer (some ⟨pb,0,none⟩)) tr 348 155 167 _ (At.get_pre HR.out.ok HS.out.at) (by rw [List.length_take,HR.out.ok.rest]; rfl) (by omega))
  go_wp2_with fail
  refine HPS.out.mono ?_
  rintro e wx ⟨rfl,rfl⟩
  clear HPS
  have HIX := Lib.hid (indexFunc q tr 3 512 512 B.bytes HS.out.at HR.out.ok.len (by omega) HR.out.low (by omega))
  go_wp2_with fail
  refine HIX.out.mono ?_
  rintro e wx ⟨rfl,rfl⟩
  clear HIX
  have nsize := Lib.hid (endsNul q tr 127 11 388 _ (At.get_size HR.out.ok HS.out.at) HR.out.ok.size HR.out.zsize (by omega))
  have nmode := Lib.hid (endsNul q tr 103 7 412 _ (At.get_mode HR.out.ok HS.out.at) HR.out.ok.mode HR.out.zmode (by omega))
  have nuid := Lib.hid (endsNul q tr 111 7 404 _ (At.get_uid HR.out.ok HS.out.at) HR.out.ok.uid HR.out.zuid (by omega))
  have ngid := Lib.hid (endsNul q tr 119 7 396 _ (At.get_gid HR.out.ok HS.out.at) HR.out.ok.gid HR.out.zgid (by omega))
  have nmtime := Lib.hid (endsNul q tr 139 11 376 _ (At.get_mtime HR.out.ok HS.out.at) HR.out.ok.mtime HR.out.zmtime (by omega))
  have nmaj := Lib.hid (endsNul q tr 332 7 183 _ (At.get_maj HR.out.ok HS.out.at) HR.out.ok.maj HR.out.zmaj (by omega))
  have nmnr := Lib.hid (endsNul q tr 340 7 175 _ (At.get_mnr HR.out.ok HS.out.at) HR.out.ok.mnr HR.out.zmnr (by omega))
  have hpre : cstr (B.rest.take 155) = rdPre B := rfl
  rw [hpre]
  clear hpre
  go_wp2_with fail
  refine (vs.out _ _ _).mono ?_
  rintro e wx ⟨rfl,rfl⟩
  go_wp2_with fail
  refine nsize.out.mono ?_
  rintro e wx ⟨rfl,rfl⟩
  clear nsize
  go_wp2_with fail
  refine (vm.out _ _ _).mono ?_
  rintro e wx ⟨rfl,rfl⟩
  go_wp2_with fail
  refine nmode.out.mono ?_
  rintro e wx ⟨rfl,rfl⟩
  clear nmode
  go_wp2_with fail
  refine (vi.out _ _ _).mono ?_
  rintro e wx ⟨rfl,rfl⟩
  go_wp2_with fail
  refine nuid.out.mono ?_
  rintro e wx ⟨rfl,rfl⟩
  clear nuid
  go_wp2_with fail
  refine (vg.out _ _ _).mono ?_
  rintro e wx ⟨rfl,rfl⟩
  go_wp2_with fail
  refine ngid.out.mono ?_
  rintro e wx ⟨rfl,rfl⟩
  clear ngid
  go_wp2_with fail
  refine (vt.out _ _ _).mono ?_
  rintro e wx ⟨rfl,rfl⟩
  go_wp2_with fail
  refine nmtime.out.mono ?_
  rintro e wx ⟨rfl,rfl⟩
  clear nmtime
  go_wp2_with fail
  refine (vc.out _ _ _).mono ?_
  rintro e wx ⟨rfl,rfl⟩
  go_wp2_with fail
  refine nmaj.out.mono ?_
  rintro e wx ⟨rfl,rfl⟩
  clear nmaj
  go_wp2_with fail
  refine (vd.out _ _ _).mono ?_
  rintro e wx ⟨rfl,rfl⟩
  go_wp2_with fail
  refine nmnr.out.mono ?_
  rintro e wx ⟨rfl,rfl⟩
  clear nmnr
  have h1 := HS.out.hc 1 (str (cstr B.name)) rfl
  have z1 := HS.out.hz 1
  by_cases hp0 : rdPre B = []
  · rw [hp0]
    have hfin : RHS tr r pad curr err B pb hb (rdHd B V) v0 q := by
      have e : rdHd B V = ({ rdHd1 B V with user := cstr B.user,group := cstr B.group,maj := V.maj,mnr := V.mnr,fmt := 6 } : Hd) := by unfold rdHd rdName; rw [if_pos hp0]; rfl
      rw [e]; exact HS.out
    have HFIN := Lib.hid hfin
    have hP := HS.out.P
    clear hfin h1 z1 HS hp0
    go_wp2_with fail
    go_quiet (fail)
    go_wp2_with fail
    refine bodyPost_ret (results_tmp3 rfl _ _ _) rfl ?_
    exact HK.out _ (HFIN.out.below (bdn (Below.refl _ _) _))
  · have hlen : (0 : Int) < (rdPre B).length := by have := List.length_pos_iff.2 hp0; omega
    have hfin : RHS tr r pad curr err B pb hb (rdHd B V) v0 (q.setCell ⟨hb,1,none⟩ (str (rdName B))) := HS.out.set 1 (str (rdName B)) (rdHd B V) rfl
    have hnm : Value.string ({ data := (rdPre B).toArray } ++ { data := #[47] } ++ { data := (cstr B.name).toArray }) = str (rdName B) := by
      unfold rdName
      rw [if_neg hp0]
      show Value.string _ = Value.string _
      congr 1
      apply ByteArray.ext
      simp [ByteArray.data_append]
    have hpl : (rdPre B).length ≤ 155 := by unfold rdPre cstr; rw [List.length_take,List.length_take]; omega
    have hnl : (cstr B.name).length ≤ 100 := by unfold cstr; rw [List.length_take,HR.out.ok.name]; omega
    have HFIN := Lib.hid hfin
    have hP := HFIN.out.P
    have HNM := Lib.hid hnm
    clear hfin HS hp0 hnm
    generalize rdPre B = pre at *
    go_wp2_with fail
    rw [HNM.out]
    go_quiet (fail)
    go_wp2_with fail
    refine bodyPost_ret (results_tmp3 rfl _ _ _) rfl ?_
    exact HK.out _ (HFIN.out.below (bdn (Below.refl _ _) _))
end Go.Proofs.YtkanmkcojlefbaaGreatDoor
