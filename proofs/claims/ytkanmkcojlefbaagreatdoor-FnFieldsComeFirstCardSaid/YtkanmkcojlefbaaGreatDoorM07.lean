/-
  Part of the proof; holds the texts Blk.
-/
import Derived.Test.YtkanmkcojlefbaaGreatDoorM06
set_option maxRecDepth 100000
set_option linter.unusedSimpArgs false
set_option linter.unusedVariables false
namespace Go.Proofs.YtkanmkcojlefbaaGreatDoor
open Go.RowKit
structure Blk where
  name : List UInt8
  mode : List UInt8
  uid : List UInt8
  gid : List UInt8
  size : List UInt8
  mtime : List UInt8
  chk : List UInt8
  typ : List UInt8
  link : List UInt8
  magic : List UInt8
  ver : List UInt8
  user : List UInt8
  group : List UInt8
  maj : List UInt8
  mnr : List UInt8
  rest : List UInt8
def Blk.bytes (b : Blk) : List UInt8 := b.name ++ (b.mode ++ (b.uid ++ (b.gid ++ (b.size ++ (b.mtime ++ (b.chk ++ (b.typ ++ (b.link ++ (b.magic ++ (b.ver ++ (b.user ++ (b.group ++ (b.maj ++ (b.mnr ++ (b.rest)))))))))))))))
structure Blk.Ok (b : Blk) : Prop where
  name : b.name.length = 100
  mode : b.mode.length = 8
  uid : b.uid.length = 8
  gid : b.gid.length = 8
  size : b.size.length = 12
  mtime : b.mtime.length = 12
  chk : b.chk.length = 8
  typ : b.typ.length = 1
  link : b.link.length = 100
  magic : b.magic.length = 6
  ver : b.ver.length = 2
  user : b.user.length = 32
  group : b.group.length = 32
  maj : b.maj.length = 8
  mnr : b.mnr.length = 8
  rest : b.rest.length = 167
theorem Blk.Ok.len {b : Blk} (h : b.Ok) : b.bytes.length = 512 := by
  simp [Blk.bytes,h.name,h.mode,h.uid,h.gid,h.size,h.mtime,h.chk,h.typ,h.link,h.magic,h.ver,h.user,h.group,h.maj,h.mnr,h.rest]
theorem Seg.split {w : World} {g : Nat} {T : TypeId} {pre post : List Value} {a f c : List UInt8} : Seg w g T pre (a ++ (f ++ c)) post ↔ Seg w g T (pre ++ Lib.byteCells a) f (Lib.byteCells c ++ post) := by
  simp only [Seg,Lib.byteCells_append,List.append_assoc]
def Blk.zero : Blk := ⟨List.replicate 100 0,List.replicate 8 0,List.replicate 8 0,List.replicate 8 0,List.replicate 12 0,List.replicate 12 0,List.replicate 8 0,List.replicate 1 0,List.replicate 100 0,List.replicate 6 0,List.replicate 2 0,List.replicate 32 0,List.replicate 32 0,List.replicate 8 0,List.replicate 8 0,List.replicate 167 0⟩
theorem Blk.zero_ok : Blk.zero.Ok := ⟨rfl,rfl,rfl,rfl,rfl,rfl,rfl,rfl,rfl,rfl,rfl,rfl,rfl,rfl,rfl,rfl⟩
theorem Blk.zero_bytes : Blk.zero.bytes = List.replicate 512 0 := by kernel_rfl
def Blk.bef_name (b : Blk) : List UInt8 := []
def Blk.aft_name (b : Blk) : List UInt8 := b.mode ++ (b.uid ++ (b.gid ++ (b.size ++ (b.mtime ++ (b.chk ++ (b.typ ++ (b.link ++ (b.magic ++ (b.ver ++ (b.user ++ (b.group ++ (b.maj ++ (b.mnr ++ (b.rest))))))))))))))
theorem Blk.at_name (b : Blk) : b.bytes = b.bef_name ++ (b.name ++ b.aft_name) := by simp only [Blk.bytes,Blk.bef_name,Blk.aft_name,List.append_assoc,List.nil_append,List.append_nil]
theorem Blk.put_name (b : Blk) (x : List UInt8) : { b with name := x }.bytes = b.bef_name ++ (x ++ b.aft_name) := by simp only [Blk.bytes,Blk.bef_name,Blk.aft_name,List.append_assoc,List.nil_append,List.append_nil]
theorem Blk.Ok.bef_name {b : Blk} (h : b.Ok) : b.bef_name.length = 0 := by simp [Blk.bef_name]
theorem Blk.Ok.put_name {b : Blk} (h : b.Ok) (x : List UInt8) (hx : x.length = 100) : ({ b with name := x } : Blk).Ok := { h with name := hx }
theorem Seg.get_name {w : World} {g : Nat} {T : TypeId} {pre post : List Value} {b : Blk} (h : Seg w g T pre b.bytes post) : Seg w g T (pre ++ Lib.byteCells b.bef_name) b.name (Lib.byteCells b.aft_name ++ post) := Seg.split.1 (by rw [← Blk.at_name]; exact h)
theorem Seg.put_name {w : World} {g : Nat} {T : TypeId} {pre post : List Value} {b : Blk} {x : List UInt8} (h : Seg w g T (pre ++ Lib.byteCells b.bef_name) x (Lib.byteCells b.aft_name ++ post)) : Seg w g T pre ({ b with name := x } : Blk).bytes post := by rw [Blk.put_name]; exact Seg.split.2 h
theorem Blk.Ok.off_name {b : Blk} (h : b.Ok) (pre : List Value) : (pre ++ Lib.byteCells b.bef_name).length = pre.length + 0 := by rw [List.length_append,Lib.byteCells_length,h.bef_name]
def Blk.bef_mode (b : Blk) : List UInt8 := b.name
def Blk.aft_mode (b : Blk) : List UInt8 := b.uid ++ (b.gid ++ (b.size ++ (b.mtime ++ (b.chk ++ (b.typ ++ (b.link ++ (b.magic ++ (b.ver ++ (b.user ++ (b.group ++ (b.maj ++ (b.mnr ++ (b.rest)))))))))))))
theorem Blk.at_mode (b : Blk) : b.bytes = b.bef_mode ++ (b.mode ++ b.aft_mode) := by simp only [Blk.bytes,Blk.bef_mode,Blk.aft_mode,List.append_assoc,List.nil_append,List.append_nil]
theorem Blk.put_mode (b : Blk) (x : List UInt8) : { b with mode := x }.bytes = b.bef_mode ++ (x ++ b.aft_mode) := by simp only [Blk.bytes,Blk.bef_mode,Blk.aft_mode,List.append_assoc,List.nil_append,List.append_nil]
theorem Blk.Ok.bef_mode {b : Blk} (h : b.Ok) : b.bef_mode.length = 100 := by simp [Blk.bef_mode,h.name]
theorem Blk.Ok.put_mode {b : Blk} (h : b.Ok) (x : List UInt8) (hx : x.length = 8) : ({ b with mode := x } : Blk).Ok := { h with mode := hx }
theorem Seg.get_mode {w : World} {g : Nat} {T : TypeId} {pre post : List Value} {b : Blk} (h : Seg w g T pre b.bytes post) : Seg w g T (pre ++ Lib.byteCells b.bef_mode) b.mode (Lib.byteCells b.aft_mode ++ post) := Seg.split.1 (by rw [← Blk.at_mode]; exact h)
theorem Seg.put_mode {w : World} {g : Nat} {T : TypeId} {pre post : List Value} {b : Blk} {x : List UInt8} (h : Seg w g T (pre ++ Lib.byteCells b.bef_mode) x (Lib.byteCells b.aft_mode ++ post)) : Seg w g T pre ({ b with mode := x } : Blk).bytes post := by rw [Blk.put_mode]; exact Seg.split.2 h
theorem Blk.Ok.off_mode {b : Blk} (h : b.Ok) (pre : List Value) : (pre ++ Lib.byteCells b.bef_mode).length = pre.length + 100 := by rw [List.length_append,Lib.byteCells_length,h.bef_mode]
def Blk.bef_uid (b : Blk) : List UInt8 := b.name ++ (b.mode)
def Blk.aft_uid (b : Blk) : List UInt8 := b.gid ++ (b.size ++ (b.mtime ++ (b.chk ++ (b.typ ++ (b.link ++ (b.magic ++ (b.ver ++ (b.user ++ (b.group ++ (b.maj ++ (b.mnr ++ (b.rest))))))))))))
theorem Blk.at_uid (b : Blk) : b.bytes = b.bef_uid ++ (b.uid ++ b.aft_uid) := by simp only [Blk.bytes,Blk.bef_uid,Blk.aft_uid,List.append_assoc,List.nil_append,List.append_nil]
theorem Blk.put_uid (b : Blk) (x : List UInt8) : { b with uid := x }.bytes = b.bef_uid ++ (x ++ b.aft_uid) := by simp only [Blk.bytes,Blk.bef_uid,Blk.aft_uid,List.append_assoc,List.nil_append,List.append_nil]
theorem Blk.Ok.bef_uid {b : Blk} (h : b.Ok) : b.bef_uid.length = 108 := by simp [Blk.bef_uid,h.name,h.mode]
theorem Blk.Ok.put_uid {b : Blk} (h : b.Ok) (x : List UInt8) (hx : x.length = 8) : ({ b with uid := x } : Blk).Ok := { h with uid := hx }
theorem Seg.get_uid {w : World} {g : Nat} {T : TypeId} {pre post : List Value} {b : Blk} (h : Seg w g T pre b.bytes post) : Seg w g T (pre ++ Lib.byteCells b.bef_uid) b.uid (Lib.byteCells b.aft_uid ++ post) := Seg.split.1 (by rw [← Blk.at_uid]; exact h)
theorem Seg.put_uid {w : World} {g : Nat} {T : TypeId} {pre post : List Value} {b : Blk} {x : List UInt8} (h : Seg w g T (pre ++ Lib.byteCells b.bef_uid) x (Lib.byteCells b.aft_uid ++ post)) : Seg w g T pre ({ b with uid := x } : Blk).bytes post := by rw [Blk.put_uid]; exact Seg.split.2 h
theorem Blk.Ok.off_uid {b : Blk} (h : b.Ok) (pre : List Value) : (pre ++ Lib.byteCells b.bef_uid).length = pre.length + 108 := by rw [List.length_append,Lib.byteCells_length,h.bef_uid]
def Blk.bef_gid (b : Blk) : List UInt8 := b.name ++ (b.mode ++ (b.uid))
def Blk.aft_gid (b : Blk) : List UInt8 := b.size ++ (b.mtime ++ (b.chk ++ (b.typ ++ (b.link ++ (b.magic ++ (b.ver ++ (b.user ++ (b.group ++ (b.maj ++ (b.mnr ++ (b.rest)))))))))))
theorem Blk.at_gid (b : Blk) : b.bytes = b.bef_gid ++ (b.gid ++ b.aft_gid) := by simp only [Blk.bytes,Blk.bef_gid,Blk.aft_gid,List.append_assoc,List.nil_append,List.append_nil]
theorem Blk.put_gid (b : Blk) (x : List UInt8) : { b with gid := x }.bytes = b.bef_gid ++ (x ++ b.aft_gid) := by simp only [Blk.bytes,Blk.bef_gid,Blk.aft_gid,List.append_assoc,List.nil_append,List.append_nil]
theorem Blk.Ok.bef_gid {b : Blk} (h : b.Ok) : b.bef_gid.length = 116 := by simp [Blk.bef_gid,h.name,h.mode,h.uid]
theorem Blk.Ok.put_gid {b : Blk} (h : b.Ok) (x : List UInt8) (hx : x.length = 8) : ({ b with gid := x } : Blk).Ok := { h with gid := hx }
theorem Seg.get_gid {w : World} {g : Nat} {T : TypeId} {pre post : List Value} {b : Blk} (h : Seg w g T pre b.bytes post) : Seg w g T (pre ++ Lib.byteCells b.bef_gid) b.gid (Lib.byteCells b.aft_gid ++ post) := Seg.split.1 (by rw [← Blk.at_gid]; exact h)
theorem Seg.put_gid {w : World} {g : Nat} {T : TypeId} {pre post : List Value} {b : Blk} {x : List UInt8} (h : Seg w g T (pre ++ Lib.byteCells b.bef_gid) x (Lib.byteCells b.aft_gid ++ post)) : Seg w g T pre ({ b with gid := x } : Blk).bytes post := by rw [Blk.put_gid]; exact Seg.split.2 h
theorem Blk.Ok.off_gid {b : Blk} (h : b.Ok) (pre : List Value) : (pre ++ Lib.byteCells b.bef_gid).length = pre.length + 116 := by rw [List.length_append,Lib.byteCells_length,h.bef_gid]
def Blk.bef_size (b : Blk) : List UInt8 := b.name ++ (b.mode ++ (b.uid ++ (b.gid)))
def Blk.aft_size (b : Blk) : List UInt8 := b.mtime ++ (b.chk ++ (b.typ ++ (b.link ++ (b.magic ++ (b.ver ++ (b.user ++ (b.group ++ (b.maj ++ (b.mnr ++ (b.rest))))))))))
theorem Blk.at_size (b : Blk) : b.bytes = b.bef_size ++ (b.size ++ b.aft_size) := by simp only [Blk.bytes,Blk.bef_size,Blk.aft_size,List.append_assoc,List.nil_append,List.append_nil]
theorem Blk.put_size (b : Blk) (x : List UInt8) : { b with size := x }.bytes = b.bef_size ++ (x ++ b.aft_size) := by simp only [Blk.bytes,Blk.bef_size,Blk.aft_size,List.append_assoc,List.nil_append,List.append_nil]
theorem Blk.Ok.bef_size {b : Blk} (h : b.Ok) : b.bef_size.length = 124 := by simp [Blk.bef_size,h.name,h.mode,h.uid,h.gid]
theorem Blk.Ok.put_size {b : Blk} (h : b.Ok) (x : List UInt8) (hx : x.length = 12) : ({ b with size := x } : Blk).Ok := { h with size := hx }
theorem Seg.get_size {w : World} {g : Nat} {T : TypeId} {pre post : List Value} {b : Blk} (h : Seg w g T pre b.bytes post) : Seg w g T (pre ++ Lib.byteCells b.bef_size) b.size (Lib.byteCells b.aft_size ++ post) := Seg.split.1 (by rw [← Blk.at_size]; exact h)
theorem Seg.put_size {w : World} {g : Nat} {T : TypeId} {pre post : List Value} {b : Blk} {x : List UInt8} (h : Seg w g T (pre ++ Lib.byteCells b.bef_size) x (Lib.byteCells b.aft_size ++ post)) : Seg w g T pre ({ b with size := x } : Blk).bytes post := by rw [Blk.put_size]; exact Seg.split.2 h
theorem Blk.Ok.off_size {b : Blk} (h : b.Ok) (pre : List Value) : (pre ++ Lib.byteCells b.bef_size).length = pre.length + 124 := by rw [List.length_append,Lib.byteCells_length,h.bef_size]
def Blk.bef_mtime (b : Blk) : List UInt8 := b.name ++ (b.mode ++ (b.uid ++ (b.gid ++ (b.size))))
def Blk.aft_mtime (b : Blk) : List UInt8 := b.chk ++ (b.typ ++ (b.link ++ (b.magic ++ (b.ver ++ (b.user ++ (b.group ++ (b.maj ++ (b.mnr ++ (b.rest)))))))))
theorem Blk.at_mtime (b : Blk) : b.bytes = b.bef_mtime ++ (b.mtime ++ b.aft_mtime) := by simp only [Blk.bytes,Blk.bef_mtime,Blk.aft_mtime,List.append_assoc,List.nil_append,List.append_nil]
theorem Blk.put_mtime (b : Blk) (x : List UInt8) : { b with mtime := x }.bytes = b.bef_mtime ++ (x ++ b.aft_mtime) := by simp only [Blk.bytes,Blk.bef_mtime,Blk.aft_mtime,List.append_assoc,List.nil_append,List.append_nil]
theorem Blk.Ok.bef_mtime {b : Blk} (h : b.Ok) : b.bef_mtime.length = 136 := by simp [Blk.bef_mtime,h.name,h.mode,h.uid,h.gid,h.size]
theorem Blk.Ok.put_mtime {b : Blk} (h : b.Ok) (x : List UInt8) (hx : x.length = 12) : ({ b with mtime := x } : Blk).Ok := { h with mtime := hx }
theorem Seg.get_mtime {w : World} {g : Nat} {T : TypeId} {pre post : List Value} {b : Blk} (h : Seg w g T pre b.bytes post) : Seg w g T (pre ++ Lib.byteCells b.bef_mtime) b.mtime (Lib.byteCells b.aft_mtime ++ post) := Seg.split.1 (by rw [← Blk.at_mtime]; exact h)
theorem Seg.put_mtime {w : World} {g : Nat} {T : TypeId} {pre post : List Value} {b : Blk} {x : List UInt8} (h : Seg w g T (pre ++ Lib.byteCells b.bef_mtime) x (Lib.byteCells b.aft_mtime ++ post)) : Seg w g T pre ({ b with mtime := x } : Blk).bytes post := by rw [Blk.put_mtime]; exact Seg.split.2 h
theorem Blk.Ok.off_mtime {b : Blk} (h : b.Ok) (pre : List Value) : (pre ++ Lib.byteCells b.bef_mtime).length = pre.length + 136 := by rw [List.length_append,Lib.byteCells_length,h.bef_mtime]
def Blk.bef_chk (b : Blk) : List UInt8 := b.name ++ (b.mode ++ (b.uid ++ (b.gid ++ (b.size ++ (b.mtime)))))
def Blk.aft_chk (b : Blk) : List UInt8 := b.typ ++ (b.link ++ (b.magic ++ (b.ver ++ (b.user ++ (b.group ++ (b.maj ++ (b.mnr ++ (b.rest))))))))
theorem Blk.at_chk (b : Blk) : b.bytes = b.bef_chk ++ (b.chk ++ b.aft_chk) := by simp only [Blk.bytes,Blk.bef_chk,Blk.aft_chk,List.append_assoc,List.nil_append,List.append_nil]
theorem Blk.put_chk (b : Blk) (x : List UInt8) : { b with chk := x }.bytes = b.bef_chk ++ (x ++ b.aft_chk) := by simp only [Blk.bytes,Blk.bef_chk,Blk.aft_chk,List.append_assoc,List.nil_append,List.append_nil]
theorem Blk.Ok.bef_chk {b : Blk} (h : b.Ok) : b.bef_chk.length = 148 := by simp [Blk.bef_chk,h.name,h.mode,h.uid,h.gid,h.size,h.mtime]
theorem Blk.Ok.put_chk {b : Blk} (h : b.Ok) (x : List UInt8) (hx : x.length = 8) : ({ b with chk := x } : Blk).Ok := { h with chk := hx }
theorem Seg.get_chk {w : World} {g : Nat} {T : TypeId} {pre post : List Value} {b : Blk} (h : Seg w g T pre b.bytes post) : Seg w g T (pre ++ Lib.byteCells b.bef_chk) b.chk (Lib.byteCells b.aft_chk ++ post) := Seg.split.1 (by rw [← Blk.at_chk]; exact h)
theorem Seg.put_chk {w : World} {g : Nat} {T : TypeId} {pre post : List Value} {b : Blk} {x : List UInt8} (h : Seg w g T (pre ++ Lib.byteCells b.bef_chk) x (Lib.byteCells b.aft_chk ++ post)) : Seg w g T pre ({ b with chk := x } : Blk).bytes post := by rw [Blk.put_chk]; exact Seg.split.2 h
theorem Blk.Ok.off_chk {b : Blk} (h : b.Ok) (pre : List Value) : (pre ++ Lib.byteCells b.bef_chk).length = pre.length + 148 := by rw [List.length_append,Lib.byteCells_length,h.bef_chk]
def Blk.bef_typ (b : Blk) : List UInt8 := b.name ++ (b.mode ++ (b.uid ++ (b.gid ++ (b.size ++ (b.mtime ++ (b.chk))))))
def Blk.aft_typ (b : Blk) : List UInt8 := b.link ++ (b.magic ++ (b.ver ++ (b.user ++ (b.group ++ (b.maj ++ (b.mnr ++ (b.rest)))))))
theorem Blk.at_typ (b : Blk) : b.bytes = b.bef_typ ++ (b.typ ++ b.aft_typ) := by simp only [Blk.bytes,Blk.bef_typ,Blk.aft_typ,List.append_assoc,List.nil_append,List.append_nil]
theorem Blk.put_typ (b : Blk) (x : List UInt8) : { b with typ := x }.bytes = b.bef_typ ++ (x ++ b.aft_typ) := by simp only [Blk.bytes,Blk.bef_typ,Blk.aft_typ,List.append_assoc,List.nil_append,List.append_nil]
theorem Blk.Ok.bef_typ {b : Blk} (h : b.Ok) : b.bef_typ.length = 156 := by simp [Blk.bef_typ,h.name,h.mode,h.uid,h.gid,h.size,h.mtime,h.chk]
theorem Blk.Ok.put_typ {b : Blk} (h : b.Ok) (x : List UInt8) (hx : x.length = 1) : ({ b with typ := x } : Blk).Ok := { h with typ := hx }
theorem Seg.get_typ {w : World} {g : Nat} {T : TypeId} {pre post : List Value} {b : Blk} (h : Seg w g T pre b.bytes post) : Seg w g T (pre ++ Lib.byteCells b.bef_typ) b.typ (Lib.byteCells b.aft_typ ++ post) := Seg.split.1 (by rw [← Blk.at_typ]; exact h)
theorem Seg.put_typ {w : World} {g : Nat} {T : TypeId} {pre post : List Value} {b : Blk} {x : List UInt8} (h : Seg w g T (pre ++ Lib.byteCells b.bef_typ) x (Lib.byteCells b.aft_typ ++ post)) : Seg w g T pre ({ b with typ := x } : Blk).bytes post := by rw [Blk.put_typ]; exact Seg.split.2 h
theorem Blk.Ok.off_typ {b : Blk} (h : b.Ok) (pre : List Value) : (pre ++ Lib.byteCells b.bef_typ).length = pre.length + 156 := by rw [List.length_append,Lib.byteCells_length,h.bef_typ]
def Blk.bef_link (b : Blk) : List UInt8 := b.name ++ (b.mode ++ (b.uid ++ (b.gid ++ (b.size ++ (b.mtime ++ (b.chk ++ (b.typ)))))))
def Blk.aft_link (b : Blk) : List UInt8 := b.magic ++ (b.ver ++ (b.user ++ (b.group ++ (b.maj ++ (b.mnr ++ (b.rest))))))
theorem Blk.at_link (b : Blk) : b.bytes = b.bef_link ++ (b.link ++ b.aft_link) := by simp only [Blk.bytes,Blk.bef_link,Blk.aft_link,List.append_assoc,List.nil_append,List.append_nil]
theorem Blk.put_link (b : Blk) (x : List UInt8) : { b with link := x }.bytes = b.bef_link ++ (x ++ b.aft_link) := by simp only [Blk.bytes,Blk.bef_link,Blk.aft_link,List.append_assoc,List.nil_append,List.append_nil]
theorem Blk.Ok.bef_link {b : Blk} (h : b.Ok) : b.bef_link.length = 157 := by simp [Blk.bef_link,h.name,h.mode,h.uid,h.gid,h.size,h.mtime,h.chk,h.typ]
theorem Blk.Ok.put_link {b : Blk} (h : b.Ok) (x : List UInt8) (hx : x.length = 100) : ({ b with link := x } : Blk).Ok := { h with link := hx }
theorem Seg.get_link {w : World} {g : Nat} {T : TypeId} {pre post : List Value} {b : Blk} (h : Seg w g T pre b.bytes post) : Seg w g T (pre ++ Lib.byteCells b.bef_link) b.link (Lib.byteCells b.aft_link ++ post) := Seg.split.1 (by rw [← Blk.at_link]; exact h)
theorem Seg.put_link {w : World} {g : Nat} {T : TypeId} {pre post : List Value} {b : Blk} {x : List UInt8} (h : Seg w g T (pre ++ Lib.byteCells b.bef_link) x (Lib.byteCells b.aft_link ++ post)) : Seg w g T pre ({ b with link := x } : Blk).bytes post := by rw [Blk.put_link]; exact Seg.split.2 h
theorem Blk.Ok.off_link {b : Blk} (h : b.Ok) (pre : List Value) : (pre ++ Lib.byteCells b.bef_link).length = pre.length + 157 := by rw [List.length_append,Lib.byteCells_length,h.bef_link]
def Blk.bef_magic (b : Blk) : List UInt8 := b.name ++ (b.mode ++ (b.uid ++ (b.gid ++ (b.size ++ (b.mtime ++ (b.chk ++ (b.typ ++ (b.link))))))))
def Blk.aft_magic (b : Blk) : List UInt8 := b.ver ++ (b.user ++ (b.group ++ (b.maj ++ (b.mnr ++ (b.rest)))))
theorem Blk.at_magic (b : Blk) : b.bytes = b.bef_magic ++ (b.magic ++ b.aft_magic) := by simp only [Blk.bytes,Blk.bef_magic,Blk.aft_magic,List.append_assoc,List.nil_append,List.append_nil]
theorem Blk.put_magic (b : Blk) (x : List UInt8) : { b with magic := x }.bytes = b.bef_magic ++ (x ++ b.aft_magic) := by simp only [Blk.bytes,Blk.bef_magic,Blk.aft_magic,List.append_assoc,List.nil_append,List.append_nil]
theorem Blk.Ok.bef_magic {b : Blk} (h : b.Ok) : b.bef_magic.length = 257 := by simp [Blk.bef_magic,h.name,h.mode,h.uid,h.gid,h.size,h.mtime,h.chk,h.typ,h.link]
theorem Blk.Ok.put_magic {b : Blk} (h : b.Ok) (x : List UInt8) (hx : x.length = 6) : ({ b with magic := x } : Blk).Ok := { h with magic := hx }
theorem Seg.get_magic {w : World} {g : Nat} {T : TypeId} {pre post : List Value} {b : Blk} (h : Seg w g T pre b.bytes post) : Seg w g T (pre ++ Lib.byteCells b.bef_magic) b.magic (Lib.byteCells b.aft_magic ++ post) := Seg.split.1 (by rw [← Blk.at_magic]; exact h)
theorem Seg.put_magic {w : World} {g : Nat} {T : TypeId} {pre post : List Value} {b : Blk} {x : List UInt8} (h : Seg w g T (pre ++ Lib.byteCells b.bef_magic) x (Lib.byteCells b.aft_magic ++ post)) : Seg w g T pre ({ b with magic := x } : Blk).bytes post := by rw [Blk.put_magic]; exact Seg.split.2 h
theorem Blk.Ok.off_magic {b : Blk} (h : b.Ok) (pre : List Value) : (pre ++ Lib.byteCells b.bef_magic).length = pre.length + 257 := by rw [List.length_append,Lib.byteCells_length,h.bef_magic]
def Blk.bef_ver (b : Blk) : List UInt8 := b.name ++ (b.mode ++ (b.uid ++ (b.gid ++ (b.size ++ (b.mtime ++ (b.chk ++ (b.typ ++ (b.link ++ (b.magic)))))))))
def Blk.aft_ver (b : Blk) : List UInt8 := b.user ++ (b.group ++ (b.maj ++ (b.mnr ++ (b.rest))))
theorem Blk.at_ver (b : Blk) : b.bytes = b.bef_ver ++ (b.ver ++ b.aft_ver) := by simp only [Blk.bytes,Blk.bef_ver,Blk.aft_ver,List.append_assoc,List.nil_append,List.append_nil]
theorem Blk.put_ver (b : Blk) (x : List UInt8) : { b with ver := x }.bytes = b.bef_ver ++ (x ++ b.aft_ver) := by simp only [Blk.bytes,Blk.bef_ver,Blk.aft_ver,List.append_assoc,List.nil_append,List.append_nil]
theorem Blk.Ok.bef_ver {b : Blk} (h : b.Ok) : b.bef_ver.length = 263 := by simp [Blk.bef_ver,h.name,h.mode,h.uid,h.gid,h.size,h.mtime,h.chk,h.typ,h.link,h.magic]
theorem Blk.Ok.put_ver {b : Blk} (h : b.Ok) (x : List UInt8) (hx : x.length = 2) : ({ b with ver := x } : Blk).Ok := { h with ver := hx }
theorem Seg.get_ver {w : World} {g : Nat} {T : TypeId} {pre post : List Value} {b : Blk} (h : Seg w g T pre b.bytes post) : Seg w g T (pre ++ Lib.byteCells b.bef_ver) b.ver (Lib.byteCells b.aft_ver ++ post) := Seg.split.1 (by rw [← Blk.at_ver]; exact h)
theorem Seg.put_ver {w : World} {g : Nat} {T : TypeId} {pre post : List Value} {b : Blk} {x : List UInt8} (h : Seg w g T (pre ++ Lib.byteCells b.bef_ver) x (Lib.byteCells b.aft_ver ++ post)) : Seg w g T pre ({ b with ver := x } : Blk).bytes post := by rw [Blk.put_ver]; exact Seg.split.2 h
theorem Blk.Ok.off_ver {b : Blk} (h : b.Ok) (pre : List Value) : (pre ++ Lib.byteCells b.bef_ver).length = pre.length + 263 := by rw [List.length_append,Lib.byteCells_length,h.bef_ver]
def Blk.bef_user (b : Blk) : List UInt8 := b.name ++ (b.mode ++ (b.uid ++ (b.gid ++ (b.size ++ (b.mtime ++ (b.chk ++ (b.typ ++ (b.link ++ (b.magic ++ (b.ver))))))))))
def Blk.aft_user (b : Blk) : List UInt8 := b.group ++ (b.maj ++ (b.mnr ++ (b.rest)))
theorem Blk.at_user (b : Blk) : b.bytes = b.bef_user ++ (b.user ++ b.aft_user) := by simp only [Blk.bytes,Blk.bef_user,Blk.aft_user,List.append_assoc,List.nil_append,List.append_nil]
theorem Blk.put_user (b : Blk) (x : List UInt8) : { b with user := x }.bytes = b.bef_user ++ (x ++ b.aft_user) := by simp only [Blk.bytes,Blk.bef_user,Blk.aft_user,List.append_assoc,List.nil_append,List.append_nil]
theorem Blk.Ok.bef_user {b : Blk} (h : b.Ok) : b.bef_user.length = 265 := by simp [Blk.bef_user,h.name,h.mode,h.uid,h.gid,h.size,h.mtime,h.chk,h.typ,h.link,h.magic,h.ver]
theorem Blk.Ok.put_user {b : Blk} (h : b.Ok) (x : List UInt8) (hx : x.length = 32) : ({ b with user := x } : Blk).Ok := { h with user := hx }
theorem Seg.get_user {w : World} {g : Nat} {T : TypeId} {pre post : List Value} {b : Blk} (h : Seg w g T pre b.bytes post) : Seg w g T (pre ++ Lib.byteCells b.bef_user) b.user (Lib.byteCells b.aft_user ++ post) := Seg.split.1 (by rw [← Blk.at_user]; exact h)
theorem Seg.put_user {w : World} {g : Nat} {T : TypeId} {pre post : List Value} {b : Blk} {x : List UInt8} (h : Seg w g T (pre ++ Lib.byteCells b.bef_user) x (Lib.byteCells b.aft_user ++ post)) : Seg w g T pre ({ b with user := x } : Blk).bytes post := by rw [Blk.put_user]; exact Seg.split.2 h
theorem Blk.Ok.off_user {b : Blk} (h : b.Ok) (pre : List Value) : (pre ++ Lib.byteCells b.bef_user).length = pre.length + 265 := by rw [List.length_append,Lib.byteCells_length,h.bef_user]
def Blk.bef_group (b : Blk) : List UInt8 := b.name ++ (b.mode ++ (b.uid ++ (b.gid ++ (b.size ++ (b.mtime ++ (b.chk ++ (b.typ ++ (b.link ++ (b.magic ++ (b.ver ++ (b.user)))))))))))
def Blk.aft_group (b : Blk) : List UInt8 := b.maj ++ (b.mnr ++ (b.rest))
theorem Blk.at_group (b : Blk) : b.bytes = b.bef_group ++ (b.group ++ b.aft_group) := by simp only [Blk.bytes,Blk.bef_group,Blk.aft_group,List.append_assoc,List.nil_append,List.append_nil]
theorem Blk.put_group (b : Blk) (x : List UInt8) : { b with group := x }.bytes = b.bef_group ++ (x ++ b.aft_group) := by simp only [Blk.bytes,Blk.bef_group,Blk.aft_group,List.append_assoc,List.nil_append,List.append_nil]
theorem Blk.Ok.bef_group {b : Blk} (h : b.Ok) : b.bef_group.length = 297 := by simp [Blk.bef_group,h.name,h.mode,h.uid,h.gid,h.size,h.mtime,h.chk,h.typ,h.link,h.magic,h.ver,h.user]
theorem Blk.Ok.put_group {b : Blk} (h : b.Ok) (x : List UInt8) (hx : x.length = 32) : ({ b with group := x } : Blk).Ok := { h with group := hx }
theorem Seg.get_group {w : World} {g : Nat} {T : TypeId} {pre post : List Value} {b : Blk} (h : Seg w g T pre b.bytes post) : Seg w g T (pre ++ Lib.byteCells b.bef_group) b.group (Lib.byteCells b.aft_group ++ post) := Seg.split.1 (by rw [← Blk.at_group]; exact h)
theorem Seg.put_group {w : World} {g : Nat} {T : TypeId} {pre post : List Value} {b : Blk} {x : List UInt8} (h : Seg w g T (pre ++ Lib.byteCells b.bef_group) x (Lib.byteCells b.aft_group ++ post)) : Seg w g T pre ({ b with group := x } : Blk).bytes post := by rw [Blk.put_group]; exact Seg.split.2 h
theorem Blk.Ok.off_group {b : Blk} (h : b.Ok) (pre : List Value) : (pre ++ Lib.byteCells b.bef_group).length = pre.length + 297 := by rw [List.length_append,Lib.byteCells_length,h.bef_group]
def Blk.bef_maj (b : Blk) : List UInt8 := b.name ++ (b.mode ++ (b.uid ++ (b.gid ++ (b.size ++ (b.mtime ++ (b.chk ++ (b.typ ++ (b.link ++ (b.magic ++ (b.ver ++ (b.user ++ (b.group))))))))))))
def Blk.aft_maj (b : Blk) : List UInt8 := b.mnr ++ (b.rest)
theorem Blk.at_maj (b : Blk) : b.bytes = b.bef_maj ++ (b.maj ++ b.aft_maj) := by simp only [Blk.bytes,Blk.bef_maj,Blk.aft_maj,List.append_assoc,List.nil_append,List.append_nil]
theorem Blk.put_maj (b : Blk) (x : List UInt8) : { b with maj := x }.bytes = b.bef_maj ++ (x ++ b.aft_maj) := by simp only [Blk.bytes,Blk.bef_maj,Blk.aft_maj,List.append_assoc,List.nil_append,List.append_nil]
theorem Blk.Ok.bef_maj {b : Blk} (h : b.Ok) : b.bef_maj.length = 329 := by simp [Blk.bef_maj,h.name,h.mode,h.uid,h.gid,h.size,h.mtime,h.chk,h.typ,h.link,h.magic,h.ver,h.user,h.group]
theorem Blk.Ok.put_maj {b : Blk} (h : b.Ok) (x : List UInt8) (hx : x.length = 8) : ({ b with maj := x } : Blk).Ok := { h with maj := hx }
theorem Seg.get_maj {w : World} {g : Nat} {T : TypeId} {pre post : List Value} {b : Blk} (h : Seg w g T pre b.bytes post) : Seg w g T (pre ++ Lib.byteCells b.bef_maj) b.maj (Lib.byteCells b.aft_maj ++ post) := Seg.split.1 (by rw [← Blk.at_maj]; exact h)
theorem Seg.put_maj {w : World} {g : Nat} {T : TypeId} {pre post : List Value} {b : Blk} {x : List UInt8} (h : Seg w g T (pre ++ Lib.byteCells b.bef_maj) x (Lib.byteCells b.aft_maj ++ post)) : Seg w g T pre ({ b with maj := x } : Blk).bytes post := by rw [Blk.put_maj]; exact Seg.split.2 h
theorem Blk.Ok.off_maj {b : Blk} (h : b.Ok) (pre : List Value) : (pre ++ Lib.byteCells b.bef_maj).length = pre.length + 329 := by rw [List.length_append,Lib.byteCells_length,h.bef_maj]
def Blk.bef_mnr (b : Blk) : List UInt8 := b.name ++ (b.mode ++ (b.uid ++ (b.gid ++ (b.size ++ (b.mtime ++ (b.chk ++ (b.typ ++ (b.link ++ (b.magic ++ (b.ver ++ (b.user ++ (b.group ++ (b.maj)))))))))))))
def Blk.aft_mnr (b : Blk) : List UInt8 := b.rest
theorem Blk.at_mnr (b : Blk) : b.bytes = b.bef_mnr ++ (b.mnr ++ b.aft_mnr) := by simp only [Blk.bytes,Blk.bef_mnr,Blk.aft_mnr,List.append_assoc,List.nil_append,List.append_nil]
theorem Blk.put_mnr (b : Blk) (x : List UInt8) : { b with mnr := x }.bytes = b.bef_mnr ++ (x ++ b.aft_mnr) := by simp only [Blk.bytes,Blk.bef_mnr,Blk.aft_mnr,List.append_assoc,List.nil_append,List.append_nil]
theorem Blk.Ok.bef_mnr {b : Blk} (h : b.Ok) : b.bef_mnr.length = 337 := by simp [Blk.bef_mnr,h.name,h.mode,h.uid,h.gid,h.size,h.mtime,h.chk,h.typ,h.link,h.magic,h.ver,h.user,h.group,h.maj]
theorem Blk.Ok.put_mnr {b : Blk} (h : b.Ok) (x : List UInt8) (hx : x.length = 8) : ({ b with mnr := x } : Blk).Ok := { h with mnr := hx }
theorem Seg.get_mnr {w : World} {g : Nat} {T : TypeId} {pre post : List Value} {b : Blk} (h : Seg w g T pre b.bytes post) : Seg w g T (pre ++ Lib.byteCells b.bef_mnr) b.mnr (Lib.byteCells b.aft_mnr ++ post) := Seg.split.1 (by rw [← Blk.at_mnr]; exact h)
theorem Seg.put_mnr {w : World} {g : Nat} {T : TypeId} {pre post : List Value} {b : Blk} {x : List UInt8} (h : Seg w g T (pre ++ Lib.byteCells b.bef_mnr) x (Lib.byteCells b.aft_mnr ++ post)) : Seg w g T pre ({ b with mnr := x } : Blk).bytes post := by rw [Blk.put_mnr]; exact Seg.split.2 h
theorem Blk.Ok.off_mnr {b : Blk} (h : b.Ok) (pre : List Value) : (pre ++ Lib.byteCells b.bef_mnr).length = pre.length + 337 := by rw [List.length_append,Lib.byteCells_length,h.bef_mnr]
def Blk.bef_rest (b : Blk) : List UInt8 := b.name ++ (b.mode ++ (b.uid ++ (b.gid ++ (b.size ++ (b.mtime ++ (b.chk ++ (b.typ ++ (b.link ++ (b.magic ++ (b.ver ++ (b.user ++ (b.group ++ (b.maj ++ (b.mnr))))))))))))))
def Blk.aft_rest (b : Blk) : List UInt8 := []
theorem Blk.at_rest (b : Blk) : b.bytes = b.bef_rest ++ (b.rest ++ b.aft_rest) := by simp only [Blk.bytes,Blk.bef_rest,Blk.aft_rest,List.append_assoc,List.nil_append,List.append_nil]
theorem Blk.put_rest (b : Blk) (x : List UInt8) : { b with rest := x }.bytes = b.bef_rest ++ (x ++ b.aft_rest) := by simp only [Blk.bytes,Blk.bef_rest,Blk.aft_rest,List.append_assoc,List.nil_append,List.append_nil]
theorem Blk.Ok.bef_rest {b : Blk} (h : b.Ok) : b.bef_rest.length = 345 := by simp [Blk.bef_rest,h.name,h.mode,h.uid,h.gid,h.size,h.mtime,h.chk,h.typ,h.link,h.magic,h.ver,h.user,h.group,h.maj,h.mnr]
theorem Blk.Ok.put_rest {b : Blk} (h : b.Ok) (x : List UInt8) (hx : x.length = 167) : ({ b with rest := x } : Blk).Ok := { h with rest := hx }
theorem Seg.get_rest {w : World} {g : Nat} {T : TypeId} {pre post : List Value} {b : Blk} (h : Seg w g T pre b.bytes post) : Seg w g T (pre ++ Lib.byteCells b.bef_rest) b.rest (Lib.byteCells b.aft_rest ++ post) := Seg.split.1 (by rw [← Blk.at_rest]; exact h)
theorem Seg.put_rest {w : World} {g : Nat} {T : TypeId} {pre post : List Value} {b : Blk} {x : List UInt8} (h : Seg w g T (pre ++ Lib.byteCells b.bef_rest) x (Lib.byteCells b.aft_rest ++ post)) : Seg w g T pre ({ b with rest := x } : Blk).bytes post := by rw [Blk.put_rest]; exact Seg.split.2 h
theorem Blk.Ok.off_rest {b : Blk} (h : b.Ok) (pre : List Value) : (pre ++ Lib.byteCells b.bef_rest).length = pre.length + 345 := by rw [List.length_append,Lib.byteCells_length,h.bef_rest]
end Go.Proofs.YtkanmkcojlefbaaGreatDoor
