/-
  Part of the proof; holds the texts Blk, SetF.
-/
import Derived.Test.YtkanmkcojlefbaaGreatDoorM04
set_option maxRecDepth 100000
set_option linter.unusedSimpArgs false
set_option linter.unusedVariables false
namespace Go.Proofs.YtkanmkcojlefbaaGreatDoor
open Go.RowKit
structure C1 where
 name:List UInt8
 mode:List UInt8
 uid:List UInt8
 gid:List UInt8
 size:List UInt8
 mtime:List UInt8
 chk:List UInt8
 typ:List UInt8
 link:List UInt8
 magic:List UInt8
 ver:List UInt8
 user:List UInt8
 group:List UInt8
 maj:List UInt8
 mnr:List UInt8
 rest:List UInt8
def C1.bytes (b:C1):List UInt8:=b.name++(b.mode++(b.uid++(b.gid++(b.size++(b.mtime++(b.chk++(b.typ++(b.link++(b.magic++(b.ver++(b.user++(b.group++(b.maj++(b.mnr++(b.rest)))))))))))))))
structure C1.Ok (b:C1):Prop where
 name:b.name.length=100
 mode:b.mode.length=8
 uid:b.uid.length=8
 gid:b.gid.length=8
 size:b.size.length=12
 mtime:b.mtime.length=12
 chk:b.chk.length=8
 typ:b.typ.length=1
 link:b.link.length=100
 magic:b.magic.length=6
 ver:b.ver.length=2
 user:b.user.length=32
 group:b.group.length=32
 maj:b.maj.length=8
 mnr:b.mnr.length=8
 rest:b.rest.length=167
theorem C1.Ok.len {b:C1} (h:b.Ok):b.bytes.length=512:=by
 simp[C1.bytes,h.name,h.mode,h.uid,h.gid,h.size,h.mtime,h.chk,h.typ,h.link,h.magic,h.ver,h.user,h.group,h.maj,h.mnr,h.rest]
theorem E4.split {w:World} {g:Nat} {T:TypeId} {AA post:List Value} {a f c:List UInt8}:E4 w g T AA (a++(f++c)) post↔E4 w g T (AA++Lib.byteCells a) f (Lib.byteCells c++post):=by
 simp only[E4,Lib.byteCells_append,List.append_assoc]
def C1.zero:C1:=⟨List.replicate 100 0,List.replicate 8 0,List.replicate 8 0,List.replicate 8 0,List.replicate 12 0,List.replicate 12 0,List.replicate 8 0,List.replicate 1 0,List.replicate 100 0,List.replicate 6 0,List.replicate 2 0,List.replicate 32 0,List.replicate 32 0,List.replicate 8 0,List.replicate 8 0,List.replicate 167 0⟩
theorem C1.zero_ok:C1.zero.Ok:=⟨rfl,rfl,rfl,rfl,rfl,rfl,rfl,rfl,rfl,rfl,rfl,rfl,rfl,rfl,rfl,rfl⟩
theorem C1.zero_bytes:C1.zero.bytes=List.replicate 512 0:=by kernel_rfl
def C1.bef_name (b:C1):List UInt8:=[]
def C1.aft_name (b:C1):List UInt8:=b.mode++(b.uid++(b.gid++(b.size++(b.mtime++(b.chk++(b.typ++(b.link++(b.magic++(b.ver++(b.user++(b.group++(b.maj++(b.mnr++(b.rest))))))))))))))
theorem C1.at_name (b:C1):b.bytes=b.bef_name++(b.name++b.aft_name):=by simp only[C1.bytes,C1.bef_name,C1.aft_name,List.append_assoc,List.nil_append,List.append_nil]
theorem C1.put_name (b:C1) (x:List UInt8): {b with name:=x}.bytes=b.bef_name++(x++b.aft_name):=by simp only[C1.bytes,C1.bef_name,C1.aft_name,List.append_assoc,List.nil_append,List.append_nil]
theorem C1.Ok.bef_name {b:C1} (h:b.Ok):b.bef_name.length=0:=by simp[C1.bef_name]
theorem C1.Ok.put_name {b:C1} (h:b.Ok) (x:List UInt8) (hx:x.length=100): ({b with name:=x}:C1).Ok:= {h with name:=hx}
theorem E4.get_name {w:World} {g:Nat} {T:TypeId} {AA post:List Value} {b:C1} (h:E4 w g T AA b.bytes post):E4 w g T (AA++Lib.byteCells b.bef_name) b.name (Lib.byteCells b.aft_name++post):=E4.split.1 (by rw[<-C1.at_name];exact h)
theorem E4.put_name {w:World} {g:Nat} {T:TypeId} {AA post:List Value} {b:C1} {x:List UInt8} (h:E4 w g T (AA++Lib.byteCells b.bef_name) x (Lib.byteCells b.aft_name++post)):E4 w g T AA ({b with name:=x}:C1).bytes post:=by rw[C1.put_name];exact E4.split.2 h
theorem C1.Ok.off_name {b:C1} (h:b.Ok) (AA:List Value): (AA++Lib.byteCells b.bef_name).length=AA.length+0:=by rw[List.length_append,Lib.byteCells_length,h.bef_name]
def C1.bef_mode (b:C1):List UInt8:=b.name
def C1.aft_mode (b:C1):List UInt8:=b.uid++(b.gid++(b.size++(b.mtime++(b.chk++(b.typ++(b.link++(b.magic++(b.ver++(b.user++(b.group++(b.maj++(b.mnr++(b.rest)))))))))))))
theorem C1.at_mode (b:C1):b.bytes=b.bef_mode++(b.mode++b.aft_mode):=by simp only[C1.bytes,C1.bef_mode,C1.aft_mode,List.append_assoc,List.nil_append,List.append_nil]
theorem C1.put_mode (b:C1) (x:List UInt8): {b with mode:=x}.bytes=b.bef_mode++(x++b.aft_mode):=by simp only[C1.bytes,C1.bef_mode,C1.aft_mode,List.append_assoc,List.nil_append,List.append_nil]
theorem C1.Ok.bef_mode {b:C1} (h:b.Ok):b.bef_mode.length=100:=by simp[C1.bef_mode,h.name]
theorem C1.Ok.put_mode {b:C1} (h:b.Ok) (x:List UInt8) (hx:x.length=8): ({b with mode:=x}:C1).Ok:= {h with mode:=hx}
theorem E4.get_mode {w:World} {g:Nat} {T:TypeId} {AA post:List Value} {b:C1} (h:E4 w g T AA b.bytes post):E4 w g T (AA++Lib.byteCells b.bef_mode) b.mode (Lib.byteCells b.aft_mode++post):=E4.split.1 (by rw[<-C1.at_mode];exact h)
theorem E4.put_mode {w:World} {g:Nat} {T:TypeId} {AA post:List Value} {b:C1} {x:List UInt8} (h:E4 w g T (AA++Lib.byteCells b.bef_mode) x (Lib.byteCells b.aft_mode++post)):E4 w g T AA ({b with mode:=x}:C1).bytes post:=by rw[C1.put_mode];exact E4.split.2 h
theorem C1.Ok.off_mode {b:C1} (h:b.Ok) (AA:List Value): (AA++Lib.byteCells b.bef_mode).length=AA.length+100:=by rw[List.length_append,Lib.byteCells_length,h.bef_mode]
def C1.bef_uid (b:C1):List UInt8:=b.name++(b.mode)
def C1.aft_uid (b:C1):List UInt8:=b.gid++(b.size++(b.mtime++(b.chk++(b.typ++(b.link++(b.magic++(b.ver++(b.user++(b.group++(b.maj++(b.mnr++(b.rest))))))))))))
theorem C1.at_uid (b:C1):b.bytes=b.bef_uid++(b.uid++b.aft_uid):=by simp only[C1.bytes,C1.bef_uid,C1.aft_uid,List.append_assoc,List.nil_append,List.append_nil]
theorem C1.put_uid (b:C1) (x:List UInt8): {b with uid:=x}.bytes=b.bef_uid++(x++b.aft_uid):=by simp only[C1.bytes,C1.bef_uid,C1.aft_uid,List.append_assoc,List.nil_append,List.append_nil]
theorem C1.Ok.bef_uid {b:C1} (h:b.Ok):b.bef_uid.length=108:=by simp[C1.bef_uid,h.name,h.mode]
theorem C1.Ok.put_uid {b:C1} (h:b.Ok) (x:List UInt8) (hx:x.length=8): ({b with uid:=x}:C1).Ok:= {h with uid:=hx}
theorem E4.get_uid {w:World} {g:Nat} {T:TypeId} {AA post:List Value} {b:C1} (h:E4 w g T AA b.bytes post):E4 w g T (AA++Lib.byteCells b.bef_uid) b.uid (Lib.byteCells b.aft_uid++post):=E4.split.1 (by rw[<-C1.at_uid];exact h)
theorem E4.put_uid {w:World} {g:Nat} {T:TypeId} {AA post:List Value} {b:C1} {x:List UInt8} (h:E4 w g T (AA++Lib.byteCells b.bef_uid) x (Lib.byteCells b.aft_uid++post)):E4 w g T AA ({b with uid:=x}:C1).bytes post:=by rw[C1.put_uid];exact E4.split.2 h
theorem C1.Ok.off_uid {b:C1} (h:b.Ok) (AA:List Value): (AA++Lib.byteCells b.bef_uid).length=AA.length+108:=by rw[List.length_append,Lib.byteCells_length,h.bef_uid]
def C1.bef_gid (b:C1):List UInt8:=b.name++(b.mode++(b.uid))
def C1.aft_gid (b:C1):List UInt8:=b.size++(b.mtime++(b.chk++(b.typ++(b.link++(b.magic++(b.ver++(b.user++(b.group++(b.maj++(b.mnr++(b.rest)))))))))))
theorem C1.at_gid (b:C1):b.bytes=b.bef_gid++(b.gid++b.aft_gid):=by simp only[C1.bytes,C1.bef_gid,C1.aft_gid,List.append_assoc,List.nil_append,List.append_nil]
theorem C1.put_gid (b:C1) (x:List UInt8): {b with gid:=x}.bytes=b.bef_gid++(x++b.aft_gid):=by simp only[C1.bytes,C1.bef_gid,C1.aft_gid,List.append_assoc,List.nil_append,List.append_nil]
theorem C1.Ok.bef_gid {b:C1} (h:b.Ok):b.bef_gid.length=116:=by simp[C1.bef_gid,h.name,h.mode,h.uid]
theorem C1.Ok.put_gid {b:C1} (h:b.Ok) (x:List UInt8) (hx:x.length=8): ({b with gid:=x}:C1).Ok:= {h with gid:=hx}
theorem E4.get_gid {w:World} {g:Nat} {T:TypeId} {AA post:List Value} {b:C1} (h:E4 w g T AA b.bytes post):E4 w g T (AA++Lib.byteCells b.bef_gid) b.gid (Lib.byteCells b.aft_gid++post):=E4.split.1 (by rw[<-C1.at_gid];exact h)
theorem E4.put_gid {w:World} {g:Nat} {T:TypeId} {AA post:List Value} {b:C1} {x:List UInt8} (h:E4 w g T (AA++Lib.byteCells b.bef_gid) x (Lib.byteCells b.aft_gid++post)):E4 w g T AA ({b with gid:=x}:C1).bytes post:=by rw[C1.put_gid];exact E4.split.2 h
theorem C1.Ok.off_gid {b:C1} (h:b.Ok) (AA:List Value): (AA++Lib.byteCells b.bef_gid).length=AA.length+116:=by rw[List.length_append,Lib.byteCells_length,h.bef_gid]
def C1.bef_size (b:C1):List UInt8:=b.name++(b.mode++(b.uid++(b.gid)))
def C1.aft_size (b:C1):List UInt8:=b.mtime++(b.chk++(b.typ++(b.link++(b.magic++(b.ver++(b.user++(b.group++(b.maj++(b.mnr++(b.rest))))))))))
theorem C1.at_size (b:C1):b.bytes=b.bef_size++(b.size++b.aft_size):=by simp only[C1.bytes,C1.bef_size,C1.aft_size,List.append_assoc,List.nil_append,List.append_nil]
theorem C1.put_size (b:C1) (x:List UInt8): {b with size:=x}.bytes=b.bef_size++(x++b.aft_size):=by simp only[C1.bytes,C1.bef_size,C1.aft_size,List.append_assoc,List.nil_append,List.append_nil]
theorem C1.Ok.bef_size {b:C1} (h:b.Ok):b.bef_size.length=124:=by simp[C1.bef_size,h.name,h.mode,h.uid,h.gid]
theorem C1.Ok.put_size {b:C1} (h:b.Ok) (x:List UInt8) (hx:x.length=12): ({b with size:=x}:C1).Ok:= {h with size:=hx}
theorem E4.get_size {w:World} {g:Nat} {T:TypeId} {AA post:List Value} {b:C1} (h:E4 w g T AA b.bytes post):E4 w g T (AA++Lib.byteCells b.bef_size) b.size (Lib.byteCells b.aft_size++post):=E4.split.1 (by rw[<-C1.at_size];exact h)
theorem E4.put_size {w:World} {g:Nat} {T:TypeId} {AA post:List Value} {b:C1} {x:List UInt8} (h:E4 w g T (AA++Lib.byteCells b.bef_size) x (Lib.byteCells b.aft_size++post)):E4 w g T AA ({b with size:=x}:C1).bytes post:=by rw[C1.put_size];exact E4.split.2 h
theorem C1.Ok.off_size {b:C1} (h:b.Ok) (AA:List Value): (AA++Lib.byteCells b.bef_size).length=AA.length+124:=by rw[List.length_append,Lib.byteCells_length,h.bef_size]
def C1.bef_mtime (b:C1):List UInt8:=b.name++(b.mode++(b.uid++(b.gid++(b.size))))
def C1.aft_mtime (b:C1):List UInt8:=b.chk++(b.typ++(b.link++(b.magic++(b.ver++(b.user++(b.group++(b.maj++(b.mnr++(b.rest)))))))))
theorem C1.at_mtime (b:C1):b.bytes=b.bef_mtime++(b.mtime++b.aft_mtime):=by simp only[C1.bytes,C1.bef_mtime,C1.aft_mtime,List.append_assoc,List.nil_append,List.append_nil]
theorem C1.put_mtime (b:C1) (x:List UInt8): {b with mtime:=x}.bytes=b.bef_mtime++(x++b.aft_mtime):=by simp only[C1.bytes,C1.bef_mtime,C1.aft_mtime,List.append_assoc,List.nil_append,List.append_nil]
theorem C1.Ok.bef_mtime {b:C1} (h:b.Ok):b.bef_mtime.length=136:=by simp[C1.bef_mtime,h.name,h.mode,h.uid,h.gid,h.size]
theorem C1.Ok.put_mtime {b:C1} (h:b.Ok) (x:List UInt8) (hx:x.length=12): ({b with mtime:=x}:C1).Ok:= {h with mtime:=hx}
theorem E4.get_mtime {w:World} {g:Nat} {T:TypeId} {AA post:List Value} {b:C1} (h:E4 w g T AA b.bytes post):E4 w g T (AA++Lib.byteCells b.bef_mtime) b.mtime (Lib.byteCells b.aft_mtime++post):=E4.split.1 (by rw[<-C1.at_mtime];exact h)
theorem E4.put_mtime {w:World} {g:Nat} {T:TypeId} {AA post:List Value} {b:C1} {x:List UInt8} (h:E4 w g T (AA++Lib.byteCells b.bef_mtime) x (Lib.byteCells b.aft_mtime++post)):E4 w g T AA ({b with mtime:=x}:C1).bytes post:=by rw[C1.put_mtime];exact E4.split.2 h
theorem C1.Ok.off_mtime {b:C1} (h:b.Ok) (AA:List Value): (AA++Lib.byteCells b.bef_mtime).length=AA.length+136:=by rw[List.length_append,Lib.byteCells_length,h.bef_mtime]
def C1.bef_chk (b:C1):List UInt8:=b.name++(b.mode++(b.uid++(b.gid++(b.size++(b.mtime)))))
def C1.aft_chk (b:C1):List UInt8:=b.typ++(b.link++(b.magic++(b.ver++(b.user++(b.group++(b.maj++(b.mnr++(b.rest))))))))
theorem C1.at_chk (b:C1):b.bytes=b.bef_chk++(b.chk++b.aft_chk):=by simp only[C1.bytes,C1.bef_chk,C1.aft_chk,List.append_assoc,List.nil_append,List.append_nil]
theorem C1.put_chk (b:C1) (x:List UInt8): {b with chk:=x}.bytes=b.bef_chk++(x++b.aft_chk):=by simp only[C1.bytes,C1.bef_chk,C1.aft_chk,List.append_assoc,List.nil_append,List.append_nil]
theorem C1.Ok.bef_chk {b:C1} (h:b.Ok):b.bef_chk.length=148:=by simp[C1.bef_chk,h.name,h.mode,h.uid,h.gid,h.size,h.mtime]
theorem C1.Ok.put_chk {b:C1} (h:b.Ok) (x:List UInt8) (hx:x.length=8): ({b with chk:=x}:C1).Ok:= {h with chk:=hx}
theorem E4.get_chk {w:World} {g:Nat} {T:TypeId} {AA post:List Value} {b:C1} (h:E4 w g T AA b.bytes post):E4 w g T (AA++Lib.byteCells b.bef_chk) b.chk (Lib.byteCells b.aft_chk++post):=E4.split.1 (by rw[<-C1.at_chk];exact h)
theorem E4.put_chk {w:World} {g:Nat} {T:TypeId} {AA post:List Value} {b:C1} {x:List UInt8} (h:E4 w g T (AA++Lib.byteCells b.bef_chk) x (Lib.byteCells b.aft_chk++post)):E4 w g T AA ({b with chk:=x}:C1).bytes post:=by rw[C1.put_chk];exact E4.split.2 h
theorem C1.Ok.off_chk {b:C1} (h:b.Ok) (AA:List Value): (AA++Lib.byteCells b.bef_chk).length=AA.length+148:=by rw[List.length_append,Lib.byteCells_length,h.bef_chk]
def C1.bef_typ (b:C1):List UInt8:=b.name++(b.mode++(b.uid++(b.gid++(b.size++(b.mtime++(b.chk))))))
def C1.aft_typ (b:C1):List UInt8:=b.link++(b.magic++(b.ver++(b.user++(b.group++(b.maj++(b.mnr++(b.rest)))))))
theorem C1.at_typ (b:C1):b.bytes=b.bef_typ++(b.typ++b.aft_typ):=by simp only[C1.bytes,C1.bef_typ,C1.aft_typ,List.append_assoc,List.nil_append,List.append_nil]
theorem C1.put_typ (b:C1) (x:List UInt8): {b with typ:=x}.bytes=b.bef_typ++(x++b.aft_typ):=by simp only[C1.bytes,C1.bef_typ,C1.aft_typ,List.append_assoc,List.nil_append,List.append_nil]
theorem C1.Ok.bef_typ {b:C1} (h:b.Ok):b.bef_typ.length=156:=by simp[C1.bef_typ,h.name,h.mode,h.uid,h.gid,h.size,h.mtime,h.chk]
theorem C1.Ok.put_typ {b:C1} (h:b.Ok) (x:List UInt8) (hx:x.length=1): ({b with typ:=x}:C1).Ok:= {h with typ:=hx}
theorem E4.get_typ {w:World} {g:Nat} {T:TypeId} {AA post:List Value} {b:C1} (h:E4 w g T AA b.bytes post):E4 w g T (AA++Lib.byteCells b.bef_typ) b.typ (Lib.byteCells b.aft_typ++post):=E4.split.1 (by rw[<-C1.at_typ];exact h)
theorem E4.put_typ {w:World} {g:Nat} {T:TypeId} {AA post:List Value} {b:C1} {x:List UInt8} (h:E4 w g T (AA++Lib.byteCells b.bef_typ) x (Lib.byteCells b.aft_typ++post)):E4 w g T AA ({b with typ:=x}:C1).bytes post:=by rw[C1.put_typ];exact E4.split.2 h
theorem C1.Ok.off_typ {b:C1} (h:b.Ok) (AA:List Value): (AA++Lib.byteCells b.bef_typ).length=AA.length+156:=by rw[List.length_append,Lib.byteCells_length,h.bef_typ]
def C1.bef_link (b:C1):List UInt8:=b.name++(b.mode++(b.uid++(b.gid++(b.size++(b.mtime++(b.chk++(b.typ)))))))
def C1.aft_link (b:C1):List UInt8:=b.magic++(b.ver++(b.user++(b.group++(b.maj++(b.mnr++(b.rest))))))
theorem C1.at_link (b:C1):b.bytes=b.bef_link++(b.link++b.aft_link):=by simp only[C1.bytes,C1.bef_link,C1.aft_link,List.append_assoc,List.nil_append,List.append_nil]
theorem C1.put_link (b:C1) (x:List UInt8): {b with link:=x}.bytes=b.bef_link++(x++b.aft_link):=by simp only[C1.bytes,C1.bef_link,C1.aft_link,List.append_assoc,List.nil_append,List.append_nil]
theorem C1.Ok.bef_link {b:C1} (h:b.Ok):b.bef_link.length=157:=by simp[C1.bef_link,h.name,h.mode,h.uid,h.gid,h.size,h.mtime,h.chk,h.typ]
theorem C1.Ok.put_link {b:C1} (h:b.Ok) (x:List UInt8) (hx:x.length=100): ({b with link:=x}:C1).Ok:= {h with link:=hx}
theorem E4.get_link {w:World} {g:Nat} {T:TypeId} {AA post:List Value} {b:C1} (h:E4 w g T AA b.bytes post):E4 w g T (AA++Lib.byteCells b.bef_link) b.link (Lib.byteCells b.aft_link++post):=E4.split.1 (by rw[<-C1.at_link];exact h)
theorem E4.put_link {w:World} {g:Nat} {T:TypeId} {AA post:List Value} {b:C1} {x:List UInt8} (h:E4 w g T (AA++Lib.byteCells b.bef_link) x (Lib.byteCells b.aft_link++post)):E4 w g T AA ({b with link:=x}:C1).bytes post:=by rw[C1.put_link];exact E4.split.2 h
theorem C1.Ok.off_link {b:C1} (h:b.Ok) (AA:List Value): (AA++Lib.byteCells b.bef_link).length=AA.length+157:=by rw[List.length_append,Lib.byteCells_length,h.bef_link]
def C1.bef_magic (b:C1):List UInt8:=b.name++(b.mode++(b.uid++(b.gid++(b.size++(b.mtime++(b.chk++(b.typ++(b.link))))))))
def C1.aft_magic (b:C1):List UInt8:=b.ver++(b.user++(b.group++(b.maj++(b.mnr++(b.rest)))))
theorem C1.at_magic (b:C1):b.bytes=b.bef_magic++(b.magic++b.aft_magic):=by simp only[C1.bytes,C1.bef_magic,C1.aft_magic,List.append_assoc,List.nil_append,List.append_nil]
theorem C1.put_magic (b:C1) (x:List UInt8): {b with magic:=x}.bytes=b.bef_magic++(x++b.aft_magic):=by simp only[C1.bytes,C1.bef_magic,C1.aft_magic,List.append_assoc,List.nil_append,List.append_nil]
theorem C1.Ok.bef_magic {b:C1} (h:b.Ok):b.bef_magic.length=257:=by simp[C1.bef_magic,h.name,h.mode,h.uid,h.gid,h.size,h.mtime,h.chk,h.typ,h.link]
theorem C1.Ok.put_magic {b:C1} (h:b.Ok) (x:List UInt8) (hx:x.length=6): ({b with magic:=x}:C1).Ok:= {h with magic:=hx}
theorem E4.get_magic {w:World} {g:Nat} {T:TypeId} {AA post:List Value} {b:C1} (h:E4 w g T AA b.bytes post):E4 w g T (AA++Lib.byteCells b.bef_magic) b.magic (Lib.byteCells b.aft_magic++post):=E4.split.1 (by rw[<-C1.at_magic];exact h)
theorem E4.put_magic {w:World} {g:Nat} {T:TypeId} {AA post:List Value} {b:C1} {x:List UInt8} (h:E4 w g T (AA++Lib.byteCells b.bef_magic) x (Lib.byteCells b.aft_magic++post)):E4 w g T AA ({b with magic:=x}:C1).bytes post:=by rw[C1.put_magic];exact E4.split.2 h
theorem C1.Ok.off_magic {b:C1} (h:b.Ok) (AA:List Value): (AA++Lib.byteCells b.bef_magic).length=AA.length+257:=by rw[List.length_append,Lib.byteCells_length,h.bef_magic]
def C1.bef_ver (b:C1):List UInt8:=b.name++(b.mode++(b.uid++(b.gid++(b.size++(b.mtime++(b.chk++(b.typ++(b.link++(b.magic)))))))))
def C1.aft_ver (b:C1):List UInt8:=b.user++(b.group++(b.maj++(b.mnr++(b.rest))))
theorem C1.at_ver (b:C1):b.bytes=b.bef_ver++(b.ver++b.aft_ver):=by simp only[C1.bytes,C1.bef_ver,C1.aft_ver,List.append_assoc,List.nil_append,List.append_nil]
theorem C1.put_ver (b:C1) (x:List UInt8): {b with ver:=x}.bytes=b.bef_ver++(x++b.aft_ver):=by simp only[C1.bytes,C1.bef_ver,C1.aft_ver,List.append_assoc,List.nil_append,List.append_nil]
theorem C1.Ok.bef_ver {b:C1} (h:b.Ok):b.bef_ver.length=263:=by simp[C1.bef_ver,h.name,h.mode,h.uid,h.gid,h.size,h.mtime,h.chk,h.typ,h.link,h.magic]
theorem C1.Ok.put_ver {b:C1} (h:b.Ok) (x:List UInt8) (hx:x.length=2): ({b with ver:=x}:C1).Ok:= {h with ver:=hx}
theorem E4.get_ver {w:World} {g:Nat} {T:TypeId} {AA post:List Value} {b:C1} (h:E4 w g T AA b.bytes post):E4 w g T (AA++Lib.byteCells b.bef_ver) b.ver (Lib.byteCells b.aft_ver++post):=E4.split.1 (by rw[<-C1.at_ver];exact h)
theorem E4.put_ver {w:World} {g:Nat} {T:TypeId} {AA post:List Value} {b:C1} {x:List UInt8} (h:E4 w g T (AA++Lib.byteCells b.bef_ver) x (Lib.byteCells b.aft_ver++post)):E4 w g T AA ({b with ver:=x}:C1).bytes post:=by rw[C1.put_ver];exact E4.split.2 h
theorem C1.Ok.off_ver {b:C1} (h:b.Ok) (AA:List Value): (AA++Lib.byteCells b.bef_ver).length=AA.length+263:=by rw[List.length_append,Lib.byteCells_length,h.bef_ver]
def C1.bef_user (b:C1):List UInt8:=b.name++(b.mode++(b.uid++(b.gid++(b.size++(b.mtime++(b.chk++(b.typ++(b.link++(b.magic++(b.ver))))))))))
def C1.aft_user (b:C1):List UInt8:=b.group++(b.maj++(b.mnr++(b.rest)))
theorem C1.at_user (b:C1):b.bytes=b.bef_user++(b.user++b.aft_user):=by simp only[C1.bytes,C1.bef_user,C1.aft_user,List.append_assoc,List.nil_append,List.append_nil]
theorem C1.put_user (b:C1) (x:List UInt8): {b with user:=x}.bytes=b.bef_user++(x++b.aft_user):=by simp only[C1.bytes,C1.bef_user,C1.aft_user,List.append_assoc,List.nil_append,List.append_nil]
theorem C1.Ok.bef_user {b:C1} (h:b.Ok):b.bef_user.length=265:=by simp[C1.bef_user,h.name,h.mode,h.uid,h.gid,h.size,h.mtime,h.chk,h.typ,h.link,h.magic,h.ver]
theorem C1.Ok.put_user {b:C1} (h:b.Ok) (x:List UInt8) (hx:x.length=32): ({b with user:=x}:C1).Ok:= {h with user:=hx}
theorem E4.get_user {w:World} {g:Nat} {T:TypeId} {AA post:List Value} {b:C1} (h:E4 w g T AA b.bytes post):E4 w g T (AA++Lib.byteCells b.bef_user) b.user (Lib.byteCells b.aft_user++post):=E4.split.1 (by rw[<-C1.at_user];exact h)
theorem E4.put_user {w:World} {g:Nat} {T:TypeId} {AA post:List Value} {b:C1} {x:List UInt8} (h:E4 w g T (AA++Lib.byteCells b.bef_user) x (Lib.byteCells b.aft_user++post)):E4 w g T AA ({b with user:=x}:C1).bytes post:=by rw[C1.put_user];exact E4.split.2 h
theorem C1.Ok.off_user {b:C1} (h:b.Ok) (AA:List Value): (AA++Lib.byteCells b.bef_user).length=AA.length+265:=by rw[List.length_append,Lib.byteCells_length,h.bef_user]
def C1.bef_group (b:C1):List UInt8:=b.name++(b.mode++(b.uid++(b.gid++(b.size++(b.mtime++(b.chk++(b.typ++(b.link++(b.magic++(b.ver++(b.user)))))))))))
def C1.aft_group (b:C1):List UInt8:=b.maj++(b.mnr++(b.rest))
theorem C1.at_group (b:C1):b.bytes=b.bef_group++(b.group++b.aft_group):=by simp only[C1.bytes,C1.bef_group,C1.aft_group,List.append_assoc,List.nil_append,List.append_nil]
theorem C1.put_group (b:C1) (x:List UInt8): {b with group:=x}.bytes=b.bef_group++(x++b.aft_group):=by simp only[C1.bytes,C1.bef_group,C1.aft_group,List.append_assoc,List.nil_append,List.append_nil]
theorem C1.Ok.bef_group {b:C1} (h:b.Ok):b.bef_group.length=297:=by simp[C1.bef_group,h.name,h.mode,h.uid,h.gid,h.size,h.mtime,h.chk,h.typ,h.link,h.magic,h.ver,h.user]
theorem C1.Ok.put_group {b:C1} (h:b.Ok) (x:List UInt8) (hx:x.length=32): ({b with group:=x}:C1).Ok:= {h with group:=hx}
theorem E4.get_group {w:World} {g:Nat} {T:TypeId} {AA post:List Value} {b:C1} (h:E4 w g T AA b.bytes post):E4 w g T (AA++Lib.byteCells b.bef_group) b.group (Lib.byteCells b.aft_group++post):=E4.split.1 (by rw[<-C1.at_group];exact h)
theorem E4.put_group {w:World} {g:Nat} {T:TypeId} {AA post:List Value} {b:C1} {x:List UInt8} (h:E4 w g T (AA++Lib.byteCells b.bef_group) x (Lib.byteCells b.aft_group++post)):E4 w g T AA ({b with group:=x}:C1).bytes post:=by rw[C1.put_group];exact E4.split.2 h
theorem C1.Ok.off_group {b:C1} (h:b.Ok) (AA:List Value): (AA++Lib.byteCells b.bef_group).length=AA.length+297:=by rw[List.length_append,Lib.byteCells_length,h.bef_group]
def C1.bef_maj (b:C1):List UInt8:=b.name++(b.mode++(b.uid++(b.gid++(b.size++(b.mtime++(b.chk++(b.typ++(b.link++(b.magic++(b.ver++(b.user++(b.group))))))))))))
def C1.aft_maj (b:C1):List UInt8:=b.mnr++(b.rest)
theorem C1.at_maj (b:C1):b.bytes=b.bef_maj++(b.maj++b.aft_maj):=by simp only[C1.bytes,C1.bef_maj,C1.aft_maj,List.append_assoc,List.nil_append,List.append_nil]
theorem C1.put_maj (b:C1) (x:List UInt8): {b with maj:=x}.bytes=b.bef_maj++(x++b.aft_maj):=by simp only[C1.bytes,C1.bef_maj,C1.aft_maj,List.append_assoc,List.nil_append,List.append_nil]
theorem C1.Ok.bef_maj {b:C1} (h:b.Ok):b.bef_maj.length=329:=by simp[C1.bef_maj,h.name,h.mode,h.uid,h.gid,h.size,h.mtime,h.chk,h.typ,h.link,h.magic,h.ver,h.user,h.group]
theorem C1.Ok.put_maj {b:C1} (h:b.Ok) (x:List UInt8) (hx:x.length=8): ({b with maj:=x}:C1).Ok:= {h with maj:=hx}
theorem E4.get_maj {w:World} {g:Nat} {T:TypeId} {AA post:List Value} {b:C1} (h:E4 w g T AA b.bytes post):E4 w g T (AA++Lib.byteCells b.bef_maj) b.maj (Lib.byteCells b.aft_maj++post):=E4.split.1 (by rw[<-C1.at_maj];exact h)
theorem E4.put_maj {w:World} {g:Nat} {T:TypeId} {AA post:List Value} {b:C1} {x:List UInt8} (h:E4 w g T (AA++Lib.byteCells b.bef_maj) x (Lib.byteCells b.aft_maj++post)):E4 w g T AA ({b with maj:=x}:C1).bytes post:=by rw[C1.put_maj];exact E4.split.2 h
theorem C1.Ok.off_maj {b:C1} (h:b.Ok) (AA:List Value): (AA++Lib.byteCells b.bef_maj).length=AA.length+329:=by rw[List.length_append,Lib.byteCells_length,h.bef_maj]
def C1.bef_mnr (b:C1):List UInt8:=b.name++(b.mode++(b.uid++(b.gid++(b.size++(b.mtime++(b.chk++(b.typ++(b.link++(b.magic++(b.ver++(b.user++(b.group++(b.maj)))))))))))))
def C1.aft_mnr (b:C1):List UInt8:=b.rest
theorem C1.at_mnr (b:C1):b.bytes=b.bef_mnr++(b.mnr++b.aft_mnr):=by simp only[C1.bytes,C1.bef_mnr,C1.aft_mnr,List.append_assoc,List.nil_append,List.append_nil]
theorem C1.put_mnr (b:C1) (x:List UInt8): {b with mnr:=x}.bytes=b.bef_mnr++(x++b.aft_mnr):=by simp only[C1.bytes,C1.bef_mnr,C1.aft_mnr,List.append_assoc,List.nil_append,List.append_nil]
theorem C1.Ok.bef_mnr {b:C1} (h:b.Ok):b.bef_mnr.length=337:=by simp[C1.bef_mnr,h.name,h.mode,h.uid,h.gid,h.size,h.mtime,h.chk,h.typ,h.link,h.magic,h.ver,h.user,h.group,h.maj]
theorem C1.Ok.put_mnr {b:C1} (h:b.Ok) (x:List UInt8) (hx:x.length=8): ({b with mnr:=x}:C1).Ok:= {h with mnr:=hx}
theorem E4.get_mnr {w:World} {g:Nat} {T:TypeId} {AA post:List Value} {b:C1} (h:E4 w g T AA b.bytes post):E4 w g T (AA++Lib.byteCells b.bef_mnr) b.mnr (Lib.byteCells b.aft_mnr++post):=E4.split.1 (by rw[<-C1.at_mnr];exact h)
theorem E4.put_mnr {w:World} {g:Nat} {T:TypeId} {AA post:List Value} {b:C1} {x:List UInt8} (h:E4 w g T (AA++Lib.byteCells b.bef_mnr) x (Lib.byteCells b.aft_mnr++post)):E4 w g T AA ({b with mnr:=x}:C1).bytes post:=by rw[C1.put_mnr];exact E4.split.2 h
theorem C1.Ok.off_mnr {b:C1} (h:b.Ok) (AA:List Value): (AA++Lib.byteCells b.bef_mnr).length=AA.length+337:=by rw[List.length_append,Lib.byteCells_length,h.bef_mnr]
def C1.bef_rest (b:C1):List UInt8:=b.name++(b.mode++(b.uid++(b.gid++(b.size++(b.mtime++(b.chk++(b.typ++(b.link++(b.magic++(b.ver++(b.user++(b.group++(b.maj++(b.mnr))))))))))))))
def C1.aft_rest (b:C1):List UInt8:=[]
theorem C1.at_rest (b:C1):b.bytes=b.bef_rest++(b.rest++b.aft_rest):=by simp only[C1.bytes,C1.bef_rest,C1.aft_rest,List.append_assoc,List.nil_append,List.append_nil]
theorem C1.put_rest (b:C1) (x:List UInt8): {b with rest:=x}.bytes=b.bef_rest++(x++b.aft_rest):=by simp only[C1.bytes,C1.bef_rest,C1.aft_rest,List.append_assoc,List.nil_append,List.append_nil]
theorem C1.Ok.bef_rest {b:C1} (h:b.Ok):b.bef_rest.length=345:=by simp[C1.bef_rest,h.name,h.mode,h.uid,h.gid,h.size,h.mtime,h.chk,h.typ,h.link,h.magic,h.ver,h.user,h.group,h.maj,h.mnr]
theorem C1.Ok.put_rest {b:C1} (h:b.Ok) (x:List UInt8) (hx:x.length=167): ({b with rest:=x}:C1).Ok:= {h with rest:=hx}
theorem E4.get_rest {w:World} {g:Nat} {T:TypeId} {AA post:List Value} {b:C1} (h:E4 w g T AA b.bytes post):E4 w g T (AA++Lib.byteCells b.bef_rest) b.rest (Lib.byteCells b.aft_rest++post):=E4.split.1 (by rw[<-C1.at_rest];exact h)
theorem E4.put_rest {w:World} {g:Nat} {T:TypeId} {AA post:List Value} {b:C1} {x:List UInt8} (h:E4 w g T (AA++Lib.byteCells b.bef_rest) x (Lib.byteCells b.aft_rest++post)):E4 w g T AA ({b with rest:=x}:C1).bytes post:=by rw[C1.put_rest];exact E4.split.2 h
theorem C1.Ok.off_rest {b:C1} (h:b.Ok) (AA:List Value): (AA++Lib.byteCells b.bef_rest).length=AA.length+345:=by rw[List.length_append,Lib.byteCells_length,h.bef_rest]
theorem E4.first {w:World} {g:Nat} {T:TypeId} {AA post:List Value} {f c:List UInt8}:E4 w g T AA (f++c) post↔E4 w g T AA f (Lib.byteCells c++post):=by
 simp only[E4,Lib.byteCells_append,List.append_assoc]
theorem A2G (w:World) (g n c:Nat) (s:List UInt8) (T:TypeId) (AB:List Value) (AA:List UInt8) (post:List Value) (h:E4 w g T AB AA post) (hn:AA.length=n) (hs:s.length=n) (o:Nat) (ho:AB.length=o):
  ∃w1,(Builtin.copy_ #[35,9] 3 #[.slice (some ⟨g,o,none⟩) n c,str s]).run Tryz.prog w= .ok (goInt n) w1/\E4 w1 g T AB s post/\Fr w.heap.size [g] w w1:=by
 have h1:=A0N w g n c s T AB AA post h hn;have e1:s.take n++AA.drop s.length=s:=by rw[List.take_of_length_le (by omega),List.drop_eq_nil_of_le (by omega),List.append_nil]
 rw[e1,hs,ho,show(min (n:Int) n)=n by omega] at h1;exact⟨_,h1,h.row s,(Fr.refl _ _ w).setRow (.inl (by simp)) _⟩
theorem E4.below {w w':World} {g:Nat} {T:TypeId} {AA post:List Value} {bs:List UInt8} (h:E4 w g T AA bs post) (f:Below w.heap.size w w'):E4 w' g T AA bs post:=(f.block g (A8 h)).trans h
theorem A3D (w:World) (f x:Int) (h: (bits .and .i64 f x !=0)=true):Calls Tryz.prog 66 #[.int .i64 f,.int .i64 x] w (C4 w (.bool true)):=by
 go_enter Tryz.func66,Tryz.ntmps66
 go_wp2
 go_ret
 exact⟨rfl,rfl⟩
theorem O8 (w:World) (f x:Int) (h: (bits .and .i64 f x !=0)=false):Calls Tryz.prog 66 #[.int .i64 f,.int .i64 x] w (C4 w (.bool false)):=by
 go_enter Tryz.func66,Tryz.ntmps66
 go_wp2
 go_ret
 exact⟨rfl,rfl⟩
def C1.ustar (b:C1):C1:= {b with magic:=[117,115,116,97,114,0],ver:=[48,48]}
def C1.summed (b:C1):C1:= {b with chk:=C2 7 (X8 b.bytes 512)++[32]}
theorem A0D (w:World) (g:Nat) (T:TypeId) (AA:List Value) (b:C1) (post:List Value) (f:Int) (hf:f=2\/f=4) (ok:b.Ok) (h:E4 w g T AA b.bytes post) (hg:g≠15) (AD:w.cell? ⟨15,7,none⟩=some (.int .u8 3)):
  Calls Tryz.prog 132 #[.pointer (some ⟨g,AA.length,none⟩),.int .i64 f] w λe w'=>e= .returned (.tuple #[])/\E4 w' g T AA b.ustar.summed.bytes post/\Fr w.heap.size [g] w w':=by
 have n1:∀w',Calls Tryz.prog 66 #[.int .i64 f,.int .i64 1] w' (C4 w' (.bool false)):=λw'=>O8 w' f 1 (by rcases hf with rfl|rfl<;>kernel_rfl);have n2:∀w',Calls Tryz.prog 66 #[.int .i64 f,.int .i64 8] w' (C4 w' (.bool false)):=λw'=>O8 w' f 8 (by rcases hf with rfl|rfl<;>kernel_rfl);have n3:∀w',Calls Tryz.prog 66 #[.int .i64 f,.int .i64 16] w' (C4 w' (.bool false)):=λw'=>O8 w' f 16 (by rcases hf with rfl|rfl<;>kernel_rfl);have n4:∀w',Calls Tryz.prog 66 #[.int .i64 f,.int .i64 6] w' (C4 w' (.bool true)):=λw'=>A3D w' f 6 (by rcases hf with rfl|rfl<;>kernel_rfl);obtain⟨w1,c1,s1,F1⟩:=A2G w g 6 255 [117,115,116,97,114,0] T _ _ _ h.get_magic ok.magic rfl _ (ok.off_magic AA);have s1:=s1.put_magic;have AO:=ok.put_magic [117,115,116,97,114,0] rfl;obtain⟨w2,c2,s2,F2⟩:=A2G w1 g 2 249 [48,48] T _ _ _ s1.get_ver AO.ver rfl _ (AO.off_ver AA);have s2:=s2.put_ver;have AC:b.ustar.Ok:=AO.put_ver [48,48] rfl;change E4 w2 g T AA b.ustar.bytes post at s2
 have AH:=AC.len;have AM:Fr w.heap.size [g] w w2:=F1.trans (F2.wide F1.size (by simp));have AP:=AM.cell AD (by simpa using Ne.symm hg) (block_lt_of_cell AD);have AE:=A2w (w2.alloc (.cells #[.nilIface] 196)) g T AA _ post (s2.below ((Below.refl _ w2).alloc (Nat.le_refl _) _)) AH;have AS:=A0l b.ustar.bytes 512;have AL:b.ustar.summed.bytes= {b.ustar with chk:=C2 7 (X8 b.ustar.bytes 512)++[32]}.bytes:=rfl;have AU:b.ustar.chk=b.ustar.chk.take 7++b.ustar.chk.drop 7:=(List.take_append_drop 7 _).symm;generalize AV:X8 b.ustar.bytes 512=sm at*;have AI:B8 7 (sm:Int)=true:=by simp[B8];omega
 have AB:∀nd,Calls Tryz.prog 130 #[.pointer (some ⟨w2.heap.size,0,none⟩),.slice (some ⟨g,AA.length+148,none⟩) 7 364,.int .i64 sm] ((w2.alloc (.cells #[.nilIface] 196)).drewN nd) λe w'=>e= .returned (.tuple #[])/\
   E4 w' g T (AA++Lib.byteCells b.ustar.bef_chk) (C2 7 sm++b.ustar.chk.drop 7) (Lib.byteCells b.ustar.aft_chk++post)/\Fr w.heap.size [g] w w':=λnd=>by
  have s3:E4 ((w2.alloc (.cells #[.nilIface] 196)).drewN nd) g T (AA++Lib.byteCells b.ustar.bef_chk) b.ustar.chk (Lib.byteCells b.ustar.aft_chk++post):=(s2.below ((Below.refl _ w2).alloc (Nat.le_refl _) _)).get_chk;rw[AU] at s3;have F3:Fr w.heap.size [g] w ((w2.alloc (.cells #[.nilIface] 196)).drewN nd):=(AM.alloc _).drewN nd;have AQ:=F3.cell AD (by simpa using Ne.symm hg) (block_lt_of_cell AD);have:=U1 ((w2.alloc (.cells #[.nilIface] 196)).drewN nd) w2.heap.size g 7 364 sm T _ _ _ (E4.first.1 s3) (by rw[List.length_take,AC.chk];rfl) (.inl rfl) (by omega) AI hg AQ;rw[AC.off_chk] at this;refine this.mono ?_;rintro e w' ⟨rfl,h1,h2⟩;exact⟨rfl,E4.first.2 h1,F3.trans (h2.wide F3.size (by simp))⟩
 have AR: (C2 7 sm).length=7:=D2 7 sm (by omega) (by omega)
 obtain⟨c8,AT⟩:∃c8,b.ustar.chk.drop 7=[c8]:=by
  have: (b.ustar.chk.drop 7).length=1:=by rw[List.length_drop,AC.chk]
  exact List.length_eq_one_iff.1 this
 rw[AT] at AB;have AJ:=AC.off_chk AA
 have AG:∀w5,E4 w5 g T (AA++Lib.byteCells b.ustar.bef_chk) (C2 7 sm++[c8]) (Lib.byteCells b.ustar.aft_chk++post)->w5.cell? ⟨g,AA.length+148+7,none⟩=some (.int .u8 c8.toNat)/\w5.frozen? ⟨g,AA.length+148+7,none⟩=false/\
   E4 (w5.setCell ⟨g,AA.length+148+7,none⟩ (.int .u8 32)) g T AA b.ustar.summed.bytes post:=λw5 h5=>by
  have a1:=h5.cell 7 c8 (by rw[List.getElem?_append_right (by omega),AR];rfl);have a2:=h5.frozen 7;have a3:=h5.set 7 (by simp;omega) 32;rw[List.set_append_right _ _ (by omega),AR] at a3;rw[AJ] at a1 a2 a3;refine⟨a1,a2,?_⟩;rw[AL];exact a3.put_chk
 have v7:=A0 A5Z;have vu:=A0 Z0;have vm:=A0 A9l;have vv:=A0 A5a;have vc:=A0 B0M;have N1:=A0 n1;have N2:=A0 n2;have N3:=A0 n3;have N4:=A0 n4;have H:=A0 h;have S2:=A0 s2;have HF:=A0 AM;have HC:=A0 AE;have HS:=A0 AB;have HN:=A0 AG;clear h s1 s2 F1 F2 AM AP AL AU AV AO AC AR AT AJ n1 n2 n3 n4 AE AB AG AI AH AS ok AD;go_enter Tryz.func132,Tryz.ntmps132
 go_wp2_with fail
 refine(N1.out _).mono ?_;rintro e wx ⟨rfl,rfl⟩;go_wp2_with fail
 refine(N2.out _).mono ?_;rintro e wx ⟨rfl,rfl⟩;go_wp2_with fail
 refine(N3.out _).mono ?_;rintro e wx ⟨rfl,rfl⟩;go_wp2_with fail
 refine(N4.out _).mono ?_;rintro e wx ⟨rfl,rfl⟩;go_wp2_with fail
 refine(vu.out _ _).mono ?_;rintro e wx ⟨rfl,rfl⟩;go_wp2_with fail
 refine(vm.out _ _ _).mono ?_;rintro e wx ⟨rfl,rfl⟩;go_wp2_with fail
 refine(vu.out _ _).mono ?_;rintro e wx ⟨rfl,rfl⟩;go_wp2_with fail
 refine(vv.out _ _ _).mono ?_;rintro e wx ⟨rfl,rfl⟩;go_wp2_with fail
 refine(v7.out _ _).mono ?_;rintro e wx ⟨rfl,rfl⟩;go_wp2_with fail
 refine(vc.out _ _ _).mono ?_;rintro e wx ⟨rfl,rfl⟩;go_wp2_with fail
 refine HC.out.mono ?_;rintro e wx ⟨⟨z,rfl⟩,nd,rfl⟩;go_wp2_with fail
 refine(HS.out nd).mono ?_;rintro e w5 ⟨rfl,h5,F5⟩;obtain⟨a1,a2,a3⟩:=HN.out w5 h5;have A3:=A0 a3;clear a3 h5;go_wp2_with fail
 go_end0
 exact⟨rfl,A3.out,F5.setCell (p:=⟨g,AA.length+148+7,none⟩) (.inl (by simp)) _⟩
def C1.mag (b:C1) (mg vr:List UInt8):C1:= {b with magic:=mg,ver:=vr}
def SF (f:Int) (mg vr:List UInt8):Prop:=mg.length=6/\vr.length=2/\∀ (w:World) (g:Nat) (T:TypeId) (AA:List Value) (b:C1) (post:List Value),b.Ok->E4 w g T AA b.bytes post->g≠15->w.cell? ⟨15,7,none⟩=some (.int .u8 3)->
 Calls Tryz.prog 132 #[.pointer (some ⟨g,AA.length,none⟩),.int .i64 f] w λe w'=>e= .returned (.tuple #[])/\E4 w' g T AA (b.mag mg vr).summed.bytes post/\Fr w.heap.size [g] w w'
theorem B3K:SF 4 [117,115,116,97,114,0] [48,48]:=⟨rfl,rfl,λw g T AA b post ok h hg hd=>A0D w g T AA b post 4 (.inr rfl) ok h hg hd⟩
end Go.Proofs.YtkanmkcojlefbaaGreatDoor
