/-
  Part of the proof; holds the texts Blk, SetF, RawH, Reset.
-/
import Derived.Test.YtkanmkcojlefbaaGreatDoorM02
set_option maxRecDepth 100000
set_option linter.unusedSimpArgs false
set_option linter.unusedVariables false
namespace Go.Proofs.YtkanmkcojlefbaaGreatDoor
theorem zG:type_of% @beq_eq_false_iff_ne:=@beq_eq_false_iff_ne
open Go.RowKit
structure C1 where
 name:List UInt8
 mode:List UInt8
 uid:List UInt8
 gid:List UInt8
 size:List UInt8
 mtime:List UInt8
 chk:List UInt8
 typ:List UInt8
 link:List UInt8
 magic:List UInt8
 ver:List UInt8
 user:List UInt8
 group:List UInt8
 maj:List UInt8
 mnr:List UInt8
 rest:List UInt8
def C1.bytes (b:C1):List UInt8:=b.name++(b.mode++(b.uid++(b.gid++(b.size++(b.mtime++(b.chk++(b.typ++(b.link++(b.magic++(b.ver++(b.user++(b.group++(b.maj++(b.mnr++(b.rest)))))))))))))))
structure C1.Ok (b:C1):Prop where
 name:b.name.length=100
 mode:b.mode.length=8
 uid:b.uid.length=8
 gid:b.gid.length=8
 size:b.size.length=12
 mtime:b.mtime.length=12
 chk:b.chk.length=8
 typ:b.typ.length=1
 link:b.link.length=100
 magic:b.magic.length=6
 ver:b.ver.length=2
 user:b.user.length=32
 group:b.group.length=32
 maj:b.maj.length=8
 mnr:b.mnr.length=8
 rest:b.rest.length=167
theorem C1.Ok.len {b:C1} (h:b.Ok):b.bytes.length=512:=by
 simp[C1.bytes,h.name,h.mode,h.uid,h.gid,h.size,h.mtime,h.chk,h.typ,h.link,h.magic,h.ver,h.user,h.group,h.maj,h.mnr,h.rest]
theorem E4.split {w:World} {g:Nat} {T:TypeId} {AA post:List Value} {a f c:List UInt8}:E4 w g T AA (a++(f++c)) post↔E4 w g T (AA++Lib.byteCells a) f (Lib.byteCells c++post):=by
 simp only[E4,Lib.byteCells_append,List.append_assoc]
def C1.zero:C1:=⟨List.replicate 100 0,List.replicate 8 0,List.replicate 8 0,List.replicate 8 0,List.replicate 12 0,List.replicate 12 0,List.replicate 8 0,List.replicate 1 0,List.replicate 100 0,List.replicate 6 0,List.replicate 2 0,List.replicate 32 0,List.replicate 32 0,List.replicate 8 0,List.replicate 8 0,List.replicate 167 0⟩
theorem C1.zero_ok:C1.zero.Ok:=⟨rfl,rfl,rfl,rfl,rfl,rfl,rfl,rfl,rfl,rfl,rfl,rfl,rfl,rfl,rfl,rfl⟩
theorem C1.zero_bytes:C1.zero.bytes=List.replicate 512 0:=by kernel_rfl
def C1.bef_name (b:C1):List UInt8:=[]
def C1.aft_name (b:C1):List UInt8:=b.mode++(b.uid++(b.gid++(b.size++(b.mtime++(b.chk++(b.typ++(b.link++(b.magic++(b.ver++(b.user++(b.group++(b.maj++(b.mnr++(b.rest))))))))))))))
theorem C1.at_name (b:C1):b.bytes=b.bef_name++(b.name++b.aft_name):=by simp only[C1.bytes,C1.bef_name,C1.aft_name,List.append_assoc,List.nil_append,List.append_nil]
theorem C1.put_name (b:C1) (x:List UInt8): {b with name:=x}.bytes=b.bef_name++(x++b.aft_name):=by simp only[C1.bytes,C1.bef_name,C1.aft_name,List.append_assoc,List.nil_append,List.append_nil]
theorem C1.Ok.bef_name {b:C1} (h:b.Ok):b.bef_name.length=0:=by simp[C1.bef_name]
theorem C1.Ok.put_name {b:C1} (h:b.Ok) (x:List UInt8) (hx:x.length=100): ({b with name:=x}:C1).Ok:= {h with name:=hx}
theorem E4.get_name {w:World} {g:Nat} {T:TypeId} {AA post:List Value} {b:C1} (h:E4 w g T AA b.bytes post):E4 w g T (AA++Lib.byteCells b.bef_name) b.name (Lib.byteCells b.aft_name++post):=E4.split.1 (by rw[<-C1.at_name];exact h)
theorem E4.put_name {w:World} {g:Nat} {T:TypeId} {AA post:List Value} {b:C1} {x:List UInt8} (h:E4 w g T (AA++Lib.byteCells b.bef_name) x (Lib.byteCells b.aft_name++post)):E4 w g T AA ({b with name:=x}:C1).bytes post:=by rw[C1.put_name];exact E4.split.2 h
theorem C1.Ok.off_name {b:C1} (h:b.Ok) (AA:List Value): (AA++Lib.byteCells b.bef_name).length=AA.length+0:=by rw[zH,zJ,h.bef_name]
def C1.bef_mode (b:C1):List UInt8:=b.name
def C1.aft_mode (b:C1):List UInt8:=b.uid++(b.gid++(b.size++(b.mtime++(b.chk++(b.typ++(b.link++(b.magic++(b.ver++(b.user++(b.group++(b.maj++(b.mnr++(b.rest)))))))))))))
theorem C1.at_mode (b:C1):b.bytes=b.bef_mode++(b.mode++b.aft_mode):=by simp only[C1.bytes,C1.bef_mode,C1.aft_mode,List.append_assoc,List.nil_append,List.append_nil]
theorem C1.put_mode (b:C1) (x:List UInt8): {b with mode:=x}.bytes=b.bef_mode++(x++b.aft_mode):=by simp only[C1.bytes,C1.bef_mode,C1.aft_mode,List.append_assoc,List.nil_append,List.append_nil]
theorem C1.Ok.bef_mode {b:C1} (h:b.Ok):b.bef_mode.length=100:=by simp[C1.bef_mode,h.name]
theorem C1.Ok.put_mode {b:C1} (h:b.Ok) (x:List UInt8) (hx:x.length=8): ({b with mode:=x}:C1).Ok:= {h with mode:=hx}
theorem E4.get_mode {w:World} {g:Nat} {T:TypeId} {AA post:List Value} {b:C1} (h:E4 w g T AA b.bytes post):E4 w g T (AA++Lib.byteCells b.bef_mode) b.mode (Lib.byteCells b.aft_mode++post):=E4.split.1 (by rw[<-C1.at_mode];exact h)
theorem E4.put_mode {w:World} {g:Nat} {T:TypeId} {AA post:List Value} {b:C1} {x:List UInt8} (h:E4 w g T (AA++Lib.byteCells b.bef_mode) x (Lib.byteCells b.aft_mode++post)):E4 w g T AA ({b with mode:=x}:C1).bytes post:=by rw[C1.put_mode];exact E4.split.2 h
theorem C1.Ok.off_mode {b:C1} (h:b.Ok) (AA:List Value): (AA++Lib.byteCells b.bef_mode).length=AA.length+100:=by rw[zH,zJ,h.bef_mode]
def C1.bef_uid (b:C1):List UInt8:=b.name++(b.mode)
def C1.aft_uid (b:C1):List UInt8:=b.gid++(b.size++(b.mtime++(b.chk++(b.typ++(b.link++(b.magic++(b.ver++(b.user++(b.group++(b.maj++(b.mnr++(b.rest))))))))))))
theorem C1.at_uid (b:C1):b.bytes=b.bef_uid++(b.uid++b.aft_uid):=by simp only[C1.bytes,C1.bef_uid,C1.aft_uid,List.append_assoc,List.nil_append,List.append_nil]
theorem C1.put_uid (b:C1) (x:List UInt8): {b with uid:=x}.bytes=b.bef_uid++(x++b.aft_uid):=by simp only[C1.bytes,C1.bef_uid,C1.aft_uid,List.append_assoc,List.nil_append,List.append_nil]
theorem C1.Ok.bef_uid {b:C1} (h:b.Ok):b.bef_uid.length=108:=by simp[C1.bef_uid,h.name,h.mode]
theorem C1.Ok.put_uid {b:C1} (h:b.Ok) (x:List UInt8) (hx:x.length=8): ({b with uid:=x}:C1).Ok:= {h with uid:=hx}
theorem E4.get_uid {w:World} {g:Nat} {T:TypeId} {AA post:List Value} {b:C1} (h:E4 w g T AA b.bytes post):E4 w g T (AA++Lib.byteCells b.bef_uid) b.uid (Lib.byteCells b.aft_uid++post):=E4.split.1 (by rw[<-C1.at_uid];exact h)
theorem E4.put_uid {w:World} {g:Nat} {T:TypeId} {AA post:List Value} {b:C1} {x:List UInt8} (h:E4 w g T (AA++Lib.byteCells b.bef_uid) x (Lib.byteCells b.aft_uid++post)):E4 w g T AA ({b with uid:=x}:C1).bytes post:=by rw[C1.put_uid];exact E4.split.2 h
theorem C1.Ok.off_uid {b:C1} (h:b.Ok) (AA:List Value): (AA++Lib.byteCells b.bef_uid).length=AA.length+108:=by rw[zH,zJ,h.bef_uid]
def C1.bef_gid (b:C1):List UInt8:=b.name++(b.mode++(b.uid))
def C1.aft_gid (b:C1):List UInt8:=b.size++(b.mtime++(b.chk++(b.typ++(b.link++(b.magic++(b.ver++(b.user++(b.group++(b.maj++(b.mnr++(b.rest)))))))))))
theorem C1.at_gid (b:C1):b.bytes=b.bef_gid++(b.gid++b.aft_gid):=by simp only[C1.bytes,C1.bef_gid,C1.aft_gid,List.append_assoc,List.nil_append,List.append_nil]
theorem C1.put_gid (b:C1) (x:List UInt8): {b with gid:=x}.bytes=b.bef_gid++(x++b.aft_gid):=by simp only[C1.bytes,C1.bef_gid,C1.aft_gid,List.append_assoc,List.nil_append,List.append_nil]
theorem C1.Ok.bef_gid {b:C1} (h:b.Ok):b.bef_gid.length=116:=by simp[C1.bef_gid,h.name,h.mode,h.uid]
theorem C1.Ok.put_gid {b:C1} (h:b.Ok) (x:List UInt8) (hx:x.length=8): ({b with gid:=x}:C1).Ok:= {h with gid:=hx}
theorem E4.get_gid {w:World} {g:Nat} {T:TypeId} {AA post:List Value} {b:C1} (h:E4 w g T AA b.bytes post):E4 w g T (AA++Lib.byteCells b.bef_gid) b.gid (Lib.byteCells b.aft_gid++post):=E4.split.1 (by rw[<-C1.at_gid];exact h)
theorem E4.put_gid {w:World} {g:Nat} {T:TypeId} {AA post:List Value} {b:C1} {x:List UInt8} (h:E4 w g T (AA++Lib.byteCells b.bef_gid) x (Lib.byteCells b.aft_gid++post)):E4 w g T AA ({b with gid:=x}:C1).bytes post:=by rw[C1.put_gid];exact E4.split.2 h
theorem C1.Ok.off_gid {b:C1} (h:b.Ok) (AA:List Value): (AA++Lib.byteCells b.bef_gid).length=AA.length+116:=by rw[zH,zJ,h.bef_gid]
def C1.bef_size (b:C1):List UInt8:=b.name++(b.mode++(b.uid++(b.gid)))
def C1.aft_size (b:C1):List UInt8:=b.mtime++(b.chk++(b.typ++(b.link++(b.magic++(b.ver++(b.user++(b.group++(b.maj++(b.mnr++(b.rest))))))))))
theorem C1.at_size (b:C1):b.bytes=b.bef_size++(b.size++b.aft_size):=by simp only[C1.bytes,C1.bef_size,C1.aft_size,List.append_assoc,List.nil_append,List.append_nil]
theorem C1.put_size (b:C1) (x:List UInt8): {b with size:=x}.bytes=b.bef_size++(x++b.aft_size):=by simp only[C1.bytes,C1.bef_size,C1.aft_size,List.append_assoc,List.nil_append,List.append_nil]
theorem C1.Ok.bef_size {b:C1} (h:b.Ok):b.bef_size.length=124:=by simp[C1.bef_size,h.name,h.mode,h.uid,h.gid]
theorem C1.Ok.put_size {b:C1} (h:b.Ok) (x:List UInt8) (hx:x.length=12): ({b with size:=x}:C1).Ok:= {h with size:=hx}
theorem E4.get_size {w:World} {g:Nat} {T:TypeId} {AA post:List Value} {b:C1} (h:E4 w g T AA b.bytes post):E4 w g T (AA++Lib.byteCells b.bef_size) b.size (Lib.byteCells b.aft_size++post):=E4.split.1 (by rw[<-C1.at_size];exact h)
theorem E4.put_size {w:World} {g:Nat} {T:TypeId} {AA post:List Value} {b:C1} {x:List UInt8} (h:E4 w g T (AA++Lib.byteCells b.bef_size) x (Lib.byteCells b.aft_size++post)):E4 w g T AA ({b with size:=x}:C1).bytes post:=by rw[C1.put_size];exact E4.split.2 h
theorem C1.Ok.off_size {b:C1} (h:b.Ok) (AA:List Value): (AA++Lib.byteCells b.bef_size).length=AA.length+124:=by rw[zH,zJ,h.bef_size]
def C1.bef_mtime (b:C1):List UInt8:=b.name++(b.mode++(b.uid++(b.gid++(b.size))))
def C1.aft_mtime (b:C1):List UInt8:=b.chk++(b.typ++(b.link++(b.magic++(b.ver++(b.user++(b.group++(b.maj++(b.mnr++(b.rest)))))))))
theorem C1.at_mtime (b:C1):b.bytes=b.bef_mtime++(b.mtime++b.aft_mtime):=by simp only[C1.bytes,C1.bef_mtime,C1.aft_mtime,List.append_assoc,List.nil_append,List.append_nil]
theorem C1.put_mtime (b:C1) (x:List UInt8): {b with mtime:=x}.bytes=b.bef_mtime++(x++b.aft_mtime):=by simp only[C1.bytes,C1.bef_mtime,C1.aft_mtime,List.append_assoc,List.nil_append,List.append_nil]
theorem C1.Ok.bef_mtime {b:C1} (h:b.Ok):b.bef_mtime.length=136:=by simp[C1.bef_mtime,h.name,h.mode,h.uid,h.gid,h.size]
theorem C1.Ok.put_mtime {b:C1} (h:b.Ok) (x:List UInt8) (hx:x.length=12): ({b with mtime:=x}:C1).Ok:= {h with mtime:=hx}
theorem E4.get_mtime {w:World} {g:Nat} {T:TypeId} {AA post:List Value} {b:C1} (h:E4 w g T AA b.bytes post):E4 w g T (AA++Lib.byteCells b.bef_mtime) b.mtime (Lib.byteCells b.aft_mtime++post):=E4.split.1 (by rw[<-C1.at_mtime];exact h)
theorem E4.put_mtime {w:World} {g:Nat} {T:TypeId} {AA post:List Value} {b:C1} {x:List UInt8} (h:E4 w g T (AA++Lib.byteCells b.bef_mtime) x (Lib.byteCells b.aft_mtime++post)):E4 w g T AA ({b with mtime:=x}:C1).bytes post:=by rw[C1.put_mtime];exact E4.split.2 h
theorem C1.Ok.off_mtime {b:C1} (h:b.Ok) (AA:List Value): (AA++Lib.byteCells b.bef_mtime).length=AA.length+136:=by rw[zH,zJ,h.bef_mtime]
def C1.bef_chk (b:C1):List UInt8:=b.name++(b.mode++(b.uid++(b.gid++(b.size++(b.mtime)))))
def C1.aft_chk (b:C1):List UInt8:=b.typ++(b.link++(b.magic++(b.ver++(b.user++(b.group++(b.maj++(b.mnr++(b.rest))))))))
theorem C1.at_chk (b:C1):b.bytes=b.bef_chk++(b.chk++b.aft_chk):=by simp only[C1.bytes,C1.bef_chk,C1.aft_chk,List.append_assoc,List.nil_append,List.append_nil]
theorem C1.put_chk (b:C1) (x:List UInt8): {b with chk:=x}.bytes=b.bef_chk++(x++b.aft_chk):=by simp only[C1.bytes,C1.bef_chk,C1.aft_chk,List.append_assoc,List.nil_append,List.append_nil]
theorem C1.Ok.bef_chk {b:C1} (h:b.Ok):b.bef_chk.length=148:=by simp[C1.bef_chk,h.name,h.mode,h.uid,h.gid,h.size,h.mtime]
theorem C1.Ok.put_chk {b:C1} (h:b.Ok) (x:List UInt8) (hx:x.length=8): ({b with chk:=x}:C1).Ok:= {h with chk:=hx}
theorem E4.get_chk {w:World} {g:Nat} {T:TypeId} {AA post:List Value} {b:C1} (h:E4 w g T AA b.bytes post):E4 w g T (AA++Lib.byteCells b.bef_chk) b.chk (Lib.byteCells b.aft_chk++post):=E4.split.1 (by rw[<-C1.at_chk];exact h)
theorem E4.put_chk {w:World} {g:Nat} {T:TypeId} {AA post:List Value} {b:C1} {x:List UInt8} (h:E4 w g T (AA++Lib.byteCells b.bef_chk) x (Lib.byteCells b.aft_chk++post)):E4 w g T AA ({b with chk:=x}:C1).bytes post:=by rw[C1.put_chk];exact E4.split.2 h
theorem C1.Ok.off_chk {b:C1} (h:b.Ok) (AA:List Value): (AA++Lib.byteCells b.bef_chk).length=AA.length+148:=by rw[zH,zJ,h.bef_chk]
def C1.bef_typ (b:C1):List UInt8:=b.name++(b.mode++(b.uid++(b.gid++(b.size++(b.mtime++(b.chk))))))
def C1.aft_typ (b:C1):List UInt8:=b.link++(b.magic++(b.ver++(b.user++(b.group++(b.maj++(b.mnr++(b.rest)))))))
theorem C1.at_typ (b:C1):b.bytes=b.bef_typ++(b.typ++b.aft_typ):=by simp only[C1.bytes,C1.bef_typ,C1.aft_typ,List.append_assoc,List.nil_append,List.append_nil]
theorem C1.put_typ (b:C1) (x:List UInt8): {b with typ:=x}.bytes=b.bef_typ++(x++b.aft_typ):=by simp only[C1.bytes,C1.bef_typ,C1.aft_typ,List.append_assoc,List.nil_append,List.append_nil]
theorem C1.Ok.bef_typ {b:C1} (h:b.Ok):b.bef_typ.length=156:=by simp[C1.bef_typ,h.name,h.mode,h.uid,h.gid,h.size,h.mtime,h.chk]
theorem C1.Ok.put_typ {b:C1} (h:b.Ok) (x:List UInt8) (hx:x.length=1): ({b with typ:=x}:C1).Ok:= {h with typ:=hx}
theorem E4.get_typ {w:World} {g:Nat} {T:TypeId} {AA post:List Value} {b:C1} (h:E4 w g T AA b.bytes post):E4 w g T (AA++Lib.byteCells b.bef_typ) b.typ (Lib.byteCells b.aft_typ++post):=E4.split.1 (by rw[<-C1.at_typ];exact h)
theorem E4.put_typ {w:World} {g:Nat} {T:TypeId} {AA post:List Value} {b:C1} {x:List UInt8} (h:E4 w g T (AA++Lib.byteCells b.bef_typ) x (Lib.byteCells b.aft_typ++post)):E4 w g T AA ({b with typ:=x}:C1).bytes post:=by rw[C1.put_typ];exact E4.split.2 h
theorem C1.Ok.off_typ {b:C1} (h:b.Ok) (AA:List Value): (AA++Lib.byteCells b.bef_typ).length=AA.length+156:=by rw[zH,zJ,h.bef_typ]
def C1.bef_link (b:C1):List UInt8:=b.name++(b.mode++(b.uid++(b.gid++(b.size++(b.mtime++(b.chk++(b.typ)))))))
def C1.aft_link (b:C1):List UInt8:=b.magic++(b.ver++(b.user++(b.group++(b.maj++(b.mnr++(b.rest))))))
theorem C1.at_link (b:C1):b.bytes=b.bef_link++(b.link++b.aft_link):=by simp only[C1.bytes,C1.bef_link,C1.aft_link,List.append_assoc,List.nil_append,List.append_nil]
theorem C1.put_link (b:C1) (x:List UInt8): {b with link:=x}.bytes=b.bef_link++(x++b.aft_link):=by simp only[C1.bytes,C1.bef_link,C1.aft_link,List.append_assoc,List.nil_append,List.append_nil]
theorem C1.Ok.bef_link {b:C1} (h:b.Ok):b.bef_link.length=157:=by simp[C1.bef_link,h.name,h.mode,h.uid,h.gid,h.size,h.mtime,h.chk,h.typ]
theorem C1.Ok.put_link {b:C1} (h:b.Ok) (x:List UInt8) (hx:x.length=100): ({b with link:=x}:C1).Ok:= {h with link:=hx}
theorem E4.get_link {w:World} {g:Nat} {T:TypeId} {AA post:List Value} {b:C1} (h:E4 w g T AA b.bytes post):E4 w g T (AA++Lib.byteCells b.bef_link) b.link (Lib.byteCells b.aft_link++post):=E4.split.1 (by rw[<-C1.at_link];exact h)
theorem E4.put_link {w:World} {g:Nat} {T:TypeId} {AA post:List Value} {b:C1} {x:List UInt8} (h:E4 w g T (AA++Lib.byteCells b.bef_link) x (Lib.byteCells b.aft_link++post)):E4 w g T AA ({b with link:=x}:C1).bytes post:=by rw[C1.put_link];exact E4.split.2 h
theorem C1.Ok.off_link {b:C1} (h:b.Ok) (AA:List Value): (AA++Lib.byteCells b.bef_link).length=AA.length+157:=by rw[zH,zJ,h.bef_link]
def C1.bef_magic (b:C1):List UInt8:=b.name++(b.mode++(b.uid++(b.gid++(b.size++(b.mtime++(b.chk++(b.typ++(b.link))))))))
def C1.aft_magic (b:C1):List UInt8:=b.ver++(b.user++(b.group++(b.maj++(b.mnr++(b.rest)))))
theorem C1.at_magic (b:C1):b.bytes=b.bef_magic++(b.magic++b.aft_magic):=by simp only[C1.bytes,C1.bef_magic,C1.aft_magic,List.append_assoc,List.nil_append,List.append_nil]
theorem C1.put_magic (b:C1) (x:List UInt8): {b with magic:=x}.bytes=b.bef_magic++(x++b.aft_magic):=by simp only[C1.bytes,C1.bef_magic,C1.aft_magic,List.append_assoc,List.nil_append,List.append_nil]
theorem C1.Ok.bef_magic {b:C1} (h:b.Ok):b.bef_magic.length=257:=by simp[C1.bef_magic,h.name,h.mode,h.uid,h.gid,h.size,h.mtime,h.chk,h.typ,h.link]
theorem C1.Ok.put_magic {b:C1} (h:b.Ok) (x:List UInt8) (hx:x.length=6): ({b with magic:=x}:C1).Ok:= {h with magic:=hx}
theorem E4.get_magic {w:World} {g:Nat} {T:TypeId} {AA post:List Value} {b:C1} (h:E4 w g T AA b.bytes post):E4 w g T (AA++Lib.byteCells b.bef_magic) b.magic (Lib.byteCells b.aft_magic++post):=E4.split.1 (by rw[<-C1.at_magic];exact h)
theorem E4.put_magic {w:World} {g:Nat} {T:TypeId} {AA post:List Value} {b:C1} {x:List UInt8} (h:E4 w g T (AA++Lib.byteCells b.bef_magic) x (Lib.byteCells b.aft_magic++post)):E4 w g T AA ({b with magic:=x}:C1).bytes post:=by rw[C1.put_magic];exact E4.split.2 h
theorem C1.Ok.off_magic {b:C1} (h:b.Ok) (AA:List Value): (AA++Lib.byteCells b.bef_magic).length=AA.length+257:=by rw[zH,zJ,h.bef_magic]
def C1.bef_ver (b:C1):List UInt8:=b.name++(b.mode++(b.uid++(b.gid++(b.size++(b.mtime++(b.chk++(b.typ++(b.link++(b.magic)))))))))
def C1.aft_ver (b:C1):List UInt8:=b.user++(b.group++(b.maj++(b.mnr++(b.rest))))
theorem C1.at_ver (b:C1):b.bytes=b.bef_ver++(b.ver++b.aft_ver):=by simp only[C1.bytes,C1.bef_ver,C1.aft_ver,List.append_assoc,List.nil_append,List.append_nil]
theorem C1.put_ver (b:C1) (x:List UInt8): {b with ver:=x}.bytes=b.bef_ver++(x++b.aft_ver):=by simp only[C1.bytes,C1.bef_ver,C1.aft_ver,List.append_assoc,List.nil_append,List.append_nil]
theorem C1.Ok.bef_ver {b:C1} (h:b.Ok):b.bef_ver.length=263:=by simp[C1.bef_ver,h.name,h.mode,h.uid,h.gid,h.size,h.mtime,h.chk,h.typ,h.link,h.magic]
theorem C1.Ok.put_ver {b:C1} (h:b.Ok) (x:List UInt8) (hx:x.length=2): ({b with ver:=x}:C1).Ok:= {h with ver:=hx}
theorem E4.get_ver {w:World} {g:Nat} {T:TypeId} {AA post:List Value} {b:C1} (h:E4 w g T AA b.bytes post):E4 w g T (AA++Lib.byteCells b.bef_ver) b.ver (Lib.byteCells b.aft_ver++post):=E4.split.1 (by rw[<-C1.at_ver];exact h)
theorem E4.put_ver {w:World} {g:Nat} {T:TypeId} {AA post:List Value} {b:C1} {x:List UInt8} (h:E4 w g T (AA++Lib.byteCells b.bef_ver) x (Lib.byteCells b.aft_ver++post)):E4 w g T AA ({b with ver:=x}:C1).bytes post:=by rw[C1.put_ver];exact E4.split.2 h
theorem C1.Ok.off_ver {b:C1} (h:b.Ok) (AA:List Value): (AA++Lib.byteCells b.bef_ver).length=AA.length+263:=by rw[zH,zJ,h.bef_ver]
def C1.bef_user (b:C1):List UInt8:=b.name++(b.mode++(b.uid++(b.gid++(b.size++(b.mtime++(b.chk++(b.typ++(b.link++(b.magic++(b.ver))))))))))
def C1.aft_user (b:C1):List UInt8:=b.group++(b.maj++(b.mnr++(b.rest)))
theorem C1.at_user (b:C1):b.bytes=b.bef_user++(b.user++b.aft_user):=by simp only[C1.bytes,C1.bef_user,C1.aft_user,List.append_assoc,List.nil_append,List.append_nil]
theorem C1.put_user (b:C1) (x:List UInt8): {b with user:=x}.bytes=b.bef_user++(x++b.aft_user):=by simp only[C1.bytes,C1.bef_user,C1.aft_user,List.append_assoc,List.nil_append,List.append_nil]
theorem C1.Ok.bef_user {b:C1} (h:b.Ok):b.bef_user.length=265:=by simp[C1.bef_user,h.name,h.mode,h.uid,h.gid,h.size,h.mtime,h.chk,h.typ,h.link,h.magic,h.ver]
theorem C1.Ok.put_user {b:C1} (h:b.Ok) (x:List UInt8) (hx:x.length=32): ({b with user:=x}:C1).Ok:= {h with user:=hx}
theorem E4.get_user {w:World} {g:Nat} {T:TypeId} {AA post:List Value} {b:C1} (h:E4 w g T AA b.bytes post):E4 w g T (AA++Lib.byteCells b.bef_user) b.user (Lib.byteCells b.aft_user++post):=E4.split.1 (by rw[<-C1.at_user];exact h)
theorem E4.put_user {w:World} {g:Nat} {T:TypeId} {AA post:List Value} {b:C1} {x:List UInt8} (h:E4 w g T (AA++Lib.byteCells b.bef_user) x (Lib.byteCells b.aft_user++post)):E4 w g T AA ({b with user:=x}:C1).bytes post:=by rw[C1.put_user];exact E4.split.2 h
theorem C1.Ok.off_user {b:C1} (h:b.Ok) (AA:List Value): (AA++Lib.byteCells b.bef_user).length=AA.length+265:=by rw[zH,zJ,h.bef_user]
def C1.bef_group (b:C1):List UInt8:=b.name++(b.mode++(b.uid++(b.gid++(b.size++(b.mtime++(b.chk++(b.typ++(b.link++(b.magic++(b.ver++(b.user)))))))))))
def C1.aft_group (b:C1):List UInt8:=b.maj++(b.mnr++(b.rest))
theorem C1.at_group (b:C1):b.bytes=b.bef_group++(b.group++b.aft_group):=by simp only[C1.bytes,C1.bef_group,C1.aft_group,List.append_assoc,List.nil_append,List.append_nil]
theorem C1.put_group (b:C1) (x:List UInt8): {b with group:=x}.bytes=b.bef_group++(x++b.aft_group):=by simp only[C1.bytes,C1.bef_group,C1.aft_group,List.append_assoc,List.nil_append,List.append_nil]
theorem C1.Ok.bef_group {b:C1} (h:b.Ok):b.bef_group.length=297:=by simp[C1.bef_group,h.name,h.mode,h.uid,h.gid,h.size,h.mtime,h.chk,h.typ,h.link,h.magic,h.ver,h.user]
theorem C1.Ok.put_group {b:C1} (h:b.Ok) (x:List UInt8) (hx:x.length=32): ({b with group:=x}:C1).Ok:= {h with group:=hx}
theorem E4.get_group {w:World} {g:Nat} {T:TypeId} {AA post:List Value} {b:C1} (h:E4 w g T AA b.bytes post):E4 w g T (AA++Lib.byteCells b.bef_group) b.group (Lib.byteCells b.aft_group++post):=E4.split.1 (by rw[<-C1.at_group];exact h)
theorem E4.put_group {w:World} {g:Nat} {T:TypeId} {AA post:List Value} {b:C1} {x:List UInt8} (h:E4 w g T (AA++Lib.byteCells b.bef_group) x (Lib.byteCells b.aft_group++post)):E4 w g T AA ({b with group:=x}:C1).bytes post:=by rw[C1.put_group];exact E4.split.2 h
theorem C1.Ok.off_group {b:C1} (h:b.Ok) (AA:List Value): (AA++Lib.byteCells b.bef_group).length=AA.length+297:=by rw[zH,zJ,h.bef_group]
def C1.bef_maj (b:C1):List UInt8:=b.name++(b.mode++(b.uid++(b.gid++(b.size++(b.mtime++(b.chk++(b.typ++(b.link++(b.magic++(b.ver++(b.user++(b.group))))))))))))
def C1.aft_maj (b:C1):List UInt8:=b.mnr++(b.rest)
theorem C1.at_maj (b:C1):b.bytes=b.bef_maj++(b.maj++b.aft_maj):=by simp only[C1.bytes,C1.bef_maj,C1.aft_maj,List.append_assoc,List.nil_append,List.append_nil]
theorem C1.put_maj (b:C1) (x:List UInt8): {b with maj:=x}.bytes=b.bef_maj++(x++b.aft_maj):=by simp only[C1.bytes,C1.bef_maj,C1.aft_maj,List.append_assoc,List.nil_append,List.append_nil]
theorem C1.Ok.bef_maj {b:C1} (h:b.Ok):b.bef_maj.length=329:=by simp[C1.bef_maj,h.name,h.mode,h.uid,h.gid,h.size,h.mtime,h.chk,h.typ,h.link,h.magic,h.ver,h.user,h.group]
theorem C1.Ok.put_maj {b:C1} (h:b.Ok) (x:List UInt8) (hx:x.length=8): ({b with maj:=x}:C1).Ok:= {h with maj:=hx}
theorem E4.get_maj {w:World} {g:Nat} {T:TypeId} {AA post:List Value} {b:C1} (h:E4 w g T AA b.bytes post):E4 w g T (AA++Lib.byteCells b.bef_maj) b.maj (Lib.byteCells b.aft_maj++post):=E4.split.1 (by rw[<-C1.at_maj];exact h)
theorem E4.put_maj {w:World} {g:Nat} {T:TypeId} {AA post:List Value} {b:C1} {x:List UInt8} (h:E4 w g T (AA++Lib.byteCells b.bef_maj) x (Lib.byteCells b.aft_maj++post)):E4 w g T AA ({b with maj:=x}:C1).bytes post:=by rw[C1.put_maj];exact E4.split.2 h
theorem C1.Ok.off_maj {b:C1} (h:b.Ok) (AA:List Value): (AA++Lib.byteCells b.bef_maj).length=AA.length+329:=by rw[zH,zJ,h.bef_maj]
def C1.bef_mnr (b:C1):List UInt8:=b.name++(b.mode++(b.uid++(b.gid++(b.size++(b.mtime++(b.chk++(b.typ++(b.link++(b.magic++(b.ver++(b.user++(b.group++(b.maj)))))))))))))
def C1.aft_mnr (b:C1):List UInt8:=b.rest
theorem C1.at_mnr (b:C1):b.bytes=b.bef_mnr++(b.mnr++b.aft_mnr):=by simp only[C1.bytes,C1.bef_mnr,C1.aft_mnr,List.append_assoc,List.nil_append,List.append_nil]
theorem C1.put_mnr (b:C1) (x:List UInt8): {b with mnr:=x}.bytes=b.bef_mnr++(x++b.aft_mnr):=by simp only[C1.bytes,C1.bef_mnr,C1.aft_mnr,List.append_assoc,List.nil_append,List.append_nil]
theorem C1.Ok.bef_mnr {b:C1} (h:b.Ok):b.bef_mnr.length=337:=by simp[C1.bef_mnr,h.name,h.mode,h.uid,h.gid,h.size,h.mtime,h.chk,h.typ,h.link,h.magic,h.ver,h.user,h.group,h.maj]
theorem C1.Ok.put_mnr {b:C1} (h:b.Ok) (x:List UInt8) (hx:x.length=8): ({b with mnr:=x}:C1).Ok:= {h with mnr:=hx}
theorem E4.get_mnr {w:World} {g:Nat} {T:TypeId} {AA post:List Value} {b:C1} (h:E4 w g T AA b.bytes post):E4 w g T (AA++Lib.byteCells b.bef_mnr) b.mnr (Lib.byteCells b.aft_mnr++post):=E4.split.1 (by rw[<-C1.at_mnr];exact h)
theorem E4.put_mnr {w:World} {g:Nat} {T:TypeId} {AA post:List Value} {b:C1} {x:List UInt8} (h:E4 w g T (AA++Lib.byteCells b.bef_mnr) x (Lib.byteCells b.aft_mnr++post)):E4 w g T AA ({b with mnr:=x}:C1).bytes post:=by rw[C1.put_mnr];exact E4.split.2 h
theorem C1.Ok.off_mnr {b:C1} (h:b.Ok) (AA:List Value): (AA++Lib.byteCells b.bef_mnr).length=AA.length+337:=by rw[zH,zJ,h.bef_mnr]
def C1.bef_rest (b:C1):List UInt8:=b.name++(b.mode++(b.uid++(b.gid++(b.size++(b.mtime++(b.chk++(b.typ++(b.link++(b.magic++(b.ver++(b.user++(b.group++(b.maj++(b.mnr))))))))))))))
def C1.aft_rest (b:C1):List UInt8:=[]
theorem C1.at_rest (b:C1):b.bytes=b.bef_rest++(b.rest++b.aft_rest):=by simp only[C1.bytes,C1.bef_rest,C1.aft_rest,List.append_assoc,List.nil_append,List.append_nil]
theorem C1.put_rest (b:C1) (x:List UInt8): {b with rest:=x}.bytes=b.bef_rest++(x++b.aft_rest):=by simp only[C1.bytes,C1.bef_rest,C1.aft_rest,List.append_assoc,List.nil_append,List.append_nil]
theorem C1.Ok.bef_rest {b:C1} (h:b.Ok):b.bef_rest.length=345:=by simp[C1.bef_rest,h.name,h.mode,h.uid,h.gid,h.size,h.mtime,h.chk,h.typ,h.link,h.magic,h.ver,h.user,h.group,h.maj,h.mnr]
theorem C1.Ok.put_rest {b:C1} (h:b.Ok) (x:List UInt8) (hx:x.length=167): ({b with rest:=x}:C1).Ok:= {h with rest:=hx}
theorem E4.get_rest {w:World} {g:Nat} {T:TypeId} {AA post:List Value} {b:C1} (h:E4 w g T AA b.bytes post):E4 w g T (AA++Lib.byteCells b.bef_rest) b.rest (Lib.byteCells b.aft_rest++post):=E4.split.1 (by rw[<-C1.at_rest];exact h)
theorem E4.put_rest {w:World} {g:Nat} {T:TypeId} {AA post:List Value} {b:C1} {x:List UInt8} (h:E4 w g T (AA++Lib.byteCells b.bef_rest) x (Lib.byteCells b.aft_rest++post)):E4 w g T AA ({b with rest:=x}:C1).bytes post:=by rw[C1.put_rest];exact E4.split.2 h
theorem C1.Ok.off_rest {b:C1} (h:b.Ok) (AA:List Value): (AA++Lib.byteCells b.bef_rest).length=AA.length+345:=by rw[zH,zJ,h.bef_rest]
theorem E4.first {w:World} {g:Nat} {T:TypeId} {AA post:List Value} {f c:List UInt8}:E4 w g T AA (f++c) post↔E4 w g T AA f (Lib.byteCells c++post):=by
 simp only[E4,Lib.byteCells_append,List.append_assoc]
theorem A2G (w:World) (g n c:Nat) (s:List UInt8) (T:TypeId) (AB:List Value) (AA:List UInt8) (post:List Value) (h:E4 w g T AB AA post) (hn:AA.length=n) (hs:s.length=n) (o:Nat) (ho:AB.length=o):
  ∃w1,(Builtin.copy_ #[35,9] 3 #[.slice (some ⟨g,o,none⟩) n c,str s]).run Tryz.prog w= .ok (goInt n) w1/\E4 w1 g T AB s post/\Fr w.heap.size [g] w w1:=by
 have h1:=A0N w g n c s T AB AA post h hn;have e1:s.take n++AA.drop s.length=s:=by rw[List.take_of_length_le (by omega),List.drop_eq_nil_of_le (by omega),QH]
 rw[e1,hs,ho,show(min (n:Int) n)=n by omega] at h1;exact⟨_,h1,h.row s,(Fr.refl _ _ w).setRow (.inl (by simp)) _⟩
theorem E4.below {w w':World} {g:Nat} {T:TypeId} {AA post:List Value} {bs:List UInt8} (h:E4 w g T AA bs post) (f:Below w.heap.size w w'):E4 w' g T AA bs post:=(f.block g (A8 h)).trans h
theorem A3D (w:World) (f x:Int) (h: (bits .and .i64 f x !=0)=true):Calls Tryz.prog 66 #[.int .i64 f,.int .i64 x] w (C4 w (.bool true)):=by
 go_enter Tryz.func66,Tryz.ntmps66
 go_wp2
 go_ret
 exact⟨rfl,rfl⟩
theorem O8 (w:World) (f x:Int) (h: (bits .and .i64 f x !=0)=false):Calls Tryz.prog 66 #[.int .i64 f,.int .i64 x] w (C4 w (.bool false)):=by
 go_enter Tryz.func66,Tryz.ntmps66
 go_wp2
 go_ret
 exact⟨rfl,rfl⟩
def C1.ustar (b:C1):C1:= {b with magic:=[117,115,116,97,114,0],ver:=[48,48]}
def C1.summed (b:C1):C1:= {b with chk:=C2 7 (X8 b.bytes 512)++[32]}
theorem A0D (w:World) (g:Nat) (T:TypeId) (AA:List Value) (b:C1) (post:List Value) (f:Int) (hf:f=2\/f=4) (ok:b.Ok) (h:E4 w g T AA b.bytes post) (hg:g≠15) (AD:w.cell? ⟨15,7,none⟩=some (.int .u8 3)):
  Calls Tryz.prog 132 #[.pointer (some ⟨g,AA.length,none⟩),.int .i64 f] w λe w'=>e= .returned (.tuple #[])/\E4 w' g T AA b.ustar.summed.bytes post/\Fr w.heap.size [g] w w':=by
 have n1:∀w',Calls Tryz.prog 66 #[.int .i64 f,.int .i64 1] w' (C4 w' (.bool false)):=λw'=>O8 w' f 1 (by rcases hf with rfl|rfl<;>kernel_rfl);have n2:∀w',Calls Tryz.prog 66 #[.int .i64 f,.int .i64 8] w' (C4 w' (.bool false)):=λw'=>O8 w' f 8 (by rcases hf with rfl|rfl<;>kernel_rfl);have n3:∀w',Calls Tryz.prog 66 #[.int .i64 f,.int .i64 16] w' (C4 w' (.bool false)):=λw'=>O8 w' f 16 (by rcases hf with rfl|rfl<;>kernel_rfl);have n4:∀w',Calls Tryz.prog 66 #[.int .i64 f,.int .i64 6] w' (C4 w' (.bool true)):=λw'=>A3D w' f 6 (by rcases hf with rfl|rfl<;>kernel_rfl);obtain⟨w1,c1,s1,F1⟩:=A2G w g 6 255 [117,115,116,97,114,0] T _ _ _ h.get_magic ok.magic rfl _ (ok.off_magic AA);have s1:=s1.put_magic;have AO:=ok.put_magic [117,115,116,97,114,0] rfl;obtain⟨w2,c2,s2,F2⟩:=A2G w1 g 2 249 [48,48] T _ _ _ s1.get_ver AO.ver rfl _ (AO.off_ver AA);have s2:=s2.put_ver;have AC:b.ustar.Ok:=AO.put_ver [48,48] rfl;change E4 w2 g T AA b.ustar.bytes post at s2
 have AH:=AC.len;have AM:Fr w.heap.size [g] w w2:=F1.trans (F2.wide F1.size (by simp));have AP:=AM.cell AD (by simpa using Ne.symm hg) (zC AD);have AE:=A2w (w2.alloc (.cells #[.nilIface] 196)) g T AA _ post (s2.below ((zD _ w2).alloc (zB _) _)) AH;have AS:=A0l b.ustar.bytes 512;have AL:b.ustar.summed.bytes= {b.ustar with chk:=C2 7 (X8 b.ustar.bytes 512)++[32]}.bytes:=rfl;have AU:b.ustar.chk=b.ustar.chk.take 7++b.ustar.chk.drop 7:=(List.take_append_drop 7 _).symm;generalize AV:X8 b.ustar.bytes 512=sm at*;have AI:B8 7 (sm:Int)=true:=by simp[B8];omega
 have AB:∀nd,Calls Tryz.prog 130 #[.pointer (some ⟨w2.heap.size,0,none⟩),.slice (some ⟨g,AA.length+148,none⟩) 7 364,.int .i64 sm] ((w2.alloc (.cells #[.nilIface] 196)).drewN nd) λe w'=>e= .returned (.tuple #[])/\
   E4 w' g T (AA++Lib.byteCells b.ustar.bef_chk) (C2 7 sm++b.ustar.chk.drop 7) (Lib.byteCells b.ustar.aft_chk++post)/\Fr w.heap.size [g] w w':=λnd=>by
  have s3:E4 ((w2.alloc (.cells #[.nilIface] 196)).drewN nd) g T (AA++Lib.byteCells b.ustar.bef_chk) b.ustar.chk (Lib.byteCells b.ustar.aft_chk++post):=(s2.below ((zD _ w2).alloc (zB _) _)).get_chk;rw[AU] at s3;have F3:Fr w.heap.size [g] w ((w2.alloc (.cells #[.nilIface] 196)).drewN nd):=(AM.alloc _).drewN nd;have AQ:=F3.cell AD (by simpa using Ne.symm hg) (zC AD);have:=U1 ((w2.alloc (.cells #[.nilIface] 196)).drewN nd) w2.heap.size g 7 364 sm T _ _ _ (E4.first.1 s3) (by rw[zR,AC.chk];rfl) (.inl rfl) (by omega) AI hg AQ;rw[AC.off_chk] at this;refine this.mono ?_;rintro e w' ⟨rfl,h1,h2⟩;exact⟨rfl,E4.first.2 h1,F3.trans (h2.wide F3.size (by simp))⟩
 have AR: (C2 7 sm).length=7:=D2 7 sm (by omega) (by omega)
 obtain⟨c8,AT⟩:∃c8,b.ustar.chk.drop 7=[c8]:=by
  have: (b.ustar.chk.drop 7).length=1:=by rw[List.length_drop,AC.chk]
  exact List.length_eq_one_iff.1 this
 rw[AT] at AB;have AJ:=AC.off_chk AA
 have AG:∀w5,E4 w5 g T (AA++Lib.byteCells b.ustar.bef_chk) (C2 7 sm++[c8]) (Lib.byteCells b.ustar.aft_chk++post)->w5.cell? ⟨g,AA.length+148+7,none⟩=some (.int .u8 c8.toNat)/\w5.frozen? ⟨g,AA.length+148+7,none⟩=false/\
   E4 (w5.setCell ⟨g,AA.length+148+7,none⟩ (.int .u8 32)) g T AA b.ustar.summed.bytes post:=λw5 h5=>by
  have a1:=h5.cell 7 c8 (by rw[zT (by omega),AR];rfl);have a2:=h5.frozen 7;have a3:=h5.set 7 (by simp;omega) 32;rw[List.set_append_right _ _ (by omega),AR] at a3;rw[AJ] at a1 a2 a3;refine⟨a1,a2,?_⟩;rw[AL];exact a3.put_chk
 have v7:=A0 A5Z;have vu:=A0 Z0;have vm:=A0 A9l;have vv:=A0 A5a;have vc:=A0 B0M;have N1:=A0 n1;have N2:=A0 n2;have N3:=A0 n3;have N4:=A0 n4;have H:=A0 h;have S2:=A0 s2;have HF:=A0 AM;have HC:=A0 AE;have HS:=A0 AB;have HN:=A0 AG;clear h s1 s2 F1 F2 AM AP AL AU AV AO AC AR AT AJ n1 n2 n3 n4 AE AB AG AI AH AS ok AD;go_enter Tryz.func132,Tryz.ntmps132
 go_wp2_with fail
 refine(N1.out _).mono ?_;rintro e wx ⟨rfl,rfl⟩;go_wp2_with fail
 refine(N2.out _).mono ?_;rintro e wx ⟨rfl,rfl⟩;go_wp2_with fail
 refine(N3.out _).mono ?_;rintro e wx ⟨rfl,rfl⟩;go_wp2_with fail
 refine(N4.out _).mono ?_;rintro e wx ⟨rfl,rfl⟩;go_wp2_with fail
 refine(vu.out _ _).mono ?_;rintro e wx ⟨rfl,rfl⟩;go_wp2_with fail
 refine(vm.out _ _ _).mono ?_;rintro e wx ⟨rfl,rfl⟩;go_wp2_with fail
 refine(vu.out _ _).mono ?_;rintro e wx ⟨rfl,rfl⟩;go_wp2_with fail
 refine(vv.out _ _ _).mono ?_;rintro e wx ⟨rfl,rfl⟩;go_wp2_with fail
 refine(v7.out _ _).mono ?_;rintro e wx ⟨rfl,rfl⟩;go_wp2_with fail
 refine(vc.out _ _ _).mono ?_;rintro e wx ⟨rfl,rfl⟩;go_wp2_with fail
 refine HC.out.mono ?_;rintro e wx ⟨⟨z,rfl⟩,nd,rfl⟩;go_wp2_with fail
 refine(HS.out nd).mono ?_;rintro e w5 ⟨rfl,h5,F5⟩;obtain⟨a1,a2,a3⟩:=HN.out w5 h5;have A3:=A0 a3;clear a3 h5;go_wp2_with fail
 go_end0
 exact⟨rfl,A3.out,F5.setCell (p:=⟨g,AA.length+148+7,none⟩) (.inl (by simp)) _⟩
def C1.mag (b:C1) (mg vr:List UInt8):C1:= {b with magic:=mg,ver:=vr}
def SF (f:Int) (mg vr:List UInt8):Prop:=mg.length=6/\vr.length=2/\∀ (w:World) (g:Nat) (T:TypeId) (AA:List Value) (b:C1) (post:List Value),b.Ok->E4 w g T AA b.bytes post->g≠15->w.cell? ⟨15,7,none⟩=some (.int .u8 3)->
 Calls Tryz.prog 132 #[.pointer (some ⟨g,AA.length,none⟩),.int .i64 f] w λe w'=>e= .returned (.tuple #[])/\E4 w' g T AA (b.mag mg vr).summed.bytes post/\Fr w.heap.size [g] w w'
theorem B3K:SF 4 [117,115,116,97,114,0] [48,48]:=⟨rfl,rfl,λw g T AA b post ok h hg hd=>A0D w g T AA b post 4 (.inr rfl) ok h hg hd⟩
theorem A8z (n:Int):bits .and .i64 n 511=n% 512:=by
 have AA: (BitVec.ofInt 64 511).toNat=2^9-1:=by decide
 have key: (BitVec.ofInt 64 n&&&BitVec.ofInt 64 511).toNat=(n% ((2^64:Nat):Int)).toNat% 2^9:=by
  rw[BitVec.toNat_and,BitVec.toNat_ofInt,AA,Nat.and_two_pow_sub_one_eq_mod]
 show IntKind.i64.wrap ((BitVec.ofInt 64 n&&&BitVec.ofInt 64 511).toNat:Nat)=n% 512
 rw[key,IntKind.wrap_i64];omega
def E7 (n:Int):Int:=(-n)% 512
theorem A7V (w:World) (n:Int) (h0:0<=n) (h1:n<=9223372036854775807):Calls Tryz.prog 186 #[.int .i64 n] w (C4 w (.int .i64 (E7 n))):=by
 have e1:IntKind.i64.wrap (-n)= -n:=zQ _ (by omega);have e2:bits .and .i64 (-n) 511=E7 n:=A8z _;go_enter Tryz.func186,Tryz.ntmps186
 go_wp2_with fail
 go_ret
 exact⟨rfl,rfl⟩
def D1 (t:Int):Bool:=decide (49<=t/\t<=54)
theorem A3b (w:World) (t:Int):Calls Tryz.prog 124 #[.int .u8 t] w (C4 w (.bool (D1 t))):=by
 have e:∀x:Int,(t==x)=decide (t=x):=λx=>by by_cases h:t=x<;>simp[h]
 by_cases h:49<=t/\t<=54
 ·have e2:D1 t=true:=by simp[D1];exact h
  rw[e2];have h3:t=49\/t=50\/t=51\/t=52\/t=53\/t=54:=by omega
  rcases h3 with rfl|rfl|rfl|rfl|rfl|rfl<;>
  ·clear e e2 h
   go_enter Tryz.func124,Tryz.ntmps124
   go_wp2
   go_ret
   exact⟨rfl,rfl⟩
 ·have e2:D1 t=false:=by rw[D1,zV h]
  rw[e2];have q:∀x:Int,49<=x/\x<=54->(t==x)=false:=λx hx=>by rw[zG];rintro rfl;exact h hx
  have q1:=q 49 (by omega);have q2:=q 50 (by omega);have q3:=q 51 (by omega);have q4:=q 52 (by omega);have q5:=q 53 (by omega);have q6:=q 54 (by omega);clear e e2 q h;go_enter Tryz.func124,Tryz.ntmps124
  go_wp2
  go_ret
  exact⟨rfl,rfl⟩
theorem TW.seg {tw b fw:Nat} {AD:Int} {AC:List Value} {AA:List UInt8} {AB:Value} {w:World} (h:TW tw b fw AD AC (Lib.byteCells AA) AB w):
  E4 w tw 134 (.iface 75 (.pointer (some ⟨b,0,none⟩))::.int .i64 AD::.iface 119 (.pointer (some ⟨fw,0,none⟩))::AC) AA [AB]:=by
 rw[E4,h.1];simp[J3]
theorem TW.of_seg {tw b fw:Nat} {AD:Int} {AB:List Value} {AA:List UInt8} {AC:Value} {w:World} (h:E4 w tw 134 (.iface 75 (.pointer (some ⟨b,0,none⟩))::.int .i64 AD::.iface 119 (.pointer (some ⟨fw,0,none⟩))::AB) AA [AC]) (hh:AB.length=20) (hk:AA.length=512):
  TW tw b fw AD AB (Lib.byteCells AA) AC w:=by
 refine⟨?_,hh,by rw[zJ,hk]⟩;rw[h];simp[J3]
theorem E4.at {w:World} {g:Nat} {T:TypeId} {AA post:List Value} {bs:List UInt8} (h:E4 w g T AA bs post) (o:Nat) (ho:AA.length=o):At w g o (Lib.byteCells bs):=
 At.of_heap h λj v hj=>by
  subst ho;have hl:=(zM.1 hj).1;rw[List.getElem?_toArray,QG,zT (by omega),zX (by omega)];simpa using hj
theorem X4 (w:World) (B tw b fw AI:Nat) (Af:AI<512) (bs AD:List UInt8) (AO:List Value) (size sz:Int) (AA:Int)
  (hB:W3 B b bs w) (AW:B<=w.heap.size) (hW:TW tw b fw AI AO (Lib.byteCells AD) .nilIface w) (hf:FW fw b 0 w) (Ad:bs.length+AI+512<=140737488355328)
  (Ag:0<=sz) (Ah:sz<=9223372036854775807) (AP:sz=if D1 AA then 0 else size):
  Calls Tryz.prog 133 #[.pointer (some ⟨tw,0,none⟩),.pointer (some ⟨tw,23,none⟩),.int .i64 size,.int .u8 AA] w λe w'=>e= .returned (.nilIface)/\
   ∃AB,W3 B b (bs++List.replicate AI 0++AD) w'/\TW tw b AB (E7 sz) AO (Lib.byteCells AD) .nilIface w'/\FW AB b sz w'/\w.heap.size<=AB/\AB<w'.heap.size/\Fr B [b,tw] w w':=by
 have h1:=B2J w B tw b fw AI Af bs AO (Lib.byteCells AD) hB AW hW hf (by omega);have AZ:tw≠b:=hB.ne hW.1 (by decide);have m2:=A4Y;have Ac:=λw=>A0 (A3b w AA);have AY:=λw=>A0 (A7V w sz Ag Ah);have AG:D1 AA=true->sz=0:=λh=>by rw[AP,if_pos h]
 have AH:D1 AA=false->size=sz:=λh=>by rw[AP,if_neg (by rw[h];decide)]
 clear hB hW hf;go_enter Tryz.func133,Tryz.ntmps133
 go_wp2_with fail
 refine h1.mono ?_;rintro e w1 ⟨rfl,Ab,AE,AQ⟩;have AR:AD.length=512:=by have:=AE.2.2;rwa [zJ] at this
 have Aa:=AE.seg;have AX:=A2u B b (bs++List.replicate AI 0) AD tw 23 512 512 w1.drew Ab.drew (by have:=AQ.size;exact zP AW this) AR AZ (Aa.at 23 (by simp[AE.2.1])) (by simp;omega);have HC:=A0 AX;have AJ:=A0 AE;have AU:=A0 AQ;obtain⟨c0,c1,aA,z1,AT⟩:=V7 AE.2.1 AE.2.2 AE.1;have Ai:=zC c0;clear AX AE AQ Aa h1;go_wp2_with fail
 go_region_held3 (λw'=>w'.cell? ⟨tw,0,none⟩=some (.iface 75 (.pointer (some ⟨b,0,none⟩)))) (first|go_keep|assumption)
  (first|(go_at_call 284;refine HC.out.mono ?_;rintro e w2 ⟨rfl,AV,AM⟩;have AC:=AM.cells AJ.out.1 (by simpa using AZ) (.inr (by decide));obtain⟨d0,d1,aB,z1,AT⟩:=V7 AJ.out.2.1 AJ.out.2.2 AC))
 have AL:∀w4,w4=(((w2.setCell ⟨tw,2,none⟩ (.iface 119 (.pointer (some ⟨w2.heap.size,0,none⟩)))).setCell ⟨tw,1,none⟩ (.int .i64 (E7 sz))).alloc (.cells #[.iface 75 (.pointer (some ⟨b,0,none⟩)),.int .i64 sz] 121))->
   ∃AB,W3 B b (bs++List.replicate AI 0++AD) w4/\TW tw b AB (E7 sz) AO (Lib.byteCells AD) .nilIface w4/\FW AB b sz w4/\w.heap.size<=AB/\AB<w4.heap.size/\Fr B [b,tw] w w4:=by
  rintro w4 rfl;have Ak:=A8 AC;have q2:=B6 (i:=2) (.iface 119 (.pointer (some ⟨w2.heap.size,0,none⟩))) AC;rw[A8b] at q2;have q3:=B6 (i:=1) (.int .i64 (E7 sz)) q2;rw[A4M] at q3;have e3: ((w2.setCell ⟨tw,2,none⟩ (.iface 119 (.pointer (some ⟨w2.heap.size,0,none⟩)))).setCell ⟨tw,1,none⟩ (.int .i64 (E7 sz))).heap.size=w2.heap.size:=by simp[World.setCell]
  have B3:=(AV.setCell (p:=⟨tw,2,none⟩) AC (by decide) (by decide) (.iface 119 (.pointer (some ⟨w2.heap.size,0,none⟩)))).setCell (p:=⟨tw,1,none⟩) q2 (by decide) (by decide) (.int .i64 (E7 sz));have FF:Fr B [b,tw] w _:=(((AU.out.drew.trans (AM.wide (zB _) (by simp))).setCell (p:=⟨tw,2,none⟩) (.inl (by simp)) (.iface 119 (.pointer (some ⟨w2.heap.size,0,none⟩)))).setCell (p:=⟨tw,1,none⟩) (.inl (by simp)) (.int .i64 (E7 sz)));have AS:w1.heap.size<=w2.heap.size:=AM.size;generalize ((w2.setCell ⟨tw,2,none⟩ (.iface 119 (.pointer (some ⟨w2.heap.size,0,none⟩)))).setCell ⟨tw,1,none⟩ (.int .i64 (E7 sz)))=w3 at*;refine⟨w2.heap.size,B3.alloc _,⟨(zO w3 _ tw (A8 q3)).trans q3,AJ.out.2.1,AJ.out.2.2⟩,?_,zP AU.out.size AS,?_,FF.alloc _⟩
  ·have r1:=zI w3 (.cells #[.iface 75 (.pointer (some ⟨b,0,none⟩)),.int .i64 sz] 121)
   rw[e3] at r1;exact r1
  ·simp;omega
 have d2:w2.cell? ⟨tw,2,none⟩=some (.iface 119 (.pointer (some ⟨fw,0,none⟩))):=by rw[zA AC];exact A3U ..
 have Al:w2.frozen? ⟨tw,2,none⟩=false:=zE AC 2;have HN:=A0 AL;have Aj:=A0 AC;have Ae:=A8 AC;clear AL AC AV AM c0 c1 aA;go_wp2_with fail
 refine(Ac _).out.mono ?_;rintro e wx ⟨rfl,rfl⟩;cases hb:D1 AA
 ·obtain rfl:=AH hb
  clear AP AG AH;go_wp2_with fail
  refine(AY _).out.mono ?_;rintro e wx ⟨rfl,rfl⟩;go_wp2_with fail
  go_ret
  exact⟨rfl,HN.out _ rfl⟩
 ·have hz:=AG hb
  clear AP AG AH;subst hz;go_wp2_with fail
  refine(AY _).out.mono ?_;rintro e wx ⟨rfl,rfl⟩;go_wp2_with fail
  go_ret
  exact⟨rfl,HN.out _ rfl⟩
theorem A9o:Tryz.zeroCells132.toList=Lib.byteCells (List.replicate 512 0):=by
 have h:=B0N;rw[h,A0d]
theorem B1U (w:World) (g:Nat) (T:TypeId) (AB:List Value) (bs:List UInt8) (post:List Value) (h:E4 w g T AB bs post) (AA:List UInt8) (hn:AA.length=bs.length):
  ∃w1,(storeCells ⟨g,AB.length,none⟩ (Lib.byteCells AA)).run Tryz.prog w= .ok () w1/\E4 w1 g T AB AA post/\Fr w.heap.size [g] w w1:=by
 have AC:=run_storeCells_at Tryz.prog g AB.length T (Lib.byteCells AA) 0 _ w h (by simp[Lib.byteCells_length,hn]) (Lib.byteCells_one _);simp only[Nat.add_zero] at AC;have e2:=B0K AB (Lib.byteCells bs) post (Lib.byteCells AA) (by simp[Lib.byteCells_length,hn]);have e4: (Lib.byteCells bs).drop (Lib.byteCells AA).length=[]:=List.drop_eq_nil_of_le (by simp[Lib.byteCells_length,hn]);rw[e4,QH] at e2;simp only[List.append_assoc] at AC e2;rw[e2] at AC;have:=h.row AA;rw[QG] at this;exact⟨_,AC,this,(Fr.refl _ _ w).setRow (.inl (by simp)) _⟩
theorem A0h (w:World) (g:Nat) (T:TypeId) (AA:List Value) (bs:List UInt8) (post:List Value) (h:E4 w g T AA bs post) (hn:bs.length=512) (o:Nat) (ho:AA.length=o):
  Calls Tryz.prog 173 #[.pointer (some ⟨g,o,none⟩)] w λe w'=>e= .returned (.tuple #[])/\E4 w' g T AA (List.replicate 512 0) post/\Fr w.heap.size [g] w w':=by
 obtain⟨w1,AB,h1,h2⟩:=B1U w g T AA bs post h (List.replicate 512 0) (by rw[z7,hn]);rw[<-A9o,ho] at AB;clear h;go_enter Tryz.func173,Tryz.ntmps173
 go_wp2_with fail
 go_end0
 exact⟨rfl,h1,h2⟩
end Go.Proofs.YtkanmkcojlefbaaGreatDoor
