/-
  Part of the proof; holds the texts Ref8.
-/
import Derived.Test.YtkanmkcojlefbaaGreatDoorM38
set_option maxHeartbeats 8000000
set_option maxRecDepth 100000
set_option linter.unusedSimpArgs false
set_option linter.unusedVariables false
namespace Go.Proofs.YtkanmkcojlefbaaGreatDoor
open Go.RowKit
structure A1b (a b:IH):Prop where
 typ:b.typ=a.typ
 name:b.name=a.name
 link:b.link=a.link
 size:b.size=a.size
 mode:b.mode=a.mode
 uid:b.uid=a.uid
 gid:b.gid=a.gid
 user:b.user=a.user
 group:b.group=a.group
 ms:b.ms=a.ms
 mn:b.mn=a.mn
 hasA:b.hasA=a.hasA
 hasC:b.hasC=a.hasC
 ac:a.hasA=true->b.ats=a.ats/\b.atn=a.atn
 ch:a.hasC=true->b.cts=a.cts/\b.ctn=a.ctn
 maj:b.maj=a.maj
 mnr:b.mnr=a.mnr
theorem B3O (a b:IH) (w:World) (hs:A1b a b):Calls Tryz.prog 23 #[.agg a.scells.toArray,.agg b.scells.toArray] w λe w'=>e= .returned (.bool true)/\Below w.heap.size w w':=by
 obtain⟨h1,h2,h3,h4,h5,h6,h7,h8,h9,Ab,Ac,Ad,Ae,AZ,Aa,Af,Ag⟩:=hs;obtain⟨typ,name,link,size,mode,uid,gid,user,group,ms,mn,hasA,ats,atn,hasC,cts,ctn,maj,mnr,recs,fmt⟩:=a;obtain⟨AO,AG,AD,AH,AE,AP,AJ,AI,AA,AW,AV,AB,AS,AR,AC,AU,AT,AL,AM,AQ,AX⟩:=b;simp only at h1 h2 h3 h4 h5 h6 h7 h8 h9 Ab Ac Ad Ae AZ Aa Af Ag;subst h1 h2 h3 h4 h5 h6 h7 h8 h9 Ab Ac Ad Ae Af Ag;obtain⟨wA,AY⟩:∃wA,wA=(w.alloc (.cells (IH.scells ⟨AO,AG,AD,AH,AE,AP,AJ,AI,AA,AW,AV,AB,ats,atn,AC,cts,ctn,AL,AM,recs,fmt⟩).toArray 31)).alloc (.cells (IH.scells ⟨AO,AG,AD,AH,AE,AP,AJ,AI,AA,AW,AV,AB,AS,AR,AC,AU,AT,AL,AM,AQ,AX⟩).toArray 31):=⟨_,rfl⟩;have s1: (w.alloc (.cells (IH.scells ⟨AO,AG,AD,AH,AE,AP,AJ,AI,AA,AW,AV,AB,ats,atn,AC,cts,ctn,AL,AM,recs,fmt⟩).toArray 31)).heap.size=w.heap.size+1:=Array.size_push ..;have SA:SB w.heap.size ⟨AO,AG,AD,AH,AE,AP,AJ,AI,AA,AW,AV,AB,ats,atn,AC,cts,ctn,AL,AM,recs,fmt⟩ wA:=by rw[AY];exact(zO _ _ _ (by omega)).trans (zI w _)
 have SS:SB (w.heap.size+1) ⟨AO,AG,AD,AH,AE,AP,AJ,AI,AA,AW,AV,AB,AS,AR,AC,AU,AT,AL,AM,AQ,AX⟩ wA:=by rw[AY,<-s1];exact zI _ _
 have HB:Hid (Below w.heap.size w wA):=A0 (by rw[AY];exact((zD _ w).alloc (zB _) _).alloc (by omega) _);have c0:=SA.cell 0 (.int .u8 AO) rfl;have c1:=SA.cell 1 (str AG) rfl;have c2:=SA.cell 2 (str AD) rfl;have c3:=SA.cell 3 (.int .i64 AH) rfl;have c4:=SA.cell 4 (.int .i64 AE) rfl;have c5:=SA.cell 5 (.int .i64 AP) rfl;have c6:=SA.cell 6 (.int .i64 AJ) rfl;have c7:=SA.cell 7 (str AI) rfl;have c8:=SA.cell 8 (str AA) rfl;have c9:=SA.cell 9 (.int .i64 AW) rfl;have aA:=SA.cell 10 (.int .i64 AV) rfl;have aB:=SA.cell 11 (.bool AB) rfl;have aD:=SA.cell 12 (.bool AC) rfl;have aF:=SA.cell 13 (.int .i64 ats) rfl;have aG:=SA.cell 14 (.int .i64 atn) rfl;have aH:=SA.cell 15 (.int .i64 cts) rfl;have aI:=SA.cell 16 (.int .i64 ctn) rfl;have aJ:=SA.cell 17 (.int .i64 AL) rfl;have aK:=SA.cell 18 (.int .i64 AM) rfl;have d0:=SS.cell 0 (.int .u8 AO) rfl;have d1:=SS.cell 1 (str AG) rfl;have d2:=SS.cell 2 (str AD) rfl;have d3:=SS.cell 3 (.int .i64 AH) rfl;have d4:=SS.cell 4 (.int .i64 AE) rfl;have d5:=SS.cell 5 (.int .i64 AP) rfl;have d6:=SS.cell 6 (.int .i64 AJ) rfl;have d7:=SS.cell 7 (str AI) rfl;have d8:=SS.cell 8 (str AA) rfl;have d9:=SS.cell 9 (.int .i64 AW) rfl;have aL:=SS.cell 10 (.int .i64 AV) rfl;have aM:=SS.cell 11 (.bool AB) rfl;have aN:=SS.cell 12 (.bool AC) rfl;have aO:=SS.cell 13 (.int .i64 AS) rfl;have aP:=SS.cell 14 (.int .i64 AR) rfl;have aQ:=SS.cell 15 (.int .i64 AU) rfl;have aR:=SS.cell 16 (.int .i64 AT) rfl;have aS:=SS.cell 17 (.int .i64 AL) rfl
 have aT:=SS.cell 18 (.int .i64 AM) rfl;clear SA SS s1;subst AY;cases AB<;>cases AC
 all_goals
  first|(obtain⟨rfl,rfl⟩:=AZ rfl)|skip
  first|(obtain⟨rfl,rfl⟩:=Aa rfl)|skip
  clear AZ Aa;go_enter Tryz.func23,Tryz.ntmps23
  go_wp2_with fail
  go_ret
  exact⟨rfl,HB.out⟩
end Go.Proofs.YtkanmkcojlefbaaGreatDoor
