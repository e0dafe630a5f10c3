/-
  Part of the proof; holds the texts Ref8.
-/
import Derived.Test.YtkanmkcojlefbaaGreatDoorM37
set_option maxRecDepth 100000
set_option linter.unusedSimpArgs false
set_option linter.unusedVariables false
namespace Go.Proofs.YtkanmkcojlefbaaGreatDoor
open Go.RowKit
structure SameH (a b : IH) : Prop where
  typ : b.typ = a.typ
  name : b.name = a.name
  link : b.link = a.link
  size : b.size = a.size
  mode : b.mode = a.mode
  uid : b.uid = a.uid
  gid : b.gid = a.gid
  user : b.user = a.user
  group : b.group = a.group
  ms : b.ms = a.ms
  mn : b.mn = a.mn
  hasA : b.hasA = a.hasA
  hasC : b.hasC = a.hasC
  ac : a.hasA = true → b.ats = a.ats ∧ b.atn = a.atn
  ch : a.hasC = true → b.cts = a.cts ∧ b.ctn = a.ctn
  maj : b.maj = a.maj
  mnr : b.mnr = a.mnr
set_option maxHeartbeats 8000000 in
theorem specSame (a b : IH) (w : World) (hs : SameH a b) : Calls Tryz.prog 23 #[.agg a.scells.toArray,.agg b.scells.toArray] w fun e w' => e = .returned (.bool true) ∧ Below w.heap.size w w' := by
  obtain ⟨h1,h2,h3,h4,h5,h6,h7,h8,h9,h10,h11,h12,h13,h14,h15,h16,h17⟩ := hs
  obtain ⟨typ,name,link,size,mode,uid,gid,user,group,ms,mn,hasA,ats,atn,hasC,cts,ctn,maj,mnr,recs,fmt⟩ := a
  obtain ⟨typ',name',link',size',mode',uid',gid',user',group',ms',mn',hasA',ats',atn',hasC',cts',ctn',maj',mnr',recs',fmt'⟩ := b
  simp only at h1 h2 h3 h4 h5 h6 h7 h8 h9 h10 h11 h12 h13 h14 h15 h16 h17
  subst h1 h2 h3 h4 h5 h6 h7 h8 h9 h10 h11 h12 h13 h16 h17
  obtain ⟨wA,hwA⟩ : ∃ wA,wA = (w.alloc (.cells (IH.scells ⟨typ',name',link',size',mode',uid',gid',user',group',ms',mn',hasA',ats,atn,hasC',cts,ctn,maj',mnr',recs,fmt⟩).toArray 31)).alloc (.cells (IH.scells ⟨typ',name',link',size',mode',uid',gid',user',group',ms',mn',hasA',ats',atn',hasC',cts',ctn',maj',mnr',recs',fmt'⟩).toArray 31) := ⟨_,rfl⟩
  have s1 : (w.alloc (.cells (IH.scells ⟨typ',name',link',size',mode',uid',gid',user',group',ms',mn',hasA',ats,atn,hasC',cts,ctn,maj',mnr',recs,fmt⟩).toArray 31)).heap.size = w.heap.size + 1 := Array.size_push ..
  have SA : SB w.heap.size ⟨typ',name',link',size',mode',uid',gid',user',group',ms',mn',hasA',ats,atn,hasC',cts,ctn,maj',mnr',recs,fmt⟩ wA := by rw [hwA]; exact (Below.heap_alloc _ _ _ (by omega)).trans (heap_alloc_new w _)
  have SS : SB (w.heap.size + 1) ⟨typ',name',link',size',mode',uid',gid',user',group',ms',mn',hasA',ats',atn',hasC',cts',ctn',maj',mnr',recs',fmt'⟩ wA := by rw [hwA,← s1]; exact heap_alloc_new _ _
  have HB : Hid (Below w.heap.size w wA) := Lib.hid (by rw [hwA]; exact ((Below.refl _ w).alloc (Nat.le_refl _) _).alloc (by omega) _)
  have c0 := SA.cell 0 (.int .u8 typ') rfl
  have c1 := SA.cell 1 (str name') rfl
  have c2 := SA.cell 2 (str link') rfl
  have c3 := SA.cell 3 (.int .i64 size') rfl
  have c4 := SA.cell 4 (.int .i64 mode') rfl
  have c5 := SA.cell 5 (.int .i64 uid') rfl
  have c6 := SA.cell 6 (.int .i64 gid') rfl
  have c7 := SA.cell 7 (str user') rfl
  have c8 := SA.cell 8 (str group') rfl
  have c9 := SA.cell 9 (.int .i64 ms') rfl
  have c10 := SA.cell 10 (.int .i64 mn') rfl
  have c11 := SA.cell 11 (.bool hasA') rfl
  have c12 := SA.cell 12 (.bool hasC') rfl
  have c13 := SA.cell 13 (.int .i64 ats) rfl
  have c14 := SA.cell 14 (.int .i64 atn) rfl
  have c15 := SA.cell 15 (.int .i64 cts) rfl
  have c16 := SA.cell 16 (.int .i64 ctn) rfl
  have c17 := SA.cell 17 (.int .i64 maj') rfl
  have c18 := SA.cell 18 (.int .i64 mnr') rfl
  have d0 := SS.cell 0 (.int .u8 typ') rfl
  have d1 := SS.cell 1 (str name') rfl
  have d2 := SS.cell 2 (str link') rfl
  have d3 := SS.cell 3 (.int .i64 size') rfl
  have d4 := SS.cell 4 (.int .i64 mode') rfl
  have d5 := SS.cell 5 (.int .i64 uid') rfl
  have d6 := SS.cell 6 (.int .i64 gid') rfl
  have d7 := SS.cell 7 (str user') rfl
  have d8 := SS.cell 8 (str group') rfl
  have d9 := SS.cell 9 (.int .i64 ms') rfl
  have d10 := SS.cell 10 (.int .i64 mn') rfl
  have d11 := SS.cell 11 (.bool hasA') rfl
  have d12 := SS.cell 12 (.bool hasC') rfl
  have d13 := SS.cell 13 (.int .i64 ats') rfl
  have d14 := SS.cell 14 (.int .i64 atn') rfl
  have d15 := SS.cell 15 (.int .i64 cts') rfl
  have d16 := SS.cell 16 (.int .i64 ctn') rfl
  have d17 := SS.cell 17 (.int .i64 maj') rfl
  have d18 := SS.cell 18 (.int .i64 mnr') rfl
  clear SA SS s1
  subst hwA
  cases hasA' <;> cases hasC'
  all_goals
    first | (obtain ⟨rfl,rfl⟩ := h14 rfl) | skip
    first | (obtain ⟨rfl,rfl⟩ := h15 rfl) | skip
    clear h14 h15
    go_enter Tryz.func23,Tryz.ntmps23
    go_wp2_with fail
    go_ret
    exact ⟨rfl,HB.out⟩
end Go.Proofs.YtkanmkcojlefbaaGreatDoor
