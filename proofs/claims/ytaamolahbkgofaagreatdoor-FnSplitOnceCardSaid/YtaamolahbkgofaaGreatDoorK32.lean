/-
  From what the rows list of package-level variables to what the walks ask of memory; a world in which it all lies so. Conditions: none.
-/
import Derived.Test.YtaamolahbkgofaaGreatDoorK06
import Derived.Lib.LaidU8
import Derived.PinnedBridge
import Derived.LaidHandle
import Derived.LaidMore
import Derived.Lay
import Derived.Stop.LaidErr
import Derived.Stop.Joined
import Derived.WalkKit
import Derived.ProofKit
import Derived.OpenShut
import Derived.ShutString
import Derived.ChangeOld
import Derived.Below
set_option linter.unusedVariables false
namespace Go.Proofs.YtaamolahbkgofaaGreatDoor.lex
open Go.ChangeShapes Go.WideShapes Go.ChangeAt Go.RowKit Go.Lib
open mem lines plain
def laid9:List (String × DataW Unit):=[("math/bits.deBruijn32tab",Rows.laid_math_bits_deBruijn32tab),("math/bits.deBruijn64tab",Rows.laid_math_bits_deBruijn64tab),("internal/strconv.uint64pow10",Rows.laid_internal_strconv_uint64pow10),("unicode/utf8.acceptRanges",Rows.laid_unicode_utf8_acceptRanges),("strconv.ErrRange",Rows.laid_strconv_ErrRange),("strconv.ErrSyntax",Rows.laid_strconv_ErrSyntax),("unicode.White_Space",Rows.laid_unicode_White_Space),("bytes.ErrTooLarge",Rows.laid_bytes_ErrTooLarge),("unicode/utf8.first",Rows.laid_unicode_utf8_first)]
def laidE:List (String × DataW Unit):=[("errors.errorType",Rows.laid_errors_errorType)]
def laidAll:List (String × DataW Unit):=Rows.fnLexPlacesRow.laid
theorem own:ownKnob Tryz.prog.godebug=none:=by kernel_rfl
theorem gErr:Tryz.prog.globalNamed "errors.errorType"=some 0:=by kernel_rfl
theorem tRt:(Tryz.prog.cutTypes.find? (·.1=="internal/reflectlite.rtype")).map (·.2)=some 140:=by kernel_rfl
theorem tOne:((List.range Tryz.prog.types.size).filter fun t=>Tryz.prog.rowNamed t [101,114,114,111,114])=[54]:=by kernel_rfl
theorem parts_of {W:World} (h:laidMetH Tryz.prog laidAll W):laidMet Tryz.prog laid9 W∧handlesMet Tryz.prog laidE W:=h
theorem err_of {W:World} (h:handlesMet Tryz.prog laidE W):ErrT W:=by
 obtain ⟨name,u,ty,e1,e2,e3,e4,e5⟩:=h _ (List.mem_singleton.2 rfl)
 have en:name=[101,114,114,111,114]:=(Option.some.inj e1).symm
 subst en
 obtain rfl:=Option.some.inj (tRt.symm.trans e2)
 have hm:ty∈(List.range Tryz.prog.types.size).filter fun t=>Tryz.prog.rowNamed t [101,114,114,111,114]:=List.mem_filter.2 ⟨List.mem_range.2 e3,e4⟩
 rw [tOne] at hm
 obtain rfl:=List.mem_singleton.1 hm
 have hh:typeHandle Tryz.prog 54=.pointer (some ⟨12,54,none⟩):=by kernel_rfl
 rw [hh] at e5
 unfold ErrT
 simpa using World.var?_cell gErr e5 0
theorem sent_of {W:World} {n nm:String} {d:DataW Unit} {g:Nat} {ms:Array (String × TypeId)} (hg:Tryz.prog.globalNamed n=some g) (ht:(Tryz.prog.globals[g]?).map (·.type)=some 54) (hi:Tryz.prog.underlying 54=some (.interface ms)) (h:VarReads Tryz.prog W n (.iface nm d)) :
  ∃ev,W.cell? ⟨g,0,none⟩=some ev∧(ev=.nilIface∨∃te pe,ev=.iface te pe):=by
 obtain ⟨g',t,cs,fuel,p,hg',ht',hv,hd⟩:=h
 obtain rfl:=Option.some.inj (hg.symm.trans hg')
 obtain rfl:=Option.some.inj (ht.symm.trans ht')
 obtain ⟨f2,u,v,hcs,_,_⟩:=iface_of_trod hi hd
 have:=World.var?_cell hg hv 0
 rw [←Array.getElem?_toList,hcs] at this
 exact ⟨.iface u v,by simpa using this,.inr ⟨u,v,rfl⟩⟩
theorem tabs_of {W:World} (h:laidMet Tryz.prog laid9 W):TabsAt W:=by
 refine ⟨?_, ?_, ?_, ?_, ?_⟩
 ·exact whiteTab_of_reads (ρ:=Tryz.lays199_ren) Tryz.lays199 ⟨by kernel_rfl,by kernel_rfl,by kernel_rfl,by kernel_rfl,by kernel_rfl,by kernel_rfl,by kernel_rfl,by kernel_rfl⟩ (by rw [show whiteData=Rows.laid_unicode_White_Space (H:=Unit) by kernel_rfl];exact Lib.laidMet.reads h (List.mem_of_getElem? (i:=6) rfl))
 ·exact utf8Tabs_of_reads (ρ:=Tryz.lays197_ren) { Tryz.lays197 with } ⟨by kernel_rfl,by kernel_rfl,by kernel_rfl,by kernel_rfl,by kernel_rfl,by kernel_rfl,by kernel_rfl⟩ (by have:=Lib.laidMet.reads h (n:="unicode/utf8.first") (d:=Go.Pinned.utf8First) (List.mem_of_getElem? (i:=8) rfl);rw [Pinned.utf8First_eq] at this;exact this) (by rw [show acceptData=Rows.laid_unicode_utf8_acceptRanges (H:=Unit) by kernel_rfl];exact Lib.laidMet.reads h (List.mem_of_getElem? (i:=3) rfl))
 ·exact tabIs_of_head (g:=6) (t:=203) (e:=36) (n:=20) (by kernel_rfl) (by kernel_rfl) (by kernel_rfl) (by kernel_rfl) (by kernel_rfl) (by kernel_rfl) (laidMet.tail (laidMet.tail h))
 ·exact sent_of (g:=8) (by kernel_rfl) (by kernel_rfl) Tryz.underlying54 (Lib.laidMet.reads h (n:="strconv.ErrRange") (List.mem_of_getElem? (i:=4) rfl))
 ·exact sent_of (g:=7) (by kernel_rfl) (by kernel_rfl) Tryz.underlying54 (Lib.laidMet.reads h (n:="strconv.ErrSyntax") (List.mem_of_getElem? (i:=5) rfl))
theorem lib0_of {W:World} (h:laidMetH Tryz.prog laidAll W):Lib0 W:=⟨tabs_of (parts_of h).1,err_of (parts_of h).2⟩
/-- A world in which the listed variables lie as they are listed. -/
noncomputable def handWorld (os:Os):World :=
 let w0:=World.holding Tryz.prog os ⟨#[],#[],[]⟩
 { w0 with heap:=w0.heap.modify 0 fun
   | .cells _ t frozen=>.cells #[.iface 140 (.agg #[.pointer (some ⟨12,54,none⟩)])] t frozen
   | o=>o }
noncomputable def laidWorld (os:Os):World:=(handWorld os).layVars Tryz.prog laid9
theorem laidWorld_os (os:Os):(laidWorld os).os=os:=World.layVars_os _ _ _
theorem laidWorld_met (os:Os) (args:Array Value):laidMetH Tryz.prog laidAll ((laidWorld os).forCall (fun _ _=>0) ⟨#[],args,[]⟩).memory:=by
 refine laidMetH_of_parts ?_ (by kernel_rfl)
 have e1:(laid9.filter fun x=>(laid9.map (·.1)).contains x.1)=laid9:=List.filter_eq_self.2 fun x hx=>List.contains_iff_mem.2 (List.mem_map.2 ⟨x,hx,rfl⟩)
 have e2:(laid9.filter fun x=>!(laid9.map (·.1)).contains x.1)=[]:=List.filter_eq_nil_iff.2 fun x hx=>by rw [List.contains_iff_mem.2 (List.mem_map.2 ⟨x,hx,rfl⟩)];simp
 have h:laidMet Tryz.prog laid9 (laidWorld os):=laidMet_layVars (w0:=handWorld os) (laid9.map (·.1)) [] (by rw [e1];rfl) (by rw [e1];kernel_rfl) (by rw [e1];kernel_rfl) (by rw [e2];exact LaidIn.none)
 exact h.of_heap (by simp [World.memory,World.forCall,Input.heap])
theorem laidWorld_shaped (os:Os):(laidWorld os).Shaped Tryz.prog:=World.shaped_of_ZipB (by kernel_rfl) (by kernel_rfl)
end Go.Proofs.YtaamolahbkgofaaGreatDoor.lex
