/-
  The law laws.FnLooseKeeps, walked: a text that can't be read to its end is read on loosely, from its beginning to its end. The law laws.FnLooseKeeps returns true at every text: a text that can't be read to its end is read on loosely, from its beginning to its end: all of its tokens lie in it, one behind the other. Conditions: of each, in its statement.
-/
import Derived.Test.YtaamolahbkgofaaGreatDoorK31
import Derived.Test.YtaamolahbkgofaaGreatDoorK32
import Derived.Test.YtaamolahbkgofaaGreatDoorTie
import Derived.Test.YtaamolahbkgofaaGreatDoorCards
import Derived.SevenTiedAt
set_option linter.unusedVariables false
set_option linter.unusedSimpArgs false
namespace Go.Proofs.YtaamolahbkgofaaGreatDoor.lex
open Go.RowKit mem lines plain
set_option maxHeartbeats 4000000 in
set_option maxRecDepth 100000 in
theorem loosekeeps_in {w:World} {s:ByteArray} (hs:s.size≤16384) (hb:brittleB s=false) (hT:Lib0 w):Calls Tryz.prog 7 #[.string s] w (Yes w):=by
 have h1:(s.size:Int)≤16384:=by omega
 have hok:=(lx.toks_fine true (sound_of hb)).2 rfl
 have HL:=Lib.hid (loose_any (w:=w) (s:=s) (by omega) hT hok)
 have HP:=Lib.hid (fun i h=>(lx.toks_steps true s.data.toList).place i h)
 have HF:=Lib.hid (fun i h=>((lx.toks_steps true s.data.toList).fact i h).1.le)
 have HN:=Lib.hid (show (lx.toks true s.data.toList).1.getLast?.map lx.Tk.kind=some lx.kEof from lx.toksN_last _ _ _ _ _ hok)
 have HL1:=Lib.hid (lx.toks_length true s.data.toList)
 clear hok hT
 go_enter Tryz.func7,Tryz.ntmps7
 go_wp2_with (first|(go_at_call 10;refine (brittle_any s _ (by omega)).mono ?_;rintro e w' ⟨rfl,rfl⟩;rw [hb])|(go_at_call 20;refine HL.out.mono ?_;rintro e w1 ⟨v,rfl,ht,hb1⟩;have HB1:=Lib.hid hb1;obtain ⟨b,cap,rfl,hv⟩:=ht.view;have HV:=Lib.hid hv;clear hb1 ht hv;generalize lx.toks true s.data.toList=r at *;obtain ⟨l,en⟩:=r;simp only at HP HN HV HL1 HF ⊢;have hn1:l.length≤16385:=(by have:=HL1.out;simp at this;omega);obtain ⟨n,hn⟩:∃n,n=l.length:=⟨_,rfl⟩;rw [←hn] at hn1;rw [←hn];have HNN:=Lib.hid hn;clear hn))
 go_loopw [4,22] (fun a i wr=>∃k:Nat,k≤n∧i=.int .i64 (k:Int)∧a=.int .i64 (lx.atT 0 l k:Nat)∧Hid (Below w1.heap.size w1 wr)) (fun _ i _=>n-(intOf i).toNat)
 case atStart=>exact ⟨0,Nat.zero_le _,rfl,rfl,Below.refl _ _⟩
 case round =>
  obtain ⟨k,hk,rfl,rfl,HB⟩:=hrel
  by_cases hlt:k<n
  ·have hz:(k:Int)<(n:Int):=by omega
   have hkl:k<l.length:=by have:=HNN.out;omega
   obtain ⟨g,cv,rfl,hg,ht⟩:=HV.out k hkl
   obtain ⟨cb,ccap,rfl,hcv⟩:=ht.coms.view
   clear hcv
   obtain ⟨t,ht3,ht3'⟩:=ht.text
   obtain ⟨bs,ht4,ht4'⟩:=ht.base
   have q0:=(HB.out.cell (p:=⟨g,_,none⟩) hg).trans ht.kind
   have q1:=(HB.out.cell (p:=⟨g,_,none⟩) hg).trans ht.sp
   have q2:=(HB.out.cell (p:=⟨g,_,none⟩) hg).trans ht.raw
   have q3:=(HB.out.cell (p:=⟨g,_,none⟩) hg).trans ht3
   have q4:=(HB.out.cell (p:=⟨g,_,none⟩) hg).trans ht4
   have q5:=(HB.out.cell (p:=⟨g,_,none⟩) hg).trans ht.pos
   have q6:=(HB.out.cell (p:=⟨g,_,none⟩) hg).trans ht.fin
   have q7:=(HB.out.cell (p:=⟨g,_,none⟩) hg).trans ht.com
   have hto:=HP.out k hkl
   have hfa:=HF.out k hkl
   obtain ⟨m,hm⟩:∃m,m=l[k].coms.length:=⟨_,rfl⟩
   rw [←hm] at q7
   obtain ⟨R,hR⟩:∃R:ByteArray,R=⟨l[k].raw.toArray⟩:=⟨_,rfl⟩
   obtain ⟨P,hP⟩:∃P,P=l[k].pos:=⟨_,rfl⟩
   obtain ⟨F,hF⟩:∃F,F=l[k].fin:=⟨_,rfl⟩
   obtain ⟨a,ha⟩:∃a,a=lx.atT 0 l k:=⟨_,rfl⟩
   have hR1:R.size=l[k].raw.length:=by rw [hR];rfl
   have o1:a≤P:=by rw [ha,hP];omega
   have o2:=hto.fin
   have o3:=hto.le
   have o4:=hto.raw
   rw [←hP,←hF,←hR1] at o2
   rw [←hF] at o3
   have o3':F≤s.size:=by simpa using o3
   have o4':(s.extract P F).toList=R.toList:=by
    rw [Lib.toList_data,Lib.toList_data,extract_list,hR,o2,Nat.add_sub_cancel_left,hR1,hP]
    simpa using o4
   rw [←hR] at q2
   rw [←hP] at q5
   rw [←hF] at q6
   rw [←ha]
   have HNX:Hid (lx.atT 0 l (k+1)=F):=by
    show lx.atT 0 l (k+1)=F
    rw [lx.atT_succ _ _ _ hkl,hF]
   clear hm ht ht3' ht4' ht3 ht4 hR hP hF ha hR1 o3 o4 hto hfa
   have f1:¬P<a:=by omega
   have f2:¬F<P:=by omega
   have f3:¬s.size<F:=by omega
   have f4:((s.extract P F).toList==R.toList)=true:=by rw [o4'];simp
   have g0:(a:Int)≤(P:Int):=by omega
   have g1:(P:Int)≤(F:Int):=by omega
   have g2:(F:Int)≤(s.size:Int):=by omega
   clear o4' o1 o2
   go_wp2_with fail
   go_quiet (fail)
   go_wp2_with fail
   go_roundw
   case rel =>
    have hb3:Below w1.heap.size w1 (wr.alloc (.cells #[.string ⟨l[k].kind.toArray⟩,.string ⟨l[k].sp.toArray⟩,.string R,.string t,.int .i64 bs,.int .i64 (P:Int),.int .i64 (F:Int),.slice cb m ccap] 29)):=HB.out.alloc HB.out.size _
    exact ⟨k+1,by omega,by go_num,by rw [HNX.out],⟨hb3.os,hb3.tape,hb3.output,hb3.size,hb3.block⟩⟩
   case measure=>simp [intOf];omega
  ·have hz:¬(k:Int)<(n:Int):=by omega
   have hkn:k=n:=by omega
   subst hkn
   obtain ⟨hpos,hlast⟩:=lx.last_of HN.out
   obtain ⟨g,cv,rfl,hg,ht⟩:=HV.out (l.length-1) (by omega)
   have q0:=(HB.out.cell (p:=⟨g,_,none⟩) hg).trans ht.kind
   rw [hlast,←HNN.out] at q0
   have hn0:0<k:=by have:=HNN.out;omega
   have hn0':(0:Int)<(k:Int):=by omega
   have hw1:=IntWalk.i64_in ((k:Int)-1) (by omega)
   have e1:((k:Int)-1).toNat=k-1:=by omega
   clear hlast ht
   go_wp2_with fail
   go_ret
   exact ⟨rfl,HB1.out.trans (HB.out.mono HB1.out.size)⟩
set_option maxHeartbeats 2000000 in
/-- The walk: where the law says nothing, and where it says something. -/
theorem loosekeeps_any {w:World} (s:ByteArray) (hs:s.size≤maxLen) (hT:Lib0 w):Calls Tryz.prog 7 #[.string s] w (Yes w):=by
 unfold maxLen at hs
 have HT:=Lib.hid hT
 clear hT
 by_cases h0:(2147483647:Int)<(s.size:Int)
 ·go_enter Tryz.func7,Tryz.ntmps7
  go_wp2
  go_ret
  exact ⟨rfl,Below.refl _ _⟩
 by_cases h1:(16384:Int)<(s.size:Int)
 ·go_enter Tryz.func7,Tryz.ntmps7
  go_wp2_with (go_at_call 11;refine (lexes_any HT.out).mono ?_;rintro e w2 ⟨rfl,hb2⟩;have HB2:=Lib.hid hb2;clear hb2)
  go_ret
  exact ⟨rfl,HB2.out⟩
 cases hb:brittleB s with
 | true =>
  have hsz:s.size≤16384:=by omega
  go_enter Tryz.func7,Tryz.ntmps7
  go_wp2_with (first|(go_at_call 10;refine (brittle_any s _ (by omega)).mono ?_;rintro e w' ⟨rfl,rfl⟩;rw [hb])|(go_at_call 11;refine (lexes_any HT.out).mono ?_;rintro e w2 ⟨rfl,hb2⟩;have HB2:=Lib.hid hb2;clear hb2))
  go_ret
  exact ⟨rfl,HB2.out⟩
 | false=>exact loosekeeps_in (by omega) hb HT.out
end Go.Proofs.YtaamolahbkgofaaGreatDoor.lex
set_option linter.unusedVariables false
namespace Go.Proofs.YtaamolahbkgofaaGreatDoor.fnLooseKeeps
open Go.ChangeShapes Go.WideShapes Go.ChangeAt Go.RowKit
open Go.ChangeMaps (open_string shut_string)
open lex
set_option maxRecDepth 100000 in
theorem lifted (os:Os) (started:os.Started) (H:Type) (enc:TypeId × Value→H) :
  ReturnsInHanded {} Tryz.checked os 7 .any (fun w args=>(Rows.fnLooseKeepsSpec.pre enc Tryz.prog Tryz.f7 [] false w args∧laidMetH Tryz.prog laidAll w)∧sizedMet enc Tryz.prog Tryz.f7 (OpenSpec.ofChange Rows.fnLooseKeepsSpec) false w args)
   (Rows.fnLooseKeepsSpec.post enc Tryz.prog Tryz.f7 false true false false):=by
 refine returnsInHanded_of_change_and (C:=Tryz.checked) (X:=fun w _=>laidMetH Tryz.prog laidAll w) (fun _ _ _ hh h=>h.of_heap hh) own started (by kernel_rfl) Tryz.func7
  (ChangeSpec.witness_shaped (enc:=enc) (C:=Tryz.checked) (os:=os) (X:=fun w _=>laidMetH Tryz.prog laidAll w) false (laidWorld os) #[.string ByteArray.empty] 8 (laidWorld_os _) (laidWorld_shaped os) (by kernel_rfl) (by kernel_rfl) (by kernel_rfl) (laidWorld_met os _)) ?_
 intro W base args ds gs before hval0 hW _ _ hL _
 have hval:∀(j:Nat) t v,Tryz.f7.params[j]?=some t→args[j]?=some v→Value.okWide Tryz.prog W .any base t v:=hval0
 have hW':=hW
 obtain ⟨p,q,hA0,hV,rfl,hfz,hnd⟩:=hW
 have hA:DataW.TrodAll enc Tryz.prog W 0 (fun _=>true) true Tryz.f7.params.toList args.toList ds p:=hA0
 rw [Tryz.params7] at hA hval
 obtain ⟨v0,d0,rfl,rfl,h0⟩:=trodAll_one hA
 obtain ⟨rfl,rfl⟩:=trodVars_none hV
 obtain ⟨a0,rfl,rfl,rfl,w0⟩:=open_string Tryz.underlying9 (hval 0 9 v0 rfl rfl) h0
 clear hA0 hval0
 simp only [List.append_nil] at hW'
 refine (loosekeeps_any a0 w0 (lib0_of hL)).mono fun e W' ⟨he,hg⟩=>?_
 subst he
 exact ⟨_,rfl,_,_,_,[],_,[],hW',trodAll_mk1 (shut_bool Tryz.underlying4 _),trodAll_mk1 (shut_string Tryz.underlying9 w0),rfl,hg.frame _,fun h=>by cases h⟩
theorem over:Rows.fnLooseKeepsRow.holds Tryz.pinned (OpenSpec.ofChange Rows.fnLooseKeepsSpec) :=
 OpenClaim.holds_of_wide 7 Tryz.f7 rfl rfl rfl rfl rfl rfl rfl ⟨rfl,rfl,rfl,rfl,rfl⟩ rfl rfl rfl rfl rfl (by kernel_rfl) Tryz.func7 (by kernel_rfl)
  (of_decide_eq_true (by kernel_rfl)) (by unfold Func.isWrapper;first|(rw [if_pos (by decide +kernel)];kernel_rfl)|(rw [if_neg (by decide +kernel)];exact ⟨rfl,rfl⟩))
  (fun os started H enc _=>lifted os started H enc)
/-- ████ THE STATEMENT ████ -/
theorem proved:Rows.FnLooseKeepsCardSaid :=
 Claim7.holds_tied_plain_at .later [] [.data,.data,.data,.data,.handle,.sentinel,.sentinel,.listed,.sentinel,.pinned] true (true,"05128834e9706628839b710431c63ece714b33c913076a224a2057ef2449d0f3") true
  over (fun _ h=>by cases h) (by kernel_rfl) (fun _ h=>by cases h) fnLooseKeeps_row_tie rfl ⟨rfl,rfl⟩ (by kernel_rfl) rfl
  (fun f fn hf hfn=>by
   obtain rfl:f=7:=Option.some.inj ((show Tryz.prog.funcNamed "pub-dabber/laws.FnLooseKeeps"=some 7 by kernel_rfl).symm.trans hf) |>.symm
   obtain rfl:fn=Tryz.f7:=(Option.some.inj (Tryz.func7.symm.trans hfn)).symm
   exact ⟨by kernel_rfl,fun j t ht=>by
    rw [Tryz.params7] at ht
    have hm:t∈[9]:=by simpa using Array.mem_of_getElem? ht
    have hall:([9].all fun u=>!Tryz.prog.wantsStandIn u)=true:=by kernel_rfl
    exact (show Tryz.prog.wantsStandIn t=false by simpa using List.all_eq_true.1 hall t hm)⟩)
  (by kernel_rfl)
#print axioms proved
end Go.Proofs.YtaamolahbkgofaaGreatDoor.fnLooseKeeps
