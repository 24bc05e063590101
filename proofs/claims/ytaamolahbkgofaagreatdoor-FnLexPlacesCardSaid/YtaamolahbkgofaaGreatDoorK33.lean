/-
  The law laws.FnLexPlaces, walked: each token and each comment stands where it says. The law laws.FnLexPlaces returns true at every text: each token and each comment stands where it says, one behind the other. Conditions: of each, in its statement.
-/
import Derived.Test.YtaamolahbkgofaaGreatDoorK31
import Derived.Test.YtaamolahbkgofaaGreatDoorK32
import Derived.Test.YtaamolahbkgofaaGreatDoorTie
import Derived.Test.YtaamolahbkgofaaGreatDoorCards
import Derived.SevenTiedAt
set_option linter.unusedVariables false
set_option linter.unusedSimpArgs false
namespace Go.Proofs.YtaamolahbkgofaaGreatDoor.lex
open Go.RowKit mem lines plain
set_option maxHeartbeats 4000000 in
set_option maxRecDepth 100000 in
theorem places_in {w:World} {s:ByteArray} (hs:s.size≤16384) (hb:brittleB s=false) (hT:Lib0 w):Calls Tryz.prog 3 #[.string s] w (Yes w):=by
 have h1:(s.size:Int)≤16384:=by omega
 have hL:=lex_any (w:=w) (s:=s) (by omega) hT (lx.toks_fine false (sound_of hb)).1
 have HL:=Lib.hid hL
 have HT:=Lib.hid hT
 have HP:=Lib.hid (fun i h=>(lx.toks_steps false s.data.toList).place i h)
 have HL1:=Lib.hid (lx.toks_length false s.data.toList)
 have HL2:=Lib.hid (fun i h=>lx.toks_coms (np:=false) (s:=s.data.toList) i h)
 have HN:=Lib.hid (fun h=>lx.toks_end (np:=false) (s:=s.data.toList) h)
 clear hL hT
 go_enter Tryz.func3,Tryz.ntmps3
 go_wp2_with (first|(go_at_call 10;refine (brittle_any s _ (by omega)).mono ?_;rintro e w' ⟨rfl,rfl⟩;rw [hb])|(go_at_call 12;refine HL.out.mono ?_;rintro e w1 ⟨v,z,rfl,ht,hb1⟩;have HB1:=Lib.hid hb1;obtain ⟨b,cap,rfl,hv⟩:=ht.view;have HV:=Lib.hid hv;clear hb1 ht hv;generalize lx.toks false s.data.toList=r at *;obtain ⟨l,en⟩:=r;simp only at HP HN HV HL1 HL2 ⊢;have hn1:l.length≤16385:=(by have:=HL1.out;simp at this;omega);obtain ⟨n,hn⟩:∃n,n=l.length:=⟨_,rfl⟩;rw [←hn] at hn1;rw [←hn];have HNN:=Lib.hid hn;clear hn))
 go_loopw [6,30] (fun a i wr=>∃k:Nat,k≤n∧i=.int .i64 (k:Int)∧a=.int .i64 (lx.atT 0 l k:Nat)∧Hid (Below w1.heap.size w1 wr)) (fun _ i _=>n-(intOf i).toNat)
 case atStart=>exact ⟨0,Nat.zero_le _,rfl,rfl,Below.refl _ _⟩
 case round =>
  rename World=>wo
  obtain ⟨k,hk,rfl,rfl,HB⟩:=hrel
  by_cases hlt:k<n
  ·have hz:(k:Int)<(n:Int):=by omega
   have hkl:k<l.length:=by have:=HNN.out;omega
   obtain ⟨g,cv,rfl,hg,ht⟩:=HV.out k hkl
   obtain ⟨cb,ccap,rfl,hcv⟩:=ht.coms.view
   have HCV:=Lib.hid hcv
   clear hcv
   obtain ⟨t,ht3,ht3'⟩:=ht.text
   obtain ⟨bs,ht4,ht4'⟩:=ht.base
   have q0:=(HB.out.cell (p:=⟨g,_,none⟩) hg).trans ht.kind
   have q1:=(HB.out.cell (p:=⟨g,_,none⟩) hg).trans ht.sp
   have q2:=(HB.out.cell (p:=⟨g,_,none⟩) hg).trans ht.raw
   have q3:=(HB.out.cell (p:=⟨g,_,none⟩) hg).trans ht3
   have q4:=(HB.out.cell (p:=⟨g,_,none⟩) hg).trans ht4
   have q5:=(HB.out.cell (p:=⟨g,_,none⟩) hg).trans ht.pos
   have q6:=(HB.out.cell (p:=⟨g,_,none⟩) hg).trans ht.fin
   have q7:=(HB.out.cell (p:=⟨g,_,none⟩) hg).trans ht.com
   obtain ⟨m,hm⟩:∃m,m=l[k].coms.length:=⟨_,rfl⟩
   have HM:=Lib.hid hm
   have hm1:m≤16384:=by have:=HL2.out k hkl;rw [←hm] at this;simp at this;omega
   rw [←hm] at q7
   clear hm
   have HTO:=Lib.hid (HP.out k hkl)
   clear ht ht3' ht4' ht3 ht4
   go_wp2_with fail
   obtain ⟨A,hA⟩:∃A,A=lx.atT 0 l k:=⟨_,rfl⟩
   rw [←hA]
   have HA:=Lib.hid hA
   clear hA
   have e1:(wo.alloc (.cells #[.string ⟨l[k].kind.toArray⟩,.string ⟨l[k].sp.toArray⟩,.string ⟨l[k].raw.toArray⟩,.string t,.int .i64 bs,.int .i64 (l[k].pos:Int),.int .i64 (l[k].fin:Int),.slice cb m ccap] 29)).heap.size=wo.heap.size+1:=by simp
   have hnew:=heap_alloc_new wo (.cells #[.string ⟨l[k].kind.toArray⟩,.string ⟨l[k].sp.toArray⟩,.string ⟨l[k].raw.toArray⟩,.string t,.int .i64 bs,.int .i64 (l[k].pos:Int),.int .i64 (l[k].fin:Int),.slice cb m ccap] 29)
   have hbel:=below_alloc wo (.cells #[.string ⟨l[k].kind.toArray⟩,.string ⟨l[k].sp.toArray⟩,.string ⟨l[k].raw.toArray⟩,.string t,.int .i64 bs,.int .i64 (l[k].pos:Int),.int .i64 (l[k].fin:Int),.slice cb m ccap] 29)
   generalize wo.alloc (.cells #[.string ⟨l[k].kind.toArray⟩,.string ⟨l[k].sp.toArray⟩,.string ⟨l[k].raw.toArray⟩,.string t,.int .i64 bs,.int .i64 (l[k].pos:Int),.int .i64 (l[k].fin:Int),.slice cb m ccap] 29)=W1 at e1 hnew hbel ⊢
   obtain ⟨y,hy⟩:∃y,y=wo.heap.size:=⟨_,rfl⟩
   rw [←hy] at hnew e1 ⊢
   have HE1:=Lib.hid e1
   have HNEW:=Lib.hid hnew
   have HBEL:=Lib.hid hbel
   have HY:=Lib.hid hy
   clear e1 hnew hbel hy q0 q1 q2 q3 q4 q5 q6 q7
   go_loopw [6,37] (fun a i wi=>∃j:Nat,j≤m∧i=.int .i64 (j:Int)∧a=.int .i64 (lx.atC A l[k].coms j:Nat)∧Hid (Below (y+1) W1 wi)) (fun _ i _=>m-(intOf i).toNat)
   case atStart=>exact ⟨0,Nat.zero_le _,rfl,rfl,Below.refl _ _⟩
   case round =>
    obtain ⟨j,hj,rfl,rfl,HBI⟩:=hrel
    by_cases hjl:j<m
    ·have hz2:(j:Int)<(m:Int):=by omega
     have hjc:j<l[k].coms.length:=by have:=HM.out;omega
     obtain ⟨gc,rfl,hgc,hca⟩:=HCV.out j hjc
     have hco:=(HP.out k hkl).coms j hjc
     rw [←HA.out] at hco
     have hsz:=HB.out.size
     have hy:=HY.out
     have hb2:Below w1.heap.size w1 wr:=HB.out.trans ((HBEL.out.mono hsz).trans (HBI.out.mono (by omega)))
     have c0:=(hb2.cell (p:=⟨gc,_,none⟩) hgc).trans hca.sp
     have c1:=(hb2.cell (p:=⟨gc,_,none⟩) hgc).trans hca.raw
     have c2:=(hb2.cell (p:=⟨gc,_,none⟩) hgc).trans hca.pos
     have c3:=(hb2.cell (p:=⟨gc,_,none⟩) hgc).trans hca.fin
     obtain ⟨SP,hSP⟩:∃SP:ByteArray,SP=⟨l[k].coms[j].sp.toArray⟩:=⟨_,rfl⟩
     obtain ⟨R,hR⟩:∃R:ByteArray,R=⟨l[k].coms[j].raw.toArray⟩:=⟨_,rfl⟩
     obtain ⟨P,hP⟩:∃P,P=l[k].coms[j].pos:=⟨_,rfl⟩
     obtain ⟨F,hF⟩:∃F,F=l[k].coms[j].fin:=⟨_,rfl⟩
     obtain ⟨a,ha⟩:∃a,a=lx.atC A l[k].coms j:=⟨_,rfl⟩
     have hS1:SP.size=l[k].coms[j].sp.length:=by rw [hSP];rfl
     have hR1:R.size=l[k].coms[j].raw.length:=by rw [hR];rfl
     have o1:=hco.pos
     have o2:=hco.fin
     have o3:=hco.le
     have o4:=hco.raw
     rw [←hP,←ha,←hS1] at o1
     rw [←hP,←hF,←hR1] at o2
     rw [←hF] at o3
     have o3':F≤s.size:=by simpa using o3
     have o4':(s.extract P F).toList=R.toList:=by
      rw [Lib.toList_data,Lib.toList_data,extract_list,hR,o2,Nat.add_sub_cancel_left,hR1,hP]
      simpa using o4
     rw [←hSP] at c0
     rw [←hR] at c1
     rw [←hP] at c2
     rw [←hF] at c3
     rw [←ha]
     have HNX:Hid (lx.atC A l[k].coms (j+1)=F):=by
      show lx.atC A l[k].coms (j+1)=F
      rw [lx.atC_succ _ _ _ hjc,hF]
     clear hSP hR hP hF ha hS1 hR1 o3 o4 hco hca hb2
     have f1:((P:Int) != (a:Int)+(SP.size:Int))=false:=by simp;omega
     have f2:((F:Int) != (P:Int)+(R.size:Int))=false:=by simp;omega
     have f3:¬s.size<F:=by omega
     have f4:((s.extract P F).toList==R.toList)=true:=by rw [o4'];simp
     have HO4:=Lib.hid o4'
     have HO1:=Lib.hid o1
     have HO2:=Lib.hid o2
     have hw1:=IntWalk.i64_in ((a:Int)+(SP.size:Int)) (by omega)
     have hw2:=IntWalk.i64_in ((P:Int)+(R.size:Int)) (by omega)
     have g1:(P:Int)≤(F:Int):=by omega
     have g2:(F:Int)≤(s.size:Int):=by omega
     clear o4' o1 o2
     go_wp2_with fail
     go_quiet (fail)
     clear hw1 hw2
     go_wp2_with fail
     go_roundw
     case rel =>
      have hb3:Below (y+1) W1 (wr.alloc (.cells #[.string SP,.string R,.int .i64 (P:Int),.int .i64 (F:Int)] 31)):=HBI.out.alloc (by have:=HBI.out.size;have:=HE1.out;omega) _
      exact ⟨j+1,by omega,by go_num,by rw [HNX.out],⟨hb3.os,hb3.tape,hb3.output,hb3.size,hb3.block⟩⟩
     case measure=>simp [intOf];omega
    ·have hz2:¬(j:Int)<(m:Int):=by omega
     have hjm:j=m:=by omega
     subst hjm
     have hto:=HP.out k hkl
     rw [←HA.out] at hto
     have hbl:=(HBI.out.block y (by omega)).trans HNEW.out
     have d0:=cells_of_heap hbl 0
     have d1:=cells_of_heap hbl 1
     have d2:=cells_of_heap hbl 2
     have d5:=cells_of_heap hbl 5
     have d6:=cells_of_heap hbl 6
     obtain ⟨SP,hSP⟩:∃SP:ByteArray,SP=⟨l[k].sp.toArray⟩:=⟨_,rfl⟩
     obtain ⟨R,hR⟩:∃R:ByteArray,R=⟨l[k].raw.toArray⟩:=⟨_,rfl⟩
     obtain ⟨P,hP⟩:∃P,P=l[k].pos:=⟨_,rfl⟩
     obtain ⟨F,hF⟩:∃F,F=l[k].fin:=⟨_,rfl⟩
     obtain ⟨a,ha⟩:∃a,a=lx.atC A l[k].coms j:=⟨_,rfl⟩
     have hS1:SP.size=l[k].sp.length:=by rw [hSP];rfl
     have hR1:R.size=l[k].raw.length:=by rw [hR];rfl
     have o1:=hto.pos
     have o2:=hto.fin
     have o3:=hto.le
     have o4:=hto.raw
     rw [←HM.out,←hP,←ha,←hS1] at o1
     rw [←hP,←hF,←hR1] at o2
     rw [←hF] at o3
     have o3':F≤s.size:=by simpa using o3
     have o4':(s.extract P F).toList=R.toList:=by
      rw [Lib.toList_data,Lib.toList_data,extract_list,hR,o2,Nat.add_sub_cancel_left,hR1,hP]
      simpa using o4
     rw [←hSP] at d1
     rw [←hR] at d2
     rw [←hP] at d5
     rw [←hF] at d6
     rw [←ha]
     have HNX:Hid (lx.atT 0 l (k+1)=F):=by
      show lx.atT 0 l (k+1)=F
      rw [lx.atT_succ _ _ _ hkl,hF]
     clear hSP hR hP hF ha hS1 hR1 o3 o4 hto hbl
     have f1:((P:Int) != (a:Int)+(SP.size:Int))=false:=by simp;omega
     have f2:((F:Int) != (P:Int)+(R.size:Int))=false:=by simp;omega
     have f3:¬s.size<F:=by omega
     have f4:((s.extract P F).toList==R.toList)=true:=by rw [o4'];simp
     have hw1:=IntWalk.i64_in ((a:Int)+(SP.size:Int)) (by omega)
     have hw2:=IntWalk.i64_in ((P:Int)+(R.size:Int)) (by omega)
     have g1:(P:Int)≤(F:Int):=by omega
     have g2:(F:Int)≤(s.size:Int):=by omega
     clear o4' o1 o2
     go_wp2_with fail
     go_quiet (fail)
     clear hw1 hw2
     go_wp2_with fail
     go_roundw
     case rel =>
      have hb3:Below w1.heap.size w1 wr:=HB.out.trans ((HBEL.out.mono HB.out.size).trans (HBI.out.mono (by have:=HB.out.size;have:=HY.out;omega)))
      exact ⟨k+1,by omega,by go_num,by rw [HNX.out],⟨hb3.os,hb3.tape,hb3.output,hb3.size,hb3.block⟩⟩
     case measure=>simp [intOf];omega
  ·have hz:¬(k:Int)<(n:Int):=by omega
   have hkn:k=n:=by omega
   subst hkn
   have hbz:∀w2,Below wo.heap.size wo w2→Below w.heap.size w w2:=fun w2 h=>HB1.out.trans ((HB.out.mono HB1.out.size).trans (h.mono (by have:=HB1.out.size;have:=HB.out.size;omega)))
   have HBZ:=Lib.hid hbz
   clear hbz
   cases hen:okB en with
   | true =>
    have ho:lx.atT 0 l k=s.size:=by
     have e:en=.ok:=by cases en <;> first|rfl|cases hen
     have:=HN.out e
     rw [←HNN.out] at this
     simpa using this
    rw [ho]
    go_wp2_with (go_at_call 11;refine (lexes_any ((HT.out.below HB1.out).below HB.out)).mono ?_;rintro e w2 ⟨rfl,hb2⟩;have HB2:=Lib.hid hb2;clear hb2)
    go_ret
    exact ⟨rfl,HBZ.out _ HB2.out⟩
   | false =>
    go_wp2_with (go_at_call 11;refine (lexes_any ((HT.out.below HB1.out).below HB.out)).mono ?_;rintro e w2 ⟨rfl,hb2⟩;have HB2:=Lib.hid hb2;clear hb2)
    go_ret
    exact ⟨rfl,HBZ.out _ HB2.out⟩
set_option maxHeartbeats 2000000 in
/-- The walk: where the law says nothing, and where it says something. -/
theorem places_any {w:World} (s:ByteArray) (hs:s.size≤maxLen) (hT:Lib0 w):Calls Tryz.prog 3 #[.string s] w (Yes w):=by
 unfold maxLen at hs
 have HT:=Lib.hid hT
 clear hT
 by_cases h0:(2147483647:Int)<(s.size:Int)
 ·go_enter Tryz.func3,Tryz.ntmps3
  go_wp2
  go_ret
  exact ⟨rfl,Below.refl _ _⟩
 by_cases h1:(16384:Int)<(s.size:Int)
 ·go_enter Tryz.func3,Tryz.ntmps3
  go_wp2_with (go_at_call 11;refine (lexes_any HT.out).mono ?_;rintro e w2 ⟨rfl,hb2⟩;have HB2:=Lib.hid hb2;clear hb2)
  go_ret
  exact ⟨rfl,HB2.out⟩
 cases hb:brittleB s with
 | true =>
  have hsz:s.size≤16384:=by omega
  go_enter Tryz.func3,Tryz.ntmps3
  go_wp2_with (first|(go_at_call 10;refine (brittle_any s _ (by omega)).mono ?_;rintro e w' ⟨rfl,rfl⟩;rw [hb])|(go_at_call 11;refine (lexes_any HT.out).mono ?_;rintro e w2 ⟨rfl,hb2⟩;have HB2:=Lib.hid hb2;clear hb2))
  go_ret
  exact ⟨rfl,HB2.out⟩
 | false=>exact places_in (by omega) hb HT.out
end Go.Proofs.YtaamolahbkgofaaGreatDoor.lex
set_option linter.unusedVariables false
namespace Go.Proofs.YtaamolahbkgofaaGreatDoor.fnLexPlaces
open Go.ChangeShapes Go.WideShapes Go.ChangeAt Go.RowKit
open Go.ChangeMaps (open_string shut_string)
open lex
set_option maxRecDepth 100000 in
theorem lifted (os:Os) (started:os.Started) (H:Type) (enc:TypeId × Value→H) :
  ReturnsInHanded {} Tryz.checked os 3 .any (fun w args=>(Rows.fnLexPlacesSpec.pre enc Tryz.prog Tryz.f3 [] false w args∧laidMetH Tryz.prog laidAll w)∧sizedMet enc Tryz.prog Tryz.f3 (OpenSpec.ofChange Rows.fnLexPlacesSpec) false w args)
   (Rows.fnLexPlacesSpec.post enc Tryz.prog Tryz.f3 false true false false):=by
 refine returnsInHanded_of_change_and (C:=Tryz.checked) (X:=fun w _=>laidMetH Tryz.prog laidAll w) (fun _ _ _ hh h=>h.of_heap hh) own started (by kernel_rfl) Tryz.func3
  (ChangeSpec.witness_shaped (enc:=enc) (C:=Tryz.checked) (os:=os) (X:=fun w _=>laidMetH Tryz.prog laidAll w) false (laidWorld os) #[.string ByteArray.empty] 8 (laidWorld_os _) (laidWorld_shaped os) (by kernel_rfl) (by kernel_rfl) (by kernel_rfl) (laidWorld_met os _)) ?_
 intro W base args ds gs before hval0 hW _ _ hL _
 have hval:∀(j:Nat) t v,Tryz.f3.params[j]?=some t→args[j]?=some v→Value.okWide Tryz.prog W .any base t v:=hval0
 have hW':=hW
 obtain ⟨p,q,hA0,hV,rfl,hfz,hnd⟩:=hW
 have hA:DataW.TrodAll enc Tryz.prog W 0 (fun _=>true) true Tryz.f3.params.toList args.toList ds p:=hA0
 rw [Tryz.params3] at hA hval
 obtain ⟨v0,d0,rfl,rfl,h0⟩:=trodAll_one hA
 obtain ⟨rfl,rfl⟩:=trodVars_none hV
 obtain ⟨a0,rfl,rfl,rfl,w0⟩:=open_string Tryz.underlying9 (hval 0 9 v0 rfl rfl) h0
 clear hA0 hval0
 simp only [List.append_nil] at hW'
 refine (places_any a0 w0 (lib0_of hL)).mono fun e W' ⟨he,hg⟩=>?_
 subst he
 exact ⟨_,rfl,_,_,_,[],_,[],hW',trodAll_mk1 (shut_bool Tryz.underlying4 _),trodAll_mk1 (shut_string Tryz.underlying9 w0),rfl,hg.frame _,fun h=>by cases h⟩
theorem over:Rows.fnLexPlacesRow.holds Tryz.pinned (OpenSpec.ofChange Rows.fnLexPlacesSpec) :=
 OpenClaim.holds_of_wide 3 Tryz.f3 rfl rfl rfl rfl rfl rfl rfl ⟨rfl,rfl,rfl,rfl,rfl⟩ rfl rfl rfl rfl rfl (by kernel_rfl) Tryz.func3 (by kernel_rfl)
  (of_decide_eq_true (by kernel_rfl)) (by unfold Func.isWrapper;first|(rw [if_pos (by decide +kernel)];kernel_rfl)|(rw [if_neg (by decide +kernel)];exact ⟨rfl,rfl⟩))
  (fun os started H enc _=>lifted os started H enc)
/-- ████ THE STATEMENT ████ -/
theorem proved:Rows.FnLexPlacesCardSaid :=
 Claim7.holds_tied_plain_at .later [] [.data,.data,.data,.data,.handle,.sentinel,.sentinel,.listed,.sentinel,.pinned] true (true,"05128834e9706628839b710431c63ece714b33c913076a224a2057ef2449d0f3") true
  over (fun _ h=>by cases h) (by kernel_rfl) (fun _ h=>by cases h) fnLexPlaces_row_tie rfl ⟨rfl,rfl⟩ (by kernel_rfl) rfl
  (fun f fn hf hfn=>by
   obtain rfl:f=3:=Option.some.inj ((show Tryz.prog.funcNamed "pub-dabber/laws.FnLexPlaces"=some 3 by kernel_rfl).symm.trans hf) |>.symm
   obtain rfl:fn=Tryz.f3:=(Option.some.inj (Tryz.func3.symm.trans hfn)).symm
   exact ⟨by kernel_rfl,fun j t ht=>by
    rw [Tryz.params3] at ht
    have hm:t∈[9]:=by simpa using Array.mem_of_getElem? ht
    have hall:([9].all fun u=>!Tryz.prog.wantsStandIn u)=true:=by kernel_rfl
    exact (show Tryz.prog.wantsStandIn t=false by simpa using List.all_eq_true.1 hall t hm)⟩)
  (by kernel_rfl)
#print axioms proved
end Go.Proofs.YtaamolahbkgofaaGreatDoor.fnLexPlaces
