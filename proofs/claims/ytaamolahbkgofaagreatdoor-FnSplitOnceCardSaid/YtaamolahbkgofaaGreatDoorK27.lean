/-
  Contracts of the lexer's four functions that read strings and bytes. consumeToken's frames, its tail (words) and its loop (letters ahead of a string). consumeToken's tail: words. Conditions: of each, in its statement.
-/
import Derived.Test.YtaamolahbkgofaaGreatDoorK24
import Derived.Test.YtaamolahbkgofaaGreatDoorK03
import Derived.Test.YtaamolahbkgofaaGreatDoorK26
set_option linter.unusedVariables false
namespace Go.Proofs.YtaamolahbkgofaaGreatDoor.lex
open Go.RowKit mem lines
theorem quoted_str {w:World} {B b f:Nat} {s q nm:ByteArray} {x:St} {Q:lx.Bs} {raw uni np:Bool} (h:LexS w B b f s x) (hq:q.size=1∨q.size=3) (hQ:q.toList=Q)
  (hnm:(nm.toList==[105,100,101,110,116,105,102,105,101,114])=false) (hnz:nm.size≤1000) (hin:x.at_+q.size≤s.size) (o:lx.QOut) (hoo:Hid (lx.quoted Q raw uni false np (rest s x.at_)=o)) (ho:Hid (o≠.crash)) :
  Calls Tryz.prog 86 #[.pointer (some ⟨b,0,none⟩),.string q,.bool raw,.bool uni,.string nm,.bool np] w (QPost B b f s x o w):=by
 have e:=hoo.out
 have ho':=ho.out
 subst e
 rcases hq with h1|h3
 ·exact quoted1_any h h1 hQ hnm (by omega) ho'
 ·exact quoted3_any h h3 hQ hnz (by omega) ho'
/-- What a function that reads a string comes to, its kind being k. -/
def StrPost (k:lx.Bs) (B b f:Nat) (s:ByteArray) (x:St) (o:lx.QOut) (w:World) (e:Ending) (w':World):Prop :=
 match o with
 | .ok len content=>Goes B b f s { x with kind:=⟨k.toArray⟩,at_:=x.at_+len,str:=⟨content.toArray⟩ } w e w'
 | .bad len=>Goes B b f s { x with kind:=⟨lx.kBad.toArray⟩,at_:=x.at_+len,str:=⟨#[]⟩ } w e w'
 | .fault=>Faults b f w e w'
 | .crash=>True
theorem delim_size (s:ByteArray) (p:Nat) (hin:p<s.size):((lx.delim (rest s p)).length=1∨(lx.delim (rest s p)).length=3)∧p+(lx.delim (rest s p)).length≤s.size:=by
 have hrc:=rest_cons s p hin
 have hl:=rest_length s p
 rw [hrc] at hl ⊢
 unfold lx.delim
 simp only
 split
 ·rename_i h
  have h1:lx.nb (rest s (p+1)) 1<256:=by rw [h.2];exact s[p].toNat_lt
  have h2:=nb_length h1
  simp only [List.length_cons] at hl
  exact ⟨.inr rfl,by simp only [List.length_cons,List.length_nil];omega⟩
 ·exact ⟨.inl rfl,by simp;omega⟩
set_option maxHeartbeats 2000000 in
set_option maxRecDepth 100000 in
theorem str87_any {w:World} {B b f:Nat} {s:ByteArray} {x:St} (np:Bool) (h:LexS w B b f s x) (hin:x.at_<s.size) (hq:bt s x.at_=34∨bt s x.at_=39) (o:lx.QOut)
  (HOO:Hid (lx.quoted (lx.delim (rest s x.at_)) true false false np (rest s x.at_)=o)) (HO:Hid (o≠.crash)) :
  Calls Tryz.prog 87 #[.pointer (some ⟨b,0,none⟩),.bool np] w (StrPost lx.kBytes B b f s x o w):=by
 have HK1:=Lib.hid (h.set 1 (.string ⟨lx.kBytes.toArray⟩) { x with kind:=⟨lx.kBytes.toArray⟩ } rfl h.le)
 have HG1:=Lib.hid (grown_set (grown_refl w (some b)) 1 (.string ⟨lx.kBytes.toArray⟩))
 have SZ:=h.sz
 have LE:=h.le
 have c1:w.cell? ⟨b,1,none⟩=some (.string x.kind):=h.cell 1
 have f1:w.frozen? ⟨b,1,none⟩=false:=h.free 1
 have hds:=delim_size s x.at_ hin
 obtain ⟨q,hqq⟩:∃q:ByteArray,Hid (q=⟨(lx.delim (rest s x.at_)).toArray⟩):=⟨_,rfl⟩
 have hqt:q.toList=lx.delim (rest s x.at_):=by rw [hqq.out,ByteArray.toList_eq]
 have hqz:q.size=(lx.delim (rest s x.at_)).length:=by rw [←hqt,toList_length]
 rw [←hqz] at hds
 have HDS:=Lib.hid hds
 have HQT:=Lib.hid hqt
 clear h hds hqt hqz
 cases o with
 | crash=>exact absurd rfl HO.out
 | fault =>
  go_enter Tryz.func87,Tryz.ntmps87
  go_wp2_with (first
   | (go_at_call 115;refine (delim_any (x:={ x with kind:=⟨lx.kBytes.toArray⟩ }) HK1.out hin hq).mono ?_;rw [←hqq.out];rintro e w2 ⟨rfl,hb⟩;have HB:=Lib.hid hb;have HK2:=Lib.hid (HK1.out.below hb);have HG2:=Lib.hid (grown_trans HG1.out (grown_below hb (some b)));clear hb)
   | (go_at_call 86;refine (quoted_str HK2.out HDS.out.1 HQT.out (by rw [ByteArray.toList_eq];rfl) (by decide) HDS.out.2 _ HOO HO).mono ?_;rintro e w3 ⟨m,rfl,hm⟩;have HM:=Lib.hid hm;clear hm))
  exact ⟨rfl,Faults.trans (Grown2.of HG2.out) ⟨m,rfl,HM.out⟩⟩
 | bad len =>
  go_enter Tryz.func87,Tryz.ntmps87
  go_wp2_with (first
   | (go_at_call 115;refine (delim_any (x:={ x with kind:=⟨lx.kBytes.toArray⟩ }) HK1.out hin hq).mono ?_;rw [←hqq.out];rintro e w2 ⟨rfl,hb⟩;have HB:=Lib.hid hb;have HK2:=Lib.hid (HK1.out.below hb);have HG2:=Lib.hid (grown_trans HG1.out (grown_below hb (some b)));clear hb)
   | (go_at_call 86;refine (quoted_str HK2.out HDS.out.1 HQT.out (by rw [ByteArray.toList_eq];rfl) (by decide) HDS.out.2 _ HOO HO).mono ?_;rintro e w3 ⟨rfl,hl,hg⟩;have HL3:=Lib.hid hl;have HG3:=Lib.hid (grown_trans HG2.out hg);have c5:w3.cell? ⟨b,5,none⟩=some (.string x.str):=hl.cell 5;have f5:w3.frozen? ⟨b,5,none⟩=false:=hl.free 5;have d1:w3.cell? ⟨b,1,none⟩=some (.string ⟨lx.kBytes.toArray⟩):=hl.cell 1;have g1:w3.frozen? ⟨b,1,none⟩=false:=hl.free 1;clear hl hg))
  (first|go_end0|go_ret)
  refine ⟨rfl, ?_,grown_set (grown_set HG3.out 5 _) 1 _⟩
  exact (HL3.out.set 5 (.string ⟨#[]⟩) { x with kind:=⟨lx.kBytes.toArray⟩,at_:=x.at_+len,str:=⟨#[]⟩ } rfl HL3.out.le).set 1 (.string ⟨lx.kBad.toArray⟩) { x with kind:=⟨lx.kBad.toArray⟩,at_:=x.at_+len,str:=⟨#[]⟩ } rfl HL3.out.le
 | ok len content =>
  go_enter Tryz.func87,Tryz.ntmps87
  go_wp2_with (first
   | (go_at_call 115;refine (delim_any (x:={ x with kind:=⟨lx.kBytes.toArray⟩ }) HK1.out hin hq).mono ?_;rw [←hqq.out];rintro e w2 ⟨rfl,hb⟩;have HB:=Lib.hid hb;have HK2:=Lib.hid (HK1.out.below hb);have HG2:=Lib.hid (grown_trans HG1.out (grown_below hb (some b)));clear hb)
   | (go_at_call 86;refine (quoted_str HK2.out HDS.out.1 HQT.out (by rw [ByteArray.toList_eq];rfl) (by decide) HDS.out.2 _ HOO HO).mono ?_;rintro e w3 ⟨rfl,hl,hg⟩;have HL3:=Lib.hid hl;have HG3:=Lib.hid (grown_trans HG2.out hg);have c5:w3.cell? ⟨b,5,none⟩=some (.string x.str):=hl.cell 5;have f5:w3.frozen? ⟨b,5,none⟩=false:=hl.free 5;clear hl hg))
  (first|go_end0|go_ret)
  refine ⟨rfl, ?_,grown_set HG3.out 5 _⟩
  exact HL3.out.set 5 (.string ⟨content.toArray⟩) { x with kind:=⟨lx.kBytes.toArray⟩,at_:=x.at_+len,str:=⟨content.toArray⟩ } rfl HL3.out.le
set_option maxHeartbeats 2000000 in
set_option maxRecDepth 100000 in
theorem str88_any {w:World} {B b f:Nat} {s:ByteArray} {x:St} (np:Bool) (h:LexS w B b f s x) (hin:x.at_<s.size) (hq:bt s x.at_=34∨bt s x.at_=39) (o:lx.QOut)
  (HOO:Hid (lx.quoted (lx.delim (rest s x.at_)) false false false np (rest s x.at_)=o)) (HO:Hid (o≠.crash)) :
  Calls Tryz.prog 88 #[.pointer (some ⟨b,0,none⟩),.bool np] w (StrPost lx.kBytes B b f s x o w):=by
 have HK1:=Lib.hid (h.set 1 (.string ⟨lx.kBytes.toArray⟩) { x with kind:=⟨lx.kBytes.toArray⟩ } rfl h.le)
 have HG1:=Lib.hid (grown_set (grown_refl w (some b)) 1 (.string ⟨lx.kBytes.toArray⟩))
 have SZ:=h.sz
 have LE:=h.le
 have c1:w.cell? ⟨b,1,none⟩=some (.string x.kind):=h.cell 1
 have f1:w.frozen? ⟨b,1,none⟩=false:=h.free 1
 have hds:=delim_size s x.at_ hin
 obtain ⟨q,hqq⟩:∃q:ByteArray,Hid (q=⟨(lx.delim (rest s x.at_)).toArray⟩):=⟨_,rfl⟩
 have hqt:q.toList=lx.delim (rest s x.at_):=by rw [hqq.out,ByteArray.toList_eq]
 have hqz:q.size=(lx.delim (rest s x.at_)).length:=by rw [←hqt,toList_length]
 rw [←hqz] at hds
 have HDS:=Lib.hid hds
 have HQT:=Lib.hid hqt
 clear h hds hqt hqz
 cases o with
 | crash=>exact absurd rfl HO.out
 | fault =>
  go_enter Tryz.func88,Tryz.ntmps88
  go_wp2_with (first
   | (go_at_call 115;refine (delim_any (x:={ x with kind:=⟨lx.kBytes.toArray⟩ }) HK1.out hin hq).mono ?_;rw [←hqq.out];rintro e w2 ⟨rfl,hb⟩;have HB:=Lib.hid hb;have HK2:=Lib.hid (HK1.out.below hb);have HG2:=Lib.hid (grown_trans HG1.out (grown_below hb (some b)));clear hb)
   | (go_at_call 86;refine (quoted_str HK2.out HDS.out.1 HQT.out (by rw [ByteArray.toList_eq];rfl) (by decide) HDS.out.2 _ HOO HO).mono ?_;rintro e w3 ⟨m,rfl,hm⟩;have HM:=Lib.hid hm;clear hm))
  exact ⟨rfl,Faults.trans (Grown2.of HG2.out) ⟨m,rfl,HM.out⟩⟩
 | bad len =>
  go_enter Tryz.func88,Tryz.ntmps88
  go_wp2_with (first
   | (go_at_call 115;refine (delim_any (x:={ x with kind:=⟨lx.kBytes.toArray⟩ }) HK1.out hin hq).mono ?_;rw [←hqq.out];rintro e w2 ⟨rfl,hb⟩;have HB:=Lib.hid hb;have HK2:=Lib.hid (HK1.out.below hb);have HG2:=Lib.hid (grown_trans HG1.out (grown_below hb (some b)));clear hb)
   | (go_at_call 86;refine (quoted_str HK2.out HDS.out.1 HQT.out (by rw [ByteArray.toList_eq];rfl) (by decide) HDS.out.2 _ HOO HO).mono ?_;rintro e w3 ⟨rfl,hl,hg⟩;have HL3:=Lib.hid hl;have HG3:=Lib.hid (grown_trans HG2.out hg);have c5:w3.cell? ⟨b,5,none⟩=some (.string x.str):=hl.cell 5;have f5:w3.frozen? ⟨b,5,none⟩=false:=hl.free 5;have d1:w3.cell? ⟨b,1,none⟩=some (.string ⟨lx.kBytes.toArray⟩):=hl.cell 1;have g1:w3.frozen? ⟨b,1,none⟩=false:=hl.free 1;clear hl hg))
  (first|go_end0|go_ret)
  refine ⟨rfl, ?_,grown_set (grown_set HG3.out 5 _) 1 _⟩
  exact (HL3.out.set 5 (.string ⟨#[]⟩) { x with kind:=⟨lx.kBytes.toArray⟩,at_:=x.at_+len,str:=⟨#[]⟩ } rfl HL3.out.le).set 1 (.string ⟨lx.kBad.toArray⟩) { x with kind:=⟨lx.kBad.toArray⟩,at_:=x.at_+len,str:=⟨#[]⟩ } rfl HL3.out.le
 | ok len content =>
  go_enter Tryz.func88,Tryz.ntmps88
  go_wp2_with (first
   | (go_at_call 115;refine (delim_any (x:={ x with kind:=⟨lx.kBytes.toArray⟩ }) HK1.out hin hq).mono ?_;rw [←hqq.out];rintro e w2 ⟨rfl,hb⟩;have HB:=Lib.hid hb;have HK2:=Lib.hid (HK1.out.below hb);have HG2:=Lib.hid (grown_trans HG1.out (grown_below hb (some b)));clear hb)
   | (go_at_call 86;refine (quoted_str HK2.out HDS.out.1 HQT.out (by rw [ByteArray.toList_eq];rfl) (by decide) HDS.out.2 _ HOO HO).mono ?_;rintro e w3 ⟨rfl,hl,hg⟩;have HL3:=Lib.hid hl;have HG3:=Lib.hid (grown_trans HG2.out hg);have c5:w3.cell? ⟨b,5,none⟩=some (.string x.str):=hl.cell 5;have f5:w3.frozen? ⟨b,5,none⟩=false:=hl.free 5;clear hl hg))
  (first|go_end0|go_ret)
  refine ⟨rfl, ?_,grown_set HG3.out 5 _⟩
  exact HL3.out.set 5 (.string ⟨content.toArray⟩) { x with kind:=⟨lx.kBytes.toArray⟩,at_:=x.at_+len,str:=⟨content.toArray⟩ } rfl HL3.out.le
set_option maxHeartbeats 2000000 in
set_option maxRecDepth 100000 in
theorem str89_any {w:World} {B b f:Nat} {s:ByteArray} {x:St} (np:Bool) (h:LexS w B b f s x) (hin:x.at_<s.size) (hq:bt s x.at_=34∨bt s x.at_=39) (o:lx.QOut)
  (HOO:Hid (lx.quoted (lx.delim (rest s x.at_)) true true false np (rest s x.at_)=o)) (HO:Hid (o≠.crash)) :
  Calls Tryz.prog 89 #[.pointer (some ⟨b,0,none⟩),.bool np] w (StrPost lx.kString B b f s x o w):=by
 have HK1:=Lib.hid (h.set 1 (.string ⟨lx.kString.toArray⟩) { x with kind:=⟨lx.kString.toArray⟩ } rfl h.le)
 have HG1:=Lib.hid (grown_set (grown_refl w (some b)) 1 (.string ⟨lx.kString.toArray⟩))
 have SZ:=h.sz
 have LE:=h.le
 have c1:w.cell? ⟨b,1,none⟩=some (.string x.kind):=h.cell 1
 have f1:w.frozen? ⟨b,1,none⟩=false:=h.free 1
 have hds:=delim_size s x.at_ hin
 obtain ⟨q,hqq⟩:∃q:ByteArray,Hid (q=⟨(lx.delim (rest s x.at_)).toArray⟩):=⟨_,rfl⟩
 have hqt:q.toList=lx.delim (rest s x.at_):=by rw [hqq.out,ByteArray.toList_eq]
 have hqz:q.size=(lx.delim (rest s x.at_)).length:=by rw [←hqt,toList_length]
 rw [←hqz] at hds
 have HDS:=Lib.hid hds
 have HQT:=Lib.hid hqt
 clear h hds hqt hqz
 cases o with
 | crash=>exact absurd rfl HO.out
 | fault =>
  go_enter Tryz.func89,Tryz.ntmps89
  go_wp2_with (first
   | (go_at_call 115;refine (delim_any (x:={ x with kind:=⟨lx.kString.toArray⟩ }) HK1.out hin hq).mono ?_;rw [←hqq.out];rintro e w2 ⟨rfl,hb⟩;have HB:=Lib.hid hb;have HK2:=Lib.hid (HK1.out.below hb);have HG2:=Lib.hid (grown_trans HG1.out (grown_below hb (some b)));clear hb)
   | (go_at_call 86;refine (quoted_str HK2.out HDS.out.1 HQT.out (by rw [ByteArray.toList_eq];rfl) (by decide) HDS.out.2 _ HOO HO).mono ?_;rintro e w3 ⟨m,rfl,hm⟩;have HM:=Lib.hid hm;clear hm))
  exact ⟨rfl,Faults.trans (Grown2.of HG2.out) ⟨m,rfl,HM.out⟩⟩
 | bad len =>
  go_enter Tryz.func89,Tryz.ntmps89
  go_wp2_with (first
   | (go_at_call 115;refine (delim_any (x:={ x with kind:=⟨lx.kString.toArray⟩ }) HK1.out hin hq).mono ?_;rw [←hqq.out];rintro e w2 ⟨rfl,hb⟩;have HB:=Lib.hid hb;have HK2:=Lib.hid (HK1.out.below hb);have HG2:=Lib.hid (grown_trans HG1.out (grown_below hb (some b)));clear hb)
   | (go_at_call 86;refine (quoted_str HK2.out HDS.out.1 HQT.out (by rw [ByteArray.toList_eq];rfl) (by decide) HDS.out.2 _ HOO HO).mono ?_;rintro e w3 ⟨rfl,hl,hg⟩;have HL3:=Lib.hid hl;have HG3:=Lib.hid (grown_trans HG2.out hg);have c5:w3.cell? ⟨b,5,none⟩=some (.string x.str):=hl.cell 5;have f5:w3.frozen? ⟨b,5,none⟩=false:=hl.free 5;have d1:w3.cell? ⟨b,1,none⟩=some (.string ⟨lx.kString.toArray⟩):=hl.cell 1;have g1:w3.frozen? ⟨b,1,none⟩=false:=hl.free 1;clear hl hg))
  (first|go_end0|go_ret)
  refine ⟨rfl, ?_,grown_set (grown_set HG3.out 5 _) 1 _⟩
  exact (HL3.out.set 5 (.string ⟨#[]⟩) { x with kind:=⟨lx.kString.toArray⟩,at_:=x.at_+len,str:=⟨#[]⟩ } rfl HL3.out.le).set 1 (.string ⟨lx.kBad.toArray⟩) { x with kind:=⟨lx.kBad.toArray⟩,at_:=x.at_+len,str:=⟨#[]⟩ } rfl HL3.out.le
 | ok len content =>
  go_enter Tryz.func89,Tryz.ntmps89
  go_wp2_with (first
   | (go_at_call 115;refine (delim_any (x:={ x with kind:=⟨lx.kString.toArray⟩ }) HK1.out hin hq).mono ?_;rw [←hqq.out];rintro e w2 ⟨rfl,hb⟩;have HB:=Lib.hid hb;have HK2:=Lib.hid (HK1.out.below hb);have HG2:=Lib.hid (grown_trans HG1.out (grown_below hb (some b)));clear hb)
   | (go_at_call 86;refine (quoted_str HK2.out HDS.out.1 HQT.out (by rw [ByteArray.toList_eq];rfl) (by decide) HDS.out.2 _ HOO HO).mono ?_;rintro e w3 ⟨rfl,hl,hg⟩;have HL3:=Lib.hid hl;have HG3:=Lib.hid (grown_trans HG2.out hg);have c5:w3.cell? ⟨b,5,none⟩=some (.string x.str):=hl.cell 5;have f5:w3.frozen? ⟨b,5,none⟩=false:=hl.free 5;clear hl hg))
  (first|go_end0|go_ret)
  refine ⟨rfl, ?_,grown_set HG3.out 5 _⟩
  exact HL3.out.set 5 (.string ⟨content.toArray⟩) { x with kind:=⟨lx.kString.toArray⟩,at_:=x.at_+len,str:=⟨content.toArray⟩ } rfl HL3.out.le
set_option maxHeartbeats 2000000 in
set_option maxRecDepth 100000 in
theorem str90_any {w:World} {B b f:Nat} {s:ByteArray} {x:St} (np:Bool) (h:LexS w B b f s x) (hin:x.at_<s.size) (hq:bt s x.at_=34∨bt s x.at_=39) (o:lx.QOut)
  (HOO:Hid (lx.quoted (lx.delim (rest s x.at_)) false true false np (rest s x.at_)=o)) (HO:Hid (o≠.crash)) :
  Calls Tryz.prog 90 #[.pointer (some ⟨b,0,none⟩),.bool np] w (StrPost lx.kString B b f s x o w):=by
 have HK1:=Lib.hid (h.set 1 (.string ⟨lx.kString.toArray⟩) { x with kind:=⟨lx.kString.toArray⟩ } rfl h.le)
 have HG1:=Lib.hid (grown_set (grown_refl w (some b)) 1 (.string ⟨lx.kString.toArray⟩))
 have SZ:=h.sz
 have LE:=h.le
 have c1:w.cell? ⟨b,1,none⟩=some (.string x.kind):=h.cell 1
 have f1:w.frozen? ⟨b,1,none⟩=false:=h.free 1
 have hds:=delim_size s x.at_ hin
 obtain ⟨q,hqq⟩:∃q:ByteArray,Hid (q=⟨(lx.delim (rest s x.at_)).toArray⟩):=⟨_,rfl⟩
 have hqt:q.toList=lx.delim (rest s x.at_):=by rw [hqq.out,ByteArray.toList_eq]
 have hqz:q.size=(lx.delim (rest s x.at_)).length:=by rw [←hqt,toList_length]
 rw [←hqz] at hds
 have HDS:=Lib.hid hds
 have HQT:=Lib.hid hqt
 clear h hds hqt hqz
 cases o with
 | crash=>exact absurd rfl HO.out
 | fault =>
  go_enter Tryz.func90,Tryz.ntmps90
  go_wp2_with (first
   | (go_at_call 115;refine (delim_any (x:={ x with kind:=⟨lx.kString.toArray⟩ }) HK1.out hin hq).mono ?_;rw [←hqq.out];rintro e w2 ⟨rfl,hb⟩;have HB:=Lib.hid hb;have HK2:=Lib.hid (HK1.out.below hb);have HG2:=Lib.hid (grown_trans HG1.out (grown_below hb (some b)));clear hb)
   | (go_at_call 86;refine (quoted_str HK2.out HDS.out.1 HQT.out (by rw [ByteArray.toList_eq];rfl) (by decide) HDS.out.2 _ HOO HO).mono ?_;rintro e w3 ⟨m,rfl,hm⟩;have HM:=Lib.hid hm;clear hm))
  exact ⟨rfl,Faults.trans (Grown2.of HG2.out) ⟨m,rfl,HM.out⟩⟩
 | bad len =>
  go_enter Tryz.func90,Tryz.ntmps90
  go_wp2_with (first
   | (go_at_call 115;refine (delim_any (x:={ x with kind:=⟨lx.kString.toArray⟩ }) HK1.out hin hq).mono ?_;rw [←hqq.out];rintro e w2 ⟨rfl,hb⟩;have HB:=Lib.hid hb;have HK2:=Lib.hid (HK1.out.below hb);have HG2:=Lib.hid (grown_trans HG1.out (grown_below hb (some b)));clear hb)
   | (go_at_call 86;refine (quoted_str HK2.out HDS.out.1 HQT.out (by rw [ByteArray.toList_eq];rfl) (by decide) HDS.out.2 _ HOO HO).mono ?_;rintro e w3 ⟨rfl,hl,hg⟩;have HL3:=Lib.hid hl;have HG3:=Lib.hid (grown_trans HG2.out hg);have c5:w3.cell? ⟨b,5,none⟩=some (.string x.str):=hl.cell 5;have f5:w3.frozen? ⟨b,5,none⟩=false:=hl.free 5;have d1:w3.cell? ⟨b,1,none⟩=some (.string ⟨lx.kString.toArray⟩):=hl.cell 1;have g1:w3.frozen? ⟨b,1,none⟩=false:=hl.free 1;clear hl hg))
  (first|go_end0|go_ret)
  refine ⟨rfl, ?_,grown_set (grown_set HG3.out 5 _) 1 _⟩
  exact (HL3.out.set 5 (.string ⟨#[]⟩) { x with kind:=⟨lx.kString.toArray⟩,at_:=x.at_+len,str:=⟨#[]⟩ } rfl HL3.out.le).set 1 (.string ⟨lx.kBad.toArray⟩) { x with kind:=⟨lx.kBad.toArray⟩,at_:=x.at_+len,str:=⟨#[]⟩ } rfl HL3.out.le
 | ok len content =>
  go_enter Tryz.func90,Tryz.ntmps90
  go_wp2_with (first
   | (go_at_call 115;refine (delim_any (x:={ x with kind:=⟨lx.kString.toArray⟩ }) HK1.out hin hq).mono ?_;rw [←hqq.out];rintro e w2 ⟨rfl,hb⟩;have HB:=Lib.hid hb;have HK2:=Lib.hid (HK1.out.below hb);have HG2:=Lib.hid (grown_trans HG1.out (grown_below hb (some b)));clear hb)
   | (go_at_call 86;refine (quoted_str HK2.out HDS.out.1 HQT.out (by rw [ByteArray.toList_eq];rfl) (by decide) HDS.out.2 _ HOO HO).mono ?_;rintro e w3 ⟨rfl,hl,hg⟩;have HL3:=Lib.hid hl;have HG3:=Lib.hid (grown_trans HG2.out hg);have c5:w3.cell? ⟨b,5,none⟩=some (.string x.str):=hl.cell 5;have f5:w3.frozen? ⟨b,5,none⟩=false:=hl.free 5;clear hl hg))
  (first|go_end0|go_ret)
  refine ⟨rfl, ?_,grown_set HG3.out 5 _⟩
  exact HL3.out.set 5 (.string ⟨content.toArray⟩) { x with kind:=⟨lx.kString.toArray⟩,at_:=x.at_+len,str:=⟨content.toArray⟩ } rfl HL3.out.le
end Go.Proofs.YtaamolahbkgofaaGreatDoor.lex
namespace Go.Proofs.YtaamolahbkgofaaGreatDoor.lex
open Go.RowKit mem lines
/-- The number of the region that a code begins with. -/
def headRegion:Code→Option Nat
 | .region n _ _=>some n
 | .seq a _=>headRegion a
 | .block _ c=>headRegion c
 | .scope c=>headRegion c
 | _=>none
/-- The first code, from the top, that begins with a region. -/
def findAt (n:Nat):Code→Option Code
 | .seq a b=>if headRegion a=some n then some (.seq a b) else match findAt n a with
  | some c=>some c
  | none=>findAt n b
 | .block k c=>if headRegion c=some n then some (.block k c) else findAt n c
 | .scope c=>if headRegion c=some n then some (.scope c) else findAt n c
 | .loop c=>findAt n c
 | .cond _ a b=>match findAt n a with
  | some c=>some c
  | none=>findAt n b
 | .region k o d=>if k=n then some (.region k o d) else none
 | _=>none
noncomputable def wTail:Code:=((Tryz.f57.body.bind (findAt 139)).getD .skip)
noncomputable def pBody:Code:=((Tryz.f57.body.bind (findAt 124)).getD .skip)
set_option maxRecDepth 100000 in
def all464 (g:Nat→Value):List Value:=g 0::g 1::g 2::g 3::g 4::g 5::g 6::g 7::g 8::g 9::g 10::g 11::g 12::g 13::g 14::g 15::g 16::g 17::g 18::g 19::g 20::g 21::g 22::g 23::g 24::g 25::g 26::g 27::g 28::g 29::g 30::g 31::g 32::g 33::g 34::g 35::g 36::g 37::g 38::g 39::g 40::g 41::g 42::g 43::g 44::g 45::g 46::g 47::g 48::g 49::g 50::g 51::g 52::g 53::g 54::g 55::g 56::g 57::g 58::g 59::g 60::g 61::g 62::g 63::g 64::g 65::g 66::g 67::g 68::g 69::g 70::g 71::g 72::g 73::g 74::g 75::g 76::g 77::g 78::g 79::g 80::g 81::g 82::g 83::g 84::g 85::g 86::g 87::g 88::g 89::g 90::g 91::g 92::g 93::g 94::g 95::g 96::g 97::g 98::g 99::g 100::g 101::g 102::g 103::g 104::g 105::g 106::g 107::g 108::g 109::g 110::g 111::g 112::g 113::g 114::g 115::g 116::g 117::g 118::g 119::g 120::g 121::g 122::g 123::g 124::g 125::g 126::g 127::g 128::g 129::g 130::g 131::g 132::g 133::g 134::g 135::g 136::g 137::g 138::g 139::g 140::g 141::g 142::g 143::g 144::g 145::g 146::g 147::g 148::g 149::g 150::g 151::g 152::g 153::g 154::g 155::g 156::g 157::g 158::g 159::g 160::g 161::g 162::g 163::g 164::g 165::g 166::g 167::g 168::g 169::g 170::g 171::g 172::g 173::g 174::g 175::g 176::g 177::g 178::g 179::g 180::g 181::g 182::g 183::g 184::g 185::g 186::g 187::g 188::g 189::g 190::g 191::g 192::g 193::g 194::g 195::g 196::g 197::g 198::g 199::g 200::g 201::g 202::g 203::g 204::g 205::g 206::g 207::g 208::g 209::g 210::g 211::g 212::g 213::g 214::g 215::g 216::g 217::g 218::g 219::g 220::g 221::g 222::g 223::g 224::g 225::g 226::g 227::g 228::g 229::g 230::g 231::g 232::g 233::g 234::g 235::g 236::g 237::g 238::g 239::g 240::g 241::g 242::g 243::g 244::g 245::g 246::g 247::g 248::g 249::g 250::g 251::g 252::g 253::g 254::g 255::g 256::g 257::g 258::g 259::g 260::g 261::g 262::g 263::g 264::g 265::g 266::g 267::g 268::g 269::g 270::g 271::g 272::g 273::g 274::g 275::g 276::g 277::g 278::g 279::g 280::g 281::g 282::g 283::g 284::g 285::g 286::g 287::g 288::g 289::g 290::g 291::g 292::g 293::g 294::g 295::g 296::g 297::g 298::g 299::g 300::g 301::g 302::g 303::g 304::g 305::g 306::g 307::g 308::g 309::g 310::g 311::g 312::g 313::g 314::g 315::g 316::g 317::g 318::g 319::g 320::g 321::g 322::g 323::g 324::g 325::g 326::g 327::g 328::g 329::g 330::g 331::g 332::g 333::g 334::g 335::g 336::g 337::g 338::g 339::g 340::g 341::g 342::g 343::g 344::g 345::g 346::g 347::g 348::g 349::g 350::g 351::g 352::g 353::g 354::g 355::g 356::g 357::g 358::g 359::g 360::g 361::g 362::g 363::g 364::g 365::g 366::g 367::g 368::g 369::g 370::g 371::g 372::g 373::g 374::g 375::g 376::g 377::g 378::g 379::g 380::g 381::g 382::g 383::g 384::g 385::g 386::g 387::g 388::g 389::g 390::g 391::g 392::g 393::g 394::g 395::g 396::g 397::g 398::g 399::g 400::g 401::g 402::g 403::g 404::g 405::g 406::g 407::g 408::g 409::g 410::g 411::g 412::g 413::g 414::g 415::g 416::g 417::g 418::g 419::g 420::g 421::g 422::g 423::g 424::g 425::g 426::g 427::g 428::g 429::g 430::g 431::g 432::g 433::g 434::g 435::g 436::g 437::g 438::g 439::g 440::g 441::g 442::g 443::g 444::g 445::g 446::g 447::g 448::g 449::g 450::g 451::g 452::g 453::g 454::g 455::g 456::g 457::g 458::g 459::g 460::g 461::g 462::g 463::[]
set_option maxRecDepth 100000 in
theorem all464_eq (g:Nat→Value):all464 g=(List.range 464).map g:=by kernel_rfl
set_option maxRecDepth 100000 in
def WFr (u:Nat→Value) (b:Nat) (np:Bool):Act:=⟨((.pointer (some ⟨b,0,none⟩))::(.bool np)::u 2::u 3::u 4::u 5::u 6::u 7::u 8::u 9::u 10::u 11::u 12::u 13::u 14::u 15::u 16::u 17::u 18::u 19::u 20::u 21::u 22::u 23::u 24::u 25::u 26::u 27::u 28::u 29::u 30::u 31::u 32::u 33::u 34::u 35::u 36::u 37::u 38::u 39::u 40::u 41::u 42::u 43::u 44::u 45::u 46::u 47::u 48::u 49::u 50::u 51::u 52::u 53::u 54::u 55::u 56::u 57::u 58::u 59::u 60::u 61::u 62::u 63::u 64::u 65::u 66::u 67::u 68::u 69::u 70::u 71::u 72::u 73::u 74::u 75::u 76::u 77::u 78::u 79::u 80::u 81::u 82::u 83::u 84::u 85::u 86::u 87::u 88::u 89::u 90::u 91::u 92::u 93::u 94::u 95::u 96::u 97::u 98::u 99::u 100::u 101::u 102::u 103::u 104::u 105::u 106::u 107::u 108::u 109::u 110::u 111::u 112::u 113::u 114::u 115::u 116::u 117::u 118::u 119::u 120::u 121::u 122::u 123::u 124::u 125::u 126::u 127::u 128::u 129::u 130::u 131::u 132::u 133::u 134::u 135::u 136::u 137::u 138::u 139::u 140::u 141::u 142::u 143::u 144::u 145::u 146::u 147::u 148::u 149::u 150::u 151::u 152::u 153::u 154::u 155::u 156::u 157::u 158::u 159::u 160::u 161::u 162::u 163::u 164::u 165::u 166::u 167::u 168::u 169::u 170::u 171::u 172::u 173::u 174::u 175::u 176::u 177::u 178::u 179::u 180::u 181::u 182::u 183::u 184::u 185::u 186::u 187::u 188::u 189::u 190::u 191::u 192::u 193::u 194::u 195::u 196::u 197::u 198::u 199::u 200::u 201::u 202::u 203::u 204::u 205::u 206::u 207::u 208::u 209::u 210::u 211::u 212::u 213::u 214::u 215::u 216::u 217::u 218::u 219::u 220::u 221::u 222::u 223::u 224::u 225::u 226::u 227::u 228::u 229::u 230::u 231::u 232::u 233::u 234::u 235::u 236::u 237::u 238::u 239::u 240::u 241::u 242::u 243::u 244::u 245::u 246::u 247::u 248::u 249::u 250::u 251::u 252::u 253::u 254::u 255::u 256::u 257::u 258::u 259::u 260::u 261::u 262::u 263::u 264::u 265::u 266::u 267::u 268::u 269::u 270::u 271::u 272::u 273::u 274::u 275::u 276::u 277::u 278::u 279::u 280::u 281::u 282::u 283::u 284::u 285::u 286::u 287::u 288::u 289::u 290::u 291::u 292::u 293::u 294::u 295::u 296::u 297::u 298::u 299::u 300::u 301::u 302::u 303::u 304::u 305::u 306::u 307::u 308::u 309::u 310::u 311::u 312::u 313::u 314::u 315::u 316::u 317::u 318::u 319::u 320::u 321::u 322::u 323::u 324::u 325::u 326::u 327::u 328::u 329::u 330::u 331::u 332::u 333::u 334::u 335::u 336::u 337::u 338::u 339::u 340::u 341::u 342::u 343::u 344::u 345::u 346::u 347::u 348::u 349::u 350::u 351::u 352::u 353::u 354::u 355::u 356::u 357::u 358::u 359::u 360::u 361::u 362::u 363::u 364::u 365::u 366::u 367::u 368::u 369::u 370::u 371::u 372::u 373::u 374::u 375::u 376::u 377::u 378::u 379::u 380::u 381::u 382::u 383::u 384::u 385::u 386::u 387::u 388::u 389::u 390::u 391::u 392::u 393::u 394::u 395::u 396::u 397::u 398::u 399::u 400::u 401::u 402::u 403::u 404::u 405::u 406::u 407::u 408::u 409::u 410::u 411::u 412::u 413::u 414::u 415::u 416::u 417::u 418::u 419::u 420::u 421::u 422::u 423::u 424::u 425::u 426::u 427::u 428::u 429::u 430::u 431::u 432::u 433::u 434::u 435::u 436::u 437::u 438::u 439::u 440::u 441::u 442::u 443::u 444::u 445::u 446::u 447::u 448::u 449::u 450::u 451::u 452::u 453::u 454::u 455::u 456::u 457::u 458::u 459::u 460::u 461::u 462::u 463::[]).toArray,[]⟩
set_option maxRecDepth 100000 in
def PFr (u:Nat→Value) (b:Nat) (np by_ ra:Bool) (i:Int):Act:=⟨((.pointer (some ⟨b,0,none⟩))::(.bool np)::u 2::u 3::u 4::u 5::u 6::(.bool by_)::(.bool ra)::(.int .i64 i)::u 10::u 11::u 12::u 13::u 14::u 15::u 16::u 17::u 18::u 19::u 20::u 21::u 22::u 23::u 24::u 25::u 26::u 27::u 28::u 29::u 30::u 31::u 32::u 33::u 34::u 35::u 36::u 37::u 38::u 39::u 40::u 41::u 42::u 43::u 44::u 45::u 46::u 47::u 48::u 49::u 50::u 51::u 52::u 53::u 54::u 55::u 56::u 57::u 58::u 59::u 60::u 61::u 62::u 63::u 64::u 65::u 66::u 67::u 68::u 69::u 70::u 71::u 72::u 73::u 74::u 75::u 76::u 77::u 78::u 79::u 80::u 81::u 82::u 83::u 84::u 85::u 86::u 87::u 88::u 89::u 90::u 91::u 92::u 93::u 94::u 95::u 96::u 97::u 98::u 99::u 100::u 101::u 102::u 103::u 104::u 105::u 106::u 107::u 108::u 109::u 110::u 111::u 112::u 113::u 114::u 115::u 116::u 117::u 118::u 119::u 120::u 121::u 122::u 123::u 124::u 125::u 126::u 127::u 128::u 129::u 130::u 131::u 132::u 133::u 134::u 135::u 136::u 137::u 138::u 139::u 140::u 141::u 142::u 143::u 144::u 145::u 146::u 147::u 148::u 149::u 150::u 151::u 152::u 153::u 154::u 155::u 156::u 157::u 158::u 159::u 160::u 161::u 162::u 163::u 164::u 165::u 166::u 167::u 168::u 169::u 170::u 171::u 172::u 173::u 174::u 175::u 176::u 177::u 178::u 179::u 180::u 181::u 182::u 183::u 184::u 185::u 186::u 187::u 188::u 189::u 190::u 191::u 192::u 193::u 194::u 195::u 196::u 197::u 198::u 199::u 200::u 201::u 202::u 203::u 204::u 205::u 206::u 207::u 208::u 209::u 210::u 211::u 212::u 213::u 214::u 215::u 216::u 217::u 218::u 219::u 220::u 221::u 222::u 223::u 224::u 225::u 226::u 227::u 228::u 229::u 230::u 231::u 232::u 233::u 234::u 235::u 236::u 237::u 238::u 239::u 240::u 241::u 242::u 243::u 244::u 245::u 246::u 247::u 248::u 249::u 250::u 251::u 252::u 253::u 254::u 255::u 256::u 257::u 258::u 259::u 260::u 261::u 262::u 263::u 264::u 265::u 266::u 267::u 268::u 269::u 270::u 271::u 272::u 273::u 274::u 275::u 276::u 277::u 278::u 279::u 280::u 281::u 282::u 283::u 284::u 285::u 286::u 287::u 288::u 289::u 290::u 291::u 292::u 293::u 294::u 295::u 296::u 297::u 298::u 299::u 300::u 301::u 302::u 303::u 304::u 305::u 306::u 307::u 308::u 309::u 310::u 311::u 312::u 313::u 314::u 315::u 316::u 317::u 318::u 319::u 320::u 321::u 322::u 323::u 324::u 325::u 326::u 327::u 328::u 329::u 330::u 331::u 332::u 333::u 334::u 335::u 336::u 337::u 338::u 339::u 340::u 341::u 342::u 343::u 344::u 345::u 346::u 347::u 348::u 349::u 350::u 351::u 352::u 353::u 354::u 355::u 356::u 357::u 358::u 359::u 360::u 361::u 362::u 363::u 364::u 365::u 366::u 367::u 368::u 369::u 370::u 371::u 372::u 373::u 374::u 375::u 376::u 377::u 378::u 379::u 380::u 381::u 382::u 383::u 384::u 385::u 386::u 387::u 388::u 389::u 390::u 391::u 392::u 393::u 394::u 395::u 396::u 397::u 398::u 399::u 400::u 401::u 402::u 403::u 404::u 405::u 406::u 407::u 408::u 409::u 410::u 411::u 412::u 413::u 414::u 415::u 416::u 417::u 418::u 419::u 420::u 421::u 422::u 423::u 424::u 425::u 426::u 427::u 428::u 429::u 430::u 431::u 432::u 433::u 434::u 435::u 436::u 437::u 438::u 439::u 440::u 441::u 442::u 443::u 444::u 445::u 446::u 447::u 448::u 449::u 450::u 451::u 452::u 453::u 454::u 455::u 456::u 457::u 458::u 459::u 460::u 461::u 462::u 463::[]).toArray,[]⟩
structure WAt (a:Act) (b:Nat) (np:Bool):Prop where
 size:a.tmps.size=464
 defers:a.defers=[]
 s0:a.tmps[0]?=some (.pointer (some ⟨b,0,none⟩))
 s1:a.tmps[1]?=some (.bool np)
set_option maxRecDepth 100000 in
theorem WAt.is {a:Act} {b:Nat} {np:Bool} (h:WAt a b np):∃u,a=WFr u b np:=by
 obtain ⟨g,hg⟩:∃g:Nat→Value,∀n,g n=(a.tmps[n]?).getD .nilIface:=⟨_,fun _=>rfl⟩
 refine ⟨g, ?_⟩
 have e:a.tmps.toList=all464 g:=by
  rw [all464_eq]
  apply List.ext_getElem
  ·simp [h.size]
  ·intro n h1 h2
   simp at h1
   simp [hg,h1]
 have e0:g 0=.pointer (some ⟨b,0,none⟩):=by rw [hg,h.s0];rfl
 have e1:g 1=.bool np:=by rw [hg,h.s1];rfl
 have hd:=h.defers
 obtain ⟨⟨t⟩,d⟩:=a
 simp only at e hd
 subst hd e
 unfold WFr
 rw [←e0,←e1]
 rfl
structure PAt (a:Act) (b:Nat) (np by_ ra:Bool) (i:Int):Prop where
 size:a.tmps.size=464
 defers:a.defers=[]
 s0:a.tmps[0]?=some (.pointer (some ⟨b,0,none⟩))
 s1:a.tmps[1]?=some (.bool np)
 s7:a.tmps[7]?=some (.bool by_)
 s8:a.tmps[8]?=some (.bool ra)
 s9:a.tmps[9]?=some (.int .i64 i)
set_option maxRecDepth 100000 in
theorem PAt.is {a:Act} {b:Nat} {np by_ ra:Bool} {i:Int} (h:PAt a b np by_ ra i):∃u,a=PFr u b np by_ ra i:=by
 obtain ⟨g,hg⟩:∃g:Nat→Value,∀n,g n=(a.tmps[n]?).getD .nilIface:=⟨_,fun _=>rfl⟩
 refine ⟨g, ?_⟩
 have e:a.tmps.toList=all464 g:=by
  rw [all464_eq]
  apply List.ext_getElem
  ·simp [h.size]
  ·intro n h1 h2
   simp at h1
   simp [hg,h1]
 have e0:g 0=.pointer (some ⟨b,0,none⟩):=by rw [hg,h.s0];rfl
 have e1:g 1=.bool np:=by rw [hg,h.s1];rfl
 have e7:g 7=.bool by_:=by rw [hg,h.s7];rfl
 have e8:g 8=.bool ra:=by rw [hg,h.s8];rfl
 have e9:g 9=.int .i64 i:=by rw [hg,h.s9];rfl
 have hd:=h.defers
 obtain ⟨⟨t⟩,d⟩:=a
 simp only at e hd
 subst hd e
 unfold PFr
 rw [←e0,←e1,←e7,←e8,←e9]
 rfl
end Go.Proofs.YtaamolahbkgofaaGreatDoor.lex
set_option linter.unusedVariables false
namespace Go.Proofs.YtaamolahbkgofaaGreatDoor.lex
open Go.RowKit mem lines plain
set_option maxHeartbeats 4000000 in
set_option maxRecDepth 100000 in
theorem word_tail {w:World} {B b f:Nat} {s:ByteArray} {x:St} (np:Bool) (h:LexS w B b f s x) (hx:x.str=⟨#[]⟩) (hb:x.base=0) (hin:x.at_<s.size) (hst:lx.isIdS (lx.nb (rest s x.at_) 0)=true) (u:Nat→Value) (m0:Nat) :
  Code.wp Tryz.prog wTail (bodyPost Tryz.prog Tryz.f57 (TokPost B b f s x (lx.word np (rest s x.at_)) w)) (WFr u b np) (w.drewN m0):=by
 have HL:=Lib.hid h
 have SZ:=h.sz
 have hle:=h.le
 have J1:Hid (bt s (x.at_+(0:Int).toNat)=(s[x.at_].toNat:Int)):=by show bt s (x.at_+0)=_;rw [Nat.add_zero,bt_in hin]
 have pin0:x.at_+(0:Int).toNat<s.size:=by simpa using hin
 have hnb0:lx.nb (rest s x.at_) 0=s[x.at_].toNat:=by
  have e:=nb_in s x.at_ 0 (by omega)
  rw [Nat.add_zero,bt_in hin] at e
  omega
 have hS:Hid (decide ((97≤(s[x.at_].toNat:Int)∧(s[x.at_].toNat:Int)≤122)∨(65≤(s[x.at_].toNat:Int)∧(s[x.at_].toNat:Int)≤90)∨(s[x.at_].toNat:Int)=95)=lx.isIdS (lx.nb (rest s x.at_) 0)):=by
  show _=_
  rw [hnb0,Bool.eq_iff_iff]
  simp [lx.isIdS]
  omega
 clear hnb0
 rw [hst] at hS
 clear h
 generalize s[x.at_]=c at *
 unfold WFr
 conv=>arg 2;whnf
 go_wp2_with (first
  | (go_at_call 80;refine (peek_t _ _ (HL.out.drewN _).at (by omega) pin0 (by omega) J1).mono ?_;rintro e w' ⟨rfl,n,rfl⟩)
  | (go_at_call 85;refine (start_z _ _ _ hS).mono ?_;rintro e w' ⟨rfl,rfl⟩))
 go_loopw [10] (fun iv wq=>∃k:Nat,iv=.int .i64 (k:Int)∧x.at_+k≤s.size∧Hid (lx.idLen (rest s x.at_)=k+lx.idLen (rest s (x.at_+k)))∧∃m,wq=w.drewN m) (fun iv _=>s.size-(intOf iv).toNat)
 case atStart=>exact ⟨0,rfl,hle,by show _=_;rw [Nat.zero_add];rfl,_,rfl⟩
 case round =>
  obtain ⟨k,rfl,hk,HE,m,rfl⟩:=hrel
  by_cases hbin:x.at_+k<s.size
  ·have JA:Hid (inB s (x.at_+(k:Int).toNat)=true):=by show _=_;simp [inB,hbin]
   have JB:Hid (bt s (x.at_+(k:Int).toNat)=(s[x.at_+k].toNat:Int)):=by show bt s (x.at_+k)=_;exact bt_in hbin
   have pinj:x.at_+(k:Int).toNat<s.size:=by simpa using hbin
   have HI:=Lib.hid (idLen_in hbin)
   cases hp:lx.idP s[x.at_+k]
   ·have JP:=part_dec hp
    have HK:Hid (lx.idLen (rest s x.at_)=k):=by
     have h1:=HE.out
     rw [HI.out,hp] at h1
     exact h1
    clear hp HI HE
    generalize s[x.at_+k]=d at JB JP
    go_wp2_with (first
     | (go_at_call 78;refine (peekOk_t _ _ (HL.out.drewN _).at (by omega) (by omega) (by omega) (by omega) JA).mono ?_;rintro e w' ⟨rfl,n,rfl⟩)
     | (go_at_call 80;refine (peek_t _ _ (HL.out.drewN _).at (by omega) pinj (by omega) JB).mono ?_;rintro e w' ⟨rfl,n,rfl⟩)
     | (go_at_call 79;refine (part_z _ _ _ JP).mono ?_;rintro e w' ⟨rfl,rfl⟩))
    have hvs0:∃vs,Hid (s.extract (x.at_+(0:Int).toNat) (min (x.at_+(k:Int).toNat) s.size)=vs):=⟨_,rfl⟩
    obtain ⟨vs,hvs⟩:=hvs0
    have hcl:=cut_list (za:=0) (ze:=(k:Int)) (a:=0) (e:=k) rfl rfl (Nat.zero_le _) (by omega) hvs
    have HVL:Hid (vs.data.toList=(rest s x.at_).take k):=hcl.1
    have hvz:vs.size≤20000:=by have:=hcl.2;omega
    clear hcl
    have HOW:Hid (lx.word np (rest s x.at_)=if lx.keyword (((rest s x.at_).take k).map up) then .tok (((rest s x.at_).take k).map up) k [] 0 none else .tok lx.kIdent k ((rest s x.at_).take k) 0 none):=by
     show _=_
     unfold lx.word
     rw [if_pos hst,HK.out]
    obtain ⟨V,HV⟩:∃V:ByteArray,Hid (V=⟨(((rest s x.at_).take k).map up).toArray⟩):=⟨_,rfl⟩
    cases hkw:lx.keyword (((rest s x.at_).take k).map up)
    ·have HKW:Hid (lx.keyword V.data.toList=false):=by show _=_;rw [HV.out];exact hkw
     rw [hkw,if_neg Bool.false_ne_true] at HOW
     clear hkw
     go_wp2_with (first
      | (go_at_call 91;refine (slice_z _ _ vs (HL.out.drewN _).at (by omega) (by omega) (by omega) (by omega) (by omega) (by omega) hvs).mono ?_;rintro e w' ⟨rfl,n2,rfl⟩)
      | (go_at_call 75;refine (skipN_t k _ (HL.out.drewN _) hk (by rfl)).mono ?_;rintro e w6 ⟨rfl,hl6,hg6⟩;have HL6:=Lib.hid hl6;have HG6:=Lib.hid (grown_trans (grown_drewN (grown_refl w (some b)) _) hg6);clear hl6 hg6)
      | (go_at_call 50;refine (toUpper_any vs _ (by omega)).mono ?_;rw [HVL.out,←HV.out];rintro e w7 ⟨rfl,hb7⟩;have HL7:=Lib.hid (HL6.out.below hb7);have HG7:=Lib.hid (grown_trans HG6.out (grown_below hb7 _));have c1:w7.cell? ⟨b,1,none⟩=some (.string x.kind):=HL7.out.cell 1;have f1:w7.frozen? ⟨b,1,none⟩=false:=HL7.out.free 1;have c5:w7.cell? ⟨b,5,none⟩=some (.string x.str):=HL7.out.cell 5;have f5:w7.frozen? ⟨b,5,none⟩=false:=HL7.out.free 5;clear hb7)
      | (go_at_call 49;refine (kw_z _ _ _ HKW).mono ?_;rintro e w' ⟨rfl,rfl⟩))
     (first|go_end0|go_ret)
     rw [HOW.out]
     have hL:=HL7.out
     rw [St.own hx hb] at hL
     refine ⟨rfl, ?_,grown_set (grown_set HG7.out 1 _) 5 _⟩
     have e:(⟨((rest s x.at_).take k).toArray⟩:ByteArray)=vs:=by rw [←HVL.out]
     show LexS _ B b f s { x with kind:=⟨lx.kIdent.toArray⟩,at_:=x.at_+k,str:=⟨((rest s x.at_).take k).toArray⟩,base:=((0:Nat):Int),dot:=x.dot }
     rw [e]
     exact (hL.set 1 (.string ⟨lx.kIdent.toArray⟩) { x with kind:=⟨lx.kIdent.toArray⟩,at_:=x.at_+k,str:=⟨#[]⟩,base:=0 } rfl hL.le).set 5 (.string vs) _ rfl hL.le
    ·have HKW:Hid (lx.keyword V.data.toList=true):=by show _=_;rw [HV.out];exact hkw
     rw [hkw,if_pos rfl] at HOW
     clear hkw
     go_wp2_with (first
      | (go_at_call 91;refine (slice_z _ _ vs (HL.out.drewN _).at (by omega) (by omega) (by omega) (by omega) (by omega) (by omega) hvs).mono ?_;rintro e w' ⟨rfl,n2,rfl⟩)
      | (go_at_call 75;refine (skipN_t k _ (HL.out.drewN _) hk (by rfl)).mono ?_;rintro e w6 ⟨rfl,hl6,hg6⟩;have HL6:=Lib.hid hl6;have HG6:=Lib.hid (grown_trans (grown_drewN (grown_refl w (some b)) _) hg6);clear hl6 hg6)
      | (go_at_call 50;refine (toUpper_any vs _ (by omega)).mono ?_;rw [HVL.out,←HV.out];rintro e w7 ⟨rfl,hb7⟩;have HL7:=Lib.hid (HL6.out.below hb7);have HG7:=Lib.hid (grown_trans HG6.out (grown_below hb7 _));have c1:w7.cell? ⟨b,1,none⟩=some (.string x.kind):=HL7.out.cell 1;have f1:w7.frozen? ⟨b,1,none⟩=false:=HL7.out.free 1;have c5:w7.cell? ⟨b,5,none⟩=some (.string x.str):=HL7.out.cell 5;have f5:w7.frozen? ⟨b,5,none⟩=false:=HL7.out.free 5;clear hb7)
      | (go_at_call 49;refine (kw_z _ _ _ HKW).mono ?_;rintro e w' ⟨rfl,rfl⟩))
     (first|go_end0|go_ret)
     rw [HOW.out]
     have hL:=HL7.out
     rw [St.own hx hb] at hL
     refine ⟨rfl, ?_,grown_set HG7.out 1 _⟩
     show LexS _ B b f s { x with kind:=⟨(((rest s x.at_).take k).map up).toArray⟩,at_:=x.at_+k,str:=⟨#[]⟩,base:=((0:Nat):Int),dot:=x.dot }
     rw [←HV.out]
     exact hL.set 1 (.string V) _ rfl hL.le
   ·have JP:=part_dec hp
    have HE2:Hid (lx.idLen (rest s x.at_)=(k+1)+lx.idLen (rest s (x.at_+(k+1)))):=by
     have h1:=HE.out
     rw [HI.out,hp,if_pos rfl] at h1
     show _=_
     rw [h1,show x.at_+k+1=x.at_+(k+1) from rfl]
     omega
    clear hp HI HE
    generalize s[x.at_+k]=d at JB JP
    go_wp2_with (first
     | (go_at_call 78;refine (peekOk_t _ _ (HL.out.drewN _).at (by omega) (by omega) (by omega) (by omega) JA).mono ?_;rintro e w' ⟨rfl,n,rfl⟩)
     | (go_at_call 80;refine (peek_t _ _ (HL.out.drewN _).at (by omega) pinj (by omega) JB).mono ?_;rintro e w' ⟨rfl,n,rfl⟩)
     | (go_at_call 79;refine (part_z _ _ _ JP).mono ?_;rintro e w' ⟨rfl,rfl⟩))
    go_round
    case rel=>exact ⟨k+1,by go_num,hbin,HE2,_,rfl⟩
    case measure=>simp [intOf];omega
  ·have JA:Hid (inB s (x.at_+(k:Int).toNat)=false):=by show _=_;simp [inB];omega
   have HK:Hid (lx.idLen (rest s x.at_)=k):=by
    have h1:=HE.out
    rw [idLen_out hbin] at h1
    exact h1
   clear HE
   go_wp2_with (go_at_call 78;refine (peekOk_t _ _ (HL.out.drewN _).at (by omega) (by omega) (by omega) (by omega) JA).mono ?_;rintro e w' ⟨rfl,n,rfl⟩)
   have hvs0:∃vs,Hid (s.extract (x.at_+(0:Int).toNat) (min (x.at_+(k:Int).toNat) s.size)=vs):=⟨_,rfl⟩
   obtain ⟨vs,hvs⟩:=hvs0
   have hcl:=cut_list (za:=0) (ze:=(k:Int)) (a:=0) (e:=k) rfl rfl (Nat.zero_le _) (by omega) hvs
   have HVL:Hid (vs.data.toList=(rest s x.at_).take k):=hcl.1
   have hvz:vs.size≤20000:=by have:=hcl.2;omega
   clear hcl
   have HOW:Hid (lx.word np (rest s x.at_)=if lx.keyword (((rest s x.at_).take k).map up) then .tok (((rest s x.at_).take k).map up) k [] 0 none else .tok lx.kIdent k ((rest s x.at_).take k) 0 none):=by
    show _=_
    unfold lx.word
    rw [if_pos hst,HK.out]
   obtain ⟨V,HV⟩:∃V:ByteArray,Hid (V=⟨(((rest s x.at_).take k).map up).toArray⟩):=⟨_,rfl⟩
   cases hkw:lx.keyword (((rest s x.at_).take k).map up)
   ·have HKW:Hid (lx.keyword V.data.toList=false):=by show _=_;rw [HV.out];exact hkw
    rw [hkw,if_neg Bool.false_ne_true] at HOW
    clear hkw
    go_wp2_with (first
     | (go_at_call 91;refine (slice_z _ _ vs (HL.out.drewN _).at (by omega) (by omega) (by omega) (by omega) (by omega) (by omega) hvs).mono ?_;rintro e w' ⟨rfl,n2,rfl⟩)
     | (go_at_call 75;refine (skipN_t k _ (HL.out.drewN _) hk (by rfl)).mono ?_;rintro e w6 ⟨rfl,hl6,hg6⟩;have HL6:=Lib.hid hl6;have HG6:=Lib.hid (grown_trans (grown_drewN (grown_refl w (some b)) _) hg6);clear hl6 hg6)
     | (go_at_call 50;refine (toUpper_any vs _ (by omega)).mono ?_;rw [HVL.out,←HV.out];rintro e w7 ⟨rfl,hb7⟩;have HL7:=Lib.hid (HL6.out.below hb7);have HG7:=Lib.hid (grown_trans HG6.out (grown_below hb7 _));have c1:w7.cell? ⟨b,1,none⟩=some (.string x.kind):=HL7.out.cell 1;have f1:w7.frozen? ⟨b,1,none⟩=false:=HL7.out.free 1;have c5:w7.cell? ⟨b,5,none⟩=some (.string x.str):=HL7.out.cell 5;have f5:w7.frozen? ⟨b,5,none⟩=false:=HL7.out.free 5;clear hb7)
     | (go_at_call 49;refine (kw_z _ _ _ HKW).mono ?_;rintro e w' ⟨rfl,rfl⟩))
    (first|go_end0|go_ret)
    rw [HOW.out]
    have hL:=HL7.out
    rw [St.own hx hb] at hL
    refine ⟨rfl, ?_,grown_set (grown_set HG7.out 1 _) 5 _⟩
    have e:(⟨((rest s x.at_).take k).toArray⟩:ByteArray)=vs:=by rw [←HVL.out]
    show LexS _ B b f s { x with kind:=⟨lx.kIdent.toArray⟩,at_:=x.at_+k,str:=⟨((rest s x.at_).take k).toArray⟩,base:=((0:Nat):Int),dot:=x.dot }
    rw [e]
    exact (hL.set 1 (.string ⟨lx.kIdent.toArray⟩) { x with kind:=⟨lx.kIdent.toArray⟩,at_:=x.at_+k,str:=⟨#[]⟩,base:=0 } rfl hL.le).set 5 (.string vs) _ rfl hL.le
   ·have HKW:Hid (lx.keyword V.data.toList=true):=by show _=_;rw [HV.out];exact hkw
    rw [hkw,if_pos rfl] at HOW
    clear hkw
    go_wp2_with (first
     | (go_at_call 91;refine (slice_z _ _ vs (HL.out.drewN _).at (by omega) (by omega) (by omega) (by omega) (by omega) (by omega) hvs).mono ?_;rintro e w' ⟨rfl,n2,rfl⟩)
     | (go_at_call 75;refine (skipN_t k _ (HL.out.drewN _) hk (by rfl)).mono ?_;rintro e w6 ⟨rfl,hl6,hg6⟩;have HL6:=Lib.hid hl6;have HG6:=Lib.hid (grown_trans (grown_drewN (grown_refl w (some b)) _) hg6);clear hl6 hg6)
     | (go_at_call 50;refine (toUpper_any vs _ (by omega)).mono ?_;rw [HVL.out,←HV.out];rintro e w7 ⟨rfl,hb7⟩;have HL7:=Lib.hid (HL6.out.below hb7);have HG7:=Lib.hid (grown_trans HG6.out (grown_below hb7 _));have c1:w7.cell? ⟨b,1,none⟩=some (.string x.kind):=HL7.out.cell 1;have f1:w7.frozen? ⟨b,1,none⟩=false:=HL7.out.free 1;have c5:w7.cell? ⟨b,5,none⟩=some (.string x.str):=HL7.out.cell 5;have f5:w7.frozen? ⟨b,5,none⟩=false:=HL7.out.free 5;clear hb7)
     | (go_at_call 49;refine (kw_z _ _ _ HKW).mono ?_;rintro e w' ⟨rfl,rfl⟩))
    (first|go_end0|go_ret)
    rw [HOW.out]
    have hL:=HL7.out
    rw [St.own hx hb] at hL
    refine ⟨rfl, ?_,grown_set HG7.out 1 _⟩
    show LexS _ B b f s { x with kind:=⟨(((rest s x.at_).take k).map up).toArray⟩,at_:=x.at_+k,str:=⟨#[]⟩,base:=((0:Nat):Int),dot:=x.dot }
    rw [←HV.out]
    exact hL.set 1 (.string V) _ rfl hL.le
end Go.Proofs.YtaamolahbkgofaaGreatDoor.lex
