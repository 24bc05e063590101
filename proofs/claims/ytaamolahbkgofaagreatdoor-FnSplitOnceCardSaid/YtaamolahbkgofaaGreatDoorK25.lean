/-
  The lexer's consumeToken: words, and bytes that begin no token. Conditions: in its statements. (Written by wip/mktk5.py.).
-/
import Derived.Test.YtaamolahbkgofaaGreatDoorK10
import Derived.Test.YtaamolahbkgofaaGreatDoorK24
set_option linter.unusedVariables false
namespace Go.Proofs.YtaamolahbkgofaaGreatDoor.lex
open Go.RowKit mem lines plain
theorem start_z (z:Int) (v:Bool) (w:World) (h:Hid (decide ((97≤z∧z≤122)∨(65≤z∧z≤90)∨z=95)=v)):Calls Tryz.prog 85 #[.int .u8 z] w fun e w'=>e=.returned (.bool v)∧w=w':=by
 rw [←h.out]
 exact isStart_any z w
theorem part_z (z:Int) (v:Bool) (w:World) (h:Hid (decide ((48≤z∧z≤57)∨(97≤z∧z≤122)∨(65≤z∧z≤90)∨z=95)=v)):Calls Tryz.prog 79 #[.int .u8 z] w fun e w'=>e=.returned (.bool v)∧w=w':=by
 rw [←h.out]
 exact isPart_any z w
theorem kw_z (V:ByteArray) (v:Bool) (w:World) (h:Hid (lx.keyword V.data.toList=v)):Calls Tryz.prog 49 #[.string V] w fun e w'=>e=.returned (.bool v)∧w=w':=by
 refine (keyword_any V w).mono fun e w' ⟨he,hw⟩=>⟨?_,hw⟩
 rw [he]
 exact ret_bool h.out
theorem part_dec {c:UInt8} {v:Bool} (h:lx.idP c=v):Hid (decide ((48≤(c.toNat:Int)∧(c.toNat:Int)≤57)∨(97≤(c.toNat:Int)∧(c.toNat:Int)≤122)∨(65≤(c.toNat:Int)∧(c.toNat:Int)≤90)∨(c.toNat:Int)=95)=v):=by
 show _=_
 rw [←h,Bool.eq_iff_iff]
 simp [lx.idP]
 omega
theorem idLen_in {s:ByteArray} {p:Nat} (h:p<s.size):lx.idLen (rest s p)=if lx.idP s[p] then 1+lx.idLen (rest s (p+1)) else 0:=by
 rw [rest_cons s p h]
 rfl
theorem idLen_out {s:ByteArray} {p:Nat} (h:¬p<s.size):lx.idLen (rest s p)=0:=by
 rw [rest_nil s p h]
 rfl
set_option maxHeartbeats 4000000 in
set_option maxRecDepth 100000 in
theorem tok_word {w:World} {B b f:Nat} {s:ByteArray} {x:St} (np:Bool) (last:lx.Bs) (h:LexS w B b f s x) (hx:x.str=⟨#[]⟩) (hb:x.base=0) (hin:x.at_<s.size) (hw:lx.token np last (rest s x.at_)=lx.word np (rest s x.at_)) (hst:lx.isIdS (lx.nb (rest s x.at_) 0)=true) (d40:¬((s[x.at_].toNat:Int)=40)) (d41:¬((s[x.at_].toNat:Int)=41)) (d123:¬((s[x.at_].toNat:Int)=123)) (d125:¬((s[x.at_].toNat:Int)=125)) (d59:¬((s[x.at_].toNat:Int)=59)) (d44:¬((s[x.at_].toNat:Int)=44)) (d91:¬((s[x.at_].toNat:Int)=91)) (d93:¬((s[x.at_].toNat:Int)=93)) (d126:¬((s[x.at_].toNat:Int)=126)) (d42:¬((s[x.at_].toNat:Int)=42)) (d47:¬((s[x.at_].toNat:Int)=47)) (d38:¬((s[x.at_].toNat:Int)=38)) (d94:¬((s[x.at_].toNat:Int)=94)) (d37:¬((s[x.at_].toNat:Int)=37)) (d58:¬((s[x.at_].toNat:Int)=58)) (d63:¬((s[x.at_].toNat:Int)=63)) (d92:¬((s[x.at_].toNat:Int)=92)) (d36:¬((s[x.at_].toNat:Int)=36)) (d46:¬((s[x.at_].toNat:Int)=46)) (d60:¬((s[x.at_].toNat:Int)=60)) (d62:¬((s[x.at_].toNat:Int)=62)) (d43:¬((s[x.at_].toNat:Int)=43)) (d45:¬((s[x.at_].toNat:Int)=45)) (d61:¬((s[x.at_].toNat:Int)=61)) (d124:¬((s[x.at_].toNat:Int)=124)) (d33:¬((s[x.at_].toNat:Int)=33)) (d64:¬((s[x.at_].toNat:Int)=64)) (d96:¬((s[x.at_].toNat:Int)=96)) (d48:¬((s[x.at_].toNat:Int)=48)) (d49:¬((s[x.at_].toNat:Int)=49)) (d50:¬((s[x.at_].toNat:Int)=50)) (d51:¬((s[x.at_].toNat:Int)=51)) (d52:¬((s[x.at_].toNat:Int)=52)) (d53:¬((s[x.at_].toNat:Int)=53)) (d54:¬((s[x.at_].toNat:Int)=54)) (d55:¬((s[x.at_].toNat:Int)=55)) (d56:¬((s[x.at_].toNat:Int)=56)) (d57:¬((s[x.at_].toNat:Int)=57)) (d66:¬((s[x.at_].toNat:Int)=66)) (d98:¬((s[x.at_].toNat:Int)=98)) (d82:¬((s[x.at_].toNat:Int)=82)) (d114:¬((s[x.at_].toNat:Int)=114)) (d34:¬((s[x.at_].toNat:Int)=34)) (d39:¬((s[x.at_].toNat:Int)=39)) :
  Calls Tryz.prog 57 #[.pointer (some ⟨b,0,none⟩),.bool np] w (TokPost B b f s x (lx.token np last (rest s x.at_)) w):=by
 have HL:=Lib.hid h
 have SZ:=h.sz
 have hle:=h.le
 have hI:(!(inB s x.at_))=false:=by simp [inB,hin]
 have J1:Hid (bt s (x.at_+(0:Int).toNat)=(s[x.at_].toNat:Int)):=by show bt s (x.at_+0)=_;rw [Nat.add_zero,bt_in hin]
 have J9:Hid (bt s x.at_=(s[x.at_].toNat:Int)):=by show _=_;rw [bt_in hin]
 have pin0:x.at_+(0:Int).toNat<s.size:=by simpa using hin
 have hnb0:lx.nb (rest s x.at_) 0=s[x.at_].toNat:=by
  have e:=nb_in s x.at_ 0 (by omega)
  rw [Nat.add_zero,bt_in hin] at e
  omega
 have HW:=Lib.hid hw
 have hS:Hid (decide ((97≤(s[x.at_].toNat:Int)∧(s[x.at_].toNat:Int)≤122)∨(65≤(s[x.at_].toNat:Int)∧(s[x.at_].toNat:Int)≤90)∨(s[x.at_].toNat:Int)=95)=lx.isIdS (lx.nb (rest s x.at_) 0)):=by
  show _=_
  rw [hnb0,Bool.eq_iff_iff]
  simp [lx.isIdS]
  omega
 clear hnb0 hw
 rw [hst] at hS
 clear h
 generalize s[x.at_]=c at *
 go_enter Tryz.func57,Tryz.ntmps57
 go_wp2_with (first
  | (go_at_call 72;refine (eof_any HL.out.at (by omega) (by omega)).mono ?_;simp only [hI];rintro e w' ⟨rfl,n,rfl⟩)
  | (go_at_call 80;refine (peek_t _ _ (HL.out.drewN _).at (by omega) pin0 (by omega) J1).mono ?_;rintro e w' ⟨rfl,n,rfl⟩)
  | (go_at_call 81;refine (skip_t _ (HL.out.drewN _) hin J9).mono ?_;rintro e w6 ⟨rfl,hl6,hg6⟩;have HL6:=Lib.hid hl6;have HG6:=Lib.hid (grown_trans (grown_drewN (grown_refl w (some b)) _) hg6);have c1:w6.cell? ⟨b,1,none⟩=some (.string x.kind):=hl6.cell 1;have f1:w6.frozen? ⟨b,1,none⟩=false:=hl6.free 1;have d1:∀o,(w6.alloc o).cell? ⟨b,1,none⟩=some (.string x.kind):=fun o=>(hl6.below (below_alloc w6 o)).cell 1;have g1:∀o,(w6.alloc o).frozen? ⟨b,1,none⟩=false:=fun o=>(hl6.below (below_alloc w6 o)).free 1;clear hl6 hg6)
  | (go_at_call 85;refine (start_z _ _ _ hS).mono ?_;rintro e w' ⟨rfl,rfl⟩))
 go_loopw [10] (fun iv wq=>∃k:Nat,iv=.int .i64 (k:Int)∧x.at_+k≤s.size∧Hid (lx.idLen (rest s x.at_)=k+lx.idLen (rest s (x.at_+k)))∧∃m,wq=w.drewN m) (fun iv _=>s.size-(intOf iv).toNat)
 case atStart=>exact ⟨0,rfl,hle,by show _=_;rw [Nat.zero_add];rfl,_,rfl⟩
 case round =>
  obtain ⟨k,rfl,hk,HE,m,rfl⟩:=hrel
  by_cases hbin:x.at_+k<s.size
  ·have JA:Hid (inB s (x.at_+(k:Int).toNat)=true):=by show _=_;simp [inB,hbin]
   have JB:Hid (bt s (x.at_+(k:Int).toNat)=(s[x.at_+k].toNat:Int)):=by show bt s (x.at_+k)=_;exact bt_in hbin
   have pinj:x.at_+(k:Int).toNat<s.size:=by simpa using hbin
   have HI:=Lib.hid (idLen_in hbin)
   cases hp:lx.idP s[x.at_+k]
   ·have JP:=part_dec hp
    have HK:Hid (lx.idLen (rest s x.at_)=k):=by
     have h1:=HE.out
     rw [HI.out,hp] at h1
     exact h1
    clear hp HI HE
    generalize s[x.at_+k]=d at JB JP
    go_wp2_with (first
     | (go_at_call 78;refine (peekOk_t _ _ (HL.out.drewN _).at (by omega) (by omega) (by omega) (by omega) JA).mono ?_;rintro e w' ⟨rfl,n,rfl⟩)
     | (go_at_call 80;refine (peek_t _ _ (HL.out.drewN _).at (by omega) pinj (by omega) JB).mono ?_;rintro e w' ⟨rfl,n,rfl⟩)
     | (go_at_call 79;refine (part_z _ _ _ JP).mono ?_;rintro e w' ⟨rfl,rfl⟩))
    have hvs0:∃vs,Hid (s.extract (x.at_+(0:Int).toNat) (min (x.at_+(k:Int).toNat) s.size)=vs):=⟨_,rfl⟩
    obtain ⟨vs,hvs⟩:=hvs0
    have hcl:=cut_list (za:=0) (ze:=(k:Int)) (a:=0) (e:=k) rfl rfl (Nat.zero_le _) (by omega) hvs
    have HVL:Hid (vs.data.toList=(rest s x.at_).take k):=hcl.1
    have hvz:vs.size≤20000:=by have:=hcl.2;omega
    clear hcl
    have HOW:Hid (lx.token np last (rest s x.at_)=if lx.keyword (((rest s x.at_).take k).map up) then .tok (((rest s x.at_).take k).map up) k [] 0 none else .tok lx.kIdent k ((rest s x.at_).take k) 0 none):=by
     show _=_
     rw [HW.out]
     unfold lx.word
     rw [if_pos hst,HK.out]
    obtain ⟨V,HV⟩:∃V:ByteArray,Hid (V=⟨(((rest s x.at_).take k).map up).toArray⟩):=⟨_,rfl⟩
    cases hkw:lx.keyword (((rest s x.at_).take k).map up)
    ·have HKW:Hid (lx.keyword V.data.toList=false):=by show _=_;rw [HV.out];exact hkw
     rw [hkw,if_neg Bool.false_ne_true] at HOW
     clear hkw
     go_wp2_with (first
      | (go_at_call 91;refine (slice_z _ _ vs (HL.out.drewN _).at (by omega) (by omega) (by omega) (by omega) (by omega) (by omega) hvs).mono ?_;rintro e w' ⟨rfl,n2,rfl⟩)
      | (go_at_call 75;refine (skipN_t k _ (HL.out.drewN _) hk (by rfl)).mono ?_;rintro e w6 ⟨rfl,hl6,hg6⟩;have HL6:=Lib.hid hl6;have HG6:=Lib.hid (grown_trans (grown_drewN (grown_refl w (some b)) _) hg6);clear hl6 hg6)
      | (go_at_call 50;refine (toUpper_any vs _ (by omega)).mono ?_;rw [HVL.out,←HV.out];rintro e w7 ⟨rfl,hb7⟩;have HL7:=Lib.hid (HL6.out.below hb7);have HG7:=Lib.hid (grown_trans HG6.out (grown_below hb7 _));have c1:w7.cell? ⟨b,1,none⟩=some (.string x.kind):=HL7.out.cell 1;have f1:w7.frozen? ⟨b,1,none⟩=false:=HL7.out.free 1;have c5:w7.cell? ⟨b,5,none⟩=some (.string x.str):=HL7.out.cell 5;have f5:w7.frozen? ⟨b,5,none⟩=false:=HL7.out.free 5;clear hb7)
      | (go_at_call 49;refine (kw_z _ _ _ HKW).mono ?_;rintro e w' ⟨rfl,rfl⟩))
     (first|go_end0|go_ret)
     rw [HOW.out]
     have hL:=HL7.out
     rw [St.own hx hb] at hL
     refine ⟨rfl, ?_,grown_set (grown_set HG7.out 1 _) 5 _⟩
     have e:(⟨((rest s x.at_).take k).toArray⟩:ByteArray)=vs:=by rw [←HVL.out]
     show LexS _ B b f s { x with kind:=⟨lx.kIdent.toArray⟩,at_:=x.at_+k,str:=⟨((rest s x.at_).take k).toArray⟩,base:=((0:Nat):Int),dot:=x.dot }
     rw [e]
     exact (hL.set 1 (.string ⟨lx.kIdent.toArray⟩) { x with kind:=⟨lx.kIdent.toArray⟩,at_:=x.at_+k,str:=⟨#[]⟩,base:=0 } rfl hL.le).set 5 (.string vs) _ rfl hL.le
    ·have HKW:Hid (lx.keyword V.data.toList=true):=by show _=_;rw [HV.out];exact hkw
     rw [hkw,if_pos rfl] at HOW
     clear hkw
     go_wp2_with (first
      | (go_at_call 91;refine (slice_z _ _ vs (HL.out.drewN _).at (by omega) (by omega) (by omega) (by omega) (by omega) (by omega) hvs).mono ?_;rintro e w' ⟨rfl,n2,rfl⟩)
      | (go_at_call 75;refine (skipN_t k _ (HL.out.drewN _) hk (by rfl)).mono ?_;rintro e w6 ⟨rfl,hl6,hg6⟩;have HL6:=Lib.hid hl6;have HG6:=Lib.hid (grown_trans (grown_drewN (grown_refl w (some b)) _) hg6);clear hl6 hg6)
      | (go_at_call 50;refine (toUpper_any vs _ (by omega)).mono ?_;rw [HVL.out,←HV.out];rintro e w7 ⟨rfl,hb7⟩;have HL7:=Lib.hid (HL6.out.below hb7);have HG7:=Lib.hid (grown_trans HG6.out (grown_below hb7 _));have c1:w7.cell? ⟨b,1,none⟩=some (.string x.kind):=HL7.out.cell 1;have f1:w7.frozen? ⟨b,1,none⟩=false:=HL7.out.free 1;have c5:w7.cell? ⟨b,5,none⟩=some (.string x.str):=HL7.out.cell 5;have f5:w7.frozen? ⟨b,5,none⟩=false:=HL7.out.free 5;clear hb7)
      | (go_at_call 49;refine (kw_z _ _ _ HKW).mono ?_;rintro e w' ⟨rfl,rfl⟩))
     (first|go_end0|go_ret)
     rw [HOW.out]
     have hL:=HL7.out
     rw [St.own hx hb] at hL
     refine ⟨rfl, ?_,grown_set HG7.out 1 _⟩
     show LexS _ B b f s { x with kind:=⟨(((rest s x.at_).take k).map up).toArray⟩,at_:=x.at_+k,str:=⟨#[]⟩,base:=((0:Nat):Int),dot:=x.dot }
     rw [←HV.out]
     exact hL.set 1 (.string V) _ rfl hL.le
   ·have JP:=part_dec hp
    have HE2:Hid (lx.idLen (rest s x.at_)=(k+1)+lx.idLen (rest s (x.at_+(k+1)))):=by
     have h1:=HE.out
     rw [HI.out,hp,if_pos rfl] at h1
     show _=_
     rw [h1,show x.at_+k+1=x.at_+(k+1) from rfl]
     omega
    clear hp HI HE
    generalize s[x.at_+k]=d at JB JP
    go_wp2_with (first
     | (go_at_call 78;refine (peekOk_t _ _ (HL.out.drewN _).at (by omega) (by omega) (by omega) (by omega) JA).mono ?_;rintro e w' ⟨rfl,n,rfl⟩)
     | (go_at_call 80;refine (peek_t _ _ (HL.out.drewN _).at (by omega) pinj (by omega) JB).mono ?_;rintro e w' ⟨rfl,n,rfl⟩)
     | (go_at_call 79;refine (part_z _ _ _ JP).mono ?_;rintro e w' ⟨rfl,rfl⟩))
    go_round
    case rel=>exact ⟨k+1,by go_num,hbin,HE2,_,rfl⟩
    case measure=>simp [intOf];omega
  ·have JA:Hid (inB s (x.at_+(k:Int).toNat)=false):=by show _=_;simp [inB];omega
   have HK:Hid (lx.idLen (rest s x.at_)=k):=by
    have h1:=HE.out
    rw [idLen_out hbin] at h1
    exact h1
   clear HE
   go_wp2_with (go_at_call 78;refine (peekOk_t _ _ (HL.out.drewN _).at (by omega) (by omega) (by omega) (by omega) JA).mono ?_;rintro e w' ⟨rfl,n,rfl⟩)
   have hvs0:∃vs,Hid (s.extract (x.at_+(0:Int).toNat) (min (x.at_+(k:Int).toNat) s.size)=vs):=⟨_,rfl⟩
   obtain ⟨vs,hvs⟩:=hvs0
   have hcl:=cut_list (za:=0) (ze:=(k:Int)) (a:=0) (e:=k) rfl rfl (Nat.zero_le _) (by omega) hvs
   have HVL:Hid (vs.data.toList=(rest s x.at_).take k):=hcl.1
   have hvz:vs.size≤20000:=by have:=hcl.2;omega
   clear hcl
   have HOW:Hid (lx.token np last (rest s x.at_)=if lx.keyword (((rest s x.at_).take k).map up) then .tok (((rest s x.at_).take k).map up) k [] 0 none else .tok lx.kIdent k ((rest s x.at_).take k) 0 none):=by
    show _=_
    rw [HW.out]
    unfold lx.word
    rw [if_pos hst,HK.out]
   obtain ⟨V,HV⟩:∃V:ByteArray,Hid (V=⟨(((rest s x.at_).take k).map up).toArray⟩):=⟨_,rfl⟩
   cases hkw:lx.keyword (((rest s x.at_).take k).map up)
   ·have HKW:Hid (lx.keyword V.data.toList=false):=by show _=_;rw [HV.out];exact hkw
    rw [hkw,if_neg Bool.false_ne_true] at HOW
    clear hkw
    go_wp2_with (first
     | (go_at_call 91;refine (slice_z _ _ vs (HL.out.drewN _).at (by omega) (by omega) (by omega) (by omega) (by omega) (by omega) hvs).mono ?_;rintro e w' ⟨rfl,n2,rfl⟩)
     | (go_at_call 75;refine (skipN_t k _ (HL.out.drewN _) hk (by rfl)).mono ?_;rintro e w6 ⟨rfl,hl6,hg6⟩;have HL6:=Lib.hid hl6;have HG6:=Lib.hid (grown_trans (grown_drewN (grown_refl w (some b)) _) hg6);clear hl6 hg6)
     | (go_at_call 50;refine (toUpper_any vs _ (by omega)).mono ?_;rw [HVL.out,←HV.out];rintro e w7 ⟨rfl,hb7⟩;have HL7:=Lib.hid (HL6.out.below hb7);have HG7:=Lib.hid (grown_trans HG6.out (grown_below hb7 _));have c1:w7.cell? ⟨b,1,none⟩=some (.string x.kind):=HL7.out.cell 1;have f1:w7.frozen? ⟨b,1,none⟩=false:=HL7.out.free 1;have c5:w7.cell? ⟨b,5,none⟩=some (.string x.str):=HL7.out.cell 5;have f5:w7.frozen? ⟨b,5,none⟩=false:=HL7.out.free 5;clear hb7)
     | (go_at_call 49;refine (kw_z _ _ _ HKW).mono ?_;rintro e w' ⟨rfl,rfl⟩))
    (first|go_end0|go_ret)
    rw [HOW.out]
    have hL:=HL7.out
    rw [St.own hx hb] at hL
    refine ⟨rfl, ?_,grown_set (grown_set HG7.out 1 _) 5 _⟩
    have e:(⟨((rest s x.at_).take k).toArray⟩:ByteArray)=vs:=by rw [←HVL.out]
    show LexS _ B b f s { x with kind:=⟨lx.kIdent.toArray⟩,at_:=x.at_+k,str:=⟨((rest s x.at_).take k).toArray⟩,base:=((0:Nat):Int),dot:=x.dot }
    rw [e]
    exact (hL.set 1 (.string ⟨lx.kIdent.toArray⟩) { x with kind:=⟨lx.kIdent.toArray⟩,at_:=x.at_+k,str:=⟨#[]⟩,base:=0 } rfl hL.le).set 5 (.string vs) _ rfl hL.le
   ·have HKW:Hid (lx.keyword V.data.toList=true):=by show _=_;rw [HV.out];exact hkw
    rw [hkw,if_pos rfl] at HOW
    clear hkw
    go_wp2_with (first
     | (go_at_call 91;refine (slice_z _ _ vs (HL.out.drewN _).at (by omega) (by omega) (by omega) (by omega) (by omega) (by omega) hvs).mono ?_;rintro e w' ⟨rfl,n2,rfl⟩)
     | (go_at_call 75;refine (skipN_t k _ (HL.out.drewN _) hk (by rfl)).mono ?_;rintro e w6 ⟨rfl,hl6,hg6⟩;have HL6:=Lib.hid hl6;have HG6:=Lib.hid (grown_trans (grown_drewN (grown_refl w (some b)) _) hg6);clear hl6 hg6)
     | (go_at_call 50;refine (toUpper_any vs _ (by omega)).mono ?_;rw [HVL.out,←HV.out];rintro e w7 ⟨rfl,hb7⟩;have HL7:=Lib.hid (HL6.out.below hb7);have HG7:=Lib.hid (grown_trans HG6.out (grown_below hb7 _));have c1:w7.cell? ⟨b,1,none⟩=some (.string x.kind):=HL7.out.cell 1;have f1:w7.frozen? ⟨b,1,none⟩=false:=HL7.out.free 1;have c5:w7.cell? ⟨b,5,none⟩=some (.string x.str):=HL7.out.cell 5;have f5:w7.frozen? ⟨b,5,none⟩=false:=HL7.out.free 5;clear hb7)
     | (go_at_call 49;refine (kw_z _ _ _ HKW).mono ?_;rintro e w' ⟨rfl,rfl⟩))
    (first|go_end0|go_ret)
    rw [HOW.out]
    have hL:=HL7.out
    rw [St.own hx hb] at hL
    refine ⟨rfl, ?_,grown_set HG7.out 1 _⟩
    show LexS _ B b f s { x with kind:=⟨(((rest s x.at_).take k).map up).toArray⟩,at_:=x.at_+k,str:=⟨#[]⟩,base:=((0:Nat):Int),dot:=x.dot }
    rw [←HV.out]
    exact hL.set 1 (.string V) _ rfl hL.le
set_option maxHeartbeats 4000000 in
set_option maxRecDepth 100000 in
theorem tok_other_np {w:World} {B b f:Nat} {s:ByteArray} {x:St} (last:lx.Bs) (h:LexS w B b f s x) (hx:x.str=⟨#[]⟩) (hb:x.base=0) (hin:x.at_<s.size) (hw:lx.token true last (rest s x.at_)=lx.word true (rest s x.at_)) (hst:lx.isIdS (lx.nb (rest s x.at_) 0)=false) (d40:¬((s[x.at_].toNat:Int)=40)) (d41:¬((s[x.at_].toNat:Int)=41)) (d123:¬((s[x.at_].toNat:Int)=123)) (d125:¬((s[x.at_].toNat:Int)=125)) (d59:¬((s[x.at_].toNat:Int)=59)) (d44:¬((s[x.at_].toNat:Int)=44)) (d91:¬((s[x.at_].toNat:Int)=91)) (d93:¬((s[x.at_].toNat:Int)=93)) (d126:¬((s[x.at_].toNat:Int)=126)) (d42:¬((s[x.at_].toNat:Int)=42)) (d47:¬((s[x.at_].toNat:Int)=47)) (d38:¬((s[x.at_].toNat:Int)=38)) (d94:¬((s[x.at_].toNat:Int)=94)) (d37:¬((s[x.at_].toNat:Int)=37)) (d58:¬((s[x.at_].toNat:Int)=58)) (d63:¬((s[x.at_].toNat:Int)=63)) (d92:¬((s[x.at_].toNat:Int)=92)) (d36:¬((s[x.at_].toNat:Int)=36)) (d46:¬((s[x.at_].toNat:Int)=46)) (d60:¬((s[x.at_].toNat:Int)=60)) (d62:¬((s[x.at_].toNat:Int)=62)) (d43:¬((s[x.at_].toNat:Int)=43)) (d45:¬((s[x.at_].toNat:Int)=45)) (d61:¬((s[x.at_].toNat:Int)=61)) (d124:¬((s[x.at_].toNat:Int)=124)) (d33:¬((s[x.at_].toNat:Int)=33)) (d64:¬((s[x.at_].toNat:Int)=64)) (d96:¬((s[x.at_].toNat:Int)=96)) (d48:¬((s[x.at_].toNat:Int)=48)) (d49:¬((s[x.at_].toNat:Int)=49)) (d50:¬((s[x.at_].toNat:Int)=50)) (d51:¬((s[x.at_].toNat:Int)=51)) (d52:¬((s[x.at_].toNat:Int)=52)) (d53:¬((s[x.at_].toNat:Int)=53)) (d54:¬((s[x.at_].toNat:Int)=54)) (d55:¬((s[x.at_].toNat:Int)=55)) (d56:¬((s[x.at_].toNat:Int)=56)) (d57:¬((s[x.at_].toNat:Int)=57)) (d66:¬((s[x.at_].toNat:Int)=66)) (d98:¬((s[x.at_].toNat:Int)=98)) (d82:¬((s[x.at_].toNat:Int)=82)) (d114:¬((s[x.at_].toNat:Int)=114)) (d34:¬((s[x.at_].toNat:Int)=34)) (d39:¬((s[x.at_].toNat:Int)=39)) :
  Calls Tryz.prog 57 #[.pointer (some ⟨b,0,none⟩),.bool true] w (TokPost B b f s x (lx.token true last (rest s x.at_)) w):=by
 have HL:=Lib.hid h
 have SZ:=h.sz
 have hle:=h.le
 have hI:(!(inB s x.at_))=false:=by simp [inB,hin]
 have J1:Hid (bt s (x.at_+(0:Int).toNat)=(s[x.at_].toNat:Int)):=by show bt s (x.at_+0)=_;rw [Nat.add_zero,bt_in hin]
 have J9:Hid (bt s x.at_=(s[x.at_].toNat:Int)):=by show _=_;rw [bt_in hin]
 have pin0:x.at_+(0:Int).toNat<s.size:=by simpa using hin
 have hnb0:lx.nb (rest s x.at_) 0=s[x.at_].toNat:=by
  have e:=nb_in s x.at_ 0 (by omega)
  rw [Nat.add_zero,bt_in hin] at e
  omega
 have HW:=Lib.hid hw
 have hS:Hid (decide ((97≤(s[x.at_].toNat:Int)∧(s[x.at_].toNat:Int)≤122)∨(65≤(s[x.at_].toNat:Int)∧(s[x.at_].toNat:Int)≤90)∨(s[x.at_].toNat:Int)=95)=lx.isIdS (lx.nb (rest s x.at_) 0)):=by
  show _=_
  rw [hnb0,Bool.eq_iff_iff]
  simp [lx.isIdS]
  omega
 clear hnb0 hw
 rw [hst] at hS
 have HOW:Hid (lx.token true last (rest s x.at_)=.bad 1):=by
  show _=_
  rw [HW.out]
  unfold lx.word
  rw [if_neg (by rw [hst];exact Bool.false_ne_true)]
  rfl
 clear h
 generalize s[x.at_]=c at *
 go_enter Tryz.func57,Tryz.ntmps57
 go_wp2_with (first
  | (go_at_call 72;refine (eof_any HL.out.at (by omega) (by omega)).mono ?_;simp only [hI];rintro e w' ⟨rfl,n,rfl⟩)
  | (go_at_call 80;refine (peek_t _ _ (HL.out.drewN _).at (by omega) pin0 (by omega) J1).mono ?_;rintro e w' ⟨rfl,n,rfl⟩)
  | (go_at_call 81;refine (skip_t _ (HL.out.drewN _) hin J9).mono ?_;rintro e w6 ⟨rfl,hl6,hg6⟩;have HL6:=Lib.hid hl6;have HG6:=Lib.hid (grown_trans (grown_drewN (grown_refl w (some b)) _) hg6);have c1:w6.cell? ⟨b,1,none⟩=some (.string x.kind):=hl6.cell 1;have f1:w6.frozen? ⟨b,1,none⟩=false:=hl6.free 1;have d1:∀o,(w6.alloc o).cell? ⟨b,1,none⟩=some (.string x.kind):=fun o=>(hl6.below (below_alloc w6 o)).cell 1;have g1:∀o,(w6.alloc o).frozen? ⟨b,1,none⟩=false:=fun o=>(hl6.below (below_alloc w6 o)).free 1;clear hl6 hg6)
  | (go_at_call 85;refine (start_z _ _ _ hS).mono ?_;rintro e w' ⟨rfl,rfl⟩)
  | (go_at_call 92;refine (errorf_any (HL.out.drewN _) _).mono ?_;rintro e w6 ⟨m,rfl,hm⟩;have HM:=Lib.hid hm;clear hm))
 (first|go_end0|go_ret)
 rw [HOW.out]
 refine ⟨{ x with kind:=⟨lx.kBad.toArray⟩,at_:=x.at_+1 },⟨rfl,rfl,rfl,rfl,rfl,rfl,rfl,rfl,rfl⟩,rfl, ?_,grown_set HG6.out 1 _⟩
 exact HL6.out.set 1 (.string ⟨lx.kBad.toArray⟩) _ rfl HL6.out.le
set_option maxHeartbeats 4000000 in
set_option maxRecDepth 100000 in
theorem tok_other_p {w:World} {B b f:Nat} {s:ByteArray} {x:St} (last:lx.Bs) (h:LexS w B b f s x) (hx:x.str=⟨#[]⟩) (hb:x.base=0) (hin:x.at_<s.size) (hw:lx.token false last (rest s x.at_)=lx.word false (rest s x.at_)) (hst:lx.isIdS (lx.nb (rest s x.at_) 0)=false) (d40:¬((s[x.at_].toNat:Int)=40)) (d41:¬((s[x.at_].toNat:Int)=41)) (d123:¬((s[x.at_].toNat:Int)=123)) (d125:¬((s[x.at_].toNat:Int)=125)) (d59:¬((s[x.at_].toNat:Int)=59)) (d44:¬((s[x.at_].toNat:Int)=44)) (d91:¬((s[x.at_].toNat:Int)=91)) (d93:¬((s[x.at_].toNat:Int)=93)) (d126:¬((s[x.at_].toNat:Int)=126)) (d42:¬((s[x.at_].toNat:Int)=42)) (d47:¬((s[x.at_].toNat:Int)=47)) (d38:¬((s[x.at_].toNat:Int)=38)) (d94:¬((s[x.at_].toNat:Int)=94)) (d37:¬((s[x.at_].toNat:Int)=37)) (d58:¬((s[x.at_].toNat:Int)=58)) (d63:¬((s[x.at_].toNat:Int)=63)) (d92:¬((s[x.at_].toNat:Int)=92)) (d36:¬((s[x.at_].toNat:Int)=36)) (d46:¬((s[x.at_].toNat:Int)=46)) (d60:¬((s[x.at_].toNat:Int)=60)) (d62:¬((s[x.at_].toNat:Int)=62)) (d43:¬((s[x.at_].toNat:Int)=43)) (d45:¬((s[x.at_].toNat:Int)=45)) (d61:¬((s[x.at_].toNat:Int)=61)) (d124:¬((s[x.at_].toNat:Int)=124)) (d33:¬((s[x.at_].toNat:Int)=33)) (d64:¬((s[x.at_].toNat:Int)=64)) (d96:¬((s[x.at_].toNat:Int)=96)) (d48:¬((s[x.at_].toNat:Int)=48)) (d49:¬((s[x.at_].toNat:Int)=49)) (d50:¬((s[x.at_].toNat:Int)=50)) (d51:¬((s[x.at_].toNat:Int)=51)) (d52:¬((s[x.at_].toNat:Int)=52)) (d53:¬((s[x.at_].toNat:Int)=53)) (d54:¬((s[x.at_].toNat:Int)=54)) (d55:¬((s[x.at_].toNat:Int)=55)) (d56:¬((s[x.at_].toNat:Int)=56)) (d57:¬((s[x.at_].toNat:Int)=57)) (d66:¬((s[x.at_].toNat:Int)=66)) (d98:¬((s[x.at_].toNat:Int)=98)) (d82:¬((s[x.at_].toNat:Int)=82)) (d114:¬((s[x.at_].toNat:Int)=114)) (d34:¬((s[x.at_].toNat:Int)=34)) (d39:¬((s[x.at_].toNat:Int)=39)) :
  Calls Tryz.prog 57 #[.pointer (some ⟨b,0,none⟩),.bool false] w (TokPost B b f s x (lx.token false last (rest s x.at_)) w):=by
 have HL:=Lib.hid h
 have SZ:=h.sz
 have hle:=h.le
 have hI:(!(inB s x.at_))=false:=by simp [inB,hin]
 have J1:Hid (bt s (x.at_+(0:Int).toNat)=(s[x.at_].toNat:Int)):=by show bt s (x.at_+0)=_;rw [Nat.add_zero,bt_in hin]
 have J9:Hid (bt s x.at_=(s[x.at_].toNat:Int)):=by show _=_;rw [bt_in hin]
 have pin0:x.at_+(0:Int).toNat<s.size:=by simpa using hin
 have hnb0:lx.nb (rest s x.at_) 0=s[x.at_].toNat:=by
  have e:=nb_in s x.at_ 0 (by omega)
  rw [Nat.add_zero,bt_in hin] at e
  omega
 have HW:=Lib.hid hw
 have hS:Hid (decide ((97≤(s[x.at_].toNat:Int)∧(s[x.at_].toNat:Int)≤122)∨(65≤(s[x.at_].toNat:Int)∧(s[x.at_].toNat:Int)≤90)∨(s[x.at_].toNat:Int)=95)=lx.isIdS (lx.nb (rest s x.at_) 0)):=by
  show _=_
  rw [hnb0,Bool.eq_iff_iff]
  simp [lx.isIdS]
  omega
 clear hnb0 hw
 rw [hst] at hS
 have HOW:Hid (lx.token false last (rest s x.at_)=.fault):=by
  show _=_
  rw [HW.out]
  unfold lx.word
  rw [if_neg (by rw [hst];exact Bool.false_ne_true)]
  rfl
 clear h
 generalize s[x.at_]=c at *
 go_enter Tryz.func57,Tryz.ntmps57
 go_wp2_with (first
  | (go_at_call 72;refine (eof_any HL.out.at (by omega) (by omega)).mono ?_;simp only [hI];rintro e w' ⟨rfl,n,rfl⟩)
  | (go_at_call 80;refine (peek_t _ _ (HL.out.drewN _).at (by omega) pin0 (by omega) J1).mono ?_;rintro e w' ⟨rfl,n,rfl⟩)
  | (go_at_call 81;refine (skip_t _ (HL.out.drewN _) hin J9).mono ?_;rintro e w6 ⟨rfl,hl6,hg6⟩;have HL6:=Lib.hid hl6;have HG6:=Lib.hid (grown_trans (grown_drewN (grown_refl w (some b)) _) hg6);have c1:w6.cell? ⟨b,1,none⟩=some (.string x.kind):=hl6.cell 1;have f1:w6.frozen? ⟨b,1,none⟩=false:=hl6.free 1;have d1:∀o,(w6.alloc o).cell? ⟨b,1,none⟩=some (.string x.kind):=fun o=>(hl6.below (below_alloc w6 o)).cell 1;have g1:∀o,(w6.alloc o).frozen? ⟨b,1,none⟩=false:=fun o=>(hl6.below (below_alloc w6 o)).free 1;clear hl6 hg6)
  | (go_at_call 85;refine (start_z _ _ _ hS).mono ?_;rintro e w' ⟨rfl,rfl⟩)
  | (go_at_call 92;refine (errorf_any (HL.out.drewN _) _).mono ?_;rintro e w6 ⟨m,rfl,hm⟩;have HM:=Lib.hid hm;clear hm))
 rw [HOW.out]
 exact ⟨rfl,Faults.trans (Grown2.of (grown_drewN (grown_refl w (some b)) _)) ⟨m,rfl,HM.out⟩⟩
end Go.Proofs.YtaamolahbkgofaaGreatDoor.lex
