/-
  Rounds of consumeQuotedContent's loop: escapes of digits. Conditions: of each, in its statement. (Written by wip/mkesc.py.).
-/
import Derived.Test.YtaamolahbkgofaaGreatDoorK16
set_option linter.unusedVariables false
namespace Go.Proofs.YtaamolahbkgofaaGreatDoor.lex
open Go.RowKit mem lines
section
variable {w wr:World} {B b f:Nat} {s q nm:ByteArray} {x:St} {Q:lx.Bs} {raw uni idn np:Bool} {o:lx.QOut} {k:Nat} {v:Value} {l:lx.Bs} {err:Bool} {u:Nat→Value}
set_option maxHeartbeats 4000000 in
set_option maxRecDepth 1000000 in
theorem quo_e48_np (HC:Hid (QC w B b f s x Q q false uni idn true o k v l err wr)) (SZ:s.size≤20000) (hq3:q.size≤3) (hin2:x.at_+(k+1)<s.size)
  (hm:Hid (¬(rest s (x.at_+k)).take q.size=Q)) (hc:(s[x.at_+k].toNat:Int)=92) (hd:s[x.at_+(k+1)]=48)
  (hg:Hid (((rest s (x.at_+(k+2))).take 2).all lx.oct=false)) :
  QRound w B b f s x Q q nm false uni idn true o (QFr u b q false uni nm true (k:Int) v err) wr:=by
 have hin:x.at_+k<s.size:=by omega
 have HL:=Lib.hid HC.out.i.held.lex
 have J0:Hid (inB s (x.at_+(k:Int).toNat)=true):=by show _=_;simp [inB,hin]
 have J1:Hid (bt s (x.at_+(k:Int).toNat)=(s[x.at_+k].toNat:Int)):=by show bt s (x.at_+k)=_;exact bt_in hin
 obtain ⟨vs,hvs⟩:∃vs,Hid (s.extract (x.at_+(k:Int).toNat) (min (x.at_+((k:Int)+(q.size:Int)).toNat) s.size)=vs):=⟨_,rfl⟩
 have pin:x.at_+(k:Int).toNat<s.size:=by simpa using hin
 have hrc:=rest_cons s (x.at_+k) hin
 have hll:=look_list hin hvs
 have hcv:(vs.toList==q.toList)=false:=by
  rw [hll,HC.out.q]
  exact beq_eq_false_iff_ne.2 hm.out
 have hqs:q.size=Q.length:=by rw [←HC.out.q,toList_length]
 have hm':=hm.out
 rw [hqs,hrc] at hm'
 have HM:=Lib.hid hm'
 have HM0:Hid (¬(rest s (x.at_+k)).take Q.length=Q):=by rw [←hqs];exact hm.out
 have HQS:=Lib.hid hqs
 have HRC:=Lib.hid hrc
 have HR:=Lib.hid HC.out.i.row
 have hsz:=HC.out.i.held.grown.size
 have hlk:=HC.out.i.len
 clear hll hrc hm hm' hqs
 have J2:Hid (inB s (x.at_+((k:Int)+1).toNat)=true):=by
  show _=_
  have e:((k:Int)+1).toNat=k+1:=by omega
  rw [e];simp [inB];omega
 have J3:Hid (bt s (x.at_+((k:Int)+1).toNat)=(s[x.at_+(k+1)].toNat:Int)):=by
  have e:((k:Int)+1).toNat=k+1:=by omega
  show _=_
  rw [e];exact bt_in hin2
 have pin2:x.at_+((k:Int)+1).toNat<s.size:=by omega
 have hrc2:=rest_cons s (x.at_+(k+1)) hin2
 have hHRC:=HRC.out
 rw [show x.at_+k+1=x.at_+(k+1) from by omega,hrc2] at hHRC
 have HRC2:=Lib.hid hHRC
 clear hHRC hrc2 HRC
 rw [hd] at J3 HRC2
 have hcut:x.at_+(k+1)+1=x.at_+(k+2):=by omega
 rw [hcut] at HRC2
 clear hcut
 have HS:Hid (lx.qStep Q false uni idn true k (rest s (x.at_+k)) l err=.more 2 l true):=by
  show _=_
  rw [HRC2.out]
  unfold lx.qStep
  simp only
  rw [if_neg (by rw [←HRC2.out];exact HM0.out),if_pos (by omega)]
  exact escape_np hg.out
 obtain ⟨vp,hvp⟩:∃vp,Hid (s.extract (x.at_+((k:Int)+1).toNat) (min (x.at_+((k:Int)+2+2).toNat) s.size)=vp):=⟨_,rfl⟩
 have hvp2:Hid (s.extract (x.at_+((k:Int)+2-1).toNat) (min (x.at_+((k:Int)+2+2).toNat) s.size)=vp):=by
  have e:((k:Int)+2-1).toNat=((k:Int)+1).toNat:=by omega
  show _=_
  rw [e];exact hvp.out
 have hvp3:Hid (s.extract (x.at_+((k:Int)+1+1-1).toNat) (min (x.at_+((k:Int)+1+1+2).toNat) s.size)=vp):=by
  have e:((k:Int)+1+1-1).toNat=((k:Int)+1).toNat:=by omega
  have e2:((k:Int)+1+1+2).toNat=((k:Int)+2+2).toNat:=by omega
  show _=_
  rw [e,e2];exact hvp.out
 have hcl:=cut_list (a:=k+1) (e:=k+4) (by omega) (by omega) (by omega) (by omega) hvp
 have hvz:vp.size≤3:=by have:=hcl.2;omega
 have hrc3:=rest_cons s (x.at_+(k+1)) hin2
 rw [hd,show x.at_+(k+1)+1=x.at_+(k+2) by omega] at hrc3
 have HVL:=Lib.hid (show vp.data.toList=48::(rest s (x.at_+(k+2))).take 2 by have:=hcl.1;rw [show k+4-(k+1)=3 by omega,hrc3] at this;exact this)
 have HVB:Hid (∀j,j≤vp.size→(vp.data.toList.take j).all (digB 8)=true→lx.digits 8 0 (vp.data.toList.take j)≤255):=by
  intro j hj ha
  rw [HVL.out] at ha ⊢
  cases j with
  | zero=>simp [lx.digits]
  | succ j =>
   rw [List.take_succ_cons] at ha ⊢
   rw [List.all_cons,Bool.and_eq_true] at ha
   have h1:=digits_lt 8 (.inr rfl) _ (lx.hexVal 48) 4 ha.2 (by decide)
   have h2:(((rest s (x.at_+(k+2))).take 2).take j).length≤2:=by rw [List.length_take,List.length_take];omega
   have h3:(8:Nat) ^ (((rest s (x.at_+(k+2))).take 2).take j).length≤8 ^ 2:=Nat.pow_le_pow_right (by omega) h2
   have e:lx.digits 8 0 (48::((rest s (x.at_+(k+2))).take 2).take j)=lx.digits 8 (lx.hexVal 48) (((rest s (x.at_+(k+2))).take 2).take j):=rfl
   rw [e]
   omega
 have HGD:=Lib.hid (show vp.data.toList.all (digB 8)=((rest s (x.at_+(k+2))).take 2).all lx.oct by rw [HVL.out];rfl)
 clear hcl hrc3
 have HG1:Hid (vp.data.toList.all (digB 8)=false):=HGD.out.trans hg.out
 have hvn:vp.size≠0:=by
  intro h0
  have:vp.data.toList=[]:=List.length_eq_zero_iff.1 (by rw [size_list];exact h0)
  have h1:=HG1.out
  rw [this] at h1
  cases h1
 have HT:∀n,Hid (TabsAt (wr.drewN n)):=fun n=>(HL.out.drewN n).tabs.at
 clear HM HM0 HRC2
 rw [hc] at J1
 unfold QRound QFr
 conv=>arg 2;whnf
 go_wp2_with (first
  | (go_at_call 78;refine (peekOk_z _ _ (by first|exact HL.out.at|exact (HL.out.drewN _).at) (by omega) (by omega) (by omega) (by omega) (by first|exact J0|exact J2)).mono ?_;rintro e w' ⟨rfl,n,rfl⟩)
  | (go_at_call 91;refine (slice_z _ _ vs (by first|exact HL.out.at|exact (HL.out.drewN _).at) (by omega) (by omega) (by omega) (by omega) (by omega) (by omega) hvs).mono ?_;rintro e w' ⟨rfl,n2,rfl⟩)
  | (go_at_call 80;refine (peek_z _ _ (by first|exact HL.out.at|exact (HL.out.drewN _).at) (by omega) (by first|exact pin|exact pin2) (by omega) (by first|exact J1|exact J3)).mono ?_;rintro e w' ⟨rfl,n3,rfl⟩))
 go_loopw [16,393] (fun ev jv wq=>∃(j:Nat) (e':Bool),jv=.int .i64 (j:Int)∧ev=.bool e'∧j≤2∧Hid (e'=(err||!(((rest s (x.at_+(k+2))).take j).all lx.oct)))∧∃m,wq=wr.drewN m) (fun _ jv _=>2-(intOf jv).toNat)
 case atStart=>exact ⟨0,err,rfl,rfl,by omega,by show _=_;simp,_,rfl⟩
 case round =>
  obtain ⟨j,e',rfl,rfl,hj,HE,m,rfl⟩:=hrel
  by_cases hj2:j<2
  ·by_cases hbin:x.at_+(k+2)+j<s.size
   ·have JA:Hid (inB s (x.at_+((k:Int)+2+(j:Int)).toNat)=true):=by
     show _=_
     have e:((k:Int)+2+(j:Int)).toNat=k+2+j:=by omega
     rw [e];simp [inB];omega
    have JB:Hid (bt s (x.at_+((k:Int)+2+(j:Int)).toNat)=(s[x.at_+(k+2)+j].toNat:Int)):=by
     have e:x.at_+((k:Int)+2+(j:Int)).toNat=x.at_+(k+2)+j:=by omega
     show _=_
     rw [e];exact bt_in hbin
    have pinj:x.at_+((k:Int)+2+(j:Int)).toNat<s.size:=by omega
    have HN:=Lib.hid (all_next (good:=lx.oct) hbin)
    cases hgood:lx.oct s[x.at_+(k+2)+j]
    ·have JH:=Lib.hid hgood
     have HE2:Hid (true=(err||!(((rest s (x.at_+(k+2))).take (j+1)).all lx.oct))):=by
      show _=_
      rw [HN.out,hgood];simp
     clear hgood HN
     generalize s[x.at_+(k+2)+j]=c at *
     go_wp2_with (first
      | (go_at_call 78;refine (peekOk_z _ _ (HL.out.drewN _).at (by omega) (by omega) (by omega) (by omega) JA).mono ?_;rintro e w' ⟨rfl,n4,rfl⟩)
      | (go_at_call 80;refine (peek_z _ _ (HL.out.drewN _).at (by omega) pinj (by omega) JB).mono ?_;rintro e w' ⟨rfl,n5,rfl⟩)
      | (go_at_call 113;refine (oct_named c _ _ JH).mono ?_;rintro e w' ⟨rfl,rfl⟩))
     go_round
     case rel=>exact ⟨j+1,true,by go_num,rfl,by omega,HE2,_,rfl⟩
     case measure=>simp [intOf];omega
    ·have JH:=Lib.hid hgood
     have HE2:Hid (e'=(err||!(((rest s (x.at_+(k+2))).take (j+1)).all lx.oct))):=by
      show _=_
      rw [HN.out,hgood,Bool.and_true];exact HE.out
     clear hgood HN
     generalize s[x.at_+(k+2)+j]=c at *
     go_wp2_with (first
      | (go_at_call 78;refine (peekOk_z _ _ (HL.out.drewN _).at (by omega) (by omega) (by omega) (by omega) JA).mono ?_;rintro e w' ⟨rfl,n4,rfl⟩)
      | (go_at_call 80;refine (peek_z _ _ (HL.out.drewN _).at (by omega) pinj (by omega) JB).mono ?_;rintro e w' ⟨rfl,n5,rfl⟩)
      | (go_at_call 113;refine (oct_named c _ _ JH).mono ?_;rintro e w' ⟨rfl,rfl⟩))
     go_round
     case rel=>exact ⟨j+1,e',by go_num,rfl,by omega,HE2,_,rfl⟩
     case measure=>simp [intOf];omega
   ·have JA:Hid (inB s (x.at_+((k:Int)+2+(j:Int)).toNat)=false):=by
     show _=_
     have e:((k:Int)+2+(j:Int)).toNat=k+2+j:=by omega
     rw [e];simp [inB];omega
    have HE2:Hid (true=(err||!(((rest s (x.at_+(k+2))).take (j+1)).all lx.oct))):=by
     show _=_
     rw [all_end (j:=j+1) (m:=2) (by omega) (by omega),hg.out];simp
    go_wp2_with (go_at_call 78;refine (peekOk_z _ _ (HL.out.drewN _).at (by omega) (by omega) (by omega) (by omega) JA).mono ?_;rintro e w' ⟨rfl,n4,rfl⟩)
    go_round
    case rel=>exact ⟨j+1,true,by go_num,rfl,by omega,HE2,_,rfl⟩
    case measure=>simp [intOf];omega
  ·have hj3:j=2:=by omega
   subst hj3
   have he:e'=true:=by rw [HE.out,hg.out];simp
   subst he
   go_wp2_with (first
    | (go_at_call 91;refine (slice_z _ _ vp (HL.out.drewN _).at (by omega) (by omega) (by omega) (by omega) (by omega) (by omega) (by first|exact hvp|exact hvp2|exact hvp3)).mono ?_;rintro e w' ⟨rfl,n4,rfl⟩)
    | (go_at_call 111;refine (pu_bad_8_8 vp hvn (by omega) HVB HG1 _ (HT _)).mono ?_;rintro e w5 ⟨⟨mq,rfl⟩,hb5⟩;have HB5:=Lib.hid hb5;clear hb5))
   refine ⟨⟨k+2,v,l,true,⟨rfl,rfl,rfl,rfl,rfl,rfl,rfl,rfl,rfl,rfl,rfl,rfl,rfl⟩,qi_skip HC.out HS.out (by omega) (by omega) ((below_drewN (Below.refl _ _) _).trans HB5.out)⟩, ?_⟩
   exact qmu_lt (k:=k) (j:=k+2) rfl rfl (by omega) (by omega)
set_option maxHeartbeats 4000000 in
set_option maxRecDepth 1000000 in
theorem quo_e49_np (HC:Hid (QC w B b f s x Q q false uni idn true o k v l err wr)) (SZ:s.size≤20000) (hq3:q.size≤3) (hin2:x.at_+(k+1)<s.size)
  (hm:Hid (¬(rest s (x.at_+k)).take q.size=Q)) (hc:(s[x.at_+k].toNat:Int)=92) (hd:s[x.at_+(k+1)]=49)
  (hg:Hid (((rest s (x.at_+(k+2))).take 2).all lx.oct=false)) :
  QRound w B b f s x Q q nm false uni idn true o (QFr u b q false uni nm true (k:Int) v err) wr:=by
 have hin:x.at_+k<s.size:=by omega
 have HL:=Lib.hid HC.out.i.held.lex
 have J0:Hid (inB s (x.at_+(k:Int).toNat)=true):=by show _=_;simp [inB,hin]
 have J1:Hid (bt s (x.at_+(k:Int).toNat)=(s[x.at_+k].toNat:Int)):=by show bt s (x.at_+k)=_;exact bt_in hin
 obtain ⟨vs,hvs⟩:∃vs,Hid (s.extract (x.at_+(k:Int).toNat) (min (x.at_+((k:Int)+(q.size:Int)).toNat) s.size)=vs):=⟨_,rfl⟩
 have pin:x.at_+(k:Int).toNat<s.size:=by simpa using hin
 have hrc:=rest_cons s (x.at_+k) hin
 have hll:=look_list hin hvs
 have hcv:(vs.toList==q.toList)=false:=by
  rw [hll,HC.out.q]
  exact beq_eq_false_iff_ne.2 hm.out
 have hqs:q.size=Q.length:=by rw [←HC.out.q,toList_length]
 have hm':=hm.out
 rw [hqs,hrc] at hm'
 have HM:=Lib.hid hm'
 have HM0:Hid (¬(rest s (x.at_+k)).take Q.length=Q):=by rw [←hqs];exact hm.out
 have HQS:=Lib.hid hqs
 have HRC:=Lib.hid hrc
 have HR:=Lib.hid HC.out.i.row
 have hsz:=HC.out.i.held.grown.size
 have hlk:=HC.out.i.len
 clear hll hrc hm hm' hqs
 have J2:Hid (inB s (x.at_+((k:Int)+1).toNat)=true):=by
  show _=_
  have e:((k:Int)+1).toNat=k+1:=by omega
  rw [e];simp [inB];omega
 have J3:Hid (bt s (x.at_+((k:Int)+1).toNat)=(s[x.at_+(k+1)].toNat:Int)):=by
  have e:((k:Int)+1).toNat=k+1:=by omega
  show _=_
  rw [e];exact bt_in hin2
 have pin2:x.at_+((k:Int)+1).toNat<s.size:=by omega
 have hrc2:=rest_cons s (x.at_+(k+1)) hin2
 have hHRC:=HRC.out
 rw [show x.at_+k+1=x.at_+(k+1) from by omega,hrc2] at hHRC
 have HRC2:=Lib.hid hHRC
 clear hHRC hrc2 HRC
 rw [hd] at J3 HRC2
 have hcut:x.at_+(k+1)+1=x.at_+(k+2):=by omega
 rw [hcut] at HRC2
 clear hcut
 have HS:Hid (lx.qStep Q false uni idn true k (rest s (x.at_+k)) l err=.more 2 l true):=by
  show _=_
  rw [HRC2.out]
  unfold lx.qStep
  simp only
  rw [if_neg (by rw [←HRC2.out];exact HM0.out),if_pos (by omega)]
  exact escape_np hg.out
 obtain ⟨vp,hvp⟩:∃vp,Hid (s.extract (x.at_+((k:Int)+1).toNat) (min (x.at_+((k:Int)+2+2).toNat) s.size)=vp):=⟨_,rfl⟩
 have hvp2:Hid (s.extract (x.at_+((k:Int)+2-1).toNat) (min (x.at_+((k:Int)+2+2).toNat) s.size)=vp):=by
  have e:((k:Int)+2-1).toNat=((k:Int)+1).toNat:=by omega
  show _=_
  rw [e];exact hvp.out
 have hvp3:Hid (s.extract (x.at_+((k:Int)+1+1-1).toNat) (min (x.at_+((k:Int)+1+1+2).toNat) s.size)=vp):=by
  have e:((k:Int)+1+1-1).toNat=((k:Int)+1).toNat:=by omega
  have e2:((k:Int)+1+1+2).toNat=((k:Int)+2+2).toNat:=by omega
  show _=_
  rw [e,e2];exact hvp.out
 have hcl:=cut_list (a:=k+1) (e:=k+4) (by omega) (by omega) (by omega) (by omega) hvp
 have hvz:vp.size≤3:=by have:=hcl.2;omega
 have hrc3:=rest_cons s (x.at_+(k+1)) hin2
 rw [hd,show x.at_+(k+1)+1=x.at_+(k+2) by omega] at hrc3
 have HVL:=Lib.hid (show vp.data.toList=49::(rest s (x.at_+(k+2))).take 2 by have:=hcl.1;rw [show k+4-(k+1)=3 by omega,hrc3] at this;exact this)
 have HVB:Hid (∀j,j≤vp.size→(vp.data.toList.take j).all (digB 8)=true→lx.digits 8 0 (vp.data.toList.take j)≤255):=by
  intro j hj ha
  rw [HVL.out] at ha ⊢
  cases j with
  | zero=>simp [lx.digits]
  | succ j =>
   rw [List.take_succ_cons] at ha ⊢
   rw [List.all_cons,Bool.and_eq_true] at ha
   have h1:=digits_lt 8 (.inr rfl) _ (lx.hexVal 49) 4 ha.2 (by decide)
   have h2:(((rest s (x.at_+(k+2))).take 2).take j).length≤2:=by rw [List.length_take,List.length_take];omega
   have h3:(8:Nat) ^ (((rest s (x.at_+(k+2))).take 2).take j).length≤8 ^ 2:=Nat.pow_le_pow_right (by omega) h2
   have e:lx.digits 8 0 (49::((rest s (x.at_+(k+2))).take 2).take j)=lx.digits 8 (lx.hexVal 49) (((rest s (x.at_+(k+2))).take 2).take j):=rfl
   rw [e]
   omega
 have HGD:=Lib.hid (show vp.data.toList.all (digB 8)=((rest s (x.at_+(k+2))).take 2).all lx.oct by rw [HVL.out];rfl)
 clear hcl hrc3
 have HG1:Hid (vp.data.toList.all (digB 8)=false):=HGD.out.trans hg.out
 have hvn:vp.size≠0:=by
  intro h0
  have:vp.data.toList=[]:=List.length_eq_zero_iff.1 (by rw [size_list];exact h0)
  have h1:=HG1.out
  rw [this] at h1
  cases h1
 have HT:∀n,Hid (TabsAt (wr.drewN n)):=fun n=>(HL.out.drewN n).tabs.at
 clear HM HM0 HRC2
 rw [hc] at J1
 unfold QRound QFr
 conv=>arg 2;whnf
 go_wp2_with (first
  | (go_at_call 78;refine (peekOk_z _ _ (by first|exact HL.out.at|exact (HL.out.drewN _).at) (by omega) (by omega) (by omega) (by omega) (by first|exact J0|exact J2)).mono ?_;rintro e w' ⟨rfl,n,rfl⟩)
  | (go_at_call 91;refine (slice_z _ _ vs (by first|exact HL.out.at|exact (HL.out.drewN _).at) (by omega) (by omega) (by omega) (by omega) (by omega) (by omega) hvs).mono ?_;rintro e w' ⟨rfl,n2,rfl⟩)
  | (go_at_call 80;refine (peek_z _ _ (by first|exact HL.out.at|exact (HL.out.drewN _).at) (by omega) (by first|exact pin|exact pin2) (by omega) (by first|exact J1|exact J3)).mono ?_;rintro e w' ⟨rfl,n3,rfl⟩))
 go_loopw [16,393] (fun ev jv wq=>∃(j:Nat) (e':Bool),jv=.int .i64 (j:Int)∧ev=.bool e'∧j≤2∧Hid (e'=(err||!(((rest s (x.at_+(k+2))).take j).all lx.oct)))∧∃m,wq=wr.drewN m) (fun _ jv _=>2-(intOf jv).toNat)
 case atStart=>exact ⟨0,err,rfl,rfl,by omega,by show _=_;simp,_,rfl⟩
 case round =>
  obtain ⟨j,e',rfl,rfl,hj,HE,m,rfl⟩:=hrel
  by_cases hj2:j<2
  ·by_cases hbin:x.at_+(k+2)+j<s.size
   ·have JA:Hid (inB s (x.at_+((k:Int)+2+(j:Int)).toNat)=true):=by
     show _=_
     have e:((k:Int)+2+(j:Int)).toNat=k+2+j:=by omega
     rw [e];simp [inB];omega
    have JB:Hid (bt s (x.at_+((k:Int)+2+(j:Int)).toNat)=(s[x.at_+(k+2)+j].toNat:Int)):=by
     have e:x.at_+((k:Int)+2+(j:Int)).toNat=x.at_+(k+2)+j:=by omega
     show _=_
     rw [e];exact bt_in hbin
    have pinj:x.at_+((k:Int)+2+(j:Int)).toNat<s.size:=by omega
    have HN:=Lib.hid (all_next (good:=lx.oct) hbin)
    cases hgood:lx.oct s[x.at_+(k+2)+j]
    ·have JH:=Lib.hid hgood
     have HE2:Hid (true=(err||!(((rest s (x.at_+(k+2))).take (j+1)).all lx.oct))):=by
      show _=_
      rw [HN.out,hgood];simp
     clear hgood HN
     generalize s[x.at_+(k+2)+j]=c at *
     go_wp2_with (first
      | (go_at_call 78;refine (peekOk_z _ _ (HL.out.drewN _).at (by omega) (by omega) (by omega) (by omega) JA).mono ?_;rintro e w' ⟨rfl,n4,rfl⟩)
      | (go_at_call 80;refine (peek_z _ _ (HL.out.drewN _).at (by omega) pinj (by omega) JB).mono ?_;rintro e w' ⟨rfl,n5,rfl⟩)
      | (go_at_call 113;refine (oct_named c _ _ JH).mono ?_;rintro e w' ⟨rfl,rfl⟩))
     go_round
     case rel=>exact ⟨j+1,true,by go_num,rfl,by omega,HE2,_,rfl⟩
     case measure=>simp [intOf];omega
    ·have JH:=Lib.hid hgood
     have HE2:Hid (e'=(err||!(((rest s (x.at_+(k+2))).take (j+1)).all lx.oct))):=by
      show _=_
      rw [HN.out,hgood,Bool.and_true];exact HE.out
     clear hgood HN
     generalize s[x.at_+(k+2)+j]=c at *
     go_wp2_with (first
      | (go_at_call 78;refine (peekOk_z _ _ (HL.out.drewN _).at (by omega) (by omega) (by omega) (by omega) JA).mono ?_;rintro e w' ⟨rfl,n4,rfl⟩)
      | (go_at_call 80;refine (peek_z _ _ (HL.out.drewN _).at (by omega) pinj (by omega) JB).mono ?_;rintro e w' ⟨rfl,n5,rfl⟩)
      | (go_at_call 113;refine (oct_named c _ _ JH).mono ?_;rintro e w' ⟨rfl,rfl⟩))
     go_round
     case rel=>exact ⟨j+1,e',by go_num,rfl,by omega,HE2,_,rfl⟩
     case measure=>simp [intOf];omega
   ·have JA:Hid (inB s (x.at_+((k:Int)+2+(j:Int)).toNat)=false):=by
     show _=_
     have e:((k:Int)+2+(j:Int)).toNat=k+2+j:=by omega
     rw [e];simp [inB];omega
    have HE2:Hid (true=(err||!(((rest s (x.at_+(k+2))).take (j+1)).all lx.oct))):=by
     show _=_
     rw [all_end (j:=j+1) (m:=2) (by omega) (by omega),hg.out];simp
    go_wp2_with (go_at_call 78;refine (peekOk_z _ _ (HL.out.drewN _).at (by omega) (by omega) (by omega) (by omega) JA).mono ?_;rintro e w' ⟨rfl,n4,rfl⟩)
    go_round
    case rel=>exact ⟨j+1,true,by go_num,rfl,by omega,HE2,_,rfl⟩
    case measure=>simp [intOf];omega
  ·have hj3:j=2:=by omega
   subst hj3
   have he:e'=true:=by rw [HE.out,hg.out];simp
   subst he
   go_wp2_with (first
    | (go_at_call 91;refine (slice_z _ _ vp (HL.out.drewN _).at (by omega) (by omega) (by omega) (by omega) (by omega) (by omega) (by first|exact hvp|exact hvp2|exact hvp3)).mono ?_;rintro e w' ⟨rfl,n4,rfl⟩)
    | (go_at_call 111;refine (pu_bad_8_8 vp hvn (by omega) HVB HG1 _ (HT _)).mono ?_;rintro e w5 ⟨⟨mq,rfl⟩,hb5⟩;have HB5:=Lib.hid hb5;clear hb5))
   refine ⟨⟨k+2,v,l,true,⟨rfl,rfl,rfl,rfl,rfl,rfl,rfl,rfl,rfl,rfl,rfl,rfl,rfl⟩,qi_skip HC.out HS.out (by omega) (by omega) ((below_drewN (Below.refl _ _) _).trans HB5.out)⟩, ?_⟩
   exact qmu_lt (k:=k) (j:=k+2) rfl rfl (by omega) (by omega)
set_option maxHeartbeats 4000000 in
set_option maxRecDepth 1000000 in
theorem quo_e50_np (HC:Hid (QC w B b f s x Q q false uni idn true o k v l err wr)) (SZ:s.size≤20000) (hq3:q.size≤3) (hin2:x.at_+(k+1)<s.size)
  (hm:Hid (¬(rest s (x.at_+k)).take q.size=Q)) (hc:(s[x.at_+k].toNat:Int)=92) (hd:s[x.at_+(k+1)]=50)
  (hg:Hid (((rest s (x.at_+(k+2))).take 2).all lx.oct=false)) :
  QRound w B b f s x Q q nm false uni idn true o (QFr u b q false uni nm true (k:Int) v err) wr:=by
 have hin:x.at_+k<s.size:=by omega
 have HL:=Lib.hid HC.out.i.held.lex
 have J0:Hid (inB s (x.at_+(k:Int).toNat)=true):=by show _=_;simp [inB,hin]
 have J1:Hid (bt s (x.at_+(k:Int).toNat)=(s[x.at_+k].toNat:Int)):=by show bt s (x.at_+k)=_;exact bt_in hin
 obtain ⟨vs,hvs⟩:∃vs,Hid (s.extract (x.at_+(k:Int).toNat) (min (x.at_+((k:Int)+(q.size:Int)).toNat) s.size)=vs):=⟨_,rfl⟩
 have pin:x.at_+(k:Int).toNat<s.size:=by simpa using hin
 have hrc:=rest_cons s (x.at_+k) hin
 have hll:=look_list hin hvs
 have hcv:(vs.toList==q.toList)=false:=by
  rw [hll,HC.out.q]
  exact beq_eq_false_iff_ne.2 hm.out
 have hqs:q.size=Q.length:=by rw [←HC.out.q,toList_length]
 have hm':=hm.out
 rw [hqs,hrc] at hm'
 have HM:=Lib.hid hm'
 have HM0:Hid (¬(rest s (x.at_+k)).take Q.length=Q):=by rw [←hqs];exact hm.out
 have HQS:=Lib.hid hqs
 have HRC:=Lib.hid hrc
 have HR:=Lib.hid HC.out.i.row
 have hsz:=HC.out.i.held.grown.size
 have hlk:=HC.out.i.len
 clear hll hrc hm hm' hqs
 have J2:Hid (inB s (x.at_+((k:Int)+1).toNat)=true):=by
  show _=_
  have e:((k:Int)+1).toNat=k+1:=by omega
  rw [e];simp [inB];omega
 have J3:Hid (bt s (x.at_+((k:Int)+1).toNat)=(s[x.at_+(k+1)].toNat:Int)):=by
  have e:((k:Int)+1).toNat=k+1:=by omega
  show _=_
  rw [e];exact bt_in hin2
 have pin2:x.at_+((k:Int)+1).toNat<s.size:=by omega
 have hrc2:=rest_cons s (x.at_+(k+1)) hin2
 have hHRC:=HRC.out
 rw [show x.at_+k+1=x.at_+(k+1) from by omega,hrc2] at hHRC
 have HRC2:=Lib.hid hHRC
 clear hHRC hrc2 HRC
 rw [hd] at J3 HRC2
 have hcut:x.at_+(k+1)+1=x.at_+(k+2):=by omega
 rw [hcut] at HRC2
 clear hcut
 have HS:Hid (lx.qStep Q false uni idn true k (rest s (x.at_+k)) l err=.more 2 l true):=by
  show _=_
  rw [HRC2.out]
  unfold lx.qStep
  simp only
  rw [if_neg (by rw [←HRC2.out];exact HM0.out),if_pos (by omega)]
  exact escape_np hg.out
 obtain ⟨vp,hvp⟩:∃vp,Hid (s.extract (x.at_+((k:Int)+1).toNat) (min (x.at_+((k:Int)+2+2).toNat) s.size)=vp):=⟨_,rfl⟩
 have hvp2:Hid (s.extract (x.at_+((k:Int)+2-1).toNat) (min (x.at_+((k:Int)+2+2).toNat) s.size)=vp):=by
  have e:((k:Int)+2-1).toNat=((k:Int)+1).toNat:=by omega
  show _=_
  rw [e];exact hvp.out
 have hvp3:Hid (s.extract (x.at_+((k:Int)+1+1-1).toNat) (min (x.at_+((k:Int)+1+1+2).toNat) s.size)=vp):=by
  have e:((k:Int)+1+1-1).toNat=((k:Int)+1).toNat:=by omega
  have e2:((k:Int)+1+1+2).toNat=((k:Int)+2+2).toNat:=by omega
  show _=_
  rw [e,e2];exact hvp.out
 have hcl:=cut_list (a:=k+1) (e:=k+4) (by omega) (by omega) (by omega) (by omega) hvp
 have hvz:vp.size≤3:=by have:=hcl.2;omega
 have hrc3:=rest_cons s (x.at_+(k+1)) hin2
 rw [hd,show x.at_+(k+1)+1=x.at_+(k+2) by omega] at hrc3
 have HVL:=Lib.hid (show vp.data.toList=50::(rest s (x.at_+(k+2))).take 2 by have:=hcl.1;rw [show k+4-(k+1)=3 by omega,hrc3] at this;exact this)
 have HVB:Hid (∀j,j≤vp.size→(vp.data.toList.take j).all (digB 8)=true→lx.digits 8 0 (vp.data.toList.take j)≤255):=by
  intro j hj ha
  rw [HVL.out] at ha ⊢
  cases j with
  | zero=>simp [lx.digits]
  | succ j =>
   rw [List.take_succ_cons] at ha ⊢
   rw [List.all_cons,Bool.and_eq_true] at ha
   have h1:=digits_lt 8 (.inr rfl) _ (lx.hexVal 50) 4 ha.2 (by decide)
   have h2:(((rest s (x.at_+(k+2))).take 2).take j).length≤2:=by rw [List.length_take,List.length_take];omega
   have h3:(8:Nat) ^ (((rest s (x.at_+(k+2))).take 2).take j).length≤8 ^ 2:=Nat.pow_le_pow_right (by omega) h2
   have e:lx.digits 8 0 (50::((rest s (x.at_+(k+2))).take 2).take j)=lx.digits 8 (lx.hexVal 50) (((rest s (x.at_+(k+2))).take 2).take j):=rfl
   rw [e]
   omega
 have HGD:=Lib.hid (show vp.data.toList.all (digB 8)=((rest s (x.at_+(k+2))).take 2).all lx.oct by rw [HVL.out];rfl)
 clear hcl hrc3
 have HG1:Hid (vp.data.toList.all (digB 8)=false):=HGD.out.trans hg.out
 have hvn:vp.size≠0:=by
  intro h0
  have:vp.data.toList=[]:=List.length_eq_zero_iff.1 (by rw [size_list];exact h0)
  have h1:=HG1.out
  rw [this] at h1
  cases h1
 have HT:∀n,Hid (TabsAt (wr.drewN n)):=fun n=>(HL.out.drewN n).tabs.at
 clear HM HM0 HRC2
 rw [hc] at J1
 unfold QRound QFr
 conv=>arg 2;whnf
 go_wp2_with (first
  | (go_at_call 78;refine (peekOk_z _ _ (by first|exact HL.out.at|exact (HL.out.drewN _).at) (by omega) (by omega) (by omega) (by omega) (by first|exact J0|exact J2)).mono ?_;rintro e w' ⟨rfl,n,rfl⟩)
  | (go_at_call 91;refine (slice_z _ _ vs (by first|exact HL.out.at|exact (HL.out.drewN _).at) (by omega) (by omega) (by omega) (by omega) (by omega) (by omega) hvs).mono ?_;rintro e w' ⟨rfl,n2,rfl⟩)
  | (go_at_call 80;refine (peek_z _ _ (by first|exact HL.out.at|exact (HL.out.drewN _).at) (by omega) (by first|exact pin|exact pin2) (by omega) (by first|exact J1|exact J3)).mono ?_;rintro e w' ⟨rfl,n3,rfl⟩))
 go_loopw [16,393] (fun ev jv wq=>∃(j:Nat) (e':Bool),jv=.int .i64 (j:Int)∧ev=.bool e'∧j≤2∧Hid (e'=(err||!(((rest s (x.at_+(k+2))).take j).all lx.oct)))∧∃m,wq=wr.drewN m) (fun _ jv _=>2-(intOf jv).toNat)
 case atStart=>exact ⟨0,err,rfl,rfl,by omega,by show _=_;simp,_,rfl⟩
 case round =>
  obtain ⟨j,e',rfl,rfl,hj,HE,m,rfl⟩:=hrel
  by_cases hj2:j<2
  ·by_cases hbin:x.at_+(k+2)+j<s.size
   ·have JA:Hid (inB s (x.at_+((k:Int)+2+(j:Int)).toNat)=true):=by
     show _=_
     have e:((k:Int)+2+(j:Int)).toNat=k+2+j:=by omega
     rw [e];simp [inB];omega
    have JB:Hid (bt s (x.at_+((k:Int)+2+(j:Int)).toNat)=(s[x.at_+(k+2)+j].toNat:Int)):=by
     have e:x.at_+((k:Int)+2+(j:Int)).toNat=x.at_+(k+2)+j:=by omega
     show _=_
     rw [e];exact bt_in hbin
    have pinj:x.at_+((k:Int)+2+(j:Int)).toNat<s.size:=by omega
    have HN:=Lib.hid (all_next (good:=lx.oct) hbin)
    cases hgood:lx.oct s[x.at_+(k+2)+j]
    ·have JH:=Lib.hid hgood
     have HE2:Hid (true=(err||!(((rest s (x.at_+(k+2))).take (j+1)).all lx.oct))):=by
      show _=_
      rw [HN.out,hgood];simp
     clear hgood HN
     generalize s[x.at_+(k+2)+j]=c at *
     go_wp2_with (first
      | (go_at_call 78;refine (peekOk_z _ _ (HL.out.drewN _).at (by omega) (by omega) (by omega) (by omega) JA).mono ?_;rintro e w' ⟨rfl,n4,rfl⟩)
      | (go_at_call 80;refine (peek_z _ _ (HL.out.drewN _).at (by omega) pinj (by omega) JB).mono ?_;rintro e w' ⟨rfl,n5,rfl⟩)
      | (go_at_call 113;refine (oct_named c _ _ JH).mono ?_;rintro e w' ⟨rfl,rfl⟩))
     go_round
     case rel=>exact ⟨j+1,true,by go_num,rfl,by omega,HE2,_,rfl⟩
     case measure=>simp [intOf];omega
    ·have JH:=Lib.hid hgood
     have HE2:Hid (e'=(err||!(((rest s (x.at_+(k+2))).take (j+1)).all lx.oct))):=by
      show _=_
      rw [HN.out,hgood,Bool.and_true];exact HE.out
     clear hgood HN
     generalize s[x.at_+(k+2)+j]=c at *
     go_wp2_with (first
      | (go_at_call 78;refine (peekOk_z _ _ (HL.out.drewN _).at (by omega) (by omega) (by omega) (by omega) JA).mono ?_;rintro e w' ⟨rfl,n4,rfl⟩)
      | (go_at_call 80;refine (peek_z _ _ (HL.out.drewN _).at (by omega) pinj (by omega) JB).mono ?_;rintro e w' ⟨rfl,n5,rfl⟩)
      | (go_at_call 113;refine (oct_named c _ _ JH).mono ?_;rintro e w' ⟨rfl,rfl⟩))
     go_round
     case rel=>exact ⟨j+1,e',by go_num,rfl,by omega,HE2,_,rfl⟩
     case measure=>simp [intOf];omega
   ·have JA:Hid (inB s (x.at_+((k:Int)+2+(j:Int)).toNat)=false):=by
     show _=_
     have e:((k:Int)+2+(j:Int)).toNat=k+2+j:=by omega
     rw [e];simp [inB];omega
    have HE2:Hid (true=(err||!(((rest s (x.at_+(k+2))).take (j+1)).all lx.oct))):=by
     show _=_
     rw [all_end (j:=j+1) (m:=2) (by omega) (by omega),hg.out];simp
    go_wp2_with (go_at_call 78;refine (peekOk_z _ _ (HL.out.drewN _).at (by omega) (by omega) (by omega) (by omega) JA).mono ?_;rintro e w' ⟨rfl,n4,rfl⟩)
    go_round
    case rel=>exact ⟨j+1,true,by go_num,rfl,by omega,HE2,_,rfl⟩
    case measure=>simp [intOf];omega
  ·have hj3:j=2:=by omega
   subst hj3
   have he:e'=true:=by rw [HE.out,hg.out];simp
   subst he
   go_wp2_with (first
    | (go_at_call 91;refine (slice_z _ _ vp (HL.out.drewN _).at (by omega) (by omega) (by omega) (by omega) (by omega) (by omega) (by first|exact hvp|exact hvp2|exact hvp3)).mono ?_;rintro e w' ⟨rfl,n4,rfl⟩)
    | (go_at_call 111;refine (pu_bad_8_8 vp hvn (by omega) HVB HG1 _ (HT _)).mono ?_;rintro e w5 ⟨⟨mq,rfl⟩,hb5⟩;have HB5:=Lib.hid hb5;clear hb5))
   refine ⟨⟨k+2,v,l,true,⟨rfl,rfl,rfl,rfl,rfl,rfl,rfl,rfl,rfl,rfl,rfl,rfl,rfl⟩,qi_skip HC.out HS.out (by omega) (by omega) ((below_drewN (Below.refl _ _) _).trans HB5.out)⟩, ?_⟩
   exact qmu_lt (k:=k) (j:=k+2) rfl rfl (by omega) (by omega)
set_option maxHeartbeats 4000000 in
set_option maxRecDepth 1000000 in
theorem quo_e51_np (HC:Hid (QC w B b f s x Q q false uni idn true o k v l err wr)) (SZ:s.size≤20000) (hq3:q.size≤3) (hin2:x.at_+(k+1)<s.size)
  (hm:Hid (¬(rest s (x.at_+k)).take q.size=Q)) (hc:(s[x.at_+k].toNat:Int)=92) (hd:s[x.at_+(k+1)]=51)
  (hg:Hid (((rest s (x.at_+(k+2))).take 2).all lx.oct=false)) :
  QRound w B b f s x Q q nm false uni idn true o (QFr u b q false uni nm true (k:Int) v err) wr:=by
 have hin:x.at_+k<s.size:=by omega
 have HL:=Lib.hid HC.out.i.held.lex
 have J0:Hid (inB s (x.at_+(k:Int).toNat)=true):=by show _=_;simp [inB,hin]
 have J1:Hid (bt s (x.at_+(k:Int).toNat)=(s[x.at_+k].toNat:Int)):=by show bt s (x.at_+k)=_;exact bt_in hin
 obtain ⟨vs,hvs⟩:∃vs,Hid (s.extract (x.at_+(k:Int).toNat) (min (x.at_+((k:Int)+(q.size:Int)).toNat) s.size)=vs):=⟨_,rfl⟩
 have pin:x.at_+(k:Int).toNat<s.size:=by simpa using hin
 have hrc:=rest_cons s (x.at_+k) hin
 have hll:=look_list hin hvs
 have hcv:(vs.toList==q.toList)=false:=by
  rw [hll,HC.out.q]
  exact beq_eq_false_iff_ne.2 hm.out
 have hqs:q.size=Q.length:=by rw [←HC.out.q,toList_length]
 have hm':=hm.out
 rw [hqs,hrc] at hm'
 have HM:=Lib.hid hm'
 have HM0:Hid (¬(rest s (x.at_+k)).take Q.length=Q):=by rw [←hqs];exact hm.out
 have HQS:=Lib.hid hqs
 have HRC:=Lib.hid hrc
 have HR:=Lib.hid HC.out.i.row
 have hsz:=HC.out.i.held.grown.size
 have hlk:=HC.out.i.len
 clear hll hrc hm hm' hqs
 have J2:Hid (inB s (x.at_+((k:Int)+1).toNat)=true):=by
  show _=_
  have e:((k:Int)+1).toNat=k+1:=by omega
  rw [e];simp [inB];omega
 have J3:Hid (bt s (x.at_+((k:Int)+1).toNat)=(s[x.at_+(k+1)].toNat:Int)):=by
  have e:((k:Int)+1).toNat=k+1:=by omega
  show _=_
  rw [e];exact bt_in hin2
 have pin2:x.at_+((k:Int)+1).toNat<s.size:=by omega
 have hrc2:=rest_cons s (x.at_+(k+1)) hin2
 have hHRC:=HRC.out
 rw [show x.at_+k+1=x.at_+(k+1) from by omega,hrc2] at hHRC
 have HRC2:=Lib.hid hHRC
 clear hHRC hrc2 HRC
 rw [hd] at J3 HRC2
 have hcut:x.at_+(k+1)+1=x.at_+(k+2):=by omega
 rw [hcut] at HRC2
 clear hcut
 have HS:Hid (lx.qStep Q false uni idn true k (rest s (x.at_+k)) l err=.more 2 l true):=by
  show _=_
  rw [HRC2.out]
  unfold lx.qStep
  simp only
  rw [if_neg (by rw [←HRC2.out];exact HM0.out),if_pos (by omega)]
  exact escape_np hg.out
 obtain ⟨vp,hvp⟩:∃vp,Hid (s.extract (x.at_+((k:Int)+1).toNat) (min (x.at_+((k:Int)+2+2).toNat) s.size)=vp):=⟨_,rfl⟩
 have hvp2:Hid (s.extract (x.at_+((k:Int)+2-1).toNat) (min (x.at_+((k:Int)+2+2).toNat) s.size)=vp):=by
  have e:((k:Int)+2-1).toNat=((k:Int)+1).toNat:=by omega
  show _=_
  rw [e];exact hvp.out
 have hvp3:Hid (s.extract (x.at_+((k:Int)+1+1-1).toNat) (min (x.at_+((k:Int)+1+1+2).toNat) s.size)=vp):=by
  have e:((k:Int)+1+1-1).toNat=((k:Int)+1).toNat:=by omega
  have e2:((k:Int)+1+1+2).toNat=((k:Int)+2+2).toNat:=by omega
  show _=_
  rw [e,e2];exact hvp.out
 have hcl:=cut_list (a:=k+1) (e:=k+4) (by omega) (by omega) (by omega) (by omega) hvp
 have hvz:vp.size≤3:=by have:=hcl.2;omega
 have hrc3:=rest_cons s (x.at_+(k+1)) hin2
 rw [hd,show x.at_+(k+1)+1=x.at_+(k+2) by omega] at hrc3
 have HVL:=Lib.hid (show vp.data.toList=51::(rest s (x.at_+(k+2))).take 2 by have:=hcl.1;rw [show k+4-(k+1)=3 by omega,hrc3] at this;exact this)
 have HVB:Hid (∀j,j≤vp.size→(vp.data.toList.take j).all (digB 8)=true→lx.digits 8 0 (vp.data.toList.take j)≤255):=by
  intro j hj ha
  rw [HVL.out] at ha ⊢
  cases j with
  | zero=>simp [lx.digits]
  | succ j =>
   rw [List.take_succ_cons] at ha ⊢
   rw [List.all_cons,Bool.and_eq_true] at ha
   have h1:=digits_lt 8 (.inr rfl) _ (lx.hexVal 51) 4 ha.2 (by decide)
   have h2:(((rest s (x.at_+(k+2))).take 2).take j).length≤2:=by rw [List.length_take,List.length_take];omega
   have h3:(8:Nat) ^ (((rest s (x.at_+(k+2))).take 2).take j).length≤8 ^ 2:=Nat.pow_le_pow_right (by omega) h2
   have e:lx.digits 8 0 (51::((rest s (x.at_+(k+2))).take 2).take j)=lx.digits 8 (lx.hexVal 51) (((rest s (x.at_+(k+2))).take 2).take j):=rfl
   rw [e]
   omega
 have HGD:=Lib.hid (show vp.data.toList.all (digB 8)=((rest s (x.at_+(k+2))).take 2).all lx.oct by rw [HVL.out];rfl)
 clear hcl hrc3
 have HG1:Hid (vp.data.toList.all (digB 8)=false):=HGD.out.trans hg.out
 have hvn:vp.size≠0:=by
  intro h0
  have:vp.data.toList=[]:=List.length_eq_zero_iff.1 (by rw [size_list];exact h0)
  have h1:=HG1.out
  rw [this] at h1
  cases h1
 have HT:∀n,Hid (TabsAt (wr.drewN n)):=fun n=>(HL.out.drewN n).tabs.at
 clear HM HM0 HRC2
 rw [hc] at J1
 unfold QRound QFr
 conv=>arg 2;whnf
 go_wp2_with (first
  | (go_at_call 78;refine (peekOk_z _ _ (by first|exact HL.out.at|exact (HL.out.drewN _).at) (by omega) (by omega) (by omega) (by omega) (by first|exact J0|exact J2)).mono ?_;rintro e w' ⟨rfl,n,rfl⟩)
  | (go_at_call 91;refine (slice_z _ _ vs (by first|exact HL.out.at|exact (HL.out.drewN _).at) (by omega) (by omega) (by omega) (by omega) (by omega) (by omega) hvs).mono ?_;rintro e w' ⟨rfl,n2,rfl⟩)
  | (go_at_call 80;refine (peek_z _ _ (by first|exact HL.out.at|exact (HL.out.drewN _).at) (by omega) (by first|exact pin|exact pin2) (by omega) (by first|exact J1|exact J3)).mono ?_;rintro e w' ⟨rfl,n3,rfl⟩))
 go_loopw [16,393] (fun ev jv wq=>∃(j:Nat) (e':Bool),jv=.int .i64 (j:Int)∧ev=.bool e'∧j≤2∧Hid (e'=(err||!(((rest s (x.at_+(k+2))).take j).all lx.oct)))∧∃m,wq=wr.drewN m) (fun _ jv _=>2-(intOf jv).toNat)
 case atStart=>exact ⟨0,err,rfl,rfl,by omega,by show _=_;simp,_,rfl⟩
 case round =>
  obtain ⟨j,e',rfl,rfl,hj,HE,m,rfl⟩:=hrel
  by_cases hj2:j<2
  ·by_cases hbin:x.at_+(k+2)+j<s.size
   ·have JA:Hid (inB s (x.at_+((k:Int)+2+(j:Int)).toNat)=true):=by
     show _=_
     have e:((k:Int)+2+(j:Int)).toNat=k+2+j:=by omega
     rw [e];simp [inB];omega
    have JB:Hid (bt s (x.at_+((k:Int)+2+(j:Int)).toNat)=(s[x.at_+(k+2)+j].toNat:Int)):=by
     have e:x.at_+((k:Int)+2+(j:Int)).toNat=x.at_+(k+2)+j:=by omega
     show _=_
     rw [e];exact bt_in hbin
    have pinj:x.at_+((k:Int)+2+(j:Int)).toNat<s.size:=by omega
    have HN:=Lib.hid (all_next (good:=lx.oct) hbin)
    cases hgood:lx.oct s[x.at_+(k+2)+j]
    ·have JH:=Lib.hid hgood
     have HE2:Hid (true=(err||!(((rest s (x.at_+(k+2))).take (j+1)).all lx.oct))):=by
      show _=_
      rw [HN.out,hgood];simp
     clear hgood HN
     generalize s[x.at_+(k+2)+j]=c at *
     go_wp2_with (first
      | (go_at_call 78;refine (peekOk_z _ _ (HL.out.drewN _).at (by omega) (by omega) (by omega) (by omega) JA).mono ?_;rintro e w' ⟨rfl,n4,rfl⟩)
      | (go_at_call 80;refine (peek_z _ _ (HL.out.drewN _).at (by omega) pinj (by omega) JB).mono ?_;rintro e w' ⟨rfl,n5,rfl⟩)
      | (go_at_call 113;refine (oct_named c _ _ JH).mono ?_;rintro e w' ⟨rfl,rfl⟩))
     go_round
     case rel=>exact ⟨j+1,true,by go_num,rfl,by omega,HE2,_,rfl⟩
     case measure=>simp [intOf];omega
    ·have JH:=Lib.hid hgood
     have HE2:Hid (e'=(err||!(((rest s (x.at_+(k+2))).take (j+1)).all lx.oct))):=by
      show _=_
      rw [HN.out,hgood,Bool.and_true];exact HE.out
     clear hgood HN
     generalize s[x.at_+(k+2)+j]=c at *
     go_wp2_with (first
      | (go_at_call 78;refine (peekOk_z _ _ (HL.out.drewN _).at (by omega) (by omega) (by omega) (by omega) JA).mono ?_;rintro e w' ⟨rfl,n4,rfl⟩)
      | (go_at_call 80;refine (peek_z _ _ (HL.out.drewN _).at (by omega) pinj (by omega) JB).mono ?_;rintro e w' ⟨rfl,n5,rfl⟩)
      | (go_at_call 113;refine (oct_named c _ _ JH).mono ?_;rintro e w' ⟨rfl,rfl⟩))
     go_round
     case rel=>exact ⟨j+1,e',by go_num,rfl,by omega,HE2,_,rfl⟩
     case measure=>simp [intOf];omega
   ·have JA:Hid (inB s (x.at_+((k:Int)+2+(j:Int)).toNat)=false):=by
     show _=_
     have e:((k:Int)+2+(j:Int)).toNat=k+2+j:=by omega
     rw [e];simp [inB];omega
    have HE2:Hid (true=(err||!(((rest s (x.at_+(k+2))).take (j+1)).all lx.oct))):=by
     show _=_
     rw [all_end (j:=j+1) (m:=2) (by omega) (by omega),hg.out];simp
    go_wp2_with (go_at_call 78;refine (peekOk_z _ _ (HL.out.drewN _).at (by omega) (by omega) (by omega) (by omega) JA).mono ?_;rintro e w' ⟨rfl,n4,rfl⟩)
    go_round
    case rel=>exact ⟨j+1,true,by go_num,rfl,by omega,HE2,_,rfl⟩
    case measure=>simp [intOf];omega
  ·have hj3:j=2:=by omega
   subst hj3
   have he:e'=true:=by rw [HE.out,hg.out];simp
   subst he
   go_wp2_with (first
    | (go_at_call 91;refine (slice_z _ _ vp (HL.out.drewN _).at (by omega) (by omega) (by omega) (by omega) (by omega) (by omega) (by first|exact hvp|exact hvp2|exact hvp3)).mono ?_;rintro e w' ⟨rfl,n4,rfl⟩)
    | (go_at_call 111;refine (pu_bad_8_8 vp hvn (by omega) HVB HG1 _ (HT _)).mono ?_;rintro e w5 ⟨⟨mq,rfl⟩,hb5⟩;have HB5:=Lib.hid hb5;clear hb5))
   refine ⟨⟨k+2,v,l,true,⟨rfl,rfl,rfl,rfl,rfl,rfl,rfl,rfl,rfl,rfl,rfl,rfl,rfl⟩,qi_skip HC.out HS.out (by omega) (by omega) ((below_drewN (Below.refl _ _) _).trans HB5.out)⟩, ?_⟩
   exact qmu_lt (k:=k) (j:=k+2) rfl rfl (by omega) (by omega)
end
end Go.Proofs.YtaamolahbkgofaaGreatDoor.lex
