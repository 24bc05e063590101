/-
  Rounds of consumeQuotedContent's loop: escapes of digits. Conditions: of each, in its statement. (Written by wip/mkesc.py.).
-/
import Derived.Test.YtaamolahbkgofaaGreatDoorK16
set_option linter.unusedVariables false
namespace Go.Proofs.YtaamolahbkgofaaGreatDoor.lex
open Go.RowKit mem lines
section
variable {w wr:World} {B b f:Nat} {s q nm:ByteArray} {x:St} {Q:lx.Bs} {raw uni idn np:Bool} {o:lx.QOut} {k:Nat} {v:Value} {l:lx.Bs} {err:Bool} {u:Nat→Value}
set_option maxHeartbeats 4000000 in
set_option maxRecDepth 1000000 in
theorem quo_e117_gs_np (HC:Hid (QC w B b f s x Q q false true idn true o k v l err wr)) (SZ:s.size≤20000) (hq3:q.size≤3) (hin2:x.at_+(k+1)<s.size)
  (hm:Hid (¬(rest s (x.at_+k)).take q.size=Q)) (hc:(s[x.at_+k].toNat:Int)=92) (hd:s[x.at_+(k+1)]=117)
  (hg:Hid (4≤(rest s (x.at_+(k+2))).length∧((rest s (x.at_+(k+2))).take 4).all lx.hex=true))
  (hcp:Hid ( ((55296≤lx.digits 16 0 ((rest s (x.at_+(k+2))).take 4)∧lx.digits 16 0 ((rest s (x.at_+(k+2))).take 4)≤57343)∨1114111<lx.digits 16 0 ((rest s (x.at_+(k+2))).take 4)))) :
  QRound w B b f s x Q q nm false true idn true o (QFr u b q false true nm true (k:Int) v err) wr:=by
 have hin:x.at_+k<s.size:=by omega
 have HL:=Lib.hid HC.out.i.held.lex
 have J0:Hid (inB s (x.at_+(k:Int).toNat)=true):=by show _=_;simp [inB,hin]
 have J1:Hid (bt s (x.at_+(k:Int).toNat)=(s[x.at_+k].toNat:Int)):=by show bt s (x.at_+k)=_;exact bt_in hin
 obtain ⟨vs,hvs⟩:∃vs,Hid (s.extract (x.at_+(k:Int).toNat) (min (x.at_+((k:Int)+(q.size:Int)).toNat) s.size)=vs):=⟨_,rfl⟩
 have pin:x.at_+(k:Int).toNat<s.size:=by simpa using hin
 have hrc:=rest_cons s (x.at_+k) hin
 have hll:=look_list hin hvs
 have hcv:(vs.toList==q.toList)=false:=by
  rw [hll,HC.out.q]
  exact beq_eq_false_iff_ne.2 hm.out
 have hqs:q.size=Q.length:=by rw [←HC.out.q,toList_length]
 have hm':=hm.out
 rw [hqs,hrc] at hm'
 have HM:=Lib.hid hm'
 have HM0:Hid (¬(rest s (x.at_+k)).take Q.length=Q):=by rw [←hqs];exact hm.out
 have HQS:=Lib.hid hqs
 have HRC:=Lib.hid hrc
 have HR:=Lib.hid HC.out.i.row
 have hsz:=HC.out.i.held.grown.size
 have hlk:=HC.out.i.len
 clear hll hrc hm hm' hqs
 have J2:Hid (inB s (x.at_+((k:Int)+1).toNat)=true):=by
  show _=_
  have e:((k:Int)+1).toNat=k+1:=by omega
  rw [e];simp [inB];omega
 have J3:Hid (bt s (x.at_+((k:Int)+1).toNat)=(s[x.at_+(k+1)].toNat:Int)):=by
  have e:((k:Int)+1).toNat=k+1:=by omega
  show _=_
  rw [e];exact bt_in hin2
 have pin2:x.at_+((k:Int)+1).toNat<s.size:=by omega
 have hrc2:=rest_cons s (x.at_+(k+1)) hin2
 have hHRC:=HRC.out
 rw [show x.at_+k+1=x.at_+(k+1) from by omega,hrc2] at hHRC
 have HRC2:=Lib.hid hHRC
 clear hHRC hrc2 HRC
 rw [hd] at J3 HRC2
 have hcut:x.at_+(k+1)+1=x.at_+(k+2):=by omega
 rw [hcut] at HRC2
 clear hcut
 obtain ⟨vp,hvp⟩:∃vp,Hid (s.extract (x.at_+((k:Int)+2).toNat) (min (x.at_+((k:Int)+2+4).toNat) s.size)=vp):=⟨_,rfl⟩
 have hcl:=cut_list (a:=k+2) (e:=k+2+4) (by omega) (by omega) (by omega) (by omega) hvp
 have hvz:vp.size≤4:=by have:=hcl.2;omega
 have HVL:=Lib.hid (show vp.data.toList=(rest s (x.at_+(k+2))).take 4 by have:=hcl.1;rw [show k+2+4-(k+2)=4 by omega] at this;exact this)
 have HVB:Hid (∀j,j≤vp.size→(vp.data.toList.take j).all (digB 16)=true→lx.digits 16 0 (vp.data.toList.take j)≤4294967295):=by
  intro j hj ha
  have h1:=digits_lt 16 (.inl rfl) _ 0 1 ha (by omega)
  have h2:(vp.data.toList.take j).length≤4:=by rw [List.length_take];omega
  have h3:(16:Nat) ^ (vp.data.toList.take j).length≤16 ^ 4:=Nat.pow_le_pow_right (by omega) h2
  omega
 have HGD:=Lib.hid (show vp.data.toList.all (digB 16)=((rest s (x.at_+(k+2))).take 4).all lx.hex by rw [HVL.out];rfl)
 clear hcl
 have hl2:x.at_+(k+2+4)≤s.size:=by have:=hg.out.1;rw [rest_length] at this;omega
 have HG1:Hid (vp.data.toList.all (digB 16)=true):=HGD.out.trans hg.out.2
 have hvn:vp.size≠0:=by
  intro h0
  have h1:=congrArg List.length HVL.out
  rw [size_list,h0] at h1
  have h2:=hg.out.1
  simp at h1 <;> omega
 have hnm:lx.digits 16 0 vp.data.toList≤4294967295:=by
  have h:=HVB.out vp.size (Nat.le_refl _)
  rw [List.take_of_length_le (by rw [size_list];omega)] at h
  exact h HG1.out
 obtain ⟨nv,hnv⟩:∃nv,Hid (lx.digits 16 0 vp.data.toList=nv):=⟨_,rfl⟩
 rw [hnv.out] at hnm
 have HV2:Hid (lx.digits 16 0 ((rest s (x.at_+(k+2))).take 4)=nv):=by
  show _=_
  rw [←hnv.out,HVL.out]
 rw [HV2.out] at hcp
 have HS:Hid (lx.qStep Q false true idn true k (rest s (x.at_+k)) l err=.more 2 l true):=by
  show _=_
  rw [HRC2.out]
  unfold lx.qStep
  simp only
  rw [if_neg (by rw [←HRC2.out];exact HM0.out),if_pos (by omega)]
  have hh:(if (55296≤lx.digits 16 0 ((rest s (x.at_+(k+2))).take 4)∧lx.digits 16 0 ((rest s (x.at_+(k+2))).take 4)≤57343)∨1114111<lx.digits 16 0 ((rest s (x.at_+(k+2))).take 4) then (if true=true then lx.Step.more 2 l true else .stop .fault) else .more (2+4) (l++Lib.encodeRune ((lx.digits 16 0 ((rest s (x.at_+(k+2))).take 4):Nat):Int)) err)=.more 2 l true:=by
   rw [HV2.out,if_pos hcp.out]
   rfl
  exact (escape_g hg.out).trans hh
 clear HM HM0 HRC2
 rw [hc] at J1
 unfold QRound QFr
 conv=>arg 2;whnf
 go_wp2_with (first
  | (go_at_call 78;refine (peekOk_z _ _ (by first|exact HL.out.at|exact (HL.out.drewN _).at) (by omega) (by omega) (by omega) (by omega) (by first|exact J0|exact J2)).mono ?_;rintro e w' ⟨rfl,n,rfl⟩)
  | (go_at_call 91;refine (slice_z _ _ vs (by first|exact HL.out.at|exact (HL.out.drewN _).at) (by omega) (by omega) (by omega) (by omega) (by omega) (by omega) hvs).mono ?_;rintro e w' ⟨rfl,n2,rfl⟩)
  | (go_at_call 80;refine (peek_z _ _ (by first|exact HL.out.at|exact (HL.out.drewN _).at) (by omega) (by first|exact pin|exact pin2) (by omega) (by first|exact J1|exact J3)).mono ?_;rintro e w' ⟨rfl,n3,rfl⟩))
 go_loopw [16,23] (fun ev jv wq=>∃j:Nat,jv=.int .i64 (j:Int)∧ev=.bool err∧j≤4∧∃m,wq=wr.drewN m) (fun _ jv _=>4-(intOf jv).toNat)
 case atStart=>exact ⟨0,rfl,rfl,by omega,_,rfl⟩
 case round =>
  obtain ⟨j,rfl,rfl,hj,m,rfl⟩:=hrel
  by_cases hj2:j<4
  ·have hbin:x.at_+(k+2)+j<s.size:=by omega
   have JH:Hid (lx.hex s[x.at_+(k+2)+j]=true):=all_some hbin hj2 hg.out.2
   have JA:Hid (inB s (x.at_+((k:Int)+2+(j:Int)).toNat)=true):=by
    show _=_
    have e:((k:Int)+2+(j:Int)).toNat=k+2+j:=by omega
    rw [e];simp [inB];omega
   have JB:Hid (bt s (x.at_+((k:Int)+2+(j:Int)).toNat)=(s[x.at_+(k+2)+j].toNat:Int)):=by
    have e:x.at_+((k:Int)+2+(j:Int)).toNat=x.at_+(k+2)+j:=by omega
    show _=_
    rw [e];exact bt_in hbin
   have pinj:x.at_+((k:Int)+2+(j:Int)).toNat<s.size:=by omega
   generalize s[x.at_+(k+2)+j]=c at *
   go_wp2_with (first
    | (go_at_call 78;refine (peekOk_z _ _ (HL.out.drewN _).at (by omega) (by omega) (by omega) (by omega) JA).mono ?_;rintro e w' ⟨rfl,n4,rfl⟩)
    | (go_at_call 80;refine (peek_z _ _ (HL.out.drewN _).at (by omega) pinj (by omega) JB).mono ?_;rintro e w' ⟨rfl,n5,rfl⟩)
    | (go_at_call 109;refine (hex_named c _ _ JH).mono ?_;rintro e w' ⟨rfl,rfl⟩))
   go_round
   case rel=>exact ⟨j+1,by go_num,rfl,by omega,_,rfl⟩
   case measure=>simp [intOf];omega
  ·have hj3:j=4:=by omega
   subst hj3
   have hcp':(55296≤(nv:Int)∧(nv:Int)≤57343)∨1114111<(nv:Int):=by have:=hcp.out;omega
   rcases hcp' with ⟨h1,h2⟩|h1
   all_goals go_wp2_with (first
    | (go_at_call 91;refine (slice_z _ _ vp (HL.out.drewN _).at (by omega) (by omega) (by omega) (by omega) (by omega) (by omega) hvp).mono ?_;rintro e w' ⟨rfl,n4,rfl⟩)
    | (go_at_call 111;refine (pu_good_16_32 vp hvn (by omega) HVB HG1 _).mono ?_;rw [hnv.out];rintro e w5 ⟨rfl,hb5⟩;have HB5:=Lib.hid hb5;clear hb5))
   all_goals refine ⟨⟨k+2,v,l,true,⟨rfl,rfl,rfl,rfl,rfl,rfl,rfl,rfl,rfl,rfl,rfl,rfl,rfl⟩,qi_skip HC.out HS.out (by omega) (by omega) ((below_drewN (Below.refl _ _) _).trans HB5.out)⟩, ?_⟩
   all_goals exact qmu_lt (k:=k) (j:=k+2) rfl rfl (by omega) (by omega)
set_option maxHeartbeats 4000000 in
set_option maxRecDepth 1000000 in
theorem quo_e85_gs_np (HC:Hid (QC w B b f s x Q q false true idn true o k v l err wr)) (SZ:s.size≤20000) (hq3:q.size≤3) (hin2:x.at_+(k+1)<s.size)
  (hm:Hid (¬(rest s (x.at_+k)).take q.size=Q)) (hc:(s[x.at_+k].toNat:Int)=92) (hd:s[x.at_+(k+1)]=85)
  (hg:Hid (8≤(rest s (x.at_+(k+2))).length∧((rest s (x.at_+(k+2))).take 8).all lx.hex=true))
  (hcp:Hid ( ((55296≤lx.digits 16 0 ((rest s (x.at_+(k+2))).take 8)∧lx.digits 16 0 ((rest s (x.at_+(k+2))).take 8)≤57343)∨1114111<lx.digits 16 0 ((rest s (x.at_+(k+2))).take 8)))) :
  QRound w B b f s x Q q nm false true idn true o (QFr u b q false true nm true (k:Int) v err) wr:=by
 have hin:x.at_+k<s.size:=by omega
 have HL:=Lib.hid HC.out.i.held.lex
 have J0:Hid (inB s (x.at_+(k:Int).toNat)=true):=by show _=_;simp [inB,hin]
 have J1:Hid (bt s (x.at_+(k:Int).toNat)=(s[x.at_+k].toNat:Int)):=by show bt s (x.at_+k)=_;exact bt_in hin
 obtain ⟨vs,hvs⟩:∃vs,Hid (s.extract (x.at_+(k:Int).toNat) (min (x.at_+((k:Int)+(q.size:Int)).toNat) s.size)=vs):=⟨_,rfl⟩
 have pin:x.at_+(k:Int).toNat<s.size:=by simpa using hin
 have hrc:=rest_cons s (x.at_+k) hin
 have hll:=look_list hin hvs
 have hcv:(vs.toList==q.toList)=false:=by
  rw [hll,HC.out.q]
  exact beq_eq_false_iff_ne.2 hm.out
 have hqs:q.size=Q.length:=by rw [←HC.out.q,toList_length]
 have hm':=hm.out
 rw [hqs,hrc] at hm'
 have HM:=Lib.hid hm'
 have HM0:Hid (¬(rest s (x.at_+k)).take Q.length=Q):=by rw [←hqs];exact hm.out
 have HQS:=Lib.hid hqs
 have HRC:=Lib.hid hrc
 have HR:=Lib.hid HC.out.i.row
 have hsz:=HC.out.i.held.grown.size
 have hlk:=HC.out.i.len
 clear hll hrc hm hm' hqs
 have J2:Hid (inB s (x.at_+((k:Int)+1).toNat)=true):=by
  show _=_
  have e:((k:Int)+1).toNat=k+1:=by omega
  rw [e];simp [inB];omega
 have J3:Hid (bt s (x.at_+((k:Int)+1).toNat)=(s[x.at_+(k+1)].toNat:Int)):=by
  have e:((k:Int)+1).toNat=k+1:=by omega
  show _=_
  rw [e];exact bt_in hin2
 have pin2:x.at_+((k:Int)+1).toNat<s.size:=by omega
 have hrc2:=rest_cons s (x.at_+(k+1)) hin2
 have hHRC:=HRC.out
 rw [show x.at_+k+1=x.at_+(k+1) from by omega,hrc2] at hHRC
 have HRC2:=Lib.hid hHRC
 clear hHRC hrc2 HRC
 rw [hd] at J3 HRC2
 have hcut:x.at_+(k+1)+1=x.at_+(k+2):=by omega
 rw [hcut] at HRC2
 clear hcut
 obtain ⟨vp,hvp⟩:∃vp,Hid (s.extract (x.at_+((k:Int)+2).toNat) (min (x.at_+((k:Int)+2+8).toNat) s.size)=vp):=⟨_,rfl⟩
 have hcl:=cut_list (a:=k+2) (e:=k+2+8) (by omega) (by omega) (by omega) (by omega) hvp
 have hvz:vp.size≤8:=by have:=hcl.2;omega
 have HVL:=Lib.hid (show vp.data.toList=(rest s (x.at_+(k+2))).take 8 by have:=hcl.1;rw [show k+2+8-(k+2)=8 by omega] at this;exact this)
 have HVB:Hid (∀j,j≤vp.size→(vp.data.toList.take j).all (digB 16)=true→lx.digits 16 0 (vp.data.toList.take j)≤4294967295):=by
  intro j hj ha
  have h1:=digits_lt 16 (.inl rfl) _ 0 1 ha (by omega)
  have h2:(vp.data.toList.take j).length≤8:=by rw [List.length_take];omega
  have h3:(16:Nat) ^ (vp.data.toList.take j).length≤16 ^ 8:=Nat.pow_le_pow_right (by omega) h2
  omega
 have HGD:=Lib.hid (show vp.data.toList.all (digB 16)=((rest s (x.at_+(k+2))).take 8).all lx.hex by rw [HVL.out];rfl)
 clear hcl
 have hl2:x.at_+(k+2+8)≤s.size:=by have:=hg.out.1;rw [rest_length] at this;omega
 have HG1:Hid (vp.data.toList.all (digB 16)=true):=HGD.out.trans hg.out.2
 have hvn:vp.size≠0:=by
  intro h0
  have h1:=congrArg List.length HVL.out
  rw [size_list,h0] at h1
  have h2:=hg.out.1
  simp at h1 <;> omega
 have hnm:lx.digits 16 0 vp.data.toList≤4294967295:=by
  have h:=HVB.out vp.size (Nat.le_refl _)
  rw [List.take_of_length_le (by rw [size_list];omega)] at h
  exact h HG1.out
 obtain ⟨nv,hnv⟩:∃nv,Hid (lx.digits 16 0 vp.data.toList=nv):=⟨_,rfl⟩
 rw [hnv.out] at hnm
 have HV2:Hid (lx.digits 16 0 ((rest s (x.at_+(k+2))).take 8)=nv):=by
  show _=_
  rw [←hnv.out,HVL.out]
 rw [HV2.out] at hcp
 have HS:Hid (lx.qStep Q false true idn true k (rest s (x.at_+k)) l err=.more 2 l true):=by
  show _=_
  rw [HRC2.out]
  unfold lx.qStep
  simp only
  rw [if_neg (by rw [←HRC2.out];exact HM0.out),if_pos (by omega)]
  have hh:(if (55296≤lx.digits 16 0 ((rest s (x.at_+(k+2))).take 8)∧lx.digits 16 0 ((rest s (x.at_+(k+2))).take 8)≤57343)∨1114111<lx.digits 16 0 ((rest s (x.at_+(k+2))).take 8) then (if true=true then lx.Step.more 2 l true else .stop .fault) else .more (2+8) (l++Lib.encodeRune ((lx.digits 16 0 ((rest s (x.at_+(k+2))).take 8):Nat):Int)) err)=.more 2 l true:=by
   rw [HV2.out,if_pos hcp.out]
   rfl
  exact (escape_g hg.out).trans hh
 clear HM HM0 HRC2
 rw [hc] at J1
 unfold QRound QFr
 conv=>arg 2;whnf
 go_wp2_with (first
  | (go_at_call 78;refine (peekOk_z _ _ (by first|exact HL.out.at|exact (HL.out.drewN _).at) (by omega) (by omega) (by omega) (by omega) (by first|exact J0|exact J2)).mono ?_;rintro e w' ⟨rfl,n,rfl⟩)
  | (go_at_call 91;refine (slice_z _ _ vs (by first|exact HL.out.at|exact (HL.out.drewN _).at) (by omega) (by omega) (by omega) (by omega) (by omega) (by omega) hvs).mono ?_;rintro e w' ⟨rfl,n2,rfl⟩)
  | (go_at_call 80;refine (peek_z _ _ (by first|exact HL.out.at|exact (HL.out.drewN _).at) (by omega) (by first|exact pin|exact pin2) (by omega) (by first|exact J1|exact J3)).mono ?_;rintro e w' ⟨rfl,n3,rfl⟩))
 go_loopw [16,23] (fun ev jv wq=>∃j:Nat,jv=.int .i64 (j:Int)∧ev=.bool err∧j≤8∧∃m,wq=wr.drewN m) (fun _ jv _=>8-(intOf jv).toNat)
 case atStart=>exact ⟨0,rfl,rfl,by omega,_,rfl⟩
 case round =>
  obtain ⟨j,rfl,rfl,hj,m,rfl⟩:=hrel
  by_cases hj2:j<8
  ·have hbin:x.at_+(k+2)+j<s.size:=by omega
   have JH:Hid (lx.hex s[x.at_+(k+2)+j]=true):=all_some hbin hj2 hg.out.2
   have JA:Hid (inB s (x.at_+((k:Int)+2+(j:Int)).toNat)=true):=by
    show _=_
    have e:((k:Int)+2+(j:Int)).toNat=k+2+j:=by omega
    rw [e];simp [inB];omega
   have JB:Hid (bt s (x.at_+((k:Int)+2+(j:Int)).toNat)=(s[x.at_+(k+2)+j].toNat:Int)):=by
    have e:x.at_+((k:Int)+2+(j:Int)).toNat=x.at_+(k+2)+j:=by omega
    show _=_
    rw [e];exact bt_in hbin
   have pinj:x.at_+((k:Int)+2+(j:Int)).toNat<s.size:=by omega
   generalize s[x.at_+(k+2)+j]=c at *
   go_wp2_with (first
    | (go_at_call 78;refine (peekOk_z _ _ (HL.out.drewN _).at (by omega) (by omega) (by omega) (by omega) JA).mono ?_;rintro e w' ⟨rfl,n4,rfl⟩)
    | (go_at_call 80;refine (peek_z _ _ (HL.out.drewN _).at (by omega) pinj (by omega) JB).mono ?_;rintro e w' ⟨rfl,n5,rfl⟩)
    | (go_at_call 109;refine (hex_named c _ _ JH).mono ?_;rintro e w' ⟨rfl,rfl⟩))
   go_round
   case rel=>exact ⟨j+1,by go_num,rfl,by omega,_,rfl⟩
   case measure=>simp [intOf];omega
  ·have hj3:j=8:=by omega
   subst hj3
   have hcp':(55296≤(nv:Int)∧(nv:Int)≤57343)∨1114111<(nv:Int):=by have:=hcp.out;omega
   rcases hcp' with ⟨h1,h2⟩|h1
   all_goals go_wp2_with (first
    | (go_at_call 91;refine (slice_z _ _ vp (HL.out.drewN _).at (by omega) (by omega) (by omega) (by omega) (by omega) (by omega) hvp).mono ?_;rintro e w' ⟨rfl,n4,rfl⟩)
    | (go_at_call 111;refine (pu_good_16_32 vp hvn (by omega) HVB HG1 _).mono ?_;rw [hnv.out];rintro e w5 ⟨rfl,hb5⟩;have HB5:=Lib.hid hb5;clear hb5))
   all_goals refine ⟨⟨k+2,v,l,true,⟨rfl,rfl,rfl,rfl,rfl,rfl,rfl,rfl,rfl,rfl,rfl,rfl,rfl⟩,qi_skip HC.out HS.out (by omega) (by omega) ((below_drewN (Below.refl _ _) _).trans HB5.out)⟩, ?_⟩
   all_goals exact qmu_lt (k:=k) (j:=k+2) rfl rfl (by omega) (by omega)
set_option maxHeartbeats 4000000 in
set_option maxRecDepth 1000000 in
theorem quo_e117_gs_p (HC:Hid (QC w B b f s x Q q false true idn false o k v l err wr)) (SZ:s.size≤20000) (hq3:q.size≤3) (hin2:x.at_+(k+1)<s.size)
  (hm:Hid (¬(rest s (x.at_+k)).take q.size=Q)) (hc:(s[x.at_+k].toNat:Int)=92) (hd:s[x.at_+(k+1)]=117)
  (hg:Hid (4≤(rest s (x.at_+(k+2))).length∧((rest s (x.at_+(k+2))).take 4).all lx.hex=true))
  (hcp:Hid ( ((55296≤lx.digits 16 0 ((rest s (x.at_+(k+2))).take 4)∧lx.digits 16 0 ((rest s (x.at_+(k+2))).take 4)≤57343)∨1114111<lx.digits 16 0 ((rest s (x.at_+(k+2))).take 4)))) :
  QRound w B b f s x Q q nm false true idn false o (QFr u b q false true nm false (k:Int) v err) wr:=by
 have hin:x.at_+k<s.size:=by omega
 have HL:=Lib.hid HC.out.i.held.lex
 have J0:Hid (inB s (x.at_+(k:Int).toNat)=true):=by show _=_;simp [inB,hin]
 have J1:Hid (bt s (x.at_+(k:Int).toNat)=(s[x.at_+k].toNat:Int)):=by show bt s (x.at_+k)=_;exact bt_in hin
 obtain ⟨vs,hvs⟩:∃vs,Hid (s.extract (x.at_+(k:Int).toNat) (min (x.at_+((k:Int)+(q.size:Int)).toNat) s.size)=vs):=⟨_,rfl⟩
 have pin:x.at_+(k:Int).toNat<s.size:=by simpa using hin
 have hrc:=rest_cons s (x.at_+k) hin
 have hll:=look_list hin hvs
 have hcv:(vs.toList==q.toList)=false:=by
  rw [hll,HC.out.q]
  exact beq_eq_false_iff_ne.2 hm.out
 have hqs:q.size=Q.length:=by rw [←HC.out.q,toList_length]
 have hm':=hm.out
 rw [hqs,hrc] at hm'
 have HM:=Lib.hid hm'
 have HM0:Hid (¬(rest s (x.at_+k)).take Q.length=Q):=by rw [←hqs];exact hm.out
 have HQS:=Lib.hid hqs
 have HRC:=Lib.hid hrc
 have HR:=Lib.hid HC.out.i.row
 have hsz:=HC.out.i.held.grown.size
 have hlk:=HC.out.i.len
 clear hll hrc hm hm' hqs
 have J2:Hid (inB s (x.at_+((k:Int)+1).toNat)=true):=by
  show _=_
  have e:((k:Int)+1).toNat=k+1:=by omega
  rw [e];simp [inB];omega
 have J3:Hid (bt s (x.at_+((k:Int)+1).toNat)=(s[x.at_+(k+1)].toNat:Int)):=by
  have e:((k:Int)+1).toNat=k+1:=by omega
  show _=_
  rw [e];exact bt_in hin2
 have pin2:x.at_+((k:Int)+1).toNat<s.size:=by omega
 have hrc2:=rest_cons s (x.at_+(k+1)) hin2
 have hHRC:=HRC.out
 rw [show x.at_+k+1=x.at_+(k+1) from by omega,hrc2] at hHRC
 have HRC2:=Lib.hid hHRC
 clear hHRC hrc2 HRC
 rw [hd] at J3 HRC2
 have hcut:x.at_+(k+1)+1=x.at_+(k+2):=by omega
 rw [hcut] at HRC2
 clear hcut
 obtain ⟨vp,hvp⟩:∃vp,Hid (s.extract (x.at_+((k:Int)+2).toNat) (min (x.at_+((k:Int)+2+4).toNat) s.size)=vp):=⟨_,rfl⟩
 have hcl:=cut_list (a:=k+2) (e:=k+2+4) (by omega) (by omega) (by omega) (by omega) hvp
 have hvz:vp.size≤4:=by have:=hcl.2;omega
 have HVL:=Lib.hid (show vp.data.toList=(rest s (x.at_+(k+2))).take 4 by have:=hcl.1;rw [show k+2+4-(k+2)=4 by omega] at this;exact this)
 have HVB:Hid (∀j,j≤vp.size→(vp.data.toList.take j).all (digB 16)=true→lx.digits 16 0 (vp.data.toList.take j)≤4294967295):=by
  intro j hj ha
  have h1:=digits_lt 16 (.inl rfl) _ 0 1 ha (by omega)
  have h2:(vp.data.toList.take j).length≤4:=by rw [List.length_take];omega
  have h3:(16:Nat) ^ (vp.data.toList.take j).length≤16 ^ 4:=Nat.pow_le_pow_right (by omega) h2
  omega
 have HGD:=Lib.hid (show vp.data.toList.all (digB 16)=((rest s (x.at_+(k+2))).take 4).all lx.hex by rw [HVL.out];rfl)
 clear hcl
 have hl2:x.at_+(k+2+4)≤s.size:=by have:=hg.out.1;rw [rest_length] at this;omega
 have HG1:Hid (vp.data.toList.all (digB 16)=true):=HGD.out.trans hg.out.2
 have hvn:vp.size≠0:=by
  intro h0
  have h1:=congrArg List.length HVL.out
  rw [size_list,h0] at h1
  have h2:=hg.out.1
  simp at h1 <;> omega
 have hnm:lx.digits 16 0 vp.data.toList≤4294967295:=by
  have h:=HVB.out vp.size (Nat.le_refl _)
  rw [List.take_of_length_le (by rw [size_list];omega)] at h
  exact h HG1.out
 obtain ⟨nv,hnv⟩:∃nv,Hid (lx.digits 16 0 vp.data.toList=nv):=⟨_,rfl⟩
 rw [hnv.out] at hnm
 have HV2:Hid (lx.digits 16 0 ((rest s (x.at_+(k+2))).take 4)=nv):=by
  show _=_
  rw [←hnv.out,HVL.out]
 rw [HV2.out] at hcp
 have HS:Hid (lx.qStep Q false true idn false k (rest s (x.at_+k)) l err=.stop .fault):=by
  show _=_
  rw [HRC2.out]
  unfold lx.qStep
  simp only
  rw [if_neg (by rw [←HRC2.out];exact HM0.out),if_pos (by omega)]
  have hh:(if (55296≤lx.digits 16 0 ((rest s (x.at_+(k+2))).take 4)∧lx.digits 16 0 ((rest s (x.at_+(k+2))).take 4)≤57343)∨1114111<lx.digits 16 0 ((rest s (x.at_+(k+2))).take 4) then (if false=true then lx.Step.more 2 l true else .stop .fault) else .more (2+4) (l++Lib.encodeRune ((lx.digits 16 0 ((rest s (x.at_+(k+2))).take 4):Nat):Int)) err)=.stop .fault:=by
   rw [HV2.out,if_pos hcp.out]
   rfl
  exact (escape_g hg.out).trans hh
 clear HM HM0 HRC2
 rw [hc] at J1
 unfold QRound QFr
 conv=>arg 2;whnf
 go_wp2_with (first
  | (go_at_call 78;refine (peekOk_z _ _ (by first|exact HL.out.at|exact (HL.out.drewN _).at) (by omega) (by omega) (by omega) (by omega) (by first|exact J0|exact J2)).mono ?_;rintro e w' ⟨rfl,n,rfl⟩)
  | (go_at_call 91;refine (slice_z _ _ vs (by first|exact HL.out.at|exact (HL.out.drewN _).at) (by omega) (by omega) (by omega) (by omega) (by omega) (by omega) hvs).mono ?_;rintro e w' ⟨rfl,n2,rfl⟩)
  | (go_at_call 80;refine (peek_z _ _ (by first|exact HL.out.at|exact (HL.out.drewN _).at) (by omega) (by first|exact pin|exact pin2) (by omega) (by first|exact J1|exact J3)).mono ?_;rintro e w' ⟨rfl,n3,rfl⟩))
 go_loopw [16,23] (fun ev jv wq=>∃j:Nat,jv=.int .i64 (j:Int)∧ev=.bool err∧j≤4∧∃m,wq=wr.drewN m) (fun _ jv _=>4-(intOf jv).toNat)
 case atStart=>exact ⟨0,rfl,rfl,by omega,_,rfl⟩
 case round =>
  obtain ⟨j,rfl,rfl,hj,m,rfl⟩:=hrel
  by_cases hj2:j<4
  ·have hbin:x.at_+(k+2)+j<s.size:=by omega
   have JH:Hid (lx.hex s[x.at_+(k+2)+j]=true):=all_some hbin hj2 hg.out.2
   have JA:Hid (inB s (x.at_+((k:Int)+2+(j:Int)).toNat)=true):=by
    show _=_
    have e:((k:Int)+2+(j:Int)).toNat=k+2+j:=by omega
    rw [e];simp [inB];omega
   have JB:Hid (bt s (x.at_+((k:Int)+2+(j:Int)).toNat)=(s[x.at_+(k+2)+j].toNat:Int)):=by
    have e:x.at_+((k:Int)+2+(j:Int)).toNat=x.at_+(k+2)+j:=by omega
    show _=_
    rw [e];exact bt_in hbin
   have pinj:x.at_+((k:Int)+2+(j:Int)).toNat<s.size:=by omega
   generalize s[x.at_+(k+2)+j]=c at *
   go_wp2_with (first
    | (go_at_call 78;refine (peekOk_z _ _ (HL.out.drewN _).at (by omega) (by omega) (by omega) (by omega) JA).mono ?_;rintro e w' ⟨rfl,n4,rfl⟩)
    | (go_at_call 80;refine (peek_z _ _ (HL.out.drewN _).at (by omega) pinj (by omega) JB).mono ?_;rintro e w' ⟨rfl,n5,rfl⟩)
    | (go_at_call 109;refine (hex_named c _ _ JH).mono ?_;rintro e w' ⟨rfl,rfl⟩))
   go_round
   case rel=>exact ⟨j+1,by go_num,rfl,by omega,_,rfl⟩
   case measure=>simp [intOf];omega
  ·have hj3:j=4:=by omega
   subst hj3
   have hcp':(55296≤(nv:Int)∧(nv:Int)≤57343)∨1114111<(nv:Int):=by have:=hcp.out;omega
   rcases hcp' with ⟨h1,h2⟩|h1
   iterate 2
    ·go_wp2_with (first
      | (go_at_call 91;refine (slice_z _ _ vp (HL.out.drewN _).at (by omega) (by omega) (by omega) (by omega) (by omega) (by omega) hvp).mono ?_;rintro e w' ⟨rfl,n4,rfl⟩)
      | (go_at_call 111;refine (pu_good_16_32 vp hvn (by omega) HVB HG1 _).mono ?_;rw [hnv.out];rintro e w5 ⟨rfl,hb5⟩;have HB5:=Lib.hid hb5;clear hb5))
     have HK:Hid (Held w B b f s x w5):=⟨(HC.out.i.held.lex.drewN _).below HB5.out,grown_trans (grown_drewN HC.out.i.held.grown _) (grown_below HB5.out _)⟩
     have HD:=held_drew HK
     obtain ⟨c0,c1,c9⟩:=HK.out.lex.at
     have hxa:x.at_≤20000:=by omega
     have hka:k≤20000:=by omega
     have HO:=Lib.hid (quo_fault HC.out.i HS.out)
     have hw1:=IntWalk.i64_in ((x.at_:Int)+((k:Int)+1+1)) (by omega)
     have hw2:=IntWalk.i64_in ((x.at_:Int)+((k:Int)+2)) (by omega)
     have hw3:=IntWalk.i64_in ((x.at_:Int)+((k:Int)+1+1)-2) (by omega)
     have hw4:=IntWalk.i64_in ((x.at_:Int)+((k:Int)+2)-2) (by omega)
     have hw5:=IntWalk.i64_in ((x.at_:Int)+((k:Int)+1+1)+4) (by omega)
     have hw6:=IntWalk.i64_in ((x.at_:Int)+((k:Int)+2)+4) (by omega)
     clear HC HL HR hcv hlk hsz
     go_region_held2 (fun W=>W.cell? ⟨b,9,none⟩=some (.int .i64 (x.at_:Int)))
      (first|exact (‹Hid False›).out.elim|assumption)
      (first|(go_at_call 108;refine (panicfAt_w HD.out.lex _ _ _ (by omega) (by omega) (by omega)).mono ?_;rintro e w' (⟨m,rfl,hm⟩|⟨hF,rfl⟩);exact (show QEnd w B b f s x q nm false true false o _ _ _ from qend_fault HO.out HD.out m hm)))
     all_goals exact (‹Hid False›).out.elim
set_option maxHeartbeats 4000000 in
set_option maxRecDepth 1000000 in
theorem quo_e85_gs_p (HC:Hid (QC w B b f s x Q q false true idn false o k v l err wr)) (SZ:s.size≤20000) (hq3:q.size≤3) (hin2:x.at_+(k+1)<s.size)
  (hm:Hid (¬(rest s (x.at_+k)).take q.size=Q)) (hc:(s[x.at_+k].toNat:Int)=92) (hd:s[x.at_+(k+1)]=85)
  (hg:Hid (8≤(rest s (x.at_+(k+2))).length∧((rest s (x.at_+(k+2))).take 8).all lx.hex=true))
  (hcp:Hid ( ((55296≤lx.digits 16 0 ((rest s (x.at_+(k+2))).take 8)∧lx.digits 16 0 ((rest s (x.at_+(k+2))).take 8)≤57343)∨1114111<lx.digits 16 0 ((rest s (x.at_+(k+2))).take 8)))) :
  QRound w B b f s x Q q nm false true idn false o (QFr u b q false true nm false (k:Int) v err) wr:=by
 have hin:x.at_+k<s.size:=by omega
 have HL:=Lib.hid HC.out.i.held.lex
 have J0:Hid (inB s (x.at_+(k:Int).toNat)=true):=by show _=_;simp [inB,hin]
 have J1:Hid (bt s (x.at_+(k:Int).toNat)=(s[x.at_+k].toNat:Int)):=by show bt s (x.at_+k)=_;exact bt_in hin
 obtain ⟨vs,hvs⟩:∃vs,Hid (s.extract (x.at_+(k:Int).toNat) (min (x.at_+((k:Int)+(q.size:Int)).toNat) s.size)=vs):=⟨_,rfl⟩
 have pin:x.at_+(k:Int).toNat<s.size:=by simpa using hin
 have hrc:=rest_cons s (x.at_+k) hin
 have hll:=look_list hin hvs
 have hcv:(vs.toList==q.toList)=false:=by
  rw [hll,HC.out.q]
  exact beq_eq_false_iff_ne.2 hm.out
 have hqs:q.size=Q.length:=by rw [←HC.out.q,toList_length]
 have hm':=hm.out
 rw [hqs,hrc] at hm'
 have HM:=Lib.hid hm'
 have HM0:Hid (¬(rest s (x.at_+k)).take Q.length=Q):=by rw [←hqs];exact hm.out
 have HQS:=Lib.hid hqs
 have HRC:=Lib.hid hrc
 have HR:=Lib.hid HC.out.i.row
 have hsz:=HC.out.i.held.grown.size
 have hlk:=HC.out.i.len
 clear hll hrc hm hm' hqs
 have J2:Hid (inB s (x.at_+((k:Int)+1).toNat)=true):=by
  show _=_
  have e:((k:Int)+1).toNat=k+1:=by omega
  rw [e];simp [inB];omega
 have J3:Hid (bt s (x.at_+((k:Int)+1).toNat)=(s[x.at_+(k+1)].toNat:Int)):=by
  have e:((k:Int)+1).toNat=k+1:=by omega
  show _=_
  rw [e];exact bt_in hin2
 have pin2:x.at_+((k:Int)+1).toNat<s.size:=by omega
 have hrc2:=rest_cons s (x.at_+(k+1)) hin2
 have hHRC:=HRC.out
 rw [show x.at_+k+1=x.at_+(k+1) from by omega,hrc2] at hHRC
 have HRC2:=Lib.hid hHRC
 clear hHRC hrc2 HRC
 rw [hd] at J3 HRC2
 have hcut:x.at_+(k+1)+1=x.at_+(k+2):=by omega
 rw [hcut] at HRC2
 clear hcut
 obtain ⟨vp,hvp⟩:∃vp,Hid (s.extract (x.at_+((k:Int)+2).toNat) (min (x.at_+((k:Int)+2+8).toNat) s.size)=vp):=⟨_,rfl⟩
 have hcl:=cut_list (a:=k+2) (e:=k+2+8) (by omega) (by omega) (by omega) (by omega) hvp
 have hvz:vp.size≤8:=by have:=hcl.2;omega
 have HVL:=Lib.hid (show vp.data.toList=(rest s (x.at_+(k+2))).take 8 by have:=hcl.1;rw [show k+2+8-(k+2)=8 by omega] at this;exact this)
 have HVB:Hid (∀j,j≤vp.size→(vp.data.toList.take j).all (digB 16)=true→lx.digits 16 0 (vp.data.toList.take j)≤4294967295):=by
  intro j hj ha
  have h1:=digits_lt 16 (.inl rfl) _ 0 1 ha (by omega)
  have h2:(vp.data.toList.take j).length≤8:=by rw [List.length_take];omega
  have h3:(16:Nat) ^ (vp.data.toList.take j).length≤16 ^ 8:=Nat.pow_le_pow_right (by omega) h2
  omega
 have HGD:=Lib.hid (show vp.data.toList.all (digB 16)=((rest s (x.at_+(k+2))).take 8).all lx.hex by rw [HVL.out];rfl)
 clear hcl
 have hl2:x.at_+(k+2+8)≤s.size:=by have:=hg.out.1;rw [rest_length] at this;omega
 have HG1:Hid (vp.data.toList.all (digB 16)=true):=HGD.out.trans hg.out.2
 have hvn:vp.size≠0:=by
  intro h0
  have h1:=congrArg List.length HVL.out
  rw [size_list,h0] at h1
  have h2:=hg.out.1
  simp at h1 <;> omega
 have hnm:lx.digits 16 0 vp.data.toList≤4294967295:=by
  have h:=HVB.out vp.size (Nat.le_refl _)
  rw [List.take_of_length_le (by rw [size_list];omega)] at h
  exact h HG1.out
 obtain ⟨nv,hnv⟩:∃nv,Hid (lx.digits 16 0 vp.data.toList=nv):=⟨_,rfl⟩
 rw [hnv.out] at hnm
 have HV2:Hid (lx.digits 16 0 ((rest s (x.at_+(k+2))).take 8)=nv):=by
  show _=_
  rw [←hnv.out,HVL.out]
 rw [HV2.out] at hcp
 have HS:Hid (lx.qStep Q false true idn false k (rest s (x.at_+k)) l err=.stop .fault):=by
  show _=_
  rw [HRC2.out]
  unfold lx.qStep
  simp only
  rw [if_neg (by rw [←HRC2.out];exact HM0.out),if_pos (by omega)]
  have hh:(if (55296≤lx.digits 16 0 ((rest s (x.at_+(k+2))).take 8)∧lx.digits 16 0 ((rest s (x.at_+(k+2))).take 8)≤57343)∨1114111<lx.digits 16 0 ((rest s (x.at_+(k+2))).take 8) then (if false=true then lx.Step.more 2 l true else .stop .fault) else .more (2+8) (l++Lib.encodeRune ((lx.digits 16 0 ((rest s (x.at_+(k+2))).take 8):Nat):Int)) err)=.stop .fault:=by
   rw [HV2.out,if_pos hcp.out]
   rfl
  exact (escape_g hg.out).trans hh
 clear HM HM0 HRC2
 rw [hc] at J1
 unfold QRound QFr
 conv=>arg 2;whnf
 go_wp2_with (first
  | (go_at_call 78;refine (peekOk_z _ _ (by first|exact HL.out.at|exact (HL.out.drewN _).at) (by omega) (by omega) (by omega) (by omega) (by first|exact J0|exact J2)).mono ?_;rintro e w' ⟨rfl,n,rfl⟩)
  | (go_at_call 91;refine (slice_z _ _ vs (by first|exact HL.out.at|exact (HL.out.drewN _).at) (by omega) (by omega) (by omega) (by omega) (by omega) (by omega) hvs).mono ?_;rintro e w' ⟨rfl,n2,rfl⟩)
  | (go_at_call 80;refine (peek_z _ _ (by first|exact HL.out.at|exact (HL.out.drewN _).at) (by omega) (by first|exact pin|exact pin2) (by omega) (by first|exact J1|exact J3)).mono ?_;rintro e w' ⟨rfl,n3,rfl⟩))
 go_loopw [16,23] (fun ev jv wq=>∃j:Nat,jv=.int .i64 (j:Int)∧ev=.bool err∧j≤8∧∃m,wq=wr.drewN m) (fun _ jv _=>8-(intOf jv).toNat)
 case atStart=>exact ⟨0,rfl,rfl,by omega,_,rfl⟩
 case round =>
  obtain ⟨j,rfl,rfl,hj,m,rfl⟩:=hrel
  by_cases hj2:j<8
  ·have hbin:x.at_+(k+2)+j<s.size:=by omega
   have JH:Hid (lx.hex s[x.at_+(k+2)+j]=true):=all_some hbin hj2 hg.out.2
   have JA:Hid (inB s (x.at_+((k:Int)+2+(j:Int)).toNat)=true):=by
    show _=_
    have e:((k:Int)+2+(j:Int)).toNat=k+2+j:=by omega
    rw [e];simp [inB];omega
   have JB:Hid (bt s (x.at_+((k:Int)+2+(j:Int)).toNat)=(s[x.at_+(k+2)+j].toNat:Int)):=by
    have e:x.at_+((k:Int)+2+(j:Int)).toNat=x.at_+(k+2)+j:=by omega
    show _=_
    rw [e];exact bt_in hbin
   have pinj:x.at_+((k:Int)+2+(j:Int)).toNat<s.size:=by omega
   generalize s[x.at_+(k+2)+j]=c at *
   go_wp2_with (first
    | (go_at_call 78;refine (peekOk_z _ _ (HL.out.drewN _).at (by omega) (by omega) (by omega) (by omega) JA).mono ?_;rintro e w' ⟨rfl,n4,rfl⟩)
    | (go_at_call 80;refine (peek_z _ _ (HL.out.drewN _).at (by omega) pinj (by omega) JB).mono ?_;rintro e w' ⟨rfl,n5,rfl⟩)
    | (go_at_call 109;refine (hex_named c _ _ JH).mono ?_;rintro e w' ⟨rfl,rfl⟩))
   go_round
   case rel=>exact ⟨j+1,by go_num,rfl,by omega,_,rfl⟩
   case measure=>simp [intOf];omega
  ·have hj3:j=8:=by omega
   subst hj3
   have hcp':(55296≤(nv:Int)∧(nv:Int)≤57343)∨1114111<(nv:Int):=by have:=hcp.out;omega
   rcases hcp' with ⟨h1,h2⟩|h1
   iterate 2
    ·go_wp2_with (first
      | (go_at_call 91;refine (slice_z _ _ vp (HL.out.drewN _).at (by omega) (by omega) (by omega) (by omega) (by omega) (by omega) hvp).mono ?_;rintro e w' ⟨rfl,n4,rfl⟩)
      | (go_at_call 111;refine (pu_good_16_32 vp hvn (by omega) HVB HG1 _).mono ?_;rw [hnv.out];rintro e w5 ⟨rfl,hb5⟩;have HB5:=Lib.hid hb5;clear hb5))
     have HK:Hid (Held w B b f s x w5):=⟨(HC.out.i.held.lex.drewN _).below HB5.out,grown_trans (grown_drewN HC.out.i.held.grown _) (grown_below HB5.out _)⟩
     have HD:=held_drew HK
     obtain ⟨c0,c1,c9⟩:=HK.out.lex.at
     have hxa:x.at_≤20000:=by omega
     have hka:k≤20000:=by omega
     have HO:=Lib.hid (quo_fault HC.out.i HS.out)
     have hw1:=IntWalk.i64_in ((x.at_:Int)+((k:Int)+1+1)) (by omega)
     have hw2:=IntWalk.i64_in ((x.at_:Int)+((k:Int)+2)) (by omega)
     have hw3:=IntWalk.i64_in ((x.at_:Int)+((k:Int)+1+1)-2) (by omega)
     have hw4:=IntWalk.i64_in ((x.at_:Int)+((k:Int)+2)-2) (by omega)
     have hw5:=IntWalk.i64_in ((x.at_:Int)+((k:Int)+1+1)+8) (by omega)
     have hw6:=IntWalk.i64_in ((x.at_:Int)+((k:Int)+2)+8) (by omega)
     clear HC HL HR hcv hlk hsz
     go_region_held2 (fun W=>W.cell? ⟨b,9,none⟩=some (.int .i64 (x.at_:Int)))
      (first|exact (‹Hid False›).out.elim|assumption)
      (first|(go_at_call 108;refine (panicfAt_w HD.out.lex _ _ _ (by omega) (by omega) (by omega)).mono ?_;rintro e w' (⟨m,rfl,hm⟩|⟨hF,rfl⟩);exact (show QEnd w B b f s x q nm false true false o _ _ _ from qend_fault HO.out HD.out m hm)))
     all_goals exact (‹Hid False›).out.elim
end
end Go.Proofs.YtaamolahbkgofaaGreatDoor.lex
