/-
  Rounds of consumeQuotedContent's loop: escapes of digits. Conditions: of each, in its statement. (Written by wip/mkesc.py.).
-/
import Derived.Test.YtaamolahbkgofaaGreatDoorK16
set_option linter.unusedVariables false
namespace Go.Proofs.YtaamolahbkgofaaGreatDoor.lex
open Go.RowKit mem lines
theorem enc_new (w5:World) (nv nl:Nat) (h:nv≤1114111) (hnl:Hid ((Lib.encodeRune (nv:Int)).length=nl)) :
  Calls Tryz.prog 112 #[.slice (some ⟨w5.heap.size,0,none⟩) 4 4,.int .i32 (nv:Int)] (w5.alloc (.cells #[.int .u8 0,.int .u8 0,.int .u8 0,.int .u8 0] 167)) fun e w' =>
   e=.returned (.int .i64 (nl:Int))∧Below w5.heap.size w5 w'∧∀j u,((Lib.encodeRune (nv:Int)).map u8V)[j]?=some u→w'.cell? ((⟨w5.heap.size,0,none⟩:Addr).add j)=some u:=by
 have hnew:(w5.alloc (.cells #[.int .u8 0,.int .u8 0,.int .u8 0,.int .u8 0] 167)).heap[w5.heap.size]?=some (.cells #[.int .u8 0,.int .u8 0,.int .u8 0,.int .u8 0] 167 (0,0)):=by
  show (w5.heap.push _)[w5.heap.size]?=_
  simp
 have hle:=Lib.runeCells_le (nv:Int)
 have hcell:∀j,j<4→((w5.alloc (.cells #[.int .u8 0,.int .u8 0,.int .u8 0,.int .u8 0] 167)).cell? ⟨w5.heap.size,j,none⟩).isSome=true:=fun j hj=>by
  rw [cells_of_heap hnew j]
  match j,hj with
  | 0,_=>rfl
  | 1,_=>rfl
  | 2,_=>rfl
  | 3,_=>rfl
  | j+4,hj=>omega
 refine (encodeRune_any w5.heap.size 0 4 4 (nv:Int) (by omega) (by omega) _ hle.2 (fun j hj=>by rw [Nat.zero_add];exact hcell j (by omega)) (fun j hj=>by rw [Nat.zero_add];exact free_of_heap hnew j)).mono fun e w' ⟨he,hw⟩=>⟨?_, ?_, ?_⟩
 ·rw [he,Lib.runeCells_length,hnl.out]
 ·rw [hw]
  exact (below_alloc w5 _).trans (Lib.below_setCells_w (Nat.le_refl _) _ _ _)
 ·intro j u hj
  rw [hw]
  have e:(Lib.encodeRune (nv:Int)).map u8V=Lib.runeCells (nv:Int):=Lib.byteCells_encodeRune (nv:Int)
  rw [e] at hj
  have hjl:j<(Lib.runeCells (nv:Int)).length:=(List.getElem?_eq_some_iff.1 hj).1
  have key:=World.cell?_setCells_in w5.heap.size (Lib.runeCells (nv:Int)) 0 (w5.alloc (.cells #[.int .u8 0,.int .u8 0,.int .u8 0,.int .u8 0] 167)) (fun j hj=>by rw [Nat.zero_add];exact hcell j (by omega)) j hjl
  rw [Nat.zero_add] at key
  have ea:(⟨w5.heap.size,0,none⟩:Addr).add j=⟨w5.heap.size,j,none⟩:=by
   simp only [Addr.add]
   split <;> simp_all
  rw [ea,key,←List.getElem?_eq_getElem hjl]
  exact hj
section
variable {w wr:World} {B b f:Nat} {s q nm:ByteArray} {x:St} {Q:lx.Bs} {raw uni idn np:Bool} {o:lx.QOut} {k:Nat} {v:Value} {l:lx.Bs} {err:Bool} {u:Nat→Value}
set_option maxHeartbeats 4000000 in
set_option maxRecDepth 1000000 in
theorem quo_e117_gok (HC:Hid (QC w B b f s x Q q false true idn np o k v l err wr)) (SZ:s.size≤20000) (hq3:q.size≤3) (hin2:x.at_+(k+1)<s.size)
  (hm:Hid (¬(rest s (x.at_+k)).take q.size=Q)) (hc:(s[x.at_+k].toNat:Int)=92) (hd:s[x.at_+(k+1)]=117)
  (hg:Hid (4≤(rest s (x.at_+(k+2))).length∧((rest s (x.at_+(k+2))).take 4).all lx.hex=true))
  (hcp:Hid (¬((55296≤lx.digits 16 0 ((rest s (x.at_+(k+2))).take 4)∧lx.digits 16 0 ((rest s (x.at_+(k+2))).take 4)≤57343)∨1114111<lx.digits 16 0 ((rest s (x.at_+(k+2))).take 4)))) :
  QRound w B b f s x Q q nm false true idn np o (QFr u b q false true nm np (k:Int) v err) wr:=by
 have hin:x.at_+k<s.size:=by omega
 have HL:=Lib.hid HC.out.i.held.lex
 have J0:Hid (inB s (x.at_+(k:Int).toNat)=true):=by show _=_;simp [inB,hin]
 have J1:Hid (bt s (x.at_+(k:Int).toNat)=(s[x.at_+k].toNat:Int)):=by show bt s (x.at_+k)=_;exact bt_in hin
 obtain ⟨vs,hvs⟩:∃vs,Hid (s.extract (x.at_+(k:Int).toNat) (min (x.at_+((k:Int)+(q.size:Int)).toNat) s.size)=vs):=⟨_,rfl⟩
 have pin:x.at_+(k:Int).toNat<s.size:=by simpa using hin
 have hrc:=rest_cons s (x.at_+k) hin
 have hll:=look_list hin hvs
 have hcv:(vs.toList==q.toList)=false:=by
  rw [hll,HC.out.q]
  exact beq_eq_false_iff_ne.2 hm.out
 have hqs:q.size=Q.length:=by rw [←HC.out.q,toList_length]
 have hm':=hm.out
 rw [hqs,hrc] at hm'
 have HM:=Lib.hid hm'
 have HM0:Hid (¬(rest s (x.at_+k)).take Q.length=Q):=by rw [←hqs];exact hm.out
 have HQS:=Lib.hid hqs
 have HRC:=Lib.hid hrc
 have HR:=Lib.hid HC.out.i.row
 have hsz:=HC.out.i.held.grown.size
 have hlk:=HC.out.i.len
 clear hll hrc hm hm' hqs
 have J2:Hid (inB s (x.at_+((k:Int)+1).toNat)=true):=by
  show _=_
  have e:((k:Int)+1).toNat=k+1:=by omega
  rw [e];simp [inB];omega
 have J3:Hid (bt s (x.at_+((k:Int)+1).toNat)=(s[x.at_+(k+1)].toNat:Int)):=by
  have e:((k:Int)+1).toNat=k+1:=by omega
  show _=_
  rw [e];exact bt_in hin2
 have pin2:x.at_+((k:Int)+1).toNat<s.size:=by omega
 have hrc2:=rest_cons s (x.at_+(k+1)) hin2
 have hHRC:=HRC.out
 rw [show x.at_+k+1=x.at_+(k+1) from by omega,hrc2] at hHRC
 have HRC2:=Lib.hid hHRC
 clear hHRC hrc2 HRC
 rw [hd] at J3 HRC2
 have hcut:x.at_+(k+1)+1=x.at_+(k+2):=by omega
 rw [hcut] at HRC2
 clear hcut
 obtain ⟨vp,hvp⟩:∃vp,Hid (s.extract (x.at_+((k:Int)+2).toNat) (min (x.at_+((k:Int)+2+4).toNat) s.size)=vp):=⟨_,rfl⟩
 have hcl:=cut_list (a:=k+2) (e:=k+2+4) (by omega) (by omega) (by omega) (by omega) hvp
 have hvz:vp.size≤4:=by have:=hcl.2;omega
 have HVL:=Lib.hid (show vp.data.toList=(rest s (x.at_+(k+2))).take 4 by have:=hcl.1;rw [show k+2+4-(k+2)=4 by omega] at this;exact this)
 have HVB:Hid (∀j,j≤vp.size→(vp.data.toList.take j).all (digB 16)=true→lx.digits 16 0 (vp.data.toList.take j)≤4294967295):=by
  intro j hj ha
  have h1:=digits_lt 16 (.inl rfl) _ 0 1 ha (by omega)
  have h2:(vp.data.toList.take j).length≤4:=by rw [List.length_take];omega
  have h3:(16:Nat) ^ (vp.data.toList.take j).length≤16 ^ 4:=Nat.pow_le_pow_right (by omega) h2
  omega
 have HGD:=Lib.hid (show vp.data.toList.all (digB 16)=((rest s (x.at_+(k+2))).take 4).all lx.hex by rw [HVL.out];rfl)
 clear hcl
 have hl2:x.at_+(k+2+4)≤s.size:=by have:=hg.out.1;rw [rest_length] at this;omega
 have HG1:Hid (vp.data.toList.all (digB 16)=true):=HGD.out.trans hg.out.2
 have hvn:vp.size≠0:=by
  intro h0
  have h1:=congrArg List.length HVL.out
  rw [size_list,h0] at h1
  have h2:=hg.out.1
  simp at h1 <;> omega
 have hnm:lx.digits 16 0 vp.data.toList≤4294967295:=by
  have h:=HVB.out vp.size (Nat.le_refl _)
  rw [List.take_of_length_le (by rw [size_list];omega)] at h
  exact h HG1.out
 obtain ⟨nv,hnv⟩:∃nv,Hid (lx.digits 16 0 vp.data.toList=nv):=⟨_,rfl⟩
 rw [hnv.out] at hnm
 have HV2:Hid (lx.digits 16 0 ((rest s (x.at_+(k+2))).take 4)=nv):=by
  show _=_
  rw [←hnv.out,HVL.out]
 rw [HV2.out] at hcp
 have HS:Hid (lx.qStep Q false true idn np k (rest s (x.at_+k)) l err=.more (2+4) (l++Lib.encodeRune ((nv:Nat):Int)) err):=by
  show _=_
  rw [HRC2.out]
  unfold lx.qStep
  simp only
  rw [if_neg (by rw [←HRC2.out];exact HM0.out),if_pos (by omega)]
  have hh:(if (55296≤lx.digits 16 0 ((rest s (x.at_+(k+2))).take 4)∧lx.digits 16 0 ((rest s (x.at_+(k+2))).take 4)≤57343)∨1114111<lx.digits 16 0 ((rest s (x.at_+(k+2))).take 4) then (if np=true then lx.Step.more 2 l true else .stop .fault) else .more (2+4) (l++Lib.encodeRune ((lx.digits 16 0 ((rest s (x.at_+(k+2))).take 4):Nat):Int)) err)=.more (2+4) (l++Lib.encodeRune ((nv:Nat):Int)) err:=by
   rw [HV2.out,if_neg hcp.out]
   try rfl
  exact (escape_g hg.out).trans hh
 clear HM HM0 HRC2
 rw [hc] at J1
 unfold QRound QFr
 conv=>arg 2;whnf
 go_wp2_with (first
  | (go_at_call 78;refine (peekOk_z _ _ (by first|exact HL.out.at|exact (HL.out.drewN _).at) (by omega) (by omega) (by omega) (by omega) (by first|exact J0|exact J2)).mono ?_;rintro e w' ⟨rfl,n,rfl⟩)
  | (go_at_call 91;refine (slice_z _ _ vs (by first|exact HL.out.at|exact (HL.out.drewN _).at) (by omega) (by omega) (by omega) (by omega) (by omega) (by omega) hvs).mono ?_;rintro e w' ⟨rfl,n2,rfl⟩)
  | (go_at_call 80;refine (peek_z _ _ (by first|exact HL.out.at|exact (HL.out.drewN _).at) (by omega) (by first|exact pin|exact pin2) (by omega) (by first|exact J1|exact J3)).mono ?_;rintro e w' ⟨rfl,n3,rfl⟩))
 go_loopw [16,23] (fun ev jv wq=>∃j:Nat,jv=.int .i64 (j:Int)∧ev=.bool err∧j≤4∧∃m,wq=wr.drewN m) (fun _ jv _=>4-(intOf jv).toNat)
 case atStart=>exact ⟨0,rfl,rfl,by omega,_,rfl⟩
 case round =>
  obtain ⟨j,rfl,rfl,hj,m,rfl⟩:=hrel
  by_cases hj2:j<4
  ·have hbin:x.at_+(k+2)+j<s.size:=by omega
   have JH:Hid (lx.hex s[x.at_+(k+2)+j]=true):=all_some hbin hj2 hg.out.2
   have JA:Hid (inB s (x.at_+((k:Int)+2+(j:Int)).toNat)=true):=by
    show _=_
    have e:((k:Int)+2+(j:Int)).toNat=k+2+j:=by omega
    rw [e];simp [inB];omega
   have JB:Hid (bt s (x.at_+((k:Int)+2+(j:Int)).toNat)=(s[x.at_+(k+2)+j].toNat:Int)):=by
    have e:x.at_+((k:Int)+2+(j:Int)).toNat=x.at_+(k+2)+j:=by omega
    show _=_
    rw [e];exact bt_in hbin
   have pinj:x.at_+((k:Int)+2+(j:Int)).toNat<s.size:=by omega
   generalize s[x.at_+(k+2)+j]=c at *
   go_wp2_with (first
    | (go_at_call 78;refine (peekOk_z _ _ (HL.out.drewN _).at (by omega) (by omega) (by omega) (by omega) JA).mono ?_;rintro e w' ⟨rfl,n4,rfl⟩)
    | (go_at_call 80;refine (peek_z _ _ (HL.out.drewN _).at (by omega) pinj (by omega) JB).mono ?_;rintro e w' ⟨rfl,n5,rfl⟩)
    | (go_at_call 109;refine (hex_named c _ _ JH).mono ?_;rintro e w' ⟨rfl,rfl⟩))
   go_round
   case rel=>exact ⟨j+1,by go_num,rfl,by omega,_,rfl⟩
   case measure=>simp [intOf];omega
  ·have hj3:j=4:=by omega
   subst hj3
   have hcp':(nv:Int)<55296∨(57343<(nv:Int)∧(nv:Int)≤1114111):=by have:=hcp.out;omega
   obtain ⟨nl,hnl⟩:∃nl,Hid ((Lib.encodeRune (nv:Int)).length=nl):=⟨_,rfl⟩
   have hl14:=Lib.runeCells_le (nv:Int)
   rw [Lib.runeCells_length,hnl.out] at hl14
   obtain ⟨hl1,hl4⟩:=hl14
   have hl1':(1:Int)≤(nl:Int):=by omega
   have hl4':(nl:Int)≤4:=by omega
   rcases hcp' with h1|⟨h1,h2⟩
   all_goals go_wp2_with (first
    | (go_at_call 91;refine (slice_z _ _ vp (HL.out.drewN _).at (by omega) (by omega) (by omega) (by omega) (by omega) (by omega) hvp).mono ?_;rintro e w' ⟨rfl,n4,rfl⟩)
    | (go_at_call 111;refine (pu_good_16_32 vp hvn (by omega) HVB HG1 _).mono ?_;rw [hnv.out];rintro e w5 ⟨rfl,hb5⟩;have HB5:=Lib.hid hb5;clear hb5)
    | (go_at_call 112;refine (enc_new w5 nv nl (by omega) hnl).mono ?_;rintro e w6 ⟨rfl,hb6,hc6⟩;have HB6:=Lib.hid hb6;have HC6:=Lib.hid hc6;clear hb6 hc6)
    | (at_builtin;refine wpList_append_row _ rfl _ _ rfl w.heap.size l.length l v rfl (((HR.out.drewN _).below HB5.out).below HB6.out) (Nat.le_trans hsz (Nat.le_trans HB5.out.size HB6.out.size)) _ nl 4 (Lib.encodeRune (nv:Int)) rfl hnl.out (by omega) HC6.out (by omega) ?_;intro v' w2 r1 n1 b1;have R1:=Lib.hid (And.intro r1 (And.intro n1 b1));clear r1 n1 b1))
   all_goals refine ⟨⟨k+(2+4),v',l++Lib.encodeRune (nv:Int),err,⟨rfl,rfl,rfl,rfl,rfl,rfl,rfl,rfl,rfl,rfl,rfl,rfl,rfl⟩,qi_add HC.out HS.out (by omega) (by omega) (by rw [hnl.out];omega) (by have r:=R1.out.1;rw [←hnl.out] at r;exact r) (((below_drewN (Below.refl _ wr) _).trans (HB5.out.mono hsz)).trans ((HB6.out.mono (Nat.le_trans hsz HB5.out.size)).trans R1.out.2.2))⟩, ?_⟩
   all_goals exact qmu_lt (k:=k) (j:=k+(2+4)) rfl rfl (by omega) (by omega)
set_option maxHeartbeats 4000000 in
set_option maxRecDepth 1000000 in
theorem quo_e85_gok (HC:Hid (QC w B b f s x Q q false true idn np o k v l err wr)) (SZ:s.size≤20000) (hq3:q.size≤3) (hin2:x.at_+(k+1)<s.size)
  (hm:Hid (¬(rest s (x.at_+k)).take q.size=Q)) (hc:(s[x.at_+k].toNat:Int)=92) (hd:s[x.at_+(k+1)]=85)
  (hg:Hid (8≤(rest s (x.at_+(k+2))).length∧((rest s (x.at_+(k+2))).take 8).all lx.hex=true))
  (hcp:Hid (¬((55296≤lx.digits 16 0 ((rest s (x.at_+(k+2))).take 8)∧lx.digits 16 0 ((rest s (x.at_+(k+2))).take 8)≤57343)∨1114111<lx.digits 16 0 ((rest s (x.at_+(k+2))).take 8)))) :
  QRound w B b f s x Q q nm false true idn np o (QFr u b q false true nm np (k:Int) v err) wr:=by
 have hin:x.at_+k<s.size:=by omega
 have HL:=Lib.hid HC.out.i.held.lex
 have J0:Hid (inB s (x.at_+(k:Int).toNat)=true):=by show _=_;simp [inB,hin]
 have J1:Hid (bt s (x.at_+(k:Int).toNat)=(s[x.at_+k].toNat:Int)):=by show bt s (x.at_+k)=_;exact bt_in hin
 obtain ⟨vs,hvs⟩:∃vs,Hid (s.extract (x.at_+(k:Int).toNat) (min (x.at_+((k:Int)+(q.size:Int)).toNat) s.size)=vs):=⟨_,rfl⟩
 have pin:x.at_+(k:Int).toNat<s.size:=by simpa using hin
 have hrc:=rest_cons s (x.at_+k) hin
 have hll:=look_list hin hvs
 have hcv:(vs.toList==q.toList)=false:=by
  rw [hll,HC.out.q]
  exact beq_eq_false_iff_ne.2 hm.out
 have hqs:q.size=Q.length:=by rw [←HC.out.q,toList_length]
 have hm':=hm.out
 rw [hqs,hrc] at hm'
 have HM:=Lib.hid hm'
 have HM0:Hid (¬(rest s (x.at_+k)).take Q.length=Q):=by rw [←hqs];exact hm.out
 have HQS:=Lib.hid hqs
 have HRC:=Lib.hid hrc
 have HR:=Lib.hid HC.out.i.row
 have hsz:=HC.out.i.held.grown.size
 have hlk:=HC.out.i.len
 clear hll hrc hm hm' hqs
 have J2:Hid (inB s (x.at_+((k:Int)+1).toNat)=true):=by
  show _=_
  have e:((k:Int)+1).toNat=k+1:=by omega
  rw [e];simp [inB];omega
 have J3:Hid (bt s (x.at_+((k:Int)+1).toNat)=(s[x.at_+(k+1)].toNat:Int)):=by
  have e:((k:Int)+1).toNat=k+1:=by omega
  show _=_
  rw [e];exact bt_in hin2
 have pin2:x.at_+((k:Int)+1).toNat<s.size:=by omega
 have hrc2:=rest_cons s (x.at_+(k+1)) hin2
 have hHRC:=HRC.out
 rw [show x.at_+k+1=x.at_+(k+1) from by omega,hrc2] at hHRC
 have HRC2:=Lib.hid hHRC
 clear hHRC hrc2 HRC
 rw [hd] at J3 HRC2
 have hcut:x.at_+(k+1)+1=x.at_+(k+2):=by omega
 rw [hcut] at HRC2
 clear hcut
 obtain ⟨vp,hvp⟩:∃vp,Hid (s.extract (x.at_+((k:Int)+2).toNat) (min (x.at_+((k:Int)+2+8).toNat) s.size)=vp):=⟨_,rfl⟩
 have hcl:=cut_list (a:=k+2) (e:=k+2+8) (by omega) (by omega) (by omega) (by omega) hvp
 have hvz:vp.size≤8:=by have:=hcl.2;omega
 have HVL:=Lib.hid (show vp.data.toList=(rest s (x.at_+(k+2))).take 8 by have:=hcl.1;rw [show k+2+8-(k+2)=8 by omega] at this;exact this)
 have HVB:Hid (∀j,j≤vp.size→(vp.data.toList.take j).all (digB 16)=true→lx.digits 16 0 (vp.data.toList.take j)≤4294967295):=by
  intro j hj ha
  have h1:=digits_lt 16 (.inl rfl) _ 0 1 ha (by omega)
  have h2:(vp.data.toList.take j).length≤8:=by rw [List.length_take];omega
  have h3:(16:Nat) ^ (vp.data.toList.take j).length≤16 ^ 8:=Nat.pow_le_pow_right (by omega) h2
  omega
 have HGD:=Lib.hid (show vp.data.toList.all (digB 16)=((rest s (x.at_+(k+2))).take 8).all lx.hex by rw [HVL.out];rfl)
 clear hcl
 have hl2:x.at_+(k+2+8)≤s.size:=by have:=hg.out.1;rw [rest_length] at this;omega
 have HG1:Hid (vp.data.toList.all (digB 16)=true):=HGD.out.trans hg.out.2
 have hvn:vp.size≠0:=by
  intro h0
  have h1:=congrArg List.length HVL.out
  rw [size_list,h0] at h1
  have h2:=hg.out.1
  simp at h1 <;> omega
 have hnm:lx.digits 16 0 vp.data.toList≤4294967295:=by
  have h:=HVB.out vp.size (Nat.le_refl _)
  rw [List.take_of_length_le (by rw [size_list];omega)] at h
  exact h HG1.out
 obtain ⟨nv,hnv⟩:∃nv,Hid (lx.digits 16 0 vp.data.toList=nv):=⟨_,rfl⟩
 rw [hnv.out] at hnm
 have HV2:Hid (lx.digits 16 0 ((rest s (x.at_+(k+2))).take 8)=nv):=by
  show _=_
  rw [←hnv.out,HVL.out]
 rw [HV2.out] at hcp
 have HS:Hid (lx.qStep Q false true idn np k (rest s (x.at_+k)) l err=.more (2+8) (l++Lib.encodeRune ((nv:Nat):Int)) err):=by
  show _=_
  rw [HRC2.out]
  unfold lx.qStep
  simp only
  rw [if_neg (by rw [←HRC2.out];exact HM0.out),if_pos (by omega)]
  have hh:(if (55296≤lx.digits 16 0 ((rest s (x.at_+(k+2))).take 8)∧lx.digits 16 0 ((rest s (x.at_+(k+2))).take 8)≤57343)∨1114111<lx.digits 16 0 ((rest s (x.at_+(k+2))).take 8) then (if np=true then lx.Step.more 2 l true else .stop .fault) else .more (2+8) (l++Lib.encodeRune ((lx.digits 16 0 ((rest s (x.at_+(k+2))).take 8):Nat):Int)) err)=.more (2+8) (l++Lib.encodeRune ((nv:Nat):Int)) err:=by
   rw [HV2.out,if_neg hcp.out]
   try rfl
  exact (escape_g hg.out).trans hh
 clear HM HM0 HRC2
 rw [hc] at J1
 unfold QRound QFr
 conv=>arg 2;whnf
 go_wp2_with (first
  | (go_at_call 78;refine (peekOk_z _ _ (by first|exact HL.out.at|exact (HL.out.drewN _).at) (by omega) (by omega) (by omega) (by omega) (by first|exact J0|exact J2)).mono ?_;rintro e w' ⟨rfl,n,rfl⟩)
  | (go_at_call 91;refine (slice_z _ _ vs (by first|exact HL.out.at|exact (HL.out.drewN _).at) (by omega) (by omega) (by omega) (by omega) (by omega) (by omega) hvs).mono ?_;rintro e w' ⟨rfl,n2,rfl⟩)
  | (go_at_call 80;refine (peek_z _ _ (by first|exact HL.out.at|exact (HL.out.drewN _).at) (by omega) (by first|exact pin|exact pin2) (by omega) (by first|exact J1|exact J3)).mono ?_;rintro e w' ⟨rfl,n3,rfl⟩))
 go_loopw [16,23] (fun ev jv wq=>∃j:Nat,jv=.int .i64 (j:Int)∧ev=.bool err∧j≤8∧∃m,wq=wr.drewN m) (fun _ jv _=>8-(intOf jv).toNat)
 case atStart=>exact ⟨0,rfl,rfl,by omega,_,rfl⟩
 case round =>
  obtain ⟨j,rfl,rfl,hj,m,rfl⟩:=hrel
  by_cases hj2:j<8
  ·have hbin:x.at_+(k+2)+j<s.size:=by omega
   have JH:Hid (lx.hex s[x.at_+(k+2)+j]=true):=all_some hbin hj2 hg.out.2
   have JA:Hid (inB s (x.at_+((k:Int)+2+(j:Int)).toNat)=true):=by
    show _=_
    have e:((k:Int)+2+(j:Int)).toNat=k+2+j:=by omega
    rw [e];simp [inB];omega
   have JB:Hid (bt s (x.at_+((k:Int)+2+(j:Int)).toNat)=(s[x.at_+(k+2)+j].toNat:Int)):=by
    have e:x.at_+((k:Int)+2+(j:Int)).toNat=x.at_+(k+2)+j:=by omega
    show _=_
    rw [e];exact bt_in hbin
   have pinj:x.at_+((k:Int)+2+(j:Int)).toNat<s.size:=by omega
   generalize s[x.at_+(k+2)+j]=c at *
   go_wp2_with (first
    | (go_at_call 78;refine (peekOk_z _ _ (HL.out.drewN _).at (by omega) (by omega) (by omega) (by omega) JA).mono ?_;rintro e w' ⟨rfl,n4,rfl⟩)
    | (go_at_call 80;refine (peek_z _ _ (HL.out.drewN _).at (by omega) pinj (by omega) JB).mono ?_;rintro e w' ⟨rfl,n5,rfl⟩)
    | (go_at_call 109;refine (hex_named c _ _ JH).mono ?_;rintro e w' ⟨rfl,rfl⟩))
   go_round
   case rel=>exact ⟨j+1,by go_num,rfl,by omega,_,rfl⟩
   case measure=>simp [intOf];omega
  ·have hj3:j=8:=by omega
   subst hj3
   have hcp':(nv:Int)<55296∨(57343<(nv:Int)∧(nv:Int)≤1114111):=by have:=hcp.out;omega
   obtain ⟨nl,hnl⟩:∃nl,Hid ((Lib.encodeRune (nv:Int)).length=nl):=⟨_,rfl⟩
   have hl14:=Lib.runeCells_le (nv:Int)
   rw [Lib.runeCells_length,hnl.out] at hl14
   obtain ⟨hl1,hl4⟩:=hl14
   have hl1':(1:Int)≤(nl:Int):=by omega
   have hl4':(nl:Int)≤4:=by omega
   rcases hcp' with h1|⟨h1,h2⟩
   all_goals go_wp2_with (first
    | (go_at_call 91;refine (slice_z _ _ vp (HL.out.drewN _).at (by omega) (by omega) (by omega) (by omega) (by omega) (by omega) hvp).mono ?_;rintro e w' ⟨rfl,n4,rfl⟩)
    | (go_at_call 111;refine (pu_good_16_32 vp hvn (by omega) HVB HG1 _).mono ?_;rw [hnv.out];rintro e w5 ⟨rfl,hb5⟩;have HB5:=Lib.hid hb5;clear hb5)
    | (go_at_call 112;refine (enc_new w5 nv nl (by omega) hnl).mono ?_;rintro e w6 ⟨rfl,hb6,hc6⟩;have HB6:=Lib.hid hb6;have HC6:=Lib.hid hc6;clear hb6 hc6)
    | (at_builtin;refine wpList_append_row _ rfl _ _ rfl w.heap.size l.length l v rfl (((HR.out.drewN _).below HB5.out).below HB6.out) (Nat.le_trans hsz (Nat.le_trans HB5.out.size HB6.out.size)) _ nl 4 (Lib.encodeRune (nv:Int)) rfl hnl.out (by omega) HC6.out (by omega) ?_;intro v' w2 r1 n1 b1;have R1:=Lib.hid (And.intro r1 (And.intro n1 b1));clear r1 n1 b1))
   all_goals refine ⟨⟨k+(2+8),v',l++Lib.encodeRune (nv:Int),err,⟨rfl,rfl,rfl,rfl,rfl,rfl,rfl,rfl,rfl,rfl,rfl,rfl,rfl⟩,qi_add HC.out HS.out (by omega) (by omega) (by rw [hnl.out];omega) (by have r:=R1.out.1;rw [←hnl.out] at r;exact r) (((below_drewN (Below.refl _ wr) _).trans (HB5.out.mono hsz)).trans ((HB6.out.mono (Nat.le_trans hsz HB5.out.size)).trans R1.out.2.2))⟩, ?_⟩
   all_goals exact qmu_lt (k:=k) (j:=k+(2+8)) rfl rfl (by omega) (by omega)
end
end Go.Proofs.YtaamolahbkgofaaGreatDoor.lex
