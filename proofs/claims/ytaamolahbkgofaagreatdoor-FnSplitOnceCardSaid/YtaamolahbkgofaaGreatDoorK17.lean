/-
  Rounds of consumeQuotedContent's loop: escapes of digits. Rounds of consumeQuotedContent's loop: escapes of digits. Conditions: of each, in its statement.
-/
import Derived.Test.YtaamolahbkgofaaGreatDoorK16
set_option linter.unusedVariables false
namespace Go.Proofs.YtaamolahbkgofaaGreatDoor.lex
open Go.RowKit mem lines
section
variable {w wr:World} {B b f:Nat} {s q nm:ByteArray} {x:St} {Q:lx.Bs} {raw uni idn np:Bool} {o:lx.QOut} {k:Nat} {v:Value} {l:lx.Bs} {err:Bool} {u:Nat→Value}
set_option maxHeartbeats 4000000 in
set_option maxRecDepth 1000000 in
theorem quo_e120_p (HC:Hid (QC w B b f s x Q q false uni idn false o k v l err wr)) (SZ:s.size≤20000) (hq3:q.size≤3) (hin2:x.at_+(k+1)<s.size)
  (hm:Hid (¬(rest s (x.at_+k)).take q.size=Q)) (hc:(s[x.at_+k].toNat:Int)=92) (hd:s[x.at_+(k+1)]=120)
  (hg:Hid (((rest s (x.at_+(k+2))).take 2).all lx.hex=false)) :
  QRound w B b f s x Q q nm false uni idn false o (QFr u b q false uni nm false (k:Int) v err) wr:=by
 have hin:x.at_+k<s.size:=by omega
 have HL:=Lib.hid HC.out.i.held.lex
 have J0:Hid (inB s (x.at_+(k:Int).toNat)=true):=by show _=_;simp [inB,hin]
 have J1:Hid (bt s (x.at_+(k:Int).toNat)=(s[x.at_+k].toNat:Int)):=by show bt s (x.at_+k)=_;exact bt_in hin
 obtain ⟨vs,hvs⟩:∃vs,Hid (s.extract (x.at_+(k:Int).toNat) (min (x.at_+((k:Int)+(q.size:Int)).toNat) s.size)=vs):=⟨_,rfl⟩
 have pin:x.at_+(k:Int).toNat<s.size:=by simpa using hin
 have hrc:=rest_cons s (x.at_+k) hin
 have hll:=look_list hin hvs
 have hcv:(vs.toList==q.toList)=false:=by
  rw [hll,HC.out.q]
  exact beq_eq_false_iff_ne.2 hm.out
 have hqs:q.size=Q.length:=by rw [←HC.out.q,toList_length]
 have hm':=hm.out
 rw [hqs,hrc] at hm'
 have HM:=Lib.hid hm'
 have HM0:Hid (¬(rest s (x.at_+k)).take Q.length=Q):=by rw [←hqs];exact hm.out
 have HQS:=Lib.hid hqs
 have HRC:=Lib.hid hrc
 have HR:=Lib.hid HC.out.i.row
 have hsz:=HC.out.i.held.grown.size
 have hlk:=HC.out.i.len
 clear hll hrc hm hm' hqs
 have J2:Hid (inB s (x.at_+((k:Int)+1).toNat)=true):=by
  show _=_
  have e:((k:Int)+1).toNat=k+1:=by omega
  rw [e];simp [inB];omega
 have J3:Hid (bt s (x.at_+((k:Int)+1).toNat)=(s[x.at_+(k+1)].toNat:Int)):=by
  have e:((k:Int)+1).toNat=k+1:=by omega
  show _=_
  rw [e];exact bt_in hin2
 have pin2:x.at_+((k:Int)+1).toNat<s.size:=by omega
 have hrc2:=rest_cons s (x.at_+(k+1)) hin2
 have hHRC:=HRC.out
 rw [show x.at_+k+1=x.at_+(k+1) from by omega,hrc2] at hHRC
 have HRC2:=Lib.hid hHRC
 clear hHRC hrc2 HRC
 rw [hd] at J3 HRC2
 have hcut:x.at_+(k+1)+1=x.at_+(k+2):=by omega
 rw [hcut] at HRC2
 clear hcut
 have HS:Hid (lx.qStep Q false uni idn false k (rest s (x.at_+k)) l err=.stop .fault):=by
  show _=_
  rw [HRC2.out]
  unfold lx.qStep
  simp only
  rw [if_neg (by rw [←HRC2.out];exact HM0.out),if_pos (by omega)]
  exact escape_p hg.out
 clear HM HM0 HRC2
 rw [hc] at J1
 unfold QRound QFr
 conv=>arg 2;whnf
 go_wp2_with (first
  | (go_at_call 78;refine (peekOk_z _ _ (by first|exact HL.out.at|exact (HL.out.drewN _).at) (by omega) (by omega) (by omega) (by omega) (by first|exact J0|exact J2)).mono ?_;rintro e w' ⟨rfl,n,rfl⟩)
  | (go_at_call 91;refine (slice_z _ _ vs (by first|exact HL.out.at|exact (HL.out.drewN _).at) (by omega) (by omega) (by omega) (by omega) (by omega) (by omega) hvs).mono ?_;rintro e w' ⟨rfl,n2,rfl⟩)
  | (go_at_call 80;refine (peek_z _ _ (by first|exact HL.out.at|exact (HL.out.drewN _).at) (by omega) (by first|exact pin|exact pin2) (by omega) (by first|exact J1|exact J3)).mono ?_;rintro e w' ⟨rfl,n3,rfl⟩))
 go_loopw [16,184] (fun ev jv wq=>∃j:Nat,jv=.int .i64 (j:Int)∧ev=.bool err∧j≤2∧Hid (((rest s (x.at_+(k+2))).take j).all lx.hex=true)∧∃m,wq=wr.drewN m) (fun _ jv _=>2-(intOf jv).toNat)
 case atStart=>exact ⟨0,rfl,rfl,by omega,rfl,_,rfl⟩
 case round =>
  obtain ⟨j,rfl,rfl,hj,HA,m,rfl⟩:=hrel
  have hj2:j<2:=by
   rcases Nat.lt_or_ge j 2 with h|h
   ·exact h
   ·have hjj:j=2:=by omega
    have h1:=HA.out
    rw [hjj,hg.out] at h1
    cases h1
  have hbin:x.at_+(k+2)+j<s.size:=by
   rcases Nat.lt_or_ge (x.at_+(k+2)+j) s.size with h|h
   ·exact h
   ·have h1:=HA.out
    rw [all_end (m:=2) (by omega) hj,hg.out] at h1
    cases h1
  have JA:Hid (inB s (x.at_+((k:Int)+2+(j:Int)).toNat)=true):=by
   show _=_
   have e:((k:Int)+2+(j:Int)).toNat=k+2+j:=by omega
   rw [e];simp [inB];omega
  have JB:Hid (bt s (x.at_+((k:Int)+2+(j:Int)).toNat)=(s[x.at_+(k+2)+j].toNat:Int)):=by
   have e:x.at_+((k:Int)+2+(j:Int)).toNat=x.at_+(k+2)+j:=by omega
   show _=_
   rw [e];exact bt_in hbin
  have pinj:x.at_+((k:Int)+2+(j:Int)).toNat<s.size:=by omega
  have HN:=Lib.hid (all_next (good:=lx.hex) hbin)
  cases hgood:lx.hex s[x.at_+(k+2)+j]
  ·have JH:=Lib.hid hgood
   clear hgood HN
   generalize s[x.at_+(k+2)+j]=c at *
   go_wp2_with (first
    | (go_at_call 78;refine (peekOk_z _ _ (HL.out.drewN _).at (by omega) (by omega) (by omega) (by omega) JA).mono ?_;rintro e w' ⟨rfl,n4,rfl⟩)
    | (go_at_call 80;refine (peek_z _ _ (HL.out.drewN _).at (by omega) pinj (by omega) JB).mono ?_;rintro e w' ⟨rfl,n5,rfl⟩)
    | (go_at_call 109;refine (hex_named c _ _ JH).mono ?_;rintro e w' ⟨rfl,rfl⟩))
   have hw1:=IntWalk.i64_in ((x.at_:Int)+((k:Int)+1+1)) (by omega)
   have hw2:=IntWalk.i64_in ((x.at_:Int)+((k:Int)+2)) (by omega)
   have hw3:=IntWalk.i64_in ((x.at_:Int)+((k:Int)+1+1)-2) (by omega)
   have hw4:=IntWalk.i64_in ((x.at_:Int)+((k:Int)+2)-2) (by omega)
   have hw5:=IntWalk.i64_in ((x.at_:Int)+((k:Int)+1+1)+(j:Int)) (by omega)
   have hw6:=IntWalk.i64_in ((x.at_:Int)+((k:Int)+2)+(j:Int)) (by omega)
   have hw7:=IntWalk.i64_in ((x.at_:Int)+((k:Int)+1+1)+(j:Int)+1) (by omega)
   have hw8:=IntWalk.i64_in ((x.at_:Int)+((k:Int)+2)+(j:Int)+1) (by omega)
   generalize hW:wr.drewN _=W at *
   have HK:Hid (Held w B b f s x W):=by rw [←hW];exact ⟨HC.out.i.held.lex.drewN _,grown_drewN HC.out.i.held.grown _⟩
   clear hW
   have HD:=held_drew HK
   obtain ⟨c0,c1,c9⟩:=HK.out.lex.at
   have hxa:x.at_≤20000:=by omega
   have hka:k≤20000:=by omega
   have HO:=Lib.hid (quo_fault HC.out.i HS.out)
   clear HC HL HR hcv hlk hsz
   go_region_held2 (fun W=>W.cell? ⟨b,9,none⟩=some (.int .i64 (x.at_:Int)))
    (first|exact (‹Hid False›).out.elim|assumption)
    (first|(go_at_call 108;refine (panicfAt_w HD.out.lex _ _ _ (by omega) (by omega) (by omega)).mono ?_;rintro e w' (⟨m,rfl,hm⟩|⟨hF,rfl⟩);exact (show QEnd w B b f s x q nm false uni false o _ _ _ from qend_fault HO.out HD.out m hm)))
   all_goals exact (‹Hid False›).out.elim
  ·have JH:=Lib.hid hgood
   have HA2:Hid (((rest s (x.at_+(k+2))).take (j+1)).all lx.hex=true):=by
    show _=_
    rw [HN.out,HA.out,hgood];rfl
   clear hgood HN
   generalize s[x.at_+(k+2)+j]=c at *
   go_wp2_with (first
    | (go_at_call 78;refine (peekOk_z _ _ (HL.out.drewN _).at (by omega) (by omega) (by omega) (by omega) JA).mono ?_;rintro e w' ⟨rfl,n4,rfl⟩)
    | (go_at_call 80;refine (peek_z _ _ (HL.out.drewN _).at (by omega) pinj (by omega) JB).mono ?_;rintro e w' ⟨rfl,n5,rfl⟩)
    | (go_at_call 109;refine (hex_named c _ _ JH).mono ?_;rintro e w' ⟨rfl,rfl⟩))
   go_round
   case rel=>exact ⟨j+1,by go_num,rfl,by omega,HA2,_,rfl⟩
   case measure=>simp [intOf];omega
set_option maxHeartbeats 4000000 in
set_option maxRecDepth 1000000 in
theorem quo_e88_p (HC:Hid (QC w B b f s x Q q false uni idn false o k v l err wr)) (SZ:s.size≤20000) (hq3:q.size≤3) (hin2:x.at_+(k+1)<s.size)
  (hm:Hid (¬(rest s (x.at_+k)).take q.size=Q)) (hc:(s[x.at_+k].toNat:Int)=92) (hd:s[x.at_+(k+1)]=88)
  (hg:Hid (((rest s (x.at_+(k+2))).take 2).all lx.hex=false)) :
  QRound w B b f s x Q q nm false uni idn false o (QFr u b q false uni nm false (k:Int) v err) wr:=by
 have hin:x.at_+k<s.size:=by omega
 have HL:=Lib.hid HC.out.i.held.lex
 have J0:Hid (inB s (x.at_+(k:Int).toNat)=true):=by show _=_;simp [inB,hin]
 have J1:Hid (bt s (x.at_+(k:Int).toNat)=(s[x.at_+k].toNat:Int)):=by show bt s (x.at_+k)=_;exact bt_in hin
 obtain ⟨vs,hvs⟩:∃vs,Hid (s.extract (x.at_+(k:Int).toNat) (min (x.at_+((k:Int)+(q.size:Int)).toNat) s.size)=vs):=⟨_,rfl⟩
 have pin:x.at_+(k:Int).toNat<s.size:=by simpa using hin
 have hrc:=rest_cons s (x.at_+k) hin
 have hll:=look_list hin hvs
 have hcv:(vs.toList==q.toList)=false:=by
  rw [hll,HC.out.q]
  exact beq_eq_false_iff_ne.2 hm.out
 have hqs:q.size=Q.length:=by rw [←HC.out.q,toList_length]
 have hm':=hm.out
 rw [hqs,hrc] at hm'
 have HM:=Lib.hid hm'
 have HM0:Hid (¬(rest s (x.at_+k)).take Q.length=Q):=by rw [←hqs];exact hm.out
 have HQS:=Lib.hid hqs
 have HRC:=Lib.hid hrc
 have HR:=Lib.hid HC.out.i.row
 have hsz:=HC.out.i.held.grown.size
 have hlk:=HC.out.i.len
 clear hll hrc hm hm' hqs
 have J2:Hid (inB s (x.at_+((k:Int)+1).toNat)=true):=by
  show _=_
  have e:((k:Int)+1).toNat=k+1:=by omega
  rw [e];simp [inB];omega
 have J3:Hid (bt s (x.at_+((k:Int)+1).toNat)=(s[x.at_+(k+1)].toNat:Int)):=by
  have e:((k:Int)+1).toNat=k+1:=by omega
  show _=_
  rw [e];exact bt_in hin2
 have pin2:x.at_+((k:Int)+1).toNat<s.size:=by omega
 have hrc2:=rest_cons s (x.at_+(k+1)) hin2
 have hHRC:=HRC.out
 rw [show x.at_+k+1=x.at_+(k+1) from by omega,hrc2] at hHRC
 have HRC2:=Lib.hid hHRC
 clear hHRC hrc2 HRC
 rw [hd] at J3 HRC2
 have hcut:x.at_+(k+1)+1=x.at_+(k+2):=by omega
 rw [hcut] at HRC2
 clear hcut
 have HS:Hid (lx.qStep Q false uni idn false k (rest s (x.at_+k)) l err=.stop .fault):=by
  show _=_
  rw [HRC2.out]
  unfold lx.qStep
  simp only
  rw [if_neg (by rw [←HRC2.out];exact HM0.out),if_pos (by omega)]
  exact escape_p hg.out
 clear HM HM0 HRC2
 rw [hc] at J1
 unfold QRound QFr
 conv=>arg 2;whnf
 go_wp2_with (first
  | (go_at_call 78;refine (peekOk_z _ _ (by first|exact HL.out.at|exact (HL.out.drewN _).at) (by omega) (by omega) (by omega) (by omega) (by first|exact J0|exact J2)).mono ?_;rintro e w' ⟨rfl,n,rfl⟩)
  | (go_at_call 91;refine (slice_z _ _ vs (by first|exact HL.out.at|exact (HL.out.drewN _).at) (by omega) (by omega) (by omega) (by omega) (by omega) (by omega) hvs).mono ?_;rintro e w' ⟨rfl,n2,rfl⟩)
  | (go_at_call 80;refine (peek_z _ _ (by first|exact HL.out.at|exact (HL.out.drewN _).at) (by omega) (by first|exact pin|exact pin2) (by omega) (by first|exact J1|exact J3)).mono ?_;rintro e w' ⟨rfl,n3,rfl⟩))
 go_loopw [16,184] (fun ev jv wq=>∃j:Nat,jv=.int .i64 (j:Int)∧ev=.bool err∧j≤2∧Hid (((rest s (x.at_+(k+2))).take j).all lx.hex=true)∧∃m,wq=wr.drewN m) (fun _ jv _=>2-(intOf jv).toNat)
 case atStart=>exact ⟨0,rfl,rfl,by omega,rfl,_,rfl⟩
 case round =>
  obtain ⟨j,rfl,rfl,hj,HA,m,rfl⟩:=hrel
  have hj2:j<2:=by
   rcases Nat.lt_or_ge j 2 with h|h
   ·exact h
   ·have hjj:j=2:=by omega
    have h1:=HA.out
    rw [hjj,hg.out] at h1
    cases h1
  have hbin:x.at_+(k+2)+j<s.size:=by
   rcases Nat.lt_or_ge (x.at_+(k+2)+j) s.size with h|h
   ·exact h
   ·have h1:=HA.out
    rw [all_end (m:=2) (by omega) hj,hg.out] at h1
    cases h1
  have JA:Hid (inB s (x.at_+((k:Int)+2+(j:Int)).toNat)=true):=by
   show _=_
   have e:((k:Int)+2+(j:Int)).toNat=k+2+j:=by omega
   rw [e];simp [inB];omega
  have JB:Hid (bt s (x.at_+((k:Int)+2+(j:Int)).toNat)=(s[x.at_+(k+2)+j].toNat:Int)):=by
   have e:x.at_+((k:Int)+2+(j:Int)).toNat=x.at_+(k+2)+j:=by omega
   show _=_
   rw [e];exact bt_in hbin
  have pinj:x.at_+((k:Int)+2+(j:Int)).toNat<s.size:=by omega
  have HN:=Lib.hid (all_next (good:=lx.hex) hbin)
  cases hgood:lx.hex s[x.at_+(k+2)+j]
  ·have JH:=Lib.hid hgood
   clear hgood HN
   generalize s[x.at_+(k+2)+j]=c at *
   go_wp2_with (first
    | (go_at_call 78;refine (peekOk_z _ _ (HL.out.drewN _).at (by omega) (by omega) (by omega) (by omega) JA).mono ?_;rintro e w' ⟨rfl,n4,rfl⟩)
    | (go_at_call 80;refine (peek_z _ _ (HL.out.drewN _).at (by omega) pinj (by omega) JB).mono ?_;rintro e w' ⟨rfl,n5,rfl⟩)
    | (go_at_call 109;refine (hex_named c _ _ JH).mono ?_;rintro e w' ⟨rfl,rfl⟩))
   have hw1:=IntWalk.i64_in ((x.at_:Int)+((k:Int)+1+1)) (by omega)
   have hw2:=IntWalk.i64_in ((x.at_:Int)+((k:Int)+2)) (by omega)
   have hw3:=IntWalk.i64_in ((x.at_:Int)+((k:Int)+1+1)-2) (by omega)
   have hw4:=IntWalk.i64_in ((x.at_:Int)+((k:Int)+2)-2) (by omega)
   have hw5:=IntWalk.i64_in ((x.at_:Int)+((k:Int)+1+1)+(j:Int)) (by omega)
   have hw6:=IntWalk.i64_in ((x.at_:Int)+((k:Int)+2)+(j:Int)) (by omega)
   have hw7:=IntWalk.i64_in ((x.at_:Int)+((k:Int)+1+1)+(j:Int)+1) (by omega)
   have hw8:=IntWalk.i64_in ((x.at_:Int)+((k:Int)+2)+(j:Int)+1) (by omega)
   generalize hW:wr.drewN _=W at *
   have HK:Hid (Held w B b f s x W):=by rw [←hW];exact ⟨HC.out.i.held.lex.drewN _,grown_drewN HC.out.i.held.grown _⟩
   clear hW
   have HD:=held_drew HK
   obtain ⟨c0,c1,c9⟩:=HK.out.lex.at
   have hxa:x.at_≤20000:=by omega
   have hka:k≤20000:=by omega
   have HO:=Lib.hid (quo_fault HC.out.i HS.out)
   clear HC HL HR hcv hlk hsz
   go_region_held2 (fun W=>W.cell? ⟨b,9,none⟩=some (.int .i64 (x.at_:Int)))
    (first|exact (‹Hid False›).out.elim|assumption)
    (first|(go_at_call 108;refine (panicfAt_w HD.out.lex _ _ _ (by omega) (by omega) (by omega)).mono ?_;rintro e w' (⟨m,rfl,hm⟩|⟨hF,rfl⟩);exact (show QEnd w B b f s x q nm false uni false o _ _ _ from qend_fault HO.out HD.out m hm)))
   all_goals exact (‹Hid False›).out.elim
  ·have JH:=Lib.hid hgood
   have HA2:Hid (((rest s (x.at_+(k+2))).take (j+1)).all lx.hex=true):=by
    show _=_
    rw [HN.out,HA.out,hgood];rfl
   clear hgood HN
   generalize s[x.at_+(k+2)+j]=c at *
   go_wp2_with (first
    | (go_at_call 78;refine (peekOk_z _ _ (HL.out.drewN _).at (by omega) (by omega) (by omega) (by omega) JA).mono ?_;rintro e w' ⟨rfl,n4,rfl⟩)
    | (go_at_call 80;refine (peek_z _ _ (HL.out.drewN _).at (by omega) pinj (by omega) JB).mono ?_;rintro e w' ⟨rfl,n5,rfl⟩)
    | (go_at_call 109;refine (hex_named c _ _ JH).mono ?_;rintro e w' ⟨rfl,rfl⟩))
   go_round
   case rel=>exact ⟨j+1,by go_num,rfl,by omega,HA2,_,rfl⟩
   case measure=>simp [intOf];omega
set_option maxHeartbeats 4000000 in
set_option maxRecDepth 1000000 in
theorem quo_e117_p (HC:Hid (QC w B b f s x Q q false true idn false o k v l err wr)) (SZ:s.size≤20000) (hq3:q.size≤3) (hin2:x.at_+(k+1)<s.size)
  (hm:Hid (¬(rest s (x.at_+k)).take q.size=Q)) (hc:(s[x.at_+k].toNat:Int)=92) (hd:s[x.at_+(k+1)]=117)
  (hg:Hid (((rest s (x.at_+(k+2))).take 4).all lx.hex=false)) :
  QRound w B b f s x Q q nm false true idn false o (QFr u b q false true nm false (k:Int) v err) wr:=by
 have hin:x.at_+k<s.size:=by omega
 have HL:=Lib.hid HC.out.i.held.lex
 have J0:Hid (inB s (x.at_+(k:Int).toNat)=true):=by show _=_;simp [inB,hin]
 have J1:Hid (bt s (x.at_+(k:Int).toNat)=(s[x.at_+k].toNat:Int)):=by show bt s (x.at_+k)=_;exact bt_in hin
 obtain ⟨vs,hvs⟩:∃vs,Hid (s.extract (x.at_+(k:Int).toNat) (min (x.at_+((k:Int)+(q.size:Int)).toNat) s.size)=vs):=⟨_,rfl⟩
 have pin:x.at_+(k:Int).toNat<s.size:=by simpa using hin
 have hrc:=rest_cons s (x.at_+k) hin
 have hll:=look_list hin hvs
 have hcv:(vs.toList==q.toList)=false:=by
  rw [hll,HC.out.q]
  exact beq_eq_false_iff_ne.2 hm.out
 have hqs:q.size=Q.length:=by rw [←HC.out.q,toList_length]
 have hm':=hm.out
 rw [hqs,hrc] at hm'
 have HM:=Lib.hid hm'
 have HM0:Hid (¬(rest s (x.at_+k)).take Q.length=Q):=by rw [←hqs];exact hm.out
 have HQS:=Lib.hid hqs
 have HRC:=Lib.hid hrc
 have HR:=Lib.hid HC.out.i.row
 have hsz:=HC.out.i.held.grown.size
 have hlk:=HC.out.i.len
 clear hll hrc hm hm' hqs
 have J2:Hid (inB s (x.at_+((k:Int)+1).toNat)=true):=by
  show _=_
  have e:((k:Int)+1).toNat=k+1:=by omega
  rw [e];simp [inB];omega
 have J3:Hid (bt s (x.at_+((k:Int)+1).toNat)=(s[x.at_+(k+1)].toNat:Int)):=by
  have e:((k:Int)+1).toNat=k+1:=by omega
  show _=_
  rw [e];exact bt_in hin2
 have pin2:x.at_+((k:Int)+1).toNat<s.size:=by omega
 have hrc2:=rest_cons s (x.at_+(k+1)) hin2
 have hHRC:=HRC.out
 rw [show x.at_+k+1=x.at_+(k+1) from by omega,hrc2] at hHRC
 have HRC2:=Lib.hid hHRC
 clear hHRC hrc2 HRC
 rw [hd] at J3 HRC2
 have hcut:x.at_+(k+1)+1=x.at_+(k+2):=by omega
 rw [hcut] at HRC2
 clear hcut
 have HS:Hid (lx.qStep Q false true idn false k (rest s (x.at_+k)) l err=.stop .fault):=by
  show _=_
  rw [HRC2.out]
  unfold lx.qStep
  simp only
  rw [if_neg (by rw [←HRC2.out];exact HM0.out),if_pos (by omega)]
  exact escape_p hg.out
 clear HM HM0 HRC2
 rw [hc] at J1
 unfold QRound QFr
 conv=>arg 2;whnf
 go_wp2_with (first
  | (go_at_call 78;refine (peekOk_z _ _ (by first|exact HL.out.at|exact (HL.out.drewN _).at) (by omega) (by omega) (by omega) (by omega) (by first|exact J0|exact J2)).mono ?_;rintro e w' ⟨rfl,n,rfl⟩)
  | (go_at_call 91;refine (slice_z _ _ vs (by first|exact HL.out.at|exact (HL.out.drewN _).at) (by omega) (by omega) (by omega) (by omega) (by omega) (by omega) hvs).mono ?_;rintro e w' ⟨rfl,n2,rfl⟩)
  | (go_at_call 80;refine (peek_z _ _ (by first|exact HL.out.at|exact (HL.out.drewN _).at) (by omega) (by first|exact pin|exact pin2) (by omega) (by first|exact J1|exact J3)).mono ?_;rintro e w' ⟨rfl,n3,rfl⟩))
 go_loopw [16,23] (fun ev jv wq=>∃j:Nat,jv=.int .i64 (j:Int)∧ev=.bool err∧j≤4∧Hid (((rest s (x.at_+(k+2))).take j).all lx.hex=true)∧∃m,wq=wr.drewN m) (fun _ jv _=>4-(intOf jv).toNat)
 case atStart=>exact ⟨0,rfl,rfl,by omega,rfl,_,rfl⟩
 case round =>
  obtain ⟨j,rfl,rfl,hj,HA,m,rfl⟩:=hrel
  have hj2:j<4:=by
   rcases Nat.lt_or_ge j 4 with h|h
   ·exact h
   ·have hjj:j=4:=by omega
    have h1:=HA.out
    rw [hjj,hg.out] at h1
    cases h1
  have hbin:x.at_+(k+2)+j<s.size:=by
   rcases Nat.lt_or_ge (x.at_+(k+2)+j) s.size with h|h
   ·exact h
   ·have h1:=HA.out
    rw [all_end (m:=4) (by omega) hj,hg.out] at h1
    cases h1
  have JA:Hid (inB s (x.at_+((k:Int)+2+(j:Int)).toNat)=true):=by
   show _=_
   have e:((k:Int)+2+(j:Int)).toNat=k+2+j:=by omega
   rw [e];simp [inB];omega
  have JB:Hid (bt s (x.at_+((k:Int)+2+(j:Int)).toNat)=(s[x.at_+(k+2)+j].toNat:Int)):=by
   have e:x.at_+((k:Int)+2+(j:Int)).toNat=x.at_+(k+2)+j:=by omega
   show _=_
   rw [e];exact bt_in hbin
  have pinj:x.at_+((k:Int)+2+(j:Int)).toNat<s.size:=by omega
  have HN:=Lib.hid (all_next (good:=lx.hex) hbin)
  cases hgood:lx.hex s[x.at_+(k+2)+j]
  ·have JH:=Lib.hid hgood
   clear hgood HN
   generalize s[x.at_+(k+2)+j]=c at *
   go_wp2_with (first
    | (go_at_call 78;refine (peekOk_z _ _ (HL.out.drewN _).at (by omega) (by omega) (by omega) (by omega) JA).mono ?_;rintro e w' ⟨rfl,n4,rfl⟩)
    | (go_at_call 80;refine (peek_z _ _ (HL.out.drewN _).at (by omega) pinj (by omega) JB).mono ?_;rintro e w' ⟨rfl,n5,rfl⟩)
    | (go_at_call 109;refine (hex_named c _ _ JH).mono ?_;rintro e w' ⟨rfl,rfl⟩))
   have hw1:=IntWalk.i64_in ((x.at_:Int)+((k:Int)+1+1)) (by omega)
   have hw2:=IntWalk.i64_in ((x.at_:Int)+((k:Int)+2)) (by omega)
   have hw3:=IntWalk.i64_in ((x.at_:Int)+((k:Int)+1+1)-2) (by omega)
   have hw4:=IntWalk.i64_in ((x.at_:Int)+((k:Int)+2)-2) (by omega)
   have hw5:=IntWalk.i64_in ((x.at_:Int)+((k:Int)+1+1)+(j:Int)) (by omega)
   have hw6:=IntWalk.i64_in ((x.at_:Int)+((k:Int)+2)+(j:Int)) (by omega)
   have hw7:=IntWalk.i64_in ((x.at_:Int)+((k:Int)+1+1)+(j:Int)+1) (by omega)
   have hw8:=IntWalk.i64_in ((x.at_:Int)+((k:Int)+2)+(j:Int)+1) (by omega)
   generalize hW:wr.drewN _=W at *
   have HK:Hid (Held w B b f s x W):=by rw [←hW];exact ⟨HC.out.i.held.lex.drewN _,grown_drewN HC.out.i.held.grown _⟩
   clear hW
   have HD:=held_drew HK
   obtain ⟨c0,c1,c9⟩:=HK.out.lex.at
   have hxa:x.at_≤20000:=by omega
   have hka:k≤20000:=by omega
   have HO:=Lib.hid (quo_fault HC.out.i HS.out)
   clear HC HL HR hcv hlk hsz
   go_region_held2 (fun W=>W.cell? ⟨b,9,none⟩=some (.int .i64 (x.at_:Int)))
    (first|exact (‹Hid False›).out.elim|assumption)
    (first|(go_at_call 108;refine (panicfAt_w HD.out.lex _ _ _ (by omega) (by omega) (by omega)).mono ?_;rintro e w' (⟨m,rfl,hm⟩|⟨hF,rfl⟩);exact (show QEnd w B b f s x q nm false true false o _ _ _ from qend_fault HO.out HD.out m hm)))
   all_goals exact (‹Hid False›).out.elim
  ·have JH:=Lib.hid hgood
   have HA2:Hid (((rest s (x.at_+(k+2))).take (j+1)).all lx.hex=true):=by
    show _=_
    rw [HN.out,HA.out,hgood];rfl
   clear hgood HN
   generalize s[x.at_+(k+2)+j]=c at *
   go_wp2_with (first
    | (go_at_call 78;refine (peekOk_z _ _ (HL.out.drewN _).at (by omega) (by omega) (by omega) (by omega) JA).mono ?_;rintro e w' ⟨rfl,n4,rfl⟩)
    | (go_at_call 80;refine (peek_z _ _ (HL.out.drewN _).at (by omega) pinj (by omega) JB).mono ?_;rintro e w' ⟨rfl,n5,rfl⟩)
    | (go_at_call 109;refine (hex_named c _ _ JH).mono ?_;rintro e w' ⟨rfl,rfl⟩))
   go_round
   case rel=>exact ⟨j+1,by go_num,rfl,by omega,HA2,_,rfl⟩
   case measure=>simp [intOf];omega
set_option maxHeartbeats 4000000 in
set_option maxRecDepth 1000000 in
theorem quo_e85_p (HC:Hid (QC w B b f s x Q q false true idn false o k v l err wr)) (SZ:s.size≤20000) (hq3:q.size≤3) (hin2:x.at_+(k+1)<s.size)
  (hm:Hid (¬(rest s (x.at_+k)).take q.size=Q)) (hc:(s[x.at_+k].toNat:Int)=92) (hd:s[x.at_+(k+1)]=85)
  (hg:Hid (((rest s (x.at_+(k+2))).take 8).all lx.hex=false)) :
  QRound w B b f s x Q q nm false true idn false o (QFr u b q false true nm false (k:Int) v err) wr:=by
 have hin:x.at_+k<s.size:=by omega
 have HL:=Lib.hid HC.out.i.held.lex
 have J0:Hid (inB s (x.at_+(k:Int).toNat)=true):=by show _=_;simp [inB,hin]
 have J1:Hid (bt s (x.at_+(k:Int).toNat)=(s[x.at_+k].toNat:Int)):=by show bt s (x.at_+k)=_;exact bt_in hin
 obtain ⟨vs,hvs⟩:∃vs,Hid (s.extract (x.at_+(k:Int).toNat) (min (x.at_+((k:Int)+(q.size:Int)).toNat) s.size)=vs):=⟨_,rfl⟩
 have pin:x.at_+(k:Int).toNat<s.size:=by simpa using hin
 have hrc:=rest_cons s (x.at_+k) hin
 have hll:=look_list hin hvs
 have hcv:(vs.toList==q.toList)=false:=by
  rw [hll,HC.out.q]
  exact beq_eq_false_iff_ne.2 hm.out
 have hqs:q.size=Q.length:=by rw [←HC.out.q,toList_length]
 have hm':=hm.out
 rw [hqs,hrc] at hm'
 have HM:=Lib.hid hm'
 have HM0:Hid (¬(rest s (x.at_+k)).take Q.length=Q):=by rw [←hqs];exact hm.out
 have HQS:=Lib.hid hqs
 have HRC:=Lib.hid hrc
 have HR:=Lib.hid HC.out.i.row
 have hsz:=HC.out.i.held.grown.size
 have hlk:=HC.out.i.len
 clear hll hrc hm hm' hqs
 have J2:Hid (inB s (x.at_+((k:Int)+1).toNat)=true):=by
  show _=_
  have e:((k:Int)+1).toNat=k+1:=by omega
  rw [e];simp [inB];omega
 have J3:Hid (bt s (x.at_+((k:Int)+1).toNat)=(s[x.at_+(k+1)].toNat:Int)):=by
  have e:((k:Int)+1).toNat=k+1:=by omega
  show _=_
  rw [e];exact bt_in hin2
 have pin2:x.at_+((k:Int)+1).toNat<s.size:=by omega
 have hrc2:=rest_cons s (x.at_+(k+1)) hin2
 have hHRC:=HRC.out
 rw [show x.at_+k+1=x.at_+(k+1) from by omega,hrc2] at hHRC
 have HRC2:=Lib.hid hHRC
 clear hHRC hrc2 HRC
 rw [hd] at J3 HRC2
 have hcut:x.at_+(k+1)+1=x.at_+(k+2):=by omega
 rw [hcut] at HRC2
 clear hcut
 have HS:Hid (lx.qStep Q false true idn false k (rest s (x.at_+k)) l err=.stop .fault):=by
  show _=_
  rw [HRC2.out]
  unfold lx.qStep
  simp only
  rw [if_neg (by rw [←HRC2.out];exact HM0.out),if_pos (by omega)]
  exact escape_p hg.out
 clear HM HM0 HRC2
 rw [hc] at J1
 unfold QRound QFr
 conv=>arg 2;whnf
 go_wp2_with (first
  | (go_at_call 78;refine (peekOk_z _ _ (by first|exact HL.out.at|exact (HL.out.drewN _).at) (by omega) (by omega) (by omega) (by omega) (by first|exact J0|exact J2)).mono ?_;rintro e w' ⟨rfl,n,rfl⟩)
  | (go_at_call 91;refine (slice_z _ _ vs (by first|exact HL.out.at|exact (HL.out.drewN _).at) (by omega) (by omega) (by omega) (by omega) (by omega) (by omega) hvs).mono ?_;rintro e w' ⟨rfl,n2,rfl⟩)
  | (go_at_call 80;refine (peek_z _ _ (by first|exact HL.out.at|exact (HL.out.drewN _).at) (by omega) (by first|exact pin|exact pin2) (by omega) (by first|exact J1|exact J3)).mono ?_;rintro e w' ⟨rfl,n3,rfl⟩))
 go_loopw [16,23] (fun ev jv wq=>∃j:Nat,jv=.int .i64 (j:Int)∧ev=.bool err∧j≤8∧Hid (((rest s (x.at_+(k+2))).take j).all lx.hex=true)∧∃m,wq=wr.drewN m) (fun _ jv _=>8-(intOf jv).toNat)
 case atStart=>exact ⟨0,rfl,rfl,by omega,rfl,_,rfl⟩
 case round =>
  obtain ⟨j,rfl,rfl,hj,HA,m,rfl⟩:=hrel
  have hj2:j<8:=by
   rcases Nat.lt_or_ge j 8 with h|h
   ·exact h
   ·have hjj:j=8:=by omega
    have h1:=HA.out
    rw [hjj,hg.out] at h1
    cases h1
  have hbin:x.at_+(k+2)+j<s.size:=by
   rcases Nat.lt_or_ge (x.at_+(k+2)+j) s.size with h|h
   ·exact h
   ·have h1:=HA.out
    rw [all_end (m:=8) (by omega) hj,hg.out] at h1
    cases h1
  have JA:Hid (inB s (x.at_+((k:Int)+2+(j:Int)).toNat)=true):=by
   show _=_
   have e:((k:Int)+2+(j:Int)).toNat=k+2+j:=by omega
   rw [e];simp [inB];omega
  have JB:Hid (bt s (x.at_+((k:Int)+2+(j:Int)).toNat)=(s[x.at_+(k+2)+j].toNat:Int)):=by
   have e:x.at_+((k:Int)+2+(j:Int)).toNat=x.at_+(k+2)+j:=by omega
   show _=_
   rw [e];exact bt_in hbin
  have pinj:x.at_+((k:Int)+2+(j:Int)).toNat<s.size:=by omega
  have HN:=Lib.hid (all_next (good:=lx.hex) hbin)
  cases hgood:lx.hex s[x.at_+(k+2)+j]
  ·have JH:=Lib.hid hgood
   clear hgood HN
   generalize s[x.at_+(k+2)+j]=c at *
   go_wp2_with (first
    | (go_at_call 78;refine (peekOk_z _ _ (HL.out.drewN _).at (by omega) (by omega) (by omega) (by omega) JA).mono ?_;rintro e w' ⟨rfl,n4,rfl⟩)
    | (go_at_call 80;refine (peek_z _ _ (HL.out.drewN _).at (by omega) pinj (by omega) JB).mono ?_;rintro e w' ⟨rfl,n5,rfl⟩)
    | (go_at_call 109;refine (hex_named c _ _ JH).mono ?_;rintro e w' ⟨rfl,rfl⟩))
   have hw1:=IntWalk.i64_in ((x.at_:Int)+((k:Int)+1+1)) (by omega)
   have hw2:=IntWalk.i64_in ((x.at_:Int)+((k:Int)+2)) (by omega)
   have hw3:=IntWalk.i64_in ((x.at_:Int)+((k:Int)+1+1)-2) (by omega)
   have hw4:=IntWalk.i64_in ((x.at_:Int)+((k:Int)+2)-2) (by omega)
   have hw5:=IntWalk.i64_in ((x.at_:Int)+((k:Int)+1+1)+(j:Int)) (by omega)
   have hw6:=IntWalk.i64_in ((x.at_:Int)+((k:Int)+2)+(j:Int)) (by omega)
   have hw7:=IntWalk.i64_in ((x.at_:Int)+((k:Int)+1+1)+(j:Int)+1) (by omega)
   have hw8:=IntWalk.i64_in ((x.at_:Int)+((k:Int)+2)+(j:Int)+1) (by omega)
   generalize hW:wr.drewN _=W at *
   have HK:Hid (Held w B b f s x W):=by rw [←hW];exact ⟨HC.out.i.held.lex.drewN _,grown_drewN HC.out.i.held.grown _⟩
   clear hW
   have HD:=held_drew HK
   obtain ⟨c0,c1,c9⟩:=HK.out.lex.at
   have hxa:x.at_≤20000:=by omega
   have hka:k≤20000:=by omega
   have HO:=Lib.hid (quo_fault HC.out.i HS.out)
   clear HC HL HR hcv hlk hsz
   go_region_held2 (fun W=>W.cell? ⟨b,9,none⟩=some (.int .i64 (x.at_:Int)))
    (first|exact (‹Hid False›).out.elim|assumption)
    (first|(go_at_call 108;refine (panicfAt_w HD.out.lex _ _ _ (by omega) (by omega) (by omega)).mono ?_;rintro e w' (⟨m,rfl,hm⟩|⟨hF,rfl⟩);exact (show QEnd w B b f s x q nm false true false o _ _ _ from qend_fault HO.out HD.out m hm)))
   all_goals exact (‹Hid False›).out.elim
  ·have JH:=Lib.hid hgood
   have HA2:Hid (((rest s (x.at_+(k+2))).take (j+1)).all lx.hex=true):=by
    show _=_
    rw [HN.out,HA.out,hgood];rfl
   clear hgood HN
   generalize s[x.at_+(k+2)+j]=c at *
   go_wp2_with (first
    | (go_at_call 78;refine (peekOk_z _ _ (HL.out.drewN _).at (by omega) (by omega) (by omega) (by omega) JA).mono ?_;rintro e w' ⟨rfl,n4,rfl⟩)
    | (go_at_call 80;refine (peek_z _ _ (HL.out.drewN _).at (by omega) pinj (by omega) JB).mono ?_;rintro e w' ⟨rfl,n5,rfl⟩)
    | (go_at_call 109;refine (hex_named c _ _ JH).mono ?_;rintro e w' ⟨rfl,rfl⟩))
   go_round
   case rel=>exact ⟨j+1,by go_num,rfl,by omega,HA2,_,rfl⟩
   case measure=>simp [intOf];omega
end
end Go.Proofs.YtaamolahbkgofaaGreatDoor.lex
set_option linter.unusedVariables false
namespace Go.Proofs.YtaamolahbkgofaaGreatDoor.lex
open Go.RowKit mem lines
section
variable {w wr:World} {B b f:Nat} {s q nm:ByteArray} {x:St} {Q:lx.Bs} {raw uni idn np:Bool} {o:lx.QOut} {k:Nat} {v:Value} {l:lx.Bs} {err:Bool} {u:Nat→Value}
set_option maxHeartbeats 4000000 in
set_option maxRecDepth 1000000 in
theorem quo_e48_p (HC:Hid (QC w B b f s x Q q false uni idn false o k v l err wr)) (SZ:s.size≤20000) (hq3:q.size≤3) (hin2:x.at_+(k+1)<s.size)
  (hm:Hid (¬(rest s (x.at_+k)).take q.size=Q)) (hc:(s[x.at_+k].toNat:Int)=92) (hd:s[x.at_+(k+1)]=48)
  (hg:Hid (((rest s (x.at_+(k+2))).take 2).all lx.oct=false)) :
  QRound w B b f s x Q q nm false uni idn false o (QFr u b q false uni nm false (k:Int) v err) wr:=by
 have hin:x.at_+k<s.size:=by omega
 have HL:=Lib.hid HC.out.i.held.lex
 have J0:Hid (inB s (x.at_+(k:Int).toNat)=true):=by show _=_;simp [inB,hin]
 have J1:Hid (bt s (x.at_+(k:Int).toNat)=(s[x.at_+k].toNat:Int)):=by show bt s (x.at_+k)=_;exact bt_in hin
 obtain ⟨vs,hvs⟩:∃vs,Hid (s.extract (x.at_+(k:Int).toNat) (min (x.at_+((k:Int)+(q.size:Int)).toNat) s.size)=vs):=⟨_,rfl⟩
 have pin:x.at_+(k:Int).toNat<s.size:=by simpa using hin
 have hrc:=rest_cons s (x.at_+k) hin
 have hll:=look_list hin hvs
 have hcv:(vs.toList==q.toList)=false:=by
  rw [hll,HC.out.q]
  exact beq_eq_false_iff_ne.2 hm.out
 have hqs:q.size=Q.length:=by rw [←HC.out.q,toList_length]
 have hm':=hm.out
 rw [hqs,hrc] at hm'
 have HM:=Lib.hid hm'
 have HM0:Hid (¬(rest s (x.at_+k)).take Q.length=Q):=by rw [←hqs];exact hm.out
 have HQS:=Lib.hid hqs
 have HRC:=Lib.hid hrc
 have HR:=Lib.hid HC.out.i.row
 have hsz:=HC.out.i.held.grown.size
 have hlk:=HC.out.i.len
 clear hll hrc hm hm' hqs
 have J2:Hid (inB s (x.at_+((k:Int)+1).toNat)=true):=by
  show _=_
  have e:((k:Int)+1).toNat=k+1:=by omega
  rw [e];simp [inB];omega
 have J3:Hid (bt s (x.at_+((k:Int)+1).toNat)=(s[x.at_+(k+1)].toNat:Int)):=by
  have e:((k:Int)+1).toNat=k+1:=by omega
  show _=_
  rw [e];exact bt_in hin2
 have pin2:x.at_+((k:Int)+1).toNat<s.size:=by omega
 have hrc2:=rest_cons s (x.at_+(k+1)) hin2
 have hHRC:=HRC.out
 rw [show x.at_+k+1=x.at_+(k+1) from by omega,hrc2] at hHRC
 have HRC2:=Lib.hid hHRC
 clear hHRC hrc2 HRC
 rw [hd] at J3 HRC2
 have hcut:x.at_+(k+1)+1=x.at_+(k+2):=by omega
 rw [hcut] at HRC2
 clear hcut
 have HS:Hid (lx.qStep Q false uni idn false k (rest s (x.at_+k)) l err=.stop .fault):=by
  show _=_
  rw [HRC2.out]
  unfold lx.qStep
  simp only
  rw [if_neg (by rw [←HRC2.out];exact HM0.out),if_pos (by omega)]
  exact escape_p hg.out
 clear HM HM0 HRC2
 rw [hc] at J1
 unfold QRound QFr
 conv=>arg 2;whnf
 go_wp2_with (first
  | (go_at_call 78;refine (peekOk_z _ _ (by first|exact HL.out.at|exact (HL.out.drewN _).at) (by omega) (by omega) (by omega) (by omega) (by first|exact J0|exact J2)).mono ?_;rintro e w' ⟨rfl,n,rfl⟩)
  | (go_at_call 91;refine (slice_z _ _ vs (by first|exact HL.out.at|exact (HL.out.drewN _).at) (by omega) (by omega) (by omega) (by omega) (by omega) (by omega) hvs).mono ?_;rintro e w' ⟨rfl,n2,rfl⟩)
  | (go_at_call 80;refine (peek_z _ _ (by first|exact HL.out.at|exact (HL.out.drewN _).at) (by omega) (by first|exact pin|exact pin2) (by omega) (by first|exact J1|exact J3)).mono ?_;rintro e w' ⟨rfl,n3,rfl⟩))
 go_loopw [16,393] (fun ev jv wq=>∃j:Nat,jv=.int .i64 (j:Int)∧ev=.bool err∧j≤2∧Hid (((rest s (x.at_+(k+2))).take j).all lx.oct=true)∧∃m,wq=wr.drewN m) (fun _ jv _=>2-(intOf jv).toNat)
 case atStart=>exact ⟨0,rfl,rfl,by omega,rfl,_,rfl⟩
 case round =>
  obtain ⟨j,rfl,rfl,hj,HA,m,rfl⟩:=hrel
  have hj2:j<2:=by
   rcases Nat.lt_or_ge j 2 with h|h
   ·exact h
   ·have hjj:j=2:=by omega
    have h1:=HA.out
    rw [hjj,hg.out] at h1
    cases h1
  have hbin:x.at_+(k+2)+j<s.size:=by
   rcases Nat.lt_or_ge (x.at_+(k+2)+j) s.size with h|h
   ·exact h
   ·have h1:=HA.out
    rw [all_end (m:=2) (by omega) hj,hg.out] at h1
    cases h1
  have JA:Hid (inB s (x.at_+((k:Int)+2+(j:Int)).toNat)=true):=by
   show _=_
   have e:((k:Int)+2+(j:Int)).toNat=k+2+j:=by omega
   rw [e];simp [inB];omega
  have JB:Hid (bt s (x.at_+((k:Int)+2+(j:Int)).toNat)=(s[x.at_+(k+2)+j].toNat:Int)):=by
   have e:x.at_+((k:Int)+2+(j:Int)).toNat=x.at_+(k+2)+j:=by omega
   show _=_
   rw [e];exact bt_in hbin
  have pinj:x.at_+((k:Int)+2+(j:Int)).toNat<s.size:=by omega
  have HN:=Lib.hid (all_next (good:=lx.oct) hbin)
  cases hgood:lx.oct s[x.at_+(k+2)+j]
  ·have JH:=Lib.hid hgood
   clear hgood HN
   generalize s[x.at_+(k+2)+j]=c at *
   go_wp2_with (first
    | (go_at_call 78;refine (peekOk_z _ _ (HL.out.drewN _).at (by omega) (by omega) (by omega) (by omega) JA).mono ?_;rintro e w' ⟨rfl,n4,rfl⟩)
    | (go_at_call 80;refine (peek_z _ _ (HL.out.drewN _).at (by omega) pinj (by omega) JB).mono ?_;rintro e w' ⟨rfl,n5,rfl⟩)
    | (go_at_call 113;refine (oct_named c _ _ JH).mono ?_;rintro e w' ⟨rfl,rfl⟩))
   have hw1:=IntWalk.i64_in ((x.at_:Int)+((k:Int)+1+1)) (by omega)
   have hw2:=IntWalk.i64_in ((x.at_:Int)+((k:Int)+2)) (by omega)
   have hw3:=IntWalk.i64_in ((x.at_:Int)+((k:Int)+1+1)-2) (by omega)
   have hw4:=IntWalk.i64_in ((x.at_:Int)+((k:Int)+2)-2) (by omega)
   have hw5:=IntWalk.i64_in ((x.at_:Int)+((k:Int)+1+1)+(j:Int)) (by omega)
   have hw6:=IntWalk.i64_in ((x.at_:Int)+((k:Int)+2)+(j:Int)) (by omega)
   have hw7:=IntWalk.i64_in ((x.at_:Int)+((k:Int)+1+1)+(j:Int)+1) (by omega)
   have hw8:=IntWalk.i64_in ((x.at_:Int)+((k:Int)+2)+(j:Int)+1) (by omega)
   generalize hW:wr.drewN _=W at *
   have HK:Hid (Held w B b f s x W):=by rw [←hW];exact ⟨HC.out.i.held.lex.drewN _,grown_drewN HC.out.i.held.grown _⟩
   clear hW
   have HD:=held_drew HK
   obtain ⟨c0,c1,c9⟩:=HK.out.lex.at
   have hxa:x.at_≤20000:=by omega
   have hka:k≤20000:=by omega
   have HO:=Lib.hid (quo_fault HC.out.i HS.out)
   clear HC HL HR hcv hlk hsz
   go_region_held2 (fun W=>W.cell? ⟨b,9,none⟩=some (.int .i64 (x.at_:Int)))
    (first|exact (‹Hid False›).out.elim|assumption)
    (first|(go_at_call 108;refine (panicfAt_w HD.out.lex _ _ _ (by omega) (by omega) (by omega)).mono ?_;rintro e w' (⟨m,rfl,hm⟩|⟨hF,rfl⟩);exact (show QEnd w B b f s x q nm false uni false o _ _ _ from qend_fault HO.out HD.out m hm)))
   all_goals exact (‹Hid False›).out.elim
  ·have JH:=Lib.hid hgood
   have HA2:Hid (((rest s (x.at_+(k+2))).take (j+1)).all lx.oct=true):=by
    show _=_
    rw [HN.out,HA.out,hgood];rfl
   clear hgood HN
   generalize s[x.at_+(k+2)+j]=c at *
   go_wp2_with (first
    | (go_at_call 78;refine (peekOk_z _ _ (HL.out.drewN _).at (by omega) (by omega) (by omega) (by omega) JA).mono ?_;rintro e w' ⟨rfl,n4,rfl⟩)
    | (go_at_call 80;refine (peek_z _ _ (HL.out.drewN _).at (by omega) pinj (by omega) JB).mono ?_;rintro e w' ⟨rfl,n5,rfl⟩)
    | (go_at_call 113;refine (oct_named c _ _ JH).mono ?_;rintro e w' ⟨rfl,rfl⟩))
   go_round
   case rel=>exact ⟨j+1,by go_num,rfl,by omega,HA2,_,rfl⟩
   case measure=>simp [intOf];omega
set_option maxHeartbeats 4000000 in
set_option maxRecDepth 1000000 in
theorem quo_e49_p (HC:Hid (QC w B b f s x Q q false uni idn false o k v l err wr)) (SZ:s.size≤20000) (hq3:q.size≤3) (hin2:x.at_+(k+1)<s.size)
  (hm:Hid (¬(rest s (x.at_+k)).take q.size=Q)) (hc:(s[x.at_+k].toNat:Int)=92) (hd:s[x.at_+(k+1)]=49)
  (hg:Hid (((rest s (x.at_+(k+2))).take 2).all lx.oct=false)) :
  QRound w B b f s x Q q nm false uni idn false o (QFr u b q false uni nm false (k:Int) v err) wr:=by
 have hin:x.at_+k<s.size:=by omega
 have HL:=Lib.hid HC.out.i.held.lex
 have J0:Hid (inB s (x.at_+(k:Int).toNat)=true):=by show _=_;simp [inB,hin]
 have J1:Hid (bt s (x.at_+(k:Int).toNat)=(s[x.at_+k].toNat:Int)):=by show bt s (x.at_+k)=_;exact bt_in hin
 obtain ⟨vs,hvs⟩:∃vs,Hid (s.extract (x.at_+(k:Int).toNat) (min (x.at_+((k:Int)+(q.size:Int)).toNat) s.size)=vs):=⟨_,rfl⟩
 have pin:x.at_+(k:Int).toNat<s.size:=by simpa using hin
 have hrc:=rest_cons s (x.at_+k) hin
 have hll:=look_list hin hvs
 have hcv:(vs.toList==q.toList)=false:=by
  rw [hll,HC.out.q]
  exact beq_eq_false_iff_ne.2 hm.out
 have hqs:q.size=Q.length:=by rw [←HC.out.q,toList_length]
 have hm':=hm.out
 rw [hqs,hrc] at hm'
 have HM:=Lib.hid hm'
 have HM0:Hid (¬(rest s (x.at_+k)).take Q.length=Q):=by rw [←hqs];exact hm.out
 have HQS:=Lib.hid hqs
 have HRC:=Lib.hid hrc
 have HR:=Lib.hid HC.out.i.row
 have hsz:=HC.out.i.held.grown.size
 have hlk:=HC.out.i.len
 clear hll hrc hm hm' hqs
 have J2:Hid (inB s (x.at_+((k:Int)+1).toNat)=true):=by
  show _=_
  have e:((k:Int)+1).toNat=k+1:=by omega
  rw [e];simp [inB];omega
 have J3:Hid (bt s (x.at_+((k:Int)+1).toNat)=(s[x.at_+(k+1)].toNat:Int)):=by
  have e:((k:Int)+1).toNat=k+1:=by omega
  show _=_
  rw [e];exact bt_in hin2
 have pin2:x.at_+((k:Int)+1).toNat<s.size:=by omega
 have hrc2:=rest_cons s (x.at_+(k+1)) hin2
 have hHRC:=HRC.out
 rw [show x.at_+k+1=x.at_+(k+1) from by omega,hrc2] at hHRC
 have HRC2:=Lib.hid hHRC
 clear hHRC hrc2 HRC
 rw [hd] at J3 HRC2
 have hcut:x.at_+(k+1)+1=x.at_+(k+2):=by omega
 rw [hcut] at HRC2
 clear hcut
 have HS:Hid (lx.qStep Q false uni idn false k (rest s (x.at_+k)) l err=.stop .fault):=by
  show _=_
  rw [HRC2.out]
  unfold lx.qStep
  simp only
  rw [if_neg (by rw [←HRC2.out];exact HM0.out),if_pos (by omega)]
  exact escape_p hg.out
 clear HM HM0 HRC2
 rw [hc] at J1
 unfold QRound QFr
 conv=>arg 2;whnf
 go_wp2_with (first
  | (go_at_call 78;refine (peekOk_z _ _ (by first|exact HL.out.at|exact (HL.out.drewN _).at) (by omega) (by omega) (by omega) (by omega) (by first|exact J0|exact J2)).mono ?_;rintro e w' ⟨rfl,n,rfl⟩)
  | (go_at_call 91;refine (slice_z _ _ vs (by first|exact HL.out.at|exact (HL.out.drewN _).at) (by omega) (by omega) (by omega) (by omega) (by omega) (by omega) hvs).mono ?_;rintro e w' ⟨rfl,n2,rfl⟩)
  | (go_at_call 80;refine (peek_z _ _ (by first|exact HL.out.at|exact (HL.out.drewN _).at) (by omega) (by first|exact pin|exact pin2) (by omega) (by first|exact J1|exact J3)).mono ?_;rintro e w' ⟨rfl,n3,rfl⟩))
 go_loopw [16,393] (fun ev jv wq=>∃j:Nat,jv=.int .i64 (j:Int)∧ev=.bool err∧j≤2∧Hid (((rest s (x.at_+(k+2))).take j).all lx.oct=true)∧∃m,wq=wr.drewN m) (fun _ jv _=>2-(intOf jv).toNat)
 case atStart=>exact ⟨0,rfl,rfl,by omega,rfl,_,rfl⟩
 case round =>
  obtain ⟨j,rfl,rfl,hj,HA,m,rfl⟩:=hrel
  have hj2:j<2:=by
   rcases Nat.lt_or_ge j 2 with h|h
   ·exact h
   ·have hjj:j=2:=by omega
    have h1:=HA.out
    rw [hjj,hg.out] at h1
    cases h1
  have hbin:x.at_+(k+2)+j<s.size:=by
   rcases Nat.lt_or_ge (x.at_+(k+2)+j) s.size with h|h
   ·exact h
   ·have h1:=HA.out
    rw [all_end (m:=2) (by omega) hj,hg.out] at h1
    cases h1
  have JA:Hid (inB s (x.at_+((k:Int)+2+(j:Int)).toNat)=true):=by
   show _=_
   have e:((k:Int)+2+(j:Int)).toNat=k+2+j:=by omega
   rw [e];simp [inB];omega
  have JB:Hid (bt s (x.at_+((k:Int)+2+(j:Int)).toNat)=(s[x.at_+(k+2)+j].toNat:Int)):=by
   have e:x.at_+((k:Int)+2+(j:Int)).toNat=x.at_+(k+2)+j:=by omega
   show _=_
   rw [e];exact bt_in hbin
  have pinj:x.at_+((k:Int)+2+(j:Int)).toNat<s.size:=by omega
  have HN:=Lib.hid (all_next (good:=lx.oct) hbin)
  cases hgood:lx.oct s[x.at_+(k+2)+j]
  ·have JH:=Lib.hid hgood
   clear hgood HN
   generalize s[x.at_+(k+2)+j]=c at *
   go_wp2_with (first
    | (go_at_call 78;refine (peekOk_z _ _ (HL.out.drewN _).at (by omega) (by omega) (by omega) (by omega) JA).mono ?_;rintro e w' ⟨rfl,n4,rfl⟩)
    | (go_at_call 80;refine (peek_z _ _ (HL.out.drewN _).at (by omega) pinj (by omega) JB).mono ?_;rintro e w' ⟨rfl,n5,rfl⟩)
    | (go_at_call 113;refine (oct_named c _ _ JH).mono ?_;rintro e w' ⟨rfl,rfl⟩))
   have hw1:=IntWalk.i64_in ((x.at_:Int)+((k:Int)+1+1)) (by omega)
   have hw2:=IntWalk.i64_in ((x.at_:Int)+((k:Int)+2)) (by omega)
   have hw3:=IntWalk.i64_in ((x.at_:Int)+((k:Int)+1+1)-2) (by omega)
   have hw4:=IntWalk.i64_in ((x.at_:Int)+((k:Int)+2)-2) (by omega)
   have hw5:=IntWalk.i64_in ((x.at_:Int)+((k:Int)+1+1)+(j:Int)) (by omega)
   have hw6:=IntWalk.i64_in ((x.at_:Int)+((k:Int)+2)+(j:Int)) (by omega)
   have hw7:=IntWalk.i64_in ((x.at_:Int)+((k:Int)+1+1)+(j:Int)+1) (by omega)
   have hw8:=IntWalk.i64_in ((x.at_:Int)+((k:Int)+2)+(j:Int)+1) (by omega)
   generalize hW:wr.drewN _=W at *
   have HK:Hid (Held w B b f s x W):=by rw [←hW];exact ⟨HC.out.i.held.lex.drewN _,grown_drewN HC.out.i.held.grown _⟩
   clear hW
   have HD:=held_drew HK
   obtain ⟨c0,c1,c9⟩:=HK.out.lex.at
   have hxa:x.at_≤20000:=by omega
   have hka:k≤20000:=by omega
   have HO:=Lib.hid (quo_fault HC.out.i HS.out)
   clear HC HL HR hcv hlk hsz
   go_region_held2 (fun W=>W.cell? ⟨b,9,none⟩=some (.int .i64 (x.at_:Int)))
    (first|exact (‹Hid False›).out.elim|assumption)
    (first|(go_at_call 108;refine (panicfAt_w HD.out.lex _ _ _ (by omega) (by omega) (by omega)).mono ?_;rintro e w' (⟨m,rfl,hm⟩|⟨hF,rfl⟩);exact (show QEnd w B b f s x q nm false uni false o _ _ _ from qend_fault HO.out HD.out m hm)))
   all_goals exact (‹Hid False›).out.elim
  ·have JH:=Lib.hid hgood
   have HA2:Hid (((rest s (x.at_+(k+2))).take (j+1)).all lx.oct=true):=by
    show _=_
    rw [HN.out,HA.out,hgood];rfl
   clear hgood HN
   generalize s[x.at_+(k+2)+j]=c at *
   go_wp2_with (first
    | (go_at_call 78;refine (peekOk_z _ _ (HL.out.drewN _).at (by omega) (by omega) (by omega) (by omega) JA).mono ?_;rintro e w' ⟨rfl,n4,rfl⟩)
    | (go_at_call 80;refine (peek_z _ _ (HL.out.drewN _).at (by omega) pinj (by omega) JB).mono ?_;rintro e w' ⟨rfl,n5,rfl⟩)
    | (go_at_call 113;refine (oct_named c _ _ JH).mono ?_;rintro e w' ⟨rfl,rfl⟩))
   go_round
   case rel=>exact ⟨j+1,by go_num,rfl,by omega,HA2,_,rfl⟩
   case measure=>simp [intOf];omega
set_option maxHeartbeats 4000000 in
set_option maxRecDepth 1000000 in
theorem quo_e50_p (HC:Hid (QC w B b f s x Q q false uni idn false o k v l err wr)) (SZ:s.size≤20000) (hq3:q.size≤3) (hin2:x.at_+(k+1)<s.size)
  (hm:Hid (¬(rest s (x.at_+k)).take q.size=Q)) (hc:(s[x.at_+k].toNat:Int)=92) (hd:s[x.at_+(k+1)]=50)
  (hg:Hid (((rest s (x.at_+(k+2))).take 2).all lx.oct=false)) :
  QRound w B b f s x Q q nm false uni idn false o (QFr u b q false uni nm false (k:Int) v err) wr:=by
 have hin:x.at_+k<s.size:=by omega
 have HL:=Lib.hid HC.out.i.held.lex
 have J0:Hid (inB s (x.at_+(k:Int).toNat)=true):=by show _=_;simp [inB,hin]
 have J1:Hid (bt s (x.at_+(k:Int).toNat)=(s[x.at_+k].toNat:Int)):=by show bt s (x.at_+k)=_;exact bt_in hin
 obtain ⟨vs,hvs⟩:∃vs,Hid (s.extract (x.at_+(k:Int).toNat) (min (x.at_+((k:Int)+(q.size:Int)).toNat) s.size)=vs):=⟨_,rfl⟩
 have pin:x.at_+(k:Int).toNat<s.size:=by simpa using hin
 have hrc:=rest_cons s (x.at_+k) hin
 have hll:=look_list hin hvs
 have hcv:(vs.toList==q.toList)=false:=by
  rw [hll,HC.out.q]
  exact beq_eq_false_iff_ne.2 hm.out
 have hqs:q.size=Q.length:=by rw [←HC.out.q,toList_length]
 have hm':=hm.out
 rw [hqs,hrc] at hm'
 have HM:=Lib.hid hm'
 have HM0:Hid (¬(rest s (x.at_+k)).take Q.length=Q):=by rw [←hqs];exact hm.out
 have HQS:=Lib.hid hqs
 have HRC:=Lib.hid hrc
 have HR:=Lib.hid HC.out.i.row
 have hsz:=HC.out.i.held.grown.size
 have hlk:=HC.out.i.len
 clear hll hrc hm hm' hqs
 have J2:Hid (inB s (x.at_+((k:Int)+1).toNat)=true):=by
  show _=_
  have e:((k:Int)+1).toNat=k+1:=by omega
  rw [e];simp [inB];omega
 have J3:Hid (bt s (x.at_+((k:Int)+1).toNat)=(s[x.at_+(k+1)].toNat:Int)):=by
  have e:((k:Int)+1).toNat=k+1:=by omega
  show _=_
  rw [e];exact bt_in hin2
 have pin2:x.at_+((k:Int)+1).toNat<s.size:=by omega
 have hrc2:=rest_cons s (x.at_+(k+1)) hin2
 have hHRC:=HRC.out
 rw [show x.at_+k+1=x.at_+(k+1) from by omega,hrc2] at hHRC
 have HRC2:=Lib.hid hHRC
 clear hHRC hrc2 HRC
 rw [hd] at J3 HRC2
 have hcut:x.at_+(k+1)+1=x.at_+(k+2):=by omega
 rw [hcut] at HRC2
 clear hcut
 have HS:Hid (lx.qStep Q false uni idn false k (rest s (x.at_+k)) l err=.stop .fault):=by
  show _=_
  rw [HRC2.out]
  unfold lx.qStep
  simp only
  rw [if_neg (by rw [←HRC2.out];exact HM0.out),if_pos (by omega)]
  exact escape_p hg.out
 clear HM HM0 HRC2
 rw [hc] at J1
 unfold QRound QFr
 conv=>arg 2;whnf
 go_wp2_with (first
  | (go_at_call 78;refine (peekOk_z _ _ (by first|exact HL.out.at|exact (HL.out.drewN _).at) (by omega) (by omega) (by omega) (by omega) (by first|exact J0|exact J2)).mono ?_;rintro e w' ⟨rfl,n,rfl⟩)
  | (go_at_call 91;refine (slice_z _ _ vs (by first|exact HL.out.at|exact (HL.out.drewN _).at) (by omega) (by omega) (by omega) (by omega) (by omega) (by omega) hvs).mono ?_;rintro e w' ⟨rfl,n2,rfl⟩)
  | (go_at_call 80;refine (peek_z _ _ (by first|exact HL.out.at|exact (HL.out.drewN _).at) (by omega) (by first|exact pin|exact pin2) (by omega) (by first|exact J1|exact J3)).mono ?_;rintro e w' ⟨rfl,n3,rfl⟩))
 go_loopw [16,393] (fun ev jv wq=>∃j:Nat,jv=.int .i64 (j:Int)∧ev=.bool err∧j≤2∧Hid (((rest s (x.at_+(k+2))).take j).all lx.oct=true)∧∃m,wq=wr.drewN m) (fun _ jv _=>2-(intOf jv).toNat)
 case atStart=>exact ⟨0,rfl,rfl,by omega,rfl,_,rfl⟩
 case round =>
  obtain ⟨j,rfl,rfl,hj,HA,m,rfl⟩:=hrel
  have hj2:j<2:=by
   rcases Nat.lt_or_ge j 2 with h|h
   ·exact h
   ·have hjj:j=2:=by omega
    have h1:=HA.out
    rw [hjj,hg.out] at h1
    cases h1
  have hbin:x.at_+(k+2)+j<s.size:=by
   rcases Nat.lt_or_ge (x.at_+(k+2)+j) s.size with h|h
   ·exact h
   ·have h1:=HA.out
    rw [all_end (m:=2) (by omega) hj,hg.out] at h1
    cases h1
  have JA:Hid (inB s (x.at_+((k:Int)+2+(j:Int)).toNat)=true):=by
   show _=_
   have e:((k:Int)+2+(j:Int)).toNat=k+2+j:=by omega
   rw [e];simp [inB];omega
  have JB:Hid (bt s (x.at_+((k:Int)+2+(j:Int)).toNat)=(s[x.at_+(k+2)+j].toNat:Int)):=by
   have e:x.at_+((k:Int)+2+(j:Int)).toNat=x.at_+(k+2)+j:=by omega
   show _=_
   rw [e];exact bt_in hbin
  have pinj:x.at_+((k:Int)+2+(j:Int)).toNat<s.size:=by omega
  have HN:=Lib.hid (all_next (good:=lx.oct) hbin)
  cases hgood:lx.oct s[x.at_+(k+2)+j]
  ·have JH:=Lib.hid hgood
   clear hgood HN
   generalize s[x.at_+(k+2)+j]=c at *
   go_wp2_with (first
    | (go_at_call 78;refine (peekOk_z _ _ (HL.out.drewN _).at (by omega) (by omega) (by omega) (by omega) JA).mono ?_;rintro e w' ⟨rfl,n4,rfl⟩)
    | (go_at_call 80;refine (peek_z _ _ (HL.out.drewN _).at (by omega) pinj (by omega) JB).mono ?_;rintro e w' ⟨rfl,n5,rfl⟩)
    | (go_at_call 113;refine (oct_named c _ _ JH).mono ?_;rintro e w' ⟨rfl,rfl⟩))
   have hw1:=IntWalk.i64_in ((x.at_:Int)+((k:Int)+1+1)) (by omega)
   have hw2:=IntWalk.i64_in ((x.at_:Int)+((k:Int)+2)) (by omega)
   have hw3:=IntWalk.i64_in ((x.at_:Int)+((k:Int)+1+1)-2) (by omega)
   have hw4:=IntWalk.i64_in ((x.at_:Int)+((k:Int)+2)-2) (by omega)
   have hw5:=IntWalk.i64_in ((x.at_:Int)+((k:Int)+1+1)+(j:Int)) (by omega)
   have hw6:=IntWalk.i64_in ((x.at_:Int)+((k:Int)+2)+(j:Int)) (by omega)
   have hw7:=IntWalk.i64_in ((x.at_:Int)+((k:Int)+1+1)+(j:Int)+1) (by omega)
   have hw8:=IntWalk.i64_in ((x.at_:Int)+((k:Int)+2)+(j:Int)+1) (by omega)
   generalize hW:wr.drewN _=W at *
   have HK:Hid (Held w B b f s x W):=by rw [←hW];exact ⟨HC.out.i.held.lex.drewN _,grown_drewN HC.out.i.held.grown _⟩
   clear hW
   have HD:=held_drew HK
   obtain ⟨c0,c1,c9⟩:=HK.out.lex.at
   have hxa:x.at_≤20000:=by omega
   have hka:k≤20000:=by omega
   have HO:=Lib.hid (quo_fault HC.out.i HS.out)
   clear HC HL HR hcv hlk hsz
   go_region_held2 (fun W=>W.cell? ⟨b,9,none⟩=some (.int .i64 (x.at_:Int)))
    (first|exact (‹Hid False›).out.elim|assumption)
    (first|(go_at_call 108;refine (panicfAt_w HD.out.lex _ _ _ (by omega) (by omega) (by omega)).mono ?_;rintro e w' (⟨m,rfl,hm⟩|⟨hF,rfl⟩);exact (show QEnd w B b f s x q nm false uni false o _ _ _ from qend_fault HO.out HD.out m hm)))
   all_goals exact (‹Hid False›).out.elim
  ·have JH:=Lib.hid hgood
   have HA2:Hid (((rest s (x.at_+(k+2))).take (j+1)).all lx.oct=true):=by
    show _=_
    rw [HN.out,HA.out,hgood];rfl
   clear hgood HN
   generalize s[x.at_+(k+2)+j]=c at *
   go_wp2_with (first
    | (go_at_call 78;refine (peekOk_z _ _ (HL.out.drewN _).at (by omega) (by omega) (by omega) (by omega) JA).mono ?_;rintro e w' ⟨rfl,n4,rfl⟩)
    | (go_at_call 80;refine (peek_z _ _ (HL.out.drewN _).at (by omega) pinj (by omega) JB).mono ?_;rintro e w' ⟨rfl,n5,rfl⟩)
    | (go_at_call 113;refine (oct_named c _ _ JH).mono ?_;rintro e w' ⟨rfl,rfl⟩))
   go_round
   case rel=>exact ⟨j+1,by go_num,rfl,by omega,HA2,_,rfl⟩
   case measure=>simp [intOf];omega
set_option maxHeartbeats 4000000 in
set_option maxRecDepth 1000000 in
theorem quo_e51_p (HC:Hid (QC w B b f s x Q q false uni idn false o k v l err wr)) (SZ:s.size≤20000) (hq3:q.size≤3) (hin2:x.at_+(k+1)<s.size)
  (hm:Hid (¬(rest s (x.at_+k)).take q.size=Q)) (hc:(s[x.at_+k].toNat:Int)=92) (hd:s[x.at_+(k+1)]=51)
  (hg:Hid (((rest s (x.at_+(k+2))).take 2).all lx.oct=false)) :
  QRound w B b f s x Q q nm false uni idn false o (QFr u b q false uni nm false (k:Int) v err) wr:=by
 have hin:x.at_+k<s.size:=by omega
 have HL:=Lib.hid HC.out.i.held.lex
 have J0:Hid (inB s (x.at_+(k:Int).toNat)=true):=by show _=_;simp [inB,hin]
 have J1:Hid (bt s (x.at_+(k:Int).toNat)=(s[x.at_+k].toNat:Int)):=by show bt s (x.at_+k)=_;exact bt_in hin
 obtain ⟨vs,hvs⟩:∃vs,Hid (s.extract (x.at_+(k:Int).toNat) (min (x.at_+((k:Int)+(q.size:Int)).toNat) s.size)=vs):=⟨_,rfl⟩
 have pin:x.at_+(k:Int).toNat<s.size:=by simpa using hin
 have hrc:=rest_cons s (x.at_+k) hin
 have hll:=look_list hin hvs
 have hcv:(vs.toList==q.toList)=false:=by
  rw [hll,HC.out.q]
  exact beq_eq_false_iff_ne.2 hm.out
 have hqs:q.size=Q.length:=by rw [←HC.out.q,toList_length]
 have hm':=hm.out
 rw [hqs,hrc] at hm'
 have HM:=Lib.hid hm'
 have HM0:Hid (¬(rest s (x.at_+k)).take Q.length=Q):=by rw [←hqs];exact hm.out
 have HQS:=Lib.hid hqs
 have HRC:=Lib.hid hrc
 have HR:=Lib.hid HC.out.i.row
 have hsz:=HC.out.i.held.grown.size
 have hlk:=HC.out.i.len
 clear hll hrc hm hm' hqs
 have J2:Hid (inB s (x.at_+((k:Int)+1).toNat)=true):=by
  show _=_
  have e:((k:Int)+1).toNat=k+1:=by omega
  rw [e];simp [inB];omega
 have J3:Hid (bt s (x.at_+((k:Int)+1).toNat)=(s[x.at_+(k+1)].toNat:Int)):=by
  have e:((k:Int)+1).toNat=k+1:=by omega
  show _=_
  rw [e];exact bt_in hin2
 have pin2:x.at_+((k:Int)+1).toNat<s.size:=by omega
 have hrc2:=rest_cons s (x.at_+(k+1)) hin2
 have hHRC:=HRC.out
 rw [show x.at_+k+1=x.at_+(k+1) from by omega,hrc2] at hHRC
 have HRC2:=Lib.hid hHRC
 clear hHRC hrc2 HRC
 rw [hd] at J3 HRC2
 have hcut:x.at_+(k+1)+1=x.at_+(k+2):=by omega
 rw [hcut] at HRC2
 clear hcut
 have HS:Hid (lx.qStep Q false uni idn false k (rest s (x.at_+k)) l err=.stop .fault):=by
  show _=_
  rw [HRC2.out]
  unfold lx.qStep
  simp only
  rw [if_neg (by rw [←HRC2.out];exact HM0.out),if_pos (by omega)]
  exact escape_p hg.out
 clear HM HM0 HRC2
 rw [hc] at J1
 unfold QRound QFr
 conv=>arg 2;whnf
 go_wp2_with (first
  | (go_at_call 78;refine (peekOk_z _ _ (by first|exact HL.out.at|exact (HL.out.drewN _).at) (by omega) (by omega) (by omega) (by omega) (by first|exact J0|exact J2)).mono ?_;rintro e w' ⟨rfl,n,rfl⟩)
  | (go_at_call 91;refine (slice_z _ _ vs (by first|exact HL.out.at|exact (HL.out.drewN _).at) (by omega) (by omega) (by omega) (by omega) (by omega) (by omega) hvs).mono ?_;rintro e w' ⟨rfl,n2,rfl⟩)
  | (go_at_call 80;refine (peek_z _ _ (by first|exact HL.out.at|exact (HL.out.drewN _).at) (by omega) (by first|exact pin|exact pin2) (by omega) (by first|exact J1|exact J3)).mono ?_;rintro e w' ⟨rfl,n3,rfl⟩))
 go_loopw [16,393] (fun ev jv wq=>∃j:Nat,jv=.int .i64 (j:Int)∧ev=.bool err∧j≤2∧Hid (((rest s (x.at_+(k+2))).take j).all lx.oct=true)∧∃m,wq=wr.drewN m) (fun _ jv _=>2-(intOf jv).toNat)
 case atStart=>exact ⟨0,rfl,rfl,by omega,rfl,_,rfl⟩
 case round =>
  obtain ⟨j,rfl,rfl,hj,HA,m,rfl⟩:=hrel
  have hj2:j<2:=by
   rcases Nat.lt_or_ge j 2 with h|h
   ·exact h
   ·have hjj:j=2:=by omega
    have h1:=HA.out
    rw [hjj,hg.out] at h1
    cases h1
  have hbin:x.at_+(k+2)+j<s.size:=by
   rcases Nat.lt_or_ge (x.at_+(k+2)+j) s.size with h|h
   ·exact h
   ·have h1:=HA.out
    rw [all_end (m:=2) (by omega) hj,hg.out] at h1
    cases h1
  have JA:Hid (inB s (x.at_+((k:Int)+2+(j:Int)).toNat)=true):=by
   show _=_
   have e:((k:Int)+2+(j:Int)).toNat=k+2+j:=by omega
   rw [e];simp [inB];omega
  have JB:Hid (bt s (x.at_+((k:Int)+2+(j:Int)).toNat)=(s[x.at_+(k+2)+j].toNat:Int)):=by
   have e:x.at_+((k:Int)+2+(j:Int)).toNat=x.at_+(k+2)+j:=by omega
   show _=_
   rw [e];exact bt_in hbin
  have pinj:x.at_+((k:Int)+2+(j:Int)).toNat<s.size:=by omega
  have HN:=Lib.hid (all_next (good:=lx.oct) hbin)
  cases hgood:lx.oct s[x.at_+(k+2)+j]
  ·have JH:=Lib.hid hgood
   clear hgood HN
   generalize s[x.at_+(k+2)+j]=c at *
   go_wp2_with (first
    | (go_at_call 78;refine (peekOk_z _ _ (HL.out.drewN _).at (by omega) (by omega) (by omega) (by omega) JA).mono ?_;rintro e w' ⟨rfl,n4,rfl⟩)
    | (go_at_call 80;refine (peek_z _ _ (HL.out.drewN _).at (by omega) pinj (by omega) JB).mono ?_;rintro e w' ⟨rfl,n5,rfl⟩)
    | (go_at_call 113;refine (oct_named c _ _ JH).mono ?_;rintro e w' ⟨rfl,rfl⟩))
   have hw1:=IntWalk.i64_in ((x.at_:Int)+((k:Int)+1+1)) (by omega)
   have hw2:=IntWalk.i64_in ((x.at_:Int)+((k:Int)+2)) (by omega)
   have hw3:=IntWalk.i64_in ((x.at_:Int)+((k:Int)+1+1)-2) (by omega)
   have hw4:=IntWalk.i64_in ((x.at_:Int)+((k:Int)+2)-2) (by omega)
   have hw5:=IntWalk.i64_in ((x.at_:Int)+((k:Int)+1+1)+(j:Int)) (by omega)
   have hw6:=IntWalk.i64_in ((x.at_:Int)+((k:Int)+2)+(j:Int)) (by omega)
   have hw7:=IntWalk.i64_in ((x.at_:Int)+((k:Int)+1+1)+(j:Int)+1) (by omega)
   have hw8:=IntWalk.i64_in ((x.at_:Int)+((k:Int)+2)+(j:Int)+1) (by omega)
   generalize hW:wr.drewN _=W at *
   have HK:Hid (Held w B b f s x W):=by rw [←hW];exact ⟨HC.out.i.held.lex.drewN _,grown_drewN HC.out.i.held.grown _⟩
   clear hW
   have HD:=held_drew HK
   obtain ⟨c0,c1,c9⟩:=HK.out.lex.at
   have hxa:x.at_≤20000:=by omega
   have hka:k≤20000:=by omega
   have HO:=Lib.hid (quo_fault HC.out.i HS.out)
   clear HC HL HR hcv hlk hsz
   go_region_held2 (fun W=>W.cell? ⟨b,9,none⟩=some (.int .i64 (x.at_:Int)))
    (first|exact (‹Hid False›).out.elim|assumption)
    (first|(go_at_call 108;refine (panicfAt_w HD.out.lex _ _ _ (by omega) (by omega) (by omega)).mono ?_;rintro e w' (⟨m,rfl,hm⟩|⟨hF,rfl⟩);exact (show QEnd w B b f s x q nm false uni false o _ _ _ from qend_fault HO.out HD.out m hm)))
   all_goals exact (‹Hid False›).out.elim
  ·have JH:=Lib.hid hgood
   have HA2:Hid (((rest s (x.at_+(k+2))).take (j+1)).all lx.oct=true):=by
    show _=_
    rw [HN.out,HA.out,hgood];rfl
   clear hgood HN
   generalize s[x.at_+(k+2)+j]=c at *
   go_wp2_with (first
    | (go_at_call 78;refine (peekOk_z _ _ (HL.out.drewN _).at (by omega) (by omega) (by omega) (by omega) JA).mono ?_;rintro e w' ⟨rfl,n4,rfl⟩)
    | (go_at_call 80;refine (peek_z _ _ (HL.out.drewN _).at (by omega) pinj (by omega) JB).mono ?_;rintro e w' ⟨rfl,n5,rfl⟩)
    | (go_at_call 113;refine (oct_named c _ _ JH).mono ?_;rintro e w' ⟨rfl,rfl⟩))
   go_round
   case rel=>exact ⟨j+1,by go_num,rfl,by omega,HA2,_,rfl⟩
   case measure=>simp [intOf];omega
end
end Go.Proofs.YtaamolahbkgofaaGreatDoor.lex
