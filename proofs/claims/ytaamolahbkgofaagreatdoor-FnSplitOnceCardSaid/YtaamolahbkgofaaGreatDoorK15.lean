/-
  Rounds of consumeQuotedContent's loop: those that end it by a fault, or go on with the mark of one. Rounds of consumeQuotedContent's loop: a backslash and a byte that is no escape; a line's end; the closing mark. Rounds of consumeQuotedContent's loop: the closing mark. Conditions: of each, in its statement.
-/
import Derived.Test.YtaamolahbkgofaaGreatDoorK14
import Derived.Deep.RegionHeld2
set_option linter.unusedVariables false
namespace Go.Proofs.YtaamolahbkgofaaGreatDoor.lex
open Go.RowKit mem lines
theorem panicfAt_z {w:World} {B b f:Nat} {s:ByteArray} {x:St} (h:LexS w B b f s x) (zn zm:Int) (msg:ByteArray) (h0:0≤zn) (h1:zn≤zm) (h2:zm≤s.size) :
  Calls Tryz.prog 108 #[.pointer (some ⟨b,0,none⟩),.int .i64 zn,.int .i64 zm,.string msg] w (Faults b f w):=by
 obtain ⟨n,rfl⟩:=Int.eq_ofNat_of_zero_le h0
 obtain ⟨m,rfl⟩:=Int.eq_ofNat_of_zero_le (Int.le_trans h0 h1)
 exact panicfAt_any h n m msg (by omega) (by omega)
theorem panicfAt_w {w:World} {B b f:Nat} {s:ByteArray} {x:St} (h:LexS w B b f s x) (zn zm:Int) (msg:ByteArray) (h0:0≤zn) (h1:zn≤zm) (h2:zm≤s.size) :
  Calls Tryz.prog 108 #[.pointer (some ⟨b,0,none⟩),.int .i64 zn,.int .i64 zm,.string msg] w fun e w'=>(∃m,e=.panicked [{ v:=.iface 80 (.pointer (some ⟨m,0,none⟩)),recovered:=false }]∧(w.heap.size≤m∧ErrAt m w'∧Grown2 b f w w'))∨(Hid False∧e=.returned (.tuple #[])) :=
 (panicfAt_z h zn zm msg h0 h1 h2).mono fun e w' h=>.inl h
theorem quo_fault {w wr:World} {B b f:Nat} {s:ByteArray} {x:St} {Q:lx.Bs} {raw uni idn np:Bool} {o:lx.QOut} {k:Nat} {v:Value} {l:lx.Bs} {err:Bool} {o':lx.QOut}
  (h:QI w B b f s x Q raw uni idn np o k v l err wr) (hs:lx.qStep Q raw uni idn np k (rest s (x.at_+k)) l err=.stop o'):o=o':=by
 obtain ⟨n,h1,h2⟩:=h.run
 exact quo_stop h2 h1 hs
theorem qend_fault {w W w':World} {B b f:Nat} {s:ByteArray} {x:St} {q nm:ByteArray} {raw uni np:Bool} {o:lx.QOut} {t:Array Value} (ho:o=.fault) (hh:Held w B b f s x W) (m:Nat) (hm:W.heap.size≤m∧ErrAt m w'∧Grown2 b f W w') :
  QEnd w B b f s x q nm raw uni np o (.panic [{ v:=.iface 80 (.pointer (some ⟨m,0,none⟩)),recovered:=false }]) ⟨t,[]⟩ w':=by
 subst ho
 exact ⟨rfl,Faults.trans (Grown2.of hh.grown) ⟨m,rfl,hm⟩⟩
section
variable {w wr:World} {B b f:Nat} {s q nm:ByteArray} {x:St} {Q:lx.Bs} {raw uni idn np:Bool} {o:lx.QOut} {k:Nat} {v:Value} {l:lx.Bs} {err:Bool} {u:Nat→Value}
set_option maxHeartbeats 2000000 in
set_option maxRecDepth 1000000 in
theorem quo_eof_p (HC:Hid (QC w B b f s x Q q raw uni idn false o k v l err wr)) (SZ:s.size≤20000) (hq3:q.size≤3) (hin1:x.at_+(k+1)=s.size)
  (hm:Hid (¬(rest s (x.at_+k)).take q.size=Q)) (hc:(s[x.at_+k].toNat:Int)=92) :
  QRound w B b f s x Q q nm raw uni idn false o (QFr u b q raw uni nm false (k:Int) v err) wr:=by
 have hin:x.at_+k<s.size:=by omega
 have HL:=Lib.hid HC.out.i.held.lex
 have J0:Hid (inB s (x.at_+(k:Int).toNat)=true):=by show _=_;simp [inB,hin]
 have J1:Hid (bt s (x.at_+(k:Int).toNat)=(s[x.at_+k].toNat:Int)):=by show bt s (x.at_+k)=_;exact bt_in hin
 obtain ⟨vs,hvs⟩:∃vs,Hid (s.extract (x.at_+(k:Int).toNat) (min (x.at_+((k:Int)+(q.size:Int)).toNat) s.size)=vs):=⟨_,rfl⟩
 have pin:x.at_+(k:Int).toNat<s.size:=by simpa using hin
 have hrc:=rest_cons s (x.at_+k) hin
 have hll:=look_list hin hvs
 have hcv:(vs.toList==q.toList)=false:=by
  rw [hll,HC.out.q]
  exact beq_eq_false_iff_ne.2 hm.out
 have hqs:q.size=Q.length:=by rw [←HC.out.q,toList_length]
 have hm':=hm.out
 rw [hqs,hrc] at hm'
 have HM:=Lib.hid hm'
 have HM0:Hid (¬(rest s (x.at_+k)).take Q.length=Q):=by rw [←hqs];exact hm.out
 have HQS:=Lib.hid hqs
 have HRC:=Lib.hid hrc
 have HR:=Lib.hid HC.out.i.row
 have hsz:=HC.out.i.held.grown.size
 have hlk:=HC.out.i.len
 clear hll hrc hm hm' hqs
 have J2:Hid (inB s (x.at_+((k:Int)+1).toNat)=false):=by
  show _=_
  have e:((k:Int)+1).toNat=k+1:=by omega
  rw [e];simp [inB];omega
 have hHRC:=HRC.out
 rw [rest_nil s (x.at_+k+1) (by omega)] at hHRC
 have HRC2:=Lib.hid hHRC
 clear hHRC HRC
 have HS:Hid (lx.qStep Q raw uni idn false k (rest s (x.at_+k)) l err=.stop .fault):=by
  show _=_
  rw [HRC2.out]
  unfold lx.qStep
  simp only
  rw [if_neg (by rw [←HRC2.out];exact HM0.out),if_pos (by omega)]
  rfl
 clear HM HM0 HRC2
 rw [hc] at J1
 unfold QRound QFr
 conv=>arg 2;whnf
 go_wp2_with (first
  | (go_at_call 78;refine (peekOk_z _ _ (by first|exact HL.out.at|exact (HL.out.drewN _).at) (by omega) (by omega) (by omega) (by omega) (by first|exact J0|exact J2)).mono ?_;rintro e w' ⟨rfl,n,rfl⟩)
  | (go_at_call 91;refine (slice_z _ _ vs (by first|exact HL.out.at|exact (HL.out.drewN _).at) (by omega) (by omega) (by omega) (by omega) (by omega) (by omega) hvs).mono ?_;rintro e w' ⟨rfl,n2,rfl⟩)
  | (go_at_call 80;refine (peek_z _ _ (by first|exact HL.out.at|exact (HL.out.drewN _).at) (by omega) pin (by omega) J1).mono ?_;rintro e w' ⟨rfl,n3,rfl⟩))
 have hw1:=IntWalk.i64_in ((x.at_:Int)+((k:Int)+1)) (by omega)
 have hw2:=IntWalk.i64_in ((x.at_:Int)+((k:Int)+1)-1) (by omega)
 generalize hW:wr.drewN _=W at *
 have HK:Hid (Held w B b f s x W):=by rw [←hW];exact ⟨HC.out.i.held.lex.drewN _,grown_drewN HC.out.i.held.grown _⟩
 clear hW
 have HD:=held_drew HK
 obtain ⟨c0,c1,c9⟩:=HK.out.lex.at
 have hxa:x.at_≤20000:=by omega
 have hka:k≤20000:=by omega
 have HO:=Lib.hid (quo_fault HC.out.i HS.out)
 clear HC HL HR hcv hlk hsz
 go_region_held2 (fun W=>W.cell? ⟨b,9,none⟩=some (.int .i64 (x.at_:Int)))
  (first|exact (‹Hid False›).out.elim|assumption)
  (first|(go_at_call 108;refine (panicfAt_w HD.out.lex _ _ _ (by omega) (by omega) (by omega)).mono ?_;rintro e w' (⟨m,rfl,hm⟩|⟨hF,rfl⟩);exact (show QEnd w B b f s x q nm raw uni false o _ _ _ from qend_fault HO.out HD.out m hm)))
 all_goals exact (‹Hid False›).out.elim
set_option maxHeartbeats 2000000 in
set_option maxRecDepth 1000000 in
theorem quo_eof_np (HC:Hid (QC w B b f s x Q q raw uni idn true o k v l err wr)) (SZ:s.size≤20000) (hq3:q.size≤3) (hin1:x.at_+(k+1)=s.size)
  (hm:Hid (¬(rest s (x.at_+k)).take q.size=Q)) (hc:(s[x.at_+k].toNat:Int)=92) :
  QRound w B b f s x Q q nm raw uni idn true o (QFr u b q raw uni nm true (k:Int) v err) wr:=by
 have hin:x.at_+k<s.size:=by omega
 have HL:=Lib.hid HC.out.i.held.lex
 have J0:Hid (inB s (x.at_+(k:Int).toNat)=true):=by show _=_;simp [inB,hin]
 have J1:Hid (bt s (x.at_+(k:Int).toNat)=(s[x.at_+k].toNat:Int)):=by show bt s (x.at_+k)=_;exact bt_in hin
 obtain ⟨vs,hvs⟩:∃vs,Hid (s.extract (x.at_+(k:Int).toNat) (min (x.at_+((k:Int)+(q.size:Int)).toNat) s.size)=vs):=⟨_,rfl⟩
 have pin:x.at_+(k:Int).toNat<s.size:=by simpa using hin
 have hrc:=rest_cons s (x.at_+k) hin
 have hll:=look_list hin hvs
 have hcv:(vs.toList==q.toList)=false:=by
  rw [hll,HC.out.q]
  exact beq_eq_false_iff_ne.2 hm.out
 have hqs:q.size=Q.length:=by rw [←HC.out.q,toList_length]
 have hm':=hm.out
 rw [hqs,hrc] at hm'
 have HM:=Lib.hid hm'
 have HM0:Hid (¬(rest s (x.at_+k)).take Q.length=Q):=by rw [←hqs];exact hm.out
 have HQS:=Lib.hid hqs
 have HRC:=Lib.hid hrc
 have HR:=Lib.hid HC.out.i.row
 have hsz:=HC.out.i.held.grown.size
 have hlk:=HC.out.i.len
 clear hll hrc hm hm' hqs
 have J2:Hid (inB s (x.at_+((k:Int)+1).toNat)=false):=by
  show _=_
  have e:((k:Int)+1).toNat=k+1:=by omega
  rw [e];simp [inB];omega
 have hHRC:=HRC.out
 rw [rest_nil s (x.at_+k+1) (by omega)] at hHRC
 have HRC2:=Lib.hid hHRC
 clear hHRC HRC
 have HS:Hid (lx.qStep Q raw uni idn true k (rest s (x.at_+k)) l err=.stop (.bad (k+1))):=by
  show _=_
  rw [HRC2.out]
  unfold lx.qStep
  simp only
  rw [if_neg (by rw [←HRC2.out];exact HM0.out),if_pos (by omega)]
  rfl
 have HO:=Lib.hid (quo_fault HC.out.i HS.out)
 clear HM HM0 HRC2
 rw [hc] at J1
 unfold QRound QFr
 conv=>arg 2;whnf
 go_wp2_with (first
  | (go_at_call 78;refine (peekOk_z _ _ (by first|exact HL.out.at|exact (HL.out.drewN _).at) (by omega) (by omega) (by omega) (by omega) (by first|exact J0|exact J2)).mono ?_;rintro e w' ⟨rfl,n,rfl⟩)
  | (go_at_call 91;refine (slice_z _ _ vs (by first|exact HL.out.at|exact (HL.out.drewN _).at) (by omega) (by omega) (by omega) (by omega) (by omega) (by omega) hvs).mono ?_;rintro e w' ⟨rfl,n2,rfl⟩)
  | (go_at_call 80;refine (peek_z _ _ (by first|exact HL.out.at|exact (HL.out.drewN _).at) (by omega) pin (by omega) J1).mono ?_;rintro e w' ⟨rfl,n3,rfl⟩))
 refine ⟨⟨k+1,v,l,true,⟨rfl,rfl,rfl,rfl,rfl,rfl,rfl,rfl,rfl,rfl,rfl,rfl,rfl⟩,⟨⟨1, ?_, ?_⟩,⟨HC.out.i.held.lex.drewN _,grown_drewN HC.out.i.held.grown _⟩,HC.out.i.row.drewN _,by omega,by omega⟩⟩, ?_⟩
 ·rw [rest_nil s _ (by omega)];decide
 ·rw [rest_nil s _ (by omega),HO.out];rfl
 ·exact qmu_lt (k:=k) (j:=k+1) rfl rfl (by omega) (by omega)
set_option maxHeartbeats 2000000 in
set_option maxRecDepth 1000000 in
theorem quo_nu117_p (HC:Hid (QC w B b f s x Q q false false idn false o k v l err wr)) (SZ:s.size≤20000) (hq3:q.size≤3) (hin2:x.at_+(k+1)<s.size)
  (hm:Hid (¬(rest s (x.at_+k)).take q.size=Q)) (hc:(s[x.at_+k].toNat:Int)=92) (hd:s[x.at_+(k+1)]=117) :
  QRound w B b f s x Q q nm false false idn false o (QFr u b q false false nm false (k:Int) v err) wr:=by
 have hin:x.at_+k<s.size:=by omega
 have HL:=Lib.hid HC.out.i.held.lex
 have J0:Hid (inB s (x.at_+(k:Int).toNat)=true):=by show _=_;simp [inB,hin]
 have J1:Hid (bt s (x.at_+(k:Int).toNat)=(s[x.at_+k].toNat:Int)):=by show bt s (x.at_+k)=_;exact bt_in hin
 obtain ⟨vs,hvs⟩:∃vs,Hid (s.extract (x.at_+(k:Int).toNat) (min (x.at_+((k:Int)+(q.size:Int)).toNat) s.size)=vs):=⟨_,rfl⟩
 have pin:x.at_+(k:Int).toNat<s.size:=by simpa using hin
 have hrc:=rest_cons s (x.at_+k) hin
 have hll:=look_list hin hvs
 have hcv:(vs.toList==q.toList)=false:=by
  rw [hll,HC.out.q]
  exact beq_eq_false_iff_ne.2 hm.out
 have hqs:q.size=Q.length:=by rw [←HC.out.q,toList_length]
 have hm':=hm.out
 rw [hqs,hrc] at hm'
 have HM:=Lib.hid hm'
 have HM0:Hid (¬(rest s (x.at_+k)).take Q.length=Q):=by rw [←hqs];exact hm.out
 have HQS:=Lib.hid hqs
 have HRC:=Lib.hid hrc
 have HR:=Lib.hid HC.out.i.row
 have hsz:=HC.out.i.held.grown.size
 have hlk:=HC.out.i.len
 clear hll hrc hm hm' hqs
 have J2:Hid (inB s (x.at_+((k:Int)+1).toNat)=true):=by
  show _=_
  have e:((k:Int)+1).toNat=k+1:=by omega
  rw [e];simp [inB];omega
 have J3:Hid (bt s (x.at_+((k:Int)+1).toNat)=(s[x.at_+(k+1)].toNat:Int)):=by
  have e:((k:Int)+1).toNat=k+1:=by omega
  show _=_
  rw [e];exact bt_in hin2
 have pin2:x.at_+((k:Int)+1).toNat<s.size:=by omega
 have hrc2:=rest_cons s (x.at_+(k+1)) hin2
 have hHRC:=HRC.out
 rw [show x.at_+k+1=x.at_+(k+1) from by omega,hrc2] at hHRC
 have HRC2:=Lib.hid hHRC
 clear hHRC hrc2 HRC
 rw [hd] at J3 HRC2
 have HS:Hid (lx.qStep Q false false idn false k (rest s (x.at_+k)) l err=.stop .fault):=by
  show _=_
  rw [HRC2.out]
  unfold lx.qStep
  simp only
  rw [if_neg (by rw [←HRC2.out];exact HM0.out),if_pos (by omega)]
  rfl
 clear HM HM0 HRC2
 rw [hc] at J1
 unfold QRound QFr
 conv=>arg 2;whnf
 go_wp2_with (first
  | (go_at_call 78;refine (peekOk_z _ _ (by first|exact HL.out.at|exact (HL.out.drewN _).at) (by omega) (by omega) (by omega) (by omega) (by first|exact J0|exact J2)).mono ?_;rintro e w' ⟨rfl,n,rfl⟩)
  | (go_at_call 91;refine (slice_z _ _ vs (by first|exact HL.out.at|exact (HL.out.drewN _).at) (by omega) (by omega) (by omega) (by omega) (by omega) (by omega) hvs).mono ?_;rintro e w' ⟨rfl,n2,rfl⟩)
  | (go_at_call 80;refine (peek_z _ _ (by first|exact HL.out.at|exact (HL.out.drewN _).at) (by omega) (by first|exact pin|exact pin2) (by omega) (by first|exact J1|exact J3)).mono ?_;rintro e w' ⟨rfl,n3,rfl⟩))
 have hw1:=IntWalk.i64_in ((x.at_:Int)+((k:Int)+1+1)) (by omega)
 have hw2:=IntWalk.i64_in ((x.at_:Int)+((k:Int)+2)) (by omega)
 have hw3:=IntWalk.i64_in ((x.at_:Int)+((k:Int)+1+1)-2) (by omega)
 have hw4:=IntWalk.i64_in ((x.at_:Int)+((k:Int)+2)-2) (by omega)
 generalize hW:wr.drewN _=W at *
 have HK:Hid (Held w B b f s x W):=by rw [←hW];exact ⟨HC.out.i.held.lex.drewN _,grown_drewN HC.out.i.held.grown _⟩
 clear hW
 have HD:=held_drew HK
 obtain ⟨c0,c1,c9⟩:=HK.out.lex.at
 have hxa:x.at_≤20000:=by omega
 have hka:k≤20000:=by omega
 have HO:=Lib.hid (quo_fault HC.out.i HS.out)
 clear HC HL HR hcv hlk hsz
 go_region_held2 (fun W=>W.cell? ⟨b,9,none⟩=some (.int .i64 (x.at_:Int)))
  (first|exact (‹Hid False›).out.elim|assumption)
  (first|(go_at_call 108;refine (panicfAt_w HD.out.lex _ _ _ (by omega) (by omega) (by omega)).mono ?_;rintro e w' (⟨m,rfl,hm⟩|⟨hF,rfl⟩);exact (show QEnd w B b f s x q nm false false false o _ _ _ from qend_fault HO.out HD.out m hm)))
 all_goals exact (‹Hid False›).out.elim
set_option maxHeartbeats 2000000 in
set_option maxRecDepth 1000000 in
theorem quo_nu117_np (HC:Hid (QC w B b f s x Q q false false idn true o k v l err wr)) (SZ:s.size≤20000) (hq3:q.size≤3) (hin2:x.at_+(k+1)<s.size)
  (hm:Hid (¬(rest s (x.at_+k)).take q.size=Q)) (hc:(s[x.at_+k].toNat:Int)=92) (hd:s[x.at_+(k+1)]=117) :
  QRound w B b f s x Q q nm false false idn true o (QFr u b q false false nm true (k:Int) v err) wr:=by
 have hin:x.at_+k<s.size:=by omega
 have HL:=Lib.hid HC.out.i.held.lex
 have J0:Hid (inB s (x.at_+(k:Int).toNat)=true):=by show _=_;simp [inB,hin]
 have J1:Hid (bt s (x.at_+(k:Int).toNat)=(s[x.at_+k].toNat:Int)):=by show bt s (x.at_+k)=_;exact bt_in hin
 obtain ⟨vs,hvs⟩:∃vs,Hid (s.extract (x.at_+(k:Int).toNat) (min (x.at_+((k:Int)+(q.size:Int)).toNat) s.size)=vs):=⟨_,rfl⟩
 have pin:x.at_+(k:Int).toNat<s.size:=by simpa using hin
 have hrc:=rest_cons s (x.at_+k) hin
 have hll:=look_list hin hvs
 have hcv:(vs.toList==q.toList)=false:=by
  rw [hll,HC.out.q]
  exact beq_eq_false_iff_ne.2 hm.out
 have hqs:q.size=Q.length:=by rw [←HC.out.q,toList_length]
 have hm':=hm.out
 rw [hqs,hrc] at hm'
 have HM:=Lib.hid hm'
 have HM0:Hid (¬(rest s (x.at_+k)).take Q.length=Q):=by rw [←hqs];exact hm.out
 have HQS:=Lib.hid hqs
 have HRC:=Lib.hid hrc
 have HR:=Lib.hid HC.out.i.row
 have hsz:=HC.out.i.held.grown.size
 have hlk:=HC.out.i.len
 clear hll hrc hm hm' hqs
 have J2:Hid (inB s (x.at_+((k:Int)+1).toNat)=true):=by
  show _=_
  have e:((k:Int)+1).toNat=k+1:=by omega
  rw [e];simp [inB];omega
 have J3:Hid (bt s (x.at_+((k:Int)+1).toNat)=(s[x.at_+(k+1)].toNat:Int)):=by
  have e:((k:Int)+1).toNat=k+1:=by omega
  show _=_
  rw [e];exact bt_in hin2
 have pin2:x.at_+((k:Int)+1).toNat<s.size:=by omega
 have hrc2:=rest_cons s (x.at_+(k+1)) hin2
 have hHRC:=HRC.out
 rw [show x.at_+k+1=x.at_+(k+1) from by omega,hrc2] at hHRC
 have HRC2:=Lib.hid hHRC
 clear hHRC hrc2 HRC
 rw [hd] at J3 HRC2
 have HS:Hid (lx.qStep Q false false idn true k (rest s (x.at_+k)) l err=.more 2 l true):=by
  show _=_
  rw [HRC2.out]
  unfold lx.qStep
  simp only
  rw [if_neg (by rw [←HRC2.out];exact HM0.out),if_pos (by omega)]
  rfl
 clear HM HM0 HRC2
 rw [hc] at J1
 unfold QRound QFr
 conv=>arg 2;whnf
 go_wp2_with (first
  | (go_at_call 78;refine (peekOk_z _ _ (by first|exact HL.out.at|exact (HL.out.drewN _).at) (by omega) (by omega) (by omega) (by omega) (by first|exact J0|exact J2)).mono ?_;rintro e w' ⟨rfl,n,rfl⟩)
  | (go_at_call 91;refine (slice_z _ _ vs (by first|exact HL.out.at|exact (HL.out.drewN _).at) (by omega) (by omega) (by omega) (by omega) (by omega) (by omega) hvs).mono ?_;rintro e w' ⟨rfl,n2,rfl⟩)
  | (go_at_call 80;refine (peek_z _ _ (by first|exact HL.out.at|exact (HL.out.drewN _).at) (by omega) (by first|exact pin|exact pin2) (by omega) (by first|exact J1|exact J3)).mono ?_;rintro e w' ⟨rfl,n3,rfl⟩))
 refine ⟨⟨k+2,v,l,true,⟨rfl,rfl,rfl,rfl,rfl,rfl,rfl,rfl,rfl,rfl,rfl,rfl,rfl⟩,qi_skip HC.out HS.out (by omega) (by omega) (below_drewN (Below.refl _ _) _)⟩, ?_⟩
 exact qmu_lt (k:=k) (j:=k+2) rfl rfl (by omega) (by omega)
set_option maxHeartbeats 2000000 in
set_option maxRecDepth 1000000 in
theorem quo_nu85_p (HC:Hid (QC w B b f s x Q q false false idn false o k v l err wr)) (SZ:s.size≤20000) (hq3:q.size≤3) (hin2:x.at_+(k+1)<s.size)
  (hm:Hid (¬(rest s (x.at_+k)).take q.size=Q)) (hc:(s[x.at_+k].toNat:Int)=92) (hd:s[x.at_+(k+1)]=85) :
  QRound w B b f s x Q q nm false false idn false o (QFr u b q false false nm false (k:Int) v err) wr:=by
 have hin:x.at_+k<s.size:=by omega
 have HL:=Lib.hid HC.out.i.held.lex
 have J0:Hid (inB s (x.at_+(k:Int).toNat)=true):=by show _=_;simp [inB,hin]
 have J1:Hid (bt s (x.at_+(k:Int).toNat)=(s[x.at_+k].toNat:Int)):=by show bt s (x.at_+k)=_;exact bt_in hin
 obtain ⟨vs,hvs⟩:∃vs,Hid (s.extract (x.at_+(k:Int).toNat) (min (x.at_+((k:Int)+(q.size:Int)).toNat) s.size)=vs):=⟨_,rfl⟩
 have pin:x.at_+(k:Int).toNat<s.size:=by simpa using hin
 have hrc:=rest_cons s (x.at_+k) hin
 have hll:=look_list hin hvs
 have hcv:(vs.toList==q.toList)=false:=by
  rw [hll,HC.out.q]
  exact beq_eq_false_iff_ne.2 hm.out
 have hqs:q.size=Q.length:=by rw [←HC.out.q,toList_length]
 have hm':=hm.out
 rw [hqs,hrc] at hm'
 have HM:=Lib.hid hm'
 have HM0:Hid (¬(rest s (x.at_+k)).take Q.length=Q):=by rw [←hqs];exact hm.out
 have HQS:=Lib.hid hqs
 have HRC:=Lib.hid hrc
 have HR:=Lib.hid HC.out.i.row
 have hsz:=HC.out.i.held.grown.size
 have hlk:=HC.out.i.len
 clear hll hrc hm hm' hqs
 have J2:Hid (inB s (x.at_+((k:Int)+1).toNat)=true):=by
  show _=_
  have e:((k:Int)+1).toNat=k+1:=by omega
  rw [e];simp [inB];omega
 have J3:Hid (bt s (x.at_+((k:Int)+1).toNat)=(s[x.at_+(k+1)].toNat:Int)):=by
  have e:((k:Int)+1).toNat=k+1:=by omega
  show _=_
  rw [e];exact bt_in hin2
 have pin2:x.at_+((k:Int)+1).toNat<s.size:=by omega
 have hrc2:=rest_cons s (x.at_+(k+1)) hin2
 have hHRC:=HRC.out
 rw [show x.at_+k+1=x.at_+(k+1) from by omega,hrc2] at hHRC
 have HRC2:=Lib.hid hHRC
 clear hHRC hrc2 HRC
 rw [hd] at J3 HRC2
 have HS:Hid (lx.qStep Q false false idn false k (rest s (x.at_+k)) l err=.stop .fault):=by
  show _=_
  rw [HRC2.out]
  unfold lx.qStep
  simp only
  rw [if_neg (by rw [←HRC2.out];exact HM0.out),if_pos (by omega)]
  rfl
 clear HM HM0 HRC2
 rw [hc] at J1
 unfold QRound QFr
 conv=>arg 2;whnf
 go_wp2_with (first
  | (go_at_call 78;refine (peekOk_z _ _ (by first|exact HL.out.at|exact (HL.out.drewN _).at) (by omega) (by omega) (by omega) (by omega) (by first|exact J0|exact J2)).mono ?_;rintro e w' ⟨rfl,n,rfl⟩)
  | (go_at_call 91;refine (slice_z _ _ vs (by first|exact HL.out.at|exact (HL.out.drewN _).at) (by omega) (by omega) (by omega) (by omega) (by omega) (by omega) hvs).mono ?_;rintro e w' ⟨rfl,n2,rfl⟩)
  | (go_at_call 80;refine (peek_z _ _ (by first|exact HL.out.at|exact (HL.out.drewN _).at) (by omega) (by first|exact pin|exact pin2) (by omega) (by first|exact J1|exact J3)).mono ?_;rintro e w' ⟨rfl,n3,rfl⟩))
 have hw1:=IntWalk.i64_in ((x.at_:Int)+((k:Int)+1+1)) (by omega)
 have hw2:=IntWalk.i64_in ((x.at_:Int)+((k:Int)+2)) (by omega)
 have hw3:=IntWalk.i64_in ((x.at_:Int)+((k:Int)+1+1)-2) (by omega)
 have hw4:=IntWalk.i64_in ((x.at_:Int)+((k:Int)+2)-2) (by omega)
 generalize hW:wr.drewN _=W at *
 have HK:Hid (Held w B b f s x W):=by rw [←hW];exact ⟨HC.out.i.held.lex.drewN _,grown_drewN HC.out.i.held.grown _⟩
 clear hW
 have HD:=held_drew HK
 obtain ⟨c0,c1,c9⟩:=HK.out.lex.at
 have hxa:x.at_≤20000:=by omega
 have hka:k≤20000:=by omega
 have HO:=Lib.hid (quo_fault HC.out.i HS.out)
 clear HC HL HR hcv hlk hsz
 go_region_held2 (fun W=>W.cell? ⟨b,9,none⟩=some (.int .i64 (x.at_:Int)))
  (first|exact (‹Hid False›).out.elim|assumption)
  (first|(go_at_call 108;refine (panicfAt_w HD.out.lex _ _ _ (by omega) (by omega) (by omega)).mono ?_;rintro e w' (⟨m,rfl,hm⟩|⟨hF,rfl⟩);exact (show QEnd w B b f s x q nm false false false o _ _ _ from qend_fault HO.out HD.out m hm)))
 all_goals exact (‹Hid False›).out.elim
set_option maxHeartbeats 2000000 in
set_option maxRecDepth 1000000 in
theorem quo_nu85_np (HC:Hid (QC w B b f s x Q q false false idn true o k v l err wr)) (SZ:s.size≤20000) (hq3:q.size≤3) (hin2:x.at_+(k+1)<s.size)
  (hm:Hid (¬(rest s (x.at_+k)).take q.size=Q)) (hc:(s[x.at_+k].toNat:Int)=92) (hd:s[x.at_+(k+1)]=85) :
  QRound w B b f s x Q q nm false false idn true o (QFr u b q false false nm true (k:Int) v err) wr:=by
 have hin:x.at_+k<s.size:=by omega
 have HL:=Lib.hid HC.out.i.held.lex
 have J0:Hid (inB s (x.at_+(k:Int).toNat)=true):=by show _=_;simp [inB,hin]
 have J1:Hid (bt s (x.at_+(k:Int).toNat)=(s[x.at_+k].toNat:Int)):=by show bt s (x.at_+k)=_;exact bt_in hin
 obtain ⟨vs,hvs⟩:∃vs,Hid (s.extract (x.at_+(k:Int).toNat) (min (x.at_+((k:Int)+(q.size:Int)).toNat) s.size)=vs):=⟨_,rfl⟩
 have pin:x.at_+(k:Int).toNat<s.size:=by simpa using hin
 have hrc:=rest_cons s (x.at_+k) hin
 have hll:=look_list hin hvs
 have hcv:(vs.toList==q.toList)=false:=by
  rw [hll,HC.out.q]
  exact beq_eq_false_iff_ne.2 hm.out
 have hqs:q.size=Q.length:=by rw [←HC.out.q,toList_length]
 have hm':=hm.out
 rw [hqs,hrc] at hm'
 have HM:=Lib.hid hm'
 have HM0:Hid (¬(rest s (x.at_+k)).take Q.length=Q):=by rw [←hqs];exact hm.out
 have HQS:=Lib.hid hqs
 have HRC:=Lib.hid hrc
 have HR:=Lib.hid HC.out.i.row
 have hsz:=HC.out.i.held.grown.size
 have hlk:=HC.out.i.len
 clear hll hrc hm hm' hqs
 have J2:Hid (inB s (x.at_+((k:Int)+1).toNat)=true):=by
  show _=_
  have e:((k:Int)+1).toNat=k+1:=by omega
  rw [e];simp [inB];omega
 have J3:Hid (bt s (x.at_+((k:Int)+1).toNat)=(s[x.at_+(k+1)].toNat:Int)):=by
  have e:((k:Int)+1).toNat=k+1:=by omega
  show _=_
  rw [e];exact bt_in hin2
 have pin2:x.at_+((k:Int)+1).toNat<s.size:=by omega
 have hrc2:=rest_cons s (x.at_+(k+1)) hin2
 have hHRC:=HRC.out
 rw [show x.at_+k+1=x.at_+(k+1) from by omega,hrc2] at hHRC
 have HRC2:=Lib.hid hHRC
 clear hHRC hrc2 HRC
 rw [hd] at J3 HRC2
 have HS:Hid (lx.qStep Q false false idn true k (rest s (x.at_+k)) l err=.more 2 l true):=by
  show _=_
  rw [HRC2.out]
  unfold lx.qStep
  simp only
  rw [if_neg (by rw [←HRC2.out];exact HM0.out),if_pos (by omega)]
  rfl
 clear HM HM0 HRC2
 rw [hc] at J1
 unfold QRound QFr
 conv=>arg 2;whnf
 go_wp2_with (first
  | (go_at_call 78;refine (peekOk_z _ _ (by first|exact HL.out.at|exact (HL.out.drewN _).at) (by omega) (by omega) (by omega) (by omega) (by first|exact J0|exact J2)).mono ?_;rintro e w' ⟨rfl,n,rfl⟩)
  | (go_at_call 91;refine (slice_z _ _ vs (by first|exact HL.out.at|exact (HL.out.drewN _).at) (by omega) (by omega) (by omega) (by omega) (by omega) (by omega) hvs).mono ?_;rintro e w' ⟨rfl,n2,rfl⟩)
  | (go_at_call 80;refine (peek_z _ _ (by first|exact HL.out.at|exact (HL.out.drewN _).at) (by omega) (by first|exact pin|exact pin2) (by omega) (by first|exact J1|exact J3)).mono ?_;rintro e w' ⟨rfl,n3,rfl⟩))
 refine ⟨⟨k+2,v,l,true,⟨rfl,rfl,rfl,rfl,rfl,rfl,rfl,rfl,rfl,rfl,rfl,rfl,rfl⟩,qi_skip HC.out HS.out (by omega) (by omega) (below_drewN (Below.refl _ _) _)⟩, ?_⟩
 exact qmu_lt (k:=k) (j:=k+2) rfl rfl (by omega) (by omega)
end
end Go.Proofs.YtaamolahbkgofaaGreatDoor.lex
set_option linter.unusedVariables false
namespace Go.Proofs.YtaamolahbkgofaaGreatDoor.lex
open Go.RowKit mem lines
section
variable {w wr:World} {B b f:Nat} {s q nm:ByteArray} {x:St} {Q:lx.Bs} {raw uni idn np:Bool} {o:lx.QOut} {k:Nat} {v:Value} {l:lx.Bs} {err:Bool} {u:Nat→Value}
set_option maxHeartbeats 2000000 in
set_option maxRecDepth 1000000 in
theorem quo_def_p (HC:Hid (QC w B b f s x Q q false uni idn false o k v l err wr)) (SZ:s.size≤20000) (hq3:q.size≤3) (hin2:x.at_+(k+1)<s.size)
  (hm:Hid (¬(rest s (x.at_+k)).take q.size=Q)) (hc:(s[x.at_+k].toNat:Int)=92) (d97:¬((s[x.at_+(k+1)].toNat:Int)=97)) (d98:¬((s[x.at_+(k+1)].toNat:Int)=98)) (d102:¬((s[x.at_+(k+1)].toNat:Int)=102)) (d110:¬((s[x.at_+(k+1)].toNat:Int)=110)) (d114:¬((s[x.at_+(k+1)].toNat:Int)=114)) (d116:¬((s[x.at_+(k+1)].toNat:Int)=116)) (d118:¬((s[x.at_+(k+1)].toNat:Int)=118)) (d92:¬((s[x.at_+(k+1)].toNat:Int)=92)) (d63:¬((s[x.at_+(k+1)].toNat:Int)=63)) (d34:¬((s[x.at_+(k+1)].toNat:Int)=34)) (d39:¬((s[x.at_+(k+1)].toNat:Int)=39)) (d96:¬((s[x.at_+(k+1)].toNat:Int)=96)) (d120:¬((s[x.at_+(k+1)].toNat:Int)=120)) (d88:¬((s[x.at_+(k+1)].toNat:Int)=88)) (d117:¬((s[x.at_+(k+1)].toNat:Int)=117)) (d85:¬((s[x.at_+(k+1)].toNat:Int)=85)) (d48:¬((s[x.at_+(k+1)].toNat:Int)=48)) (d49:¬((s[x.at_+(k+1)].toNat:Int)=49)) (d50:¬((s[x.at_+(k+1)].toNat:Int)=50)) (d51:¬((s[x.at_+(k+1)].toNat:Int)=51)) :
  QRound w B b f s x Q q nm false uni idn false o (QFr u b q false uni nm false (k:Int) v err) wr:=by
 have hin:x.at_+k<s.size:=by omega
 have HL:=Lib.hid HC.out.i.held.lex
 have J0:Hid (inB s (x.at_+(k:Int).toNat)=true):=by show _=_;simp [inB,hin]
 have J1:Hid (bt s (x.at_+(k:Int).toNat)=(s[x.at_+k].toNat:Int)):=by show bt s (x.at_+k)=_;exact bt_in hin
 obtain ⟨vs,hvs⟩:∃vs,Hid (s.extract (x.at_+(k:Int).toNat) (min (x.at_+((k:Int)+(q.size:Int)).toNat) s.size)=vs):=⟨_,rfl⟩
 have pin:x.at_+(k:Int).toNat<s.size:=by simpa using hin
 have hrc:=rest_cons s (x.at_+k) hin
 have hll:=look_list hin hvs
 have hcv:(vs.toList==q.toList)=false:=by
  rw [hll,HC.out.q]
  exact beq_eq_false_iff_ne.2 hm.out
 have hqs:q.size=Q.length:=by rw [←HC.out.q,toList_length]
 have hm':=hm.out
 rw [hqs,hrc] at hm'
 have HM:=Lib.hid hm'
 have HM0:Hid (¬(rest s (x.at_+k)).take Q.length=Q):=by rw [←hqs];exact hm.out
 have HQS:=Lib.hid hqs
 have HRC:=Lib.hid hrc
 have HR:=Lib.hid HC.out.i.row
 have hsz:=HC.out.i.held.grown.size
 have hlk:=HC.out.i.len
 clear hll hrc hm hm' hqs
 have J2:Hid (inB s (x.at_+((k:Int)+1).toNat)=true):=by
  show _=_
  have e:((k:Int)+1).toNat=k+1:=by omega
  rw [e];simp [inB];omega
 have J3:Hid (bt s (x.at_+((k:Int)+1).toNat)=(s[x.at_+(k+1)].toNat:Int)):=by
  have e:((k:Int)+1).toNat=k+1:=by omega
  show _=_
  rw [e];exact bt_in hin2
 have pin2:x.at_+((k:Int)+1).toNat<s.size:=by omega
 have hrc2:=rest_cons s (x.at_+(k+1)) hin2
 have hHRC:=HRC.out
 rw [show x.at_+k+1=x.at_+(k+1) from by omega,hrc2] at hHRC
 have HRC2:=Lib.hid hHRC
 clear hHRC hrc2 HRC
 have HS:Hid (lx.qStep Q false uni idn false k (rest s (x.at_+k)) l err=.stop .fault):=by
  show _=_
  rw [HRC2.out]
  unfold lx.qStep
  have hs:lx.simple s[x.at_+(k+1)]=none:=by
   unfold lx.simple
   rw [if_neg (by omega),if_neg (by omega),if_neg (by omega),if_neg (by omega),if_neg (by omega),if_neg (by omega),if_neg (by omega),if_neg (by omega)]
  simp only [hs]
  rw [if_neg (by rw [←HRC2.out];exact HM0.out),if_pos (by omega),if_neg Bool.false_ne_true,if_neg (by omega),if_neg (by omega),if_neg (by omega)]
  rfl
 clear HM HM0 HRC2
 rw [hc] at J1
 generalize s[x.at_+(k+1)]=d at *
 unfold QRound QFr
 conv=>arg 2;whnf
 go_wp2_with (first
  | (go_at_call 78;refine (peekOk_z _ _ (by first|exact HL.out.at|exact (HL.out.drewN _).at) (by omega) (by omega) (by omega) (by omega) (by first|exact J0|exact J2)).mono ?_;rintro e w' ⟨rfl,n,rfl⟩)
  | (go_at_call 91;refine (slice_z _ _ vs (by first|exact HL.out.at|exact (HL.out.drewN _).at) (by omega) (by omega) (by omega) (by omega) (by omega) (by omega) hvs).mono ?_;rintro e w' ⟨rfl,n2,rfl⟩)
  | (go_at_call 80;refine (peek_z _ _ (by first|exact HL.out.at|exact (HL.out.drewN _).at) (by omega) (by first|exact pin|exact pin2) (by omega) (by first|exact J1|exact J3)).mono ?_;rintro e w' ⟨rfl,n3,rfl⟩))
 have hw1:=IntWalk.i64_in ((x.at_:Int)+((k:Int)+1+1)) (by omega)
 have hw2:=IntWalk.i64_in ((x.at_:Int)+((k:Int)+2)) (by omega)
 have hw3:=IntWalk.i64_in ((x.at_:Int)+((k:Int)+1+1)-2) (by omega)
 have hw4:=IntWalk.i64_in ((x.at_:Int)+((k:Int)+2)-2) (by omega)
 generalize hW:wr.drewN _=W at *
 have HK:Hid (Held w B b f s x W):=by rw [←hW];exact ⟨HC.out.i.held.lex.drewN _,grown_drewN HC.out.i.held.grown _⟩
 clear hW
 have HD:=held_drew HK
 obtain ⟨c0,c1,c9⟩:=HK.out.lex.at
 have hxa:x.at_≤20000:=by omega
 have hka:k≤20000:=by omega
 have HO:=Lib.hid (quo_fault HC.out.i HS.out)
 clear HC HL HR hcv hlk hsz
 go_region_held2 (fun W=>W.cell? ⟨b,9,none⟩=some (.int .i64 (x.at_:Int)))
  (first|exact (‹Hid False›).out.elim|assumption)
  (first|(go_at_call 108;refine (panicfAt_w HD.out.lex _ _ _ (by omega) (by omega) (by omega)).mono ?_;rintro e w' (⟨m,rfl,hm⟩|⟨hF,rfl⟩);exact (show QEnd w B b f s x q nm false uni false o _ _ _ from qend_fault HO.out HD.out m hm)))
 all_goals exact (‹Hid False›).out.elim
set_option maxHeartbeats 2000000 in
set_option maxRecDepth 1000000 in
theorem quo_def_np (HC:Hid (QC w B b f s x Q q false uni idn true o k v l err wr)) (SZ:s.size≤20000) (hq3:q.size≤3) (hin2:x.at_+(k+1)<s.size)
  (hm:Hid (¬(rest s (x.at_+k)).take q.size=Q)) (hc:(s[x.at_+k].toNat:Int)=92) (d97:¬((s[x.at_+(k+1)].toNat:Int)=97)) (d98:¬((s[x.at_+(k+1)].toNat:Int)=98)) (d102:¬((s[x.at_+(k+1)].toNat:Int)=102)) (d110:¬((s[x.at_+(k+1)].toNat:Int)=110)) (d114:¬((s[x.at_+(k+1)].toNat:Int)=114)) (d116:¬((s[x.at_+(k+1)].toNat:Int)=116)) (d118:¬((s[x.at_+(k+1)].toNat:Int)=118)) (d92:¬((s[x.at_+(k+1)].toNat:Int)=92)) (d63:¬((s[x.at_+(k+1)].toNat:Int)=63)) (d34:¬((s[x.at_+(k+1)].toNat:Int)=34)) (d39:¬((s[x.at_+(k+1)].toNat:Int)=39)) (d96:¬((s[x.at_+(k+1)].toNat:Int)=96)) (d120:¬((s[x.at_+(k+1)].toNat:Int)=120)) (d88:¬((s[x.at_+(k+1)].toNat:Int)=88)) (d117:¬((s[x.at_+(k+1)].toNat:Int)=117)) (d85:¬((s[x.at_+(k+1)].toNat:Int)=85)) (d48:¬((s[x.at_+(k+1)].toNat:Int)=48)) (d49:¬((s[x.at_+(k+1)].toNat:Int)=49)) (d50:¬((s[x.at_+(k+1)].toNat:Int)=50)) (d51:¬((s[x.at_+(k+1)].toNat:Int)=51)) :
  QRound w B b f s x Q q nm false uni idn true o (QFr u b q false uni nm true (k:Int) v err) wr:=by
 have hin:x.at_+k<s.size:=by omega
 have HL:=Lib.hid HC.out.i.held.lex
 have J0:Hid (inB s (x.at_+(k:Int).toNat)=true):=by show _=_;simp [inB,hin]
 have J1:Hid (bt s (x.at_+(k:Int).toNat)=(s[x.at_+k].toNat:Int)):=by show bt s (x.at_+k)=_;exact bt_in hin
 obtain ⟨vs,hvs⟩:∃vs,Hid (s.extract (x.at_+(k:Int).toNat) (min (x.at_+((k:Int)+(q.size:Int)).toNat) s.size)=vs):=⟨_,rfl⟩
 have pin:x.at_+(k:Int).toNat<s.size:=by simpa using hin
 have hrc:=rest_cons s (x.at_+k) hin
 have hll:=look_list hin hvs
 have hcv:(vs.toList==q.toList)=false:=by
  rw [hll,HC.out.q]
  exact beq_eq_false_iff_ne.2 hm.out
 have hqs:q.size=Q.length:=by rw [←HC.out.q,toList_length]
 have hm':=hm.out
 rw [hqs,hrc] at hm'
 have HM:=Lib.hid hm'
 have HM0:Hid (¬(rest s (x.at_+k)).take Q.length=Q):=by rw [←hqs];exact hm.out
 have HQS:=Lib.hid hqs
 have HRC:=Lib.hid hrc
 have HR:=Lib.hid HC.out.i.row
 have hsz:=HC.out.i.held.grown.size
 have hlk:=HC.out.i.len
 clear hll hrc hm hm' hqs
 have J2:Hid (inB s (x.at_+((k:Int)+1).toNat)=true):=by
  show _=_
  have e:((k:Int)+1).toNat=k+1:=by omega
  rw [e];simp [inB];omega
 have J3:Hid (bt s (x.at_+((k:Int)+1).toNat)=(s[x.at_+(k+1)].toNat:Int)):=by
  have e:((k:Int)+1).toNat=k+1:=by omega
  show _=_
  rw [e];exact bt_in hin2
 have pin2:x.at_+((k:Int)+1).toNat<s.size:=by omega
 have hrc2:=rest_cons s (x.at_+(k+1)) hin2
 have hHRC:=HRC.out
 rw [show x.at_+k+1=x.at_+(k+1) from by omega,hrc2] at hHRC
 have HRC2:=Lib.hid hHRC
 clear hHRC hrc2 HRC
 have HS:Hid (lx.qStep Q false uni idn true k (rest s (x.at_+k)) l err=.more 2 l true):=by
  show _=_
  rw [HRC2.out]
  unfold lx.qStep
  have hs:lx.simple s[x.at_+(k+1)]=none:=by
   unfold lx.simple
   rw [if_neg (by omega),if_neg (by omega),if_neg (by omega),if_neg (by omega),if_neg (by omega),if_neg (by omega),if_neg (by omega),if_neg (by omega)]
  simp only [hs]
  rw [if_neg (by rw [←HRC2.out];exact HM0.out),if_pos (by omega),if_neg Bool.false_ne_true,if_neg (by omega),if_neg (by omega),if_neg (by omega)]
  rfl
 clear HM HM0 HRC2
 rw [hc] at J1
 generalize s[x.at_+(k+1)]=d at *
 unfold QRound QFr
 conv=>arg 2;whnf
 go_wp2_with (first
  | (go_at_call 78;refine (peekOk_z _ _ (by first|exact HL.out.at|exact (HL.out.drewN _).at) (by omega) (by omega) (by omega) (by omega) (by first|exact J0|exact J2)).mono ?_;rintro e w' ⟨rfl,n,rfl⟩)
  | (go_at_call 91;refine (slice_z _ _ vs (by first|exact HL.out.at|exact (HL.out.drewN _).at) (by omega) (by omega) (by omega) (by omega) (by omega) (by omega) hvs).mono ?_;rintro e w' ⟨rfl,n2,rfl⟩)
  | (go_at_call 80;refine (peek_z _ _ (by first|exact HL.out.at|exact (HL.out.drewN _).at) (by omega) (by first|exact pin|exact pin2) (by omega) (by first|exact J1|exact J3)).mono ?_;rintro e w' ⟨rfl,n3,rfl⟩))
 refine ⟨⟨k+2,v,l,true,⟨rfl,rfl,rfl,rfl,rfl,rfl,rfl,rfl,rfl,rfl,rfl,rfl,rfl⟩,qi_skip HC.out HS.out (by omega) (by omega) (below_drewN (Below.refl _ _) _)⟩, ?_⟩
 exact qmu_lt (k:=k) (j:=k+2) rfl rfl (by omega) (by omega)
set_option maxHeartbeats 2000000 in
set_option maxRecDepth 1000000 in
theorem quo_nl_p (HC:Hid (QC w B b f s x Q q raw uni idn false o k v l err wr)) (SZ:s.size≤20000) (h3:Hid (q.size=1)) (hin:x.at_+k<s.size)
  (hm:Hid (¬(rest s (x.at_+k)).take q.size=Q)) (hn:(s[x.at_+k].toNat:Int)=10) :
  QRound w B b f s x Q q nm raw uni idn false o (QFr u b q raw uni nm false (k:Int) v err) wr:=by
 have HL:=Lib.hid HC.out.i.held.lex
 have J0:Hid (inB s (x.at_+(k:Int).toNat)=true):=by show _=_;simp [inB,hin]
 have J1:Hid (bt s (x.at_+(k:Int).toNat)=(s[x.at_+k].toNat:Int)):=by show bt s (x.at_+k)=_;exact bt_in hin
 obtain ⟨vs,hvs⟩:∃vs,Hid (s.extract (x.at_+(k:Int).toNat) (min (x.at_+((k:Int)+(q.size:Int)).toNat) s.size)=vs):=⟨_,rfl⟩
 have pin:x.at_+(k:Int).toNat<s.size:=by simpa using hin
 have hrc:=rest_cons s (x.at_+k) hin
 have hll:=look_list hin hvs
 have hcv:(vs.toList==q.toList)=false:=by
  rw [hll,HC.out.q]
  exact beq_eq_false_iff_ne.2 hm.out
 have hqs:q.size=Q.length:=by rw [←HC.out.q,toList_length]
 have hm':=hm.out
 rw [hqs,hrc] at hm'
 have HM:=Lib.hid hm'
 have HM0:Hid (¬(rest s (x.at_+k)).take Q.length=Q):=by rw [←hqs];exact hm.out
 have HQS:=Lib.hid hqs
 have HRC:=Lib.hid hrc
 have HR:=Lib.hid HC.out.i.row
 have hsz:=HC.out.i.held.grown.size
 have hlk:=HC.out.i.len
 clear hll hrc hm hm' hqs
 have HS:Hid (lx.qStep Q raw uni idn false k (rest s (x.at_+k)) l err=.stop .fault):=by
  have hqs:=HQS.out
  have h3:=h3.out
  show _=_
  rw [HRC.out]
  unfold lx.qStep
  simp only
  rw [if_neg HM.out,if_neg (by omega),if_pos (by omega)]
  rfl
 clear HM HM0 HRC
 have hcz:=hn
 rw [hn] at J1
 have hz3:(q.size:Int)=1:=by have:=h3.out;omega
 rw [hz3] at hvs
 unfold QRound QFr
 conv=>arg 2;whnf
 go_wp2_with (first
  | (go_at_call 78;refine (peekOk_z _ _ (by first|exact HL.out.at|exact (HL.out.drewN _).at) (by omega) (by omega) (by omega) (by omega) J0).mono ?_;rintro e w' ⟨rfl,n,rfl⟩)
  | (go_at_call 91;refine (slice_z _ _ vs (by first|exact HL.out.at|exact (HL.out.drewN _).at) (by omega) (by omega) (by omega) (by omega) (by omega) (by omega) hvs).mono ?_;rintro e w' ⟨rfl,n2,rfl⟩)
  | (go_at_call 80;refine (peek_z _ _ (by first|exact HL.out.at|exact (HL.out.drewN _).at) (by omega) pin (by omega) J1).mono ?_;rintro e w' ⟨rfl,n3,rfl⟩))
 have hw1:=IntWalk.i64_in ((x.at_:Int)+(k:Int)) (by omega)
 generalize hW:wr.drewN _=W at *
 have HK:Hid (Held w B b f s x W):=by rw [←hW];exact ⟨HC.out.i.held.lex.drewN _,grown_drewN HC.out.i.held.grown _⟩
 clear hW
 have HD:=held_drew HK
 obtain ⟨c0,c1,c9⟩:=HK.out.lex.at
 have hxa:x.at_≤20000:=by omega
 have hka:k≤20000:=by omega
 have HO:=Lib.hid (quo_fault HC.out.i HS.out)
 clear HC HL HR hcv hlk hsz
 go_region_held2 (fun W=>W.cell? ⟨b,9,none⟩=some (.int .i64 (x.at_:Int)))
  (first|exact (‹Hid False›).out.elim|assumption)
  (first|(go_at_call 108;refine (panicfAt_w HD.out.lex _ _ _ (by omega) (by omega) (by omega)).mono ?_;rintro e w' (⟨m,rfl,hm⟩|⟨hF,rfl⟩);exact (show QEnd w B b f s x q nm raw uni false o _ _ _ from qend_fault HO.out HD.out m hm)))
 all_goals exact (‹Hid False›).out.elim
set_option maxHeartbeats 2000000 in
set_option maxRecDepth 1000000 in
theorem quo_nl_np (HC:Hid (QC w B b f s x Q q raw uni idn true o k v l err wr)) (SZ:s.size≤20000) (h3:Hid (q.size=1)) (hin:x.at_+k<s.size)
  (hm:Hid (¬(rest s (x.at_+k)).take q.size=Q)) (hn:(s[x.at_+k].toNat:Int)=10) :
  QRound w B b f s x Q q nm raw uni idn true o (QFr u b q raw uni nm true (k:Int) v err) wr:=by
 have HL:=Lib.hid HC.out.i.held.lex
 have J0:Hid (inB s (x.at_+(k:Int).toNat)=true):=by show _=_;simp [inB,hin]
 have J1:Hid (bt s (x.at_+(k:Int).toNat)=(s[x.at_+k].toNat:Int)):=by show bt s (x.at_+k)=_;exact bt_in hin
 obtain ⟨vs,hvs⟩:∃vs,Hid (s.extract (x.at_+(k:Int).toNat) (min (x.at_+((k:Int)+(q.size:Int)).toNat) s.size)=vs):=⟨_,rfl⟩
 have pin:x.at_+(k:Int).toNat<s.size:=by simpa using hin
 have hrc:=rest_cons s (x.at_+k) hin
 have hll:=look_list hin hvs
 have hcv:(vs.toList==q.toList)=false:=by
  rw [hll,HC.out.q]
  exact beq_eq_false_iff_ne.2 hm.out
 have hqs:q.size=Q.length:=by rw [←HC.out.q,toList_length]
 have hm':=hm.out
 rw [hqs,hrc] at hm'
 have HM:=Lib.hid hm'
 have HM0:Hid (¬(rest s (x.at_+k)).take Q.length=Q):=by rw [←hqs];exact hm.out
 have HQS:=Lib.hid hqs
 have HRC:=Lib.hid hrc
 have HR:=Lib.hid HC.out.i.row
 have hsz:=HC.out.i.held.grown.size
 have hlk:=HC.out.i.len
 clear hll hrc hm hm' hqs
 have HS:Hid (lx.qStep Q raw uni idn true k (rest s (x.at_+k)) l err=.more 1 l true):=by
  have hqs:=HQS.out
  have h3:=h3.out
  show _=_
  rw [HRC.out]
  unfold lx.qStep
  simp only
  rw [if_neg HM.out,if_neg (by omega),if_pos (by omega)]
  rfl
 clear HM HM0 HRC
 have hcz:=hn
 rw [hn] at J1
 have hz3:(q.size:Int)=1:=by have:=h3.out;omega
 rw [hz3] at hvs
 unfold QRound QFr
 conv=>arg 2;whnf
 go_wp2_with (first
  | (go_at_call 78;refine (peekOk_z _ _ (by first|exact HL.out.at|exact (HL.out.drewN _).at) (by omega) (by omega) (by omega) (by omega) J0).mono ?_;rintro e w' ⟨rfl,n,rfl⟩)
  | (go_at_call 91;refine (slice_z _ _ vs (by first|exact HL.out.at|exact (HL.out.drewN _).at) (by omega) (by omega) (by omega) (by omega) (by omega) (by omega) hvs).mono ?_;rintro e w' ⟨rfl,n2,rfl⟩)
  | (go_at_call 80;refine (peek_z _ _ (by first|exact HL.out.at|exact (HL.out.drewN _).at) (by omega) pin (by omega) J1).mono ?_;rintro e w' ⟨rfl,n3,rfl⟩))
 refine ⟨⟨k+1,v,l,true,⟨rfl,rfl,rfl,rfl,rfl,rfl,rfl,rfl,rfl,rfl,rfl,rfl,rfl⟩,qi_skip HC.out HS.out (by omega) (by omega) (below_drewN (Below.refl _ _) _)⟩, ?_⟩
 exact qmu_lt (k:=k) (j:=k+1) rfl rfl (by omega) (by omega)
end
end Go.Proofs.YtaamolahbkgofaaGreatDoor.lex
set_option linter.unusedVariables false
namespace Go.Proofs.YtaamolahbkgofaaGreatDoor.lex
open Go.RowKit mem lines
theorem row_set {base n b:Nat} {v:Value} {l:List UInt8} {W:World} (h:Row base v n l W) (hb:b<base) (i:Nat) (u:Value):Row base v n l (W.setCell ⟨b,i,none⟩ u):=by
 obtain ⟨hl,h|⟨g,cap,hv,h1,h2,h3,h4,h5⟩⟩:=h
 ·exact ⟨hl,.inl h⟩
 ·have e:(W.setCell ⟨b,i,none⟩ u).heap[g]?=W.heap[g]?:=Below.heap_setCell W ⟨b,i,none⟩ u g (by simp;omega)
  refine ⟨hl,.inr ⟨g,cap,hv,h1, ?_,h3,fun j hj=>?_,fun j hj1 hj2=>?_⟩⟩
  ·rw [Array.getElem?_eq_getElem h2] at e
   exact (Array.getElem?_eq_some_iff.1 e).1
  ·rw [←h4 j hj];simp only [World.cell?,e]
  ·have:=h5 j hj1 hj2
   simp only [World.cell?,World.frozen?,e] at this ⊢
   exact this
/-- An empty slice turned to a text. -/
theorem conv_nil (W:World):(convert 37 9 (.slice none 0 0)).run Tryz.prog W=.ok (.string ⟨#[]⟩) W:=by
 kernel_rfl
theorem conv_row {base n:Nat} {v:Value} {l:List UInt8} {W:World} (h:Row base v n l W):(convert 37 9 v).run Tryz.prog W=.ok (.string ⟨l.toArray⟩) W:=by
 obtain ⟨hl,⟨hv,hn⟩|hs⟩:=id h
 ·subst hn
  have:l=[]:=List.length_eq_zero_iff.1 hl
  subst this hv
  exact conv_nil W
 ·obtain ⟨g,cap,hv,_⟩:=id hs
  exact row_back h (fun e=>by rw [hv] at e;cases e)
section
variable {w wr:World} {B b f:Nat} {s q nm:ByteArray} {x:St} {Q:lx.Bs} {raw uni idn np:Bool} {o:lx.QOut} {k:Nat} {v:Value} {l:lx.Bs} {err:Bool} {u:Nat→Value}
set_option maxHeartbeats 2000000 in
set_option maxRecDepth 1000000 in
theorem quo_hit_ok (HC:Hid (QC w B b f s x Q q raw uni idn np o k v l false wr)) (SZ:s.size≤20000) (hq3:q.size≤3) (hin:x.at_+k<s.size)
  (hm:Hid ((rest s (x.at_+k)).take q.size=Q)) (hnm:(nm.toList==[105,100,101,110,116,105,102,105,101,114])=idn) (hid:Hid (¬(l=[]∧idn=true))) :
  QRound w B b f s x Q q nm raw uni idn np o (QFr u b q raw uni nm np (k:Int) v false) wr:=by
 have HL:=Lib.hid HC.out.i.held.lex
 have J0:Hid (inB s (x.at_+(k:Int).toNat)=true):=by show _=_;simp [inB,hin]
 obtain ⟨vs,hvs⟩:∃vs,Hid (s.extract (x.at_+(k:Int).toNat) (min (x.at_+((k:Int)+(q.size:Int)).toNat) s.size)=vs):=⟨_,rfl⟩
 have hrc:=rest_cons s (x.at_+k) hin
 have hll:=look_list hin hvs
 have hcv:(vs.toList==q.toList)=true:=by
  rw [hll,HC.out.q,hm.out]
  exact beq_self_eq_true Q
 have hqs:q.size=Q.length:=by rw [←HC.out.q,toList_length]
 have hm':=hm.out
 rw [hqs] at hm'
 have hend:x.at_+k+q.size≤s.size:=by
  have h:=congrArg List.length hm'
  rw [List.length_take,rest_length] at h
  omega
 have HM:=Lib.hid hm'
 have HQS:=Lib.hid hqs
 have HRC:=Lib.hid hrc
 have HR:=Lib.hid HC.out.i.row
 have hlk:=HC.out.i.len
 have HBW:=Lib.hid HC.out.hb
 clear hll hrc hm hm' hqs
 have HS:Hid (lx.qStep Q raw uni idn np k (rest s (x.at_+k)) l false=.stop (.ok (k+Q.length) l)):=by
  have hm:=HM.out
  rw [HRC.out] at hm
  show _=_
  rw [HRC.out]
  unfold lx.qStep
  simp only
  rw [if_pos hm,if_neg hid.out]
  rfl
 have HO:=Lib.hid (quo_fault HC.out.i HS.out)
 clear HM HRC
 have hw1:=IntWalk.i64_in ((k:Int)+(q.size:Int)) (by omega)
 by_cases hl0:l=[]
 ·have hi:idn=false:=by
   cases hidn:idn
   ·rfl
   ·exact absurd ⟨hl0,hidn⟩ hid.out
  subst hl0 hi
  obtain ⟨hrl,⟨hv,hn⟩|⟨g,cap,hv,hg⟩⟩:=id HR.out
  ·subst hv
   clear hrl hn
   unfold QRound QFr
   conv=>arg 2;whnf
   go_wp2_with (first
    | (go_at_call 78;refine (peekOk_z _ _ (by first|exact HL.out.at|exact (HL.out.drewN _).at) (by omega) (by omega) (by omega) (by omega) J0).mono ?_;rintro e w' ⟨rfl,n,rfl⟩)
    | (go_at_call 91;refine (slice_z _ _ vs (by first|exact HL.out.at|exact (HL.out.drewN _).at) (by omega) (by omega) (by omega) (by omega) (by omega) (by omega) hvs).mono ?_;rintro e w' ⟨rfl,n2,rfl⟩)
    | (go_at_call 75;refine (skipN_named (k+q.size) _ (HL.out.drewN _).at.pos ((HL.out.drewN _).free 9) (by omega) (by omega) (by first|rfl|omega)).mono ?_;rintro e w6 ⟨rfl,hw⟩;have HW:=Lib.hid hw;have hrow:=row_set (HR.out.drewN (n+n2)) HBW.out 9 (.int .i64 ((x.at_+(k+q.size):Nat):Int));rw [hw] at hrow;have hconv:=conv_row hrow;clear hrow hw))
   show QEnd w B b f s x q nm raw uni np o .ret _ _
   refine ⟨rfl,_,_,rfl,rfl, ?_⟩
   rw [HO.out,←HW.out,←HQS.out]
   refine ⟨rfl, ?_,grown_set (grown_drewN HC.out.i.held.grown _) 9 _⟩
   exact (HL.out.drewN _).set 9 _ _ rfl (by simp;omega)
  ·simp only [List.length_nil] at hv
   subst hv
   clear hrl hg
   unfold QRound QFr
   conv=>arg 2;whnf
   go_wp2_with (first
    | (go_at_call 78;refine (peekOk_z _ _ (by first|exact HL.out.at|exact (HL.out.drewN _).at) (by omega) (by omega) (by omega) (by omega) J0).mono ?_;rintro e w' ⟨rfl,n,rfl⟩)
    | (go_at_call 91;refine (slice_z _ _ vs (by first|exact HL.out.at|exact (HL.out.drewN _).at) (by omega) (by omega) (by omega) (by omega) (by omega) (by omega) hvs).mono ?_;rintro e w' ⟨rfl,n2,rfl⟩)
    | (go_at_call 75;refine (skipN_named (k+q.size) _ (HL.out.drewN _).at.pos ((HL.out.drewN _).free 9) (by omega) (by omega) (by first|rfl|omega)).mono ?_;rintro e w6 ⟨rfl,hw⟩;have HW:=Lib.hid hw;have hrow:=row_set (HR.out.drewN (n+n2)) HBW.out 9 (.int .i64 ((x.at_+(k+q.size):Nat):Int));rw [hw] at hrow;have hconv:=conv_row hrow;clear hrow hw))
   show QEnd w B b f s x q nm raw uni np o .ret _ _
   refine ⟨rfl,_,_,rfl,rfl, ?_⟩
   rw [HO.out,←HW.out,←HQS.out]
   refine ⟨rfl, ?_,grown_set (grown_drewN HC.out.i.held.grown _) 9 _⟩
   exact (HL.out.drewN _).set 9 _ _ rfl (by simp;omega)
 ·obtain ⟨hrl,⟨hv,hn⟩|⟨g,cap,hv,hg⟩⟩:=id HR.out
  ·exact absurd (List.length_eq_zero_iff.1 hn) hl0
  ·subst hv
   clear hrl hg
   unfold QRound QFr
   conv=>arg 2;whnf
   go_wp2_with (first
    | (go_at_call 78;refine (peekOk_z _ _ (by first|exact HL.out.at|exact (HL.out.drewN _).at) (by omega) (by omega) (by omega) (by omega) J0).mono ?_;rintro e w' ⟨rfl,n,rfl⟩)
    | (go_at_call 91;refine (slice_z _ _ vs (by first|exact HL.out.at|exact (HL.out.drewN _).at) (by omega) (by omega) (by omega) (by omega) (by omega) (by omega) hvs).mono ?_;rintro e w' ⟨rfl,n2,rfl⟩)
    | (go_at_call 75;refine (skipN_named (k+q.size) _ (HL.out.drewN _).at.pos ((HL.out.drewN _).free 9) (by omega) (by omega) (by first|rfl|omega)).mono ?_;rintro e w6 ⟨rfl,hw⟩;have HW:=Lib.hid hw;have hrow:=row_set (HR.out.drewN (n+n2)) HBW.out 9 (.int .i64 ((x.at_+(k+q.size):Nat):Int));rw [hw] at hrow;have hconv:=conv_row hrow;clear hrow hw))
   show QEnd w B b f s x q nm raw uni np o .ret _ _
   refine ⟨rfl,_,_,rfl,rfl, ?_⟩
   rw [HO.out,←HW.out,←HQS.out]
   refine ⟨rfl, ?_,grown_set (grown_drewN HC.out.i.held.grown _) 9 _⟩
   exact (HL.out.drewN _).set 9 _ _ rfl (by simp;omega)
set_option maxHeartbeats 2000000 in
set_option maxRecDepth 1000000 in
theorem quo_hit_err (HC:Hid (QC w B b f s x Q q raw uni idn np o k v l true wr)) (SZ:s.size≤20000) (hq3:q.size≤3) (hin:x.at_+k<s.size)
  (hm:Hid ((rest s (x.at_+k)).take q.size=Q)) (hnm:(nm.toList==[105,100,101,110,116,105,102,105,101,114])=idn) (hid:Hid (¬(l=[]∧idn=true))) :
  QRound w B b f s x Q q nm raw uni idn np o (QFr u b q raw uni nm np (k:Int) v true) wr:=by
 have HL:=Lib.hid HC.out.i.held.lex
 have J0:Hid (inB s (x.at_+(k:Int).toNat)=true):=by show _=_;simp [inB,hin]
 obtain ⟨vs,hvs⟩:∃vs,Hid (s.extract (x.at_+(k:Int).toNat) (min (x.at_+((k:Int)+(q.size:Int)).toNat) s.size)=vs):=⟨_,rfl⟩
 have hrc:=rest_cons s (x.at_+k) hin
 have hll:=look_list hin hvs
 have hcv:(vs.toList==q.toList)=true:=by
  rw [hll,HC.out.q,hm.out]
  exact beq_self_eq_true Q
 have hqs:q.size=Q.length:=by rw [←HC.out.q,toList_length]
 have hm':=hm.out
 rw [hqs] at hm'
 have hend:x.at_+k+q.size≤s.size:=by
  have h:=congrArg List.length hm'
  rw [List.length_take,rest_length] at h
  omega
 have HM:=Lib.hid hm'
 have HQS:=Lib.hid hqs
 have HRC:=Lib.hid hrc
 have HR:=Lib.hid HC.out.i.row
 have hlk:=HC.out.i.len
 have HBW:=Lib.hid HC.out.hb
 clear hll hrc hm hm' hqs
 have HS:Hid (lx.qStep Q raw uni idn np k (rest s (x.at_+k)) l true=.stop (.bad (k+Q.length))):=by
  have hm:=HM.out
  rw [HRC.out] at hm
  show _=_
  rw [HRC.out]
  unfold lx.qStep
  simp only
  rw [if_pos hm,if_neg hid.out]
  rfl
 have HO:=Lib.hid (quo_fault HC.out.i HS.out)
 clear HM HRC
 have hw1:=IntWalk.i64_in ((k:Int)+(q.size:Int)) (by omega)
 by_cases hl0:l=[]
 ·have hi:idn=false:=by
   cases hidn:idn
   ·rfl
   ·exact absurd ⟨hl0,hidn⟩ hid.out
  subst hl0 hi
  obtain ⟨hrl,⟨hv,hn⟩|⟨g,cap,hv,hg⟩⟩:=id HR.out
  ·subst hv
   clear hrl hn
   unfold QRound QFr
   conv=>arg 2;whnf
   go_wp2_with (first
    | (go_at_call 78;refine (peekOk_z _ _ (by first|exact HL.out.at|exact (HL.out.drewN _).at) (by omega) (by omega) (by omega) (by omega) J0).mono ?_;rintro e w' ⟨rfl,n,rfl⟩)
    | (go_at_call 91;refine (slice_z _ _ vs (by first|exact HL.out.at|exact (HL.out.drewN _).at) (by omega) (by omega) (by omega) (by omega) (by omega) (by omega) hvs).mono ?_;rintro e w' ⟨rfl,n2,rfl⟩)
    | (go_at_call 75;refine (skipN_named (k+q.size) _ (HL.out.drewN _).at.pos ((HL.out.drewN _).free 9) (by omega) (by omega) (by first|rfl|omega)).mono ?_;rintro e w6 ⟨rfl,hw⟩;have HW:=Lib.hid hw;have hrow:=row_set (HR.out.drewN (n+n2)) HBW.out 9 (.int .i64 ((x.at_+(k+q.size):Nat):Int));rw [hw] at hrow;have hconv:=conv_row hrow;clear hrow hw))
   show QEnd w B b f s x q nm raw uni np o .ret _ _
   refine ⟨rfl,_,_,rfl,rfl, ?_⟩
   rw [HO.out,←HW.out,←HQS.out]
   refine ⟨rfl, ?_,grown_set (grown_drewN HC.out.i.held.grown _) 9 _⟩
   exact (HL.out.drewN _).set 9 _ _ rfl (by simp;omega)
  ·simp only [List.length_nil] at hv
   subst hv
   clear hrl hg
   unfold QRound QFr
   conv=>arg 2;whnf
   go_wp2_with (first
    | (go_at_call 78;refine (peekOk_z _ _ (by first|exact HL.out.at|exact (HL.out.drewN _).at) (by omega) (by omega) (by omega) (by omega) J0).mono ?_;rintro e w' ⟨rfl,n,rfl⟩)
    | (go_at_call 91;refine (slice_z _ _ vs (by first|exact HL.out.at|exact (HL.out.drewN _).at) (by omega) (by omega) (by omega) (by omega) (by omega) (by omega) hvs).mono ?_;rintro e w' ⟨rfl,n2,rfl⟩)
    | (go_at_call 75;refine (skipN_named (k+q.size) _ (HL.out.drewN _).at.pos ((HL.out.drewN _).free 9) (by omega) (by omega) (by first|rfl|omega)).mono ?_;rintro e w6 ⟨rfl,hw⟩;have HW:=Lib.hid hw;have hrow:=row_set (HR.out.drewN (n+n2)) HBW.out 9 (.int .i64 ((x.at_+(k+q.size):Nat):Int));rw [hw] at hrow;have hconv:=conv_row hrow;clear hrow hw))
   show QEnd w B b f s x q nm raw uni np o .ret _ _
   refine ⟨rfl,_,_,rfl,rfl, ?_⟩
   rw [HO.out,←HW.out,←HQS.out]
   refine ⟨rfl, ?_,grown_set (grown_drewN HC.out.i.held.grown _) 9 _⟩
   exact (HL.out.drewN _).set 9 _ _ rfl (by simp;omega)
 ·obtain ⟨hrl,⟨hv,hn⟩|⟨g,cap,hv,hg⟩⟩:=id HR.out
  ·exact absurd (List.length_eq_zero_iff.1 hn) hl0
  ·subst hv
   clear hrl hg
   unfold QRound QFr
   conv=>arg 2;whnf
   go_wp2_with (first
    | (go_at_call 78;refine (peekOk_z _ _ (by first|exact HL.out.at|exact (HL.out.drewN _).at) (by omega) (by omega) (by omega) (by omega) J0).mono ?_;rintro e w' ⟨rfl,n,rfl⟩)
    | (go_at_call 91;refine (slice_z _ _ vs (by first|exact HL.out.at|exact (HL.out.drewN _).at) (by omega) (by omega) (by omega) (by omega) (by omega) (by omega) hvs).mono ?_;rintro e w' ⟨rfl,n2,rfl⟩)
    | (go_at_call 75;refine (skipN_named (k+q.size) _ (HL.out.drewN _).at.pos ((HL.out.drewN _).free 9) (by omega) (by omega) (by first|rfl|omega)).mono ?_;rintro e w6 ⟨rfl,hw⟩;have HW:=Lib.hid hw;have hrow:=row_set (HR.out.drewN (n+n2)) HBW.out 9 (.int .i64 ((x.at_+(k+q.size):Nat):Int));rw [hw] at hrow;have hconv:=conv_row hrow;clear hrow hw))
   show QEnd w B b f s x q nm raw uni np o .ret _ _
   refine ⟨rfl,_,_,rfl,rfl, ?_⟩
   rw [HO.out,←HW.out,←HQS.out]
   refine ⟨rfl, ?_,grown_set (grown_drewN HC.out.i.held.grown _) 9 _⟩
   exact (HL.out.drewN _).set 9 _ _ rfl (by simp;omega)
set_option maxHeartbeats 2000000 in
set_option maxRecDepth 1000000 in
theorem quo_empty_np (HC:Hid (QC w B b f s x Q q raw uni true true o k v [] err wr)) (SZ:s.size≤20000) (hq3:q.size≤3) (hin:x.at_+k<s.size)
  (hm:Hid ((rest s (x.at_+k)).take q.size=Q)) (hnm:(nm.toList==[105,100,101,110,116,105,102,105,101,114])=true) :
  QRound w B b f s x Q q nm raw uni true true o (QFr u b q raw uni nm true (k:Int) v err) wr:=by
 have HL:=Lib.hid HC.out.i.held.lex
 have J0:Hid (inB s (x.at_+(k:Int).toNat)=true):=by show _=_;simp [inB,hin]
 obtain ⟨vs,hvs⟩:∃vs,Hid (s.extract (x.at_+(k:Int).toNat) (min (x.at_+((k:Int)+(q.size:Int)).toNat) s.size)=vs):=⟨_,rfl⟩
 have hrc:=rest_cons s (x.at_+k) hin
 have hll:=look_list hin hvs
 have hcv:(vs.toList==q.toList)=true:=by
  rw [hll,HC.out.q,hm.out]
  exact beq_self_eq_true Q
 have hqs:q.size=Q.length:=by rw [←HC.out.q,toList_length]
 have hm':=hm.out
 rw [hqs] at hm'
 have hend:x.at_+k+q.size≤s.size:=by
  have h:=congrArg List.length hm'
  rw [List.length_take,rest_length] at h
  omega
 have HM:=Lib.hid hm'
 have HQS:=Lib.hid hqs
 have HRC:=Lib.hid hrc
 have HR:=Lib.hid HC.out.i.row
 have hlk:=HC.out.i.len
 have HBW:=Lib.hid HC.out.hb
 clear hll hrc hm hm' hqs
 have HS:Hid (lx.qStep Q raw uni true true k (rest s (x.at_+k)) [] err=.stop (.bad (k+Q.length))):=by
  have hm:=HM.out
  rw [HRC.out] at hm
  show _=_
  rw [HRC.out]
  unfold lx.qStep
  simp only
  rw [if_pos hm,if_pos (by simp)]
  rfl
 have HO:=Lib.hid (quo_fault HC.out.i HS.out)
 clear HM HRC
 have hw1:=IntWalk.i64_in ((k:Int)+(q.size:Int)) (by omega)
 obtain ⟨hrl,⟨hv,hn⟩|⟨g,cap,hv,hg⟩⟩:=id HR.out
 ·subst hv
  clear hrl hn
  unfold QRound QFr
  conv=>arg 2;whnf
  go_wp2_with (first
   | (go_at_call 78;refine (peekOk_z _ _ (by first|exact HL.out.at|exact (HL.out.drewN _).at) (by omega) (by omega) (by omega) (by omega) J0).mono ?_;rintro e w' ⟨rfl,n,rfl⟩)
   | (go_at_call 91;refine (slice_z _ _ vs (by first|exact HL.out.at|exact (HL.out.drewN _).at) (by omega) (by omega) (by omega) (by omega) (by omega) (by omega) hvs).mono ?_;rintro e w' ⟨rfl,n2,rfl⟩)
   | (go_at_call 75;refine (skipN_named (k+q.size) _ (HL.out.drewN _).at.pos ((HL.out.drewN _).free 9) (by omega) (by omega) (by first|rfl|omega)).mono ?_;rintro e w6 ⟨rfl,hw⟩;have HW:=Lib.hid hw;have hrow:=row_set (HR.out.drewN (n+n2)) HBW.out 9 (.int .i64 ((x.at_+(k+q.size):Nat):Int));rw [hw] at hrow;have hconv:=conv_row hrow;clear hrow hw))
  show QEnd w B b f s x q nm raw uni true o .ret _ _
  refine ⟨rfl,_,_,rfl,rfl, ?_⟩
  rw [HO.out,←HW.out,←HQS.out]
  refine ⟨rfl, ?_,grown_set (grown_drewN HC.out.i.held.grown _) 9 _⟩
  exact (HL.out.drewN _).set 9 _ _ rfl (by simp;omega)
 ·simp only [List.length_nil] at hv
  subst hv
  clear hrl hg
  unfold QRound QFr
  conv=>arg 2;whnf
  go_wp2_with (first
   | (go_at_call 78;refine (peekOk_z _ _ (by first|exact HL.out.at|exact (HL.out.drewN _).at) (by omega) (by omega) (by omega) (by omega) J0).mono ?_;rintro e w' ⟨rfl,n,rfl⟩)
   | (go_at_call 91;refine (slice_z _ _ vs (by first|exact HL.out.at|exact (HL.out.drewN _).at) (by omega) (by omega) (by omega) (by omega) (by omega) (by omega) hvs).mono ?_;rintro e w' ⟨rfl,n2,rfl⟩)
   | (go_at_call 75;refine (skipN_named (k+q.size) _ (HL.out.drewN _).at.pos ((HL.out.drewN _).free 9) (by omega) (by omega) (by first|rfl|omega)).mono ?_;rintro e w6 ⟨rfl,hw⟩;have HW:=Lib.hid hw;have hrow:=row_set (HR.out.drewN (n+n2)) HBW.out 9 (.int .i64 ((x.at_+(k+q.size):Nat):Int));rw [hw] at hrow;have hconv:=conv_row hrow;clear hrow hw))
  show QEnd w B b f s x q nm raw uni true o .ret _ _
  refine ⟨rfl,_,_,rfl,rfl, ?_⟩
  rw [HO.out,←HW.out,←HQS.out]
  refine ⟨rfl, ?_,grown_set (grown_drewN HC.out.i.held.grown _) 9 _⟩
  exact (HL.out.drewN _).set 9 _ _ rfl (by simp;omega)
set_option maxHeartbeats 2000000 in
set_option maxRecDepth 1000000 in
theorem quo_empty_p (HC:Hid (QC w B b f s x Q q raw uni true false o k v [] err wr)) (SZ:s.size≤20000) (hq3:q.size≤3) (hin:x.at_+k<s.size)
  (hm:Hid ((rest s (x.at_+k)).take q.size=Q)) (hnm:(nm.toList==[105,100,101,110,116,105,102,105,101,114])=true) :
  QRound w B b f s x Q q nm raw uni true false o (QFr u b q raw uni nm false (k:Int) v err) wr:=by
 have HL:=Lib.hid HC.out.i.held.lex
 have J0:Hid (inB s (x.at_+(k:Int).toNat)=true):=by show _=_;simp [inB,hin]
 obtain ⟨vs,hvs⟩:∃vs,Hid (s.extract (x.at_+(k:Int).toNat) (min (x.at_+((k:Int)+(q.size:Int)).toNat) s.size)=vs):=⟨_,rfl⟩
 have hrc:=rest_cons s (x.at_+k) hin
 have hll:=look_list hin hvs
 have hcv:(vs.toList==q.toList)=true:=by
  rw [hll,HC.out.q,hm.out]
  exact beq_self_eq_true Q
 have hqs:q.size=Q.length:=by rw [←HC.out.q,toList_length]
 have hm':=hm.out
 rw [hqs] at hm'
 have hend:x.at_+k+q.size≤s.size:=by
  have h:=congrArg List.length hm'
  rw [List.length_take,rest_length] at h
  omega
 have HM:=Lib.hid hm'
 have HQS:=Lib.hid hqs
 have HRC:=Lib.hid hrc
 have HR:=Lib.hid HC.out.i.row
 have hlk:=HC.out.i.len
 have HBW:=Lib.hid HC.out.hb
 clear hll hrc hm hm' hqs
 have HS:Hid (lx.qStep Q raw uni true false k (rest s (x.at_+k)) [] err=.stop (.fault)):=by
  have hm:=HM.out
  rw [HRC.out] at hm
  show _=_
  rw [HRC.out]
  unfold lx.qStep
  simp only
  rw [if_pos hm,if_pos (by simp)]
  rfl
 have HO:=Lib.hid (quo_fault HC.out.i HS.out)
 clear HM HRC
 have hw1:=IntWalk.i64_in ((k:Int)+(q.size:Int)) (by omega)
 obtain ⟨hrl,⟨hv,hn⟩|⟨g,cap,hv,hg⟩⟩:=id HR.out
 ·subst hv
  clear hrl hn
  unfold QRound QFr
  conv=>arg 2;whnf
  go_wp2_with (first
   | (go_at_call 78;refine (peekOk_z _ _ (by first|exact HL.out.at|exact (HL.out.drewN _).at) (by omega) (by omega) (by omega) (by omega) J0).mono ?_;rintro e w' ⟨rfl,n,rfl⟩)
   | (go_at_call 91;refine (slice_z _ _ vs (by first|exact HL.out.at|exact (HL.out.drewN _).at) (by omega) (by omega) (by omega) (by omega) (by omega) (by omega) hvs).mono ?_;rintro e w' ⟨rfl,n2,rfl⟩)
   | (go_at_call 75;refine (skipN_named (k+q.size) _ (HL.out.drewN _).at.pos ((HL.out.drewN _).free 9) (by omega) (by omega) (by first|rfl|omega)).mono ?_;rintro e w6 ⟨rfl,hw⟩;have HW:=Lib.hid hw;have hrow:=row_set (HR.out.drewN (n+n2)) HBW.out 9 (.int .i64 ((x.at_+(k+q.size):Nat):Int));rw [hw] at hrow;have hconv:=conv_row hrow;clear hrow hw))
  have hw2:=IntWalk.i64_in ((x.at_:Int)+(k:Int)) (by omega)
  have hw3:=IntWalk.i64_in ((x.at_:Int)+(k:Int)+(q.size:Int)) (by omega)
  have hcv:True:=trivial
  have hsz:True:=trivial
  generalize hW:wr.drewN _=W at *
  have HK:Hid (Held w B b f s x W):=by rw [←hW];exact ⟨HC.out.i.held.lex.drewN _,grown_drewN HC.out.i.held.grown _⟩
  clear hW
  have HD:=held_drew HK
  obtain ⟨c0,c1,c9⟩:=HK.out.lex.at
  have hxa:x.at_≤20000:=by omega
  have hka:k≤20000:=by omega
  have HO:=Lib.hid (quo_fault HC.out.i HS.out)
  clear HC HL HR hcv hlk hsz
  go_region_held2 (fun W=>W.cell? ⟨b,9,none⟩=some (.int .i64 (x.at_:Int)))
   (first|exact (‹Hid False›).out.elim|assumption)
   (first|(go_at_call 108;refine (panicfAt_w HD.out.lex _ _ _ (by omega) (by omega) (by omega)).mono ?_;rintro e w' (⟨m,rfl,hm⟩|⟨hF,rfl⟩);exact (show QEnd w B b f s x q nm raw uni false o _ _ _ from qend_fault HO.out HD.out m hm)))
  all_goals exact (‹Hid False›).out.elim
 ·simp only [List.length_nil] at hv
  subst hv
  clear hrl hg
  unfold QRound QFr
  conv=>arg 2;whnf
  go_wp2_with (first
   | (go_at_call 78;refine (peekOk_z _ _ (by first|exact HL.out.at|exact (HL.out.drewN _).at) (by omega) (by omega) (by omega) (by omega) J0).mono ?_;rintro e w' ⟨rfl,n,rfl⟩)
   | (go_at_call 91;refine (slice_z _ _ vs (by first|exact HL.out.at|exact (HL.out.drewN _).at) (by omega) (by omega) (by omega) (by omega) (by omega) (by omega) hvs).mono ?_;rintro e w' ⟨rfl,n2,rfl⟩)
   | (go_at_call 75;refine (skipN_named (k+q.size) _ (HL.out.drewN _).at.pos ((HL.out.drewN _).free 9) (by omega) (by omega) (by first|rfl|omega)).mono ?_;rintro e w6 ⟨rfl,hw⟩;have HW:=Lib.hid hw;have hrow:=row_set (HR.out.drewN (n+n2)) HBW.out 9 (.int .i64 ((x.at_+(k+q.size):Nat):Int));rw [hw] at hrow;have hconv:=conv_row hrow;clear hrow hw))
  have hw2:=IntWalk.i64_in ((x.at_:Int)+(k:Int)) (by omega)
  have hw3:=IntWalk.i64_in ((x.at_:Int)+(k:Int)+(q.size:Int)) (by omega)
  have hcv:True:=trivial
  have hsz:True:=trivial
  generalize hW:wr.drewN _=W at *
  have HK:Hid (Held w B b f s x W):=by rw [←hW];exact ⟨HC.out.i.held.lex.drewN _,grown_drewN HC.out.i.held.grown _⟩
  clear hW
  have HD:=held_drew HK
  obtain ⟨c0,c1,c9⟩:=HK.out.lex.at
  have hxa:x.at_≤20000:=by omega
  have hka:k≤20000:=by omega
  have HO:=Lib.hid (quo_fault HC.out.i HS.out)
  clear HC HL HR hcv hlk hsz
  go_region_held2 (fun W=>W.cell? ⟨b,9,none⟩=some (.int .i64 (x.at_:Int)))
   (first|exact (‹Hid False›).out.elim|assumption)
   (first|(go_at_call 108;refine (panicfAt_w HD.out.lex _ _ _ (by omega) (by omega) (by omega)).mono ?_;rintro e w' (⟨m,rfl,hm⟩|⟨hF,rfl⟩);exact (show QEnd w B b f s x q nm raw uni false o _ _ _ from qend_fault HO.out HD.out m hm)))
  all_goals exact (‹Hid False›).out.elim
end
end Go.Proofs.YtaamolahbkgofaaGreatDoor.lex
