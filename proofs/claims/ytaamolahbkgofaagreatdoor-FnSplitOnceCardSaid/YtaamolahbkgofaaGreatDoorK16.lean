/-
  Contracts of strconv.ParseUint (its public form) at the bases 16 and 8 over short texts, and of utf8.EncodeRune. Rounds of consumeQuotedContent's loop: an escape of two hexadecimal digits. Rounds of consumeQuotedContent's loop: escapes of digits. Conditions: of each, in its statement.
-/
import Derived.Test.YtaamolahbkgofaaGreatDoorK04
import Derived.Lib.IfaceNeq
import Derived.Shelf.Spec.EncodeRune
import Derived.Test.YtaamolahbkgofaaGreatDoorK15
namespace Go.Proofs.YtaamolahbkgofaaGreatDoor.lex
open Go.RowKit mem lines
theorem bytesWorld_below (w:World) (t:ByteArray):Below w.heap.size w (Lib.bytesWorld w 5 t) :=
 ⟨rfl,rfl,rfl,by rw [Lib.bytesWorld_size];omega,fun i hi=>Lib.bytesWorld_at_old w 5 t i hi⟩
set_option maxHeartbeats 1000000 in
set_option maxRecDepth 100000 in
theorem pu_good_16_8 (t:ByteArray) (hne:t.size≠0) (hmax:t.size≤1000000) (hb:Hid (∀k,k≤t.size→(t.data.toList.take k).all (digB 16)=true→lx.digits 16 0 (t.data.toList.take k)≤255))
  (hg:Hid (t.data.toList.all (digB 16)=true)) (w:World) :
  Calls Tryz.prog 111 #[.string t,.int .i64 16,.int .i64 8] w fun e w'=>e=.returned (.tuple #[.int .u64 (lx.digits 16 0 t.data.toList:Int),.nilIface])∧Below w.heap.size w w':=by
 obtain ⟨n,hn⟩:∃n:Int,n=(lx.digits 16 0 t.data.toList:Int):=⟨_,rfl⟩
 rw [←hn]
 have HN:=Lib.hid hn
 clear hn
 go_enter Tryz.func111,Tryz.ntmps111
 go_wp2_with (go_at_call 123;refine (parseUint_16_8 t hne hmax hb _).mono ?_;rw [puOf,if_pos hg.out,←HN.out];rintro e w' ⟨rfl,rfl⟩)
 go_ret2
 exact ⟨rfl,bytesWorld_below w t⟩
set_option maxHeartbeats 1000000 in
set_option maxRecDepth 100000 in
theorem pu_bad_16_8 (t:ByteArray) (hne:t.size≠0) (hmax:t.size≤1000000) (hb:Hid (∀k,k≤t.size→(t.data.toList.take k).all (digB 16)=true→lx.digits 16 0 (t.data.toList.take k)≤255))
  (hg:Hid (t.data.toList.all (digB 16)=false)) (w:World) (hT:Hid (TabsAt w)) :
  Calls Tryz.prog 111 #[.string t,.int .i64 16,.int .i64 8] w fun e w'=>(∃m,e=.returned (.tuple #[.int .u64 0,.iface 199 (.pointer (some ⟨m,0,none⟩))]))∧Below w.heap.size w w':=by
 have hgn:¬(t.data.toList.all (digB 16)=true):=by rw [hg.out];exact Bool.false_ne_true
 have HGN:=Lib.hid hgn
 clear hgn
 have HB:=Lib.hid (bytesWorld_below w t)
 have HT:=Lib.hid (hT.out.below HB.out)
 go_enter Tryz.func111,Tryz.ntmps111
 go_wp2_with (first
  | (go_at_call 123;refine (parseUint_16_8 t hne hmax hb _).mono ?_;rw [puOf,if_neg HGN.out];rintro e w' ⟨rfl,rfl⟩)
  | (go_at_call 124;refine (Tryz.strconv_toError_syntax _ t _ _ _ _ (by omega) HT.out.syn.choose_spec.1 HT.out.syn.choose_spec.2).mono ?_;rintro e w' ⟨m,rfl,h1,h2,h3⟩;have H3:=Lib.hid h3;clear h1 h2 h3))
 go_ret2
 exact ⟨⟨m,rfl⟩,HB.out.trans (H3.out.mono HB.out.size)⟩
set_option maxHeartbeats 1000000 in
set_option maxRecDepth 100000 in
theorem pu_good_16_32 (t:ByteArray) (hne:t.size≠0) (hmax:t.size≤1000000) (hb:Hid (∀k,k≤t.size→(t.data.toList.take k).all (digB 16)=true→lx.digits 16 0 (t.data.toList.take k)≤4294967295))
  (hg:Hid (t.data.toList.all (digB 16)=true)) (w:World) :
  Calls Tryz.prog 111 #[.string t,.int .i64 16,.int .i64 32] w fun e w'=>e=.returned (.tuple #[.int .u64 (lx.digits 16 0 t.data.toList:Int),.nilIface])∧Below w.heap.size w w':=by
 obtain ⟨n,hn⟩:∃n:Int,n=(lx.digits 16 0 t.data.toList:Int):=⟨_,rfl⟩
 rw [←hn]
 have HN:=Lib.hid hn
 clear hn
 go_enter Tryz.func111,Tryz.ntmps111
 go_wp2_with (go_at_call 123;refine (parseUint_16_32 t hne hmax hb _).mono ?_;rw [puOf,if_pos hg.out,←HN.out];rintro e w' ⟨rfl,rfl⟩)
 go_ret2
 exact ⟨rfl,bytesWorld_below w t⟩
set_option maxHeartbeats 1000000 in
set_option maxRecDepth 100000 in
theorem pu_bad_16_32 (t:ByteArray) (hne:t.size≠0) (hmax:t.size≤1000000) (hb:Hid (∀k,k≤t.size→(t.data.toList.take k).all (digB 16)=true→lx.digits 16 0 (t.data.toList.take k)≤4294967295))
  (hg:Hid (t.data.toList.all (digB 16)=false)) (w:World) (hT:Hid (TabsAt w)) :
  Calls Tryz.prog 111 #[.string t,.int .i64 16,.int .i64 32] w fun e w'=>(∃m,e=.returned (.tuple #[.int .u64 0,.iface 199 (.pointer (some ⟨m,0,none⟩))]))∧Below w.heap.size w w':=by
 have hgn:¬(t.data.toList.all (digB 16)=true):=by rw [hg.out];exact Bool.false_ne_true
 have HGN:=Lib.hid hgn
 clear hgn
 have HB:=Lib.hid (bytesWorld_below w t)
 have HT:=Lib.hid (hT.out.below HB.out)
 go_enter Tryz.func111,Tryz.ntmps111
 go_wp2_with (first
  | (go_at_call 123;refine (parseUint_16_32 t hne hmax hb _).mono ?_;rw [puOf,if_neg HGN.out];rintro e w' ⟨rfl,rfl⟩)
  | (go_at_call 124;refine (Tryz.strconv_toError_syntax _ t _ _ _ _ (by omega) HT.out.syn.choose_spec.1 HT.out.syn.choose_spec.2).mono ?_;rintro e w' ⟨m,rfl,h1,h2,h3⟩;have H3:=Lib.hid h3;clear h1 h2 h3))
 go_ret2
 exact ⟨⟨m,rfl⟩,HB.out.trans (H3.out.mono HB.out.size)⟩
set_option maxHeartbeats 1000000 in
set_option maxRecDepth 100000 in
theorem pu_good_8_8 (t:ByteArray) (hne:t.size≠0) (hmax:t.size≤1000000) (hb:Hid (∀k,k≤t.size→(t.data.toList.take k).all (digB 8)=true→lx.digits 8 0 (t.data.toList.take k)≤255))
  (hg:Hid (t.data.toList.all (digB 8)=true)) (w:World) :
  Calls Tryz.prog 111 #[.string t,.int .i64 8,.int .i64 8] w fun e w'=>e=.returned (.tuple #[.int .u64 (lx.digits 8 0 t.data.toList:Int),.nilIface])∧Below w.heap.size w w':=by
 obtain ⟨n,hn⟩:∃n:Int,n=(lx.digits 8 0 t.data.toList:Int):=⟨_,rfl⟩
 rw [←hn]
 have HN:=Lib.hid hn
 clear hn
 go_enter Tryz.func111,Tryz.ntmps111
 go_wp2_with (go_at_call 123;refine (parseUint_8_8 t hne hmax hb _).mono ?_;rw [puOf,if_pos hg.out,←HN.out];rintro e w' ⟨rfl,rfl⟩)
 go_ret2
 exact ⟨rfl,bytesWorld_below w t⟩
set_option maxHeartbeats 1000000 in
set_option maxRecDepth 100000 in
theorem pu_bad_8_8 (t:ByteArray) (hne:t.size≠0) (hmax:t.size≤1000000) (hb:Hid (∀k,k≤t.size→(t.data.toList.take k).all (digB 8)=true→lx.digits 8 0 (t.data.toList.take k)≤255))
  (hg:Hid (t.data.toList.all (digB 8)=false)) (w:World) (hT:Hid (TabsAt w)) :
  Calls Tryz.prog 111 #[.string t,.int .i64 8,.int .i64 8] w fun e w'=>(∃m,e=.returned (.tuple #[.int .u64 0,.iface 199 (.pointer (some ⟨m,0,none⟩))]))∧Below w.heap.size w w':=by
 have hgn:¬(t.data.toList.all (digB 8)=true):=by rw [hg.out];exact Bool.false_ne_true
 have HGN:=Lib.hid hgn
 clear hgn
 have HB:=Lib.hid (bytesWorld_below w t)
 have HT:=Lib.hid (hT.out.below HB.out)
 go_enter Tryz.func111,Tryz.ntmps111
 go_wp2_with (first
  | (go_at_call 123;refine (parseUint_8_8 t hne hmax hb _).mono ?_;rw [puOf,if_neg HGN.out];rintro e w' ⟨rfl,rfl⟩)
  | (go_at_call 124;refine (Tryz.strconv_toError_syntax _ t _ _ _ _ (by omega) HT.out.syn.choose_spec.1 HT.out.syn.choose_spec.2).mono ?_;rintro e w' ⟨m,rfl,h1,h2,h3⟩;have H3:=Lib.hid h3;clear h1 h2 h3))
 go_ret2
 exact ⟨⟨m,rfl⟩,HB.out.trans (H3.out.mono HB.out.size)⟩
def encRen:Go.Shelf.Ren:=⟨fun|30=>112|47=>125|n=>n,fun|25=>119|27=>155|30=>37|n=>n,fun n=>n⟩
theorem encLays:Go.Proofs.Lays7.n30 Tryz.prog encRen:={
 mixed:=by kernel_rfl
 f30:=Tryz.func112.trans (congrArg some (by kernel_rfl))
 f47:=Tryz.func125.trans (congrArg some (by kernel_rfl))
 t0:=Tryz.underlying0
 a0:=Tryz.isAgg0
 z0:=Tryz.sizeOf0
 v0:=Tryz.zeroValue0
 i0:=by kernel_rfl
 t3:=Tryz.underlying3
 a3:=Tryz.isAgg3
 z3:=Tryz.sizeOf3
 v3:=Tryz.zeroValue3
 i3:=by kernel_rfl
 t4:=Tryz.underlying4
 a4:=Tryz.isAgg4
 z4:=Tryz.sizeOf4
 v4:=Tryz.zeroValue4
 i4:=by kernel_rfl
 t5:=Tryz.underlying5
 a5:=Tryz.isAgg5
 z5:=Tryz.sizeOf5
 v5:=Tryz.zeroValue5
 i5:=by kernel_rfl
 t21:=Tryz.underlying21
 a21:=Tryz.isAgg21
 z21:=Tryz.sizeOf21
 v21:=Tryz.zeroValue21
 i21:=by kernel_rfl
 t25:=Tryz.underlying119
 a25:=Tryz.isAgg119
 z25:=Tryz.sizeOf119
 v25:=Tryz.zeroValue119
 i25:=by kernel_rfl
 t27:=Tryz.underlying155
 a27:=Tryz.isAgg155
 z27:=Tryz.sizeOf155
 v27:=Tryz.zeroValue155
 i27:=by kernel_rfl
 t30:=Tryz.underlying37
 a30:=Tryz.isAgg37
 z30:=Tryz.sizeOf37
 v30:=Tryz.zeroValue37
 i30:=by kernel_rfl }
theorem encodeRune_any (b off len cap:Nat) (r:Int) (hlo : -2147483648≤r) (hhi:r≤2147483647) (w:World) (hl:(Lib.runeCells r).length≤len)
  (hc:∀j,j<(Lib.runeCells r).length→(w.cell? ⟨b,off+j,none⟩).isSome=true) (hf:∀j,j<(Lib.runeCells r).length→w.frozen? ⟨b,off+j,none⟩=false) :
  Calls Tryz.prog 112 #[.slice (some ⟨b,off,none⟩) len cap,.int .i32 r] w fun e w'=>e=.returned (.int .i64 (Lib.runeCells r).length)∧w'=w.setCells b off (Lib.runeCells r) :=
 Any7.utf8_EncodeRune encLays b off len cap r hlo hhi w hl hc hf
end Go.Proofs.YtaamolahbkgofaaGreatDoor.lex
set_option linter.unusedVariables false
namespace Go.Proofs.YtaamolahbkgofaaGreatDoor.lex
open Go.RowKit mem lines
theorem hexVal_lt (base:Nat) (c:UInt8) (hb:base=16∨base=8) (h:digB base c=true):lx.hexVal c<base:=by
 rcases hb with rfl|rfl
 ·simp [digB,lx.hex] at h
  unfold lx.hexVal
  split <;> (try split) <;> omega
 ·simp [digB,lx.oct] at h
  unfold lx.hexVal
  split <;> (try split) <;> omega
theorem digits_lt (base:Nat) (hb:base=16∨base=8):∀(l:lx.Bs) (v m:Nat),l.all (digB base)=true→v<m→lx.digits base v l<m*base ^ l.length
 | [],v,m,_,hv=>by simpa [lx.digits] using hv
 | c::l,v,m,h,hv=>by
  simp only [List.all_cons,Bool.and_eq_true] at h
  have h1:=hexVal_lt base c hb h.1
  have h2:v*base+lx.hexVal c<m*base:=by
   calc v*base+lx.hexVal c<v*base+base:=by omega
    _=(v+1)*base:=by rw [Nat.add_mul,Nat.one_mul]
    _≤m*base:=Nat.mul_le_mul_right base hv
  have h3:=digits_lt base hb l (v*base+lx.hexVal c) (m*base) h.2 h2
  show lx.digits base (v*base+lx.hexVal c) l<_
  rw [List.length_cons,Nat.pow_succ,Nat.mul_comm (base ^ l.length) base,←Nat.mul_assoc]
  exact h3
theorem byteOf_int (n:Nat) (h:n≤255):((lx.byteOf n).toNat:Int)=(n:Int):=by
 unfold lx.byteOf
 simp
 omega
theorem below_app5 {base:Nat} {wr w5 w2:World} (n:Nat) (ob:Obj) (hb:base≤wr.heap.size) (h5:Below (wr.drewN n).heap.size (wr.drewN n) w5) (h:Below base (w5.alloc ob) w2):Below base wr w2 :=
 ((below_drewN (Below.refl base wr) n).trans (h5.mono hb)).trans (((below_alloc w5 ob).mono (Nat.le_trans hb h5.size)).trans h)
/-- The bytes of a slice of the text. -/
theorem cut_list {s vs:ByteArray} {p a e:Nat} {za ze:Int} (ha:za=a) (he:ze=e) (hae:a≤e) (hp:p+a≤s.size) (h:Hid (s.extract (p+za.toNat) (min (p+ze.toNat) s.size)=vs)):vs.data.toList=(rest s (p+a)).take (e-a)∧vs.size≤e-a:=by
 subst ha he
 have e1:=slice_list s (p+a) (e-a) hp
 rw [Nat.add_zero,ByteArray.toList_eq] at e1
 have h':=h.out
 rw [show p+((a:Int)).toNat=p+a from rfl,show p+((e:Int)).toNat=p+a+(e-a) by omega] at h'
 rw [h'] at e1
 refine ⟨e1, ?_⟩
 have:=congrArg List.length e1
 rw [size_list,List.length_take] at this
 omega
section
variable {w wr:World} {B b f:Nat} {s q nm:ByteArray} {x:St} {Q:lx.Bs} {raw uni idn np:Bool} {o:lx.QOut} {k:Nat} {v:Value} {l:lx.Bs} {err:Bool} {u:Nat→Value}
set_option maxHeartbeats 4000000 in
set_option maxRecDepth 1000000 in
theorem quo_x120_g (HC:Hid (QC w B b f s x Q q false uni idn np o k v l err wr)) (SZ:s.size≤20000) (hq3:q.size≤3) (hin2:x.at_+(k+1)<s.size)
  (hm:Hid (¬(rest s (x.at_+k)).take q.size=Q)) (hc:(s[x.at_+k].toNat:Int)=92) (hd:s[x.at_+(k+1)]=120)
  (hg:Hid (2≤(rest s (x.at_+(k+2))).length∧((rest s (x.at_+(k+2))).take 2).all lx.hex=true)) :
  QRound w B b f s x Q q nm false uni idn np o (QFr u b q false uni nm np (k:Int) v err) wr:=by
 have hin:x.at_+k<s.size:=by omega
 have HL:=Lib.hid HC.out.i.held.lex
 have J0:Hid (inB s (x.at_+(k:Int).toNat)=true):=by show _=_;simp [inB,hin]
 have J1:Hid (bt s (x.at_+(k:Int).toNat)=(s[x.at_+k].toNat:Int)):=by show bt s (x.at_+k)=_;exact bt_in hin
 obtain ⟨vs,hvs⟩:∃vs,Hid (s.extract (x.at_+(k:Int).toNat) (min (x.at_+((k:Int)+(q.size:Int)).toNat) s.size)=vs):=⟨_,rfl⟩
 have pin:x.at_+(k:Int).toNat<s.size:=by simpa using hin
 have hrc:=rest_cons s (x.at_+k) hin
 have hll:=look_list hin hvs
 have hcv:(vs.toList==q.toList)=false:=by
  rw [hll,HC.out.q]
  exact beq_eq_false_iff_ne.2 hm.out
 have hqs:q.size=Q.length:=by rw [←HC.out.q,toList_length]
 have hm':=hm.out
 rw [hqs,hrc] at hm'
 have HM:=Lib.hid hm'
 have HM0:Hid (¬(rest s (x.at_+k)).take Q.length=Q):=by rw [←hqs];exact hm.out
 have HQS:=Lib.hid hqs
 have HRC:=Lib.hid hrc
 have HR:=Lib.hid HC.out.i.row
 have hsz:=HC.out.i.held.grown.size
 have hlk:=HC.out.i.len
 clear hll hrc hm hm' hqs
 have J2:Hid (inB s (x.at_+((k:Int)+1).toNat)=true):=by
  show _=_
  have e:((k:Int)+1).toNat=k+1:=by omega
  rw [e];simp [inB];omega
 have J3:Hid (bt s (x.at_+((k:Int)+1).toNat)=(s[x.at_+(k+1)].toNat:Int)):=by
  have e:((k:Int)+1).toNat=k+1:=by omega
  show _=_
  rw [e];exact bt_in hin2
 have pin2:x.at_+((k:Int)+1).toNat<s.size:=by omega
 have hrc2:=rest_cons s (x.at_+(k+1)) hin2
 have hHRC:=HRC.out
 rw [show x.at_+k+1=x.at_+(k+1) from by omega,hrc2] at hHRC
 have HRC2:=Lib.hid hHRC
 clear hHRC hrc2 HRC
 rw [hd] at J3 HRC2
 have hcut:x.at_+(k+1)+1=x.at_+(k+2):=by omega
 rw [hcut] at HRC2
 clear hcut
 obtain ⟨vp,hvp⟩:∃vp,Hid (s.extract (x.at_+((k:Int)+2).toNat) (min (x.at_+((k:Int)+2+2).toNat) s.size)=vp):=⟨_,rfl⟩
 have hcl:=cut_list (a:=k+2) (e:=k+4) (by omega) (by omega) (by omega) (by omega) hvp
 have hvz:vp.size≤2:=by have:=hcl.2;omega
 have HVL:=Lib.hid (show vp.data.toList=(rest s (x.at_+(k+2))).take 2 by have:=hcl.1;rw [show k+4-(k+2)=2 by omega] at this;exact this)
 have HVB:Hid (∀j,j≤vp.size→(vp.data.toList.take j).all (digB 16)=true→lx.digits 16 0 (vp.data.toList.take j)≤255):=by
  intro j hj ha
  have h1:=digits_lt 16 (.inl rfl) _ 0 1 ha (by omega)
  have h2:(vp.data.toList.take j).length≤2:=by rw [List.length_take];omega
  have h3:(16:Nat) ^ (vp.data.toList.take j).length≤16 ^ 2:=Nat.pow_le_pow_right (by omega) h2
  omega
 clear hcl
 have hl2:x.at_+(k+4)≤s.size:=by have:=hg.out.1;rw [rest_length] at this;omega
 have HS:Hid (lx.qStep Q false uni idn np k (rest s (x.at_+k)) l err=.more 4 (l++[lx.byteOf (lx.digits 16 0 ((rest s (x.at_+(k+2))).take 2))]) err):=by
  show _=_
  rw [HRC2.out]
  unfold lx.qStep
  simp only
  rw [if_neg (by rw [←HRC2.out];exact HM0.out),if_pos (by omega)]
  show lx.escape np 2 lx.hex (rest s (x.at_+(k+2))) l _=_
  unfold lx.escape
  rw [if_pos hg.out]
 have HG1:Hid (vp.data.toList.all (digB 16)=true):=by show _=_;rw [HVL.out];exact hg.out.2
 have hvn:vp.size≠0:=by
  have:=congrArg List.length HVL.out
  rw [size_list,List.length_take] at this
  have:=hg.out.1
  omega
 have hn255:lx.digits 16 0 vp.data.toList≤255:=by
  have h:=HVB.out vp.size (Nat.le_refl _)
  rw [List.take_of_length_le (by rw [size_list];omega)] at h
  exact h HG1.out
 rw [←HVL.out] at HS
 clear HM HM0 HRC2
 rw [hc] at J1
 obtain ⟨nv,hnv⟩:∃nv,Hid (lx.digits 16 0 vp.data.toList=nv):=⟨_,rfl⟩
 rw [hnv.out] at HS hn255
 have HNV:=hnv
 have HCB:=byteOf_int nv hn255
 have hcz:=HCB
 unfold QRound QFr
 conv=>arg 2;whnf
 go_wp2_with (first
  | (go_at_call 78;refine (peekOk_z _ _ (by first|exact HL.out.at|exact (HL.out.drewN _).at) (by omega) (by omega) (by omega) (by omega) (by first|exact J0|exact J2)).mono ?_;rintro e w' ⟨rfl,n,rfl⟩)
  | (go_at_call 91;refine (slice_z _ _ vs (by first|exact HL.out.at|exact (HL.out.drewN _).at) (by omega) (by omega) (by omega) (by omega) (by omega) (by omega) hvs).mono ?_;rintro e w' ⟨rfl,n2,rfl⟩)
  | (go_at_call 80;refine (peek_z _ _ (by first|exact HL.out.at|exact (HL.out.drewN _).at) (by omega) (by first|exact pin|exact pin2) (by omega) (by first|exact J1|exact J3)).mono ?_;rintro e w' ⟨rfl,n3,rfl⟩))
 go_loopw [16,184] (fun ev jv wq=>∃j:Nat,jv=.int .i64 (j:Int)∧ev=.bool err∧j≤2∧∃m,wq=wr.drewN m) (fun _ jv _=>2-(intOf jv).toNat)
 case atStart=>exact ⟨0,rfl,rfl,by omega,_,rfl⟩
 case round =>
  obtain ⟨j,rfl,rfl,hj,m,rfl⟩:=hrel
  by_cases hj2:j<2
  ·have hbin:x.at_+(k+2+j)<s.size:=by omega
   have JH:Hid (lx.hex s[x.at_+(k+2+j)]=true):=by
    have ha:=hg.out.2
    rw [List.all_eq_true] at ha
    refine ha _ ?_
    have hr:=rest_get s (x.at_+(k+2)) j (by omega)
    have h1:((rest s (x.at_+(k+2))).take 2)[j]?=some s[x.at_+(k+2)+j]:=by rw [List.getElem?_take,if_pos hj2];exact hr
    have e:x.at_+(k+2)+j=x.at_+(k+2+j):=by omega
    simp only [e] at h1
    exact List.mem_of_getElem? h1
   have JA:Hid (inB s (x.at_+((k:Int)+2+(j:Int)).toNat)=true):=by
    show _=_
    have e:((k:Int)+2+(j:Int)).toNat=k+2+j:=by omega
    rw [e];simp [inB];omega
   have JB:Hid (bt s (x.at_+((k:Int)+2+(j:Int)).toNat)=(s[x.at_+(k+2+j)].toNat:Int)):=by
    have e:((k:Int)+2+(j:Int)).toNat=k+2+j:=by omega
    show _=_
    rw [e];exact bt_in hbin
   have pinj:x.at_+((k:Int)+2+(j:Int)).toNat<s.size:=by omega
   generalize s[x.at_+(k+2+j)]=c at *
   go_wp2_with (first
    | (go_at_call 78;refine (peekOk_z _ _ (HL.out.drewN _).at (by omega) (by omega) (by omega) (by omega) JA).mono ?_;rintro e w' ⟨rfl,n4,rfl⟩)
    | (go_at_call 80;refine (peek_z _ _ (HL.out.drewN _).at (by omega) pinj (by omega) JB).mono ?_;rintro e w' ⟨rfl,n5,rfl⟩)
    | (go_at_call 109;refine (hex_named c _ _ JH).mono ?_;rintro e w' ⟨rfl,rfl⟩))
   go_round
   case rel=>exact ⟨j+1,by go_num,rfl,by omega,_,rfl⟩
   case measure=>simp [intOf];omega
  ·have hj3:j=2:=by omega
   subst hj3
   go_wp2_with (first
    | (go_at_call 91;refine (slice_z _ _ vp (HL.out.drewN _).at (by omega) (by omega) (by omega) (by omega) (by omega) (by omega) hvp).mono ?_;rintro e w' ⟨rfl,n4,rfl⟩)
    | (go_at_call 111;refine (pu_good_16_8 vp hvn (by omega) HVB HG1 _).mono ?_;rw [HNV.out];rintro e w5 ⟨rfl,hb5⟩;have HB5:=Lib.hid hb5;clear hb5)
    | (at_builtin;refine wpList_append_row _ rfl _ _ rfl w.heap.size l.length l v rfl (((HR.out.drewN _).below HB5.out).below (below_alloc _ _)) (Nat.le_trans hsz (Nat.le_trans HB5.out.size (below_alloc w5 _).size)) _ 1 1 [lx.byteOf nv] rfl rfl (by decide) (new_cell _ _ _ hcz) (by omega) ?_;intro v' w2 r1 n1 b1;have R1:=Lib.hid (And.intro r1 (And.intro n1 b1));clear r1 n1 b1))
   refine ⟨⟨k+4,v',l++[lx.byteOf nv],err,⟨rfl,rfl,rfl,rfl,rfl,rfl,rfl,rfl,rfl,rfl,rfl,rfl,rfl⟩,qi_add HC.out HS.out (by omega) (by omega) (by simp) R1.out.1 (below_app5 _ _ hsz HB5.out R1.out.2.2)⟩, ?_⟩
   exact qmu_lt (k:=k) (j:=k+4) rfl rfl (by omega) (by omega)
end
end Go.Proofs.YtaamolahbkgofaaGreatDoor.lex
set_option linter.unusedVariables false
namespace Go.Proofs.YtaamolahbkgofaaGreatDoor.lex
open Go.RowKit mem lines
theorem escape_g {np:Bool} {size:Nat} {good:UInt8→Bool} {r l:lx.Bs} {hit:lx.Step} (h:size≤r.length∧(r.take size).all good=true):lx.escape np size good r l hit=hit:=by
 unfold lx.escape
 rw [if_pos h]
theorem escape_not {size:Nat} {good:UInt8→Bool} {r:lx.Bs} (h:(r.take size).all good=false):¬(size≤r.length∧(r.take size).all good=true)∧¬(r.length<size∧r.all good=true):=by
 refine ⟨fun k=>?_,fun k=>?_⟩
 ·rw [k.2] at h;cases h
 ·rw [List.take_of_length_le (by omega),k.2] at h;cases h
theorem escape_np {size:Nat} {good:UInt8→Bool} {r l:lx.Bs} {hit:lx.Step} (h:(r.take size).all good=false):lx.escape true size good r l hit=.more 2 l true:=by
 unfold lx.escape
 rw [if_neg (escape_not h).1,if_pos rfl,if_neg (escape_not h).2]
theorem escape_p {size:Nat} {good:UInt8→Bool} {r l:lx.Bs} {hit:lx.Step} (h:(r.take size).all good=false):lx.escape false size good r l hit=.stop .fault:=by
 unfold lx.escape
 rw [if_neg (escape_not h).1,if_neg Bool.false_ne_true,if_neg (escape_not h).2]
theorem oct_named (c:UInt8) (v:Bool) (w:World) (h:Hid (lx.oct c=v)):Calls Tryz.prog 113 #[.int .u8 (c.toNat:Int)] w fun e w'=>e=.returned (.bool v)∧w=w':=by
 refine (isOct_any _ w).mono fun e w' ⟨he,hw⟩=>⟨?_,hw⟩
 rw [he,←h.out]
 refine ret_bool ?_
 rw [Bool.eq_iff_iff]
 simp [lx.oct]
 omega
/-- One byte further. -/
theorem all_next {s:ByteArray} {p j:Nat} {good:UInt8→Bool} (h:p+j<s.size):((rest s p).take (j+1)).all good=(((rest s p).take j).all good&&good s[p+j]):=by
 have hl:j<(rest s p).length:=by rw [rest_length];omega
 have hr:=rest_get s p j h
 rw [List.getElem?_eq_getElem hl] at hr
 have e:(rest s p)[j]=s[p+j]:=Option.some.inj hr
 rw [List.take_succ_eq_append_getElem hl,List.all_append,e]
 simp
theorem all_some {s:ByteArray} {p j m:Nat} {good:UInt8→Bool} (h:p+j<s.size) (hj:j<m) (ha:((rest s p).take m).all good=true):good s[p+j]=true:=by
 rw [List.all_eq_true] at ha
 have hr:=rest_get s p j h
 have h1:((rest s p).take m)[j]?=some s[p+j]:=by rw [List.getElem?_take,if_pos hj];exact hr
 exact ha _ (List.mem_of_getElem? h1)
theorem all_end {s:ByteArray} {p j m:Nat} {good:UInt8→Bool} (h:¬p+j<s.size) (hj:j≤m):((rest s p).take j).all good=((rest s p).take m).all good:=by
 rw [List.take_of_length_le (by rw [rest_length];omega),List.take_of_length_le (by rw [rest_length];omega)]
section
variable {w wr:World} {B b f:Nat} {s q nm:ByteArray} {x:St} {Q:lx.Bs} {raw uni idn np:Bool} {o:lx.QOut} {k:Nat} {v:Value} {l:lx.Bs} {err:Bool} {u:Nat→Value}
end
end Go.Proofs.YtaamolahbkgofaaGreatDoor.lex
