/-
  consumeToken's loop: the letters ahead of a string. Conditions: in its statement.
-/
import Derived.Test.YtaamolahbkgofaaGreatDoorK27
set_option linter.unusedVariables false
namespace Go.Proofs.YtaamolahbkgofaaGreatDoor.lex
open Go.RowKit mem lines plain
def shiftP (k:Nat) (x:Bool × Bool × Nat):Bool × Bool × Nat:=(x.1,x.2.1,x.2.2+k)
theorem prefx_cons (n:Nat) (by_ ra:Bool) (c:UInt8) (r:lx.Bs):lx.prefx (n+1) by_ ra (c::r)=if by_=false∧(c.toNat=66∨c.toNat=98) then (lx.prefx n true ra r).map fun x=>(x.1,x.2.1,x.2.2+1)
  else if ra=false∧(c.toNat=82∨c.toNat=114) then (lx.prefx n by_ true r).map fun x=>(x.1,x.2.1,x.2.2+1)
  else if c.toNat=34∨c.toNat=39 then some (by_,ra,0)
  else none:=rfl
theorem prefx_by {n:Nat} {ra:Bool} {c:UInt8} {r:lx.Bs} (h:c.toNat=66∨c.toNat=98):lx.prefx (n+1) false ra (c::r)=(lx.prefx n true ra r).map (shiftP 1):=by
 rw [prefx_cons,if_pos ⟨rfl,h⟩]
 rfl
theorem prefx_ra {n:Nat} {by_:Bool} {c:UInt8} {r:lx.Bs} (h:c.toNat=82∨c.toNat=114):lx.prefx (n+1) by_ false (c::r)=(lx.prefx n by_ true r).map (shiftP 1):=by
 rw [prefx_cons,if_neg (by omega),if_pos ⟨rfl,h⟩]
 rfl
theorem prefx_q {n:Nat} {by_ ra:Bool} {c:UInt8} {r:lx.Bs} (h:c.toNat=34∨c.toNat=39):lx.prefx (n+1) by_ ra (c::r)=some (by_,ra,0):=by
 rw [prefx_cons,if_neg (by omega),if_neg (by omega),if_pos h]
theorem prefx_no {n:Nat} {by_ ra:Bool} {c:UInt8} {r:lx.Bs} (h1:¬(by_=false∧(c.toNat=66∨c.toNat=98))) (h2:¬(ra=false∧(c.toNat=82∨c.toNat=114))) (h3:¬(c.toNat=34∨c.toNat=39)):lx.prefx (n+1) by_ ra (c::r)=none:=by
 rw [prefx_cons,if_neg h1,if_neg h2,if_neg h3]
theorem map_shift (o:Option (Bool × Bool × Nat)) (k:Nat):(o.map (shiftP 1)).map (shiftP k)=o.map (shiftP (k+1)):=by
 cases o with
 | none=>rfl
 | some x=>simp [shiftP];omega
theorem StrPost.tok {B b f k:Nat} {s:ByteArray} {x:St} {K:lx.Bs} {o:lx.QOut} {w W w':World} {e:Ending} (h:StrPost K B b f s { x with at_:=x.at_+k } o W e w') (hg:w.grownBy W (some b)) (hx:x.str=⟨#[]⟩) (hb:x.base=0):TokPost B b f s x (lx.ofQ K k o) w e w':=by
 cases o with
 | ok len content =>
  refine ⟨h.1, ?_,grown_trans hg h.2.2⟩
  have:=lex_base h.2.1 hb
  rw [show x.at_+(k+len)=x.at_+k+len from by omega]
  exact this
 | bad len =>
  exact ⟨{ x with kind:=⟨lx.kBad.toArray⟩,at_:=x.at_+k+len,str:=⟨#[]⟩ },⟨rfl,by show x.at_+k+len=x.at_+(k+len);omega,rfl,rfl,rfl,rfl,rfl,rfl,rfl⟩,h.1,h.2.1,grown_trans hg h.2.2⟩
 | fault=>exact Faults.trans (Grown2.of hg) h
 | crash=>trivial
theorem StrPost.go {B b f:Nat} {s:ByteArray} {x:St} {K:lx.Bs} {o:lx.QOut} {w w':World} {e:Ending} (h:StrPost K B b f s x o w e w') (h1:o≠.crash):(e=.returned (.tuple #[])∨∃c,e=.panicked c):=by
 cases o with
 | ok len content=>exact .inl h.1
 | bad len=>exact .inl h.1
 | fault =>
  obtain ⟨m,he,_⟩:=h
  exact .inr ⟨_,he⟩
 | crash=>exact absurd rfl h1
theorem StrPost.ret {B b f:Nat} {s:ByteArray} {x:St} {K:lx.Bs} {o:lx.QOut} {w w':World} {e:Ending} (h:StrPost K B b f s x o w e w') (h1:o≠.crash) (h2:o≠.fault):e=.returned (.tuple #[]):=by
 cases o with
 | ok len content=>exact h.1
 | bad len=>exact h.1
 | fault=>exact absurd rfl h2
 | crash=>exact absurd rfl h1
/-- What a round of the loop is given. -/
structure PI (w:World) (B b f:Nat) (s:ByteArray) (x:St) (np by_ ra:Bool) (k:Nat) (o:lx.Out):Prop where
 lex:LexS w B b f s x
 k3:k≤3
 le:x.at_+k≤s.size
 pre:lx.prefx 3 false false (rest s x.at_)=(lx.prefx (3-k) by_ ra (rest s (x.at_+k))).map (shiftP k)
 str:x.str=⟨#[]⟩
 base:x.base=0
 safe:o≠.crash
 out:∀by' ra' i,lx.prefx 3 false false (rest s x.at_)=some (by',ra',i)→o=lx.strTok by' ra' np i (rest s x.at_)
/-- How the loop ends. -/
def PEnd (w:World) (B b f:Nat) (s:ByteArray) (x:St) (np:Bool) (o:lx.Out):Exit→Act→World→Prop
 | .exit id,a,W=>id=9∧WAt a b np∧(∃m,W=w.drewN m)∧lx.prefx 3 false false (rest s x.at_)=none
 | .ret,a,W=>bodyPost Tryz.prog Tryz.f57 (TokPost B b f s x o w) .ret a W
 | .panic c,a,W=>bodyPost Tryz.prog Tryz.f57 (TokPost B b f s x o w) (.panic c) a W
 | _,_,_=>False
def PR (w:World) (B b f:Nat) (s:ByteArray) (x:St) (np:Bool) (o:lx.Out) (a:Act) (W:World):Prop:=∃by_ ra k i,i=((k:Nat):Int)∧PAt a b np by_ ra i∧(∃m,W=w.drewN m)∧Hid (PI w B b f s x np by_ ra k o)
def PMu (s:ByteArray) (a:Act) (_:World):Nat:=3-(intOf ((a.tmps[9]?).getD .nilIface)).toNat
/-- A round. -/
def PRound (w:World) (B b f:Nat) (s:ByteArray) (x:St) (np:Bool) (o:lx.Out) (a:Act) (W:World):Prop :=
 Code.wp Tryz.prog pBody (Exit.then (fun a' W'=>PR w B b f s x np o a' W'∧PMu s a' W'<PMu s a W) (PEnd w B b f s x np o)) a W
section
variable {w:World} {B b f:Nat} {s:ByteArray} {x:St} {np by_ ra:Bool} {k:Nat} {o:lx.Out} {u:Nat→Value}
set_option maxHeartbeats 1000000 in
set_option maxRecDepth 100000 in
theorem p_three (m:Nat) (HP:Hid (PI w B b f s x np by_ ra 3 o)):PRound w B b f s x np o (PFr u b np by_ ra ((3:Nat):Int)) (w.drewN m):=by
 have HL:=Lib.hid HP.out.lex
 have SZ:=HP.out.lex.sz
 have hle:=HP.out.lex.le
 have hk3:=HP.out.k3
 have hkl:=HP.out.le
 unfold PRound PFr
 conv=>arg 2;whnf
 go_wp2_with fail
 refine ⟨rfl,⟨rfl,rfl,rfl,rfl⟩,⟨_,rfl⟩, ?_⟩
 rw [HP.out.pre]
 rfl
set_option maxHeartbeats 1000000 in
set_option maxRecDepth 100000 in
theorem p_end (m:Nat) (hk:k<3) (hend:¬x.at_+k<s.size) (HP:Hid (PI w B b f s x np by_ ra k o)):PRound w B b f s x np o (PFr u b np by_ ra (k:Int)) (w.drewN m):=by
 have JA:Hid (inB s (x.at_+(k:Int).toNat)=false):=by show _=_;simp [inB];omega
 have HL:=Lib.hid HP.out.lex
 have SZ:=HP.out.lex.sz
 have hle:=HP.out.lex.le
 have hk3:=HP.out.k3
 have hkl:=HP.out.le
 unfold PRound PFr
 conv=>arg 2;whnf
 have kz:(k:Int)<3:=by omega
 go_wp2_with (first
  | (go_at_call 78;refine (peekOk_t _ _ (HL.out.drewN _).at (by omega) (by omega) (by omega) (by omega) JA).mono ?_;rintro e w' ⟨rfl,n,rfl⟩))
 refine ⟨rfl,⟨rfl,rfl,rfl,rfl⟩,⟨_,rfl⟩, ?_⟩
 rw [HP.out.pre,rest_nil s _ hend]
 obtain ⟨n,hn⟩:∃n,3-k=n+1:=⟨2-k,by omega⟩
 rw [hn]
 rfl
theorem rest_pre (h:x.at_+k<s.size):rest s (x.at_+k)=s[x.at_+k]::rest s (x.at_+(k+1)):=rest_cons s _ h
theorem PI.byt {ra:Bool} (h:PI w B b f s x np false ra k o) (hk:k<3) (hin:x.at_+k<s.size) (hv:s[x.at_+k].toNat=66∨s[x.at_+k].toNat=98):PI w B b f s x np true ra (k+1) o:=by
 refine ⟨h.lex,by omega,by omega, ?_,h.str,h.base,h.safe,h.out⟩
 rw [h.pre,rest_pre hin,show 3-k=(3-(k+1))+1 from by omega,prefx_by hv,map_shift]
theorem PI.raw {by_:Bool} (h:PI w B b f s x np by_ false k o) (hk:k<3) (hin:x.at_+k<s.size) (hv:s[x.at_+k].toNat=82∨s[x.at_+k].toNat=114):PI w B b f s x np by_ true (k+1) o:=by
 refine ⟨h.lex,by omega,by omega, ?_,h.str,h.base,h.safe,h.out⟩
 rw [h.pre,rest_pre hin,show 3-k=(3-(k+1))+1 from by omega,prefx_ra hv,map_shift]
theorem PI.q {by_:Bool} (h:PI w B b f s x np by_ ra k o) (hk:k<3) (hin:x.at_+k<s.size) (hv:s[x.at_+k].toNat=34∨s[x.at_+k].toNat=39):o=lx.ofQ (if by_ then lx.kBytes else lx.kString) k (lx.quoted (lx.delim (rest s (x.at_+k))) ra (!by_) false np (rest s (x.at_+k))):=by
 have e:lx.prefx 3 false false (rest s x.at_)=some (by_,ra,k):=by
  rw [h.pre,rest_pre hin,show 3-k=(3-(k+1))+1 from by omega,prefx_q hv]
  simp [shiftP]
 rw [h.out _ _ _ e]
 unfold lx.strTok
 rw [rest_drop]
theorem pmu_lt {a a':Act} {W W':World} {i i':Int} (h:a.tmps[9]?=some (.int .i64 i)) (h':a'.tmps[9]?=some (.int .i64 i')) (hi:i=(k:Int)) (hi':i'=((k+1:Nat):Int)) (hk:k<3):PMu s a' W'<PMu s a W:=by
 unfold PMu
 rw [h,h',hi,hi']
 simp [intOf]
 omega
theorem isB_val {V c:Nat} {v:Bool} (hin:x.at_+k<s.size) (hV:s[x.at_+k].toNat=V) (hv:decide (V=c)=v):Hid (isB s (x.at_+(k:Int).toNat) (c:Int)=v):=by
 show isB s (x.at_+k) (c:Int)=v
 rw [isB_in hin,bt_in hin,hV,←hv,Bool.eq_iff_iff]
 simp
 omega
set_option maxHeartbeats 1000000 in
set_option maxRecDepth 100000 in
theorem p_by66 (m:Nat) (hk:k<3) (hin:x.at_+k<s.size) (hv:s[x.at_+k].toNat=66) (HP:Hid (PI w B b f s x np false ra k o)):PRound w B b f s x np o (PFr u b np false ra (k:Int)) (w.drewN m):=by
 have HX:=Lib.hid (HP.out.byt hk hin (.inl hv))
 have JA:Hid (inB s (x.at_+(k:Int).toNat)=true):=by show _=_;simp [inB,hin]
 have I66:=isB_val (c:=66) hin hv rfl
 have I98:=isB_val (c:=98) hin hv rfl
 have I82:=isB_val (c:=82) hin hv rfl
 have I114:=isB_val (c:=114) hin hv rfl
 have I34:=isB_val (c:=34) hin hv rfl
 have I39:=isB_val (c:=39) hin hv rfl
 have kz:(k:Int)<3:=by omega
 have hw1:=IntWalk.i64_in ((k:Int)+1) (by omega)
 have HL:=Lib.hid HP.out.lex
 have SZ:=HP.out.lex.sz
 have hle:=HP.out.lex.le
 have hk3:=HP.out.k3
 have hkl:=HP.out.le
 unfold PRound PFr
 conv=>arg 2;whnf
 go_wp2_with (first
  | (go_at_call 78;refine (peekOk_t _ _ (HL.out.drewN _).at (by omega) (by omega) (by omega) (by omega) JA).mono ?_;rintro e w' ⟨rfl,n,rfl⟩)
  | (go_at_call 76;refine (peekIs_t _ _ _ (HL.out.drewN _).at (by omega) (by omega) (by omega) (by omega) (by first|exact I66|exact I98|exact I82|exact I114|exact I34|exact I39)).mono ?_;rintro e w' ⟨rfl,n,rfl⟩))
 refine ⟨⟨true,ra,k+1,(k:Int)+1,by omega,⟨rfl,rfl,rfl,rfl,rfl,rfl,rfl⟩,⟨_,rfl⟩,HX⟩, ?_⟩
 exact pmu_lt (k:=k) (i:=(k:Int)) (i':=(k:Int)+1) rfl rfl rfl (by omega) hk
set_option maxHeartbeats 1000000 in
set_option maxRecDepth 100000 in
theorem p_by98 (m:Nat) (hk:k<3) (hin:x.at_+k<s.size) (hv:s[x.at_+k].toNat=98) (HP:Hid (PI w B b f s x np false ra k o)):PRound w B b f s x np o (PFr u b np false ra (k:Int)) (w.drewN m):=by
 have HX:=Lib.hid (HP.out.byt hk hin (.inr hv))
 have JA:Hid (inB s (x.at_+(k:Int).toNat)=true):=by show _=_;simp [inB,hin]
 have I66:=isB_val (c:=66) hin hv rfl
 have I98:=isB_val (c:=98) hin hv rfl
 have I82:=isB_val (c:=82) hin hv rfl
 have I114:=isB_val (c:=114) hin hv rfl
 have I34:=isB_val (c:=34) hin hv rfl
 have I39:=isB_val (c:=39) hin hv rfl
 have kz:(k:Int)<3:=by omega
 have hw1:=IntWalk.i64_in ((k:Int)+1) (by omega)
 have HL:=Lib.hid HP.out.lex
 have SZ:=HP.out.lex.sz
 have hle:=HP.out.lex.le
 have hk3:=HP.out.k3
 have hkl:=HP.out.le
 unfold PRound PFr
 conv=>arg 2;whnf
 go_wp2_with (first
  | (go_at_call 78;refine (peekOk_t _ _ (HL.out.drewN _).at (by omega) (by omega) (by omega) (by omega) JA).mono ?_;rintro e w' ⟨rfl,n,rfl⟩)
  | (go_at_call 76;refine (peekIs_t _ _ _ (HL.out.drewN _).at (by omega) (by omega) (by omega) (by omega) (by first|exact I66|exact I98|exact I82|exact I114|exact I34|exact I39)).mono ?_;rintro e w' ⟨rfl,n,rfl⟩))
 refine ⟨⟨true,ra,k+1,(k:Int)+1,by omega,⟨rfl,rfl,rfl,rfl,rfl,rfl,rfl⟩,⟨_,rfl⟩,HX⟩, ?_⟩
 exact pmu_lt (k:=k) (i:=(k:Int)) (i':=(k:Int)+1) rfl rfl rfl (by omega) hk
set_option maxHeartbeats 1000000 in
set_option maxRecDepth 100000 in
theorem p_ra82_true (m:Nat) (hk:k<3) (hin:x.at_+k<s.size) (hv:s[x.at_+k].toNat=82) (HP:Hid (PI w B b f s x np true false k o)):PRound w B b f s x np o (PFr u b np true false (k:Int)) (w.drewN m):=by
 have HX:=Lib.hid (HP.out.raw hk hin (.inl hv))
 have JA:Hid (inB s (x.at_+(k:Int).toNat)=true):=by show _=_;simp [inB,hin]
 have I66:=isB_val (c:=66) hin hv rfl
 have I98:=isB_val (c:=98) hin hv rfl
 have I82:=isB_val (c:=82) hin hv rfl
 have I114:=isB_val (c:=114) hin hv rfl
 have I34:=isB_val (c:=34) hin hv rfl
 have I39:=isB_val (c:=39) hin hv rfl
 have kz:(k:Int)<3:=by omega
 have hw1:=IntWalk.i64_in ((k:Int)+1) (by omega)
 have HL:=Lib.hid HP.out.lex
 have SZ:=HP.out.lex.sz
 have hle:=HP.out.lex.le
 have hk3:=HP.out.k3
 have hkl:=HP.out.le
 unfold PRound PFr
 conv=>arg 2;whnf
 go_wp2_with (first
  | (go_at_call 78;refine (peekOk_t _ _ (HL.out.drewN _).at (by omega) (by omega) (by omega) (by omega) JA).mono ?_;rintro e w' ⟨rfl,n,rfl⟩)
  | (go_at_call 76;refine (peekIs_t _ _ _ (HL.out.drewN _).at (by omega) (by omega) (by omega) (by omega) (by first|exact I66|exact I98|exact I82|exact I114|exact I34|exact I39)).mono ?_;rintro e w' ⟨rfl,n,rfl⟩))
 refine ⟨⟨true,true,k+1,(k:Int)+1,by omega,⟨rfl,rfl,rfl,rfl,rfl,rfl,rfl⟩,⟨_,rfl⟩,HX⟩, ?_⟩
 exact pmu_lt (k:=k) (i:=(k:Int)) (i':=(k:Int)+1) rfl rfl rfl (by omega) hk
set_option maxHeartbeats 1000000 in
set_option maxRecDepth 100000 in
theorem p_ra114_true (m:Nat) (hk:k<3) (hin:x.at_+k<s.size) (hv:s[x.at_+k].toNat=114) (HP:Hid (PI w B b f s x np true false k o)):PRound w B b f s x np o (PFr u b np true false (k:Int)) (w.drewN m):=by
 have HX:=Lib.hid (HP.out.raw hk hin (.inr hv))
 have JA:Hid (inB s (x.at_+(k:Int).toNat)=true):=by show _=_;simp [inB,hin]
 have I66:=isB_val (c:=66) hin hv rfl
 have I98:=isB_val (c:=98) hin hv rfl
 have I82:=isB_val (c:=82) hin hv rfl
 have I114:=isB_val (c:=114) hin hv rfl
 have I34:=isB_val (c:=34) hin hv rfl
 have I39:=isB_val (c:=39) hin hv rfl
 have kz:(k:Int)<3:=by omega
 have hw1:=IntWalk.i64_in ((k:Int)+1) (by omega)
 have HL:=Lib.hid HP.out.lex
 have SZ:=HP.out.lex.sz
 have hle:=HP.out.lex.le
 have hk3:=HP.out.k3
 have hkl:=HP.out.le
 unfold PRound PFr
 conv=>arg 2;whnf
 go_wp2_with (first
  | (go_at_call 78;refine (peekOk_t _ _ (HL.out.drewN _).at (by omega) (by omega) (by omega) (by omega) JA).mono ?_;rintro e w' ⟨rfl,n,rfl⟩)
  | (go_at_call 76;refine (peekIs_t _ _ _ (HL.out.drewN _).at (by omega) (by omega) (by omega) (by omega) (by first|exact I66|exact I98|exact I82|exact I114|exact I34|exact I39)).mono ?_;rintro e w' ⟨rfl,n,rfl⟩))
 refine ⟨⟨true,true,k+1,(k:Int)+1,by omega,⟨rfl,rfl,rfl,rfl,rfl,rfl,rfl⟩,⟨_,rfl⟩,HX⟩, ?_⟩
 exact pmu_lt (k:=k) (i:=(k:Int)) (i':=(k:Int)+1) rfl rfl rfl (by omega) hk
set_option maxHeartbeats 1000000 in
set_option maxRecDepth 100000 in
theorem p_ra82_false (m:Nat) (hk:k<3) (hin:x.at_+k<s.size) (hv:s[x.at_+k].toNat=82) (HP:Hid (PI w B b f s x np false false k o)):PRound w B b f s x np o (PFr u b np false false (k:Int)) (w.drewN m):=by
 have HX:=Lib.hid (HP.out.raw hk hin (.inl hv))
 have JA:Hid (inB s (x.at_+(k:Int).toNat)=true):=by show _=_;simp [inB,hin]
 have I66:=isB_val (c:=66) hin hv rfl
 have I98:=isB_val (c:=98) hin hv rfl
 have I82:=isB_val (c:=82) hin hv rfl
 have I114:=isB_val (c:=114) hin hv rfl
 have I34:=isB_val (c:=34) hin hv rfl
 have I39:=isB_val (c:=39) hin hv rfl
 have kz:(k:Int)<3:=by omega
 have hw1:=IntWalk.i64_in ((k:Int)+1) (by omega)
 have HL:=Lib.hid HP.out.lex
 have SZ:=HP.out.lex.sz
 have hle:=HP.out.lex.le
 have hk3:=HP.out.k3
 have hkl:=HP.out.le
 unfold PRound PFr
 conv=>arg 2;whnf
 go_wp2_with (first
  | (go_at_call 78;refine (peekOk_t _ _ (HL.out.drewN _).at (by omega) (by omega) (by omega) (by omega) JA).mono ?_;rintro e w' ⟨rfl,n,rfl⟩)
  | (go_at_call 76;refine (peekIs_t _ _ _ (HL.out.drewN _).at (by omega) (by omega) (by omega) (by omega) (by first|exact I66|exact I98|exact I82|exact I114|exact I34|exact I39)).mono ?_;rintro e w' ⟨rfl,n,rfl⟩))
 refine ⟨⟨false,true,k+1,(k:Int)+1,by omega,⟨rfl,rfl,rfl,rfl,rfl,rfl,rfl⟩,⟨_,rfl⟩,HX⟩, ?_⟩
 exact pmu_lt (k:=k) (i:=(k:Int)) (i':=(k:Int)+1) rfl rfl rfl (by omega) hk
set_option maxHeartbeats 1000000 in
set_option maxRecDepth 100000 in
theorem p_ra114_false (m:Nat) (hk:k<3) (hin:x.at_+k<s.size) (hv:s[x.at_+k].toNat=114) (HP:Hid (PI w B b f s x np false false k o)):PRound w B b f s x np o (PFr u b np false false (k:Int)) (w.drewN m):=by
 have HX:=Lib.hid (HP.out.raw hk hin (.inr hv))
 have JA:Hid (inB s (x.at_+(k:Int).toNat)=true):=by show _=_;simp [inB,hin]
 have I66:=isB_val (c:=66) hin hv rfl
 have I98:=isB_val (c:=98) hin hv rfl
 have I82:=isB_val (c:=82) hin hv rfl
 have I114:=isB_val (c:=114) hin hv rfl
 have I34:=isB_val (c:=34) hin hv rfl
 have I39:=isB_val (c:=39) hin hv rfl
 have kz:(k:Int)<3:=by omega
 have hw1:=IntWalk.i64_in ((k:Int)+1) (by omega)
 have HL:=Lib.hid HP.out.lex
 have SZ:=HP.out.lex.sz
 have hle:=HP.out.lex.le
 have hk3:=HP.out.k3
 have hkl:=HP.out.le
 unfold PRound PFr
 conv=>arg 2;whnf
 go_wp2_with (first
  | (go_at_call 78;refine (peekOk_t _ _ (HL.out.drewN _).at (by omega) (by omega) (by omega) (by omega) JA).mono ?_;rintro e w' ⟨rfl,n,rfl⟩)
  | (go_at_call 76;refine (peekIs_t _ _ _ (HL.out.drewN _).at (by omega) (by omega) (by omega) (by omega) (by first|exact I66|exact I98|exact I82|exact I114|exact I34|exact I39)).mono ?_;rintro e w' ⟨rfl,n,rfl⟩))
 refine ⟨⟨false,true,k+1,(k:Int)+1,by omega,⟨rfl,rfl,rfl,rfl,rfl,rfl,rfl⟩,⟨_,rfl⟩,HX⟩, ?_⟩
 exact pmu_lt (k:=k) (i:=(k:Int)) (i':=(k:Int)+1) rfl rfl rfl (by omega) hk
set_option maxHeartbeats 1000000 in
set_option maxRecDepth 100000 in
theorem p_q34_true_true (m:Nat) (hk:k<3) (hin:x.at_+k<s.size) (hv:s[x.at_+k].toNat=34) (HP:Hid (PI w B b f s x np true true k o)):PRound w B b f s x np o (PFr u b np true true (k:Int)) (w.drewN m):=by
 have HO:=Lib.hid (HP.out.q hk hin (.inl hv))
 obtain ⟨oq,HOQ⟩:∃oq,Hid (lx.quoted (lx.delim (rest s (x.at_+k))) true false false np (rest s (x.at_+k))=oq):=⟨_,rfl⟩
 have HO2:Hid (o=lx.ofQ (if true then lx.kBytes else lx.kString) k oq):=by
  have:=HO.out
  show _=_
  rw [this,←HOQ.out]
  rfl
 have HNC:Hid (oq≠.crash):=by
  intro e
  have h1:=HO2.out
  rw [e] at h1
  exact HP.out.safe h1
 have hq:bt s (x.at_+k)=34∨bt s (x.at_+k)=39:=by
  rw [bt_in hin,hv]
  simp
 have JA:Hid (inB s (x.at_+(k:Int).toNat)=true):=by show _=_;simp [inB,hin]
 have I66:=isB_val (c:=66) hin hv rfl
 have I98:=isB_val (c:=98) hin hv rfl
 have I82:=isB_val (c:=82) hin hv rfl
 have I114:=isB_val (c:=114) hin hv rfl
 have I34:=isB_val (c:=34) hin hv rfl
 have I39:=isB_val (c:=39) hin hv rfl
 have kz:(k:Int)<3:=by omega
 have hw1:=IntWalk.i64_in ((k:Int)+1) (by omega)
 by_cases hf:oq=.fault
 ·rw [hf] at HO2
  have HL:=Lib.hid HP.out.lex
  have SZ:=HP.out.lex.sz
  have hle:=HP.out.lex.le
  have hk3:=HP.out.k3
  have hkl:=HP.out.le
  unfold PRound PFr
  conv=>arg 2;whnf
  go_wp2_with (first
   | (go_at_call 78;refine (peekOk_t _ _ (HL.out.drewN _).at (by omega) (by omega) (by omega) (by omega) JA).mono ?_;rintro e w' ⟨rfl,n,rfl⟩)
   | (go_at_call 76;refine (peekIs_t _ _ _ (HL.out.drewN _).at (by omega) (by omega) (by omega) (by omega) (by first|exact I66|exact I98|exact I82|exact I114|exact I34|exact I39)).mono ?_;rintro e w' ⟨rfl,n,rfl⟩)
   | (go_at_call 75;refine (skipN_t k _ (HL.out.drewN _) hkl (by rfl)).mono ?_;rintro e w6 ⟨rfl,hl6,hg6⟩;have HL6:=Lib.hid hl6;have HG6:=Lib.hid (grown_trans (grown_drewN (grown_refl w (some b)) _) hg6);clear hl6 hg6)
   | (go_at_call 87;refine (str87_any (x:={ x with at_:=x.at_+k }) np HL6.out hin hq oq HOQ HNC).mono ?_;rw [hf];rintro e w7 ⟨q,rfl,hq7⟩;have HQ7:=Lib.hid hq7;clear hq7))
  have e:o=.fault:=HO2.out
  rw [e]
  exact ⟨rfl,Faults.trans (Grown2.of HG6.out) ⟨q,rfl,HQ7.out⟩⟩
 ·have HL:=Lib.hid HP.out.lex
  have SZ:=HP.out.lex.sz
  have hle:=HP.out.lex.le
  have hk3:=HP.out.k3
  have hkl:=HP.out.le
  unfold PRound PFr
  conv=>arg 2;whnf
  go_wp2_with (first
   | (go_at_call 78;refine (peekOk_t _ _ (HL.out.drewN _).at (by omega) (by omega) (by omega) (by omega) JA).mono ?_;rintro e w' ⟨rfl,n,rfl⟩)
   | (go_at_call 76;refine (peekIs_t _ _ _ (HL.out.drewN _).at (by omega) (by omega) (by omega) (by omega) (by first|exact I66|exact I98|exact I82|exact I114|exact I34|exact I39)).mono ?_;rintro e w' ⟨rfl,n,rfl⟩)
   | (go_at_call 75;refine (skipN_t k _ (HL.out.drewN _) hkl (by rfl)).mono ?_;rintro e w6 ⟨rfl,hl6,hg6⟩;have HL6:=Lib.hid hl6;have HG6:=Lib.hid (grown_trans (grown_drewN (grown_refl w (some b)) _) hg6);clear hl6 hg6)
   | (go_at_call 87;refine (str87_any (x:={ x with at_:=x.at_+k }) np HL6.out hin hq oq HOQ HNC).mono ?_;rintro e w7 hp;obtain rfl:=StrPost.ret hp HNC.out hf;have HT:=Lib.hid (StrPost.tok hp HG6.out HP.out.str HP.out.base);clear hp))
  show bodyPost _ _ _ .ret _ _
  (first|go_end0|go_ret)
  rw [HO2.out]
  exact HT.out
set_option maxHeartbeats 1000000 in
set_option maxRecDepth 100000 in
theorem p_q39_true_true (m:Nat) (hk:k<3) (hin:x.at_+k<s.size) (hv:s[x.at_+k].toNat=39) (HP:Hid (PI w B b f s x np true true k o)):PRound w B b f s x np o (PFr u b np true true (k:Int)) (w.drewN m):=by
 have HO:=Lib.hid (HP.out.q hk hin (.inr hv))
 obtain ⟨oq,HOQ⟩:∃oq,Hid (lx.quoted (lx.delim (rest s (x.at_+k))) true false false np (rest s (x.at_+k))=oq):=⟨_,rfl⟩
 have HO2:Hid (o=lx.ofQ (if true then lx.kBytes else lx.kString) k oq):=by
  have:=HO.out
  show _=_
  rw [this,←HOQ.out]
  rfl
 have HNC:Hid (oq≠.crash):=by
  intro e
  have h1:=HO2.out
  rw [e] at h1
  exact HP.out.safe h1
 have hq:bt s (x.at_+k)=34∨bt s (x.at_+k)=39:=by
  rw [bt_in hin,hv]
  simp
 have JA:Hid (inB s (x.at_+(k:Int).toNat)=true):=by show _=_;simp [inB,hin]
 have I66:=isB_val (c:=66) hin hv rfl
 have I98:=isB_val (c:=98) hin hv rfl
 have I82:=isB_val (c:=82) hin hv rfl
 have I114:=isB_val (c:=114) hin hv rfl
 have I34:=isB_val (c:=34) hin hv rfl
 have I39:=isB_val (c:=39) hin hv rfl
 have kz:(k:Int)<3:=by omega
 have hw1:=IntWalk.i64_in ((k:Int)+1) (by omega)
 by_cases hf:oq=.fault
 ·rw [hf] at HO2
  have HL:=Lib.hid HP.out.lex
  have SZ:=HP.out.lex.sz
  have hle:=HP.out.lex.le
  have hk3:=HP.out.k3
  have hkl:=HP.out.le
  unfold PRound PFr
  conv=>arg 2;whnf
  go_wp2_with (first
   | (go_at_call 78;refine (peekOk_t _ _ (HL.out.drewN _).at (by omega) (by omega) (by omega) (by omega) JA).mono ?_;rintro e w' ⟨rfl,n,rfl⟩)
   | (go_at_call 76;refine (peekIs_t _ _ _ (HL.out.drewN _).at (by omega) (by omega) (by omega) (by omega) (by first|exact I66|exact I98|exact I82|exact I114|exact I34|exact I39)).mono ?_;rintro e w' ⟨rfl,n,rfl⟩)
   | (go_at_call 75;refine (skipN_t k _ (HL.out.drewN _) hkl (by rfl)).mono ?_;rintro e w6 ⟨rfl,hl6,hg6⟩;have HL6:=Lib.hid hl6;have HG6:=Lib.hid (grown_trans (grown_drewN (grown_refl w (some b)) _) hg6);clear hl6 hg6)
   | (go_at_call 87;refine (str87_any (x:={ x with at_:=x.at_+k }) np HL6.out hin hq oq HOQ HNC).mono ?_;rw [hf];rintro e w7 ⟨q,rfl,hq7⟩;have HQ7:=Lib.hid hq7;clear hq7))
  have e:o=.fault:=HO2.out
  rw [e]
  exact ⟨rfl,Faults.trans (Grown2.of HG6.out) ⟨q,rfl,HQ7.out⟩⟩
 ·have HL:=Lib.hid HP.out.lex
  have SZ:=HP.out.lex.sz
  have hle:=HP.out.lex.le
  have hk3:=HP.out.k3
  have hkl:=HP.out.le
  unfold PRound PFr
  conv=>arg 2;whnf
  go_wp2_with (first
   | (go_at_call 78;refine (peekOk_t _ _ (HL.out.drewN _).at (by omega) (by omega) (by omega) (by omega) JA).mono ?_;rintro e w' ⟨rfl,n,rfl⟩)
   | (go_at_call 76;refine (peekIs_t _ _ _ (HL.out.drewN _).at (by omega) (by omega) (by omega) (by omega) (by first|exact I66|exact I98|exact I82|exact I114|exact I34|exact I39)).mono ?_;rintro e w' ⟨rfl,n,rfl⟩)
   | (go_at_call 75;refine (skipN_t k _ (HL.out.drewN _) hkl (by rfl)).mono ?_;rintro e w6 ⟨rfl,hl6,hg6⟩;have HL6:=Lib.hid hl6;have HG6:=Lib.hid (grown_trans (grown_drewN (grown_refl w (some b)) _) hg6);clear hl6 hg6)
   | (go_at_call 87;refine (str87_any (x:={ x with at_:=x.at_+k }) np HL6.out hin hq oq HOQ HNC).mono ?_;rintro e w7 hp;obtain rfl:=StrPost.ret hp HNC.out hf;have HT:=Lib.hid (StrPost.tok hp HG6.out HP.out.str HP.out.base);clear hp))
  show bodyPost _ _ _ .ret _ _
  (first|go_end0|go_ret)
  rw [HO2.out]
  exact HT.out
set_option maxHeartbeats 1000000 in
set_option maxRecDepth 100000 in
theorem p_q34_true_false (m:Nat) (hk:k<3) (hin:x.at_+k<s.size) (hv:s[x.at_+k].toNat=34) (HP:Hid (PI w B b f s x np true false k o)):PRound w B b f s x np o (PFr u b np true false (k:Int)) (w.drewN m):=by
 have HO:=Lib.hid (HP.out.q hk hin (.inl hv))
 obtain ⟨oq,HOQ⟩:∃oq,Hid (lx.quoted (lx.delim (rest s (x.at_+k))) false false false np (rest s (x.at_+k))=oq):=⟨_,rfl⟩
 have HO2:Hid (o=lx.ofQ (if true then lx.kBytes else lx.kString) k oq):=by
  have:=HO.out
  show _=_
  rw [this,←HOQ.out]
  rfl
 have HNC:Hid (oq≠.crash):=by
  intro e
  have h1:=HO2.out
  rw [e] at h1
  exact HP.out.safe h1
 have hq:bt s (x.at_+k)=34∨bt s (x.at_+k)=39:=by
  rw [bt_in hin,hv]
  simp
 have JA:Hid (inB s (x.at_+(k:Int).toNat)=true):=by show _=_;simp [inB,hin]
 have I66:=isB_val (c:=66) hin hv rfl
 have I98:=isB_val (c:=98) hin hv rfl
 have I82:=isB_val (c:=82) hin hv rfl
 have I114:=isB_val (c:=114) hin hv rfl
 have I34:=isB_val (c:=34) hin hv rfl
 have I39:=isB_val (c:=39) hin hv rfl
 have kz:(k:Int)<3:=by omega
 have hw1:=IntWalk.i64_in ((k:Int)+1) (by omega)
 by_cases hf:oq=.fault
 ·rw [hf] at HO2
  have HL:=Lib.hid HP.out.lex
  have SZ:=HP.out.lex.sz
  have hle:=HP.out.lex.le
  have hk3:=HP.out.k3
  have hkl:=HP.out.le
  unfold PRound PFr
  conv=>arg 2;whnf
  go_wp2_with (first
   | (go_at_call 78;refine (peekOk_t _ _ (HL.out.drewN _).at (by omega) (by omega) (by omega) (by omega) JA).mono ?_;rintro e w' ⟨rfl,n,rfl⟩)
   | (go_at_call 76;refine (peekIs_t _ _ _ (HL.out.drewN _).at (by omega) (by omega) (by omega) (by omega) (by first|exact I66|exact I98|exact I82|exact I114|exact I34|exact I39)).mono ?_;rintro e w' ⟨rfl,n,rfl⟩)
   | (go_at_call 75;refine (skipN_t k _ (HL.out.drewN _) hkl (by rfl)).mono ?_;rintro e w6 ⟨rfl,hl6,hg6⟩;have HL6:=Lib.hid hl6;have HG6:=Lib.hid (grown_trans (grown_drewN (grown_refl w (some b)) _) hg6);clear hl6 hg6)
   | (go_at_call 88;refine (str88_any (x:={ x with at_:=x.at_+k }) np HL6.out hin hq oq HOQ HNC).mono ?_;rw [hf];rintro e w7 ⟨q,rfl,hq7⟩;have HQ7:=Lib.hid hq7;clear hq7))
  have e:o=.fault:=HO2.out
  rw [e]
  exact ⟨rfl,Faults.trans (Grown2.of HG6.out) ⟨q,rfl,HQ7.out⟩⟩
 ·have HL:=Lib.hid HP.out.lex
  have SZ:=HP.out.lex.sz
  have hle:=HP.out.lex.le
  have hk3:=HP.out.k3
  have hkl:=HP.out.le
  unfold PRound PFr
  conv=>arg 2;whnf
  go_wp2_with (first
   | (go_at_call 78;refine (peekOk_t _ _ (HL.out.drewN _).at (by omega) (by omega) (by omega) (by omega) JA).mono ?_;rintro e w' ⟨rfl,n,rfl⟩)
   | (go_at_call 76;refine (peekIs_t _ _ _ (HL.out.drewN _).at (by omega) (by omega) (by omega) (by omega) (by first|exact I66|exact I98|exact I82|exact I114|exact I34|exact I39)).mono ?_;rintro e w' ⟨rfl,n,rfl⟩)
   | (go_at_call 75;refine (skipN_t k _ (HL.out.drewN _) hkl (by rfl)).mono ?_;rintro e w6 ⟨rfl,hl6,hg6⟩;have HL6:=Lib.hid hl6;have HG6:=Lib.hid (grown_trans (grown_drewN (grown_refl w (some b)) _) hg6);clear hl6 hg6)
   | (go_at_call 88;refine (str88_any (x:={ x with at_:=x.at_+k }) np HL6.out hin hq oq HOQ HNC).mono ?_;rintro e w7 hp;obtain rfl:=StrPost.ret hp HNC.out hf;have HT:=Lib.hid (StrPost.tok hp HG6.out HP.out.str HP.out.base);clear hp))
  show bodyPost _ _ _ .ret _ _
  (first|go_end0|go_ret)
  rw [HO2.out]
  exact HT.out
set_option maxHeartbeats 1000000 in
set_option maxRecDepth 100000 in
theorem p_q39_true_false (m:Nat) (hk:k<3) (hin:x.at_+k<s.size) (hv:s[x.at_+k].toNat=39) (HP:Hid (PI w B b f s x np true false k o)):PRound w B b f s x np o (PFr u b np true false (k:Int)) (w.drewN m):=by
 have HO:=Lib.hid (HP.out.q hk hin (.inr hv))
 obtain ⟨oq,HOQ⟩:∃oq,Hid (lx.quoted (lx.delim (rest s (x.at_+k))) false false false np (rest s (x.at_+k))=oq):=⟨_,rfl⟩
 have HO2:Hid (o=lx.ofQ (if true then lx.kBytes else lx.kString) k oq):=by
  have:=HO.out
  show _=_
  rw [this,←HOQ.out]
  rfl
 have HNC:Hid (oq≠.crash):=by
  intro e
  have h1:=HO2.out
  rw [e] at h1
  exact HP.out.safe h1
 have hq:bt s (x.at_+k)=34∨bt s (x.at_+k)=39:=by
  rw [bt_in hin,hv]
  simp
 have JA:Hid (inB s (x.at_+(k:Int).toNat)=true):=by show _=_;simp [inB,hin]
 have I66:=isB_val (c:=66) hin hv rfl
 have I98:=isB_val (c:=98) hin hv rfl
 have I82:=isB_val (c:=82) hin hv rfl
 have I114:=isB_val (c:=114) hin hv rfl
 have I34:=isB_val (c:=34) hin hv rfl
 have I39:=isB_val (c:=39) hin hv rfl
 have kz:(k:Int)<3:=by omega
 have hw1:=IntWalk.i64_in ((k:Int)+1) (by omega)
 by_cases hf:oq=.fault
 ·rw [hf] at HO2
  have HL:=Lib.hid HP.out.lex
  have SZ:=HP.out.lex.sz
  have hle:=HP.out.lex.le
  have hk3:=HP.out.k3
  have hkl:=HP.out.le
  unfold PRound PFr
  conv=>arg 2;whnf
  go_wp2_with (first
   | (go_at_call 78;refine (peekOk_t _ _ (HL.out.drewN _).at (by omega) (by omega) (by omega) (by omega) JA).mono ?_;rintro e w' ⟨rfl,n,rfl⟩)
   | (go_at_call 76;refine (peekIs_t _ _ _ (HL.out.drewN _).at (by omega) (by omega) (by omega) (by omega) (by first|exact I66|exact I98|exact I82|exact I114|exact I34|exact I39)).mono ?_;rintro e w' ⟨rfl,n,rfl⟩)
   | (go_at_call 75;refine (skipN_t k _ (HL.out.drewN _) hkl (by rfl)).mono ?_;rintro e w6 ⟨rfl,hl6,hg6⟩;have HL6:=Lib.hid hl6;have HG6:=Lib.hid (grown_trans (grown_drewN (grown_refl w (some b)) _) hg6);clear hl6 hg6)
   | (go_at_call 88;refine (str88_any (x:={ x with at_:=x.at_+k }) np HL6.out hin hq oq HOQ HNC).mono ?_;rw [hf];rintro e w7 ⟨q,rfl,hq7⟩;have HQ7:=Lib.hid hq7;clear hq7))
  have e:o=.fault:=HO2.out
  rw [e]
  exact ⟨rfl,Faults.trans (Grown2.of HG6.out) ⟨q,rfl,HQ7.out⟩⟩
 ·have HL:=Lib.hid HP.out.lex
  have SZ:=HP.out.lex.sz
  have hle:=HP.out.lex.le
  have hk3:=HP.out.k3
  have hkl:=HP.out.le
  unfold PRound PFr
  conv=>arg 2;whnf
  go_wp2_with (first
   | (go_at_call 78;refine (peekOk_t _ _ (HL.out.drewN _).at (by omega) (by omega) (by omega) (by omega) JA).mono ?_;rintro e w' ⟨rfl,n,rfl⟩)
   | (go_at_call 76;refine (peekIs_t _ _ _ (HL.out.drewN _).at (by omega) (by omega) (by omega) (by omega) (by first|exact I66|exact I98|exact I82|exact I114|exact I34|exact I39)).mono ?_;rintro e w' ⟨rfl,n,rfl⟩)
   | (go_at_call 75;refine (skipN_t k _ (HL.out.drewN _) hkl (by rfl)).mono ?_;rintro e w6 ⟨rfl,hl6,hg6⟩;have HL6:=Lib.hid hl6;have HG6:=Lib.hid (grown_trans (grown_drewN (grown_refl w (some b)) _) hg6);clear hl6 hg6)
   | (go_at_call 88;refine (str88_any (x:={ x with at_:=x.at_+k }) np HL6.out hin hq oq HOQ HNC).mono ?_;rintro e w7 hp;obtain rfl:=StrPost.ret hp HNC.out hf;have HT:=Lib.hid (StrPost.tok hp HG6.out HP.out.str HP.out.base);clear hp))
  show bodyPost _ _ _ .ret _ _
  (first|go_end0|go_ret)
  rw [HO2.out]
  exact HT.out
set_option maxHeartbeats 1000000 in
set_option maxRecDepth 100000 in
theorem p_q34_false_true (m:Nat) (hk:k<3) (hin:x.at_+k<s.size) (hv:s[x.at_+k].toNat=34) (HP:Hid (PI w B b f s x np false true k o)):PRound w B b f s x np o (PFr u b np false true (k:Int)) (w.drewN m):=by
 have HO:=Lib.hid (HP.out.q hk hin (.inl hv))
 obtain ⟨oq,HOQ⟩:∃oq,Hid (lx.quoted (lx.delim (rest s (x.at_+k))) true true false np (rest s (x.at_+k))=oq):=⟨_,rfl⟩
 have HO2:Hid (o=lx.ofQ (if false then lx.kBytes else lx.kString) k oq):=by
  have:=HO.out
  show _=_
  rw [this,←HOQ.out]
  rfl
 have HNC:Hid (oq≠.crash):=by
  intro e
  have h1:=HO2.out
  rw [e] at h1
  exact HP.out.safe h1
 have hq:bt s (x.at_+k)=34∨bt s (x.at_+k)=39:=by
  rw [bt_in hin,hv]
  simp
 have JA:Hid (inB s (x.at_+(k:Int).toNat)=true):=by show _=_;simp [inB,hin]
 have I66:=isB_val (c:=66) hin hv rfl
 have I98:=isB_val (c:=98) hin hv rfl
 have I82:=isB_val (c:=82) hin hv rfl
 have I114:=isB_val (c:=114) hin hv rfl
 have I34:=isB_val (c:=34) hin hv rfl
 have I39:=isB_val (c:=39) hin hv rfl
 have kz:(k:Int)<3:=by omega
 have hw1:=IntWalk.i64_in ((k:Int)+1) (by omega)
 by_cases hf:oq=.fault
 ·rw [hf] at HO2
  have HL:=Lib.hid HP.out.lex
  have SZ:=HP.out.lex.sz
  have hle:=HP.out.lex.le
  have hk3:=HP.out.k3
  have hkl:=HP.out.le
  unfold PRound PFr
  conv=>arg 2;whnf
  go_wp2_with (first
   | (go_at_call 78;refine (peekOk_t _ _ (HL.out.drewN _).at (by omega) (by omega) (by omega) (by omega) JA).mono ?_;rintro e w' ⟨rfl,n,rfl⟩)
   | (go_at_call 76;refine (peekIs_t _ _ _ (HL.out.drewN _).at (by omega) (by omega) (by omega) (by omega) (by first|exact I66|exact I98|exact I82|exact I114|exact I34|exact I39)).mono ?_;rintro e w' ⟨rfl,n,rfl⟩)
   | (go_at_call 75;refine (skipN_t k _ (HL.out.drewN _) hkl (by rfl)).mono ?_;rintro e w6 ⟨rfl,hl6,hg6⟩;have HL6:=Lib.hid hl6;have HG6:=Lib.hid (grown_trans (grown_drewN (grown_refl w (some b)) _) hg6);clear hl6 hg6)
   | (go_at_call 89;refine (str89_any (x:={ x with at_:=x.at_+k }) np HL6.out hin hq oq HOQ HNC).mono ?_;rw [hf];rintro e w7 ⟨q,rfl,hq7⟩;have HQ7:=Lib.hid hq7;clear hq7))
  have e:o=.fault:=HO2.out
  rw [e]
  exact ⟨rfl,Faults.trans (Grown2.of HG6.out) ⟨q,rfl,HQ7.out⟩⟩
 ·have HL:=Lib.hid HP.out.lex
  have SZ:=HP.out.lex.sz
  have hle:=HP.out.lex.le
  have hk3:=HP.out.k3
  have hkl:=HP.out.le
  unfold PRound PFr
  conv=>arg 2;whnf
  go_wp2_with (first
   | (go_at_call 78;refine (peekOk_t _ _ (HL.out.drewN _).at (by omega) (by omega) (by omega) (by omega) JA).mono ?_;rintro e w' ⟨rfl,n,rfl⟩)
   | (go_at_call 76;refine (peekIs_t _ _ _ (HL.out.drewN _).at (by omega) (by omega) (by omega) (by omega) (by first|exact I66|exact I98|exact I82|exact I114|exact I34|exact I39)).mono ?_;rintro e w' ⟨rfl,n,rfl⟩)
   | (go_at_call 75;refine (skipN_t k _ (HL.out.drewN _) hkl (by rfl)).mono ?_;rintro e w6 ⟨rfl,hl6,hg6⟩;have HL6:=Lib.hid hl6;have HG6:=Lib.hid (grown_trans (grown_drewN (grown_refl w (some b)) _) hg6);clear hl6 hg6)
   | (go_at_call 89;refine (str89_any (x:={ x with at_:=x.at_+k }) np HL6.out hin hq oq HOQ HNC).mono ?_;rintro e w7 hp;obtain rfl:=StrPost.ret hp HNC.out hf;have HT:=Lib.hid (StrPost.tok hp HG6.out HP.out.str HP.out.base);clear hp))
  show bodyPost _ _ _ .ret _ _
  (first|go_end0|go_ret)
  rw [HO2.out]
  exact HT.out
set_option maxHeartbeats 1000000 in
set_option maxRecDepth 100000 in
theorem p_q39_false_true (m:Nat) (hk:k<3) (hin:x.at_+k<s.size) (hv:s[x.at_+k].toNat=39) (HP:Hid (PI w B b f s x np false true k o)):PRound w B b f s x np o (PFr u b np false true (k:Int)) (w.drewN m):=by
 have HO:=Lib.hid (HP.out.q hk hin (.inr hv))
 obtain ⟨oq,HOQ⟩:∃oq,Hid (lx.quoted (lx.delim (rest s (x.at_+k))) true true false np (rest s (x.at_+k))=oq):=⟨_,rfl⟩
 have HO2:Hid (o=lx.ofQ (if false then lx.kBytes else lx.kString) k oq):=by
  have:=HO.out
  show _=_
  rw [this,←HOQ.out]
  rfl
 have HNC:Hid (oq≠.crash):=by
  intro e
  have h1:=HO2.out
  rw [e] at h1
  exact HP.out.safe h1
 have hq:bt s (x.at_+k)=34∨bt s (x.at_+k)=39:=by
  rw [bt_in hin,hv]
  simp
 have JA:Hid (inB s (x.at_+(k:Int).toNat)=true):=by show _=_;simp [inB,hin]
 have I66:=isB_val (c:=66) hin hv rfl
 have I98:=isB_val (c:=98) hin hv rfl
 have I82:=isB_val (c:=82) hin hv rfl
 have I114:=isB_val (c:=114) hin hv rfl
 have I34:=isB_val (c:=34) hin hv rfl
 have I39:=isB_val (c:=39) hin hv rfl
 have kz:(k:Int)<3:=by omega
 have hw1:=IntWalk.i64_in ((k:Int)+1) (by omega)
 by_cases hf:oq=.fault
 ·rw [hf] at HO2
  have HL:=Lib.hid HP.out.lex
  have SZ:=HP.out.lex.sz
  have hle:=HP.out.lex.le
  have hk3:=HP.out.k3
  have hkl:=HP.out.le
  unfold PRound PFr
  conv=>arg 2;whnf
  go_wp2_with (first
   | (go_at_call 78;refine (peekOk_t _ _ (HL.out.drewN _).at (by omega) (by omega) (by omega) (by omega) JA).mono ?_;rintro e w' ⟨rfl,n,rfl⟩)
   | (go_at_call 76;refine (peekIs_t _ _ _ (HL.out.drewN _).at (by omega) (by omega) (by omega) (by omega) (by first|exact I66|exact I98|exact I82|exact I114|exact I34|exact I39)).mono ?_;rintro e w' ⟨rfl,n,rfl⟩)
   | (go_at_call 75;refine (skipN_t k _ (HL.out.drewN _) hkl (by rfl)).mono ?_;rintro e w6 ⟨rfl,hl6,hg6⟩;have HL6:=Lib.hid hl6;have HG6:=Lib.hid (grown_trans (grown_drewN (grown_refl w (some b)) _) hg6);clear hl6 hg6)
   | (go_at_call 89;refine (str89_any (x:={ x with at_:=x.at_+k }) np HL6.out hin hq oq HOQ HNC).mono ?_;rw [hf];rintro e w7 ⟨q,rfl,hq7⟩;have HQ7:=Lib.hid hq7;clear hq7))
  have e:o=.fault:=HO2.out
  rw [e]
  exact ⟨rfl,Faults.trans (Grown2.of HG6.out) ⟨q,rfl,HQ7.out⟩⟩
 ·have HL:=Lib.hid HP.out.lex
  have SZ:=HP.out.lex.sz
  have hle:=HP.out.lex.le
  have hk3:=HP.out.k3
  have hkl:=HP.out.le
  unfold PRound PFr
  conv=>arg 2;whnf
  go_wp2_with (first
   | (go_at_call 78;refine (peekOk_t _ _ (HL.out.drewN _).at (by omega) (by omega) (by omega) (by omega) JA).mono ?_;rintro e w' ⟨rfl,n,rfl⟩)
   | (go_at_call 76;refine (peekIs_t _ _ _ (HL.out.drewN _).at (by omega) (by omega) (by omega) (by omega) (by first|exact I66|exact I98|exact I82|exact I114|exact I34|exact I39)).mono ?_;rintro e w' ⟨rfl,n,rfl⟩)
   | (go_at_call 75;refine (skipN_t k _ (HL.out.drewN _) hkl (by rfl)).mono ?_;rintro e w6 ⟨rfl,hl6,hg6⟩;have HL6:=Lib.hid hl6;have HG6:=Lib.hid (grown_trans (grown_drewN (grown_refl w (some b)) _) hg6);clear hl6 hg6)
   | (go_at_call 89;refine (str89_any (x:={ x with at_:=x.at_+k }) np HL6.out hin hq oq HOQ HNC).mono ?_;rintro e w7 hp;obtain rfl:=StrPost.ret hp HNC.out hf;have HT:=Lib.hid (StrPost.tok hp HG6.out HP.out.str HP.out.base);clear hp))
  show bodyPost _ _ _ .ret _ _
  (first|go_end0|go_ret)
  rw [HO2.out]
  exact HT.out
set_option maxHeartbeats 1000000 in
set_option maxRecDepth 100000 in
theorem p_q34_false_false (m:Nat) (hk:k<3) (hin:x.at_+k<s.size) (hv:s[x.at_+k].toNat=34) (HP:Hid (PI w B b f s x np false false k o)):PRound w B b f s x np o (PFr u b np false false (k:Int)) (w.drewN m):=by
 have HO:=Lib.hid (HP.out.q hk hin (.inl hv))
 obtain ⟨oq,HOQ⟩:∃oq,Hid (lx.quoted (lx.delim (rest s (x.at_+k))) false true false np (rest s (x.at_+k))=oq):=⟨_,rfl⟩
 have HO2:Hid (o=lx.ofQ (if false then lx.kBytes else lx.kString) k oq):=by
  have:=HO.out
  show _=_
  rw [this,←HOQ.out]
  rfl
 have HNC:Hid (oq≠.crash):=by
  intro e
  have h1:=HO2.out
  rw [e] at h1
  exact HP.out.safe h1
 have hq:bt s (x.at_+k)=34∨bt s (x.at_+k)=39:=by
  rw [bt_in hin,hv]
  simp
 have JA:Hid (inB s (x.at_+(k:Int).toNat)=true):=by show _=_;simp [inB,hin]
 have I66:=isB_val (c:=66) hin hv rfl
 have I98:=isB_val (c:=98) hin hv rfl
 have I82:=isB_val (c:=82) hin hv rfl
 have I114:=isB_val (c:=114) hin hv rfl
 have I34:=isB_val (c:=34) hin hv rfl
 have I39:=isB_val (c:=39) hin hv rfl
 have kz:(k:Int)<3:=by omega
 have hw1:=IntWalk.i64_in ((k:Int)+1) (by omega)
 by_cases hf:oq=.fault
 ·rw [hf] at HO2
  have HL:=Lib.hid HP.out.lex
  have SZ:=HP.out.lex.sz
  have hle:=HP.out.lex.le
  have hk3:=HP.out.k3
  have hkl:=HP.out.le
  unfold PRound PFr
  conv=>arg 2;whnf
  go_wp2_with (first
   | (go_at_call 78;refine (peekOk_t _ _ (HL.out.drewN _).at (by omega) (by omega) (by omega) (by omega) JA).mono ?_;rintro e w' ⟨rfl,n,rfl⟩)
   | (go_at_call 76;refine (peekIs_t _ _ _ (HL.out.drewN _).at (by omega) (by omega) (by omega) (by omega) (by first|exact I66|exact I98|exact I82|exact I114|exact I34|exact I39)).mono ?_;rintro e w' ⟨rfl,n,rfl⟩)
   | (go_at_call 75;refine (skipN_t k _ (HL.out.drewN _) hkl (by rfl)).mono ?_;rintro e w6 ⟨rfl,hl6,hg6⟩;have HL6:=Lib.hid hl6;have HG6:=Lib.hid (grown_trans (grown_drewN (grown_refl w (some b)) _) hg6);clear hl6 hg6)
   | (go_at_call 90;refine (str90_any (x:={ x with at_:=x.at_+k }) np HL6.out hin hq oq HOQ HNC).mono ?_;rw [hf];rintro e w7 ⟨q,rfl,hq7⟩;have HQ7:=Lib.hid hq7;clear hq7))
  have e:o=.fault:=HO2.out
  rw [e]
  exact ⟨rfl,Faults.trans (Grown2.of HG6.out) ⟨q,rfl,HQ7.out⟩⟩
 ·have HL:=Lib.hid HP.out.lex
  have SZ:=HP.out.lex.sz
  have hle:=HP.out.lex.le
  have hk3:=HP.out.k3
  have hkl:=HP.out.le
  unfold PRound PFr
  conv=>arg 2;whnf
  go_wp2_with (first
   | (go_at_call 78;refine (peekOk_t _ _ (HL.out.drewN _).at (by omega) (by omega) (by omega) (by omega) JA).mono ?_;rintro e w' ⟨rfl,n,rfl⟩)
   | (go_at_call 76;refine (peekIs_t _ _ _ (HL.out.drewN _).at (by omega) (by omega) (by omega) (by omega) (by first|exact I66|exact I98|exact I82|exact I114|exact I34|exact I39)).mono ?_;rintro e w' ⟨rfl,n,rfl⟩)
   | (go_at_call 75;refine (skipN_t k _ (HL.out.drewN _) hkl (by rfl)).mono ?_;rintro e w6 ⟨rfl,hl6,hg6⟩;have HL6:=Lib.hid hl6;have HG6:=Lib.hid (grown_trans (grown_drewN (grown_refl w (some b)) _) hg6);clear hl6 hg6)
   | (go_at_call 90;refine (str90_any (x:={ x with at_:=x.at_+k }) np HL6.out hin hq oq HOQ HNC).mono ?_;rintro e w7 hp;obtain rfl:=StrPost.ret hp HNC.out hf;have HT:=Lib.hid (StrPost.tok hp HG6.out HP.out.str HP.out.base);clear hp))
  show bodyPost _ _ _ .ret _ _
  (first|go_end0|go_ret)
  rw [HO2.out]
  exact HT.out
set_option maxHeartbeats 1000000 in
set_option maxRecDepth 100000 in
theorem p_q39_false_false (m:Nat) (hk:k<3) (hin:x.at_+k<s.size) (hv:s[x.at_+k].toNat=39) (HP:Hid (PI w B b f s x np false false k o)):PRound w B b f s x np o (PFr u b np false false (k:Int)) (w.drewN m):=by
 have HO:=Lib.hid (HP.out.q hk hin (.inr hv))
 obtain ⟨oq,HOQ⟩:∃oq,Hid (lx.quoted (lx.delim (rest s (x.at_+k))) false true false np (rest s (x.at_+k))=oq):=⟨_,rfl⟩
 have HO2:Hid (o=lx.ofQ (if false then lx.kBytes else lx.kString) k oq):=by
  have:=HO.out
  show _=_
  rw [this,←HOQ.out]
  rfl
 have HNC:Hid (oq≠.crash):=by
  intro e
  have h1:=HO2.out
  rw [e] at h1
  exact HP.out.safe h1
 have hq:bt s (x.at_+k)=34∨bt s (x.at_+k)=39:=by
  rw [bt_in hin,hv]
  simp
 have JA:Hid (inB s (x.at_+(k:Int).toNat)=true):=by show _=_;simp [inB,hin]
 have I66:=isB_val (c:=66) hin hv rfl
 have I98:=isB_val (c:=98) hin hv rfl
 have I82:=isB_val (c:=82) hin hv rfl
 have I114:=isB_val (c:=114) hin hv rfl
 have I34:=isB_val (c:=34) hin hv rfl
 have I39:=isB_val (c:=39) hin hv rfl
 have kz:(k:Int)<3:=by omega
 have hw1:=IntWalk.i64_in ((k:Int)+1) (by omega)
 by_cases hf:oq=.fault
 ·rw [hf] at HO2
  have HL:=Lib.hid HP.out.lex
  have SZ:=HP.out.lex.sz
  have hle:=HP.out.lex.le
  have hk3:=HP.out.k3
  have hkl:=HP.out.le
  unfold PRound PFr
  conv=>arg 2;whnf
  go_wp2_with (first
   | (go_at_call 78;refine (peekOk_t _ _ (HL.out.drewN _).at (by omega) (by omega) (by omega) (by omega) JA).mono ?_;rintro e w' ⟨rfl,n,rfl⟩)
   | (go_at_call 76;refine (peekIs_t _ _ _ (HL.out.drewN _).at (by omega) (by omega) (by omega) (by omega) (by first|exact I66|exact I98|exact I82|exact I114|exact I34|exact I39)).mono ?_;rintro e w' ⟨rfl,n,rfl⟩)
   | (go_at_call 75;refine (skipN_t k _ (HL.out.drewN _) hkl (by rfl)).mono ?_;rintro e w6 ⟨rfl,hl6,hg6⟩;have HL6:=Lib.hid hl6;have HG6:=Lib.hid (grown_trans (grown_drewN (grown_refl w (some b)) _) hg6);clear hl6 hg6)
   | (go_at_call 90;refine (str90_any (x:={ x with at_:=x.at_+k }) np HL6.out hin hq oq HOQ HNC).mono ?_;rw [hf];rintro e w7 ⟨q,rfl,hq7⟩;have HQ7:=Lib.hid hq7;clear hq7))
  have e:o=.fault:=HO2.out
  rw [e]
  exact ⟨rfl,Faults.trans (Grown2.of HG6.out) ⟨q,rfl,HQ7.out⟩⟩
 ·have HL:=Lib.hid HP.out.lex
  have SZ:=HP.out.lex.sz
  have hle:=HP.out.lex.le
  have hk3:=HP.out.k3
  have hkl:=HP.out.le
  unfold PRound PFr
  conv=>arg 2;whnf
  go_wp2_with (first
   | (go_at_call 78;refine (peekOk_t _ _ (HL.out.drewN _).at (by omega) (by omega) (by omega) (by omega) JA).mono ?_;rintro e w' ⟨rfl,n,rfl⟩)
   | (go_at_call 76;refine (peekIs_t _ _ _ (HL.out.drewN _).at (by omega) (by omega) (by omega) (by omega) (by first|exact I66|exact I98|exact I82|exact I114|exact I34|exact I39)).mono ?_;rintro e w' ⟨rfl,n,rfl⟩)
   | (go_at_call 75;refine (skipN_t k _ (HL.out.drewN _) hkl (by rfl)).mono ?_;rintro e w6 ⟨rfl,hl6,hg6⟩;have HL6:=Lib.hid hl6;have HG6:=Lib.hid (grown_trans (grown_drewN (grown_refl w (some b)) _) hg6);clear hl6 hg6)
   | (go_at_call 90;refine (str90_any (x:={ x with at_:=x.at_+k }) np HL6.out hin hq oq HOQ HNC).mono ?_;rintro e w7 hp;obtain rfl:=StrPost.ret hp HNC.out hf;have HT:=Lib.hid (StrPost.tok hp HG6.out HP.out.str HP.out.base);clear hp))
  show bodyPost _ _ _ .ret _ _
  (first|go_end0|go_ret)
  rw [HO2.out]
  exact HT.out
set_option maxHeartbeats 1000000 in
set_option maxRecDepth 100000 in
theorem p_no_true_true (m:Nat) (hk:k<3) (hin:x.at_+k<s.size) (h1:¬(true=false∧(s[x.at_+k].toNat=66∨s[x.at_+k].toNat=98))) (h2:¬(true=false∧(s[x.at_+k].toNat=82∨s[x.at_+k].toNat=114))) (h3:¬(s[x.at_+k].toNat=34∨s[x.at_+k].toNat=39)) (HP:Hid (PI w B b f s x np true true k o)):PRound w B b f s x np o (PFr u b np true true (k:Int)) (w.drewN m):=by
 have HX:Hid (lx.prefx 3 false false (rest s x.at_)=none):=by
  show _=_
  rw [HP.out.pre,rest_pre hin,show 3-k=(3-(k+1))+1 from by omega,prefx_no h1 h2 h3]
  rfl
 have JA:Hid (inB s (x.at_+(k:Int).toNat)=true):=by show _=_;simp [inB,hin]
 have I34:Hid (isB s (x.at_+(k:Int).toNat) ((34:Nat):Int)=false):=isB_val hin rfl (by simp;omega)
 have I39:Hid (isB s (x.at_+(k:Int).toNat) ((39:Nat):Int)=false):=isB_val hin rfl (by simp;omega)
 have I66:Hid (true=false→isB s (x.at_+(k:Int).toNat) ((66:Nat):Int)=false):=fun e=>(isB_val hin rfl (by have h5:¬(s[x.at_+k].toNat=66∨s[x.at_+k].toNat=98):=fun h=>h1 ⟨e,h⟩;simp;omega):Hid _).out
 have I98:Hid (true=false→isB s (x.at_+(k:Int).toNat) ((98:Nat):Int)=false):=fun e=>(isB_val hin rfl (by have h5:¬(s[x.at_+k].toNat=66∨s[x.at_+k].toNat=98):=fun h=>h1 ⟨e,h⟩;simp;omega):Hid _).out
 have I82:Hid (true=false→isB s (x.at_+(k:Int).toNat) ((82:Nat):Int)=false):=fun e=>(isB_val hin rfl (by have h5:¬(s[x.at_+k].toNat=82∨s[x.at_+k].toNat=114):=fun h=>h2 ⟨e,h⟩;simp;omega):Hid _).out
 have I114:Hid (true=false→isB s (x.at_+(k:Int).toNat) ((114:Nat):Int)=false):=fun e=>(isB_val hin rfl (by have h5:¬(s[x.at_+k].toNat=82∨s[x.at_+k].toNat=114):=fun h=>h2 ⟨e,h⟩;simp;omega):Hid _).out
 have kz:(k:Int)<3:=by omega
 clear h1 h2 h3
 clear I66 I98
 clear I82 I114
 have HL:=Lib.hid HP.out.lex
 have SZ:=HP.out.lex.sz
 have hle:=HP.out.lex.le
 have hk3:=HP.out.k3
 have hkl:=HP.out.le
 unfold PRound PFr
 conv=>arg 2;whnf
 go_wp2_with (first
  | (go_at_call 78;refine (peekOk_t _ _ (HL.out.drewN _).at (by omega) (by omega) (by omega) (by omega) JA).mono ?_;rintro e w' ⟨rfl,n,rfl⟩)
  | (go_at_call 76;refine (peekIs_t _ _ false (HL.out.drewN _).at (by omega) (by omega) (by omega) (by omega) (by first|exact I34|exact I39|exact K66|exact K98|exact K82|exact K114)).mono ?_;rintro e w' ⟨rfl,n,rfl⟩))
 exact ⟨rfl,⟨rfl,rfl,rfl,rfl⟩,⟨_,rfl⟩,HX.out⟩
set_option maxHeartbeats 1000000 in
set_option maxRecDepth 100000 in
theorem p_no_true_false (m:Nat) (hk:k<3) (hin:x.at_+k<s.size) (h1:¬(true=false∧(s[x.at_+k].toNat=66∨s[x.at_+k].toNat=98))) (h2:¬(false=false∧(s[x.at_+k].toNat=82∨s[x.at_+k].toNat=114))) (h3:¬(s[x.at_+k].toNat=34∨s[x.at_+k].toNat=39)) (HP:Hid (PI w B b f s x np true false k o)):PRound w B b f s x np o (PFr u b np true false (k:Int)) (w.drewN m):=by
 have HX:Hid (lx.prefx 3 false false (rest s x.at_)=none):=by
  show _=_
  rw [HP.out.pre,rest_pre hin,show 3-k=(3-(k+1))+1 from by omega,prefx_no h1 h2 h3]
  rfl
 have JA:Hid (inB s (x.at_+(k:Int).toNat)=true):=by show _=_;simp [inB,hin]
 have I34:Hid (isB s (x.at_+(k:Int).toNat) ((34:Nat):Int)=false):=isB_val hin rfl (by simp;omega)
 have I39:Hid (isB s (x.at_+(k:Int).toNat) ((39:Nat):Int)=false):=isB_val hin rfl (by simp;omega)
 have I66:Hid (true=false→isB s (x.at_+(k:Int).toNat) ((66:Nat):Int)=false):=fun e=>(isB_val hin rfl (by have h5:¬(s[x.at_+k].toNat=66∨s[x.at_+k].toNat=98):=fun h=>h1 ⟨e,h⟩;simp;omega):Hid _).out
 have I98:Hid (true=false→isB s (x.at_+(k:Int).toNat) ((98:Nat):Int)=false):=fun e=>(isB_val hin rfl (by have h5:¬(s[x.at_+k].toNat=66∨s[x.at_+k].toNat=98):=fun h=>h1 ⟨e,h⟩;simp;omega):Hid _).out
 have I82:Hid (false=false→isB s (x.at_+(k:Int).toNat) ((82:Nat):Int)=false):=fun e=>(isB_val hin rfl (by have h5:¬(s[x.at_+k].toNat=82∨s[x.at_+k].toNat=114):=fun h=>h2 ⟨e,h⟩;simp;omega):Hid _).out
 have I114:Hid (false=false→isB s (x.at_+(k:Int).toNat) ((114:Nat):Int)=false):=fun e=>(isB_val hin rfl (by have h5:¬(s[x.at_+k].toNat=82∨s[x.at_+k].toNat=114):=fun h=>h2 ⟨e,h⟩;simp;omega):Hid _).out
 have kz:(k:Int)<3:=by omega
 clear h1 h2 h3
 clear I66 I98
 have K82:Hid (isB s (x.at_+(k:Int).toNat) ((82:Nat):Int)=false):=I82.out rfl
 have K114:Hid (isB s (x.at_+(k:Int).toNat) ((114:Nat):Int)=false):=I114.out rfl
 clear I82 I114
 have HL:=Lib.hid HP.out.lex
 have SZ:=HP.out.lex.sz
 have hle:=HP.out.lex.le
 have hk3:=HP.out.k3
 have hkl:=HP.out.le
 unfold PRound PFr
 conv=>arg 2;whnf
 go_wp2_with (first
  | (go_at_call 78;refine (peekOk_t _ _ (HL.out.drewN _).at (by omega) (by omega) (by omega) (by omega) JA).mono ?_;rintro e w' ⟨rfl,n,rfl⟩)
  | (go_at_call 76;refine (peekIs_t _ _ false (HL.out.drewN _).at (by omega) (by omega) (by omega) (by omega) (by first|exact I34|exact I39|exact K66|exact K98|exact K82|exact K114)).mono ?_;rintro e w' ⟨rfl,n,rfl⟩))
 exact ⟨rfl,⟨rfl,rfl,rfl,rfl⟩,⟨_,rfl⟩,HX.out⟩
set_option maxHeartbeats 1000000 in
set_option maxRecDepth 100000 in
theorem p_no_false_true (m:Nat) (hk:k<3) (hin:x.at_+k<s.size) (h1:¬(false=false∧(s[x.at_+k].toNat=66∨s[x.at_+k].toNat=98))) (h2:¬(true=false∧(s[x.at_+k].toNat=82∨s[x.at_+k].toNat=114))) (h3:¬(s[x.at_+k].toNat=34∨s[x.at_+k].toNat=39)) (HP:Hid (PI w B b f s x np false true k o)):PRound w B b f s x np o (PFr u b np false true (k:Int)) (w.drewN m):=by
 have HX:Hid (lx.prefx 3 false false (rest s x.at_)=none):=by
  show _=_
  rw [HP.out.pre,rest_pre hin,show 3-k=(3-(k+1))+1 from by omega,prefx_no h1 h2 h3]
  rfl
 have JA:Hid (inB s (x.at_+(k:Int).toNat)=true):=by show _=_;simp [inB,hin]
 have I34:Hid (isB s (x.at_+(k:Int).toNat) ((34:Nat):Int)=false):=isB_val hin rfl (by simp;omega)
 have I39:Hid (isB s (x.at_+(k:Int).toNat) ((39:Nat):Int)=false):=isB_val hin rfl (by simp;omega)
 have I66:Hid (false=false→isB s (x.at_+(k:Int).toNat) ((66:Nat):Int)=false):=fun e=>(isB_val hin rfl (by have h5:¬(s[x.at_+k].toNat=66∨s[x.at_+k].toNat=98):=fun h=>h1 ⟨e,h⟩;simp;omega):Hid _).out
 have I98:Hid (false=false→isB s (x.at_+(k:Int).toNat) ((98:Nat):Int)=false):=fun e=>(isB_val hin rfl (by have h5:¬(s[x.at_+k].toNat=66∨s[x.at_+k].toNat=98):=fun h=>h1 ⟨e,h⟩;simp;omega):Hid _).out
 have I82:Hid (true=false→isB s (x.at_+(k:Int).toNat) ((82:Nat):Int)=false):=fun e=>(isB_val hin rfl (by have h5:¬(s[x.at_+k].toNat=82∨s[x.at_+k].toNat=114):=fun h=>h2 ⟨e,h⟩;simp;omega):Hid _).out
 have I114:Hid (true=false→isB s (x.at_+(k:Int).toNat) ((114:Nat):Int)=false):=fun e=>(isB_val hin rfl (by have h5:¬(s[x.at_+k].toNat=82∨s[x.at_+k].toNat=114):=fun h=>h2 ⟨e,h⟩;simp;omega):Hid _).out
 have kz:(k:Int)<3:=by omega
 clear h1 h2 h3
 have K66:Hid (isB s (x.at_+(k:Int).toNat) ((66:Nat):Int)=false):=I66.out rfl
 have K98:Hid (isB s (x.at_+(k:Int).toNat) ((98:Nat):Int)=false):=I98.out rfl
 clear I66 I98
 clear I82 I114
 have HL:=Lib.hid HP.out.lex
 have SZ:=HP.out.lex.sz
 have hle:=HP.out.lex.le
 have hk3:=HP.out.k3
 have hkl:=HP.out.le
 unfold PRound PFr
 conv=>arg 2;whnf
 go_wp2_with (first
  | (go_at_call 78;refine (peekOk_t _ _ (HL.out.drewN _).at (by omega) (by omega) (by omega) (by omega) JA).mono ?_;rintro e w' ⟨rfl,n,rfl⟩)
  | (go_at_call 76;refine (peekIs_t _ _ false (HL.out.drewN _).at (by omega) (by omega) (by omega) (by omega) (by first|exact I34|exact I39|exact K66|exact K98|exact K82|exact K114)).mono ?_;rintro e w' ⟨rfl,n,rfl⟩))
 exact ⟨rfl,⟨rfl,rfl,rfl,rfl⟩,⟨_,rfl⟩,HX.out⟩
set_option maxHeartbeats 1000000 in
set_option maxRecDepth 100000 in
theorem p_no_false_false (m:Nat) (hk:k<3) (hin:x.at_+k<s.size) (h1:¬(false=false∧(s[x.at_+k].toNat=66∨s[x.at_+k].toNat=98))) (h2:¬(false=false∧(s[x.at_+k].toNat=82∨s[x.at_+k].toNat=114))) (h3:¬(s[x.at_+k].toNat=34∨s[x.at_+k].toNat=39)) (HP:Hid (PI w B b f s x np false false k o)):PRound w B b f s x np o (PFr u b np false false (k:Int)) (w.drewN m):=by
 have HX:Hid (lx.prefx 3 false false (rest s x.at_)=none):=by
  show _=_
  rw [HP.out.pre,rest_pre hin,show 3-k=(3-(k+1))+1 from by omega,prefx_no h1 h2 h3]
  rfl
 have JA:Hid (inB s (x.at_+(k:Int).toNat)=true):=by show _=_;simp [inB,hin]
 have I34:Hid (isB s (x.at_+(k:Int).toNat) ((34:Nat):Int)=false):=isB_val hin rfl (by simp;omega)
 have I39:Hid (isB s (x.at_+(k:Int).toNat) ((39:Nat):Int)=false):=isB_val hin rfl (by simp;omega)
 have I66:Hid (false=false→isB s (x.at_+(k:Int).toNat) ((66:Nat):Int)=false):=fun e=>(isB_val hin rfl (by have h5:¬(s[x.at_+k].toNat=66∨s[x.at_+k].toNat=98):=fun h=>h1 ⟨e,h⟩;simp;omega):Hid _).out
 have I98:Hid (false=false→isB s (x.at_+(k:Int).toNat) ((98:Nat):Int)=false):=fun e=>(isB_val hin rfl (by have h5:¬(s[x.at_+k].toNat=66∨s[x.at_+k].toNat=98):=fun h=>h1 ⟨e,h⟩;simp;omega):Hid _).out
 have I82:Hid (false=false→isB s (x.at_+(k:Int).toNat) ((82:Nat):Int)=false):=fun e=>(isB_val hin rfl (by have h5:¬(s[x.at_+k].toNat=82∨s[x.at_+k].toNat=114):=fun h=>h2 ⟨e,h⟩;simp;omega):Hid _).out
 have I114:Hid (false=false→isB s (x.at_+(k:Int).toNat) ((114:Nat):Int)=false):=fun e=>(isB_val hin rfl (by have h5:¬(s[x.at_+k].toNat=82∨s[x.at_+k].toNat=114):=fun h=>h2 ⟨e,h⟩;simp;omega):Hid _).out
 have kz:(k:Int)<3:=by omega
 clear h1 h2 h3
 have K66:Hid (isB s (x.at_+(k:Int).toNat) ((66:Nat):Int)=false):=I66.out rfl
 have K98:Hid (isB s (x.at_+(k:Int).toNat) ((98:Nat):Int)=false):=I98.out rfl
 clear I66 I98
 have K82:Hid (isB s (x.at_+(k:Int).toNat) ((82:Nat):Int)=false):=I82.out rfl
 have K114:Hid (isB s (x.at_+(k:Int).toNat) ((114:Nat):Int)=false):=I114.out rfl
 clear I82 I114
 have HL:=Lib.hid HP.out.lex
 have SZ:=HP.out.lex.sz
 have hle:=HP.out.lex.le
 have hk3:=HP.out.k3
 have hkl:=HP.out.le
 unfold PRound PFr
 conv=>arg 2;whnf
 go_wp2_with (first
  | (go_at_call 78;refine (peekOk_t _ _ (HL.out.drewN _).at (by omega) (by omega) (by omega) (by omega) JA).mono ?_;rintro e w' ⟨rfl,n,rfl⟩)
  | (go_at_call 76;refine (peekIs_t _ _ false (HL.out.drewN _).at (by omega) (by omega) (by omega) (by omega) (by first|exact I34|exact I39|exact K66|exact K98|exact K82|exact K114)).mono ?_;rintro e w' ⟨rfl,n,rfl⟩))
 exact ⟨rfl,⟨rfl,rfl,rfl,rfl⟩,⟨_,rfl⟩,HX.out⟩
end
end Go.Proofs.YtaamolahbkgofaaGreatDoor.lex
