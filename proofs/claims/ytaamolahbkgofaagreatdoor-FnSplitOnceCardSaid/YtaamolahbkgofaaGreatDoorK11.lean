/-
  Contract of the lexer's consumeNumber. Conditions: in its statement.
-/
import Derived.Test.YtaamolahbkgofaaGreatDoorK03
import Derived.Deep.CutBlock
import Derived.Deep.CutRange
namespace Go.Proofs.YtaamolahbkgofaaGreatDoor.lex
open Go.RowKit mem lines
/-- peekOk, its number and its answer by names. -/
theorem peekOk_named {w:World} {b f p:Nat} {s:ByteArray} (i:Nat) (z:Int) (v:Bool) (h:At w b f s p) (hs:s.size≤1000000) (hp:p≤1000000) (hi:i≤1000000) (hz:z=i) (hv:Hid (inB s (p+i)=v)) :
  Calls Tryz.prog 78 #[.pointer (some ⟨b,0,none⟩),.int .i64 z] w fun e w'=>e=.returned (.bool v)∧∃n,w'=w.drewN n:=by
 subst hz
 have:=hv.out
 subst this
 exact peekOk_any i h hs hp hi
/-- peekIs, its place an integer; its answer is found among the facts. -/
theorem peekIs_z {w:World} {b f p:Nat} {s:ByteArray} (z c:Int) (v:Bool) (h:At w b f s p) (hs:s.size≤1000000) (hp:p≤1000000) (h0:0≤z) (hi:z≤1000000) (hv:Hid (isB s (p+z.toNat) c=v)) :
  Calls Tryz.prog 76 #[.pointer (some ⟨b,0,none⟩),.int .i64 z,.int .u8 c] w fun e w'=>e=.returned (.bool v)∧∃n,w'=w.drewN n :=
 peekIs_named z.toNat z c v h hs hp (by omega) (by omega) hv
theorem peekOk_z {w:World} {b f p:Nat} {s:ByteArray} (z:Int) (v:Bool) (h:At w b f s p) (hs:s.size≤1000000) (hp:p≤1000000) (h0:0≤z) (hi:z≤1000000) (hv:Hid (inB s (p+z.toNat)=v)) :
  Calls Tryz.prog 78 #[.pointer (some ⟨b,0,none⟩),.int .i64 z] w fun e w'=>e=.returned (.bool v)∧∃n,w'=w.drewN n :=
 peekOk_named z.toNat z v h hs hp (by omega) (by omega) hv
theorem peek_z {w:World} {b f p:Nat} {s:ByteArray} (z c:Int) (h:At w b f s p) (h0:0≤z) (hi:p+z.toNat<s.size) (hs:s.size≤1000000) (hc:Hid (bt s (p+z.toNat)=c)) :
  Calls Tryz.prog 80 #[.pointer (some ⟨b,0,none⟩),.int .i64 z] w fun e w'=>e=.returned (.int .u8 c)∧∃n,w'=w.drewN n :=
 peek_named z.toNat z c h hi hs (by omega) hc
theorem hex_named (c:UInt8) (v:Bool) (w:World) (h:Hid (lx.hex c=v)):Calls Tryz.prog 109 #[.int .u8 (c.toNat:Int)] w fun e w'=>e=.returned (.bool v)∧w=w':=by
 refine (isHex_any _ w).mono fun e w' ⟨he,hw⟩=>⟨?_,hw⟩
 rw [he,←h.out]
 refine ret_bool ?_
 rw [Bool.eq_iff_iff]
 simp [lx.hex]
 omega
theorem part_named (c:UInt8) (v:Bool) (w:World) (h:Hid (lx.idP c=v)):Calls Tryz.prog 79 #[.int .u8 (c.toNat:Int)] w fun e w'=>e=.returned (.bool v)∧w=w':=by
 refine (isPart_any _ w).mono fun e w' ⟨he,hw⟩=>⟨?_,hw⟩
 rw [he,←h.out]
 refine ret_bool ?_
 rw [Bool.eq_iff_iff]
 simp [lx.idP]
 omega
theorem num16_int:∀(n:Nat) (t:lx.Bs),(lx.numScan true n true false t).2=true:=by
 intro n
 induction n with
 | zero=>intro t;rfl
 | succ n ih =>
  intro t
  cases t with
  | nil=>rfl
  | cons c r =>
   unfold lx.numScan
   rw [if_neg (by simp)]
   split
   ·exact ih r
   ·rw [if_neg (by simp),if_neg (by simp)]
set_option maxHeartbeats 1000000 in
set_option maxRecDepth 100000 in
theorem number16_any {w:World} {B b f:Nat} {s:ByteArray} {x:St} (np:Bool) (h:LexS w B b f s x) (h0:lx.nb (rest s x.at_) 0=48) (h1:lx.nb (rest s x.at_) 1=120∨lx.nb (rest s x.at_) 1=88) (hx:x.str=⟨#[]⟩) (hb:x.base=0) :
  Calls Tryz.prog 84 #[.pointer (some ⟨b,0,none⟩),.bool np] w (TokPost B b f s x (lx.number np (rest s x.at_)) w):=by
 have HL:=Lib.hid h
 have SZ:=h.sz
 have LE:=h.le
 clear h
 have I0:Hid (isB s (x.at_+0) 48=true):=isB_yes (c:=48) (by omega) h0
 obtain ⟨v1,I1⟩:∃v,Hid (isB s (x.at_+1) 120=v):=⟨_,rfl⟩
 obtain ⟨v2,I2⟩:∃v,Hid (isB s (x.at_+1) 88=v):=⟨_,rfl⟩
 have hv:v1=true∨(v1=false∧v2=true):=by
  rcases h1 with h1|h1
  ·left
   rw [←I1.out]
   exact (isB_yes (c:=120) (by omega) h1).out
  ·right
   refine ⟨?_, ?_⟩
   ·rw [←I1.out]
    exact (isB_no (c:=120) (by omega) (by omega)).out
   ·rw [←I2.out]
    exact (isB_yes (c:=88) (by omega) h1).out
 obtain ⟨R,hR⟩:∃R,Hid (lx.numScan true (rest s x.at_).length true false ((rest s x.at_).drop 2)=R):=⟨_,rfl⟩
 have p2:x.at_+2≤s.size:=by
  rcases Nat.lt_or_ge (x.at_+1) s.size with h|h
  ·omega
  ·have:=nb_out s x.at_ 1 (by omega);omega
 have hN:=Lib.hid (show NumAt true s x.at_ (R.1+2,R.2) 2 true false from ⟨(rest s x.at_).length,by rw [rest_length,rest_length];omega,by rw [←rest_drop,hR.out],by rw [←rest_drop,hR.out]⟩)
 go_enter Tryz.func84,Tryz.ntmps84
 have hv':v1=true∨(v1=false∧v2=true):=hv
 clear hv
 rcases hv' with rfl|⟨rfl,rfl⟩
 iterate 2
  ·go_upto_block 0 with (go_at_call 76;refine (peekIs_z _ _ _ (by first|exact HL.out.at|exact (HL.out.drewN _).at) (by omega) (by omega) (by omega) (by omega) (by first|exact I0|exact I1|exact I2)).mono ?_;rintro e w' ⟨rfl,n,rfl⟩)
   go_cut [4,6,7,8,9] from 27 to 106 (fun i t u c r wx=>i=.int .i64 ((R.1+2:Nat):Int)∧t=.bool R.2∧Hid (Held w B b f s x wx))
   case first =>
    go_wp2_with fail
    go_loopw [4,6,7] (fun i t u wr=>∃k:Nat,i=.int .i64 (k:Int)∧t=.bool true∧u=.bool false∧Hid (NumAt true s x.at_ (R.1+2,R.2) k true false)∧Hid (Held w B b f s x wr)∧x.at_+k≤s.size) (fun i _ _ _=>s.size-(intOf i).toNat)
    case atStart=>exact ⟨2,by rfl,rfl,rfl,hN.out,⟨HL.out.drewN _,grown_drewN (grown_refl w (some b)) _⟩,p2⟩
    case round =>
     obtain ⟨k,rfl,rfl,rfl,HN,HW,hk⟩:=hrel
     by_cases hin:x.at_+k<s.size
     ·have J0:Hid (inB s (x.at_+(k:Int).toNat)=true):=by show _=_;simp [inB,hin]
      have J1:Hid (bt s (x.at_+(k:Int).toNat)=(s[x.at_+k].toNat:Int)):=by show bt s (x.at_+k)=_;exact bt_in hin
      cases hh:lx.hex s[x.at_+k]
      ·have HX:=Lib.hid (HN.out.nohex hin hh)
       have J2:=Lib.hid hh
       clear hh
       generalize s[x.at_+k]=c at J1 J2
       go_wp2_with (first
        | (go_at_call 78;refine (peekOk_z _ _ (by first|exact HW.out.lex.at|exact (HW.out.lex.drewN _).at) (by omega) (by omega) (by omega) (by omega) J0).mono ?_;rintro e w' ⟨rfl,n,rfl⟩)
        | (go_at_call 80;refine (peek_z _ _ (by first|exact HW.out.lex.at|exact (HW.out.lex.drewN _).at) (by omega) (by simpa using hin) (by omega) J1).mono ?_;rintro e w' ⟨rfl,n,rfl⟩)
        | (go_at_call 109;refine (hex_named c _ _ J2).mono ?_;rintro e w' ⟨rfl,rfl⟩))
       go_meet
       exact ⟨by rw [HX.out.1],by rw [HX.out.2],HW.out.lex.drewN _,grown_drewN HW.out.grown _⟩
      ·have HX:=Lib.hid (HN.out.hex hin hh)
       have J2:=Lib.hid hh
       clear hh
       generalize s[x.at_+k]=c at J1 J2
       go_wp2_with (first
        | (go_at_call 78;refine (peekOk_z _ _ (by first|exact HW.out.lex.at|exact (HW.out.lex.drewN _).at) (by omega) (by omega) (by omega) (by omega) J0).mono ?_;rintro e w' ⟨rfl,n,rfl⟩)
        | (go_at_call 80;refine (peek_z _ _ (by first|exact HW.out.lex.at|exact (HW.out.lex.drewN _).at) (by omega) (by simpa using hin) (by omega) J1).mono ?_;rintro e w' ⟨rfl,n,rfl⟩)
        | (go_at_call 109;refine (hex_named c _ _ J2).mono ?_;rintro e w' ⟨rfl,rfl⟩))
       go_round
       case rel=>exact ⟨k+1,by go_num,rfl,rfl,HX.out,⟨HW.out.lex.drewN _,grown_drewN HW.out.grown _⟩,by omega⟩
       case measure=>simp [intOf];omega
     ·have J0:Hid (inB s (x.at_+(k:Int).toNat)=false):=by show _=_;simp [inB];omega
      have HX:=Lib.hid (HN.out.last hin)
      go_wp2_with (go_at_call 78;refine (peekOk_z _ _ (by first|exact HW.out.lex.at|exact (HW.out.lex.drewN _).at) (by omega) (by omega) (by omega) (by omega) J0).mono ?_;rintro e w' ⟨rfl,n,rfl⟩)
      go_meet
      exact ⟨by rw [HX.out.1],by rw [HX.out.2],HW.out.lex.drewN _,grown_drewN HW.out.grown _⟩
   case rest =>
    obtain ⟨rfl,rfl,HK⟩:=hcut
    have hint:R.2=true:=by rw [←hR.out];exact num16_int _ _
    have pl:x.at_+(R.1+2)≤s.size:=by
     have:=numScan_le true (rest s x.at_).length true false ((rest s x.at_).drop 2)
     rw [hR.out,List.length_drop,rest_length] at this
     omega
    have HO:=Lib.hid (show lx.number np (rest s x.at_)=if lx.isId (lx.nb (rest s x.at_) (R.1+2)) then (if np then .bad (R.1+2) else .fault) else .tok lx.kInt (R.1+2) [] 16 none by
     have e16:(decide (lx.nb (rest s x.at_) 0=48)&&(decide (lx.nb (rest s x.at_) 1=120)||decide (lx.nb (rest s x.at_) 1=88)))=true:=by simp [h0];exact h1
     unfold lx.number
     simp only [e16,if_true,hR.out,hint])
    rw [hint]
    have HL8:=Lib.hid (HK.out.lex.set 9 (.int .i64 ((x.at_+(R.1+2):Nat):Int)) { x with at_:=x.at_+(R.1+2) } rfl pl)
    have HG8:=Lib.hid (grown_set HK.out.grown 9 (.int .i64 ((x.at_+(R.1+2):Nat):Int)))
    go_upto_region 25 with (go_at_call 75;refine (skipN_named (R.1+2) _ HK.out.lex.at.pos (HK.out.lex.free 9) (by omega) (by omega) rfl).mono ?_;rintro e w7 ⟨rfl,hw⟩;rw [hw] at HL8 HG8;have HL7:=HL8;have HG7:=HG8;clear hw HL8 HG8)
    have c1:w7.cell? ⟨b,1,none⟩=some (.string x.kind):=HL7.out.cell 1
    have c6:w7.cell? ⟨b,6,none⟩=some (.int .i64 x.base):=HL7.out.cell 6
    have f1:w7.frozen? ⟨b,1,none⟩=false:=HL7.out.free 1
    have f6:w7.frozen? ⟨b,6,none⟩=false:=HL7.out.free 6
    obtain ⟨x8,hx8⟩:∃y:St,Hid (y={ x with at_:=x.at_+(R.1+2),kind:=⟨#[60,105,110,116,62]⟩,base:=16 }):=⟨_,rfl⟩
    have hp8:x8.at_=x.at_+(R.1+2):=by rw [hx8.out]
    have HL9:=Lib.hid ((HL7.out.set 1 (.string ⟨#[60,105,110,116,62]⟩) { x with at_:=x.at_+(R.1+2),kind:=⟨#[60,105,110,116,62]⟩ } rfl pl).set 6 (.int .i64 16) { x with at_:=x.at_+(R.1+2),kind:=⟨#[60,105,110,116,62]⟩,base:=16 } rfl pl)
    have HG9:=Lib.hid (grown_set (grown_set HG7.out 1 (.string ⟨#[60,105,110,116,62]⟩)) 6 (.int .i64 16))
    rw [←hx8.out] at HL9
    go_wp2_with fail
    generalize (w7.setCell ⟨b,1,none⟩ (.string ⟨#[60,105,110,116,62]⟩)).setCell ⟨b,6,none⟩ (.int .i64 16)=w8 at HL9 HG9 ⊢
    have hsz8:x8.at_≤s.size:=by omega
    have d1:∀n,(w8.drewN n).cell? ⟨b,1,none⟩=some (.string x8.kind):=fun n=>HL9.out.cell 1
    have g1:∀n,(w8.drewN n).frozen? ⟨b,1,none⟩=false:=fun n=>HL9.out.free 1
    by_cases hend:x8.at_<s.size
    ·have hnb:lx.nb (rest s x.at_) (R.1+2)=s[x8.at_].toNat:=by
      have e:=nb_in s x.at_ (R.1+2) (by omega)
      rw [←hp8,bt_in hend] at e
      omega
     rw [hnb] at HO
     have J0:Hid (inB s (x8.at_+(0:Int).toNat)=true):=by show _=_;simp [inB,hend]
     have J1:Hid (bt s (x8.at_+(0:Int).toNat)=(s[x8.at_].toNat:Int)):=by show bt s (x8.at_+0)=_;exact bt_in hend
     have hid0:lx.isId s[x8.at_].toNat=lx.idP s[x8.at_]:=rfl
     rw [hid0] at HO
     clear hnb hid0
     have hpk:x8.at_+(0:Int).toNat<s.size:=by simpa using hend
     cases hid:lx.idP s[x8.at_]
     ·have JP:=Lib.hid hid
      rw [hid] at HO
      clear hid
      generalize s[x8.at_]=c at J1 JP
      go_wp2_with (first
       | (go_at_call 78;refine (peekOk_z _ _ (by first|exact HL9.out.at|exact (HL9.out.drewN _).at) (by omega) (by omega) (by omega) (by omega) J0).mono ?_;rintro e w' ⟨rfl,n,rfl⟩)
       | (go_at_call 80;refine (peek_z _ _ (by first|exact HL9.out.at|exact (HL9.out.drewN _).at) (by omega) hpk (by omega) J1).mono ?_;rintro e w' ⟨rfl,n,rfl⟩)
       | (go_at_call 79;refine (part_named c _ _ JP).mono ?_;rintro e w' ⟨rfl,rfl⟩))
      (first|go_end0|go_ret)
      rw [HO.out]
      have hL:=HL9.out
      rw [hx8.out,hx] at hL
      exact ⟨rfl,hL.drewN _,grown_drewN HG9.out _⟩
     ·have JP:=Lib.hid hid
      rw [hid] at HO
      clear hid
      generalize s[x8.at_]=c at J1 JP
      cases np
      ·go_wp2_with (first
        | (go_at_call 78;refine (peekOk_z _ _ (by first|exact HL9.out.at|exact (HL9.out.drewN _).at) (by omega) (by omega) (by omega) (by omega) J0).mono ?_;rintro e w' ⟨rfl,n,rfl⟩)
        | (go_at_call 80;refine (peek_z _ _ (by first|exact HL9.out.at|exact (HL9.out.drewN _).at) (by omega) hpk (by omega) J1).mono ?_;rintro e w' ⟨rfl,n,rfl⟩)
        | (go_at_call 79;refine (part_named c _ _ JP).mono ?_;rintro e w' ⟨rfl,rfl⟩)
        | (go_at_call 110;refine (panicf_any (HL9.out.drewN _) _).mono ?_;rintro e w' ⟨m,rfl,hm⟩;have HM:=Lib.hid hm;clear hm))
       rw [HO.out]
       exact ⟨rfl,Faults.trans (Grown2.of (grown_drewN HG9.out _)) ⟨m,rfl,HM.out⟩⟩
      ·go_wp2_with (first
        | (go_at_call 78;refine (peekOk_z _ _ (by first|exact HL9.out.at|exact (HL9.out.drewN _).at) (by omega) (by omega) (by omega) (by omega) J0).mono ?_;rintro e w' ⟨rfl,n,rfl⟩)
        | (go_at_call 80;refine (peek_z _ _ (by first|exact HL9.out.at|exact (HL9.out.drewN _).at) (by omega) hpk (by omega) J1).mono ?_;rintro e w' ⟨rfl,n,rfl⟩)
        | (go_at_call 79;refine (part_named c _ _ JP).mono ?_;rintro e w' ⟨rfl,rfl⟩))
       (first|go_end0|go_ret)
       rw [HO.out]
       refine ⟨{ x8 with kind:=⟨#[60,98,97,100,62]⟩ },by rw [hx8.out];exact ⟨rfl,rfl,rfl,rfl,rfl,rfl,rfl,rfl,rfl⟩,rfl, ?_,grown_set (grown_drewN HG9.out _) 1 _⟩
       exact (HL9.out.drewN _).set 1 _ _ rfl hsz8
    ·have hnb:lx.nb (rest s x.at_) (R.1+2)=256:=nb_out s x.at_ (R.1+2) (by omega)
     have J0:Hid (inB s (x8.at_+(0:Int).toNat)=false):=by show _=_;simp [inB];omega
     rw [hnb] at HO
     go_wp2_with (go_at_call 78;refine (peekOk_z _ _ (by first|exact HL9.out.at|exact (HL9.out.drewN _).at) (by omega) (by omega) (by omega) (by omega) J0).mono ?_;rintro e w' ⟨rfl,n,rfl⟩)
     (first|go_end0|go_ret)
     rw [HO.out]
     have hL:=HL9.out
     rw [hx8.out,hx] at hL
     exact ⟨rfl,hL.drewN _,grown_drewN HG9.out _⟩
end Go.Proofs.YtaamolahbkgofaaGreatDoor.lex
