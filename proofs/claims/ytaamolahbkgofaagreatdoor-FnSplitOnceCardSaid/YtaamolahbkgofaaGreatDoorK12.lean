/-
  Contract of the lexer's consumeNumber: decimal numbers; all numbers. Conditions: in its statement.
-/
import Derived.Test.YtaamolahbkgofaaGreatDoorK11
set_option linter.unusedVariables false
namespace Go.Proofs.YtaamolahbkgofaaGreatDoor.lex
open Go.RowKit mem lines
theorem dig_z (z:Int) (v:Bool) (w:World) (h:Hid (decide (48≤z∧z≤57)=v)):Calls Tryz.prog 83 #[.int .u8 z] w fun e w'=>e=.returned (.bool v)∧w=w':=by
 rw [←h.out]
 exact isDigit_any z w
theorem dig_dec {c:UInt8} {v:Bool} (h:lx.dig c=v):Hid (decide (48≤(c.toNat:Int)∧(c.toNat:Int)≤57)=v):=by
 show _=_
 rw [←h,Bool.eq_iff_iff]
 simp [lx.dig]
 omega
set_option maxHeartbeats 6000000 in
set_option maxRecDepth 100000 in
theorem number10a_any {w:World} {B b f:Nat} {s:ByteArray} {x:St} (np:Bool) (h:LexS w B b f s x) (h16:¬(lx.nb (rest s x.at_) 0=48∧(lx.nb (rest s x.at_) 1=120∨lx.nb (rest s x.at_) 1=88))) (hx:x.str=⟨#[]⟩) (hb:x.base=0) (hcase:¬lx.nb (rest s x.at_) 0=48) :
  Calls Tryz.prog 84 #[.pointer (some ⟨b,0,none⟩),.bool np] w (TokPost B b f s x (lx.number np (rest s x.at_)) w):=by
 have HL:=Lib.hid h
 have SZ:=h.sz
 have LE:=h.le
 clear h
 obtain ⟨v0,I0⟩:∃v,Hid (isB s (x.at_+0) 48=v):=⟨_,rfl⟩
 obtain ⟨v1,I1⟩:∃v,Hid (isB s (x.at_+1) 120=v):=⟨_,rfl⟩
 obtain ⟨v2,I2⟩:∃v,Hid (isB s (x.at_+1) 88=v):=⟨_,rfl⟩
 have hv:v0=false:=by
  have a0:=I0.out
  have a1:=I1.out
  have a2:=I2.out
  rw [isB_nb s x.at_ 0 48 (by omega)] at a0
  rw [isB_nb s x.at_ 1 120 (by omega)] at a1
  rw [isB_nb s x.at_ 1 88 (by omega)] at a2
  rw [←a0];simp;omega
 have hb16:Hid ((decide (lx.nb (rest s x.at_) 0=48)&&(decide (lx.nb (rest s x.at_) 1=120)||decide (lx.nb (rest s x.at_) 1=88)))=false):=by
  show _=_
  rw [Bool.eq_false_iff]
  intro hh
  simp at hh
  exact h16 hh
 clear h16 hcase
 obtain ⟨R,hR⟩:∃R,Hid (lx.numScan false (rest s x.at_).length true false (rest s x.at_)=R):=⟨_,rfl⟩
 have pl:x.at_+R.1≤s.size:=by
  have:=numScan_le false (rest s x.at_).length true false (rest s x.at_)
  rw [hR.out,rest_length] at this
  omega
 have hN:=Lib.hid (show NumAt false s x.at_ R 0 true false from ⟨(rest s x.at_).length,Nat.le_refl _,by show _+0=_;rw [Nat.add_zero];show (lx.numScan _ _ _ _ (rest s x.at_)).1=_;rw [hR.out],by show (lx.numScan _ _ _ _ (rest s x.at_)).2=_;rw [hR.out]⟩)
 go_enter Tryz.func84,Tryz.ntmps84
 have hv':v0=false:=hv
 clear hv
 subst hv'
 go_upto_block 0 with (go_at_call 76;refine (peekIs_z _ _ _ (by first|exact HL.out.at|exact (HL.out.drewN _).at) (by omega) (by omega) (by omega) (by omega) (by first|exact I0|exact I1|exact I2)).mono ?_;rintro e w' ⟨rfl,n,rfl⟩)
 go_cut [4,6,7,8,9] from 27 to 106 (fun i t u c r wx=>i=.int .i64 (R.1:Int)∧t=.bool R.2∧Hid (Held w B b f s x wx))
 case first =>
  go_wp2_with fail
  go_loopw [4,6,7] (fun i t u wr=>∃(k:Nat) (int exp:Bool),i=.int .i64 (k:Int)∧t=.bool int∧u=.bool exp∧Hid (NumAt false s x.at_ R k int exp)∧Hid (Held w B b f s x wr)∧x.at_+k≤s.size) (fun i _ _ _=>s.size-(intOf i).toNat)
  case atStart=>exact ⟨0,true,false,rfl,rfl,rfl,hN.out,⟨HL.out.drewN _,grown_drewN (grown_refl w (some b)) _⟩,LE⟩
  case round =>
   obtain ⟨k,int,exp,rfl,rfl,rfl,HN,HW,hk⟩:=hrel
   by_cases hin:x.at_+k<s.size
   ·have J0:Hid (inB s (x.at_+(k:Int).toNat)=true):=by show _=_;simp [inB,hin]
    have J1:Hid (bt s (x.at_+(k:Int).toNat)=(s[x.at_+k].toNat:Int)):=by show bt s (x.at_+k)=_;exact bt_in hin
    have pin1:x.at_+(k:Int).toNat<s.size:=by simpa using hin
    have B1:(s[x.at_+k].toNat:Int)≤255:=by have:=s[x.at_+k].toNat_lt;omega
    cases hd:lx.dig s[x.at_+k]
    ·have J2:=dig_dec hd
     by_cases hdot:exp=false∧int=true∧s[x.at_+k].toNat=46
     ·obtain ⟨rfl,rfl,h46⟩:=hdot
      have HX:=Lib.hid (HN.out.dot hin h46)
      have hz:(s[x.at_+k].toNat:Int)=46:=by omega
      rw [hz] at J1
      have J2:Hid (decide ((48:Int)≤46∧(46:Int)≤57)=false):=by show _=_;decide
      clear hd h46 hz B1
      go_wp2_with (first
       | (go_at_call 78;refine (peekOk_z _ _ (by first|exact HW.out.lex.at|exact (HW.out.lex.drewN _).at) (by omega) (by omega) (by omega) (by omega) (by first|exact J0)).mono ?_;rintro e w' ⟨rfl,n,rfl⟩)
       | (go_at_call 80;refine (peek_z _ _ (by first|exact HW.out.lex.at|exact (HW.out.lex.drewN _).at) (by omega) (by first|exact pin1) (by omega) (by first|exact J1)).mono ?_;rintro e w' ⟨rfl,n,rfl⟩)
       | (go_at_call 83;refine (dig_z _ _ _ (by first|exact J2)).mono ?_;rintro e w' ⟨rfl,rfl⟩))
      go_round
      case rel=>exact ⟨k+1,false,false,by go_num,rfl,rfl,HX.out,⟨HW.out.lex.drewN _,grown_drewN HW.out.grown _⟩,by omega⟩
      case measure=>simp [intOf];omega
     ·by_cases hexp:exp=false∧(s[x.at_+k].toNat=69∨s[x.at_+k].toNat=101)
      ·obtain ⟨rfl,hE⟩:=hexp
       cases int
       ·have HX0:=Lib.hid (HN.out.expo hin hE)
        have hz:(s[x.at_+k].toNat:Int)=69∨(s[x.at_+k].toNat:Int)=101:=by omega
        have n46:¬((s[x.at_+k].toNat:Int)=46):=by omega
        clear hd hdot hE
        generalize s[x.at_+k]=c at *
        have hsg:∀i:Nat,∀z:Int,0≤z→z≤255→isB s (x.at_+i) z=decide ((lx.nb (rest s x.at_) i:Int)=z):=fun i z _ h=>isB_nb s x.at_ i z h
        have e1:((k:Int)+1).toNat=k+1:=by omega
        by_cases h43:lx.nb (rest s x.at_) (k+1)=43
        ·have S43:Hid (isB s (x.at_+((k:Int)+1).toNat) 43=true):=by show _=_;rw [e1,hsg _ _ (by omega) (by omega),h43];rfl
         have S45:True:=trivial
         have HX:=HX0.out
         rw [if_pos (.inl h43)] at HX
         have HX:=Lib.hid HX
         clear HX0 hsg e1 h43 n46 B1
         rcases hz with hz|hz
         iterate 2
          ·rw [hz] at J1 J2
           by_cases hin2:x.at_+(k+2)<s.size
           ·have K0:Hid (inB s (x.at_+((k:Int)+2).toNat)=true):=by
             have e:((k:Int)+2).toNat=k+2:=by omega
             show _=_
             rw [e];simp [inB];omega
            have K1:Hid (bt s (x.at_+((k:Int)+2).toNat)=(s[x.at_+(k+2)].toNat:Int)):=by
             have e:((k:Int)+2).toNat=k+2:=by omega
             show _=_
             rw [e];exact bt_in hin2
            have pin2:x.at_+((k:Int)+2).toNat<s.size:=by omega
            have hnb2:lx.nb (rest s x.at_) (k+2)=s[x.at_+(k+2)].toNat:=by
             have e:=nb_in s x.at_ (k+2) hin2
             rw [bt_in hin2] at e
             omega
            rw [hnb2] at HX
            cases hd2:lx.dig s[x.at_+(k+2)]
            ·have K2:=dig_dec hd2
             have HX2:=Lib.hid (show R.1=k∧R.2=false by
              have h:=HX.out
              rw [if_neg (by simp [lx.dig] at hd2;omega)] at h
              exact h)
             clear hd2 hnb2 HX
             generalize s[x.at_+(k+2)]=d at *
             go_wp2_with (first
              | (go_at_call 78;refine (peekOk_z _ _ (by first|exact HW.out.lex.at|exact (HW.out.lex.drewN _).at) (by omega) (by omega) (by omega) (by omega) (by first|exact J0|exact K0)).mono ?_;rintro e w' ⟨rfl,n,rfl⟩)
              | (go_at_call 80;refine (peek_z _ _ (by first|exact HW.out.lex.at|exact (HW.out.lex.drewN _).at) (by omega) (by first|exact pin1|exact pin2) (by omega) (by first|exact J1|exact K1)).mono ?_;rintro e w' ⟨rfl,n,rfl⟩)
              | (go_at_call 83;refine (dig_z _ _ _ (by first|exact J2|exact K2)).mono ?_;rintro e w' ⟨rfl,rfl⟩)
              | (go_at_call 76;refine (peekIs_z _ _ _ (by first|exact HW.out.lex.at|exact (HW.out.lex.drewN _).at) (by omega) (by omega) (by omega) (by omega) (by first|exact S43|exact S45)).mono ?_;rintro e w' ⟨rfl,n,rfl⟩))
             go_meet
             exact ⟨by rw [HX2.out.1],by rw [HX2.out.2],HW.out.lex.drewN _,grown_drewN HW.out.grown _⟩
            ·have K2:=dig_dec hd2
             have HX2:=Lib.hid (show NumAt false s x.at_ R (k+2) false true by
              have h:=HX.out
              rw [if_pos (by simp [lx.dig] at hd2;omega)] at h
              exact h)
             clear hd2 hnb2 HX
             generalize s[x.at_+(k+2)]=d at *
             go_wp2_with (first
              | (go_at_call 78;refine (peekOk_z _ _ (by first|exact HW.out.lex.at|exact (HW.out.lex.drewN _).at) (by omega) (by omega) (by omega) (by omega) (by first|exact J0|exact K0)).mono ?_;rintro e w' ⟨rfl,n,rfl⟩)
              | (go_at_call 80;refine (peek_z _ _ (by first|exact HW.out.lex.at|exact (HW.out.lex.drewN _).at) (by omega) (by first|exact pin1|exact pin2) (by omega) (by first|exact J1|exact K1)).mono ?_;rintro e w' ⟨rfl,n,rfl⟩)
              | (go_at_call 83;refine (dig_z _ _ _ (by first|exact J2|exact K2)).mono ?_;rintro e w' ⟨rfl,rfl⟩)
              | (go_at_call 76;refine (peekIs_z _ _ _ (by first|exact HW.out.lex.at|exact (HW.out.lex.drewN _).at) (by omega) (by omega) (by omega) (by omega) (by first|exact S43|exact S45)).mono ?_;rintro e w' ⟨rfl,n,rfl⟩))
             go_round
             case rel=>exact ⟨k+2,false,true,by go_num,rfl,rfl,HX2.out,⟨HW.out.lex.drewN _,grown_drewN HW.out.grown _⟩,by omega⟩
             case measure=>simp [intOf];omega
           ·have K0:Hid (inB s (x.at_+((k:Int)+2).toNat)=false):=by
             have e:((k:Int)+2).toNat=k+2:=by omega
             show _=_
             rw [e];simp [inB];omega
            have HX2:=Lib.hid (show R.1=k∧R.2=false by
             have h:=HX.out
             rw [nb_out s x.at_ (k+2) hin2,if_neg (by omega)] at h
             exact h)
            clear HX
            go_wp2_with (first
             | (go_at_call 78;refine (peekOk_z _ _ (by first|exact HW.out.lex.at|exact (HW.out.lex.drewN _).at) (by omega) (by omega) (by omega) (by omega) (by first|exact J0|exact K0)).mono ?_;rintro e w' ⟨rfl,n,rfl⟩)
             | (go_at_call 80;refine (peek_z _ _ (by first|exact HW.out.lex.at|exact (HW.out.lex.drewN _).at) (by omega) (by first|exact pin1) (by omega) (by first|exact J1)).mono ?_;rintro e w' ⟨rfl,n,rfl⟩)
             | (go_at_call 83;refine (dig_z _ _ _ (by first|exact J2)).mono ?_;rintro e w' ⟨rfl,rfl⟩)
             | (go_at_call 76;refine (peekIs_z _ _ _ (by first|exact HW.out.lex.at|exact (HW.out.lex.drewN _).at) (by omega) (by omega) (by omega) (by omega) (by first|exact S43|exact S45)).mono ?_;rintro e w' ⟨rfl,n,rfl⟩))
            go_meet
            exact ⟨by rw [HX2.out.1],by rw [HX2.out.2],HW.out.lex.drewN _,grown_drewN HW.out.grown _⟩
        ·by_cases h45:lx.nb (rest s x.at_) (k+1)=45
         ·have S43:Hid (isB s (x.at_+((k:Int)+1).toNat) 43=false):=by show _=_;rw [e1,hsg _ _ (by omega) (by omega)];simp;omega
          have S45:Hid (isB s (x.at_+((k:Int)+1).toNat) 45=true):=by show _=_;rw [e1,hsg _ _ (by omega) (by omega),h45];rfl
          have HX:=HX0.out
          rw [if_pos (.inr h45)] at HX
          have HX:=Lib.hid HX
          clear HX0 hsg e1 h43 h45 n46 B1
          rcases hz with hz|hz
          iterate 2
           ·rw [hz] at J1 J2
            by_cases hin2:x.at_+(k+2)<s.size
            ·have K0:Hid (inB s (x.at_+((k:Int)+2).toNat)=true):=by
              have e:((k:Int)+2).toNat=k+2:=by omega
              show _=_
              rw [e];simp [inB];omega
             have K1:Hid (bt s (x.at_+((k:Int)+2).toNat)=(s[x.at_+(k+2)].toNat:Int)):=by
              have e:((k:Int)+2).toNat=k+2:=by omega
              show _=_
              rw [e];exact bt_in hin2
             have pin2:x.at_+((k:Int)+2).toNat<s.size:=by omega
             have hnb2:lx.nb (rest s x.at_) (k+2)=s[x.at_+(k+2)].toNat:=by
              have e:=nb_in s x.at_ (k+2) hin2
              rw [bt_in hin2] at e
              omega
             rw [hnb2] at HX
             cases hd2:lx.dig s[x.at_+(k+2)]
             ·have K2:=dig_dec hd2
              have HX2:=Lib.hid (show R.1=k∧R.2=false by
               have h:=HX.out
               rw [if_neg (by simp [lx.dig] at hd2;omega)] at h
               exact h)
              clear hd2 hnb2 HX
              generalize s[x.at_+(k+2)]=d at *
              go_wp2_with (first
               | (go_at_call 78;refine (peekOk_z _ _ (by first|exact HW.out.lex.at|exact (HW.out.lex.drewN _).at) (by omega) (by omega) (by omega) (by omega) (by first|exact J0|exact K0)).mono ?_;rintro e w' ⟨rfl,n,rfl⟩)
               | (go_at_call 80;refine (peek_z _ _ (by first|exact HW.out.lex.at|exact (HW.out.lex.drewN _).at) (by omega) (by first|exact pin1|exact pin2) (by omega) (by first|exact J1|exact K1)).mono ?_;rintro e w' ⟨rfl,n,rfl⟩)
               | (go_at_call 83;refine (dig_z _ _ _ (by first|exact J2|exact K2)).mono ?_;rintro e w' ⟨rfl,rfl⟩)
               | (go_at_call 76;refine (peekIs_z _ _ _ (by first|exact HW.out.lex.at|exact (HW.out.lex.drewN _).at) (by omega) (by omega) (by omega) (by omega) (by first|exact S43|exact S45)).mono ?_;rintro e w' ⟨rfl,n,rfl⟩))
              go_meet
              exact ⟨by rw [HX2.out.1],by rw [HX2.out.2],HW.out.lex.drewN _,grown_drewN HW.out.grown _⟩
             ·have K2:=dig_dec hd2
              have HX2:=Lib.hid (show NumAt false s x.at_ R (k+2) false true by
               have h:=HX.out
               rw [if_pos (by simp [lx.dig] at hd2;omega)] at h
               exact h)
              clear hd2 hnb2 HX
              generalize s[x.at_+(k+2)]=d at *
              go_wp2_with (first
               | (go_at_call 78;refine (peekOk_z _ _ (by first|exact HW.out.lex.at|exact (HW.out.lex.drewN _).at) (by omega) (by omega) (by omega) (by omega) (by first|exact J0|exact K0)).mono ?_;rintro e w' ⟨rfl,n,rfl⟩)
               | (go_at_call 80;refine (peek_z _ _ (by first|exact HW.out.lex.at|exact (HW.out.lex.drewN _).at) (by omega) (by first|exact pin1|exact pin2) (by omega) (by first|exact J1|exact K1)).mono ?_;rintro e w' ⟨rfl,n,rfl⟩)
               | (go_at_call 83;refine (dig_z _ _ _ (by first|exact J2|exact K2)).mono ?_;rintro e w' ⟨rfl,rfl⟩)
               | (go_at_call 76;refine (peekIs_z _ _ _ (by first|exact HW.out.lex.at|exact (HW.out.lex.drewN _).at) (by omega) (by omega) (by omega) (by omega) (by first|exact S43|exact S45)).mono ?_;rintro e w' ⟨rfl,n,rfl⟩))
              go_round
              case rel=>exact ⟨k+2,false,true,by go_num,rfl,rfl,HX2.out,⟨HW.out.lex.drewN _,grown_drewN HW.out.grown _⟩,by omega⟩
              case measure=>simp [intOf];omega
            ·have K0:Hid (inB s (x.at_+((k:Int)+2).toNat)=false):=by
              have e:((k:Int)+2).toNat=k+2:=by omega
              show _=_
              rw [e];simp [inB];omega
             have HX2:=Lib.hid (show R.1=k∧R.2=false by
              have h:=HX.out
              rw [nb_out s x.at_ (k+2) hin2,if_neg (by omega)] at h
              exact h)
             clear HX
             go_wp2_with (first
              | (go_at_call 78;refine (peekOk_z _ _ (by first|exact HW.out.lex.at|exact (HW.out.lex.drewN _).at) (by omega) (by omega) (by omega) (by omega) (by first|exact J0|exact K0)).mono ?_;rintro e w' ⟨rfl,n,rfl⟩)
              | (go_at_call 80;refine (peek_z _ _ (by first|exact HW.out.lex.at|exact (HW.out.lex.drewN _).at) (by omega) (by first|exact pin1) (by omega) (by first|exact J1)).mono ?_;rintro e w' ⟨rfl,n,rfl⟩)
              | (go_at_call 83;refine (dig_z _ _ _ (by first|exact J2)).mono ?_;rintro e w' ⟨rfl,rfl⟩)
              | (go_at_call 76;refine (peekIs_z _ _ _ (by first|exact HW.out.lex.at|exact (HW.out.lex.drewN _).at) (by omega) (by omega) (by omega) (by omega) (by first|exact S43|exact S45)).mono ?_;rintro e w' ⟨rfl,n,rfl⟩))
             go_meet
             exact ⟨by rw [HX2.out.1],by rw [HX2.out.2],HW.out.lex.drewN _,grown_drewN HW.out.grown _⟩
         ·have S43:Hid (isB s (x.at_+((k:Int)+1).toNat) 43=false):=by show _=_;rw [e1,hsg _ _ (by omega) (by omega)];simp;omega
          have S45:Hid (isB s (x.at_+((k:Int)+1).toNat) 45=false):=by show _=_;rw [e1,hsg _ _ (by omega) (by omega)];simp;omega
          have HX:=HX0.out
          rw [if_neg (by omega)] at HX
          have HX:=Lib.hid HX
          clear HX0 hsg e1 h43 h45 n46 B1
          rcases hz with hz|hz
          iterate 2
           ·rw [hz] at J1 J2
            by_cases hin2:x.at_+(k+1)<s.size
            ·have K0:Hid (inB s (x.at_+((k:Int)+1).toNat)=true):=by
              have e:((k:Int)+1).toNat=k+1:=by omega
              show _=_
              rw [e];simp [inB];omega
             have K1:Hid (bt s (x.at_+((k:Int)+1).toNat)=(s[x.at_+(k+1)].toNat:Int)):=by
              have e:((k:Int)+1).toNat=k+1:=by omega
              show _=_
              rw [e];exact bt_in hin2
             have pin2:x.at_+((k:Int)+1).toNat<s.size:=by omega
             have hnb2:lx.nb (rest s x.at_) (k+1)=s[x.at_+(k+1)].toNat:=by
              have e:=nb_in s x.at_ (k+1) hin2
              rw [bt_in hin2] at e
              omega
             rw [hnb2] at HX
             cases hd2:lx.dig s[x.at_+(k+1)]
             ·have K2:=dig_dec hd2
              have HX2:=Lib.hid (show R.1=k∧R.2=false by
               have h:=HX.out
               rw [if_neg (by simp [lx.dig] at hd2;omega)] at h
               exact h)
              clear hd2 hnb2 HX
              generalize s[x.at_+(k+1)]=d at *
              go_wp2_with (first
               | (go_at_call 78;refine (peekOk_z _ _ (by first|exact HW.out.lex.at|exact (HW.out.lex.drewN _).at) (by omega) (by omega) (by omega) (by omega) (by first|exact J0|exact K0)).mono ?_;rintro e w' ⟨rfl,n,rfl⟩)
               | (go_at_call 80;refine (peek_z _ _ (by first|exact HW.out.lex.at|exact (HW.out.lex.drewN _).at) (by omega) (by first|exact pin1|exact pin2) (by omega) (by first|exact J1|exact K1)).mono ?_;rintro e w' ⟨rfl,n,rfl⟩)
               | (go_at_call 83;refine (dig_z _ _ _ (by first|exact J2|exact K2)).mono ?_;rintro e w' ⟨rfl,rfl⟩)
               | (go_at_call 76;refine (peekIs_z _ _ _ (by first|exact HW.out.lex.at|exact (HW.out.lex.drewN _).at) (by omega) (by omega) (by omega) (by omega) (by first|exact S43|exact S45)).mono ?_;rintro e w' ⟨rfl,n,rfl⟩))
              go_meet
              exact ⟨by rw [HX2.out.1],by rw [HX2.out.2],HW.out.lex.drewN _,grown_drewN HW.out.grown _⟩
             ·have K2:=dig_dec hd2
              have HX2:=Lib.hid (show NumAt false s x.at_ R (k+1) false true by
               have h:=HX.out
               rw [if_pos (by simp [lx.dig] at hd2;omega)] at h
               exact h)
              clear hd2 hnb2 HX
              generalize s[x.at_+(k+1)]=d at *
              go_wp2_with (first
               | (go_at_call 78;refine (peekOk_z _ _ (by first|exact HW.out.lex.at|exact (HW.out.lex.drewN _).at) (by omega) (by omega) (by omega) (by omega) (by first|exact J0|exact K0)).mono ?_;rintro e w' ⟨rfl,n,rfl⟩)
               | (go_at_call 80;refine (peek_z _ _ (by first|exact HW.out.lex.at|exact (HW.out.lex.drewN _).at) (by omega) (by first|exact pin1|exact pin2) (by omega) (by first|exact J1|exact K1)).mono ?_;rintro e w' ⟨rfl,n,rfl⟩)
               | (go_at_call 83;refine (dig_z _ _ _ (by first|exact J2|exact K2)).mono ?_;rintro e w' ⟨rfl,rfl⟩)
               | (go_at_call 76;refine (peekIs_z _ _ _ (by first|exact HW.out.lex.at|exact (HW.out.lex.drewN _).at) (by omega) (by omega) (by omega) (by omega) (by first|exact S43|exact S45)).mono ?_;rintro e w' ⟨rfl,n,rfl⟩))
              go_round
              case rel=>exact ⟨k+1,false,true,by go_num,rfl,rfl,HX2.out,⟨HW.out.lex.drewN _,grown_drewN HW.out.grown _⟩,by omega⟩
              case measure=>simp [intOf];omega
            ·have K0:Hid (inB s (x.at_+((k:Int)+1).toNat)=false):=by
              have e:((k:Int)+1).toNat=k+1:=by omega
              show _=_
              rw [e];simp [inB];omega
             have HX2:=Lib.hid (show R.1=k∧R.2=false by
              have h:=HX.out
              rw [nb_out s x.at_ (k+1) hin2,if_neg (by omega)] at h
              exact h)
             clear HX
             go_wp2_with (first
              | (go_at_call 78;refine (peekOk_z _ _ (by first|exact HW.out.lex.at|exact (HW.out.lex.drewN _).at) (by omega) (by omega) (by omega) (by omega) (by first|exact J0|exact K0)).mono ?_;rintro e w' ⟨rfl,n,rfl⟩)
              | (go_at_call 80;refine (peek_z _ _ (by first|exact HW.out.lex.at|exact (HW.out.lex.drewN _).at) (by omega) (by first|exact pin1) (by omega) (by first|exact J1)).mono ?_;rintro e w' ⟨rfl,n,rfl⟩)
              | (go_at_call 83;refine (dig_z _ _ _ (by first|exact J2)).mono ?_;rintro e w' ⟨rfl,rfl⟩)
              | (go_at_call 76;refine (peekIs_z _ _ _ (by first|exact HW.out.lex.at|exact (HW.out.lex.drewN _).at) (by omega) (by omega) (by omega) (by omega) (by first|exact S43|exact S45)).mono ?_;rintro e w' ⟨rfl,n,rfl⟩))
             go_meet
             exact ⟨by rw [HX2.out.1],by rw [HX2.out.2],HW.out.lex.drewN _,grown_drewN HW.out.grown _⟩
       ·have HX0:=Lib.hid (HN.out.expo hin hE)
        have hz:(s[x.at_+k].toNat:Int)=69∨(s[x.at_+k].toNat:Int)=101:=by omega
        have n46:¬((s[x.at_+k].toNat:Int)=46):=by omega
        clear hd hdot hE
        generalize s[x.at_+k]=c at *
        have hsg:∀i:Nat,∀z:Int,0≤z→z≤255→isB s (x.at_+i) z=decide ((lx.nb (rest s x.at_) i:Int)=z):=fun i z _ h=>isB_nb s x.at_ i z h
        have e1:((k:Int)+1).toNat=k+1:=by omega
        by_cases h43:lx.nb (rest s x.at_) (k+1)=43
        ·have S43:Hid (isB s (x.at_+((k:Int)+1).toNat) 43=true):=by show _=_;rw [e1,hsg _ _ (by omega) (by omega),h43];rfl
         have S45:True:=trivial
         have HX:=HX0.out
         rw [if_pos (.inl h43)] at HX
         have HX:=Lib.hid HX
         clear HX0 hsg e1 h43 n46 B1
         rcases hz with hz|hz
         iterate 2
          ·rw [hz] at J1 J2
           by_cases hin2:x.at_+(k+2)<s.size
           ·have K0:Hid (inB s (x.at_+((k:Int)+2).toNat)=true):=by
             have e:((k:Int)+2).toNat=k+2:=by omega
             show _=_
             rw [e];simp [inB];omega
            have K1:Hid (bt s (x.at_+((k:Int)+2).toNat)=(s[x.at_+(k+2)].toNat:Int)):=by
             have e:((k:Int)+2).toNat=k+2:=by omega
             show _=_
             rw [e];exact bt_in hin2
            have pin2:x.at_+((k:Int)+2).toNat<s.size:=by omega
            have hnb2:lx.nb (rest s x.at_) (k+2)=s[x.at_+(k+2)].toNat:=by
             have e:=nb_in s x.at_ (k+2) hin2
             rw [bt_in hin2] at e
             omega
            rw [hnb2] at HX
            cases hd2:lx.dig s[x.at_+(k+2)]
            ·have K2:=dig_dec hd2
             have HX2:=Lib.hid (show R.1=k∧R.2=true by
              have h:=HX.out
              rw [if_neg (by simp [lx.dig] at hd2;omega)] at h
              exact h)
             clear hd2 hnb2 HX
             generalize s[x.at_+(k+2)]=d at *
             go_wp2_with (first
              | (go_at_call 78;refine (peekOk_z _ _ (by first|exact HW.out.lex.at|exact (HW.out.lex.drewN _).at) (by omega) (by omega) (by omega) (by omega) (by first|exact J0|exact K0)).mono ?_;rintro e w' ⟨rfl,n,rfl⟩)
              | (go_at_call 80;refine (peek_z _ _ (by first|exact HW.out.lex.at|exact (HW.out.lex.drewN _).at) (by omega) (by first|exact pin1|exact pin2) (by omega) (by first|exact J1|exact K1)).mono ?_;rintro e w' ⟨rfl,n,rfl⟩)
              | (go_at_call 83;refine (dig_z _ _ _ (by first|exact J2|exact K2)).mono ?_;rintro e w' ⟨rfl,rfl⟩)
              | (go_at_call 76;refine (peekIs_z _ _ _ (by first|exact HW.out.lex.at|exact (HW.out.lex.drewN _).at) (by omega) (by omega) (by omega) (by omega) (by first|exact S43|exact S45)).mono ?_;rintro e w' ⟨rfl,n,rfl⟩))
             go_meet
             exact ⟨by rw [HX2.out.1],by rw [HX2.out.2],HW.out.lex.drewN _,grown_drewN HW.out.grown _⟩
            ·have K2:=dig_dec hd2
             have HX2:=Lib.hid (show NumAt false s x.at_ R (k+2) false true by
              have h:=HX.out
              rw [if_pos (by simp [lx.dig] at hd2;omega)] at h
              exact h)
             clear hd2 hnb2 HX
             generalize s[x.at_+(k+2)]=d at *
             go_wp2_with (first
              | (go_at_call 78;refine (peekOk_z _ _ (by first|exact HW.out.lex.at|exact (HW.out.lex.drewN _).at) (by omega) (by omega) (by omega) (by omega) (by first|exact J0|exact K0)).mono ?_;rintro e w' ⟨rfl,n,rfl⟩)
              | (go_at_call 80;refine (peek_z _ _ (by first|exact HW.out.lex.at|exact (HW.out.lex.drewN _).at) (by omega) (by first|exact pin1|exact pin2) (by omega) (by first|exact J1|exact K1)).mono ?_;rintro e w' ⟨rfl,n,rfl⟩)
              | (go_at_call 83;refine (dig_z _ _ _ (by first|exact J2|exact K2)).mono ?_;rintro e w' ⟨rfl,rfl⟩)
              | (go_at_call 76;refine (peekIs_z _ _ _ (by first|exact HW.out.lex.at|exact (HW.out.lex.drewN _).at) (by omega) (by omega) (by omega) (by omega) (by first|exact S43|exact S45)).mono ?_;rintro e w' ⟨rfl,n,rfl⟩))
             go_round
             case rel=>exact ⟨k+2,false,true,by go_num,rfl,rfl,HX2.out,⟨HW.out.lex.drewN _,grown_drewN HW.out.grown _⟩,by omega⟩
             case measure=>simp [intOf];omega
           ·have K0:Hid (inB s (x.at_+((k:Int)+2).toNat)=false):=by
             have e:((k:Int)+2).toNat=k+2:=by omega
             show _=_
             rw [e];simp [inB];omega
            have HX2:=Lib.hid (show R.1=k∧R.2=true by
             have h:=HX.out
             rw [nb_out s x.at_ (k+2) hin2,if_neg (by omega)] at h
             exact h)
            clear HX
            go_wp2_with (first
             | (go_at_call 78;refine (peekOk_z _ _ (by first|exact HW.out.lex.at|exact (HW.out.lex.drewN _).at) (by omega) (by omega) (by omega) (by omega) (by first|exact J0|exact K0)).mono ?_;rintro e w' ⟨rfl,n,rfl⟩)
             | (go_at_call 80;refine (peek_z _ _ (by first|exact HW.out.lex.at|exact (HW.out.lex.drewN _).at) (by omega) (by first|exact pin1) (by omega) (by first|exact J1)).mono ?_;rintro e w' ⟨rfl,n,rfl⟩)
             | (go_at_call 83;refine (dig_z _ _ _ (by first|exact J2)).mono ?_;rintro e w' ⟨rfl,rfl⟩)
             | (go_at_call 76;refine (peekIs_z _ _ _ (by first|exact HW.out.lex.at|exact (HW.out.lex.drewN _).at) (by omega) (by omega) (by omega) (by omega) (by first|exact S43|exact S45)).mono ?_;rintro e w' ⟨rfl,n,rfl⟩))
            go_meet
            exact ⟨by rw [HX2.out.1],by rw [HX2.out.2],HW.out.lex.drewN _,grown_drewN HW.out.grown _⟩
        ·by_cases h45:lx.nb (rest s x.at_) (k+1)=45
         ·have S43:Hid (isB s (x.at_+((k:Int)+1).toNat) 43=false):=by show _=_;rw [e1,hsg _ _ (by omega) (by omega)];simp;omega
          have S45:Hid (isB s (x.at_+((k:Int)+1).toNat) 45=true):=by show _=_;rw [e1,hsg _ _ (by omega) (by omega),h45];rfl
          have HX:=HX0.out
          rw [if_pos (.inr h45)] at HX
          have HX:=Lib.hid HX
          clear HX0 hsg e1 h43 h45 n46 B1
          rcases hz with hz|hz
          iterate 2
           ·rw [hz] at J1 J2
            by_cases hin2:x.at_+(k+2)<s.size
            ·have K0:Hid (inB s (x.at_+((k:Int)+2).toNat)=true):=by
              have e:((k:Int)+2).toNat=k+2:=by omega
              show _=_
              rw [e];simp [inB];omega
             have K1:Hid (bt s (x.at_+((k:Int)+2).toNat)=(s[x.at_+(k+2)].toNat:Int)):=by
              have e:((k:Int)+2).toNat=k+2:=by omega
              show _=_
              rw [e];exact bt_in hin2
             have pin2:x.at_+((k:Int)+2).toNat<s.size:=by omega
             have hnb2:lx.nb (rest s x.at_) (k+2)=s[x.at_+(k+2)].toNat:=by
              have e:=nb_in s x.at_ (k+2) hin2
              rw [bt_in hin2] at e
              omega
             rw [hnb2] at HX
             cases hd2:lx.dig s[x.at_+(k+2)]
             ·have K2:=dig_dec hd2
              have HX2:=Lib.hid (show R.1=k∧R.2=true by
               have h:=HX.out
               rw [if_neg (by simp [lx.dig] at hd2;omega)] at h
               exact h)
              clear hd2 hnb2 HX
              generalize s[x.at_+(k+2)]=d at *
              go_wp2_with (first
               | (go_at_call 78;refine (peekOk_z _ _ (by first|exact HW.out.lex.at|exact (HW.out.lex.drewN _).at) (by omega) (by omega) (by omega) (by omega) (by first|exact J0|exact K0)).mono ?_;rintro e w' ⟨rfl,n,rfl⟩)
               | (go_at_call 80;refine (peek_z _ _ (by first|exact HW.out.lex.at|exact (HW.out.lex.drewN _).at) (by omega) (by first|exact pin1|exact pin2) (by omega) (by first|exact J1|exact K1)).mono ?_;rintro e w' ⟨rfl,n,rfl⟩)
               | (go_at_call 83;refine (dig_z _ _ _ (by first|exact J2|exact K2)).mono ?_;rintro e w' ⟨rfl,rfl⟩)
               | (go_at_call 76;refine (peekIs_z _ _ _ (by first|exact HW.out.lex.at|exact (HW.out.lex.drewN _).at) (by omega) (by omega) (by omega) (by omega) (by first|exact S43|exact S45)).mono ?_;rintro e w' ⟨rfl,n,rfl⟩))
              go_meet
              exact ⟨by rw [HX2.out.1],by rw [HX2.out.2],HW.out.lex.drewN _,grown_drewN HW.out.grown _⟩
             ·have K2:=dig_dec hd2
              have HX2:=Lib.hid (show NumAt false s x.at_ R (k+2) false true by
               have h:=HX.out
               rw [if_pos (by simp [lx.dig] at hd2;omega)] at h
               exact h)
              clear hd2 hnb2 HX
              generalize s[x.at_+(k+2)]=d at *
              go_wp2_with (first
               | (go_at_call 78;refine (peekOk_z _ _ (by first|exact HW.out.lex.at|exact (HW.out.lex.drewN _).at) (by omega) (by omega) (by omega) (by omega) (by first|exact J0|exact K0)).mono ?_;rintro e w' ⟨rfl,n,rfl⟩)
               | (go_at_call 80;refine (peek_z _ _ (by first|exact HW.out.lex.at|exact (HW.out.lex.drewN _).at) (by omega) (by first|exact pin1|exact pin2) (by omega) (by first|exact J1|exact K1)).mono ?_;rintro e w' ⟨rfl,n,rfl⟩)
               | (go_at_call 83;refine (dig_z _ _ _ (by first|exact J2|exact K2)).mono ?_;rintro e w' ⟨rfl,rfl⟩)
               | (go_at_call 76;refine (peekIs_z _ _ _ (by first|exact HW.out.lex.at|exact (HW.out.lex.drewN _).at) (by omega) (by omega) (by omega) (by omega) (by first|exact S43|exact S45)).mono ?_;rintro e w' ⟨rfl,n,rfl⟩))
              go_round
              case rel=>exact ⟨k+2,false,true,by go_num,rfl,rfl,HX2.out,⟨HW.out.lex.drewN _,grown_drewN HW.out.grown _⟩,by omega⟩
              case measure=>simp [intOf];omega
            ·have K0:Hid (inB s (x.at_+((k:Int)+2).toNat)=false):=by
              have e:((k:Int)+2).toNat=k+2:=by omega
              show _=_
              rw [e];simp [inB];omega
             have HX2:=Lib.hid (show R.1=k∧R.2=true by
              have h:=HX.out
              rw [nb_out s x.at_ (k+2) hin2,if_neg (by omega)] at h
              exact h)
             clear HX
             go_wp2_with (first
              | (go_at_call 78;refine (peekOk_z _ _ (by first|exact HW.out.lex.at|exact (HW.out.lex.drewN _).at) (by omega) (by omega) (by omega) (by omega) (by first|exact J0|exact K0)).mono ?_;rintro e w' ⟨rfl,n,rfl⟩)
              | (go_at_call 80;refine (peek_z _ _ (by first|exact HW.out.lex.at|exact (HW.out.lex.drewN _).at) (by omega) (by first|exact pin1) (by omega) (by first|exact J1)).mono ?_;rintro e w' ⟨rfl,n,rfl⟩)
              | (go_at_call 83;refine (dig_z _ _ _ (by first|exact J2)).mono ?_;rintro e w' ⟨rfl,rfl⟩)
              | (go_at_call 76;refine (peekIs_z _ _ _ (by first|exact HW.out.lex.at|exact (HW.out.lex.drewN _).at) (by omega) (by omega) (by omega) (by omega) (by first|exact S43|exact S45)).mono ?_;rintro e w' ⟨rfl,n,rfl⟩))
             go_meet
             exact ⟨by rw [HX2.out.1],by rw [HX2.out.2],HW.out.lex.drewN _,grown_drewN HW.out.grown _⟩
         ·have S43:Hid (isB s (x.at_+((k:Int)+1).toNat) 43=false):=by show _=_;rw [e1,hsg _ _ (by omega) (by omega)];simp;omega
          have S45:Hid (isB s (x.at_+((k:Int)+1).toNat) 45=false):=by show _=_;rw [e1,hsg _ _ (by omega) (by omega)];simp;omega
          have HX:=HX0.out
          rw [if_neg (by omega)] at HX
          have HX:=Lib.hid HX
          clear HX0 hsg e1 h43 h45 n46 B1
          rcases hz with hz|hz
          iterate 2
           ·rw [hz] at J1 J2
            by_cases hin2:x.at_+(k+1)<s.size
            ·have K0:Hid (inB s (x.at_+((k:Int)+1).toNat)=true):=by
              have e:((k:Int)+1).toNat=k+1:=by omega
              show _=_
              rw [e];simp [inB];omega
             have K1:Hid (bt s (x.at_+((k:Int)+1).toNat)=(s[x.at_+(k+1)].toNat:Int)):=by
              have e:((k:Int)+1).toNat=k+1:=by omega
              show _=_
              rw [e];exact bt_in hin2
             have pin2:x.at_+((k:Int)+1).toNat<s.size:=by omega
             have hnb2:lx.nb (rest s x.at_) (k+1)=s[x.at_+(k+1)].toNat:=by
              have e:=nb_in s x.at_ (k+1) hin2
              rw [bt_in hin2] at e
              omega
             rw [hnb2] at HX
             cases hd2:lx.dig s[x.at_+(k+1)]
             ·have K2:=dig_dec hd2
              have HX2:=Lib.hid (show R.1=k∧R.2=true by
               have h:=HX.out
               rw [if_neg (by simp [lx.dig] at hd2;omega)] at h
               exact h)
              clear hd2 hnb2 HX
              generalize s[x.at_+(k+1)]=d at *
              go_wp2_with (first
               | (go_at_call 78;refine (peekOk_z _ _ (by first|exact HW.out.lex.at|exact (HW.out.lex.drewN _).at) (by omega) (by omega) (by omega) (by omega) (by first|exact J0|exact K0)).mono ?_;rintro e w' ⟨rfl,n,rfl⟩)
               | (go_at_call 80;refine (peek_z _ _ (by first|exact HW.out.lex.at|exact (HW.out.lex.drewN _).at) (by omega) (by first|exact pin1|exact pin2) (by omega) (by first|exact J1|exact K1)).mono ?_;rintro e w' ⟨rfl,n,rfl⟩)
               | (go_at_call 83;refine (dig_z _ _ _ (by first|exact J2|exact K2)).mono ?_;rintro e w' ⟨rfl,rfl⟩)
               | (go_at_call 76;refine (peekIs_z _ _ _ (by first|exact HW.out.lex.at|exact (HW.out.lex.drewN _).at) (by omega) (by omega) (by omega) (by omega) (by first|exact S43|exact S45)).mono ?_;rintro e w' ⟨rfl,n,rfl⟩))
              go_meet
              exact ⟨by rw [HX2.out.1],by rw [HX2.out.2],HW.out.lex.drewN _,grown_drewN HW.out.grown _⟩
             ·have K2:=dig_dec hd2
              have HX2:=Lib.hid (show NumAt false s x.at_ R (k+1) false true by
               have h:=HX.out
               rw [if_pos (by simp [lx.dig] at hd2;omega)] at h
               exact h)
              clear hd2 hnb2 HX
              generalize s[x.at_+(k+1)]=d at *
              go_wp2_with (first
               | (go_at_call 78;refine (peekOk_z _ _ (by first|exact HW.out.lex.at|exact (HW.out.lex.drewN _).at) (by omega) (by omega) (by omega) (by omega) (by first|exact J0|exact K0)).mono ?_;rintro e w' ⟨rfl,n,rfl⟩)
               | (go_at_call 80;refine (peek_z _ _ (by first|exact HW.out.lex.at|exact (HW.out.lex.drewN _).at) (by omega) (by first|exact pin1|exact pin2) (by omega) (by first|exact J1|exact K1)).mono ?_;rintro e w' ⟨rfl,n,rfl⟩)
               | (go_at_call 83;refine (dig_z _ _ _ (by first|exact J2|exact K2)).mono ?_;rintro e w' ⟨rfl,rfl⟩)
               | (go_at_call 76;refine (peekIs_z _ _ _ (by first|exact HW.out.lex.at|exact (HW.out.lex.drewN _).at) (by omega) (by omega) (by omega) (by omega) (by first|exact S43|exact S45)).mono ?_;rintro e w' ⟨rfl,n,rfl⟩))
              go_round
              case rel=>exact ⟨k+1,false,true,by go_num,rfl,rfl,HX2.out,⟨HW.out.lex.drewN _,grown_drewN HW.out.grown _⟩,by omega⟩
              case measure=>simp [intOf];omega
            ·have K0:Hid (inB s (x.at_+((k:Int)+1).toNat)=false):=by
              have e:((k:Int)+1).toNat=k+1:=by omega
              show _=_
              rw [e];simp [inB];omega
             have HX2:=Lib.hid (show R.1=k∧R.2=true by
              have h:=HX.out
              rw [nb_out s x.at_ (k+1) hin2,if_neg (by omega)] at h
              exact h)
             clear HX
             go_wp2_with (first
              | (go_at_call 78;refine (peekOk_z _ _ (by first|exact HW.out.lex.at|exact (HW.out.lex.drewN _).at) (by omega) (by omega) (by omega) (by omega) (by first|exact J0|exact K0)).mono ?_;rintro e w' ⟨rfl,n,rfl⟩)
              | (go_at_call 80;refine (peek_z _ _ (by first|exact HW.out.lex.at|exact (HW.out.lex.drewN _).at) (by omega) (by first|exact pin1) (by omega) (by first|exact J1)).mono ?_;rintro e w' ⟨rfl,n,rfl⟩)
              | (go_at_call 83;refine (dig_z _ _ _ (by first|exact J2)).mono ?_;rintro e w' ⟨rfl,rfl⟩)
              | (go_at_call 76;refine (peekIs_z _ _ _ (by first|exact HW.out.lex.at|exact (HW.out.lex.drewN _).at) (by omega) (by omega) (by omega) (by omega) (by first|exact S43|exact S45)).mono ?_;rintro e w' ⟨rfl,n,rfl⟩))
             go_meet
             exact ⟨by rw [HX2.out.1],by rw [HX2.out.2],HW.out.lex.drewN _,grown_drewN HW.out.grown _⟩
      ·have HX:=Lib.hid (HN.out.other hin hd hdot hexp)
       have hdot':exp=true∨int=false∨¬((s[x.at_+k].toNat:Int)=46):=by
        cases exp <;> cases int <;> simp at hdot ⊢ <;> omega
       have hexp':exp=true∨(¬((s[x.at_+k].toNat:Int)=69)∧¬((s[x.at_+k].toNat:Int)=101)):=by
        cases exp <;> simp at hexp ⊢ <;> omega
       clear hd hdot hexp
       generalize s[x.at_+k]=c at *
       cases exp
       ·rcases hexp' with h|⟨n69,n101⟩
        ·cases h
        ·have b69:(((c.toNat:Int))==69)=false:=by simp;omega
         have b101:(((c.toNat:Int))==101)=false:=by simp;omega
         rcases hdot' with h|h|n46
         ·cases h
         ·subst h
          go_wp2_with (first
           | (go_at_call 78;refine (peekOk_z _ _ (by first|exact HW.out.lex.at|exact (HW.out.lex.drewN _).at) (by omega) (by omega) (by omega) (by omega) (by first|exact J0)).mono ?_;rintro e w' ⟨rfl,n,rfl⟩)
           | (go_at_call 80;refine (peek_z _ _ (by first|exact HW.out.lex.at|exact (HW.out.lex.drewN _).at) (by omega) (by first|exact pin1) (by omega) (by first|exact J1)).mono ?_;rintro e w' ⟨rfl,n,rfl⟩)
           | (go_at_call 83;refine (dig_z _ _ _ (by first|exact J2)).mono ?_;rintro e w' ⟨rfl,rfl⟩))
          go_meet
          exact ⟨by rw [HX.out.1],by rw [HX.out.2],HW.out.lex.drewN _,grown_drewN HW.out.grown _⟩
         ·cases int
          all_goals go_wp2_with (first
           | (go_at_call 78;refine (peekOk_z _ _ (by first|exact HW.out.lex.at|exact (HW.out.lex.drewN _).at) (by omega) (by omega) (by omega) (by omega) (by first|exact J0)).mono ?_;rintro e w' ⟨rfl,n,rfl⟩)
           | (go_at_call 80;refine (peek_z _ _ (by first|exact HW.out.lex.at|exact (HW.out.lex.drewN _).at) (by omega) (by first|exact pin1) (by omega) (by first|exact J1)).mono ?_;rintro e w' ⟨rfl,n,rfl⟩)
           | (go_at_call 83;refine (dig_z _ _ _ (by first|exact J2)).mono ?_;rintro e w' ⟨rfl,rfl⟩))
          all_goals go_meet
          all_goals exact ⟨by rw [HX.out.1],by rw [HX.out.2],HW.out.lex.drewN _,grown_drewN HW.out.grown _⟩
       ·clear hexp' hdot'
        go_wp2_with (first
         | (go_at_call 78;refine (peekOk_z _ _ (by first|exact HW.out.lex.at|exact (HW.out.lex.drewN _).at) (by omega) (by omega) (by omega) (by omega) (by first|exact J0)).mono ?_;rintro e w' ⟨rfl,n,rfl⟩)
         | (go_at_call 80;refine (peek_z _ _ (by first|exact HW.out.lex.at|exact (HW.out.lex.drewN _).at) (by omega) (by first|exact pin1) (by omega) (by first|exact J1)).mono ?_;rintro e w' ⟨rfl,n,rfl⟩)
         | (go_at_call 83;refine (dig_z _ _ _ (by first|exact J2)).mono ?_;rintro e w' ⟨rfl,rfl⟩))
        go_meet
        exact ⟨by rw [HX.out.1],by rw [HX.out.2],HW.out.lex.drewN _,grown_drewN HW.out.grown _⟩
    ·have HX:=Lib.hid (HN.out.dig hin hd)
     have J2:=dig_dec hd
     clear hd
     generalize s[x.at_+k]=c at *
     go_wp2_with (first
      | (go_at_call 78;refine (peekOk_z _ _ (by first|exact HW.out.lex.at|exact (HW.out.lex.drewN _).at) (by omega) (by omega) (by omega) (by omega) (by first|exact J0)).mono ?_;rintro e w' ⟨rfl,n,rfl⟩)
      | (go_at_call 80;refine (peek_z _ _ (by first|exact HW.out.lex.at|exact (HW.out.lex.drewN _).at) (by omega) (by first|exact pin1) (by omega) (by first|exact J1)).mono ?_;rintro e w' ⟨rfl,n,rfl⟩)
      | (go_at_call 83;refine (dig_z _ _ _ (by first|exact J2)).mono ?_;rintro e w' ⟨rfl,rfl⟩))
     go_round
     case rel=>exact ⟨k+1,int,exp,by go_num,rfl,rfl,HX.out,⟨HW.out.lex.drewN _,grown_drewN HW.out.grown _⟩,by omega⟩
     case measure=>simp [intOf];omega
   ·have J0:Hid (inB s (x.at_+(k:Int).toNat)=false):=by show _=_;simp [inB];omega
    have HX:=Lib.hid (HN.out.last hin)
    go_wp2_with (go_at_call 78;refine (peekOk_z _ _ (by first|exact HW.out.lex.at|exact (HW.out.lex.drewN _).at) (by omega) (by omega) (by omega) (by omega) J0).mono ?_;rintro e w' ⟨rfl,n,rfl⟩)
    go_meet
    exact ⟨by rw [HX.out.1],by rw [HX.out.2],HW.out.lex.drewN _,grown_drewN HW.out.grown _⟩
 case rest =>
  obtain ⟨rfl,rfl,HK⟩:=hcut
  cases hint:R.2
  ·have HO:=Lib.hid (show lx.number np (rest s x.at_)=if lx.isId (lx.nb (rest s x.at_) R.1) then (if np then .bad R.1 else .fault) else .tok lx.kFloat R.1 [] 0 none by
    unfold lx.number
    simp only [hb16.out,Bool.false_eq_true,if_false,hR.out,hint])
   have HL8:=Lib.hid (HK.out.lex.set 9 (.int .i64 ((x.at_+R.1:Nat):Int)) { x with at_:=x.at_+R.1 } rfl pl)
   have HG8:=Lib.hid (grown_set HK.out.grown 9 (.int .i64 ((x.at_+R.1:Nat):Int)))
   go_upto_region 25 with (go_at_call 75;refine (skipN_named R.1 _ HK.out.lex.at.pos (HK.out.lex.free 9) (by omega) (by omega) rfl).mono ?_;rintro e w7 ⟨rfl,hw⟩;rw [hw] at HL8 HG8;have HL7:=HL8;have HG7:=HG8;clear hw HL8 HG8)
   have c1:w7.cell? ⟨b,1,none⟩=some (.string x.kind):=HL7.out.cell 1
   have c6:w7.cell? ⟨b,6,none⟩=some (.int .i64 x.base):=HL7.out.cell 6
   have f1:w7.frozen? ⟨b,1,none⟩=false:=HL7.out.free 1
   have f6:w7.frozen? ⟨b,6,none⟩=false:=HL7.out.free 6
   obtain ⟨x8,hx8⟩:∃y:St,Hid (y={ x with at_:=x.at_+R.1,kind:=⟨#[60,102,108,111,97,116,62]⟩ }):=⟨_,rfl⟩
   have hp8:x8.at_=x.at_+R.1:=by rw [hx8.out]
   have HL9:=Lib.hid (HL7.out.set 1 (.string ⟨#[60,102,108,111,97,116,62]⟩) { x with at_:=x.at_+R.1,kind:=⟨#[60,102,108,111,97,116,62]⟩ } rfl pl)
   have HG9:=Lib.hid (grown_set HG7.out 1 (.string ⟨#[60,102,108,111,97,116,62]⟩))
   rw [←hx8.out] at HL9
   go_wp2_with fail
   generalize w7.setCell ⟨b,1,none⟩ (.string ⟨#[60,102,108,111,97,116,62]⟩)=w8 at HL9 HG9 ⊢
   have hsz8:x8.at_≤s.size:=by omega
   have d1:∀n,(w8.drewN n).cell? ⟨b,1,none⟩=some (.string x8.kind):=fun n=>HL9.out.cell 1
   have g1:∀n,(w8.drewN n).frozen? ⟨b,1,none⟩=false:=fun n=>HL9.out.free 1
   by_cases hend:x8.at_<s.size
   ·have hnb:lx.nb (rest s x.at_) R.1=s[x8.at_].toNat:=by
     have e:=nb_in s x.at_ R.1 (by omega)
     rw [←hp8,bt_in hend] at e
     omega
    rw [hnb] at HO
    have J0:Hid (inB s (x8.at_+(0:Int).toNat)=true):=by show _=_;simp [inB,hend]
    have J1:Hid (bt s (x8.at_+(0:Int).toNat)=(s[x8.at_].toNat:Int)):=by show bt s (x8.at_+0)=_;exact bt_in hend
    have hid0:lx.isId s[x8.at_].toNat=lx.idP s[x8.at_]:=rfl
    rw [hid0] at HO
    clear hnb hid0
    have hpk:x8.at_+(0:Int).toNat<s.size:=by simpa using hend
    cases hid:lx.idP s[x8.at_]
    ·have JP:=Lib.hid hid
     rw [hid] at HO
     clear hid
     generalize s[x8.at_]=c at J1 JP
     go_wp2_with (first
      | (go_at_call 78;refine (peekOk_z _ _ (by first|exact HL9.out.at|exact (HL9.out.drewN _).at) (by omega) (by omega) (by omega) (by omega) J0).mono ?_;rintro e w' ⟨rfl,n,rfl⟩)
      | (go_at_call 80;refine (peek_z _ _ (by first|exact HL9.out.at|exact (HL9.out.drewN _).at) (by omega) hpk (by omega) J1).mono ?_;rintro e w' ⟨rfl,n,rfl⟩)
      | (go_at_call 79;refine (part_named c _ _ JP).mono ?_;rintro e w' ⟨rfl,rfl⟩))
     (first|go_end0|go_ret)
     rw [HO.out]
     have hL:=HL9.out
     rw [hx8.out,hx,hb] at hL
     exact ⟨rfl,hL.drewN _,grown_drewN HG9.out _⟩
    ·have JP:=Lib.hid hid
     rw [hid] at HO
     clear hid
     generalize s[x8.at_]=c at J1 JP
     cases np
     ·go_wp2_with (first
       | (go_at_call 78;refine (peekOk_z _ _ (by first|exact HL9.out.at|exact (HL9.out.drewN _).at) (by omega) (by omega) (by omega) (by omega) J0).mono ?_;rintro e w' ⟨rfl,n,rfl⟩)
       | (go_at_call 80;refine (peek_z _ _ (by first|exact HL9.out.at|exact (HL9.out.drewN _).at) (by omega) hpk (by omega) J1).mono ?_;rintro e w' ⟨rfl,n,rfl⟩)
       | (go_at_call 79;refine (part_named c _ _ JP).mono ?_;rintro e w' ⟨rfl,rfl⟩)
       | (go_at_call 110;refine (panicf_any (HL9.out.drewN _) _).mono ?_;rintro e w' ⟨m,rfl,hm⟩;have HM:=Lib.hid hm;clear hm))
      rw [HO.out]
      exact ⟨rfl,Faults.trans (Grown2.of (grown_drewN HG9.out _)) ⟨m,rfl,HM.out⟩⟩
     ·go_wp2_with (first
       | (go_at_call 78;refine (peekOk_z _ _ (by first|exact HL9.out.at|exact (HL9.out.drewN _).at) (by omega) (by omega) (by omega) (by omega) J0).mono ?_;rintro e w' ⟨rfl,n,rfl⟩)
       | (go_at_call 80;refine (peek_z _ _ (by first|exact HL9.out.at|exact (HL9.out.drewN _).at) (by omega) hpk (by omega) J1).mono ?_;rintro e w' ⟨rfl,n,rfl⟩)
       | (go_at_call 79;refine (part_named c _ _ JP).mono ?_;rintro e w' ⟨rfl,rfl⟩))
      (first|go_end0|go_ret)
      rw [HO.out]
      refine ⟨{ x8 with kind:=⟨#[60,98,97,100,62]⟩ },by rw [hx8.out];exact ⟨rfl,rfl,rfl,rfl,rfl,rfl,rfl,rfl,rfl⟩,rfl, ?_,grown_set (grown_drewN HG9.out _) 1 _⟩
      exact (HL9.out.drewN _).set 1 _ _ rfl hsz8
   ·have hnb:lx.nb (rest s x.at_) R.1=256:=nb_out s x.at_ R.1 (by omega)
    have J0:Hid (inB s (x8.at_+(0:Int).toNat)=false):=by show _=_;simp [inB];omega
    rw [hnb] at HO
    go_wp2_with (go_at_call 78;refine (peekOk_z _ _ (by first|exact HL9.out.at|exact (HL9.out.drewN _).at) (by omega) (by omega) (by omega) (by omega) J0).mono ?_;rintro e w' ⟨rfl,n,rfl⟩)
    (first|go_end0|go_ret)
    rw [HO.out]
    have hL:=HL9.out
    rw [hx8.out,hx,hb] at hL
    exact ⟨rfl,hL.drewN _,grown_drewN HG9.out _⟩
  ·have HO:=Lib.hid (show lx.number np (rest s x.at_)=if lx.isId (lx.nb (rest s x.at_) R.1) then (if np then .bad R.1 else .fault) else .tok lx.kInt R.1 [] 10 none by
    unfold lx.number
    simp only [hb16.out,Bool.false_eq_true,if_false,hR.out,hint,if_true])
   have HL8:=Lib.hid (HK.out.lex.set 9 (.int .i64 ((x.at_+R.1:Nat):Int)) { x with at_:=x.at_+R.1 } rfl pl)
   have HG8:=Lib.hid (grown_set HK.out.grown 9 (.int .i64 ((x.at_+R.1:Nat):Int)))
   go_upto_region 25 with (go_at_call 75;refine (skipN_named R.1 _ HK.out.lex.at.pos (HK.out.lex.free 9) (by omega) (by omega) rfl).mono ?_;rintro e w7 ⟨rfl,hw⟩;rw [hw] at HL8 HG8;have HL7:=HL8;have HG7:=HG8;clear hw HL8 HG8)
   have c1:w7.cell? ⟨b,1,none⟩=some (.string x.kind):=HL7.out.cell 1
   have c6:w7.cell? ⟨b,6,none⟩=some (.int .i64 x.base):=HL7.out.cell 6
   have f1:w7.frozen? ⟨b,1,none⟩=false:=HL7.out.free 1
   have f6:w7.frozen? ⟨b,6,none⟩=false:=HL7.out.free 6
   obtain ⟨x8,hx8⟩:∃y:St,Hid (y={ x with at_:=x.at_+R.1,kind:=⟨#[60,105,110,116,62]⟩,base:=10 }):=⟨_,rfl⟩
   have hp8:x8.at_=x.at_+R.1:=by rw [hx8.out]
   have HL9:=Lib.hid ((HL7.out.set 1 (.string ⟨#[60,105,110,116,62]⟩) { x with at_:=x.at_+R.1,kind:=⟨#[60,105,110,116,62]⟩ } rfl pl).set 6 (.int .i64 10) { x with at_:=x.at_+R.1,kind:=⟨#[60,105,110,116,62]⟩,base:=10 } rfl pl)
   have HG9:=Lib.hid (grown_set (grown_set HG7.out 1 (.string ⟨#[60,105,110,116,62]⟩)) 6 (.int .i64 10))
   rw [←hx8.out] at HL9
   go_wp2_with fail
   generalize (w7.setCell ⟨b,1,none⟩ (.string ⟨#[60,105,110,116,62]⟩)).setCell ⟨b,6,none⟩ (.int .i64 10)=w8 at HL9 HG9 ⊢
   have hsz8:x8.at_≤s.size:=by omega
   have d1:∀n,(w8.drewN n).cell? ⟨b,1,none⟩=some (.string x8.kind):=fun n=>HL9.out.cell 1
   have g1:∀n,(w8.drewN n).frozen? ⟨b,1,none⟩=false:=fun n=>HL9.out.free 1
   by_cases hend:x8.at_<s.size
   ·have hnb:lx.nb (rest s x.at_) R.1=s[x8.at_].toNat:=by
     have e:=nb_in s x.at_ R.1 (by omega)
     rw [←hp8,bt_in hend] at e
     omega
    rw [hnb] at HO
    have J0:Hid (inB s (x8.at_+(0:Int).toNat)=true):=by show _=_;simp [inB,hend]
    have J1:Hid (bt s (x8.at_+(0:Int).toNat)=(s[x8.at_].toNat:Int)):=by show bt s (x8.at_+0)=_;exact bt_in hend
    have hid0:lx.isId s[x8.at_].toNat=lx.idP s[x8.at_]:=rfl
    rw [hid0] at HO
    clear hnb hid0
    have hpk:x8.at_+(0:Int).toNat<s.size:=by simpa using hend
    cases hid:lx.idP s[x8.at_]
    ·have JP:=Lib.hid hid
     rw [hid] at HO
     clear hid
     generalize s[x8.at_]=c at J1 JP
     go_wp2_with (first
      | (go_at_call 78;refine (peekOk_z _ _ (by first|exact HL9.out.at|exact (HL9.out.drewN _).at) (by omega) (by omega) (by omega) (by omega) J0).mono ?_;rintro e w' ⟨rfl,n,rfl⟩)
      | (go_at_call 80;refine (peek_z _ _ (by first|exact HL9.out.at|exact (HL9.out.drewN _).at) (by omega) hpk (by omega) J1).mono ?_;rintro e w' ⟨rfl,n,rfl⟩)
      | (go_at_call 79;refine (part_named c _ _ JP).mono ?_;rintro e w' ⟨rfl,rfl⟩))
     (first|go_end0|go_ret)
     rw [HO.out]
     have hL:=HL9.out
     rw [hx8.out,hx] at hL
     exact ⟨rfl,hL.drewN _,grown_drewN HG9.out _⟩
    ·have JP:=Lib.hid hid
     rw [hid] at HO
     clear hid
     generalize s[x8.at_]=c at J1 JP
     cases np
     ·go_wp2_with (first
       | (go_at_call 78;refine (peekOk_z _ _ (by first|exact HL9.out.at|exact (HL9.out.drewN _).at) (by omega) (by omega) (by omega) (by omega) J0).mono ?_;rintro e w' ⟨rfl,n,rfl⟩)
       | (go_at_call 80;refine (peek_z _ _ (by first|exact HL9.out.at|exact (HL9.out.drewN _).at) (by omega) hpk (by omega) J1).mono ?_;rintro e w' ⟨rfl,n,rfl⟩)
       | (go_at_call 79;refine (part_named c _ _ JP).mono ?_;rintro e w' ⟨rfl,rfl⟩)
       | (go_at_call 110;refine (panicf_any (HL9.out.drewN _) _).mono ?_;rintro e w' ⟨m,rfl,hm⟩;have HM:=Lib.hid hm;clear hm))
      rw [HO.out]
      exact ⟨rfl,Faults.trans (Grown2.of (grown_drewN HG9.out _)) ⟨m,rfl,HM.out⟩⟩
     ·go_wp2_with (first
       | (go_at_call 78;refine (peekOk_z _ _ (by first|exact HL9.out.at|exact (HL9.out.drewN _).at) (by omega) (by omega) (by omega) (by omega) J0).mono ?_;rintro e w' ⟨rfl,n,rfl⟩)
       | (go_at_call 80;refine (peek_z _ _ (by first|exact HL9.out.at|exact (HL9.out.drewN _).at) (by omega) hpk (by omega) J1).mono ?_;rintro e w' ⟨rfl,n,rfl⟩)
       | (go_at_call 79;refine (part_named c _ _ JP).mono ?_;rintro e w' ⟨rfl,rfl⟩))
      (first|go_end0|go_ret)
      rw [HO.out]
      refine ⟨{ x8 with kind:=⟨#[60,98,97,100,62]⟩ },by rw [hx8.out];exact ⟨rfl,rfl,rfl,rfl,rfl,rfl,rfl,rfl,rfl⟩,rfl, ?_,grown_set (grown_drewN HG9.out _) 1 _⟩
      exact (HL9.out.drewN _).set 1 _ _ rfl hsz8
   ·have hnb:lx.nb (rest s x.at_) R.1=256:=nb_out s x.at_ R.1 (by omega)
    have J0:Hid (inB s (x8.at_+(0:Int).toNat)=false):=by show _=_;simp [inB];omega
    rw [hnb] at HO
    go_wp2_with (go_at_call 78;refine (peekOk_z _ _ (by first|exact HL9.out.at|exact (HL9.out.drewN _).at) (by omega) (by omega) (by omega) (by omega) J0).mono ?_;rintro e w' ⟨rfl,n,rfl⟩)
    (first|go_end0|go_ret)
    rw [HO.out]
    have hL:=HL9.out
    rw [hx8.out,hx] at hL
    exact ⟨rfl,hL.drewN _,grown_drewN HG9.out _⟩
set_option maxHeartbeats 6000000 in
set_option maxRecDepth 100000 in
theorem number10b_any {w:World} {B b f:Nat} {s:ByteArray} {x:St} (np:Bool) (h:LexS w B b f s x) (h16:¬(lx.nb (rest s x.at_) 0=48∧(lx.nb (rest s x.at_) 1=120∨lx.nb (rest s x.at_) 1=88))) (hx:x.str=⟨#[]⟩) (hb:x.base=0) (hcase:lx.nb (rest s x.at_) 0=48) :
  Calls Tryz.prog 84 #[.pointer (some ⟨b,0,none⟩),.bool np] w (TokPost B b f s x (lx.number np (rest s x.at_)) w):=by
 have HL:=Lib.hid h
 have SZ:=h.sz
 have LE:=h.le
 clear h
 obtain ⟨v0,I0⟩:∃v,Hid (isB s (x.at_+0) 48=v):=⟨_,rfl⟩
 obtain ⟨v1,I1⟩:∃v,Hid (isB s (x.at_+1) 120=v):=⟨_,rfl⟩
 obtain ⟨v2,I2⟩:∃v,Hid (isB s (x.at_+1) 88=v):=⟨_,rfl⟩
 have hv:v0=true∧v1=false∧v2=false:=by
  have a0:=I0.out
  have a1:=I1.out
  have a2:=I2.out
  rw [isB_nb s x.at_ 0 48 (by omega)] at a0
  rw [isB_nb s x.at_ 1 120 (by omega)] at a1
  rw [isB_nb s x.at_ 1 88 (by omega)] at a2
  exact ⟨by rw [←a0,hcase];rfl,by rw [←a1];simp;omega,by rw [←a2];simp;omega⟩
 have hb16:Hid ((decide (lx.nb (rest s x.at_) 0=48)&&(decide (lx.nb (rest s x.at_) 1=120)||decide (lx.nb (rest s x.at_) 1=88)))=false):=by
  show _=_
  rw [Bool.eq_false_iff]
  intro hh
  simp at hh
  exact h16 hh
 clear h16 hcase
 obtain ⟨R,hR⟩:∃R,Hid (lx.numScan false (rest s x.at_).length true false (rest s x.at_)=R):=⟨_,rfl⟩
 have pl:x.at_+R.1≤s.size:=by
  have:=numScan_le false (rest s x.at_).length true false (rest s x.at_)
  rw [hR.out,rest_length] at this
  omega
 have hN:=Lib.hid (show NumAt false s x.at_ R 0 true false from ⟨(rest s x.at_).length,Nat.le_refl _,by show _+0=_;rw [Nat.add_zero];show (lx.numScan _ _ _ _ (rest s x.at_)).1=_;rw [hR.out],by show (lx.numScan _ _ _ _ (rest s x.at_)).2=_;rw [hR.out]⟩)
 go_enter Tryz.func84,Tryz.ntmps84
 have hv':v0=true∧v1=false∧v2=false:=hv
 clear hv
 obtain ⟨rfl,rfl,rfl⟩:=hv'
 go_upto_block 0 with (go_at_call 76;refine (peekIs_z _ _ _ (by first|exact HL.out.at|exact (HL.out.drewN _).at) (by omega) (by omega) (by omega) (by omega) (by first|exact I0|exact I1|exact I2)).mono ?_;rintro e w' ⟨rfl,n,rfl⟩)
 go_cut [4,6,7,8,9] from 27 to 106 (fun i t u c r wx=>i=.int .i64 (R.1:Int)∧t=.bool R.2∧Hid (Held w B b f s x wx))
 case first =>
  go_wp2_with fail
  go_loopw [4,6,7] (fun i t u wr=>∃(k:Nat) (int exp:Bool),i=.int .i64 (k:Int)∧t=.bool int∧u=.bool exp∧Hid (NumAt false s x.at_ R k int exp)∧Hid (Held w B b f s x wr)∧x.at_+k≤s.size) (fun i _ _ _=>s.size-(intOf i).toNat)
  case atStart=>exact ⟨0,true,false,rfl,rfl,rfl,hN.out,⟨HL.out.drewN _,grown_drewN (grown_refl w (some b)) _⟩,LE⟩
  case round =>
   obtain ⟨k,int,exp,rfl,rfl,rfl,HN,HW,hk⟩:=hrel
   by_cases hin:x.at_+k<s.size
   ·have J0:Hid (inB s (x.at_+(k:Int).toNat)=true):=by show _=_;simp [inB,hin]
    have J1:Hid (bt s (x.at_+(k:Int).toNat)=(s[x.at_+k].toNat:Int)):=by show bt s (x.at_+k)=_;exact bt_in hin
    have pin1:x.at_+(k:Int).toNat<s.size:=by simpa using hin
    have B1:(s[x.at_+k].toNat:Int)≤255:=by have:=s[x.at_+k].toNat_lt;omega
    cases hd:lx.dig s[x.at_+k]
    ·have J2:=dig_dec hd
     by_cases hdot:exp=false∧int=true∧s[x.at_+k].toNat=46
     ·obtain ⟨rfl,rfl,h46⟩:=hdot
      have HX:=Lib.hid (HN.out.dot hin h46)
      have hz:(s[x.at_+k].toNat:Int)=46:=by omega
      rw [hz] at J1
      have J2:Hid (decide ((48:Int)≤46∧(46:Int)≤57)=false):=by show _=_;decide
      clear hd h46 hz B1
      go_wp2_with (first
       | (go_at_call 78;refine (peekOk_z _ _ (by first|exact HW.out.lex.at|exact (HW.out.lex.drewN _).at) (by omega) (by omega) (by omega) (by omega) (by first|exact J0)).mono ?_;rintro e w' ⟨rfl,n,rfl⟩)
       | (go_at_call 80;refine (peek_z _ _ (by first|exact HW.out.lex.at|exact (HW.out.lex.drewN _).at) (by omega) (by first|exact pin1) (by omega) (by first|exact J1)).mono ?_;rintro e w' ⟨rfl,n,rfl⟩)
       | (go_at_call 83;refine (dig_z _ _ _ (by first|exact J2)).mono ?_;rintro e w' ⟨rfl,rfl⟩))
      go_round
      case rel=>exact ⟨k+1,false,false,by go_num,rfl,rfl,HX.out,⟨HW.out.lex.drewN _,grown_drewN HW.out.grown _⟩,by omega⟩
      case measure=>simp [intOf];omega
     ·by_cases hexp:exp=false∧(s[x.at_+k].toNat=69∨s[x.at_+k].toNat=101)
      ·obtain ⟨rfl,hE⟩:=hexp
       cases int
       ·have HX0:=Lib.hid (HN.out.expo hin hE)
        have hz:(s[x.at_+k].toNat:Int)=69∨(s[x.at_+k].toNat:Int)=101:=by omega
        have n46:¬((s[x.at_+k].toNat:Int)=46):=by omega
        clear hd hdot hE
        generalize s[x.at_+k]=c at *
        have hsg:∀i:Nat,∀z:Int,0≤z→z≤255→isB s (x.at_+i) z=decide ((lx.nb (rest s x.at_) i:Int)=z):=fun i z _ h=>isB_nb s x.at_ i z h
        have e1:((k:Int)+1).toNat=k+1:=by omega
        by_cases h43:lx.nb (rest s x.at_) (k+1)=43
        ·have S43:Hid (isB s (x.at_+((k:Int)+1).toNat) 43=true):=by show _=_;rw [e1,hsg _ _ (by omega) (by omega),h43];rfl
         have S45:True:=trivial
         have HX:=HX0.out
         rw [if_pos (.inl h43)] at HX
         have HX:=Lib.hid HX
         clear HX0 hsg e1 h43 n46 B1
         rcases hz with hz|hz
         iterate 2
          ·rw [hz] at J1 J2
           by_cases hin2:x.at_+(k+2)<s.size
           ·have K0:Hid (inB s (x.at_+((k:Int)+2).toNat)=true):=by
             have e:((k:Int)+2).toNat=k+2:=by omega
             show _=_
             rw [e];simp [inB];omega
            have K1:Hid (bt s (x.at_+((k:Int)+2).toNat)=(s[x.at_+(k+2)].toNat:Int)):=by
             have e:((k:Int)+2).toNat=k+2:=by omega
             show _=_
             rw [e];exact bt_in hin2
            have pin2:x.at_+((k:Int)+2).toNat<s.size:=by omega
            have hnb2:lx.nb (rest s x.at_) (k+2)=s[x.at_+(k+2)].toNat:=by
             have e:=nb_in s x.at_ (k+2) hin2
             rw [bt_in hin2] at e
             omega
            rw [hnb2] at HX
            cases hd2:lx.dig s[x.at_+(k+2)]
            ·have K2:=dig_dec hd2
             have HX2:=Lib.hid (show R.1=k∧R.2=false by
              have h:=HX.out
              rw [if_neg (by simp [lx.dig] at hd2;omega)] at h
              exact h)
             clear hd2 hnb2 HX
             generalize s[x.at_+(k+2)]=d at *
             go_wp2_with (first
              | (go_at_call 78;refine (peekOk_z _ _ (by first|exact HW.out.lex.at|exact (HW.out.lex.drewN _).at) (by omega) (by omega) (by omega) (by omega) (by first|exact J0|exact K0)).mono ?_;rintro e w' ⟨rfl,n,rfl⟩)
              | (go_at_call 80;refine (peek_z _ _ (by first|exact HW.out.lex.at|exact (HW.out.lex.drewN _).at) (by omega) (by first|exact pin1|exact pin2) (by omega) (by first|exact J1|exact K1)).mono ?_;rintro e w' ⟨rfl,n,rfl⟩)
              | (go_at_call 83;refine (dig_z _ _ _ (by first|exact J2|exact K2)).mono ?_;rintro e w' ⟨rfl,rfl⟩)
              | (go_at_call 76;refine (peekIs_z _ _ _ (by first|exact HW.out.lex.at|exact (HW.out.lex.drewN _).at) (by omega) (by omega) (by omega) (by omega) (by first|exact S43|exact S45)).mono ?_;rintro e w' ⟨rfl,n,rfl⟩))
             go_meet
             exact ⟨by rw [HX2.out.1],by rw [HX2.out.2],HW.out.lex.drewN _,grown_drewN HW.out.grown _⟩
            ·have K2:=dig_dec hd2
             have HX2:=Lib.hid (show NumAt false s x.at_ R (k+2) false true by
              have h:=HX.out
              rw [if_pos (by simp [lx.dig] at hd2;omega)] at h
              exact h)
             clear hd2 hnb2 HX
             generalize s[x.at_+(k+2)]=d at *
             go_wp2_with (first
              | (go_at_call 78;refine (peekOk_z _ _ (by first|exact HW.out.lex.at|exact (HW.out.lex.drewN _).at) (by omega) (by omega) (by omega) (by omega) (by first|exact J0|exact K0)).mono ?_;rintro e w' ⟨rfl,n,rfl⟩)
              | (go_at_call 80;refine (peek_z _ _ (by first|exact HW.out.lex.at|exact (HW.out.lex.drewN _).at) (by omega) (by first|exact pin1|exact pin2) (by omega) (by first|exact J1|exact K1)).mono ?_;rintro e w' ⟨rfl,n,rfl⟩)
              | (go_at_call 83;refine (dig_z _ _ _ (by first|exact J2|exact K2)).mono ?_;rintro e w' ⟨rfl,rfl⟩)
              | (go_at_call 76;refine (peekIs_z _ _ _ (by first|exact HW.out.lex.at|exact (HW.out.lex.drewN _).at) (by omega) (by omega) (by omega) (by omega) (by first|exact S43|exact S45)).mono ?_;rintro e w' ⟨rfl,n,rfl⟩))
             go_round
             case rel=>exact ⟨k+2,false,true,by go_num,rfl,rfl,HX2.out,⟨HW.out.lex.drewN _,grown_drewN HW.out.grown _⟩,by omega⟩
             case measure=>simp [intOf];omega
           ·have K0:Hid (inB s (x.at_+((k:Int)+2).toNat)=false):=by
             have e:((k:Int)+2).toNat=k+2:=by omega
             show _=_
             rw [e];simp [inB];omega
            have HX2:=Lib.hid (show R.1=k∧R.2=false by
             have h:=HX.out
             rw [nb_out s x.at_ (k+2) hin2,if_neg (by omega)] at h
             exact h)
            clear HX
            go_wp2_with (first
             | (go_at_call 78;refine (peekOk_z _ _ (by first|exact HW.out.lex.at|exact (HW.out.lex.drewN _).at) (by omega) (by omega) (by omega) (by omega) (by first|exact J0|exact K0)).mono ?_;rintro e w' ⟨rfl,n,rfl⟩)
             | (go_at_call 80;refine (peek_z _ _ (by first|exact HW.out.lex.at|exact (HW.out.lex.drewN _).at) (by omega) (by first|exact pin1) (by omega) (by first|exact J1)).mono ?_;rintro e w' ⟨rfl,n,rfl⟩)
             | (go_at_call 83;refine (dig_z _ _ _ (by first|exact J2)).mono ?_;rintro e w' ⟨rfl,rfl⟩)
             | (go_at_call 76;refine (peekIs_z _ _ _ (by first|exact HW.out.lex.at|exact (HW.out.lex.drewN _).at) (by omega) (by omega) (by omega) (by omega) (by first|exact S43|exact S45)).mono ?_;rintro e w' ⟨rfl,n,rfl⟩))
            go_meet
            exact ⟨by rw [HX2.out.1],by rw [HX2.out.2],HW.out.lex.drewN _,grown_drewN HW.out.grown _⟩
        ·by_cases h45:lx.nb (rest s x.at_) (k+1)=45
         ·have S43:Hid (isB s (x.at_+((k:Int)+1).toNat) 43=false):=by show _=_;rw [e1,hsg _ _ (by omega) (by omega)];simp;omega
          have S45:Hid (isB s (x.at_+((k:Int)+1).toNat) 45=true):=by show _=_;rw [e1,hsg _ _ (by omega) (by omega),h45];rfl
          have HX:=HX0.out
          rw [if_pos (.inr h45)] at HX
          have HX:=Lib.hid HX
          clear HX0 hsg e1 h43 h45 n46 B1
          rcases hz with hz|hz
          iterate 2
           ·rw [hz] at J1 J2
            by_cases hin2:x.at_+(k+2)<s.size
            ·have K0:Hid (inB s (x.at_+((k:Int)+2).toNat)=true):=by
              have e:((k:Int)+2).toNat=k+2:=by omega
              show _=_
              rw [e];simp [inB];omega
             have K1:Hid (bt s (x.at_+((k:Int)+2).toNat)=(s[x.at_+(k+2)].toNat:Int)):=by
              have e:((k:Int)+2).toNat=k+2:=by omega
              show _=_
              rw [e];exact bt_in hin2
             have pin2:x.at_+((k:Int)+2).toNat<s.size:=by omega
             have hnb2:lx.nb (rest s x.at_) (k+2)=s[x.at_+(k+2)].toNat:=by
              have e:=nb_in s x.at_ (k+2) hin2
              rw [bt_in hin2] at e
              omega
             rw [hnb2] at HX
             cases hd2:lx.dig s[x.at_+(k+2)]
             ·have K2:=dig_dec hd2
              have HX2:=Lib.hid (show R.1=k∧R.2=false by
               have h:=HX.out
               rw [if_neg (by simp [lx.dig] at hd2;omega)] at h
               exact h)
              clear hd2 hnb2 HX
              generalize s[x.at_+(k+2)]=d at *
              go_wp2_with (first
               | (go_at_call 78;refine (peekOk_z _ _ (by first|exact HW.out.lex.at|exact (HW.out.lex.drewN _).at) (by omega) (by omega) (by omega) (by omega) (by first|exact J0|exact K0)).mono ?_;rintro e w' ⟨rfl,n,rfl⟩)
               | (go_at_call 80;refine (peek_z _ _ (by first|exact HW.out.lex.at|exact (HW.out.lex.drewN _).at) (by omega) (by first|exact pin1|exact pin2) (by omega) (by first|exact J1|exact K1)).mono ?_;rintro e w' ⟨rfl,n,rfl⟩)
               | (go_at_call 83;refine (dig_z _ _ _ (by first|exact J2|exact K2)).mono ?_;rintro e w' ⟨rfl,rfl⟩)
               | (go_at_call 76;refine (peekIs_z _ _ _ (by first|exact HW.out.lex.at|exact (HW.out.lex.drewN _).at) (by omega) (by omega) (by omega) (by omega) (by first|exact S43|exact S45)).mono ?_;rintro e w' ⟨rfl,n,rfl⟩))
              go_meet
              exact ⟨by rw [HX2.out.1],by rw [HX2.out.2],HW.out.lex.drewN _,grown_drewN HW.out.grown _⟩
             ·have K2:=dig_dec hd2
              have HX2:=Lib.hid (show NumAt false s x.at_ R (k+2) false true by
               have h:=HX.out
               rw [if_pos (by simp [lx.dig] at hd2;omega)] at h
               exact h)
              clear hd2 hnb2 HX
              generalize s[x.at_+(k+2)]=d at *
              go_wp2_with (first
               | (go_at_call 78;refine (peekOk_z _ _ (by first|exact HW.out.lex.at|exact (HW.out.lex.drewN _).at) (by omega) (by omega) (by omega) (by omega) (by first|exact J0|exact K0)).mono ?_;rintro e w' ⟨rfl,n,rfl⟩)
               | (go_at_call 80;refine (peek_z _ _ (by first|exact HW.out.lex.at|exact (HW.out.lex.drewN _).at) (by omega) (by first|exact pin1|exact pin2) (by omega) (by first|exact J1|exact K1)).mono ?_;rintro e w' ⟨rfl,n,rfl⟩)
               | (go_at_call 83;refine (dig_z _ _ _ (by first|exact J2|exact K2)).mono ?_;rintro e w' ⟨rfl,rfl⟩)
               | (go_at_call 76;refine (peekIs_z _ _ _ (by first|exact HW.out.lex.at|exact (HW.out.lex.drewN _).at) (by omega) (by omega) (by omega) (by omega) (by first|exact S43|exact S45)).mono ?_;rintro e w' ⟨rfl,n,rfl⟩))
              go_round
              case rel=>exact ⟨k+2,false,true,by go_num,rfl,rfl,HX2.out,⟨HW.out.lex.drewN _,grown_drewN HW.out.grown _⟩,by omega⟩
              case measure=>simp [intOf];omega
            ·have K0:Hid (inB s (x.at_+((k:Int)+2).toNat)=false):=by
              have e:((k:Int)+2).toNat=k+2:=by omega
              show _=_
              rw [e];simp [inB];omega
             have HX2:=Lib.hid (show R.1=k∧R.2=false by
              have h:=HX.out
              rw [nb_out s x.at_ (k+2) hin2,if_neg (by omega)] at h
              exact h)
             clear HX
             go_wp2_with (first
              | (go_at_call 78;refine (peekOk_z _ _ (by first|exact HW.out.lex.at|exact (HW.out.lex.drewN _).at) (by omega) (by omega) (by omega) (by omega) (by first|exact J0|exact K0)).mono ?_;rintro e w' ⟨rfl,n,rfl⟩)
              | (go_at_call 80;refine (peek_z _ _ (by first|exact HW.out.lex.at|exact (HW.out.lex.drewN _).at) (by omega) (by first|exact pin1) (by omega) (by first|exact J1)).mono ?_;rintro e w' ⟨rfl,n,rfl⟩)
              | (go_at_call 83;refine (dig_z _ _ _ (by first|exact J2)).mono ?_;rintro e w' ⟨rfl,rfl⟩)
              | (go_at_call 76;refine (peekIs_z _ _ _ (by first|exact HW.out.lex.at|exact (HW.out.lex.drewN _).at) (by omega) (by omega) (by omega) (by omega) (by first|exact S43|exact S45)).mono ?_;rintro e w' ⟨rfl,n,rfl⟩))
             go_meet
             exact ⟨by rw [HX2.out.1],by rw [HX2.out.2],HW.out.lex.drewN _,grown_drewN HW.out.grown _⟩
         ·have S43:Hid (isB s (x.at_+((k:Int)+1).toNat) 43=false):=by show _=_;rw [e1,hsg _ _ (by omega) (by omega)];simp;omega
          have S45:Hid (isB s (x.at_+((k:Int)+1).toNat) 45=false):=by show _=_;rw [e1,hsg _ _ (by omega) (by omega)];simp;omega
          have HX:=HX0.out
          rw [if_neg (by omega)] at HX
          have HX:=Lib.hid HX
          clear HX0 hsg e1 h43 h45 n46 B1
          rcases hz with hz|hz
          iterate 2
           ·rw [hz] at J1 J2
            by_cases hin2:x.at_+(k+1)<s.size
            ·have K0:Hid (inB s (x.at_+((k:Int)+1).toNat)=true):=by
              have e:((k:Int)+1).toNat=k+1:=by omega
              show _=_
              rw [e];simp [inB];omega
             have K1:Hid (bt s (x.at_+((k:Int)+1).toNat)=(s[x.at_+(k+1)].toNat:Int)):=by
              have e:((k:Int)+1).toNat=k+1:=by omega
              show _=_
              rw [e];exact bt_in hin2
             have pin2:x.at_+((k:Int)+1).toNat<s.size:=by omega
             have hnb2:lx.nb (rest s x.at_) (k+1)=s[x.at_+(k+1)].toNat:=by
              have e:=nb_in s x.at_ (k+1) hin2
              rw [bt_in hin2] at e
              omega
             rw [hnb2] at HX
             cases hd2:lx.dig s[x.at_+(k+1)]
             ·have K2:=dig_dec hd2
              have HX2:=Lib.hid (show R.1=k∧R.2=false by
               have h:=HX.out
               rw [if_neg (by simp [lx.dig] at hd2;omega)] at h
               exact h)
              clear hd2 hnb2 HX
              generalize s[x.at_+(k+1)]=d at *
              go_wp2_with (first
               | (go_at_call 78;refine (peekOk_z _ _ (by first|exact HW.out.lex.at|exact (HW.out.lex.drewN _).at) (by omega) (by omega) (by omega) (by omega) (by first|exact J0|exact K0)).mono ?_;rintro e w' ⟨rfl,n,rfl⟩)
               | (go_at_call 80;refine (peek_z _ _ (by first|exact HW.out.lex.at|exact (HW.out.lex.drewN _).at) (by omega) (by first|exact pin1|exact pin2) (by omega) (by first|exact J1|exact K1)).mono ?_;rintro e w' ⟨rfl,n,rfl⟩)
               | (go_at_call 83;refine (dig_z _ _ _ (by first|exact J2|exact K2)).mono ?_;rintro e w' ⟨rfl,rfl⟩)
               | (go_at_call 76;refine (peekIs_z _ _ _ (by first|exact HW.out.lex.at|exact (HW.out.lex.drewN _).at) (by omega) (by omega) (by omega) (by omega) (by first|exact S43|exact S45)).mono ?_;rintro e w' ⟨rfl,n,rfl⟩))
              go_meet
              exact ⟨by rw [HX2.out.1],by rw [HX2.out.2],HW.out.lex.drewN _,grown_drewN HW.out.grown _⟩
             ·have K2:=dig_dec hd2
              have HX2:=Lib.hid (show NumAt false s x.at_ R (k+1) false true by
               have h:=HX.out
               rw [if_pos (by simp [lx.dig] at hd2;omega)] at h
               exact h)
              clear hd2 hnb2 HX
              generalize s[x.at_+(k+1)]=d at *
              go_wp2_with (first
               | (go_at_call 78;refine (peekOk_z _ _ (by first|exact HW.out.lex.at|exact (HW.out.lex.drewN _).at) (by omega) (by omega) (by omega) (by omega) (by first|exact J0|exact K0)).mono ?_;rintro e w' ⟨rfl,n,rfl⟩)
               | (go_at_call 80;refine (peek_z _ _ (by first|exact HW.out.lex.at|exact (HW.out.lex.drewN _).at) (by omega) (by first|exact pin1|exact pin2) (by omega) (by first|exact J1|exact K1)).mono ?_;rintro e w' ⟨rfl,n,rfl⟩)
               | (go_at_call 83;refine (dig_z _ _ _ (by first|exact J2|exact K2)).mono ?_;rintro e w' ⟨rfl,rfl⟩)
               | (go_at_call 76;refine (peekIs_z _ _ _ (by first|exact HW.out.lex.at|exact (HW.out.lex.drewN _).at) (by omega) (by omega) (by omega) (by omega) (by first|exact S43|exact S45)).mono ?_;rintro e w' ⟨rfl,n,rfl⟩))
              go_round
              case rel=>exact ⟨k+1,false,true,by go_num,rfl,rfl,HX2.out,⟨HW.out.lex.drewN _,grown_drewN HW.out.grown _⟩,by omega⟩
              case measure=>simp [intOf];omega
            ·have K0:Hid (inB s (x.at_+((k:Int)+1).toNat)=false):=by
              have e:((k:Int)+1).toNat=k+1:=by omega
              show _=_
              rw [e];simp [inB];omega
             have HX2:=Lib.hid (show R.1=k∧R.2=false by
              have h:=HX.out
              rw [nb_out s x.at_ (k+1) hin2,if_neg (by omega)] at h
              exact h)
             clear HX
             go_wp2_with (first
              | (go_at_call 78;refine (peekOk_z _ _ (by first|exact HW.out.lex.at|exact (HW.out.lex.drewN _).at) (by omega) (by omega) (by omega) (by omega) (by first|exact J0|exact K0)).mono ?_;rintro e w' ⟨rfl,n,rfl⟩)
              | (go_at_call 80;refine (peek_z _ _ (by first|exact HW.out.lex.at|exact (HW.out.lex.drewN _).at) (by omega) (by first|exact pin1) (by omega) (by first|exact J1)).mono ?_;rintro e w' ⟨rfl,n,rfl⟩)
              | (go_at_call 83;refine (dig_z _ _ _ (by first|exact J2)).mono ?_;rintro e w' ⟨rfl,rfl⟩)
              | (go_at_call 76;refine (peekIs_z _ _ _ (by first|exact HW.out.lex.at|exact (HW.out.lex.drewN _).at) (by omega) (by omega) (by omega) (by omega) (by first|exact S43|exact S45)).mono ?_;rintro e w' ⟨rfl,n,rfl⟩))
             go_meet
             exact ⟨by rw [HX2.out.1],by rw [HX2.out.2],HW.out.lex.drewN _,grown_drewN HW.out.grown _⟩
       ·have HX0:=Lib.hid (HN.out.expo hin hE)
        have hz:(s[x.at_+k].toNat:Int)=69∨(s[x.at_+k].toNat:Int)=101:=by omega
        have n46:¬((s[x.at_+k].toNat:Int)=46):=by omega
        clear hd hdot hE
        generalize s[x.at_+k]=c at *
        have hsg:∀i:Nat,∀z:Int,0≤z→z≤255→isB s (x.at_+i) z=decide ((lx.nb (rest s x.at_) i:Int)=z):=fun i z _ h=>isB_nb s x.at_ i z h
        have e1:((k:Int)+1).toNat=k+1:=by omega
        by_cases h43:lx.nb (rest s x.at_) (k+1)=43
        ·have S43:Hid (isB s (x.at_+((k:Int)+1).toNat) 43=true):=by show _=_;rw [e1,hsg _ _ (by omega) (by omega),h43];rfl
         have S45:True:=trivial
         have HX:=HX0.out
         rw [if_pos (.inl h43)] at HX
         have HX:=Lib.hid HX
         clear HX0 hsg e1 h43 n46 B1
         rcases hz with hz|hz
         iterate 2
          ·rw [hz] at J1 J2
           by_cases hin2:x.at_+(k+2)<s.size
           ·have K0:Hid (inB s (x.at_+((k:Int)+2).toNat)=true):=by
             have e:((k:Int)+2).toNat=k+2:=by omega
             show _=_
             rw [e];simp [inB];omega
            have K1:Hid (bt s (x.at_+((k:Int)+2).toNat)=(s[x.at_+(k+2)].toNat:Int)):=by
             have e:((k:Int)+2).toNat=k+2:=by omega
             show _=_
             rw [e];exact bt_in hin2
            have pin2:x.at_+((k:Int)+2).toNat<s.size:=by omega
            have hnb2:lx.nb (rest s x.at_) (k+2)=s[x.at_+(k+2)].toNat:=by
             have e:=nb_in s x.at_ (k+2) hin2
             rw [bt_in hin2] at e
             omega
            rw [hnb2] at HX
            cases hd2:lx.dig s[x.at_+(k+2)]
            ·have K2:=dig_dec hd2
             have HX2:=Lib.hid (show R.1=k∧R.2=true by
              have h:=HX.out
              rw [if_neg (by simp [lx.dig] at hd2;omega)] at h
              exact h)
             clear hd2 hnb2 HX
             generalize s[x.at_+(k+2)]=d at *
             go_wp2_with (first
              | (go_at_call 78;refine (peekOk_z _ _ (by first|exact HW.out.lex.at|exact (HW.out.lex.drewN _).at) (by omega) (by omega) (by omega) (by omega) (by first|exact J0|exact K0)).mono ?_;rintro e w' ⟨rfl,n,rfl⟩)
              | (go_at_call 80;refine (peek_z _ _ (by first|exact HW.out.lex.at|exact (HW.out.lex.drewN _).at) (by omega) (by first|exact pin1|exact pin2) (by omega) (by first|exact J1|exact K1)).mono ?_;rintro e w' ⟨rfl,n,rfl⟩)
              | (go_at_call 83;refine (dig_z _ _ _ (by first|exact J2|exact K2)).mono ?_;rintro e w' ⟨rfl,rfl⟩)
              | (go_at_call 76;refine (peekIs_z _ _ _ (by first|exact HW.out.lex.at|exact (HW.out.lex.drewN _).at) (by omega) (by omega) (by omega) (by omega) (by first|exact S43|exact S45)).mono ?_;rintro e w' ⟨rfl,n,rfl⟩))
             go_meet
             exact ⟨by rw [HX2.out.1],by rw [HX2.out.2],HW.out.lex.drewN _,grown_drewN HW.out.grown _⟩
            ·have K2:=dig_dec hd2
             have HX2:=Lib.hid (show NumAt false s x.at_ R (k+2) false true by
              have h:=HX.out
              rw [if_pos (by simp [lx.dig] at hd2;omega)] at h
              exact h)
             clear hd2 hnb2 HX
             generalize s[x.at_+(k+2)]=d at *
             go_wp2_with (first
              | (go_at_call 78;refine (peekOk_z _ _ (by first|exact HW.out.lex.at|exact (HW.out.lex.drewN _).at) (by omega) (by omega) (by omega) (by omega) (by first|exact J0|exact K0)).mono ?_;rintro e w' ⟨rfl,n,rfl⟩)
              | (go_at_call 80;refine (peek_z _ _ (by first|exact HW.out.lex.at|exact (HW.out.lex.drewN _).at) (by omega) (by first|exact pin1|exact pin2) (by omega) (by first|exact J1|exact K1)).mono ?_;rintro e w' ⟨rfl,n,rfl⟩)
              | (go_at_call 83;refine (dig_z _ _ _ (by first|exact J2|exact K2)).mono ?_;rintro e w' ⟨rfl,rfl⟩)
              | (go_at_call 76;refine (peekIs_z _ _ _ (by first|exact HW.out.lex.at|exact (HW.out.lex.drewN _).at) (by omega) (by omega) (by omega) (by omega) (by first|exact S43|exact S45)).mono ?_;rintro e w' ⟨rfl,n,rfl⟩))
             go_round
             case rel=>exact ⟨k+2,false,true,by go_num,rfl,rfl,HX2.out,⟨HW.out.lex.drewN _,grown_drewN HW.out.grown _⟩,by omega⟩
             case measure=>simp [intOf];omega
           ·have K0:Hid (inB s (x.at_+((k:Int)+2).toNat)=false):=by
             have e:((k:Int)+2).toNat=k+2:=by omega
             show _=_
             rw [e];simp [inB];omega
            have HX2:=Lib.hid (show R.1=k∧R.2=true by
             have h:=HX.out
             rw [nb_out s x.at_ (k+2) hin2,if_neg (by omega)] at h
             exact h)
            clear HX
            go_wp2_with (first
             | (go_at_call 78;refine (peekOk_z _ _ (by first|exact HW.out.lex.at|exact (HW.out.lex.drewN _).at) (by omega) (by omega) (by omega) (by omega) (by first|exact J0|exact K0)).mono ?_;rintro e w' ⟨rfl,n,rfl⟩)
             | (go_at_call 80;refine (peek_z _ _ (by first|exact HW.out.lex.at|exact (HW.out.lex.drewN _).at) (by omega) (by first|exact pin1) (by omega) (by first|exact J1)).mono ?_;rintro e w' ⟨rfl,n,rfl⟩)
             | (go_at_call 83;refine (dig_z _ _ _ (by first|exact J2)).mono ?_;rintro e w' ⟨rfl,rfl⟩)
             | (go_at_call 76;refine (peekIs_z _ _ _ (by first|exact HW.out.lex.at|exact (HW.out.lex.drewN _).at) (by omega) (by omega) (by omega) (by omega) (by first|exact S43|exact S45)).mono ?_;rintro e w' ⟨rfl,n,rfl⟩))
            go_meet
            exact ⟨by rw [HX2.out.1],by rw [HX2.out.2],HW.out.lex.drewN _,grown_drewN HW.out.grown _⟩
        ·by_cases h45:lx.nb (rest s x.at_) (k+1)=45
         ·have S43:Hid (isB s (x.at_+((k:Int)+1).toNat) 43=false):=by show _=_;rw [e1,hsg _ _ (by omega) (by omega)];simp;omega
          have S45:Hid (isB s (x.at_+((k:Int)+1).toNat) 45=true):=by show _=_;rw [e1,hsg _ _ (by omega) (by omega),h45];rfl
          have HX:=HX0.out
          rw [if_pos (.inr h45)] at HX
          have HX:=Lib.hid HX
          clear HX0 hsg e1 h43 h45 n46 B1
          rcases hz with hz|hz
          iterate 2
           ·rw [hz] at J1 J2
            by_cases hin2:x.at_+(k+2)<s.size
            ·have K0:Hid (inB s (x.at_+((k:Int)+2).toNat)=true):=by
              have e:((k:Int)+2).toNat=k+2:=by omega
              show _=_
              rw [e];simp [inB];omega
             have K1:Hid (bt s (x.at_+((k:Int)+2).toNat)=(s[x.at_+(k+2)].toNat:Int)):=by
              have e:((k:Int)+2).toNat=k+2:=by omega
              show _=_
              rw [e];exact bt_in hin2
             have pin2:x.at_+((k:Int)+2).toNat<s.size:=by omega
             have hnb2:lx.nb (rest s x.at_) (k+2)=s[x.at_+(k+2)].toNat:=by
              have e:=nb_in s x.at_ (k+2) hin2
              rw [bt_in hin2] at e
              omega
             rw [hnb2] at HX
             cases hd2:lx.dig s[x.at_+(k+2)]
             ·have K2:=dig_dec hd2
              have HX2:=Lib.hid (show R.1=k∧R.2=true by
               have h:=HX.out
               rw [if_neg (by simp [lx.dig] at hd2;omega)] at h
               exact h)
              clear hd2 hnb2 HX
              generalize s[x.at_+(k+2)]=d at *
              go_wp2_with (first
               | (go_at_call 78;refine (peekOk_z _ _ (by first|exact HW.out.lex.at|exact (HW.out.lex.drewN _).at) (by omega) (by omega) (by omega) (by omega) (by first|exact J0|exact K0)).mono ?_;rintro e w' ⟨rfl,n,rfl⟩)
               | (go_at_call 80;refine (peek_z _ _ (by first|exact HW.out.lex.at|exact (HW.out.lex.drewN _).at) (by omega) (by first|exact pin1|exact pin2) (by omega) (by first|exact J1|exact K1)).mono ?_;rintro e w' ⟨rfl,n,rfl⟩)
               | (go_at_call 83;refine (dig_z _ _ _ (by first|exact J2|exact K2)).mono ?_;rintro e w' ⟨rfl,rfl⟩)
               | (go_at_call 76;refine (peekIs_z _ _ _ (by first|exact HW.out.lex.at|exact (HW.out.lex.drewN _).at) (by omega) (by omega) (by omega) (by omega) (by first|exact S43|exact S45)).mono ?_;rintro e w' ⟨rfl,n,rfl⟩))
              go_meet
              exact ⟨by rw [HX2.out.1],by rw [HX2.out.2],HW.out.lex.drewN _,grown_drewN HW.out.grown _⟩
             ·have K2:=dig_dec hd2
              have HX2:=Lib.hid (show NumAt false s x.at_ R (k+2) false true by
               have h:=HX.out
               rw [if_pos (by simp [lx.dig] at hd2;omega)] at h
               exact h)
              clear hd2 hnb2 HX
              generalize s[x.at_+(k+2)]=d at *
              go_wp2_with (first
               | (go_at_call 78;refine (peekOk_z _ _ (by first|exact HW.out.lex.at|exact (HW.out.lex.drewN _).at) (by omega) (by omega) (by omega) (by omega) (by first|exact J0|exact K0)).mono ?_;rintro e w' ⟨rfl,n,rfl⟩)
               | (go_at_call 80;refine (peek_z _ _ (by first|exact HW.out.lex.at|exact (HW.out.lex.drewN _).at) (by omega) (by first|exact pin1|exact pin2) (by omega) (by first|exact J1|exact K1)).mono ?_;rintro e w' ⟨rfl,n,rfl⟩)
               | (go_at_call 83;refine (dig_z _ _ _ (by first|exact J2|exact K2)).mono ?_;rintro e w' ⟨rfl,rfl⟩)
               | (go_at_call 76;refine (peekIs_z _ _ _ (by first|exact HW.out.lex.at|exact (HW.out.lex.drewN _).at) (by omega) (by omega) (by omega) (by omega) (by first|exact S43|exact S45)).mono ?_;rintro e w' ⟨rfl,n,rfl⟩))
              go_round
              case rel=>exact ⟨k+2,false,true,by go_num,rfl,rfl,HX2.out,⟨HW.out.lex.drewN _,grown_drewN HW.out.grown _⟩,by omega⟩
              case measure=>simp [intOf];omega
            ·have K0:Hid (inB s (x.at_+((k:Int)+2).toNat)=false):=by
              have e:((k:Int)+2).toNat=k+2:=by omega
              show _=_
              rw [e];simp [inB];omega
             have HX2:=Lib.hid (show R.1=k∧R.2=true by
              have h:=HX.out
              rw [nb_out s x.at_ (k+2) hin2,if_neg (by omega)] at h
              exact h)
             clear HX
             go_wp2_with (first
              | (go_at_call 78;refine (peekOk_z _ _ (by first|exact HW.out.lex.at|exact (HW.out.lex.drewN _).at) (by omega) (by omega) (by omega) (by omega) (by first|exact J0|exact K0)).mono ?_;rintro e w' ⟨rfl,n,rfl⟩)
              | (go_at_call 80;refine (peek_z _ _ (by first|exact HW.out.lex.at|exact (HW.out.lex.drewN _).at) (by omega) (by first|exact pin1) (by omega) (by first|exact J1)).mono ?_;rintro e w' ⟨rfl,n,rfl⟩)
              | (go_at_call 83;refine (dig_z _ _ _ (by first|exact J2)).mono ?_;rintro e w' ⟨rfl,rfl⟩)
              | (go_at_call 76;refine (peekIs_z _ _ _ (by first|exact HW.out.lex.at|exact (HW.out.lex.drewN _).at) (by omega) (by omega) (by omega) (by omega) (by first|exact S43|exact S45)).mono ?_;rintro e w' ⟨rfl,n,rfl⟩))
             go_meet
             exact ⟨by rw [HX2.out.1],by rw [HX2.out.2],HW.out.lex.drewN _,grown_drewN HW.out.grown _⟩
         ·have S43:Hid (isB s (x.at_+((k:Int)+1).toNat) 43=false):=by show _=_;rw [e1,hsg _ _ (by omega) (by omega)];simp;omega
          have S45:Hid (isB s (x.at_+((k:Int)+1).toNat) 45=false):=by show _=_;rw [e1,hsg _ _ (by omega) (by omega)];simp;omega
          have HX:=HX0.out
          rw [if_neg (by omega)] at HX
          have HX:=Lib.hid HX
          clear HX0 hsg e1 h43 h45 n46 B1
          rcases hz with hz|hz
          iterate 2
           ·rw [hz] at J1 J2
            by_cases hin2:x.at_+(k+1)<s.size
            ·have K0:Hid (inB s (x.at_+((k:Int)+1).toNat)=true):=by
              have e:((k:Int)+1).toNat=k+1:=by omega
              show _=_
              rw [e];simp [inB];omega
             have K1:Hid (bt s (x.at_+((k:Int)+1).toNat)=(s[x.at_+(k+1)].toNat:Int)):=by
              have e:((k:Int)+1).toNat=k+1:=by omega
              show _=_
              rw [e];exact bt_in hin2
             have pin2:x.at_+((k:Int)+1).toNat<s.size:=by omega
             have hnb2:lx.nb (rest s x.at_) (k+1)=s[x.at_+(k+1)].toNat:=by
              have e:=nb_in s x.at_ (k+1) hin2
              rw [bt_in hin2] at e
              omega
             rw [hnb2] at HX
             cases hd2:lx.dig s[x.at_+(k+1)]
             ·have K2:=dig_dec hd2
              have HX2:=Lib.hid (show R.1=k∧R.2=true by
               have h:=HX.out
               rw [if_neg (by simp [lx.dig] at hd2;omega)] at h
               exact h)
              clear hd2 hnb2 HX
              generalize s[x.at_+(k+1)]=d at *
              go_wp2_with (first
               | (go_at_call 78;refine (peekOk_z _ _ (by first|exact HW.out.lex.at|exact (HW.out.lex.drewN _).at) (by omega) (by omega) (by omega) (by omega) (by first|exact J0|exact K0)).mono ?_;rintro e w' ⟨rfl,n,rfl⟩)
               | (go_at_call 80;refine (peek_z _ _ (by first|exact HW.out.lex.at|exact (HW.out.lex.drewN _).at) (by omega) (by first|exact pin1|exact pin2) (by omega) (by first|exact J1|exact K1)).mono ?_;rintro e w' ⟨rfl,n,rfl⟩)
               | (go_at_call 83;refine (dig_z _ _ _ (by first|exact J2|exact K2)).mono ?_;rintro e w' ⟨rfl,rfl⟩)
               | (go_at_call 76;refine (peekIs_z _ _ _ (by first|exact HW.out.lex.at|exact (HW.out.lex.drewN _).at) (by omega) (by omega) (by omega) (by omega) (by first|exact S43|exact S45)).mono ?_;rintro e w' ⟨rfl,n,rfl⟩))
              go_meet
              exact ⟨by rw [HX2.out.1],by rw [HX2.out.2],HW.out.lex.drewN _,grown_drewN HW.out.grown _⟩
             ·have K2:=dig_dec hd2
              have HX2:=Lib.hid (show NumAt false s x.at_ R (k+1) false true by
               have h:=HX.out
               rw [if_pos (by simp [lx.dig] at hd2;omega)] at h
               exact h)
              clear hd2 hnb2 HX
              generalize s[x.at_+(k+1)]=d at *
              go_wp2_with (first
               | (go_at_call 78;refine (peekOk_z _ _ (by first|exact HW.out.lex.at|exact (HW.out.lex.drewN _).at) (by omega) (by omega) (by omega) (by omega) (by first|exact J0|exact K0)).mono ?_;rintro e w' ⟨rfl,n,rfl⟩)
               | (go_at_call 80;refine (peek_z _ _ (by first|exact HW.out.lex.at|exact (HW.out.lex.drewN _).at) (by omega) (by first|exact pin1|exact pin2) (by omega) (by first|exact J1|exact K1)).mono ?_;rintro e w' ⟨rfl,n,rfl⟩)
               | (go_at_call 83;refine (dig_z _ _ _ (by first|exact J2|exact K2)).mono ?_;rintro e w' ⟨rfl,rfl⟩)
               | (go_at_call 76;refine (peekIs_z _ _ _ (by first|exact HW.out.lex.at|exact (HW.out.lex.drewN _).at) (by omega) (by omega) (by omega) (by omega) (by first|exact S43|exact S45)).mono ?_;rintro e w' ⟨rfl,n,rfl⟩))
              go_round
              case rel=>exact ⟨k+1,false,true,by go_num,rfl,rfl,HX2.out,⟨HW.out.lex.drewN _,grown_drewN HW.out.grown _⟩,by omega⟩
              case measure=>simp [intOf];omega
            ·have K0:Hid (inB s (x.at_+((k:Int)+1).toNat)=false):=by
              have e:((k:Int)+1).toNat=k+1:=by omega
              show _=_
              rw [e];simp [inB];omega
             have HX2:=Lib.hid (show R.1=k∧R.2=true by
              have h:=HX.out
              rw [nb_out s x.at_ (k+1) hin2,if_neg (by omega)] at h
              exact h)
             clear HX
             go_wp2_with (first
              | (go_at_call 78;refine (peekOk_z _ _ (by first|exact HW.out.lex.at|exact (HW.out.lex.drewN _).at) (by omega) (by omega) (by omega) (by omega) (by first|exact J0|exact K0)).mono ?_;rintro e w' ⟨rfl,n,rfl⟩)
              | (go_at_call 80;refine (peek_z _ _ (by first|exact HW.out.lex.at|exact (HW.out.lex.drewN _).at) (by omega) (by first|exact pin1) (by omega) (by first|exact J1)).mono ?_;rintro e w' ⟨rfl,n,rfl⟩)
              | (go_at_call 83;refine (dig_z _ _ _ (by first|exact J2)).mono ?_;rintro e w' ⟨rfl,rfl⟩)
              | (go_at_call 76;refine (peekIs_z _ _ _ (by first|exact HW.out.lex.at|exact (HW.out.lex.drewN _).at) (by omega) (by omega) (by omega) (by omega) (by first|exact S43|exact S45)).mono ?_;rintro e w' ⟨rfl,n,rfl⟩))
             go_meet
             exact ⟨by rw [HX2.out.1],by rw [HX2.out.2],HW.out.lex.drewN _,grown_drewN HW.out.grown _⟩
      ·have HX:=Lib.hid (HN.out.other hin hd hdot hexp)
       have hdot':exp=true∨int=false∨¬((s[x.at_+k].toNat:Int)=46):=by
        cases exp <;> cases int <;> simp at hdot ⊢ <;> omega
       have hexp':exp=true∨(¬((s[x.at_+k].toNat:Int)=69)∧¬((s[x.at_+k].toNat:Int)=101)):=by
        cases exp <;> simp at hexp ⊢ <;> omega
       clear hd hdot hexp
       generalize s[x.at_+k]=c at *
       cases exp
       ·rcases hexp' with h|⟨n69,n101⟩
        ·cases h
        ·have b69:(((c.toNat:Int))==69)=false:=by simp;omega
         have b101:(((c.toNat:Int))==101)=false:=by simp;omega
         rcases hdot' with h|h|n46
         ·cases h
         ·subst h
          go_wp2_with (first
           | (go_at_call 78;refine (peekOk_z _ _ (by first|exact HW.out.lex.at|exact (HW.out.lex.drewN _).at) (by omega) (by omega) (by omega) (by omega) (by first|exact J0)).mono ?_;rintro e w' ⟨rfl,n,rfl⟩)
           | (go_at_call 80;refine (peek_z _ _ (by first|exact HW.out.lex.at|exact (HW.out.lex.drewN _).at) (by omega) (by first|exact pin1) (by omega) (by first|exact J1)).mono ?_;rintro e w' ⟨rfl,n,rfl⟩)
           | (go_at_call 83;refine (dig_z _ _ _ (by first|exact J2)).mono ?_;rintro e w' ⟨rfl,rfl⟩))
          go_meet
          exact ⟨by rw [HX.out.1],by rw [HX.out.2],HW.out.lex.drewN _,grown_drewN HW.out.grown _⟩
         ·cases int
          all_goals go_wp2_with (first
           | (go_at_call 78;refine (peekOk_z _ _ (by first|exact HW.out.lex.at|exact (HW.out.lex.drewN _).at) (by omega) (by omega) (by omega) (by omega) (by first|exact J0)).mono ?_;rintro e w' ⟨rfl,n,rfl⟩)
           | (go_at_call 80;refine (peek_z _ _ (by first|exact HW.out.lex.at|exact (HW.out.lex.drewN _).at) (by omega) (by first|exact pin1) (by omega) (by first|exact J1)).mono ?_;rintro e w' ⟨rfl,n,rfl⟩)
           | (go_at_call 83;refine (dig_z _ _ _ (by first|exact J2)).mono ?_;rintro e w' ⟨rfl,rfl⟩))
          all_goals go_meet
          all_goals exact ⟨by rw [HX.out.1],by rw [HX.out.2],HW.out.lex.drewN _,grown_drewN HW.out.grown _⟩
       ·clear hexp' hdot'
        go_wp2_with (first
         | (go_at_call 78;refine (peekOk_z _ _ (by first|exact HW.out.lex.at|exact (HW.out.lex.drewN _).at) (by omega) (by omega) (by omega) (by omega) (by first|exact J0)).mono ?_;rintro e w' ⟨rfl,n,rfl⟩)
         | (go_at_call 80;refine (peek_z _ _ (by first|exact HW.out.lex.at|exact (HW.out.lex.drewN _).at) (by omega) (by first|exact pin1) (by omega) (by first|exact J1)).mono ?_;rintro e w' ⟨rfl,n,rfl⟩)
         | (go_at_call 83;refine (dig_z _ _ _ (by first|exact J2)).mono ?_;rintro e w' ⟨rfl,rfl⟩))
        go_meet
        exact ⟨by rw [HX.out.1],by rw [HX.out.2],HW.out.lex.drewN _,grown_drewN HW.out.grown _⟩
    ·have HX:=Lib.hid (HN.out.dig hin hd)
     have J2:=dig_dec hd
     clear hd
     generalize s[x.at_+k]=c at *
     go_wp2_with (first
      | (go_at_call 78;refine (peekOk_z _ _ (by first|exact HW.out.lex.at|exact (HW.out.lex.drewN _).at) (by omega) (by omega) (by omega) (by omega) (by first|exact J0)).mono ?_;rintro e w' ⟨rfl,n,rfl⟩)
      | (go_at_call 80;refine (peek_z _ _ (by first|exact HW.out.lex.at|exact (HW.out.lex.drewN _).at) (by omega) (by first|exact pin1) (by omega) (by first|exact J1)).mono ?_;rintro e w' ⟨rfl,n,rfl⟩)
      | (go_at_call 83;refine (dig_z _ _ _ (by first|exact J2)).mono ?_;rintro e w' ⟨rfl,rfl⟩))
     go_round
     case rel=>exact ⟨k+1,int,exp,by go_num,rfl,rfl,HX.out,⟨HW.out.lex.drewN _,grown_drewN HW.out.grown _⟩,by omega⟩
     case measure=>simp [intOf];omega
   ·have J0:Hid (inB s (x.at_+(k:Int).toNat)=false):=by show _=_;simp [inB];omega
    have HX:=Lib.hid (HN.out.last hin)
    go_wp2_with (go_at_call 78;refine (peekOk_z _ _ (by first|exact HW.out.lex.at|exact (HW.out.lex.drewN _).at) (by omega) (by omega) (by omega) (by omega) J0).mono ?_;rintro e w' ⟨rfl,n,rfl⟩)
    go_meet
    exact ⟨by rw [HX.out.1],by rw [HX.out.2],HW.out.lex.drewN _,grown_drewN HW.out.grown _⟩
 case rest =>
  obtain ⟨rfl,rfl,HK⟩:=hcut
  cases hint:R.2
  ·have HO:=Lib.hid (show lx.number np (rest s x.at_)=if lx.isId (lx.nb (rest s x.at_) R.1) then (if np then .bad R.1 else .fault) else .tok lx.kFloat R.1 [] 0 none by
    unfold lx.number
    simp only [hb16.out,Bool.false_eq_true,if_false,hR.out,hint])
   have HL8:=Lib.hid (HK.out.lex.set 9 (.int .i64 ((x.at_+R.1:Nat):Int)) { x with at_:=x.at_+R.1 } rfl pl)
   have HG8:=Lib.hid (grown_set HK.out.grown 9 (.int .i64 ((x.at_+R.1:Nat):Int)))
   go_upto_region 25 with (go_at_call 75;refine (skipN_named R.1 _ HK.out.lex.at.pos (HK.out.lex.free 9) (by omega) (by omega) rfl).mono ?_;rintro e w7 ⟨rfl,hw⟩;rw [hw] at HL8 HG8;have HL7:=HL8;have HG7:=HG8;clear hw HL8 HG8)
   have c1:w7.cell? ⟨b,1,none⟩=some (.string x.kind):=HL7.out.cell 1
   have c6:w7.cell? ⟨b,6,none⟩=some (.int .i64 x.base):=HL7.out.cell 6
   have f1:w7.frozen? ⟨b,1,none⟩=false:=HL7.out.free 1
   have f6:w7.frozen? ⟨b,6,none⟩=false:=HL7.out.free 6
   obtain ⟨x8,hx8⟩:∃y:St,Hid (y={ x with at_:=x.at_+R.1,kind:=⟨#[60,102,108,111,97,116,62]⟩ }):=⟨_,rfl⟩
   have hp8:x8.at_=x.at_+R.1:=by rw [hx8.out]
   have HL9:=Lib.hid (HL7.out.set 1 (.string ⟨#[60,102,108,111,97,116,62]⟩) { x with at_:=x.at_+R.1,kind:=⟨#[60,102,108,111,97,116,62]⟩ } rfl pl)
   have HG9:=Lib.hid (grown_set HG7.out 1 (.string ⟨#[60,102,108,111,97,116,62]⟩))
   rw [←hx8.out] at HL9
   go_wp2_with fail
   generalize w7.setCell ⟨b,1,none⟩ (.string ⟨#[60,102,108,111,97,116,62]⟩)=w8 at HL9 HG9 ⊢
   have hsz8:x8.at_≤s.size:=by omega
   have d1:∀n,(w8.drewN n).cell? ⟨b,1,none⟩=some (.string x8.kind):=fun n=>HL9.out.cell 1
   have g1:∀n,(w8.drewN n).frozen? ⟨b,1,none⟩=false:=fun n=>HL9.out.free 1
   by_cases hend:x8.at_<s.size
   ·have hnb:lx.nb (rest s x.at_) R.1=s[x8.at_].toNat:=by
     have e:=nb_in s x.at_ R.1 (by omega)
     rw [←hp8,bt_in hend] at e
     omega
    rw [hnb] at HO
    have J0:Hid (inB s (x8.at_+(0:Int).toNat)=true):=by show _=_;simp [inB,hend]
    have J1:Hid (bt s (x8.at_+(0:Int).toNat)=(s[x8.at_].toNat:Int)):=by show bt s (x8.at_+0)=_;exact bt_in hend
    have hid0:lx.isId s[x8.at_].toNat=lx.idP s[x8.at_]:=rfl
    rw [hid0] at HO
    clear hnb hid0
    have hpk:x8.at_+(0:Int).toNat<s.size:=by simpa using hend
    cases hid:lx.idP s[x8.at_]
    ·have JP:=Lib.hid hid
     rw [hid] at HO
     clear hid
     generalize s[x8.at_]=c at J1 JP
     go_wp2_with (first
      | (go_at_call 78;refine (peekOk_z _ _ (by first|exact HL9.out.at|exact (HL9.out.drewN _).at) (by omega) (by omega) (by omega) (by omega) J0).mono ?_;rintro e w' ⟨rfl,n,rfl⟩)
      | (go_at_call 80;refine (peek_z _ _ (by first|exact HL9.out.at|exact (HL9.out.drewN _).at) (by omega) hpk (by omega) J1).mono ?_;rintro e w' ⟨rfl,n,rfl⟩)
      | (go_at_call 79;refine (part_named c _ _ JP).mono ?_;rintro e w' ⟨rfl,rfl⟩))
     (first|go_end0|go_ret)
     rw [HO.out]
     have hL:=HL9.out
     rw [hx8.out,hx,hb] at hL
     exact ⟨rfl,hL.drewN _,grown_drewN HG9.out _⟩
    ·have JP:=Lib.hid hid
     rw [hid] at HO
     clear hid
     generalize s[x8.at_]=c at J1 JP
     cases np
     ·go_wp2_with (first
       | (go_at_call 78;refine (peekOk_z _ _ (by first|exact HL9.out.at|exact (HL9.out.drewN _).at) (by omega) (by omega) (by omega) (by omega) J0).mono ?_;rintro e w' ⟨rfl,n,rfl⟩)
       | (go_at_call 80;refine (peek_z _ _ (by first|exact HL9.out.at|exact (HL9.out.drewN _).at) (by omega) hpk (by omega) J1).mono ?_;rintro e w' ⟨rfl,n,rfl⟩)
       | (go_at_call 79;refine (part_named c _ _ JP).mono ?_;rintro e w' ⟨rfl,rfl⟩)
       | (go_at_call 110;refine (panicf_any (HL9.out.drewN _) _).mono ?_;rintro e w' ⟨m,rfl,hm⟩;have HM:=Lib.hid hm;clear hm))
      rw [HO.out]
      exact ⟨rfl,Faults.trans (Grown2.of (grown_drewN HG9.out _)) ⟨m,rfl,HM.out⟩⟩
     ·go_wp2_with (first
       | (go_at_call 78;refine (peekOk_z _ _ (by first|exact HL9.out.at|exact (HL9.out.drewN _).at) (by omega) (by omega) (by omega) (by omega) J0).mono ?_;rintro e w' ⟨rfl,n,rfl⟩)
       | (go_at_call 80;refine (peek_z _ _ (by first|exact HL9.out.at|exact (HL9.out.drewN _).at) (by omega) hpk (by omega) J1).mono ?_;rintro e w' ⟨rfl,n,rfl⟩)
       | (go_at_call 79;refine (part_named c _ _ JP).mono ?_;rintro e w' ⟨rfl,rfl⟩))
      (first|go_end0|go_ret)
      rw [HO.out]
      refine ⟨{ x8 with kind:=⟨#[60,98,97,100,62]⟩ },by rw [hx8.out];exact ⟨rfl,rfl,rfl,rfl,rfl,rfl,rfl,rfl,rfl⟩,rfl, ?_,grown_set (grown_drewN HG9.out _) 1 _⟩
      exact (HL9.out.drewN _).set 1 _ _ rfl hsz8
   ·have hnb:lx.nb (rest s x.at_) R.1=256:=nb_out s x.at_ R.1 (by omega)
    have J0:Hid (inB s (x8.at_+(0:Int).toNat)=false):=by show _=_;simp [inB];omega
    rw [hnb] at HO
    go_wp2_with (go_at_call 78;refine (peekOk_z _ _ (by first|exact HL9.out.at|exact (HL9.out.drewN _).at) (by omega) (by omega) (by omega) (by omega) J0).mono ?_;rintro e w' ⟨rfl,n,rfl⟩)
    (first|go_end0|go_ret)
    rw [HO.out]
    have hL:=HL9.out
    rw [hx8.out,hx,hb] at hL
    exact ⟨rfl,hL.drewN _,grown_drewN HG9.out _⟩
  ·have HO:=Lib.hid (show lx.number np (rest s x.at_)=if lx.isId (lx.nb (rest s x.at_) R.1) then (if np then .bad R.1 else .fault) else .tok lx.kInt R.1 [] 10 none by
    unfold lx.number
    simp only [hb16.out,Bool.false_eq_true,if_false,hR.out,hint,if_true])
   have HL8:=Lib.hid (HK.out.lex.set 9 (.int .i64 ((x.at_+R.1:Nat):Int)) { x with at_:=x.at_+R.1 } rfl pl)
   have HG8:=Lib.hid (grown_set HK.out.grown 9 (.int .i64 ((x.at_+R.1:Nat):Int)))
   go_upto_region 25 with (go_at_call 75;refine (skipN_named R.1 _ HK.out.lex.at.pos (HK.out.lex.free 9) (by omega) (by omega) rfl).mono ?_;rintro e w7 ⟨rfl,hw⟩;rw [hw] at HL8 HG8;have HL7:=HL8;have HG7:=HG8;clear hw HL8 HG8)
   have c1:w7.cell? ⟨b,1,none⟩=some (.string x.kind):=HL7.out.cell 1
   have c6:w7.cell? ⟨b,6,none⟩=some (.int .i64 x.base):=HL7.out.cell 6
   have f1:w7.frozen? ⟨b,1,none⟩=false:=HL7.out.free 1
   have f6:w7.frozen? ⟨b,6,none⟩=false:=HL7.out.free 6
   obtain ⟨x8,hx8⟩:∃y:St,Hid (y={ x with at_:=x.at_+R.1,kind:=⟨#[60,105,110,116,62]⟩,base:=10 }):=⟨_,rfl⟩
   have hp8:x8.at_=x.at_+R.1:=by rw [hx8.out]
   have HL9:=Lib.hid ((HL7.out.set 1 (.string ⟨#[60,105,110,116,62]⟩) { x with at_:=x.at_+R.1,kind:=⟨#[60,105,110,116,62]⟩ } rfl pl).set 6 (.int .i64 10) { x with at_:=x.at_+R.1,kind:=⟨#[60,105,110,116,62]⟩,base:=10 } rfl pl)
   have HG9:=Lib.hid (grown_set (grown_set HG7.out 1 (.string ⟨#[60,105,110,116,62]⟩)) 6 (.int .i64 10))
   rw [←hx8.out] at HL9
   go_wp2_with fail
   generalize (w7.setCell ⟨b,1,none⟩ (.string ⟨#[60,105,110,116,62]⟩)).setCell ⟨b,6,none⟩ (.int .i64 10)=w8 at HL9 HG9 ⊢
   have hsz8:x8.at_≤s.size:=by omega
   have d1:∀n,(w8.drewN n).cell? ⟨b,1,none⟩=some (.string x8.kind):=fun n=>HL9.out.cell 1
   have g1:∀n,(w8.drewN n).frozen? ⟨b,1,none⟩=false:=fun n=>HL9.out.free 1
   by_cases hend:x8.at_<s.size
   ·have hnb:lx.nb (rest s x.at_) R.1=s[x8.at_].toNat:=by
     have e:=nb_in s x.at_ R.1 (by omega)
     rw [←hp8,bt_in hend] at e
     omega
    rw [hnb] at HO
    have J0:Hid (inB s (x8.at_+(0:Int).toNat)=true):=by show _=_;simp [inB,hend]
    have J1:Hid (bt s (x8.at_+(0:Int).toNat)=(s[x8.at_].toNat:Int)):=by show bt s (x8.at_+0)=_;exact bt_in hend
    have hid0:lx.isId s[x8.at_].toNat=lx.idP s[x8.at_]:=rfl
    rw [hid0] at HO
    clear hnb hid0
    have hpk:x8.at_+(0:Int).toNat<s.size:=by simpa using hend
    cases hid:lx.idP s[x8.at_]
    ·have JP:=Lib.hid hid
     rw [hid] at HO
     clear hid
     generalize s[x8.at_]=c at J1 JP
     go_wp2_with (first
      | (go_at_call 78;refine (peekOk_z _ _ (by first|exact HL9.out.at|exact (HL9.out.drewN _).at) (by omega) (by omega) (by omega) (by omega) J0).mono ?_;rintro e w' ⟨rfl,n,rfl⟩)
      | (go_at_call 80;refine (peek_z _ _ (by first|exact HL9.out.at|exact (HL9.out.drewN _).at) (by omega) hpk (by omega) J1).mono ?_;rintro e w' ⟨rfl,n,rfl⟩)
      | (go_at_call 79;refine (part_named c _ _ JP).mono ?_;rintro e w' ⟨rfl,rfl⟩))
     (first|go_end0|go_ret)
     rw [HO.out]
     have hL:=HL9.out
     rw [hx8.out,hx] at hL
     exact ⟨rfl,hL.drewN _,grown_drewN HG9.out _⟩
    ·have JP:=Lib.hid hid
     rw [hid] at HO
     clear hid
     generalize s[x8.at_]=c at J1 JP
     cases np
     ·go_wp2_with (first
       | (go_at_call 78;refine (peekOk_z _ _ (by first|exact HL9.out.at|exact (HL9.out.drewN _).at) (by omega) (by omega) (by omega) (by omega) J0).mono ?_;rintro e w' ⟨rfl,n,rfl⟩)
       | (go_at_call 80;refine (peek_z _ _ (by first|exact HL9.out.at|exact (HL9.out.drewN _).at) (by omega) hpk (by omega) J1).mono ?_;rintro e w' ⟨rfl,n,rfl⟩)
       | (go_at_call 79;refine (part_named c _ _ JP).mono ?_;rintro e w' ⟨rfl,rfl⟩)
       | (go_at_call 110;refine (panicf_any (HL9.out.drewN _) _).mono ?_;rintro e w' ⟨m,rfl,hm⟩;have HM:=Lib.hid hm;clear hm))
      rw [HO.out]
      exact ⟨rfl,Faults.trans (Grown2.of (grown_drewN HG9.out _)) ⟨m,rfl,HM.out⟩⟩
     ·go_wp2_with (first
       | (go_at_call 78;refine (peekOk_z _ _ (by first|exact HL9.out.at|exact (HL9.out.drewN _).at) (by omega) (by omega) (by omega) (by omega) J0).mono ?_;rintro e w' ⟨rfl,n,rfl⟩)
       | (go_at_call 80;refine (peek_z _ _ (by first|exact HL9.out.at|exact (HL9.out.drewN _).at) (by omega) hpk (by omega) J1).mono ?_;rintro e w' ⟨rfl,n,rfl⟩)
       | (go_at_call 79;refine (part_named c _ _ JP).mono ?_;rintro e w' ⟨rfl,rfl⟩))
      (first|go_end0|go_ret)
      rw [HO.out]
      refine ⟨{ x8 with kind:=⟨#[60,98,97,100,62]⟩ },by rw [hx8.out];exact ⟨rfl,rfl,rfl,rfl,rfl,rfl,rfl,rfl,rfl⟩,rfl, ?_,grown_set (grown_drewN HG9.out _) 1 _⟩
      exact (HL9.out.drewN _).set 1 _ _ rfl hsz8
   ·have hnb:lx.nb (rest s x.at_) R.1=256:=nb_out s x.at_ R.1 (by omega)
    have J0:Hid (inB s (x8.at_+(0:Int).toNat)=false):=by show _=_;simp [inB];omega
    rw [hnb] at HO
    go_wp2_with (go_at_call 78;refine (peekOk_z _ _ (by first|exact HL9.out.at|exact (HL9.out.drewN _).at) (by omega) (by omega) (by omega) (by omega) J0).mono ?_;rintro e w' ⟨rfl,n,rfl⟩)
    (first|go_end0|go_ret)
    rw [HO.out]
    have hL:=HL9.out
    rw [hx8.out,hx] at hL
    exact ⟨rfl,hL.drewN _,grown_drewN HG9.out _⟩
theorem number_any {w:World} {B b f:Nat} {s:ByteArray} {x:St} (np:Bool) (h:LexS w B b f s x) (hx:x.str=⟨#[]⟩) (hb:x.base=0) :
  Calls Tryz.prog 84 #[.pointer (some ⟨b,0,none⟩),.bool np] w (TokPost B b f s x (lx.number np (rest s x.at_)) w):=by
 by_cases h16:lx.nb (rest s x.at_) 0=48∧(lx.nb (rest s x.at_) 1=120∨lx.nb (rest s x.at_) 1=88)
 ·exact number16_any np h h16.1 h16.2 hx hb
 ·by_cases h0:lx.nb (rest s x.at_) 0=48
  ·exact number10b_any np h h16 hx hb h0
  ·exact number10a_any np h h16 hx hb h0
end Go.Proofs.YtaamolahbkgofaaGreatDoor.lex
