/-
  The lexer's consumeToken: a sign or a parameter that begins with @. The lexer's consumeToken: a name in quotes. Conditions: of each, in its statement.
-/
import Derived.Test.YtaamolahbkgofaaGreatDoorK13
import Derived.Test.YtaamolahbkgofaaGreatDoorK25
import Derived.Test.YtaamolahbkgofaaGreatDoorK05
import Derived.Test.YtaamolahbkgofaaGreatDoorK09
import Derived.Test.YtaamolahbkgofaaGreatDoorK24
set_option linter.unusedVariables false
namespace Go.Proofs.YtaamolahbkgofaaGreatDoor.lex
open Go.RowKit mem lines plain
theorem start_dec {c:UInt8} {v:Bool} (h:lx.idS c=v):Hid (decide ((97≤(c.toNat:Int)∧(c.toNat:Int)≤122)∨(65≤(c.toNat:Int)∧(c.toNat:Int)≤90)∨(c.toNat:Int)=95)=v):=by
 show _=_
 rw [←h,Bool.eq_iff_iff]
 simp [lx.idS]
 omega
theorem token_at (np:Bool) (last:lx.Bs) (r:lx.Bs):lx.token np last (64::r)=(if lx.nb r 0=64 then .tok [64,64] 2 [] 0 none
   else if lx.isIdS (lx.nb r 0) then .tok lx.kParam (1+lx.idLen r) (r.take (lx.idLen r)) 0 none
   else .tok [64] 1 [] 0 none):=rfl
set_option maxHeartbeats 1000000 in
set_option maxRecDepth 100000 in
theorem tok_64_64 {w:World} {B b f:Nat} {s:ByteArray} {x:St} (np:Bool) (last:lx.Bs) (h:LexS w B b f s x) (hx:x.str=⟨#[]⟩) (hb:x.base=0) (hin:x.at_<s.size) (hc:s[x.at_]=64) (hend:x.at_+1<s.size) (hn:s[x.at_+1].toNat=64) :
  Calls Tryz.prog 57 #[.pointer (some ⟨b,0,none⟩),.bool np] w (TokPost B b f s x (lx.token np last (rest s x.at_)) w):=by
 have HL:=Lib.hid h
 have SZ:=h.sz
 have hle:=h.le
 have hI:(!(inB s x.at_))=false:=by simp [inB,hin]
 have J1:Hid (bt s (x.at_+(0:Int).toNat)=64):=by show bt s (x.at_+0)=_;rw [Nat.add_zero,bt_in hin,hc];rfl
 have J9:Hid (bt s x.at_=64):=by show _=_;rw [bt_in hin,hc];rfl
 have pin0:x.at_+(0:Int).toNat<s.size:=by simpa using hin
 have hin2:x.at_+2≤s.size:=by omega
 have HO:Hid (lx.token np last (rest s x.at_)=.tok [64,64] 2 [] 0 none):=by
  show _=_
  rw [rest_cons s _ hin,hc,token_at,rest_cons s _ hend,if_pos (by exact hn)]
 have S64:Hid (isB s (x.at_+(1:Int).toNat) 64=true):=by
  show _=_
  rw [show x.at_+(1:Int).toNat=x.at_+1 from rfl,isB_in hend,bt_in hend,hn]
  rfl
 clear h
 go_enter Tryz.func57,Tryz.ntmps57
 go_wp2_with (first
  | (go_at_call 72;refine (eof_any HL.out.at (by omega) (by omega)).mono ?_;simp only [hI];rintro e w' ⟨rfl,n,rfl⟩)
  | (go_at_call 80;refine (peek_t _ _ (HL.out.drewN _).at (by omega) pin0 (by omega) J1).mono ?_;rintro e w' ⟨rfl,n,rfl⟩)
  | (go_at_call 81;refine (skip_t _ (HL.out.drewN _) hin J9).mono ?_;rintro e w6 ⟨rfl,hl6,hg6⟩;have HL6:=Lib.hid hl6;have HG6:=Lib.hid (grown_trans (grown_drewN (grown_refl w (some b)) _) hg6);have c1:w6.cell? ⟨b,1,none⟩=some (.string x.kind):=hl6.cell 1;have f1:w6.frozen? ⟨b,1,none⟩=false:=hl6.free 1;have d1:∀o,(w6.alloc o).cell? ⟨b,1,none⟩=some (.string x.kind):=fun o=>(hl6.below (below_alloc w6 o)).cell 1;have g1:∀o,(w6.alloc o).frozen? ⟨b,1,none⟩=false:=fun o=>(hl6.below (below_alloc w6 o)).free 1;clear hl6 hg6)
  | (go_at_call 76;refine (peekIs_t _ _ _ (HL.out.drewN _).at (by omega) (by omega) (by omega) (by omega) (by exact S64)).mono ?_;rintro e w' ⟨rfl,n,rfl⟩)
  | (go_at_call 75;refine (skipN_t 2 _ (HL.out.drewN _) hin2 (by rfl)).mono ?_;rintro e w6 ⟨rfl,hl6,hg6⟩;have HL6:=Lib.hid hl6;have HG6:=Lib.hid (grown_trans (grown_drewN (grown_refl w (some b)) _) hg6);have c1:w6.cell? ⟨b,1,none⟩=some (.string x.kind):=hl6.cell 1;have f1:w6.frozen? ⟨b,1,none⟩=false:=hl6.free 1;clear hl6 hg6))
 (first|go_end0|go_ret)
 rw [HO.out]
 have hL:=HL6.out
 rw [St.own hx hb] at hL
 refine ⟨rfl, ?_,grown_set HG6.out 1 _⟩
 exact hL.set 1 (.string ⟨([64,64]:List UInt8).toArray⟩) _ rfl (by show x.at_+2≤s.size;omega)
set_option maxHeartbeats 1000000 in
set_option maxRecDepth 100000 in
theorem tok_64_o {w:World} {B b f:Nat} {s:ByteArray} {x:St} (np:Bool) (last:lx.Bs) (h:LexS w B b f s x) (hx:x.str=⟨#[]⟩) (hb:x.base=0) (hin:x.at_<s.size) (hc:s[x.at_]=64) (hend:¬x.at_+1<s.size) :
  Calls Tryz.prog 57 #[.pointer (some ⟨b,0,none⟩),.bool np] w (TokPost B b f s x (lx.token np last (rest s x.at_)) w):=by
 have HL:=Lib.hid h
 have SZ:=h.sz
 have hle:=h.le
 have hI:(!(inB s x.at_))=false:=by simp [inB,hin]
 have J1:Hid (bt s (x.at_+(0:Int).toNat)=64):=by show bt s (x.at_+0)=_;rw [Nat.add_zero,bt_in hin,hc];rfl
 have J9:Hid (bt s x.at_=64):=by show _=_;rw [bt_in hin,hc];rfl
 have pin0:x.at_+(0:Int).toNat<s.size:=by simpa using hin
 have HO:Hid (lx.token np last (rest s x.at_)=.tok [64] 1 [] 0 none):=by
  show _=_
  rw [rest_cons s _ hin,hc,token_at,rest_nil s _ hend]
  rfl
 have S64:Hid (isB s (x.at_+(1:Int).toNat) 64=false):=isB_out hend
 have JA:Hid (inB s (x.at_+(1:Int).toNat)=false):=by show _=_;simp [inB];omega
 clear h
 go_enter Tryz.func57,Tryz.ntmps57
 go_wp2_with (first
  | (go_at_call 72;refine (eof_any HL.out.at (by omega) (by omega)).mono ?_;simp only [hI];rintro e w' ⟨rfl,n,rfl⟩)
  | (go_at_call 80;refine (peek_t _ _ (HL.out.drewN _).at (by omega) pin0 (by omega) J1).mono ?_;rintro e w' ⟨rfl,n,rfl⟩)
  | (go_at_call 81;refine (skip_t _ (HL.out.drewN _) hin J9).mono ?_;rintro e w6 ⟨rfl,hl6,hg6⟩;have HL6:=Lib.hid hl6;have HG6:=Lib.hid (grown_trans (grown_drewN (grown_refl w (some b)) _) hg6);have c1:w6.cell? ⟨b,1,none⟩=some (.string x.kind):=hl6.cell 1;have f1:w6.frozen? ⟨b,1,none⟩=false:=hl6.free 1;have d1:∀o,(w6.alloc o).cell? ⟨b,1,none⟩=some (.string x.kind):=fun o=>(hl6.below (below_alloc w6 o)).cell 1;have g1:∀o,(w6.alloc o).frozen? ⟨b,1,none⟩=false:=fun o=>(hl6.below (below_alloc w6 o)).free 1;clear hl6 hg6)
  | (go_at_call 76;refine (peekIs_t _ _ _ (HL.out.drewN _).at (by omega) (by omega) (by omega) (by omega) (by exact S64)).mono ?_;rintro e w' ⟨rfl,n,rfl⟩)
  | (go_at_call 78;refine (peekOk_t _ _ (HL.out.drewN _).at (by omega) (by omega) (by omega) (by omega) JA).mono ?_;rintro e w' ⟨rfl,n,rfl⟩))
 (first|go_end0|go_ret)
 rw [HO.out]
 have hL:=HL6.out
 rw [St.own hx hb] at hL
 refine ⟨rfl, ?_,grown_set HG6.out 1 _⟩
 exact hL.set 1 (.string ⟨([64]:List UInt8).toArray⟩) _ rfl (by show x.at_+1≤s.size;omega)
set_option maxHeartbeats 1000000 in
set_option maxRecDepth 100000 in
theorem tok_64_n {w:World} {B b f:Nat} {s:ByteArray} {x:St} (np:Bool) (last:lx.Bs) (h:LexS w B b f s x) (hx:x.str=⟨#[]⟩) (hb:x.base=0) (hin:x.at_<s.size) (hc:s[x.at_]=64) (hend:x.at_+1<s.size) (h64:¬s[x.at_+1].toNat=64) (hn:lx.idS s[x.at_+1]=false) :
  Calls Tryz.prog 57 #[.pointer (some ⟨b,0,none⟩),.bool np] w (TokPost B b f s x (lx.token np last (rest s x.at_)) w):=by
 have HL:=Lib.hid h
 have SZ:=h.sz
 have hle:=h.le
 have hI:(!(inB s x.at_))=false:=by simp [inB,hin]
 have J1:Hid (bt s (x.at_+(0:Int).toNat)=64):=by show bt s (x.at_+0)=_;rw [Nat.add_zero,bt_in hin,hc];rfl
 have J9:Hid (bt s x.at_=64):=by show _=_;rw [bt_in hin,hc];rfl
 have pin0:x.at_+(0:Int).toNat<s.size:=by simpa using hin
 have HO:Hid (lx.token np last (rest s x.at_)=.tok [64] 1 [] 0 none):=by
  show _=_
  rw [rest_cons s _ hin,hc,token_at,rest_cons s _ hend,if_neg (by exact h64),if_neg (by show ¬lx.idS s[x.at_+1]=true;rw [hn];exact Bool.false_ne_true)]
 have JA:Hid (inB s (x.at_+(1:Int).toNat)=true):=by show _=_;simp [inB,hend]
 have JB:Hid (bt s (x.at_+(1:Int).toNat)=(s[x.at_+1].toNat:Int)):=by show bt s (x.at_+1)=_;exact bt_in hend
 have pin1:x.at_+(1:Int).toNat<s.size:=by simpa using hend
 have JS:=start_dec hn
 have S64:Hid (isB s (x.at_+(1:Int).toNat) 64=false):=by
  show _=_
  rw [show x.at_+(1:Int).toNat=x.at_+1 from rfl,isB_in hend,bt_in hend]
  simp
  omega
 clear h hn h64
 generalize s[x.at_+1]=d at JB JS
 go_enter Tryz.func57,Tryz.ntmps57
 go_wp2_with (first
  | (go_at_call 81;refine (skip_t _ (HL.out.drewN _) hin J9).mono ?_;rintro e w6 ⟨rfl,hl6,hg6⟩;have HL6:=Lib.hid hl6;have HG6:=Lib.hid (grown_trans (grown_drewN (grown_refl w (some b)) _) hg6);have c1:w6.cell? ⟨b,1,none⟩=some (.string x.kind):=hl6.cell 1;have f1:w6.frozen? ⟨b,1,none⟩=false:=hl6.free 1;clear hl6 hg6)
  | (go_at_call 72;refine (eof_any HL.out.at (by omega) (by omega)).mono ?_;simp only [hI];rintro e w' ⟨rfl,n,rfl⟩)
  | (go_at_call 80;refine (peek_t _ _ (HL.out.drewN _).at (by omega) (by first|exact pin0|exact pin1) (by omega) (by first|exact J1|exact JB)).mono ?_;rintro e w' ⟨rfl,n,rfl⟩)
  | (go_at_call 76;refine (peekIs_t _ _ _ (HL.out.drewN _).at (by omega) (by omega) (by omega) (by omega) (by exact S64)).mono ?_;rintro e w' ⟨rfl,n,rfl⟩)
  | (go_at_call 78;refine (peekOk_t _ _ (HL.out.drewN _).at (by omega) (by omega) (by omega) (by omega) JA).mono ?_;rintro e w' ⟨rfl,n,rfl⟩)
  | (go_at_call 85;refine (start_z _ _ _ JS).mono ?_;rintro e w' ⟨rfl,rfl⟩))
 (first|go_end0|go_ret)
 rw [HO.out]
 have hL:=HL6.out
 rw [St.own hx hb] at hL
 refine ⟨rfl, ?_,grown_set HG6.out 1 _⟩
 exact hL.set 1 (.string ⟨([64]:List UInt8).toArray⟩) _ rfl (by show x.at_+1≤s.size;omega)
set_option maxHeartbeats 2000000 in
set_option maxRecDepth 100000 in
theorem tok_64_p {w:World} {B b f:Nat} {s:ByteArray} {x:St} (np:Bool) (last:lx.Bs) (h:LexS w B b f s x) (hx:x.str=⟨#[]⟩) (hb:x.base=0) (hin:x.at_<s.size) (hc:s[x.at_]=64) (hend:x.at_+1<s.size) (h64:¬s[x.at_+1].toNat=64) (hn:lx.idS s[x.at_+1]=true) :
  Calls Tryz.prog 57 #[.pointer (some ⟨b,0,none⟩),.bool np] w (TokPost B b f s x (lx.token np last (rest s x.at_)) w):=by
 have HL:=Lib.hid h
 have SZ:=h.sz
 have hle:=h.le
 have hI:(!(inB s x.at_))=false:=by simp [inB,hin]
 have J1:Hid (bt s (x.at_+(0:Int).toNat)=64):=by show bt s (x.at_+0)=_;rw [Nat.add_zero,bt_in hin,hc];rfl
 have J9:Hid (bt s x.at_=64):=by show _=_;rw [bt_in hin,hc];rfl
 have pin0:x.at_+(0:Int).toNat<s.size:=by simpa using hin
 have HO:Hid (lx.token np last (rest s x.at_)=.tok lx.kParam (1+lx.idLen (rest s (x.at_+1))) ((rest s (x.at_+1)).take (lx.idLen (rest s (x.at_+1)))) 0 none):=by
  show _=_
  have e:lx.nb (rest s (x.at_+1)) 0=s[x.at_+1].toNat:=by
   rw [rest_cons s _ hend]
   rfl
  rw [rest_cons s _ hin,hc,token_at,e,if_neg h64,if_pos (by exact hn)]
 have JA:Hid (inB s (x.at_+(1:Int).toNat)=true):=by show _=_;simp [inB,hend]
 have JB:Hid (bt s (x.at_+(1:Int).toNat)=(s[x.at_+1].toNat:Int)):=by show bt s (x.at_+1)=_;exact bt_in hend
 have pin1:x.at_+(1:Int).toNat<s.size:=by simpa using hend
 have JS:=start_dec hn
 have S64:Hid (isB s (x.at_+(1:Int).toNat) 64=false):=by
  show _=_
  rw [show x.at_+(1:Int).toNat=x.at_+1 from rfl,isB_in hend,bt_in hend]
  simp
  omega
 clear h hn h64
 generalize s[x.at_+1]=d at JB JS
 go_enter Tryz.func57,Tryz.ntmps57
 go_wp2_with (first
  | (go_at_call 72;refine (eof_any HL.out.at (by omega) (by omega)).mono ?_;simp only [hI];rintro e w' ⟨rfl,n,rfl⟩)
  | (go_at_call 80;refine (peek_t _ _ (HL.out.drewN _).at (by omega) (by first|exact pin0|exact pin1) (by omega) (by first|exact J1|exact JB)).mono ?_;rintro e w' ⟨rfl,n,rfl⟩)
  | (go_at_call 76;refine (peekIs_t _ _ _ (HL.out.drewN _).at (by omega) (by omega) (by omega) (by omega) (by exact S64)).mono ?_;rintro e w' ⟨rfl,n,rfl⟩)
  | (go_at_call 78;refine (peekOk_t _ _ (HL.out.drewN _).at (by omega) (by omega) (by omega) (by omega) JA).mono ?_;rintro e w' ⟨rfl,n,rfl⟩)
  | (go_at_call 85;refine (start_z _ _ _ JS).mono ?_;rintro e w' ⟨rfl,rfl⟩))
 have c1:∀n,(w.drewN n).cell? ⟨b,1,none⟩=some (.string x.kind):=fun n=>HL.out.cell 1
 have f1:∀n,(w.drewN n).frozen? ⟨b,1,none⟩=false:=fun n=>HL.out.free 1
 go_loopw [5] (fun iv wq=>∃k:Nat,iv=.int .i64 (k:Int)∧1≤k∧x.at_+k≤s.size∧Hid (lx.idLen (rest s (x.at_+1))+1=k+lx.idLen (rest s (x.at_+k)))∧∃m,wq=w.drewN m) (fun iv _=>s.size-(intOf iv).toNat)
 case atStart=>exact ⟨1,rfl,Nat.le_refl _,by omega,by show _=_;omega,_,rfl⟩
 case round =>
  obtain ⟨k,rfl,hk0,hk,HE,m,rfl⟩:=hrel
  by_cases hbin:x.at_+k<s.size
  ·have JP0:Hid (inB s (x.at_+(k:Int).toNat)=true):=by show _=_;simp [inB,hbin]
   have JP1:Hid (bt s (x.at_+(k:Int).toNat)=(s[x.at_+k].toNat:Int)):=by show bt s (x.at_+k)=_;exact bt_in hbin
   have pinj:x.at_+(k:Int).toNat<s.size:=by simpa using hbin
   have HI:=Lib.hid (idLen_in hbin)
   cases hp:lx.idP s[x.at_+k]
   ·have JP2:=part_dec hp
    have HK:Hid (lx.idLen (rest s (x.at_+1))+1=k):=by
     have h1:=HE.out
     rw [HI.out,hp] at h1
     show _=_
     rw [h1]
     exact Nat.add_zero _
    clear hp HI HE
    generalize s[x.at_+k]=d at JP1 JP2
    go_wp2_with (first
     | (go_at_call 78;refine (peekOk_t _ _ (HL.out.drewN _).at (by omega) (by omega) (by omega) (by omega) JP0).mono ?_;rintro e w' ⟨rfl,n,rfl⟩)
     | (go_at_call 80;refine (peek_t _ _ (HL.out.drewN _).at (by omega) pinj (by omega) JP1).mono ?_;rintro e w' ⟨rfl,n,rfl⟩)
     | (go_at_call 79;refine (part_z _ _ _ JP2).mono ?_;rintro e w' ⟨rfl,rfl⟩))
    generalize hW2:(w.drewN _).setCell ⟨b,1,none⟩ _=w2
    have HL2:Hid (LexS w2 B b f s { x with kind:=⟨lx.kParam.toArray⟩ }):=by rw [←hW2];exact (HL.out.drewN _).set 1 _ _ rfl hle
    have HG2:Hid (w.grownBy w2 (some b)):=by rw [←hW2];exact grown_set (grown_drewN (grown_refl w (some b)) _) 1 _
    clear hW2 c1 f1
    obtain ⟨vs,hvs⟩:∃vs,Hid (s.extract (x.at_+1) (x.at_+k)=vs):=⟨_,rfl⟩
    have hvs':=hvs.out
    have v0:w2.cell? ⟨b,0,none⟩=some (.pointer (some ⟨f,0,none⟩)):=HL2.out.at.file
    have vt:w2.cell? ⟨f,1,none⟩=some (.string s):=HL2.out.at.text
    have v9:w2.cell? ⟨b,9,none⟩=some (.int .i64 (x.at_:Int)):=HL2.out.at.pos
    have v5:w2.cell? ⟨b,5,none⟩=some (.string x.str):=HL2.out.cell 5
    have fr:w2.frozen? ⟨b,5,none⟩=false:=HL2.out.free 5
    have hw1:=IntWalk.i64_in ((x.at_:Int)+(k:Int)) (by omega)
    have hw2:=IntWalk.i64_in ((x.at_:Int)+1) (by omega)
    have i1:(x.at_:Int)+1≤(x.at_:Int)+(k:Int)∨True:=.inr trivial
    have i2:(x.at_:Int)+(k:Int)≤(s.size:Int):=by omega
    have i3:((x.at_:Int)+(k:Int)).toNat=x.at_+k:=by omega
    have i4:((x.at_:Int)+1).toNat=x.at_+1:=by omega
    have i5:(0:Int)≤(x.at_:Int)+1:=by omega
    have i6:(x.at_:Int)+1≤(x.at_:Int)+(k:Int):=by omega
    have i7:((x.at_:Int)).toNat=x.at_:=by omega
    clear i1
    go_region
    have HLS:Hid (LexS ((w2.setCell ⟨b,5,none⟩ (.string vs)).drew) B b f s { x with kind:=⟨lx.kParam.toArray⟩,str:=vs }):=(HL2.out.set 5 (.string vs) { x with kind:=⟨lx.kParam.toArray⟩,str:=vs } rfl hle).drewN 1
    have HGS:Hid (w.grownBy ((w2.setCell ⟨b,5,none⟩ (.string vs)).drew) (some b)):=grown_drew (grown_set HG2.out 5 _)
    go_wp2_with (go_at_call 75;refine (skipN_t k _ HLS.out hk (by rfl)).mono ?_;rintro e w6 ⟨rfl,hl6,hg6⟩;have HL6:=Lib.hid hl6;have HG6:=Lib.hid (grown_trans HGS.out hg6);clear hl6 hg6)
    (first|go_end0|go_ret)
    rw [HO.out]
    have hek:k=1+lx.idLen (rest s (x.at_+1)):=by have:=HK.out;omega
    have hev:(⟨((rest s (x.at_+1)).take (lx.idLen (rest s (x.at_+1)))).toArray⟩:ByteArray)=vs:=by
     rw [←extract_rest,←hvs.out,hek,Nat.add_assoc]
    refine ⟨rfl, ?_,HG6.out⟩
    have hL:=lex_base HL6.out hb
    show LexS _ B b f s { x with kind:=⟨lx.kParam.toArray⟩,at_:=x.at_+(1+lx.idLen (rest s (x.at_+1))),str:=⟨((rest s (x.at_+1)).take (lx.idLen (rest s (x.at_+1)))).toArray⟩,base:=((0:Nat):Int),dot:=x.dot }
    rw [hev,←hek]
    exact hL
   ·have JP2:=part_dec hp
    have HE2:Hid (lx.idLen (rest s (x.at_+1))+1=(k+1)+lx.idLen (rest s (x.at_+(k+1)))):=by
     have h1:=HE.out
     rw [HI.out,hp,if_pos rfl] at h1
     show _=_
     rw [h1,show x.at_+k+1=x.at_+(k+1) from rfl]
     omega
    clear hp HI HE
    generalize s[x.at_+k]=d at JP1 JP2
    go_wp2_with (first
     | (go_at_call 78;refine (peekOk_t _ _ (HL.out.drewN _).at (by omega) (by omega) (by omega) (by omega) JP0).mono ?_;rintro e w' ⟨rfl,n,rfl⟩)
     | (go_at_call 80;refine (peek_t _ _ (HL.out.drewN _).at (by omega) pinj (by omega) JP1).mono ?_;rintro e w' ⟨rfl,n,rfl⟩)
     | (go_at_call 79;refine (part_z _ _ _ JP2).mono ?_;rintro e w' ⟨rfl,rfl⟩))
    go_round
    case rel=>exact ⟨k+1,by go_num,by omega,hbin,HE2,_,rfl⟩
    case measure=>simp [intOf];omega
  ·have JP0:Hid (inB s (x.at_+(k:Int).toNat)=false):=by show _=_;simp [inB];omega
   have HK:Hid (lx.idLen (rest s (x.at_+1))+1=k):=by
    have h1:=HE.out
    rw [idLen_out hbin] at h1
    exact h1
   clear HE
   go_wp2_with (go_at_call 78;refine (peekOk_t _ _ (HL.out.drewN _).at (by omega) (by omega) (by omega) (by omega) JP0).mono ?_;rintro e w' ⟨rfl,n,rfl⟩)
   generalize hW2:(w.drewN _).setCell ⟨b,1,none⟩ _=w2
   have HL2:Hid (LexS w2 B b f s { x with kind:=⟨lx.kParam.toArray⟩ }):=by rw [←hW2];exact (HL.out.drewN _).set 1 _ _ rfl hle
   have HG2:Hid (w.grownBy w2 (some b)):=by rw [←hW2];exact grown_set (grown_drewN (grown_refl w (some b)) _) 1 _
   clear hW2 c1 f1
   obtain ⟨vs,hvs⟩:∃vs,Hid (s.extract (x.at_+1) (x.at_+k)=vs):=⟨_,rfl⟩
   have hvs':=hvs.out
   have v0:w2.cell? ⟨b,0,none⟩=some (.pointer (some ⟨f,0,none⟩)):=HL2.out.at.file
   have vt:w2.cell? ⟨f,1,none⟩=some (.string s):=HL2.out.at.text
   have v9:w2.cell? ⟨b,9,none⟩=some (.int .i64 (x.at_:Int)):=HL2.out.at.pos
   have v5:w2.cell? ⟨b,5,none⟩=some (.string x.str):=HL2.out.cell 5
   have fr:w2.frozen? ⟨b,5,none⟩=false:=HL2.out.free 5
   have hw1:=IntWalk.i64_in ((x.at_:Int)+(k:Int)) (by omega)
   have hw2:=IntWalk.i64_in ((x.at_:Int)+1) (by omega)
   have i1:(x.at_:Int)+1≤(x.at_:Int)+(k:Int)∨True:=.inr trivial
   have i2:(x.at_:Int)+(k:Int)≤(s.size:Int):=by omega
   have i3:((x.at_:Int)+(k:Int)).toNat=x.at_+k:=by omega
   have i4:((x.at_:Int)+1).toNat=x.at_+1:=by omega
   have i5:(0:Int)≤(x.at_:Int)+1:=by omega
   have i6:(x.at_:Int)+1≤(x.at_:Int)+(k:Int):=by omega
   have i7:((x.at_:Int)).toNat=x.at_:=by omega
   clear i1
   go_region
   have HLS:Hid (LexS ((w2.setCell ⟨b,5,none⟩ (.string vs)).drew) B b f s { x with kind:=⟨lx.kParam.toArray⟩,str:=vs }):=(HL2.out.set 5 (.string vs) { x with kind:=⟨lx.kParam.toArray⟩,str:=vs } rfl hle).drewN 1
   have HGS:Hid (w.grownBy ((w2.setCell ⟨b,5,none⟩ (.string vs)).drew) (some b)):=grown_drew (grown_set HG2.out 5 _)
   go_wp2_with (go_at_call 75;refine (skipN_t k _ HLS.out hk (by rfl)).mono ?_;rintro e w6 ⟨rfl,hl6,hg6⟩;have HL6:=Lib.hid hl6;have HG6:=Lib.hid (grown_trans HGS.out hg6);clear hl6 hg6)
   (first|go_end0|go_ret)
   rw [HO.out]
   have hek:k=1+lx.idLen (rest s (x.at_+1)):=by have:=HK.out;omega
   have hev:(⟨((rest s (x.at_+1)).take (lx.idLen (rest s (x.at_+1)))).toArray⟩:ByteArray)=vs:=by
    rw [←extract_rest,←hvs.out,hek,Nat.add_assoc]
   refine ⟨rfl, ?_,HG6.out⟩
   have hL:=lex_base HL6.out hb
   show LexS _ B b f s { x with kind:=⟨lx.kParam.toArray⟩,at_:=x.at_+(1+lx.idLen (rest s (x.at_+1))),str:=⟨((rest s (x.at_+1)).take (lx.idLen (rest s (x.at_+1)))).toArray⟩,base:=((0:Nat):Int),dot:=x.dot }
   rw [hev,←hek]
   exact hL
theorem tok_64 {w:World} {B b f:Nat} {s:ByteArray} {x:St} (np:Bool) (last:lx.Bs) (h:LexS w B b f s x) (hx:x.str=⟨#[]⟩) (hb:x.base=0) (hin:x.at_<s.size) (hc:s[x.at_]=64) :
  Calls Tryz.prog 57 #[.pointer (some ⟨b,0,none⟩),.bool np] w (TokPost B b f s x (lx.token np last (rest s x.at_)) w):=by
 by_cases hend:x.at_+1<s.size
 ·by_cases h64:s[x.at_+1].toNat=64
  ·exact tok_64_64 np last h hx hb hin hc hend h64
  ·cases hn:lx.idS s[x.at_+1]
   ·exact tok_64_n np last h hx hb hin hc hend h64 hn
   ·exact tok_64_p np last h hx hb hin hc hend h64 hn
 ·exact tok_64_o np last h hx hb hin hc hend
end Go.Proofs.YtaamolahbkgofaaGreatDoor.lex
set_option linter.unusedVariables false
namespace Go.Proofs.YtaamolahbkgofaaGreatDoor.lex
open Go.RowKit mem lines
theorem quoted1_o {w:World} {B b f:Nat} {s q nm:ByteArray} {x:St} {Q:lx.Bs} {raw uni idn np:Bool} (h:LexS w B b f s x) (hq:q.size=1) (hQ:q.toList=Q)
  (hnm:(nm.toList==[105,100,101,110,116,105,102,105,101,114])=idn) (hin:x.at_+1≤s.size) (o:lx.QOut) (hoo:Hid (lx.quoted Q raw uni idn np (rest s x.at_)=o)) (ho:Hid (o≠.crash)) :
  Calls Tryz.prog 86 #[.pointer (some ⟨b,0,none⟩),.string q,.bool raw,.bool uni,.string nm,.bool np] w (QPost B b f s x o w):=by
 have e:=hoo.out
 have ho':=ho.out
 subst e
 exact quoted1_any h hq hQ hnm hin ho'
set_option maxHeartbeats 1000000 in
set_option maxRecDepth 100000 in
theorem tok_96 {w:World} {B b f:Nat} {s:ByteArray} {x:St} (np:Bool) (last:lx.Bs) (h:LexS w B b f s x) (hx:x.str=⟨#[]⟩) (hb:x.base=0) (hin:x.at_<s.size) (hc:s[x.at_]=96) (hcr:lx.token np last (rest s x.at_)≠.crash) :
  Calls Tryz.prog 57 #[.pointer (some ⟨b,0,none⟩),.bool np] w (TokPost B b f s x (lx.token np last (rest s x.at_)) w):=by
 have HL:=Lib.hid h
 have SZ:=h.sz
 have hle:=h.le
 have hI:(!(inB s x.at_))=false:=by simp [inB,hin]
 have J1:Hid (bt s (x.at_+(0:Int).toNat)=96):=by show bt s (x.at_+0)=_;rw [Nat.add_zero,bt_in hin,hc];rfl
 have J9:Hid (bt s x.at_=96):=by show _=_;rw [bt_in hin,hc];rfl
 have pin0:x.at_+(0:Int).toNat<s.size:=by simpa using hin
 have HO:Hid (lx.token np last (rest s x.at_)=lx.ofQ lx.kIdent 0 (lx.quoted [96] false true true np (rest s x.at_))):=by
  show _=_
  rw [rest_cons s _ hin,hc]
  rfl
 rw [HO.out] at hcr ⊢
 obtain ⟨o,HOO⟩:∃o,Hid (lx.quoted [96] false true true np (rest s x.at_)=o):=⟨_,rfl⟩
 rw [HOO.out] at hcr ⊢
 have HOC:Hid (o≠.crash):=by
  intro k
  rw [k] at hcr
  exact hcr rfl
 have c1:∀n,(w.drewN n).cell? ⟨b,1,none⟩=some (.string x.kind):=fun n=>h.cell 1
 have f1:∀n,(w.drewN n).frozen? ⟨b,1,none⟩=false:=fun n=>h.free 1
 have HK1:∀n,Hid (LexS ((w.drewN n).setCell ⟨b,1,none⟩ (.string ⟨lx.kIdent.toArray⟩)) B b f s { x with kind:=⟨lx.kIdent.toArray⟩ }):=fun n=>(h.drewN n).set 1 _ _ rfl h.le
 have HG1:∀n,Hid (w.grownBy ((w.drewN n).setCell ⟨b,1,none⟩ (.string ⟨lx.kIdent.toArray⟩)) (some b)):=fun n=>grown_set (grown_drewN (grown_refl w (some b)) n) 1 _
 clear h hcr
 cases o with
 | crash=>exact absurd rfl HOC.out
 | fault =>
  go_enter Tryz.func57,Tryz.ntmps57
  go_wp2_with (first
   | (go_at_call 72;refine (eof_any HL.out.at (by omega) (by omega)).mono ?_;simp only [hI];rintro e w' ⟨rfl,n,rfl⟩)
   | (go_at_call 80;refine (peek_t _ _ (HL.out.drewN _).at (by omega) pin0 (by omega) J1).mono ?_;rintro e w' ⟨rfl,n,rfl⟩)
   | (go_at_call 81;refine (skip_t _ (HL.out.drewN _) hin J9).mono ?_;rintro e w6 ⟨rfl,hl6,hg6⟩;have HL6:=Lib.hid hl6;have HG6:=Lib.hid (grown_trans (grown_drewN (grown_refl w (some b)) _) hg6);have c1:w6.cell? ⟨b,1,none⟩=some (.string x.kind):=hl6.cell 1;have f1:w6.frozen? ⟨b,1,none⟩=false:=hl6.free 1;have d1:∀o,(w6.alloc o).cell? ⟨b,1,none⟩=some (.string x.kind):=fun o=>(hl6.below (below_alloc w6 o)).cell 1;have g1:∀o,(w6.alloc o).frozen? ⟨b,1,none⟩=false:=fun o=>(hl6.below (below_alloc w6 o)).free 1;clear hl6 hg6)
   | (go_at_call 86;refine (quoted1_o (x:={ x with kind:=⟨lx.kIdent.toArray⟩ }) (HK1 _).out (by rfl) (by rw [ByteArray.toList_eq]) (by rw [ByteArray.toList_eq];rfl) hin _ HOO HOC).mono ?_;rintro e w3 ⟨m,rfl,hm⟩;have HM:=Lib.hid hm;clear hm))
  exact ⟨rfl,Faults.trans (Grown2.of (HG1 _).out) ⟨m,rfl,HM.out⟩⟩
 | bad len =>
  go_enter Tryz.func57,Tryz.ntmps57
  go_wp2_with (first
   | (go_at_call 72;refine (eof_any HL.out.at (by omega) (by omega)).mono ?_;simp only [hI];rintro e w' ⟨rfl,n,rfl⟩)
   | (go_at_call 80;refine (peek_t _ _ (HL.out.drewN _).at (by omega) pin0 (by omega) J1).mono ?_;rintro e w' ⟨rfl,n,rfl⟩)
   | (go_at_call 81;refine (skip_t _ (HL.out.drewN _) hin J9).mono ?_;rintro e w6 ⟨rfl,hl6,hg6⟩;have HL6:=Lib.hid hl6;have HG6:=Lib.hid (grown_trans (grown_drewN (grown_refl w (some b)) _) hg6);have c1:w6.cell? ⟨b,1,none⟩=some (.string x.kind):=hl6.cell 1;have f1:w6.frozen? ⟨b,1,none⟩=false:=hl6.free 1;have d1:∀o,(w6.alloc o).cell? ⟨b,1,none⟩=some (.string x.kind):=fun o=>(hl6.below (below_alloc w6 o)).cell 1;have g1:∀o,(w6.alloc o).frozen? ⟨b,1,none⟩=false:=fun o=>(hl6.below (below_alloc w6 o)).free 1;clear hl6 hg6)
   | (go_at_call 86;refine (quoted1_o (x:={ x with kind:=⟨lx.kIdent.toArray⟩ }) (HK1 _).out (by rfl) (by rw [ByteArray.toList_eq]) (by rw [ByteArray.toList_eq];rfl) hin _ HOO HOC).mono ?_;rintro e w3 ⟨rfl,hl,hg⟩;have HL3:=Lib.hid hl;have HG3:=Lib.hid (grown_trans (HG1 _).out hg);have c5:w3.cell? ⟨b,5,none⟩=some (.string x.str):=hl.cell 5;have f5:w3.frozen? ⟨b,5,none⟩=false:=hl.free 5;have d1:w3.cell? ⟨b,1,none⟩=some (.string ⟨lx.kIdent.toArray⟩):=hl.cell 1;have g1:w3.frozen? ⟨b,1,none⟩=false:=hl.free 1;clear hl hg))
  (first|go_end0|go_ret)
  refine ⟨{ x with kind:=⟨lx.kBad.toArray⟩,at_:=x.at_+len,str:=⟨#[]⟩ },⟨rfl,by show x.at_+len=x.at_+(0+len);omega,rfl,rfl,rfl,rfl,rfl,rfl,rfl⟩,rfl, ?_,grown_set (grown_set HG3.out 5 _) 1 _⟩
  exact (HL3.out.set 5 (.string ⟨#[]⟩) { x with kind:=⟨lx.kIdent.toArray⟩,at_:=x.at_+len,str:=⟨#[]⟩ } rfl HL3.out.le).set 1 (.string ⟨lx.kBad.toArray⟩) _ rfl HL3.out.le
 | ok len content =>
  go_enter Tryz.func57,Tryz.ntmps57
  go_wp2_with (first
   | (go_at_call 72;refine (eof_any HL.out.at (by omega) (by omega)).mono ?_;simp only [hI];rintro e w' ⟨rfl,n,rfl⟩)
   | (go_at_call 80;refine (peek_t _ _ (HL.out.drewN _).at (by omega) pin0 (by omega) J1).mono ?_;rintro e w' ⟨rfl,n,rfl⟩)
   | (go_at_call 81;refine (skip_t _ (HL.out.drewN _) hin J9).mono ?_;rintro e w6 ⟨rfl,hl6,hg6⟩;have HL6:=Lib.hid hl6;have HG6:=Lib.hid (grown_trans (grown_drewN (grown_refl w (some b)) _) hg6);have c1:w6.cell? ⟨b,1,none⟩=some (.string x.kind):=hl6.cell 1;have f1:w6.frozen? ⟨b,1,none⟩=false:=hl6.free 1;have d1:∀o,(w6.alloc o).cell? ⟨b,1,none⟩=some (.string x.kind):=fun o=>(hl6.below (below_alloc w6 o)).cell 1;have g1:∀o,(w6.alloc o).frozen? ⟨b,1,none⟩=false:=fun o=>(hl6.below (below_alloc w6 o)).free 1;clear hl6 hg6)
   | (go_at_call 86;refine (quoted1_o (x:={ x with kind:=⟨lx.kIdent.toArray⟩ }) (HK1 _).out (by rfl) (by rw [ByteArray.toList_eq]) (by rw [ByteArray.toList_eq];rfl) hin _ HOO HOC).mono ?_;rintro e w3 ⟨rfl,hl,hg⟩;have HL3:=Lib.hid hl;have HG3:=Lib.hid (grown_trans (HG1 _).out hg);have c5:w3.cell? ⟨b,5,none⟩=some (.string x.str):=hl.cell 5;have f5:w3.frozen? ⟨b,5,none⟩=false:=hl.free 5;clear hl hg))
  (first|go_end0|go_ret)
  have hL:=HL3.out
  rw [St.own hx hb] at hL
  refine ⟨rfl, ?_,grown_set HG3.out 5 _⟩
  have hz:x.at_+(0+len)=x.at_+len:=by omega
  rw [hz]
  exact hL.set 5 (.string ⟨content.toArray⟩) _ rfl HL3.out.le
end Go.Proofs.YtaamolahbkgofaaGreatDoor.lex
