/-
  The lexer's consumeToken: signs of one or two bytes. Conditions: in its statements. (Written by wip/mktk2.py.).
-/
import Derived.Test.YtaamolahbkgofaaGreatDoorK09
set_option linter.unusedVariables false
namespace Go.Proofs.YtaamolahbkgofaaGreatDoor.lex
open Go.RowKit mem lines
theorem peekIs_t {w:World} {b f p:Nat} {s:ByteArray} (z c:Int) (v:Bool) (h:At w b f s p) (hs:s.size≤1000000) (hp:p≤1000000) (h0:0≤z) (hi:z≤1000000) (hv:Hid (isB s (p+z.toNat) c=v)) :
  Calls Tryz.prog 76 #[.pointer (some ⟨b,0,none⟩),.int .i64 z,.int .u8 c] w fun e w'=>e=.returned (.bool v)∧∃n,w'=w.drewN n :=
 peekIs_named z.toNat z c v h hs hp (by omega) (by omega) hv
theorem skipN_t {w:World} {B b f:Nat} {s:ByteArray} {x:St} (n:Nat) (z:Int) (h:LexS w B b f s x) (hn:x.at_+n≤s.size) (hz:z=n) :
  Calls Tryz.prog 75 #[.pointer (some ⟨b,0,none⟩),.int .i64 z] w fun e w'=>e=.returned (.tuple #[])∧LexS w' B b f s { x with at_:=x.at_+n }∧w.grownBy w' (some b):=by
 have sz:=h.sz
 have le:=h.le
 refine (skipN_named n z h.at.pos (h.free 9) (by omega) (by omega) hz).mono fun e w' ⟨he,hw⟩=>⟨he, ?_, ?_⟩
 ·rw [←hw]
  exact h.set 9 _ _ rfl hn
 ·rw [←hw]
  exact grown_set (grown_refl w (some b)) 9 _
set_option maxHeartbeats 1000000 in
set_option maxRecDepth 100000 in
theorem tok_60_60 {w:World} {B b f:Nat} {s:ByteArray} {x:St} (np:Bool) (last:lx.Bs) (h:LexS w B b f s x) (hx:x.str=⟨#[]⟩) (hb:x.base=0) (hin:x.at_<s.size) (hc:s[x.at_]=60)  (h2:lx.nb (rest s x.at_) 1=60) :
  Calls Tryz.prog 57 #[.pointer (some ⟨b,0,none⟩),.bool np] w (TokPost B b f s x (lx.token np last (rest s x.at_)) w):=by
 have HL:=Lib.hid h
 have SZ:=h.sz
 have hle:=h.le
 have hI:(!(inB s x.at_))=false:=by simp [inB,hin]
 have J1:Hid (bt s (x.at_+(0:Int).toNat)=60):=by show bt s (x.at_+0)=_;rw [Nat.add_zero,bt_in hin,hc];rfl
 have J9:Hid (bt s x.at_=60):=by show _=_;rw [bt_in hin,hc];rfl
 have pin0:x.at_+(0:Int).toNat<s.size:=by simpa using hin
 have S60:Hid (isB s (x.at_+(1:Int).toNat) 60=true):=by
  show _=_
  rw [show x.at_+(1:Int).toNat=x.at_+1 from rfl,isB_nb s x.at_ 1 60 (by omega),h2]
  rfl
 have hin2:x.at_+2≤s.size:=by
  rcases Nat.lt_or_ge (x.at_+1) s.size with k|k
  ·omega
  ·have e:=nb_out s x.at_ 1 (by omega)
   omega
 have HO:Hid (lx.token np last (rest s x.at_)=.tok [60,60] 2 [] 0 none):=by
  have e:lx.token np last (rest s x.at_)=lx.sign2 (rest s x.at_) 60 [60,61,62]:=by
   rw [rest_cons s _ hin,hc]
   rfl
  show _=_
  rw [e]
  rw [show lx.sign2 (rest s x.at_) 60 [60,61,62]=_ from if_pos h2]
 clear h
 go_enter Tryz.func57,Tryz.ntmps57
 go_wp2_with (first
  | (go_at_call 72;refine (eof_any HL.out.at (by omega) (by omega)).mono ?_;simp only [hI];rintro e w' ⟨rfl,n,rfl⟩)
  | (go_at_call 80;refine (peek_t _ _ (HL.out.drewN _).at (by omega) pin0 (by omega) J1).mono ?_;rintro e w' ⟨rfl,n,rfl⟩)
  | (go_at_call 81;refine (skip_t _ (HL.out.drewN _) hin J9).mono ?_;rintro e w6 ⟨rfl,hl6,hg6⟩;have HL6:=Lib.hid hl6;have HG6:=Lib.hid (grown_trans (grown_drewN (grown_refl w (some b)) _) hg6);have c1:w6.cell? ⟨b,1,none⟩=some (.string x.kind):=hl6.cell 1;have f1:w6.frozen? ⟨b,1,none⟩=false:=hl6.free 1;have d1:∀o,(w6.alloc o).cell? ⟨b,1,none⟩=some (.string x.kind):=fun o=>(hl6.below (below_alloc w6 o)).cell 1;have g1:∀o,(w6.alloc o).frozen? ⟨b,1,none⟩=false:=fun o=>(hl6.below (below_alloc w6 o)).free 1;clear hl6 hg6)
  | (go_at_call 76;refine (peekIs_t _ _ _ (HL.out.drewN _).at (by omega) (by omega) (by omega) (by omega) (by first|exact S60)).mono ?_;rintro e w' ⟨rfl,n,rfl⟩)
  | (go_at_call 75;refine (skipN_t 2 _ (HL.out.drewN _) hin2 (by rfl)).mono ?_;rintro e w6 ⟨rfl,hl6,hg6⟩;have HL6:=Lib.hid hl6;have HG6:=Lib.hid (grown_trans (grown_drewN (grown_refl w (some b)) _) hg6);have c1:w6.cell? ⟨b,1,none⟩=some (.string x.kind):=hl6.cell 1;have f1:w6.frozen? ⟨b,1,none⟩=false:=hl6.free 1;clear hl6 hg6))
 (first|go_end0|go_ret)
 rw [HO.out]
 have hL:=HL6.out
 rw [St.own hx hb] at hL
 refine ⟨rfl, ?_,grown_set HG6.out 1 _⟩
 exact hL.set 1 (.string ⟨([60,60]:List UInt8).toArray⟩) _ rfl (by show x.at_+2≤s.size;omega)
set_option maxHeartbeats 1000000 in
set_option maxRecDepth 100000 in
theorem tok_60_61 {w:World} {B b f:Nat} {s:ByteArray} {x:St} (np:Bool) (last:lx.Bs) (h:LexS w B b f s x) (hx:x.str=⟨#[]⟩) (hb:x.base=0) (hin:x.at_<s.size) (hc:s[x.at_]=60) (n60:¬lx.nb (rest s x.at_) 1=60) (h2:lx.nb (rest s x.at_) 1=61) :
  Calls Tryz.prog 57 #[.pointer (some ⟨b,0,none⟩),.bool np] w (TokPost B b f s x (lx.token np last (rest s x.at_)) w):=by
 have HL:=Lib.hid h
 have SZ:=h.sz
 have hle:=h.le
 have hI:(!(inB s x.at_))=false:=by simp [inB,hin]
 have J1:Hid (bt s (x.at_+(0:Int).toNat)=60):=by show bt s (x.at_+0)=_;rw [Nat.add_zero,bt_in hin,hc];rfl
 have J9:Hid (bt s x.at_=60):=by show _=_;rw [bt_in hin,hc];rfl
 have pin0:x.at_+(0:Int).toNat<s.size:=by simpa using hin
 have S60:Hid (isB s (x.at_+(1:Int).toNat) 60=false):=by
  show _=_
  rw [show x.at_+(1:Int).toNat=x.at_+1 from rfl,isB_nb s x.at_ 1 60 (by omega)]
  simp
  omega
 have S61:Hid (isB s (x.at_+(1:Int).toNat) 61=true):=by
  show _=_
  rw [show x.at_+(1:Int).toNat=x.at_+1 from rfl,isB_nb s x.at_ 1 61 (by omega),h2]
  rfl
 have hin2:x.at_+2≤s.size:=by
  rcases Nat.lt_or_ge (x.at_+1) s.size with k|k
  ·omega
  ·have e:=nb_out s x.at_ 1 (by omega)
   omega
 have HO:Hid (lx.token np last (rest s x.at_)=.tok [60,61] 2 [] 0 none):=by
  have e:lx.token np last (rest s x.at_)=lx.sign2 (rest s x.at_) 60 [60,61,62]:=by
   rw [rest_cons s _ hin,hc]
   rfl
  show _=_
  rw [e]
  rw [show lx.sign2 (rest s x.at_) 60 [60,61,62]=_ from if_neg n60]
  rw [show lx.sign2 (rest s x.at_) 60 [61,62]=_ from if_pos h2]
 clear h
 go_enter Tryz.func57,Tryz.ntmps57
 go_wp2_with (first
  | (go_at_call 72;refine (eof_any HL.out.at (by omega) (by omega)).mono ?_;simp only [hI];rintro e w' ⟨rfl,n,rfl⟩)
  | (go_at_call 80;refine (peek_t _ _ (HL.out.drewN _).at (by omega) pin0 (by omega) J1).mono ?_;rintro e w' ⟨rfl,n,rfl⟩)
  | (go_at_call 81;refine (skip_t _ (HL.out.drewN _) hin J9).mono ?_;rintro e w6 ⟨rfl,hl6,hg6⟩;have HL6:=Lib.hid hl6;have HG6:=Lib.hid (grown_trans (grown_drewN (grown_refl w (some b)) _) hg6);have c1:w6.cell? ⟨b,1,none⟩=some (.string x.kind):=hl6.cell 1;have f1:w6.frozen? ⟨b,1,none⟩=false:=hl6.free 1;have d1:∀o,(w6.alloc o).cell? ⟨b,1,none⟩=some (.string x.kind):=fun o=>(hl6.below (below_alloc w6 o)).cell 1;have g1:∀o,(w6.alloc o).frozen? ⟨b,1,none⟩=false:=fun o=>(hl6.below (below_alloc w6 o)).free 1;clear hl6 hg6)
  | (go_at_call 76;refine (peekIs_t _ _ _ (HL.out.drewN _).at (by omega) (by omega) (by omega) (by omega) (by first|exact S60| exact S61)).mono ?_;rintro e w' ⟨rfl,n,rfl⟩)
  | (go_at_call 75;refine (skipN_t 2 _ (HL.out.drewN _) hin2 (by rfl)).mono ?_;rintro e w6 ⟨rfl,hl6,hg6⟩;have HL6:=Lib.hid hl6;have HG6:=Lib.hid (grown_trans (grown_drewN (grown_refl w (some b)) _) hg6);have c1:w6.cell? ⟨b,1,none⟩=some (.string x.kind):=hl6.cell 1;have f1:w6.frozen? ⟨b,1,none⟩=false:=hl6.free 1;clear hl6 hg6))
 (first|go_end0|go_ret)
 rw [HO.out]
 have hL:=HL6.out
 rw [St.own hx hb] at hL
 refine ⟨rfl, ?_,grown_set HG6.out 1 _⟩
 exact hL.set 1 (.string ⟨([60,61]:List UInt8).toArray⟩) _ rfl (by show x.at_+2≤s.size;omega)
set_option maxHeartbeats 1000000 in
set_option maxRecDepth 100000 in
theorem tok_60_62 {w:World} {B b f:Nat} {s:ByteArray} {x:St} (np:Bool) (last:lx.Bs) (h:LexS w B b f s x) (hx:x.str=⟨#[]⟩) (hb:x.base=0) (hin:x.at_<s.size) (hc:s[x.at_]=60) (n60:¬lx.nb (rest s x.at_) 1=60) (n61:¬lx.nb (rest s x.at_) 1=61) (h2:lx.nb (rest s x.at_) 1=62) :
  Calls Tryz.prog 57 #[.pointer (some ⟨b,0,none⟩),.bool np] w (TokPost B b f s x (lx.token np last (rest s x.at_)) w):=by
 have HL:=Lib.hid h
 have SZ:=h.sz
 have hle:=h.le
 have hI:(!(inB s x.at_))=false:=by simp [inB,hin]
 have J1:Hid (bt s (x.at_+(0:Int).toNat)=60):=by show bt s (x.at_+0)=_;rw [Nat.add_zero,bt_in hin,hc];rfl
 have J9:Hid (bt s x.at_=60):=by show _=_;rw [bt_in hin,hc];rfl
 have pin0:x.at_+(0:Int).toNat<s.size:=by simpa using hin
 have S60:Hid (isB s (x.at_+(1:Int).toNat) 60=false):=by
  show _=_
  rw [show x.at_+(1:Int).toNat=x.at_+1 from rfl,isB_nb s x.at_ 1 60 (by omega)]
  simp
  omega
 have S61:Hid (isB s (x.at_+(1:Int).toNat) 61=false):=by
  show _=_
  rw [show x.at_+(1:Int).toNat=x.at_+1 from rfl,isB_nb s x.at_ 1 61 (by omega)]
  simp
  omega
 have S62:Hid (isB s (x.at_+(1:Int).toNat) 62=true):=by
  show _=_
  rw [show x.at_+(1:Int).toNat=x.at_+1 from rfl,isB_nb s x.at_ 1 62 (by omega),h2]
  rfl
 have hin2:x.at_+2≤s.size:=by
  rcases Nat.lt_or_ge (x.at_+1) s.size with k|k
  ·omega
  ·have e:=nb_out s x.at_ 1 (by omega)
   omega
 have HO:Hid (lx.token np last (rest s x.at_)=.tok [60,62] 2 [] 0 none):=by
  have e:lx.token np last (rest s x.at_)=lx.sign2 (rest s x.at_) 60 [60,61,62]:=by
   rw [rest_cons s _ hin,hc]
   rfl
  show _=_
  rw [e]
  rw [show lx.sign2 (rest s x.at_) 60 [60,61,62]=_ from if_neg n60]
  rw [show lx.sign2 (rest s x.at_) 60 [61,62]=_ from if_neg n61]
  rw [show lx.sign2 (rest s x.at_) 60 [62]=_ from if_pos h2]
 clear h
 go_enter Tryz.func57,Tryz.ntmps57
 go_wp2_with (first
  | (go_at_call 72;refine (eof_any HL.out.at (by omega) (by omega)).mono ?_;simp only [hI];rintro e w' ⟨rfl,n,rfl⟩)
  | (go_at_call 80;refine (peek_t _ _ (HL.out.drewN _).at (by omega) pin0 (by omega) J1).mono ?_;rintro e w' ⟨rfl,n,rfl⟩)
  | (go_at_call 81;refine (skip_t _ (HL.out.drewN _) hin J9).mono ?_;rintro e w6 ⟨rfl,hl6,hg6⟩;have HL6:=Lib.hid hl6;have HG6:=Lib.hid (grown_trans (grown_drewN (grown_refl w (some b)) _) hg6);have c1:w6.cell? ⟨b,1,none⟩=some (.string x.kind):=hl6.cell 1;have f1:w6.frozen? ⟨b,1,none⟩=false:=hl6.free 1;have d1:∀o,(w6.alloc o).cell? ⟨b,1,none⟩=some (.string x.kind):=fun o=>(hl6.below (below_alloc w6 o)).cell 1;have g1:∀o,(w6.alloc o).frozen? ⟨b,1,none⟩=false:=fun o=>(hl6.below (below_alloc w6 o)).free 1;clear hl6 hg6)
  | (go_at_call 76;refine (peekIs_t _ _ _ (HL.out.drewN _).at (by omega) (by omega) (by omega) (by omega) (by first|exact S60| exact S61| exact S62)).mono ?_;rintro e w' ⟨rfl,n,rfl⟩)
  | (go_at_call 75;refine (skipN_t 2 _ (HL.out.drewN _) hin2 (by rfl)).mono ?_;rintro e w6 ⟨rfl,hl6,hg6⟩;have HL6:=Lib.hid hl6;have HG6:=Lib.hid (grown_trans (grown_drewN (grown_refl w (some b)) _) hg6);have c1:w6.cell? ⟨b,1,none⟩=some (.string x.kind):=hl6.cell 1;have f1:w6.frozen? ⟨b,1,none⟩=false:=hl6.free 1;clear hl6 hg6))
 (first|go_end0|go_ret)
 rw [HO.out]
 have hL:=HL6.out
 rw [St.own hx hb] at hL
 refine ⟨rfl, ?_,grown_set HG6.out 1 _⟩
 exact hL.set 1 (.string ⟨([60,62]:List UInt8).toArray⟩) _ rfl (by show x.at_+2≤s.size;omega)
set_option maxHeartbeats 1000000 in
set_option maxRecDepth 100000 in
theorem tok_60_no {w:World} {B b f:Nat} {s:ByteArray} {x:St} (np:Bool) (last:lx.Bs) (h:LexS w B b f s x) (hx:x.str=⟨#[]⟩) (hb:x.base=0) (hin:x.at_<s.size) (hc:s[x.at_]=60) (n60:¬lx.nb (rest s x.at_) 1=60) (n61:¬lx.nb (rest s x.at_) 1=61) (n62:¬lx.nb (rest s x.at_) 1=62) :
  Calls Tryz.prog 57 #[.pointer (some ⟨b,0,none⟩),.bool np] w (TokPost B b f s x (lx.token np last (rest s x.at_)) w):=by
 have HL:=Lib.hid h
 have SZ:=h.sz
 have hle:=h.le
 have hI:(!(inB s x.at_))=false:=by simp [inB,hin]
 have J1:Hid (bt s (x.at_+(0:Int).toNat)=60):=by show bt s (x.at_+0)=_;rw [Nat.add_zero,bt_in hin,hc];rfl
 have J9:Hid (bt s x.at_=60):=by show _=_;rw [bt_in hin,hc];rfl
 have pin0:x.at_+(0:Int).toNat<s.size:=by simpa using hin
 have S60:Hid (isB s (x.at_+(1:Int).toNat) 60=false):=by
  show _=_
  rw [show x.at_+(1:Int).toNat=x.at_+1 from rfl,isB_nb s x.at_ 1 60 (by omega)]
  simp
  omega
 have S61:Hid (isB s (x.at_+(1:Int).toNat) 61=false):=by
  show _=_
  rw [show x.at_+(1:Int).toNat=x.at_+1 from rfl,isB_nb s x.at_ 1 61 (by omega)]
  simp
  omega
 have S62:Hid (isB s (x.at_+(1:Int).toNat) 62=false):=by
  show _=_
  rw [show x.at_+(1:Int).toNat=x.at_+1 from rfl,isB_nb s x.at_ 1 62 (by omega)]
  simp
  omega
 have HO:Hid (lx.token np last (rest s x.at_)=.tok [60] 1 [] 0 none):=by
  have e:lx.token np last (rest s x.at_)=lx.sign2 (rest s x.at_) 60 [60,61,62]:=by
   rw [rest_cons s _ hin,hc]
   rfl
  show _=_
  rw [e]
  rw [show lx.sign2 (rest s x.at_) 60 [60,61,62]=_ from if_neg n60]
  rw [show lx.sign2 (rest s x.at_) 60 [61,62]=_ from if_neg n61]
  rw [show lx.sign2 (rest s x.at_) 60 [62]=_ from if_neg n62]
  rfl
 clear h
 go_enter Tryz.func57,Tryz.ntmps57
 go_wp2_with (first
  | (go_at_call 72;refine (eof_any HL.out.at (by omega) (by omega)).mono ?_;simp only [hI];rintro e w' ⟨rfl,n,rfl⟩)
  | (go_at_call 80;refine (peek_t _ _ (HL.out.drewN _).at (by omega) pin0 (by omega) J1).mono ?_;rintro e w' ⟨rfl,n,rfl⟩)
  | (go_at_call 81;refine (skip_t _ (HL.out.drewN _) hin J9).mono ?_;rintro e w6 ⟨rfl,hl6,hg6⟩;have HL6:=Lib.hid hl6;have HG6:=Lib.hid (grown_trans (grown_drewN (grown_refl w (some b)) _) hg6);have c1:w6.cell? ⟨b,1,none⟩=some (.string x.kind):=hl6.cell 1;have f1:w6.frozen? ⟨b,1,none⟩=false:=hl6.free 1;have d1:∀o,(w6.alloc o).cell? ⟨b,1,none⟩=some (.string x.kind):=fun o=>(hl6.below (below_alloc w6 o)).cell 1;have g1:∀o,(w6.alloc o).frozen? ⟨b,1,none⟩=false:=fun o=>(hl6.below (below_alloc w6 o)).free 1;clear hl6 hg6)
  | (go_at_call 76;refine (peekIs_t _ _ _ (HL.out.drewN _).at (by omega) (by omega) (by omega) (by omega) (by first|exact S60| exact S61| exact S62)).mono ?_;rintro e w' ⟨rfl,n,rfl⟩)
  | (go_at_call 75;refine (skipN_t 2 _ (HL.out.drewN _) hin2 (by rfl)).mono ?_;rintro e w6 ⟨rfl,hl6,hg6⟩;have HL6:=Lib.hid hl6;have HG6:=Lib.hid (grown_trans (grown_drewN (grown_refl w (some b)) _) hg6);have c1:w6.cell? ⟨b,1,none⟩=some (.string x.kind):=hl6.cell 1;have f1:w6.frozen? ⟨b,1,none⟩=false:=hl6.free 1;clear hl6 hg6))
 (first|go_end0|go_ret)
 rw [HO.out]
 have hL:=HL6.out
 rw [St.own hx hb] at hL
 refine ⟨rfl, ?_,grown_set HG6.out 1 _⟩
 exact hL.set 1 (.string ⟨([60]:List UInt8).toArray⟩) _ rfl (by show x.at_+1≤s.size;omega)
theorem tok_60 {w:World} {B b f:Nat} {s:ByteArray} {x:St} (np:Bool) (last:lx.Bs) (h:LexS w B b f s x) (hx:x.str=⟨#[]⟩) (hb:x.base=0) (hin:x.at_<s.size) (hc:s[x.at_]=60) :
  Calls Tryz.prog 57 #[.pointer (some ⟨b,0,none⟩),.bool np] w (TokPost B b f s x (lx.token np last (rest s x.at_)) w):=by
 by_cases h60:lx.nb (rest s x.at_) 1=60
 ·exact tok_60_60 np last h hx hb hin hc h60
 by_cases h61:lx.nb (rest s x.at_) 1=61
 ·exact tok_60_61 np last h hx hb hin hc h60 h61
 by_cases h62:lx.nb (rest s x.at_) 1=62
 ·exact tok_60_62 np last h hx hb hin hc h60 h61 h62
 exact tok_60_no np last h hx hb hin hc h60 h61 h62
set_option maxHeartbeats 1000000 in
set_option maxRecDepth 100000 in
theorem tok_62_62 {w:World} {B b f:Nat} {s:ByteArray} {x:St} (np:Bool) (last:lx.Bs) (h:LexS w B b f s x) (hx:x.str=⟨#[]⟩) (hb:x.base=0) (hin:x.at_<s.size) (hc:s[x.at_]=62)  (h2:lx.nb (rest s x.at_) 1=62) :
  Calls Tryz.prog 57 #[.pointer (some ⟨b,0,none⟩),.bool np] w (TokPost B b f s x (lx.token np last (rest s x.at_)) w):=by
 have HL:=Lib.hid h
 have SZ:=h.sz
 have hle:=h.le
 have hI:(!(inB s x.at_))=false:=by simp [inB,hin]
 have J1:Hid (bt s (x.at_+(0:Int).toNat)=62):=by show bt s (x.at_+0)=_;rw [Nat.add_zero,bt_in hin,hc];rfl
 have J9:Hid (bt s x.at_=62):=by show _=_;rw [bt_in hin,hc];rfl
 have pin0:x.at_+(0:Int).toNat<s.size:=by simpa using hin
 have S62:Hid (isB s (x.at_+(1:Int).toNat) 62=true):=by
  show _=_
  rw [show x.at_+(1:Int).toNat=x.at_+1 from rfl,isB_nb s x.at_ 1 62 (by omega),h2]
  rfl
 have hin2:x.at_+2≤s.size:=by
  rcases Nat.lt_or_ge (x.at_+1) s.size with k|k
  ·omega
  ·have e:=nb_out s x.at_ 1 (by omega)
   omega
 have HO:Hid (lx.token np last (rest s x.at_)=.tok [62,62] 2 [] 0 none):=by
  have e:lx.token np last (rest s x.at_)=lx.sign2 (rest s x.at_) 62 [62,61]:=by
   rw [rest_cons s _ hin,hc]
   rfl
  show _=_
  rw [e]
  rw [show lx.sign2 (rest s x.at_) 62 [62,61]=_ from if_pos h2]
 clear h
 go_enter Tryz.func57,Tryz.ntmps57
 go_wp2_with (first
  | (go_at_call 72;refine (eof_any HL.out.at (by omega) (by omega)).mono ?_;simp only [hI];rintro e w' ⟨rfl,n,rfl⟩)
  | (go_at_call 80;refine (peek_t _ _ (HL.out.drewN _).at (by omega) pin0 (by omega) J1).mono ?_;rintro e w' ⟨rfl,n,rfl⟩)
  | (go_at_call 81;refine (skip_t _ (HL.out.drewN _) hin J9).mono ?_;rintro e w6 ⟨rfl,hl6,hg6⟩;have HL6:=Lib.hid hl6;have HG6:=Lib.hid (grown_trans (grown_drewN (grown_refl w (some b)) _) hg6);have c1:w6.cell? ⟨b,1,none⟩=some (.string x.kind):=hl6.cell 1;have f1:w6.frozen? ⟨b,1,none⟩=false:=hl6.free 1;have d1:∀o,(w6.alloc o).cell? ⟨b,1,none⟩=some (.string x.kind):=fun o=>(hl6.below (below_alloc w6 o)).cell 1;have g1:∀o,(w6.alloc o).frozen? ⟨b,1,none⟩=false:=fun o=>(hl6.below (below_alloc w6 o)).free 1;clear hl6 hg6)
  | (go_at_call 76;refine (peekIs_t _ _ _ (HL.out.drewN _).at (by omega) (by omega) (by omega) (by omega) (by first|exact S62)).mono ?_;rintro e w' ⟨rfl,n,rfl⟩)
  | (go_at_call 75;refine (skipN_t 2 _ (HL.out.drewN _) hin2 (by rfl)).mono ?_;rintro e w6 ⟨rfl,hl6,hg6⟩;have HL6:=Lib.hid hl6;have HG6:=Lib.hid (grown_trans (grown_drewN (grown_refl w (some b)) _) hg6);have c1:w6.cell? ⟨b,1,none⟩=some (.string x.kind):=hl6.cell 1;have f1:w6.frozen? ⟨b,1,none⟩=false:=hl6.free 1;clear hl6 hg6))
 (first|go_end0|go_ret)
 rw [HO.out]
 have hL:=HL6.out
 rw [St.own hx hb] at hL
 refine ⟨rfl, ?_,grown_set HG6.out 1 _⟩
 exact hL.set 1 (.string ⟨([62,62]:List UInt8).toArray⟩) _ rfl (by show x.at_+2≤s.size;omega)
set_option maxHeartbeats 1000000 in
set_option maxRecDepth 100000 in
theorem tok_62_61 {w:World} {B b f:Nat} {s:ByteArray} {x:St} (np:Bool) (last:lx.Bs) (h:LexS w B b f s x) (hx:x.str=⟨#[]⟩) (hb:x.base=0) (hin:x.at_<s.size) (hc:s[x.at_]=62) (n62:¬lx.nb (rest s x.at_) 1=62) (h2:lx.nb (rest s x.at_) 1=61) :
  Calls Tryz.prog 57 #[.pointer (some ⟨b,0,none⟩),.bool np] w (TokPost B b f s x (lx.token np last (rest s x.at_)) w):=by
 have HL:=Lib.hid h
 have SZ:=h.sz
 have hle:=h.le
 have hI:(!(inB s x.at_))=false:=by simp [inB,hin]
 have J1:Hid (bt s (x.at_+(0:Int).toNat)=62):=by show bt s (x.at_+0)=_;rw [Nat.add_zero,bt_in hin,hc];rfl
 have J9:Hid (bt s x.at_=62):=by show _=_;rw [bt_in hin,hc];rfl
 have pin0:x.at_+(0:Int).toNat<s.size:=by simpa using hin
 have S62:Hid (isB s (x.at_+(1:Int).toNat) 62=false):=by
  show _=_
  rw [show x.at_+(1:Int).toNat=x.at_+1 from rfl,isB_nb s x.at_ 1 62 (by omega)]
  simp
  omega
 have S61:Hid (isB s (x.at_+(1:Int).toNat) 61=true):=by
  show _=_
  rw [show x.at_+(1:Int).toNat=x.at_+1 from rfl,isB_nb s x.at_ 1 61 (by omega),h2]
  rfl
 have hin2:x.at_+2≤s.size:=by
  rcases Nat.lt_or_ge (x.at_+1) s.size with k|k
  ·omega
  ·have e:=nb_out s x.at_ 1 (by omega)
   omega
 have HO:Hid (lx.token np last (rest s x.at_)=.tok [62,61] 2 [] 0 none):=by
  have e:lx.token np last (rest s x.at_)=lx.sign2 (rest s x.at_) 62 [62,61]:=by
   rw [rest_cons s _ hin,hc]
   rfl
  show _=_
  rw [e]
  rw [show lx.sign2 (rest s x.at_) 62 [62,61]=_ from if_neg n62]
  rw [show lx.sign2 (rest s x.at_) 62 [61]=_ from if_pos h2]
 clear h
 go_enter Tryz.func57,Tryz.ntmps57
 go_wp2_with (first
  | (go_at_call 72;refine (eof_any HL.out.at (by omega) (by omega)).mono ?_;simp only [hI];rintro e w' ⟨rfl,n,rfl⟩)
  | (go_at_call 80;refine (peek_t _ _ (HL.out.drewN _).at (by omega) pin0 (by omega) J1).mono ?_;rintro e w' ⟨rfl,n,rfl⟩)
  | (go_at_call 81;refine (skip_t _ (HL.out.drewN _) hin J9).mono ?_;rintro e w6 ⟨rfl,hl6,hg6⟩;have HL6:=Lib.hid hl6;have HG6:=Lib.hid (grown_trans (grown_drewN (grown_refl w (some b)) _) hg6);have c1:w6.cell? ⟨b,1,none⟩=some (.string x.kind):=hl6.cell 1;have f1:w6.frozen? ⟨b,1,none⟩=false:=hl6.free 1;have d1:∀o,(w6.alloc o).cell? ⟨b,1,none⟩=some (.string x.kind):=fun o=>(hl6.below (below_alloc w6 o)).cell 1;have g1:∀o,(w6.alloc o).frozen? ⟨b,1,none⟩=false:=fun o=>(hl6.below (below_alloc w6 o)).free 1;clear hl6 hg6)
  | (go_at_call 76;refine (peekIs_t _ _ _ (HL.out.drewN _).at (by omega) (by omega) (by omega) (by omega) (by first|exact S62| exact S61)).mono ?_;rintro e w' ⟨rfl,n,rfl⟩)
  | (go_at_call 75;refine (skipN_t 2 _ (HL.out.drewN _) hin2 (by rfl)).mono ?_;rintro e w6 ⟨rfl,hl6,hg6⟩;have HL6:=Lib.hid hl6;have HG6:=Lib.hid (grown_trans (grown_drewN (grown_refl w (some b)) _) hg6);have c1:w6.cell? ⟨b,1,none⟩=some (.string x.kind):=hl6.cell 1;have f1:w6.frozen? ⟨b,1,none⟩=false:=hl6.free 1;clear hl6 hg6))
 (first|go_end0|go_ret)
 rw [HO.out]
 have hL:=HL6.out
 rw [St.own hx hb] at hL
 refine ⟨rfl, ?_,grown_set HG6.out 1 _⟩
 exact hL.set 1 (.string ⟨([62,61]:List UInt8).toArray⟩) _ rfl (by show x.at_+2≤s.size;omega)
set_option maxHeartbeats 1000000 in
set_option maxRecDepth 100000 in
theorem tok_62_no {w:World} {B b f:Nat} {s:ByteArray} {x:St} (np:Bool) (last:lx.Bs) (h:LexS w B b f s x) (hx:x.str=⟨#[]⟩) (hb:x.base=0) (hin:x.at_<s.size) (hc:s[x.at_]=62) (n62:¬lx.nb (rest s x.at_) 1=62) (n61:¬lx.nb (rest s x.at_) 1=61) :
  Calls Tryz.prog 57 #[.pointer (some ⟨b,0,none⟩),.bool np] w (TokPost B b f s x (lx.token np last (rest s x.at_)) w):=by
 have HL:=Lib.hid h
 have SZ:=h.sz
 have hle:=h.le
 have hI:(!(inB s x.at_))=false:=by simp [inB,hin]
 have J1:Hid (bt s (x.at_+(0:Int).toNat)=62):=by show bt s (x.at_+0)=_;rw [Nat.add_zero,bt_in hin,hc];rfl
 have J9:Hid (bt s x.at_=62):=by show _=_;rw [bt_in hin,hc];rfl
 have pin0:x.at_+(0:Int).toNat<s.size:=by simpa using hin
 have S62:Hid (isB s (x.at_+(1:Int).toNat) 62=false):=by
  show _=_
  rw [show x.at_+(1:Int).toNat=x.at_+1 from rfl,isB_nb s x.at_ 1 62 (by omega)]
  simp
  omega
 have S61:Hid (isB s (x.at_+(1:Int).toNat) 61=false):=by
  show _=_
  rw [show x.at_+(1:Int).toNat=x.at_+1 from rfl,isB_nb s x.at_ 1 61 (by omega)]
  simp
  omega
 have HO:Hid (lx.token np last (rest s x.at_)=.tok [62] 1 [] 0 none):=by
  have e:lx.token np last (rest s x.at_)=lx.sign2 (rest s x.at_) 62 [62,61]:=by
   rw [rest_cons s _ hin,hc]
   rfl
  show _=_
  rw [e]
  rw [show lx.sign2 (rest s x.at_) 62 [62,61]=_ from if_neg n62]
  rw [show lx.sign2 (rest s x.at_) 62 [61]=_ from if_neg n61]
  rfl
 clear h
 go_enter Tryz.func57,Tryz.ntmps57
 go_wp2_with (first
  | (go_at_call 72;refine (eof_any HL.out.at (by omega) (by omega)).mono ?_;simp only [hI];rintro e w' ⟨rfl,n,rfl⟩)
  | (go_at_call 80;refine (peek_t _ _ (HL.out.drewN _).at (by omega) pin0 (by omega) J1).mono ?_;rintro e w' ⟨rfl,n,rfl⟩)
  | (go_at_call 81;refine (skip_t _ (HL.out.drewN _) hin J9).mono ?_;rintro e w6 ⟨rfl,hl6,hg6⟩;have HL6:=Lib.hid hl6;have HG6:=Lib.hid (grown_trans (grown_drewN (grown_refl w (some b)) _) hg6);have c1:w6.cell? ⟨b,1,none⟩=some (.string x.kind):=hl6.cell 1;have f1:w6.frozen? ⟨b,1,none⟩=false:=hl6.free 1;have d1:∀o,(w6.alloc o).cell? ⟨b,1,none⟩=some (.string x.kind):=fun o=>(hl6.below (below_alloc w6 o)).cell 1;have g1:∀o,(w6.alloc o).frozen? ⟨b,1,none⟩=false:=fun o=>(hl6.below (below_alloc w6 o)).free 1;clear hl6 hg6)
  | (go_at_call 76;refine (peekIs_t _ _ _ (HL.out.drewN _).at (by omega) (by omega) (by omega) (by omega) (by first|exact S62| exact S61)).mono ?_;rintro e w' ⟨rfl,n,rfl⟩)
  | (go_at_call 75;refine (skipN_t 2 _ (HL.out.drewN _) hin2 (by rfl)).mono ?_;rintro e w6 ⟨rfl,hl6,hg6⟩;have HL6:=Lib.hid hl6;have HG6:=Lib.hid (grown_trans (grown_drewN (grown_refl w (some b)) _) hg6);have c1:w6.cell? ⟨b,1,none⟩=some (.string x.kind):=hl6.cell 1;have f1:w6.frozen? ⟨b,1,none⟩=false:=hl6.free 1;clear hl6 hg6))
 (first|go_end0|go_ret)
 rw [HO.out]
 have hL:=HL6.out
 rw [St.own hx hb] at hL
 refine ⟨rfl, ?_,grown_set HG6.out 1 _⟩
 exact hL.set 1 (.string ⟨([62]:List UInt8).toArray⟩) _ rfl (by show x.at_+1≤s.size;omega)
theorem tok_62 {w:World} {B b f:Nat} {s:ByteArray} {x:St} (np:Bool) (last:lx.Bs) (h:LexS w B b f s x) (hx:x.str=⟨#[]⟩) (hb:x.base=0) (hin:x.at_<s.size) (hc:s[x.at_]=62) :
  Calls Tryz.prog 57 #[.pointer (some ⟨b,0,none⟩),.bool np] w (TokPost B b f s x (lx.token np last (rest s x.at_)) w):=by
 by_cases h62:lx.nb (rest s x.at_) 1=62
 ·exact tok_62_62 np last h hx hb hin hc h62
 by_cases h61:lx.nb (rest s x.at_) 1=61
 ·exact tok_62_61 np last h hx hb hin hc h62 h61
 exact tok_62_no np last h hx hb hin hc h62 h61
set_option maxHeartbeats 1000000 in
set_option maxRecDepth 100000 in
theorem tok_43_61 {w:World} {B b f:Nat} {s:ByteArray} {x:St} (np:Bool) (last:lx.Bs) (h:LexS w B b f s x) (hx:x.str=⟨#[]⟩) (hb:x.base=0) (hin:x.at_<s.size) (hc:s[x.at_]=43)  (h2:lx.nb (rest s x.at_) 1=61) :
  Calls Tryz.prog 57 #[.pointer (some ⟨b,0,none⟩),.bool np] w (TokPost B b f s x (lx.token np last (rest s x.at_)) w):=by
 have HL:=Lib.hid h
 have SZ:=h.sz
 have hle:=h.le
 have hI:(!(inB s x.at_))=false:=by simp [inB,hin]
 have J1:Hid (bt s (x.at_+(0:Int).toNat)=43):=by show bt s (x.at_+0)=_;rw [Nat.add_zero,bt_in hin,hc];rfl
 have J9:Hid (bt s x.at_=43):=by show _=_;rw [bt_in hin,hc];rfl
 have pin0:x.at_+(0:Int).toNat<s.size:=by simpa using hin
 have S61:Hid (isB s (x.at_+(1:Int).toNat) 61=true):=by
  show _=_
  rw [show x.at_+(1:Int).toNat=x.at_+1 from rfl,isB_nb s x.at_ 1 61 (by omega),h2]
  rfl
 have hin2:x.at_+2≤s.size:=by
  rcases Nat.lt_or_ge (x.at_+1) s.size with k|k
  ·omega
  ·have e:=nb_out s x.at_ 1 (by omega)
   omega
 have HO:Hid (lx.token np last (rest s x.at_)=.tok [43,61] 2 [] 0 none):=by
  have e:lx.token np last (rest s x.at_)=lx.sign2 (rest s x.at_) 43 [61]:=by
   rw [rest_cons s _ hin,hc]
   rfl
  show _=_
  rw [e]
  rw [show lx.sign2 (rest s x.at_) 43 [61]=_ from if_pos h2]
 clear h
 go_enter Tryz.func57,Tryz.ntmps57
 go_wp2_with (first
  | (go_at_call 72;refine (eof_any HL.out.at (by omega) (by omega)).mono ?_;simp only [hI];rintro e w' ⟨rfl,n,rfl⟩)
  | (go_at_call 80;refine (peek_t _ _ (HL.out.drewN _).at (by omega) pin0 (by omega) J1).mono ?_;rintro e w' ⟨rfl,n,rfl⟩)
  | (go_at_call 81;refine (skip_t _ (HL.out.drewN _) hin J9).mono ?_;rintro e w6 ⟨rfl,hl6,hg6⟩;have HL6:=Lib.hid hl6;have HG6:=Lib.hid (grown_trans (grown_drewN (grown_refl w (some b)) _) hg6);have c1:w6.cell? ⟨b,1,none⟩=some (.string x.kind):=hl6.cell 1;have f1:w6.frozen? ⟨b,1,none⟩=false:=hl6.free 1;have d1:∀o,(w6.alloc o).cell? ⟨b,1,none⟩=some (.string x.kind):=fun o=>(hl6.below (below_alloc w6 o)).cell 1;have g1:∀o,(w6.alloc o).frozen? ⟨b,1,none⟩=false:=fun o=>(hl6.below (below_alloc w6 o)).free 1;clear hl6 hg6)
  | (go_at_call 76;refine (peekIs_t _ _ _ (HL.out.drewN _).at (by omega) (by omega) (by omega) (by omega) (by first|exact S61)).mono ?_;rintro e w' ⟨rfl,n,rfl⟩)
  | (go_at_call 75;refine (skipN_t 2 _ (HL.out.drewN _) hin2 (by rfl)).mono ?_;rintro e w6 ⟨rfl,hl6,hg6⟩;have HL6:=Lib.hid hl6;have HG6:=Lib.hid (grown_trans (grown_drewN (grown_refl w (some b)) _) hg6);have c1:w6.cell? ⟨b,1,none⟩=some (.string x.kind):=hl6.cell 1;have f1:w6.frozen? ⟨b,1,none⟩=false:=hl6.free 1;clear hl6 hg6))
 (first|go_end0|go_ret)
 rw [HO.out]
 have hL:=HL6.out
 rw [St.own hx hb] at hL
 refine ⟨rfl, ?_,grown_set HG6.out 1 _⟩
 exact hL.set 1 (.string ⟨([43,61]:List UInt8).toArray⟩) _ rfl (by show x.at_+2≤s.size;omega)
set_option maxHeartbeats 1000000 in
set_option maxRecDepth 100000 in
theorem tok_43_no {w:World} {B b f:Nat} {s:ByteArray} {x:St} (np:Bool) (last:lx.Bs) (h:LexS w B b f s x) (hx:x.str=⟨#[]⟩) (hb:x.base=0) (hin:x.at_<s.size) (hc:s[x.at_]=43) (n61:¬lx.nb (rest s x.at_) 1=61) :
  Calls Tryz.prog 57 #[.pointer (some ⟨b,0,none⟩),.bool np] w (TokPost B b f s x (lx.token np last (rest s x.at_)) w):=by
 have HL:=Lib.hid h
 have SZ:=h.sz
 have hle:=h.le
 have hI:(!(inB s x.at_))=false:=by simp [inB,hin]
 have J1:Hid (bt s (x.at_+(0:Int).toNat)=43):=by show bt s (x.at_+0)=_;rw [Nat.add_zero,bt_in hin,hc];rfl
 have J9:Hid (bt s x.at_=43):=by show _=_;rw [bt_in hin,hc];rfl
 have pin0:x.at_+(0:Int).toNat<s.size:=by simpa using hin
 have S61:Hid (isB s (x.at_+(1:Int).toNat) 61=false):=by
  show _=_
  rw [show x.at_+(1:Int).toNat=x.at_+1 from rfl,isB_nb s x.at_ 1 61 (by omega)]
  simp
  omega
 have HO:Hid (lx.token np last (rest s x.at_)=.tok [43] 1 [] 0 none):=by
  have e:lx.token np last (rest s x.at_)=lx.sign2 (rest s x.at_) 43 [61]:=by
   rw [rest_cons s _ hin,hc]
   rfl
  show _=_
  rw [e]
  rw [show lx.sign2 (rest s x.at_) 43 [61]=_ from if_neg n61]
  rfl
 clear h
 go_enter Tryz.func57,Tryz.ntmps57
 go_wp2_with (first
  | (go_at_call 72;refine (eof_any HL.out.at (by omega) (by omega)).mono ?_;simp only [hI];rintro e w' ⟨rfl,n,rfl⟩)
  | (go_at_call 80;refine (peek_t _ _ (HL.out.drewN _).at (by omega) pin0 (by omega) J1).mono ?_;rintro e w' ⟨rfl,n,rfl⟩)
  | (go_at_call 81;refine (skip_t _ (HL.out.drewN _) hin J9).mono ?_;rintro e w6 ⟨rfl,hl6,hg6⟩;have HL6:=Lib.hid hl6;have HG6:=Lib.hid (grown_trans (grown_drewN (grown_refl w (some b)) _) hg6);have c1:w6.cell? ⟨b,1,none⟩=some (.string x.kind):=hl6.cell 1;have f1:w6.frozen? ⟨b,1,none⟩=false:=hl6.free 1;have d1:∀o,(w6.alloc o).cell? ⟨b,1,none⟩=some (.string x.kind):=fun o=>(hl6.below (below_alloc w6 o)).cell 1;have g1:∀o,(w6.alloc o).frozen? ⟨b,1,none⟩=false:=fun o=>(hl6.below (below_alloc w6 o)).free 1;clear hl6 hg6)
  | (go_at_call 76;refine (peekIs_t _ _ _ (HL.out.drewN _).at (by omega) (by omega) (by omega) (by omega) (by first|exact S61)).mono ?_;rintro e w' ⟨rfl,n,rfl⟩)
  | (go_at_call 75;refine (skipN_t 2 _ (HL.out.drewN _) hin2 (by rfl)).mono ?_;rintro e w6 ⟨rfl,hl6,hg6⟩;have HL6:=Lib.hid hl6;have HG6:=Lib.hid (grown_trans (grown_drewN (grown_refl w (some b)) _) hg6);have c1:w6.cell? ⟨b,1,none⟩=some (.string x.kind):=hl6.cell 1;have f1:w6.frozen? ⟨b,1,none⟩=false:=hl6.free 1;clear hl6 hg6))
 (first|go_end0|go_ret)
 rw [HO.out]
 have hL:=HL6.out
 rw [St.own hx hb] at hL
 refine ⟨rfl, ?_,grown_set HG6.out 1 _⟩
 exact hL.set 1 (.string ⟨([43]:List UInt8).toArray⟩) _ rfl (by show x.at_+1≤s.size;omega)
theorem tok_43 {w:World} {B b f:Nat} {s:ByteArray} {x:St} (np:Bool) (last:lx.Bs) (h:LexS w B b f s x) (hx:x.str=⟨#[]⟩) (hb:x.base=0) (hin:x.at_<s.size) (hc:s[x.at_]=43) :
  Calls Tryz.prog 57 #[.pointer (some ⟨b,0,none⟩),.bool np] w (TokPost B b f s x (lx.token np last (rest s x.at_)) w):=by
 by_cases h61:lx.nb (rest s x.at_) 1=61
 ·exact tok_43_61 np last h hx hb hin hc h61
 exact tok_43_no np last h hx hb hin hc h61
set_option maxHeartbeats 1000000 in
set_option maxRecDepth 100000 in
theorem tok_45_61 {w:World} {B b f:Nat} {s:ByteArray} {x:St} (np:Bool) (last:lx.Bs) (h:LexS w B b f s x) (hx:x.str=⟨#[]⟩) (hb:x.base=0) (hin:x.at_<s.size) (hc:s[x.at_]=45)  (h2:lx.nb (rest s x.at_) 1=61) :
  Calls Tryz.prog 57 #[.pointer (some ⟨b,0,none⟩),.bool np] w (TokPost B b f s x (lx.token np last (rest s x.at_)) w):=by
 have HL:=Lib.hid h
 have SZ:=h.sz
 have hle:=h.le
 have hI:(!(inB s x.at_))=false:=by simp [inB,hin]
 have J1:Hid (bt s (x.at_+(0:Int).toNat)=45):=by show bt s (x.at_+0)=_;rw [Nat.add_zero,bt_in hin,hc];rfl
 have J9:Hid (bt s x.at_=45):=by show _=_;rw [bt_in hin,hc];rfl
 have pin0:x.at_+(0:Int).toNat<s.size:=by simpa using hin
 have S61:Hid (isB s (x.at_+(1:Int).toNat) 61=true):=by
  show _=_
  rw [show x.at_+(1:Int).toNat=x.at_+1 from rfl,isB_nb s x.at_ 1 61 (by omega),h2]
  rfl
 have hin2:x.at_+2≤s.size:=by
  rcases Nat.lt_or_ge (x.at_+1) s.size with k|k
  ·omega
  ·have e:=nb_out s x.at_ 1 (by omega)
   omega
 have HO:Hid (lx.token np last (rest s x.at_)=.tok [45,61] 2 [] 0 none):=by
  have e:lx.token np last (rest s x.at_)=lx.sign2 (rest s x.at_) 45 [61,62]:=by
   rw [rest_cons s _ hin,hc]
   rfl
  show _=_
  rw [e]
  rw [show lx.sign2 (rest s x.at_) 45 [61,62]=_ from if_pos h2]
 clear h
 go_enter Tryz.func57,Tryz.ntmps57
 go_wp2_with (first
  | (go_at_call 72;refine (eof_any HL.out.at (by omega) (by omega)).mono ?_;simp only [hI];rintro e w' ⟨rfl,n,rfl⟩)
  | (go_at_call 80;refine (peek_t _ _ (HL.out.drewN _).at (by omega) pin0 (by omega) J1).mono ?_;rintro e w' ⟨rfl,n,rfl⟩)
  | (go_at_call 81;refine (skip_t _ (HL.out.drewN _) hin J9).mono ?_;rintro e w6 ⟨rfl,hl6,hg6⟩;have HL6:=Lib.hid hl6;have HG6:=Lib.hid (grown_trans (grown_drewN (grown_refl w (some b)) _) hg6);have c1:w6.cell? ⟨b,1,none⟩=some (.string x.kind):=hl6.cell 1;have f1:w6.frozen? ⟨b,1,none⟩=false:=hl6.free 1;have d1:∀o,(w6.alloc o).cell? ⟨b,1,none⟩=some (.string x.kind):=fun o=>(hl6.below (below_alloc w6 o)).cell 1;have g1:∀o,(w6.alloc o).frozen? ⟨b,1,none⟩=false:=fun o=>(hl6.below (below_alloc w6 o)).free 1;clear hl6 hg6)
  | (go_at_call 76;refine (peekIs_t _ _ _ (HL.out.drewN _).at (by omega) (by omega) (by omega) (by omega) (by first|exact S61)).mono ?_;rintro e w' ⟨rfl,n,rfl⟩)
  | (go_at_call 75;refine (skipN_t 2 _ (HL.out.drewN _) hin2 (by rfl)).mono ?_;rintro e w6 ⟨rfl,hl6,hg6⟩;have HL6:=Lib.hid hl6;have HG6:=Lib.hid (grown_trans (grown_drewN (grown_refl w (some b)) _) hg6);have c1:w6.cell? ⟨b,1,none⟩=some (.string x.kind):=hl6.cell 1;have f1:w6.frozen? ⟨b,1,none⟩=false:=hl6.free 1;clear hl6 hg6))
 (first|go_end0|go_ret)
 rw [HO.out]
 have hL:=HL6.out
 rw [St.own hx hb] at hL
 refine ⟨rfl, ?_,grown_set HG6.out 1 _⟩
 exact hL.set 1 (.string ⟨([45,61]:List UInt8).toArray⟩) _ rfl (by show x.at_+2≤s.size;omega)
set_option maxHeartbeats 1000000 in
set_option maxRecDepth 100000 in
theorem tok_45_62 {w:World} {B b f:Nat} {s:ByteArray} {x:St} (np:Bool) (last:lx.Bs) (h:LexS w B b f s x) (hx:x.str=⟨#[]⟩) (hb:x.base=0) (hin:x.at_<s.size) (hc:s[x.at_]=45) (n61:¬lx.nb (rest s x.at_) 1=61) (h2:lx.nb (rest s x.at_) 1=62) :
  Calls Tryz.prog 57 #[.pointer (some ⟨b,0,none⟩),.bool np] w (TokPost B b f s x (lx.token np last (rest s x.at_)) w):=by
 have HL:=Lib.hid h
 have SZ:=h.sz
 have hle:=h.le
 have hI:(!(inB s x.at_))=false:=by simp [inB,hin]
 have J1:Hid (bt s (x.at_+(0:Int).toNat)=45):=by show bt s (x.at_+0)=_;rw [Nat.add_zero,bt_in hin,hc];rfl
 have J9:Hid (bt s x.at_=45):=by show _=_;rw [bt_in hin,hc];rfl
 have pin0:x.at_+(0:Int).toNat<s.size:=by simpa using hin
 have S61:Hid (isB s (x.at_+(1:Int).toNat) 61=false):=by
  show _=_
  rw [show x.at_+(1:Int).toNat=x.at_+1 from rfl,isB_nb s x.at_ 1 61 (by omega)]
  simp
  omega
 have S62:Hid (isB s (x.at_+(1:Int).toNat) 62=true):=by
  show _=_
  rw [show x.at_+(1:Int).toNat=x.at_+1 from rfl,isB_nb s x.at_ 1 62 (by omega),h2]
  rfl
 have hin2:x.at_+2≤s.size:=by
  rcases Nat.lt_or_ge (x.at_+1) s.size with k|k
  ·omega
  ·have e:=nb_out s x.at_ 1 (by omega)
   omega
 have HO:Hid (lx.token np last (rest s x.at_)=.tok [45,62] 2 [] 0 none):=by
  have e:lx.token np last (rest s x.at_)=lx.sign2 (rest s x.at_) 45 [61,62]:=by
   rw [rest_cons s _ hin,hc]
   rfl
  show _=_
  rw [e]
  rw [show lx.sign2 (rest s x.at_) 45 [61,62]=_ from if_neg n61]
  rw [show lx.sign2 (rest s x.at_) 45 [62]=_ from if_pos h2]
 clear h
 go_enter Tryz.func57,Tryz.ntmps57
 go_wp2_with (first
  | (go_at_call 72;refine (eof_any HL.out.at (by omega) (by omega)).mono ?_;simp only [hI];rintro e w' ⟨rfl,n,rfl⟩)
  | (go_at_call 80;refine (peek_t _ _ (HL.out.drewN _).at (by omega) pin0 (by omega) J1).mono ?_;rintro e w' ⟨rfl,n,rfl⟩)
  | (go_at_call 81;refine (skip_t _ (HL.out.drewN _) hin J9).mono ?_;rintro e w6 ⟨rfl,hl6,hg6⟩;have HL6:=Lib.hid hl6;have HG6:=Lib.hid (grown_trans (grown_drewN (grown_refl w (some b)) _) hg6);have c1:w6.cell? ⟨b,1,none⟩=some (.string x.kind):=hl6.cell 1;have f1:w6.frozen? ⟨b,1,none⟩=false:=hl6.free 1;have d1:∀o,(w6.alloc o).cell? ⟨b,1,none⟩=some (.string x.kind):=fun o=>(hl6.below (below_alloc w6 o)).cell 1;have g1:∀o,(w6.alloc o).frozen? ⟨b,1,none⟩=false:=fun o=>(hl6.below (below_alloc w6 o)).free 1;clear hl6 hg6)
  | (go_at_call 76;refine (peekIs_t _ _ _ (HL.out.drewN _).at (by omega) (by omega) (by omega) (by omega) (by first|exact S61| exact S62)).mono ?_;rintro e w' ⟨rfl,n,rfl⟩)
  | (go_at_call 75;refine (skipN_t 2 _ (HL.out.drewN _) hin2 (by rfl)).mono ?_;rintro e w6 ⟨rfl,hl6,hg6⟩;have HL6:=Lib.hid hl6;have HG6:=Lib.hid (grown_trans (grown_drewN (grown_refl w (some b)) _) hg6);have c1:w6.cell? ⟨b,1,none⟩=some (.string x.kind):=hl6.cell 1;have f1:w6.frozen? ⟨b,1,none⟩=false:=hl6.free 1;clear hl6 hg6))
 (first|go_end0|go_ret)
 rw [HO.out]
 have hL:=HL6.out
 rw [St.own hx hb] at hL
 refine ⟨rfl, ?_,grown_set HG6.out 1 _⟩
 exact hL.set 1 (.string ⟨([45,62]:List UInt8).toArray⟩) _ rfl (by show x.at_+2≤s.size;omega)
set_option maxHeartbeats 1000000 in
set_option maxRecDepth 100000 in
theorem tok_45_no {w:World} {B b f:Nat} {s:ByteArray} {x:St} (np:Bool) (last:lx.Bs) (h:LexS w B b f s x) (hx:x.str=⟨#[]⟩) (hb:x.base=0) (hin:x.at_<s.size) (hc:s[x.at_]=45) (n61:¬lx.nb (rest s x.at_) 1=61) (n62:¬lx.nb (rest s x.at_) 1=62) :
  Calls Tryz.prog 57 #[.pointer (some ⟨b,0,none⟩),.bool np] w (TokPost B b f s x (lx.token np last (rest s x.at_)) w):=by
 have HL:=Lib.hid h
 have SZ:=h.sz
 have hle:=h.le
 have hI:(!(inB s x.at_))=false:=by simp [inB,hin]
 have J1:Hid (bt s (x.at_+(0:Int).toNat)=45):=by show bt s (x.at_+0)=_;rw [Nat.add_zero,bt_in hin,hc];rfl
 have J9:Hid (bt s x.at_=45):=by show _=_;rw [bt_in hin,hc];rfl
 have pin0:x.at_+(0:Int).toNat<s.size:=by simpa using hin
 have S61:Hid (isB s (x.at_+(1:Int).toNat) 61=false):=by
  show _=_
  rw [show x.at_+(1:Int).toNat=x.at_+1 from rfl,isB_nb s x.at_ 1 61 (by omega)]
  simp
  omega
 have S62:Hid (isB s (x.at_+(1:Int).toNat) 62=false):=by
  show _=_
  rw [show x.at_+(1:Int).toNat=x.at_+1 from rfl,isB_nb s x.at_ 1 62 (by omega)]
  simp
  omega
 have HO:Hid (lx.token np last (rest s x.at_)=.tok [45] 1 [] 0 none):=by
  have e:lx.token np last (rest s x.at_)=lx.sign2 (rest s x.at_) 45 [61,62]:=by
   rw [rest_cons s _ hin,hc]
   rfl
  show _=_
  rw [e]
  rw [show lx.sign2 (rest s x.at_) 45 [61,62]=_ from if_neg n61]
  rw [show lx.sign2 (rest s x.at_) 45 [62]=_ from if_neg n62]
  rfl
 clear h
 go_enter Tryz.func57,Tryz.ntmps57
 go_wp2_with (first
  | (go_at_call 72;refine (eof_any HL.out.at (by omega) (by omega)).mono ?_;simp only [hI];rintro e w' ⟨rfl,n,rfl⟩)
  | (go_at_call 80;refine (peek_t _ _ (HL.out.drewN _).at (by omega) pin0 (by omega) J1).mono ?_;rintro e w' ⟨rfl,n,rfl⟩)
  | (go_at_call 81;refine (skip_t _ (HL.out.drewN _) hin J9).mono ?_;rintro e w6 ⟨rfl,hl6,hg6⟩;have HL6:=Lib.hid hl6;have HG6:=Lib.hid (grown_trans (grown_drewN (grown_refl w (some b)) _) hg6);have c1:w6.cell? ⟨b,1,none⟩=some (.string x.kind):=hl6.cell 1;have f1:w6.frozen? ⟨b,1,none⟩=false:=hl6.free 1;have d1:∀o,(w6.alloc o).cell? ⟨b,1,none⟩=some (.string x.kind):=fun o=>(hl6.below (below_alloc w6 o)).cell 1;have g1:∀o,(w6.alloc o).frozen? ⟨b,1,none⟩=false:=fun o=>(hl6.below (below_alloc w6 o)).free 1;clear hl6 hg6)
  | (go_at_call 76;refine (peekIs_t _ _ _ (HL.out.drewN _).at (by omega) (by omega) (by omega) (by omega) (by first|exact S61| exact S62)).mono ?_;rintro e w' ⟨rfl,n,rfl⟩)
  | (go_at_call 75;refine (skipN_t 2 _ (HL.out.drewN _) hin2 (by rfl)).mono ?_;rintro e w6 ⟨rfl,hl6,hg6⟩;have HL6:=Lib.hid hl6;have HG6:=Lib.hid (grown_trans (grown_drewN (grown_refl w (some b)) _) hg6);have c1:w6.cell? ⟨b,1,none⟩=some (.string x.kind):=hl6.cell 1;have f1:w6.frozen? ⟨b,1,none⟩=false:=hl6.free 1;clear hl6 hg6))
 (first|go_end0|go_ret)
 rw [HO.out]
 have hL:=HL6.out
 rw [St.own hx hb] at hL
 refine ⟨rfl, ?_,grown_set HG6.out 1 _⟩
 exact hL.set 1 (.string ⟨([45]:List UInt8).toArray⟩) _ rfl (by show x.at_+1≤s.size;omega)
theorem tok_45 {w:World} {B b f:Nat} {s:ByteArray} {x:St} (np:Bool) (last:lx.Bs) (h:LexS w B b f s x) (hx:x.str=⟨#[]⟩) (hb:x.base=0) (hin:x.at_<s.size) (hc:s[x.at_]=45) :
  Calls Tryz.prog 57 #[.pointer (some ⟨b,0,none⟩),.bool np] w (TokPost B b f s x (lx.token np last (rest s x.at_)) w):=by
 by_cases h61:lx.nb (rest s x.at_) 1=61
 ·exact tok_45_61 np last h hx hb hin hc h61
 by_cases h62:lx.nb (rest s x.at_) 1=62
 ·exact tok_45_62 np last h hx hb hin hc h61 h62
 exact tok_45_no np last h hx hb hin hc h61 h62
set_option maxHeartbeats 1000000 in
set_option maxRecDepth 100000 in
theorem tok_61_62 {w:World} {B b f:Nat} {s:ByteArray} {x:St} (np:Bool) (last:lx.Bs) (h:LexS w B b f s x) (hx:x.str=⟨#[]⟩) (hb:x.base=0) (hin:x.at_<s.size) (hc:s[x.at_]=61)  (h2:lx.nb (rest s x.at_) 1=62) :
  Calls Tryz.prog 57 #[.pointer (some ⟨b,0,none⟩),.bool np] w (TokPost B b f s x (lx.token np last (rest s x.at_)) w):=by
 have HL:=Lib.hid h
 have SZ:=h.sz
 have hle:=h.le
 have hI:(!(inB s x.at_))=false:=by simp [inB,hin]
 have J1:Hid (bt s (x.at_+(0:Int).toNat)=61):=by show bt s (x.at_+0)=_;rw [Nat.add_zero,bt_in hin,hc];rfl
 have J9:Hid (bt s x.at_=61):=by show _=_;rw [bt_in hin,hc];rfl
 have pin0:x.at_+(0:Int).toNat<s.size:=by simpa using hin
 have S62:Hid (isB s (x.at_+(1:Int).toNat) 62=true):=by
  show _=_
  rw [show x.at_+(1:Int).toNat=x.at_+1 from rfl,isB_nb s x.at_ 1 62 (by omega),h2]
  rfl
 have hin2:x.at_+2≤s.size:=by
  rcases Nat.lt_or_ge (x.at_+1) s.size with k|k
  ·omega
  ·have e:=nb_out s x.at_ 1 (by omega)
   omega
 have HO:Hid (lx.token np last (rest s x.at_)=.tok [61,62] 2 [] 0 none):=by
  have e:lx.token np last (rest s x.at_)=lx.sign2 (rest s x.at_) 61 [62]:=by
   rw [rest_cons s _ hin,hc]
   rfl
  show _=_
  rw [e]
  rw [show lx.sign2 (rest s x.at_) 61 [62]=_ from if_pos h2]
 clear h
 go_enter Tryz.func57,Tryz.ntmps57
 go_wp2_with (first
  | (go_at_call 72;refine (eof_any HL.out.at (by omega) (by omega)).mono ?_;simp only [hI];rintro e w' ⟨rfl,n,rfl⟩)
  | (go_at_call 80;refine (peek_t _ _ (HL.out.drewN _).at (by omega) pin0 (by omega) J1).mono ?_;rintro e w' ⟨rfl,n,rfl⟩)
  | (go_at_call 81;refine (skip_t _ (HL.out.drewN _) hin J9).mono ?_;rintro e w6 ⟨rfl,hl6,hg6⟩;have HL6:=Lib.hid hl6;have HG6:=Lib.hid (grown_trans (grown_drewN (grown_refl w (some b)) _) hg6);have c1:w6.cell? ⟨b,1,none⟩=some (.string x.kind):=hl6.cell 1;have f1:w6.frozen? ⟨b,1,none⟩=false:=hl6.free 1;have d1:∀o,(w6.alloc o).cell? ⟨b,1,none⟩=some (.string x.kind):=fun o=>(hl6.below (below_alloc w6 o)).cell 1;have g1:∀o,(w6.alloc o).frozen? ⟨b,1,none⟩=false:=fun o=>(hl6.below (below_alloc w6 o)).free 1;clear hl6 hg6)
  | (go_at_call 76;refine (peekIs_t _ _ _ (HL.out.drewN _).at (by omega) (by omega) (by omega) (by omega) (by first|exact S62)).mono ?_;rintro e w' ⟨rfl,n,rfl⟩)
  | (go_at_call 75;refine (skipN_t 2 _ (HL.out.drewN _) hin2 (by rfl)).mono ?_;rintro e w6 ⟨rfl,hl6,hg6⟩;have HL6:=Lib.hid hl6;have HG6:=Lib.hid (grown_trans (grown_drewN (grown_refl w (some b)) _) hg6);have c1:w6.cell? ⟨b,1,none⟩=some (.string x.kind):=hl6.cell 1;have f1:w6.frozen? ⟨b,1,none⟩=false:=hl6.free 1;clear hl6 hg6))
 (first|go_end0|go_ret)
 rw [HO.out]
 have hL:=HL6.out
 rw [St.own hx hb] at hL
 refine ⟨rfl, ?_,grown_set HG6.out 1 _⟩
 exact hL.set 1 (.string ⟨([61,62]:List UInt8).toArray⟩) _ rfl (by show x.at_+2≤s.size;omega)
set_option maxHeartbeats 1000000 in
set_option maxRecDepth 100000 in
theorem tok_61_no {w:World} {B b f:Nat} {s:ByteArray} {x:St} (np:Bool) (last:lx.Bs) (h:LexS w B b f s x) (hx:x.str=⟨#[]⟩) (hb:x.base=0) (hin:x.at_<s.size) (hc:s[x.at_]=61) (n62:¬lx.nb (rest s x.at_) 1=62) :
  Calls Tryz.prog 57 #[.pointer (some ⟨b,0,none⟩),.bool np] w (TokPost B b f s x (lx.token np last (rest s x.at_)) w):=by
 have HL:=Lib.hid h
 have SZ:=h.sz
 have hle:=h.le
 have hI:(!(inB s x.at_))=false:=by simp [inB,hin]
 have J1:Hid (bt s (x.at_+(0:Int).toNat)=61):=by show bt s (x.at_+0)=_;rw [Nat.add_zero,bt_in hin,hc];rfl
 have J9:Hid (bt s x.at_=61):=by show _=_;rw [bt_in hin,hc];rfl
 have pin0:x.at_+(0:Int).toNat<s.size:=by simpa using hin
 have S62:Hid (isB s (x.at_+(1:Int).toNat) 62=false):=by
  show _=_
  rw [show x.at_+(1:Int).toNat=x.at_+1 from rfl,isB_nb s x.at_ 1 62 (by omega)]
  simp
  omega
 have HO:Hid (lx.token np last (rest s x.at_)=.tok [61] 1 [] 0 none):=by
  have e:lx.token np last (rest s x.at_)=lx.sign2 (rest s x.at_) 61 [62]:=by
   rw [rest_cons s _ hin,hc]
   rfl
  show _=_
  rw [e]
  rw [show lx.sign2 (rest s x.at_) 61 [62]=_ from if_neg n62]
  rfl
 clear h
 go_enter Tryz.func57,Tryz.ntmps57
 go_wp2_with (first
  | (go_at_call 72;refine (eof_any HL.out.at (by omega) (by omega)).mono ?_;simp only [hI];rintro e w' ⟨rfl,n,rfl⟩)
  | (go_at_call 80;refine (peek_t _ _ (HL.out.drewN _).at (by omega) pin0 (by omega) J1).mono ?_;rintro e w' ⟨rfl,n,rfl⟩)
  | (go_at_call 81;refine (skip_t _ (HL.out.drewN _) hin J9).mono ?_;rintro e w6 ⟨rfl,hl6,hg6⟩;have HL6:=Lib.hid hl6;have HG6:=Lib.hid (grown_trans (grown_drewN (grown_refl w (some b)) _) hg6);have c1:w6.cell? ⟨b,1,none⟩=some (.string x.kind):=hl6.cell 1;have f1:w6.frozen? ⟨b,1,none⟩=false:=hl6.free 1;have d1:∀o,(w6.alloc o).cell? ⟨b,1,none⟩=some (.string x.kind):=fun o=>(hl6.below (below_alloc w6 o)).cell 1;have g1:∀o,(w6.alloc o).frozen? ⟨b,1,none⟩=false:=fun o=>(hl6.below (below_alloc w6 o)).free 1;clear hl6 hg6)
  | (go_at_call 76;refine (peekIs_t _ _ _ (HL.out.drewN _).at (by omega) (by omega) (by omega) (by omega) (by first|exact S62)).mono ?_;rintro e w' ⟨rfl,n,rfl⟩)
  | (go_at_call 75;refine (skipN_t 2 _ (HL.out.drewN _) hin2 (by rfl)).mono ?_;rintro e w6 ⟨rfl,hl6,hg6⟩;have HL6:=Lib.hid hl6;have HG6:=Lib.hid (grown_trans (grown_drewN (grown_refl w (some b)) _) hg6);have c1:w6.cell? ⟨b,1,none⟩=some (.string x.kind):=hl6.cell 1;have f1:w6.frozen? ⟨b,1,none⟩=false:=hl6.free 1;clear hl6 hg6))
 (first|go_end0|go_ret)
 rw [HO.out]
 have hL:=HL6.out
 rw [St.own hx hb] at hL
 refine ⟨rfl, ?_,grown_set HG6.out 1 _⟩
 exact hL.set 1 (.string ⟨([61]:List UInt8).toArray⟩) _ rfl (by show x.at_+1≤s.size;omega)
theorem tok_61 {w:World} {B b f:Nat} {s:ByteArray} {x:St} (np:Bool) (last:lx.Bs) (h:LexS w B b f s x) (hx:x.str=⟨#[]⟩) (hb:x.base=0) (hin:x.at_<s.size) (hc:s[x.at_]=61) :
  Calls Tryz.prog 57 #[.pointer (some ⟨b,0,none⟩),.bool np] w (TokPost B b f s x (lx.token np last (rest s x.at_)) w):=by
 by_cases h62:lx.nb (rest s x.at_) 1=62
 ·exact tok_61_62 np last h hx hb hin hc h62
 exact tok_61_no np last h hx hb hin hc h62
set_option maxHeartbeats 1000000 in
set_option maxRecDepth 100000 in
theorem tok_124_62 {w:World} {B b f:Nat} {s:ByteArray} {x:St} (np:Bool) (last:lx.Bs) (h:LexS w B b f s x) (hx:x.str=⟨#[]⟩) (hb:x.base=0) (hin:x.at_<s.size) (hc:s[x.at_]=124)  (h2:lx.nb (rest s x.at_) 1=62) :
  Calls Tryz.prog 57 #[.pointer (some ⟨b,0,none⟩),.bool np] w (TokPost B b f s x (lx.token np last (rest s x.at_)) w):=by
 have HL:=Lib.hid h
 have SZ:=h.sz
 have hle:=h.le
 have hI:(!(inB s x.at_))=false:=by simp [inB,hin]
 have J1:Hid (bt s (x.at_+(0:Int).toNat)=124):=by show bt s (x.at_+0)=_;rw [Nat.add_zero,bt_in hin,hc];rfl
 have J9:Hid (bt s x.at_=124):=by show _=_;rw [bt_in hin,hc];rfl
 have pin0:x.at_+(0:Int).toNat<s.size:=by simpa using hin
 have S62:Hid (isB s (x.at_+(1:Int).toNat) 62=true):=by
  show _=_
  rw [show x.at_+(1:Int).toNat=x.at_+1 from rfl,isB_nb s x.at_ 1 62 (by omega),h2]
  rfl
 have hin2:x.at_+2≤s.size:=by
  rcases Nat.lt_or_ge (x.at_+1) s.size with k|k
  ·omega
  ·have e:=nb_out s x.at_ 1 (by omega)
   omega
 have HO:Hid (lx.token np last (rest s x.at_)=.tok [124,62] 2 [] 0 none):=by
  have e:lx.token np last (rest s x.at_)=lx.sign2 (rest s x.at_) 124 [62,124]:=by
   rw [rest_cons s _ hin,hc]
   rfl
  show _=_
  rw [e]
  rw [show lx.sign2 (rest s x.at_) 124 [62,124]=_ from if_pos h2]
 clear h
 go_enter Tryz.func57,Tryz.ntmps57
 go_wp2_with (first
  | (go_at_call 72;refine (eof_any HL.out.at (by omega) (by omega)).mono ?_;simp only [hI];rintro e w' ⟨rfl,n,rfl⟩)
  | (go_at_call 80;refine (peek_t _ _ (HL.out.drewN _).at (by omega) pin0 (by omega) J1).mono ?_;rintro e w' ⟨rfl,n,rfl⟩)
  | (go_at_call 81;refine (skip_t _ (HL.out.drewN _) hin J9).mono ?_;rintro e w6 ⟨rfl,hl6,hg6⟩;have HL6:=Lib.hid hl6;have HG6:=Lib.hid (grown_trans (grown_drewN (grown_refl w (some b)) _) hg6);have c1:w6.cell? ⟨b,1,none⟩=some (.string x.kind):=hl6.cell 1;have f1:w6.frozen? ⟨b,1,none⟩=false:=hl6.free 1;have d1:∀o,(w6.alloc o).cell? ⟨b,1,none⟩=some (.string x.kind):=fun o=>(hl6.below (below_alloc w6 o)).cell 1;have g1:∀o,(w6.alloc o).frozen? ⟨b,1,none⟩=false:=fun o=>(hl6.below (below_alloc w6 o)).free 1;clear hl6 hg6)
  | (go_at_call 76;refine (peekIs_t _ _ _ (HL.out.drewN _).at (by omega) (by omega) (by omega) (by omega) (by first|exact S62)).mono ?_;rintro e w' ⟨rfl,n,rfl⟩)
  | (go_at_call 75;refine (skipN_t 2 _ (HL.out.drewN _) hin2 (by rfl)).mono ?_;rintro e w6 ⟨rfl,hl6,hg6⟩;have HL6:=Lib.hid hl6;have HG6:=Lib.hid (grown_trans (grown_drewN (grown_refl w (some b)) _) hg6);have c1:w6.cell? ⟨b,1,none⟩=some (.string x.kind):=hl6.cell 1;have f1:w6.frozen? ⟨b,1,none⟩=false:=hl6.free 1;clear hl6 hg6))
 (first|go_end0|go_ret)
 rw [HO.out]
 have hL:=HL6.out
 rw [St.own hx hb] at hL
 refine ⟨rfl, ?_,grown_set HG6.out 1 _⟩
 exact hL.set 1 (.string ⟨([124,62]:List UInt8).toArray⟩) _ rfl (by show x.at_+2≤s.size;omega)
set_option maxHeartbeats 1000000 in
set_option maxRecDepth 100000 in
theorem tok_124_124 {w:World} {B b f:Nat} {s:ByteArray} {x:St} (np:Bool) (last:lx.Bs) (h:LexS w B b f s x) (hx:x.str=⟨#[]⟩) (hb:x.base=0) (hin:x.at_<s.size) (hc:s[x.at_]=124) (n62:¬lx.nb (rest s x.at_) 1=62) (h2:lx.nb (rest s x.at_) 1=124) :
  Calls Tryz.prog 57 #[.pointer (some ⟨b,0,none⟩),.bool np] w (TokPost B b f s x (lx.token np last (rest s x.at_)) w):=by
 have HL:=Lib.hid h
 have SZ:=h.sz
 have hle:=h.le
 have hI:(!(inB s x.at_))=false:=by simp [inB,hin]
 have J1:Hid (bt s (x.at_+(0:Int).toNat)=124):=by show bt s (x.at_+0)=_;rw [Nat.add_zero,bt_in hin,hc];rfl
 have J9:Hid (bt s x.at_=124):=by show _=_;rw [bt_in hin,hc];rfl
 have pin0:x.at_+(0:Int).toNat<s.size:=by simpa using hin
 have S62:Hid (isB s (x.at_+(1:Int).toNat) 62=false):=by
  show _=_
  rw [show x.at_+(1:Int).toNat=x.at_+1 from rfl,isB_nb s x.at_ 1 62 (by omega)]
  simp
  omega
 have S124:Hid (isB s (x.at_+(1:Int).toNat) 124=true):=by
  show _=_
  rw [show x.at_+(1:Int).toNat=x.at_+1 from rfl,isB_nb s x.at_ 1 124 (by omega),h2]
  rfl
 have hin2:x.at_+2≤s.size:=by
  rcases Nat.lt_or_ge (x.at_+1) s.size with k|k
  ·omega
  ·have e:=nb_out s x.at_ 1 (by omega)
   omega
 have HO:Hid (lx.token np last (rest s x.at_)=.tok [124,124] 2 [] 0 none):=by
  have e:lx.token np last (rest s x.at_)=lx.sign2 (rest s x.at_) 124 [62,124]:=by
   rw [rest_cons s _ hin,hc]
   rfl
  show _=_
  rw [e]
  rw [show lx.sign2 (rest s x.at_) 124 [62,124]=_ from if_neg n62]
  rw [show lx.sign2 (rest s x.at_) 124 [124]=_ from if_pos h2]
 clear h
 go_enter Tryz.func57,Tryz.ntmps57
 go_wp2_with (first
  | (go_at_call 72;refine (eof_any HL.out.at (by omega) (by omega)).mono ?_;simp only [hI];rintro e w' ⟨rfl,n,rfl⟩)
  | (go_at_call 80;refine (peek_t _ _ (HL.out.drewN _).at (by omega) pin0 (by omega) J1).mono ?_;rintro e w' ⟨rfl,n,rfl⟩)
  | (go_at_call 81;refine (skip_t _ (HL.out.drewN _) hin J9).mono ?_;rintro e w6 ⟨rfl,hl6,hg6⟩;have HL6:=Lib.hid hl6;have HG6:=Lib.hid (grown_trans (grown_drewN (grown_refl w (some b)) _) hg6);have c1:w6.cell? ⟨b,1,none⟩=some (.string x.kind):=hl6.cell 1;have f1:w6.frozen? ⟨b,1,none⟩=false:=hl6.free 1;have d1:∀o,(w6.alloc o).cell? ⟨b,1,none⟩=some (.string x.kind):=fun o=>(hl6.below (below_alloc w6 o)).cell 1;have g1:∀o,(w6.alloc o).frozen? ⟨b,1,none⟩=false:=fun o=>(hl6.below (below_alloc w6 o)).free 1;clear hl6 hg6)
  | (go_at_call 76;refine (peekIs_t _ _ _ (HL.out.drewN _).at (by omega) (by omega) (by omega) (by omega) (by first|exact S62| exact S124)).mono ?_;rintro e w' ⟨rfl,n,rfl⟩)
  | (go_at_call 75;refine (skipN_t 2 _ (HL.out.drewN _) hin2 (by rfl)).mono ?_;rintro e w6 ⟨rfl,hl6,hg6⟩;have HL6:=Lib.hid hl6;have HG6:=Lib.hid (grown_trans (grown_drewN (grown_refl w (some b)) _) hg6);have c1:w6.cell? ⟨b,1,none⟩=some (.string x.kind):=hl6.cell 1;have f1:w6.frozen? ⟨b,1,none⟩=false:=hl6.free 1;clear hl6 hg6))
 (first|go_end0|go_ret)
 rw [HO.out]
 have hL:=HL6.out
 rw [St.own hx hb] at hL
 refine ⟨rfl, ?_,grown_set HG6.out 1 _⟩
 exact hL.set 1 (.string ⟨([124,124]:List UInt8).toArray⟩) _ rfl (by show x.at_+2≤s.size;omega)
set_option maxHeartbeats 1000000 in
set_option maxRecDepth 100000 in
theorem tok_124_no {w:World} {B b f:Nat} {s:ByteArray} {x:St} (np:Bool) (last:lx.Bs) (h:LexS w B b f s x) (hx:x.str=⟨#[]⟩) (hb:x.base=0) (hin:x.at_<s.size) (hc:s[x.at_]=124) (n62:¬lx.nb (rest s x.at_) 1=62) (n124:¬lx.nb (rest s x.at_) 1=124) :
  Calls Tryz.prog 57 #[.pointer (some ⟨b,0,none⟩),.bool np] w (TokPost B b f s x (lx.token np last (rest s x.at_)) w):=by
 have HL:=Lib.hid h
 have SZ:=h.sz
 have hle:=h.le
 have hI:(!(inB s x.at_))=false:=by simp [inB,hin]
 have J1:Hid (bt s (x.at_+(0:Int).toNat)=124):=by show bt s (x.at_+0)=_;rw [Nat.add_zero,bt_in hin,hc];rfl
 have J9:Hid (bt s x.at_=124):=by show _=_;rw [bt_in hin,hc];rfl
 have pin0:x.at_+(0:Int).toNat<s.size:=by simpa using hin
 have S62:Hid (isB s (x.at_+(1:Int).toNat) 62=false):=by
  show _=_
  rw [show x.at_+(1:Int).toNat=x.at_+1 from rfl,isB_nb s x.at_ 1 62 (by omega)]
  simp
  omega
 have S124:Hid (isB s (x.at_+(1:Int).toNat) 124=false):=by
  show _=_
  rw [show x.at_+(1:Int).toNat=x.at_+1 from rfl,isB_nb s x.at_ 1 124 (by omega)]
  simp
  omega
 have HO:Hid (lx.token np last (rest s x.at_)=.tok [124] 1 [] 0 none):=by
  have e:lx.token np last (rest s x.at_)=lx.sign2 (rest s x.at_) 124 [62,124]:=by
   rw [rest_cons s _ hin,hc]
   rfl
  show _=_
  rw [e]
  rw [show lx.sign2 (rest s x.at_) 124 [62,124]=_ from if_neg n62]
  rw [show lx.sign2 (rest s x.at_) 124 [124]=_ from if_neg n124]
  rfl
 clear h
 go_enter Tryz.func57,Tryz.ntmps57
 go_wp2_with (first
  | (go_at_call 72;refine (eof_any HL.out.at (by omega) (by omega)).mono ?_;simp only [hI];rintro e w' ⟨rfl,n,rfl⟩)
  | (go_at_call 80;refine (peek_t _ _ (HL.out.drewN _).at (by omega) pin0 (by omega) J1).mono ?_;rintro e w' ⟨rfl,n,rfl⟩)
  | (go_at_call 81;refine (skip_t _ (HL.out.drewN _) hin J9).mono ?_;rintro e w6 ⟨rfl,hl6,hg6⟩;have HL6:=Lib.hid hl6;have HG6:=Lib.hid (grown_trans (grown_drewN (grown_refl w (some b)) _) hg6);have c1:w6.cell? ⟨b,1,none⟩=some (.string x.kind):=hl6.cell 1;have f1:w6.frozen? ⟨b,1,none⟩=false:=hl6.free 1;have d1:∀o,(w6.alloc o).cell? ⟨b,1,none⟩=some (.string x.kind):=fun o=>(hl6.below (below_alloc w6 o)).cell 1;have g1:∀o,(w6.alloc o).frozen? ⟨b,1,none⟩=false:=fun o=>(hl6.below (below_alloc w6 o)).free 1;clear hl6 hg6)
  | (go_at_call 76;refine (peekIs_t _ _ _ (HL.out.drewN _).at (by omega) (by omega) (by omega) (by omega) (by first|exact S62| exact S124)).mono ?_;rintro e w' ⟨rfl,n,rfl⟩)
  | (go_at_call 75;refine (skipN_t 2 _ (HL.out.drewN _) hin2 (by rfl)).mono ?_;rintro e w6 ⟨rfl,hl6,hg6⟩;have HL6:=Lib.hid hl6;have HG6:=Lib.hid (grown_trans (grown_drewN (grown_refl w (some b)) _) hg6);have c1:w6.cell? ⟨b,1,none⟩=some (.string x.kind):=hl6.cell 1;have f1:w6.frozen? ⟨b,1,none⟩=false:=hl6.free 1;clear hl6 hg6))
 (first|go_end0|go_ret)
 rw [HO.out]
 have hL:=HL6.out
 rw [St.own hx hb] at hL
 refine ⟨rfl, ?_,grown_set HG6.out 1 _⟩
 exact hL.set 1 (.string ⟨([124]:List UInt8).toArray⟩) _ rfl (by show x.at_+1≤s.size;omega)
theorem tok_124 {w:World} {B b f:Nat} {s:ByteArray} {x:St} (np:Bool) (last:lx.Bs) (h:LexS w B b f s x) (hx:x.str=⟨#[]⟩) (hb:x.base=0) (hin:x.at_<s.size) (hc:s[x.at_]=124) :
  Calls Tryz.prog 57 #[.pointer (some ⟨b,0,none⟩),.bool np] w (TokPost B b f s x (lx.token np last (rest s x.at_)) w):=by
 by_cases h62:lx.nb (rest s x.at_) 1=62
 ·exact tok_124_62 np last h hx hb hin hc h62
 by_cases h124:lx.nb (rest s x.at_) 1=124
 ·exact tok_124_124 np last h hx hb hin hc h62 h124
 exact tok_124_no np last h hx hb hin hc h62 h124
set_option maxHeartbeats 1000000 in
set_option maxRecDepth 100000 in
theorem tok_33_61 {w:World} {B b f:Nat} {s:ByteArray} {x:St} (np:Bool) (last:lx.Bs) (h:LexS w B b f s x) (hx:x.str=⟨#[]⟩) (hb:x.base=0) (hin:x.at_<s.size) (hc:s[x.at_]=33)  (h2:lx.nb (rest s x.at_) 1=61) :
  Calls Tryz.prog 57 #[.pointer (some ⟨b,0,none⟩),.bool np] w (TokPost B b f s x (lx.token np last (rest s x.at_)) w):=by
 have HL:=Lib.hid h
 have SZ:=h.sz
 have hle:=h.le
 have hI:(!(inB s x.at_))=false:=by simp [inB,hin]
 have J1:Hid (bt s (x.at_+(0:Int).toNat)=33):=by show bt s (x.at_+0)=_;rw [Nat.add_zero,bt_in hin,hc];rfl
 have J9:Hid (bt s x.at_=33):=by show _=_;rw [bt_in hin,hc];rfl
 have pin0:x.at_+(0:Int).toNat<s.size:=by simpa using hin
 have S61:Hid (isB s (x.at_+(1:Int).toNat) 61=true):=by
  show _=_
  rw [show x.at_+(1:Int).toNat=x.at_+1 from rfl,isB_nb s x.at_ 1 61 (by omega),h2]
  rfl
 have hin2:x.at_+2≤s.size:=by
  rcases Nat.lt_or_ge (x.at_+1) s.size with k|k
  ·omega
  ·have e:=nb_out s x.at_ 1 (by omega)
   omega
 have HO:Hid (lx.token np last (rest s x.at_)=.tok [33,61] 2 [] 0 none):=by
  have e:lx.token np last (rest s x.at_)=lx.sign2 (rest s x.at_) 33 [61]:=by
   rw [rest_cons s _ hin,hc]
   rfl
  show _=_
  rw [e]
  rw [show lx.sign2 (rest s x.at_) 33 [61]=_ from if_pos h2]
 clear h
 go_enter Tryz.func57,Tryz.ntmps57
 go_wp2_with (first
  | (go_at_call 72;refine (eof_any HL.out.at (by omega) (by omega)).mono ?_;simp only [hI];rintro e w' ⟨rfl,n,rfl⟩)
  | (go_at_call 80;refine (peek_t _ _ (HL.out.drewN _).at (by omega) pin0 (by omega) J1).mono ?_;rintro e w' ⟨rfl,n,rfl⟩)
  | (go_at_call 81;refine (skip_t _ (HL.out.drewN _) hin J9).mono ?_;rintro e w6 ⟨rfl,hl6,hg6⟩;have HL6:=Lib.hid hl6;have HG6:=Lib.hid (grown_trans (grown_drewN (grown_refl w (some b)) _) hg6);have c1:w6.cell? ⟨b,1,none⟩=some (.string x.kind):=hl6.cell 1;have f1:w6.frozen? ⟨b,1,none⟩=false:=hl6.free 1;have d1:∀o,(w6.alloc o).cell? ⟨b,1,none⟩=some (.string x.kind):=fun o=>(hl6.below (below_alloc w6 o)).cell 1;have g1:∀o,(w6.alloc o).frozen? ⟨b,1,none⟩=false:=fun o=>(hl6.below (below_alloc w6 o)).free 1;clear hl6 hg6)
  | (go_at_call 76;refine (peekIs_t _ _ _ (HL.out.drewN _).at (by omega) (by omega) (by omega) (by omega) (by first|exact S61)).mono ?_;rintro e w' ⟨rfl,n,rfl⟩)
  | (go_at_call 75;refine (skipN_t 2 _ (HL.out.drewN _) hin2 (by rfl)).mono ?_;rintro e w6 ⟨rfl,hl6,hg6⟩;have HL6:=Lib.hid hl6;have HG6:=Lib.hid (grown_trans (grown_drewN (grown_refl w (some b)) _) hg6);have c1:w6.cell? ⟨b,1,none⟩=some (.string x.kind):=hl6.cell 1;have f1:w6.frozen? ⟨b,1,none⟩=false:=hl6.free 1;clear hl6 hg6))
 (first|go_end0|go_ret)
 rw [HO.out]
 have hL:=HL6.out
 rw [St.own hx hb] at hL
 refine ⟨rfl, ?_,grown_set HG6.out 1 _⟩
 exact hL.set 1 (.string ⟨([33,61]:List UInt8).toArray⟩) _ rfl (by show x.at_+2≤s.size;omega)
set_option maxHeartbeats 1000000 in
set_option maxRecDepth 100000 in
theorem tok_33_no {w:World} {B b f:Nat} {s:ByteArray} {x:St} (np:Bool) (last:lx.Bs) (h:LexS w B b f s x) (hx:x.str=⟨#[]⟩) (hb:x.base=0) (hin:x.at_<s.size) (hc:s[x.at_]=33) (n61:¬lx.nb (rest s x.at_) 1=61) :
  Calls Tryz.prog 57 #[.pointer (some ⟨b,0,none⟩),.bool np] w (TokPost B b f s x (lx.token np last (rest s x.at_)) w):=by
 have HL:=Lib.hid h
 have SZ:=h.sz
 have hle:=h.le
 have hI:(!(inB s x.at_))=false:=by simp [inB,hin]
 have J1:Hid (bt s (x.at_+(0:Int).toNat)=33):=by show bt s (x.at_+0)=_;rw [Nat.add_zero,bt_in hin,hc];rfl
 have J9:Hid (bt s x.at_=33):=by show _=_;rw [bt_in hin,hc];rfl
 have pin0:x.at_+(0:Int).toNat<s.size:=by simpa using hin
 have S61:Hid (isB s (x.at_+(1:Int).toNat) 61=false):=by
  show _=_
  rw [show x.at_+(1:Int).toNat=x.at_+1 from rfl,isB_nb s x.at_ 1 61 (by omega)]
  simp
  omega
 have HO:Hid (lx.token np last (rest s x.at_)=.tok [33] 1 [] 0 none):=by
  have e:lx.token np last (rest s x.at_)=lx.sign2 (rest s x.at_) 33 [61]:=by
   rw [rest_cons s _ hin,hc]
   rfl
  show _=_
  rw [e]
  rw [show lx.sign2 (rest s x.at_) 33 [61]=_ from if_neg n61]
  rfl
 clear h
 go_enter Tryz.func57,Tryz.ntmps57
 go_wp2_with (first
  | (go_at_call 72;refine (eof_any HL.out.at (by omega) (by omega)).mono ?_;simp only [hI];rintro e w' ⟨rfl,n,rfl⟩)
  | (go_at_call 80;refine (peek_t _ _ (HL.out.drewN _).at (by omega) pin0 (by omega) J1).mono ?_;rintro e w' ⟨rfl,n,rfl⟩)
  | (go_at_call 81;refine (skip_t _ (HL.out.drewN _) hin J9).mono ?_;rintro e w6 ⟨rfl,hl6,hg6⟩;have HL6:=Lib.hid hl6;have HG6:=Lib.hid (grown_trans (grown_drewN (grown_refl w (some b)) _) hg6);have c1:w6.cell? ⟨b,1,none⟩=some (.string x.kind):=hl6.cell 1;have f1:w6.frozen? ⟨b,1,none⟩=false:=hl6.free 1;have d1:∀o,(w6.alloc o).cell? ⟨b,1,none⟩=some (.string x.kind):=fun o=>(hl6.below (below_alloc w6 o)).cell 1;have g1:∀o,(w6.alloc o).frozen? ⟨b,1,none⟩=false:=fun o=>(hl6.below (below_alloc w6 o)).free 1;clear hl6 hg6)
  | (go_at_call 76;refine (peekIs_t _ _ _ (HL.out.drewN _).at (by omega) (by omega) (by omega) (by omega) (by first|exact S61)).mono ?_;rintro e w' ⟨rfl,n,rfl⟩)
  | (go_at_call 75;refine (skipN_t 2 _ (HL.out.drewN _) hin2 (by rfl)).mono ?_;rintro e w6 ⟨rfl,hl6,hg6⟩;have HL6:=Lib.hid hl6;have HG6:=Lib.hid (grown_trans (grown_drewN (grown_refl w (some b)) _) hg6);have c1:w6.cell? ⟨b,1,none⟩=some (.string x.kind):=hl6.cell 1;have f1:w6.frozen? ⟨b,1,none⟩=false:=hl6.free 1;clear hl6 hg6))
 (first|go_end0|go_ret)
 rw [HO.out]
 have hL:=HL6.out
 rw [St.own hx hb] at hL
 refine ⟨rfl, ?_,grown_set HG6.out 1 _⟩
 exact hL.set 1 (.string ⟨([33]:List UInt8).toArray⟩) _ rfl (by show x.at_+1≤s.size;omega)
theorem tok_33 {w:World} {B b f:Nat} {s:ByteArray} {x:St} (np:Bool) (last:lx.Bs) (h:LexS w B b f s x) (hx:x.str=⟨#[]⟩) (hb:x.base=0) (hin:x.at_<s.size) (hc:s[x.at_]=33) :
  Calls Tryz.prog 57 #[.pointer (some ⟨b,0,none⟩),.bool np] w (TokPost B b f s x (lx.token np last (rest s x.at_)) w):=by
 by_cases h61:lx.nb (rest s x.at_) 1=61
 ·exact tok_33_61 np last h hx hb hin hc h61
 exact tok_33_no np last h hx hb hin hc h61
end Go.Proofs.YtaamolahbkgofaaGreatDoor.lex
