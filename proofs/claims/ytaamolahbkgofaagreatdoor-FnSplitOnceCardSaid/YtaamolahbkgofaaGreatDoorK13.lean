/-
  The lexer's consumeToken: points and digits. Conditions: in its statements.
-/
import Derived.Test.YtaamolahbkgofaaGreatDoorK10
import Derived.Test.YtaamolahbkgofaaGreatDoorK12
set_option linter.unusedVariables false
namespace Go.Proofs.YtaamolahbkgofaaGreatDoor.lex
open Go.RowKit mem lines
theorem dot_z (k:ByteArray) (v:Bool) (w:World) (h:Hid (lx.dotKind k.data.toList=v)):Calls Tryz.prog 82 #[.string k] w fun e w'=>e=.returned (.bool v)∧w=w':=by
 rw [←h.out]
 exact dot_any k w
theorem TokPost.trans {B b f:Nat} {s:ByteArray} {x:St} {o:lx.Out} {u w w':World} {e:Ending} (h:u.grownBy w (some b)) (k:TokPost B b f s x o w e w'):TokPost B b f s x o u e w':=by
 cases o with
 | tok kk len text base dot=>exact ⟨k.1,k.2.1,grown_trans h k.2.2⟩
 | bad len =>
  obtain ⟨x',hx',k⟩:=k
  exact ⟨x',hx',k.1,k.2.1,grown_trans h k.2.2⟩
 | fault=>exact Faults.trans (Grown2.of h) k
 | crash=>trivial
theorem number_o {w:World} {B b f:Nat} {s:ByteArray} {x:St} (np:Bool) (h:LexS w B b f s x) (hx:x.str=⟨#[]⟩) (hb:x.base=0) (o:lx.Out) (ho:Hid (lx.number np (rest s x.at_)=o)) :
  Calls Tryz.prog 84 #[.pointer (some ⟨b,0,none⟩),.bool np] w (TokPost B b f s x o w):=by
 have e:=ho.out
 subst e
 exact number_any np h hx hb
theorem number_safe (np:Bool) (t:lx.Bs):lx.number np t≠.crash:=by
 unfold lx.number
 simp only
 split
 iterate 2
  ·split
   iterate 2
    ·split <;> simp
set_option maxHeartbeats 1000000 in
set_option maxRecDepth 100000 in
theorem tok_48 {w:World} {B b f:Nat} {s:ByteArray} {x:St} (np:Bool) (last:lx.Bs) (h:LexS w B b f s x) (hx:x.str=⟨#[]⟩) (hb:x.base=0) (hin:x.at_<s.size) (hc:s[x.at_]=48) :
  Calls Tryz.prog 57 #[.pointer (some ⟨b,0,none⟩),.bool np] w (TokPost B b f s x (lx.token np last (rest s x.at_)) w):=by
 have HL:=Lib.hid h
 have SZ:=h.sz
 have hle:=h.le
 have hI:(!(inB s x.at_))=false:=by simp [inB,hin]
 have J1:Hid (bt s (x.at_+(0:Int).toNat)=48):=by show bt s (x.at_+0)=_;rw [Nat.add_zero,bt_in hin,hc];rfl
 have J9:Hid (bt s x.at_=48):=by show _=_;rw [bt_in hin,hc];rfl
 have pin0:x.at_+(0:Int).toNat<s.size:=by simpa using hin
 have HO:lx.token np last (rest s x.at_)=lx.number np (rest s x.at_):=by
  rw [rest_cons s _ hin,hc]
  rfl
 rw [HO]
 obtain ⟨o,HOO⟩:∃o,Hid (lx.number np (rest s x.at_)=o):=⟨_,rfl⟩
 rw [HOO.out]
 clear h HO
 cases o with
 | crash=>exact absurd HOO.out (number_safe np _)
 | fault =>
  go_enter Tryz.func57,Tryz.ntmps57
  go_wp2_with (first
   | (go_at_call 72;refine (eof_any HL.out.at (by omega) (by omega)).mono ?_;simp only [hI];rintro e w' ⟨rfl,n,rfl⟩)
   | (go_at_call 80;refine (peek_t _ _ (HL.out.drewN _).at (by omega) pin0 (by omega) J1).mono ?_;rintro e w' ⟨rfl,n,rfl⟩)
   | (go_at_call 81;refine (skip_t _ (HL.out.drewN _) hin J9).mono ?_;rintro e w6 ⟨rfl,hl6,hg6⟩;have HL6:=Lib.hid hl6;have HG6:=Lib.hid (grown_trans (grown_drewN (grown_refl w (some b)) _) hg6);have c1:w6.cell? ⟨b,1,none⟩=some (.string x.kind):=hl6.cell 1;have f1:w6.frozen? ⟨b,1,none⟩=false:=hl6.free 1;have d1:∀o,(w6.alloc o).cell? ⟨b,1,none⟩=some (.string x.kind):=fun o=>(hl6.below (below_alloc w6 o)).cell 1;have g1:∀o,(w6.alloc o).frozen? ⟨b,1,none⟩=false:=fun o=>(hl6.below (below_alloc w6 o)).free 1;clear hl6 hg6)
   | (go_at_call 84;refine (number_o np (HL.out.drewN _) hx hb _ HOO).mono ?_;rintro e w3 ⟨m,rfl,hm⟩;have HM:=Lib.hid hm;clear hm))
  exact ⟨rfl,Faults.trans (Grown2.of (grown_drewN (grown_refl w (some b)) _)) ⟨m,rfl,HM.out⟩⟩
 | bad len =>
  go_enter Tryz.func57,Tryz.ntmps57
  go_wp2_with (first
   | (go_at_call 72;refine (eof_any HL.out.at (by omega) (by omega)).mono ?_;simp only [hI];rintro e w' ⟨rfl,n,rfl⟩)
   | (go_at_call 80;refine (peek_t _ _ (HL.out.drewN _).at (by omega) pin0 (by omega) J1).mono ?_;rintro e w' ⟨rfl,n,rfl⟩)
   | (go_at_call 81;refine (skip_t _ (HL.out.drewN _) hin J9).mono ?_;rintro e w6 ⟨rfl,hl6,hg6⟩;have HL6:=Lib.hid hl6;have HG6:=Lib.hid (grown_trans (grown_drewN (grown_refl w (some b)) _) hg6);have c1:w6.cell? ⟨b,1,none⟩=some (.string x.kind):=hl6.cell 1;have f1:w6.frozen? ⟨b,1,none⟩=false:=hl6.free 1;have d1:∀o,(w6.alloc o).cell? ⟨b,1,none⟩=some (.string x.kind):=fun o=>(hl6.below (below_alloc w6 o)).cell 1;have g1:∀o,(w6.alloc o).frozen? ⟨b,1,none⟩=false:=fun o=>(hl6.below (below_alloc w6 o)).free 1;clear hl6 hg6)
   | (go_at_call 84;refine (number_o np (HL.out.drewN _) hx hb _ HOO).mono ?_;rintro e w3 ⟨x3,hx3,rfl,hl,hg⟩;have HX3:=Lib.hid hx3;have HL3:=Lib.hid hl;have HG3:=Lib.hid (grown_trans (grown_drewN (grown_refl w (some b)) _) hg);clear hx3 hl hg))
  (first|go_end0|go_ret)
  exact ⟨x3,HX3.out,rfl,HL3.out,HG3.out⟩
 | tok kk len text base dot =>
  go_enter Tryz.func57,Tryz.ntmps57
  go_wp2_with (first
   | (go_at_call 72;refine (eof_any HL.out.at (by omega) (by omega)).mono ?_;simp only [hI];rintro e w' ⟨rfl,n,rfl⟩)
   | (go_at_call 80;refine (peek_t _ _ (HL.out.drewN _).at (by omega) pin0 (by omega) J1).mono ?_;rintro e w' ⟨rfl,n,rfl⟩)
   | (go_at_call 81;refine (skip_t _ (HL.out.drewN _) hin J9).mono ?_;rintro e w6 ⟨rfl,hl6,hg6⟩;have HL6:=Lib.hid hl6;have HG6:=Lib.hid (grown_trans (grown_drewN (grown_refl w (some b)) _) hg6);have c1:w6.cell? ⟨b,1,none⟩=some (.string x.kind):=hl6.cell 1;have f1:w6.frozen? ⟨b,1,none⟩=false:=hl6.free 1;have d1:∀o,(w6.alloc o).cell? ⟨b,1,none⟩=some (.string x.kind):=fun o=>(hl6.below (below_alloc w6 o)).cell 1;have g1:∀o,(w6.alloc o).frozen? ⟨b,1,none⟩=false:=fun o=>(hl6.below (below_alloc w6 o)).free 1;clear hl6 hg6)
   | (go_at_call 84;refine (number_o np (HL.out.drewN _) hx hb _ HOO).mono ?_;rintro e w3 ⟨rfl,hl,hg⟩;have HL3:=Lib.hid hl;have HG3:=Lib.hid (grown_trans (grown_drewN (grown_refl w (some b)) _) hg);clear hl hg))
  (first|go_end0|go_ret)
  exact ⟨rfl,HL3.out,HG3.out⟩
set_option maxHeartbeats 1000000 in
set_option maxRecDepth 100000 in
theorem tok_49 {w:World} {B b f:Nat} {s:ByteArray} {x:St} (np:Bool) (last:lx.Bs) (h:LexS w B b f s x) (hx:x.str=⟨#[]⟩) (hb:x.base=0) (hin:x.at_<s.size) (hc:s[x.at_]=49) :
  Calls Tryz.prog 57 #[.pointer (some ⟨b,0,none⟩),.bool np] w (TokPost B b f s x (lx.token np last (rest s x.at_)) w):=by
 have HL:=Lib.hid h
 have SZ:=h.sz
 have hle:=h.le
 have hI:(!(inB s x.at_))=false:=by simp [inB,hin]
 have J1:Hid (bt s (x.at_+(0:Int).toNat)=49):=by show bt s (x.at_+0)=_;rw [Nat.add_zero,bt_in hin,hc];rfl
 have J9:Hid (bt s x.at_=49):=by show _=_;rw [bt_in hin,hc];rfl
 have pin0:x.at_+(0:Int).toNat<s.size:=by simpa using hin
 have HO:lx.token np last (rest s x.at_)=lx.number np (rest s x.at_):=by
  rw [rest_cons s _ hin,hc]
  rfl
 rw [HO]
 obtain ⟨o,HOO⟩:∃o,Hid (lx.number np (rest s x.at_)=o):=⟨_,rfl⟩
 rw [HOO.out]
 clear h HO
 cases o with
 | crash=>exact absurd HOO.out (number_safe np _)
 | fault =>
  go_enter Tryz.func57,Tryz.ntmps57
  go_wp2_with (first
   | (go_at_call 72;refine (eof_any HL.out.at (by omega) (by omega)).mono ?_;simp only [hI];rintro e w' ⟨rfl,n,rfl⟩)
   | (go_at_call 80;refine (peek_t _ _ (HL.out.drewN _).at (by omega) pin0 (by omega) J1).mono ?_;rintro e w' ⟨rfl,n,rfl⟩)
   | (go_at_call 81;refine (skip_t _ (HL.out.drewN _) hin J9).mono ?_;rintro e w6 ⟨rfl,hl6,hg6⟩;have HL6:=Lib.hid hl6;have HG6:=Lib.hid (grown_trans (grown_drewN (grown_refl w (some b)) _) hg6);have c1:w6.cell? ⟨b,1,none⟩=some (.string x.kind):=hl6.cell 1;have f1:w6.frozen? ⟨b,1,none⟩=false:=hl6.free 1;have d1:∀o,(w6.alloc o).cell? ⟨b,1,none⟩=some (.string x.kind):=fun o=>(hl6.below (below_alloc w6 o)).cell 1;have g1:∀o,(w6.alloc o).frozen? ⟨b,1,none⟩=false:=fun o=>(hl6.below (below_alloc w6 o)).free 1;clear hl6 hg6)
   | (go_at_call 84;refine (number_o np (HL.out.drewN _) hx hb _ HOO).mono ?_;rintro e w3 ⟨m,rfl,hm⟩;have HM:=Lib.hid hm;clear hm))
  exact ⟨rfl,Faults.trans (Grown2.of (grown_drewN (grown_refl w (some b)) _)) ⟨m,rfl,HM.out⟩⟩
 | bad len =>
  go_enter Tryz.func57,Tryz.ntmps57
  go_wp2_with (first
   | (go_at_call 72;refine (eof_any HL.out.at (by omega) (by omega)).mono ?_;simp only [hI];rintro e w' ⟨rfl,n,rfl⟩)
   | (go_at_call 80;refine (peek_t _ _ (HL.out.drewN _).at (by omega) pin0 (by omega) J1).mono ?_;rintro e w' ⟨rfl,n,rfl⟩)
   | (go_at_call 81;refine (skip_t _ (HL.out.drewN _) hin J9).mono ?_;rintro e w6 ⟨rfl,hl6,hg6⟩;have HL6:=Lib.hid hl6;have HG6:=Lib.hid (grown_trans (grown_drewN (grown_refl w (some b)) _) hg6);have c1:w6.cell? ⟨b,1,none⟩=some (.string x.kind):=hl6.cell 1;have f1:w6.frozen? ⟨b,1,none⟩=false:=hl6.free 1;have d1:∀o,(w6.alloc o).cell? ⟨b,1,none⟩=some (.string x.kind):=fun o=>(hl6.below (below_alloc w6 o)).cell 1;have g1:∀o,(w6.alloc o).frozen? ⟨b,1,none⟩=false:=fun o=>(hl6.below (below_alloc w6 o)).free 1;clear hl6 hg6)
   | (go_at_call 84;refine (number_o np (HL.out.drewN _) hx hb _ HOO).mono ?_;rintro e w3 ⟨x3,hx3,rfl,hl,hg⟩;have HX3:=Lib.hid hx3;have HL3:=Lib.hid hl;have HG3:=Lib.hid (grown_trans (grown_drewN (grown_refl w (some b)) _) hg);clear hx3 hl hg))
  (first|go_end0|go_ret)
  exact ⟨x3,HX3.out,rfl,HL3.out,HG3.out⟩
 | tok kk len text base dot =>
  go_enter Tryz.func57,Tryz.ntmps57
  go_wp2_with (first
   | (go_at_call 72;refine (eof_any HL.out.at (by omega) (by omega)).mono ?_;simp only [hI];rintro e w' ⟨rfl,n,rfl⟩)
   | (go_at_call 80;refine (peek_t _ _ (HL.out.drewN _).at (by omega) pin0 (by omega) J1).mono ?_;rintro e w' ⟨rfl,n,rfl⟩)
   | (go_at_call 81;refine (skip_t _ (HL.out.drewN _) hin J9).mono ?_;rintro e w6 ⟨rfl,hl6,hg6⟩;have HL6:=Lib.hid hl6;have HG6:=Lib.hid (grown_trans (grown_drewN (grown_refl w (some b)) _) hg6);have c1:w6.cell? ⟨b,1,none⟩=some (.string x.kind):=hl6.cell 1;have f1:w6.frozen? ⟨b,1,none⟩=false:=hl6.free 1;have d1:∀o,(w6.alloc o).cell? ⟨b,1,none⟩=some (.string x.kind):=fun o=>(hl6.below (below_alloc w6 o)).cell 1;have g1:∀o,(w6.alloc o).frozen? ⟨b,1,none⟩=false:=fun o=>(hl6.below (below_alloc w6 o)).free 1;clear hl6 hg6)
   | (go_at_call 84;refine (number_o np (HL.out.drewN _) hx hb _ HOO).mono ?_;rintro e w3 ⟨rfl,hl,hg⟩;have HL3:=Lib.hid hl;have HG3:=Lib.hid (grown_trans (grown_drewN (grown_refl w (some b)) _) hg);clear hl hg))
  (first|go_end0|go_ret)
  exact ⟨rfl,HL3.out,HG3.out⟩
set_option maxHeartbeats 1000000 in
set_option maxRecDepth 100000 in
theorem tok_50 {w:World} {B b f:Nat} {s:ByteArray} {x:St} (np:Bool) (last:lx.Bs) (h:LexS w B b f s x) (hx:x.str=⟨#[]⟩) (hb:x.base=0) (hin:x.at_<s.size) (hc:s[x.at_]=50) :
  Calls Tryz.prog 57 #[.pointer (some ⟨b,0,none⟩),.bool np] w (TokPost B b f s x (lx.token np last (rest s x.at_)) w):=by
 have HL:=Lib.hid h
 have SZ:=h.sz
 have hle:=h.le
 have hI:(!(inB s x.at_))=false:=by simp [inB,hin]
 have J1:Hid (bt s (x.at_+(0:Int).toNat)=50):=by show bt s (x.at_+0)=_;rw [Nat.add_zero,bt_in hin,hc];rfl
 have J9:Hid (bt s x.at_=50):=by show _=_;rw [bt_in hin,hc];rfl
 have pin0:x.at_+(0:Int).toNat<s.size:=by simpa using hin
 have HO:lx.token np last (rest s x.at_)=lx.number np (rest s x.at_):=by
  rw [rest_cons s _ hin,hc]
  rfl
 rw [HO]
 obtain ⟨o,HOO⟩:∃o,Hid (lx.number np (rest s x.at_)=o):=⟨_,rfl⟩
 rw [HOO.out]
 clear h HO
 cases o with
 | crash=>exact absurd HOO.out (number_safe np _)
 | fault =>
  go_enter Tryz.func57,Tryz.ntmps57
  go_wp2_with (first
   | (go_at_call 72;refine (eof_any HL.out.at (by omega) (by omega)).mono ?_;simp only [hI];rintro e w' ⟨rfl,n,rfl⟩)
   | (go_at_call 80;refine (peek_t _ _ (HL.out.drewN _).at (by omega) pin0 (by omega) J1).mono ?_;rintro e w' ⟨rfl,n,rfl⟩)
   | (go_at_call 81;refine (skip_t _ (HL.out.drewN _) hin J9).mono ?_;rintro e w6 ⟨rfl,hl6,hg6⟩;have HL6:=Lib.hid hl6;have HG6:=Lib.hid (grown_trans (grown_drewN (grown_refl w (some b)) _) hg6);have c1:w6.cell? ⟨b,1,none⟩=some (.string x.kind):=hl6.cell 1;have f1:w6.frozen? ⟨b,1,none⟩=false:=hl6.free 1;have d1:∀o,(w6.alloc o).cell? ⟨b,1,none⟩=some (.string x.kind):=fun o=>(hl6.below (below_alloc w6 o)).cell 1;have g1:∀o,(w6.alloc o).frozen? ⟨b,1,none⟩=false:=fun o=>(hl6.below (below_alloc w6 o)).free 1;clear hl6 hg6)
   | (go_at_call 84;refine (number_o np (HL.out.drewN _) hx hb _ HOO).mono ?_;rintro e w3 ⟨m,rfl,hm⟩;have HM:=Lib.hid hm;clear hm))
  exact ⟨rfl,Faults.trans (Grown2.of (grown_drewN (grown_refl w (some b)) _)) ⟨m,rfl,HM.out⟩⟩
 | bad len =>
  go_enter Tryz.func57,Tryz.ntmps57
  go_wp2_with (first
   | (go_at_call 72;refine (eof_any HL.out.at (by omega) (by omega)).mono ?_;simp only [hI];rintro e w' ⟨rfl,n,rfl⟩)
   | (go_at_call 80;refine (peek_t _ _ (HL.out.drewN _).at (by omega) pin0 (by omega) J1).mono ?_;rintro e w' ⟨rfl,n,rfl⟩)
   | (go_at_call 81;refine (skip_t _ (HL.out.drewN _) hin J9).mono ?_;rintro e w6 ⟨rfl,hl6,hg6⟩;have HL6:=Lib.hid hl6;have HG6:=Lib.hid (grown_trans (grown_drewN (grown_refl w (some b)) _) hg6);have c1:w6.cell? ⟨b,1,none⟩=some (.string x.kind):=hl6.cell 1;have f1:w6.frozen? ⟨b,1,none⟩=false:=hl6.free 1;have d1:∀o,(w6.alloc o).cell? ⟨b,1,none⟩=some (.string x.kind):=fun o=>(hl6.below (below_alloc w6 o)).cell 1;have g1:∀o,(w6.alloc o).frozen? ⟨b,1,none⟩=false:=fun o=>(hl6.below (below_alloc w6 o)).free 1;clear hl6 hg6)
   | (go_at_call 84;refine (number_o np (HL.out.drewN _) hx hb _ HOO).mono ?_;rintro e w3 ⟨x3,hx3,rfl,hl,hg⟩;have HX3:=Lib.hid hx3;have HL3:=Lib.hid hl;have HG3:=Lib.hid (grown_trans (grown_drewN (grown_refl w (some b)) _) hg);clear hx3 hl hg))
  (first|go_end0|go_ret)
  exact ⟨x3,HX3.out,rfl,HL3.out,HG3.out⟩
 | tok kk len text base dot =>
  go_enter Tryz.func57,Tryz.ntmps57
  go_wp2_with (first
   | (go_at_call 72;refine (eof_any HL.out.at (by omega) (by omega)).mono ?_;simp only [hI];rintro e w' ⟨rfl,n,rfl⟩)
   | (go_at_call 80;refine (peek_t _ _ (HL.out.drewN _).at (by omega) pin0 (by omega) J1).mono ?_;rintro e w' ⟨rfl,n,rfl⟩)
   | (go_at_call 81;refine (skip_t _ (HL.out.drewN _) hin J9).mono ?_;rintro e w6 ⟨rfl,hl6,hg6⟩;have HL6:=Lib.hid hl6;have HG6:=Lib.hid (grown_trans (grown_drewN (grown_refl w (some b)) _) hg6);have c1:w6.cell? ⟨b,1,none⟩=some (.string x.kind):=hl6.cell 1;have f1:w6.frozen? ⟨b,1,none⟩=false:=hl6.free 1;have d1:∀o,(w6.alloc o).cell? ⟨b,1,none⟩=some (.string x.kind):=fun o=>(hl6.below (below_alloc w6 o)).cell 1;have g1:∀o,(w6.alloc o).frozen? ⟨b,1,none⟩=false:=fun o=>(hl6.below (below_alloc w6 o)).free 1;clear hl6 hg6)
   | (go_at_call 84;refine (number_o np (HL.out.drewN _) hx hb _ HOO).mono ?_;rintro e w3 ⟨rfl,hl,hg⟩;have HL3:=Lib.hid hl;have HG3:=Lib.hid (grown_trans (grown_drewN (grown_refl w (some b)) _) hg);clear hl hg))
  (first|go_end0|go_ret)
  exact ⟨rfl,HL3.out,HG3.out⟩
set_option maxHeartbeats 1000000 in
set_option maxRecDepth 100000 in
theorem tok_51 {w:World} {B b f:Nat} {s:ByteArray} {x:St} (np:Bool) (last:lx.Bs) (h:LexS w B b f s x) (hx:x.str=⟨#[]⟩) (hb:x.base=0) (hin:x.at_<s.size) (hc:s[x.at_]=51) :
  Calls Tryz.prog 57 #[.pointer (some ⟨b,0,none⟩),.bool np] w (TokPost B b f s x (lx.token np last (rest s x.at_)) w):=by
 have HL:=Lib.hid h
 have SZ:=h.sz
 have hle:=h.le
 have hI:(!(inB s x.at_))=false:=by simp [inB,hin]
 have J1:Hid (bt s (x.at_+(0:Int).toNat)=51):=by show bt s (x.at_+0)=_;rw [Nat.add_zero,bt_in hin,hc];rfl
 have J9:Hid (bt s x.at_=51):=by show _=_;rw [bt_in hin,hc];rfl
 have pin0:x.at_+(0:Int).toNat<s.size:=by simpa using hin
 have HO:lx.token np last (rest s x.at_)=lx.number np (rest s x.at_):=by
  rw [rest_cons s _ hin,hc]
  rfl
 rw [HO]
 obtain ⟨o,HOO⟩:∃o,Hid (lx.number np (rest s x.at_)=o):=⟨_,rfl⟩
 rw [HOO.out]
 clear h HO
 cases o with
 | crash=>exact absurd HOO.out (number_safe np _)
 | fault =>
  go_enter Tryz.func57,Tryz.ntmps57
  go_wp2_with (first
   | (go_at_call 72;refine (eof_any HL.out.at (by omega) (by omega)).mono ?_;simp only [hI];rintro e w' ⟨rfl,n,rfl⟩)
   | (go_at_call 80;refine (peek_t _ _ (HL.out.drewN _).at (by omega) pin0 (by omega) J1).mono ?_;rintro e w' ⟨rfl,n,rfl⟩)
   | (go_at_call 81;refine (skip_t _ (HL.out.drewN _) hin J9).mono ?_;rintro e w6 ⟨rfl,hl6,hg6⟩;have HL6:=Lib.hid hl6;have HG6:=Lib.hid (grown_trans (grown_drewN (grown_refl w (some b)) _) hg6);have c1:w6.cell? ⟨b,1,none⟩=some (.string x.kind):=hl6.cell 1;have f1:w6.frozen? ⟨b,1,none⟩=false:=hl6.free 1;have d1:∀o,(w6.alloc o).cell? ⟨b,1,none⟩=some (.string x.kind):=fun o=>(hl6.below (below_alloc w6 o)).cell 1;have g1:∀o,(w6.alloc o).frozen? ⟨b,1,none⟩=false:=fun o=>(hl6.below (below_alloc w6 o)).free 1;clear hl6 hg6)
   | (go_at_call 84;refine (number_o np (HL.out.drewN _) hx hb _ HOO).mono ?_;rintro e w3 ⟨m,rfl,hm⟩;have HM:=Lib.hid hm;clear hm))
  exact ⟨rfl,Faults.trans (Grown2.of (grown_drewN (grown_refl w (some b)) _)) ⟨m,rfl,HM.out⟩⟩
 | bad len =>
  go_enter Tryz.func57,Tryz.ntmps57
  go_wp2_with (first
   | (go_at_call 72;refine (eof_any HL.out.at (by omega) (by omega)).mono ?_;simp only [hI];rintro e w' ⟨rfl,n,rfl⟩)
   | (go_at_call 80;refine (peek_t _ _ (HL.out.drewN _).at (by omega) pin0 (by omega) J1).mono ?_;rintro e w' ⟨rfl,n,rfl⟩)
   | (go_at_call 81;refine (skip_t _ (HL.out.drewN _) hin J9).mono ?_;rintro e w6 ⟨rfl,hl6,hg6⟩;have HL6:=Lib.hid hl6;have HG6:=Lib.hid (grown_trans (grown_drewN (grown_refl w (some b)) _) hg6);have c1:w6.cell? ⟨b,1,none⟩=some (.string x.kind):=hl6.cell 1;have f1:w6.frozen? ⟨b,1,none⟩=false:=hl6.free 1;have d1:∀o,(w6.alloc o).cell? ⟨b,1,none⟩=some (.string x.kind):=fun o=>(hl6.below (below_alloc w6 o)).cell 1;have g1:∀o,(w6.alloc o).frozen? ⟨b,1,none⟩=false:=fun o=>(hl6.below (below_alloc w6 o)).free 1;clear hl6 hg6)
   | (go_at_call 84;refine (number_o np (HL.out.drewN _) hx hb _ HOO).mono ?_;rintro e w3 ⟨x3,hx3,rfl,hl,hg⟩;have HX3:=Lib.hid hx3;have HL3:=Lib.hid hl;have HG3:=Lib.hid (grown_trans (grown_drewN (grown_refl w (some b)) _) hg);clear hx3 hl hg))
  (first|go_end0|go_ret)
  exact ⟨x3,HX3.out,rfl,HL3.out,HG3.out⟩
 | tok kk len text base dot =>
  go_enter Tryz.func57,Tryz.ntmps57
  go_wp2_with (first
   | (go_at_call 72;refine (eof_any HL.out.at (by omega) (by omega)).mono ?_;simp only [hI];rintro e w' ⟨rfl,n,rfl⟩)
   | (go_at_call 80;refine (peek_t _ _ (HL.out.drewN _).at (by omega) pin0 (by omega) J1).mono ?_;rintro e w' ⟨rfl,n,rfl⟩)
   | (go_at_call 81;refine (skip_t _ (HL.out.drewN _) hin J9).mono ?_;rintro e w6 ⟨rfl,hl6,hg6⟩;have HL6:=Lib.hid hl6;have HG6:=Lib.hid (grown_trans (grown_drewN (grown_refl w (some b)) _) hg6);have c1:w6.cell? ⟨b,1,none⟩=some (.string x.kind):=hl6.cell 1;have f1:w6.frozen? ⟨b,1,none⟩=false:=hl6.free 1;have d1:∀o,(w6.alloc o).cell? ⟨b,1,none⟩=some (.string x.kind):=fun o=>(hl6.below (below_alloc w6 o)).cell 1;have g1:∀o,(w6.alloc o).frozen? ⟨b,1,none⟩=false:=fun o=>(hl6.below (below_alloc w6 o)).free 1;clear hl6 hg6)
   | (go_at_call 84;refine (number_o np (HL.out.drewN _) hx hb _ HOO).mono ?_;rintro e w3 ⟨rfl,hl,hg⟩;have HL3:=Lib.hid hl;have HG3:=Lib.hid (grown_trans (grown_drewN (grown_refl w (some b)) _) hg);clear hl hg))
  (first|go_end0|go_ret)
  exact ⟨rfl,HL3.out,HG3.out⟩
set_option maxHeartbeats 1000000 in
set_option maxRecDepth 100000 in
theorem tok_52 {w:World} {B b f:Nat} {s:ByteArray} {x:St} (np:Bool) (last:lx.Bs) (h:LexS w B b f s x) (hx:x.str=⟨#[]⟩) (hb:x.base=0) (hin:x.at_<s.size) (hc:s[x.at_]=52) :
  Calls Tryz.prog 57 #[.pointer (some ⟨b,0,none⟩),.bool np] w (TokPost B b f s x (lx.token np last (rest s x.at_)) w):=by
 have HL:=Lib.hid h
 have SZ:=h.sz
 have hle:=h.le
 have hI:(!(inB s x.at_))=false:=by simp [inB,hin]
 have J1:Hid (bt s (x.at_+(0:Int).toNat)=52):=by show bt s (x.at_+0)=_;rw [Nat.add_zero,bt_in hin,hc];rfl
 have J9:Hid (bt s x.at_=52):=by show _=_;rw [bt_in hin,hc];rfl
 have pin0:x.at_+(0:Int).toNat<s.size:=by simpa using hin
 have HO:lx.token np last (rest s x.at_)=lx.number np (rest s x.at_):=by
  rw [rest_cons s _ hin,hc]
  rfl
 rw [HO]
 obtain ⟨o,HOO⟩:∃o,Hid (lx.number np (rest s x.at_)=o):=⟨_,rfl⟩
 rw [HOO.out]
 clear h HO
 cases o with
 | crash=>exact absurd HOO.out (number_safe np _)
 | fault =>
  go_enter Tryz.func57,Tryz.ntmps57
  go_wp2_with (first
   | (go_at_call 72;refine (eof_any HL.out.at (by omega) (by omega)).mono ?_;simp only [hI];rintro e w' ⟨rfl,n,rfl⟩)
   | (go_at_call 80;refine (peek_t _ _ (HL.out.drewN _).at (by omega) pin0 (by omega) J1).mono ?_;rintro e w' ⟨rfl,n,rfl⟩)
   | (go_at_call 81;refine (skip_t _ (HL.out.drewN _) hin J9).mono ?_;rintro e w6 ⟨rfl,hl6,hg6⟩;have HL6:=Lib.hid hl6;have HG6:=Lib.hid (grown_trans (grown_drewN (grown_refl w (some b)) _) hg6);have c1:w6.cell? ⟨b,1,none⟩=some (.string x.kind):=hl6.cell 1;have f1:w6.frozen? ⟨b,1,none⟩=false:=hl6.free 1;have d1:∀o,(w6.alloc o).cell? ⟨b,1,none⟩=some (.string x.kind):=fun o=>(hl6.below (below_alloc w6 o)).cell 1;have g1:∀o,(w6.alloc o).frozen? ⟨b,1,none⟩=false:=fun o=>(hl6.below (below_alloc w6 o)).free 1;clear hl6 hg6)
   | (go_at_call 84;refine (number_o np (HL.out.drewN _) hx hb _ HOO).mono ?_;rintro e w3 ⟨m,rfl,hm⟩;have HM:=Lib.hid hm;clear hm))
  exact ⟨rfl,Faults.trans (Grown2.of (grown_drewN (grown_refl w (some b)) _)) ⟨m,rfl,HM.out⟩⟩
 | bad len =>
  go_enter Tryz.func57,Tryz.ntmps57
  go_wp2_with (first
   | (go_at_call 72;refine (eof_any HL.out.at (by omega) (by omega)).mono ?_;simp only [hI];rintro e w' ⟨rfl,n,rfl⟩)
   | (go_at_call 80;refine (peek_t _ _ (HL.out.drewN _).at (by omega) pin0 (by omega) J1).mono ?_;rintro e w' ⟨rfl,n,rfl⟩)
   | (go_at_call 81;refine (skip_t _ (HL.out.drewN _) hin J9).mono ?_;rintro e w6 ⟨rfl,hl6,hg6⟩;have HL6:=Lib.hid hl6;have HG6:=Lib.hid (grown_trans (grown_drewN (grown_refl w (some b)) _) hg6);have c1:w6.cell? ⟨b,1,none⟩=some (.string x.kind):=hl6.cell 1;have f1:w6.frozen? ⟨b,1,none⟩=false:=hl6.free 1;have d1:∀o,(w6.alloc o).cell? ⟨b,1,none⟩=some (.string x.kind):=fun o=>(hl6.below (below_alloc w6 o)).cell 1;have g1:∀o,(w6.alloc o).frozen? ⟨b,1,none⟩=false:=fun o=>(hl6.below (below_alloc w6 o)).free 1;clear hl6 hg6)
   | (go_at_call 84;refine (number_o np (HL.out.drewN _) hx hb _ HOO).mono ?_;rintro e w3 ⟨x3,hx3,rfl,hl,hg⟩;have HX3:=Lib.hid hx3;have HL3:=Lib.hid hl;have HG3:=Lib.hid (grown_trans (grown_drewN (grown_refl w (some b)) _) hg);clear hx3 hl hg))
  (first|go_end0|go_ret)
  exact ⟨x3,HX3.out,rfl,HL3.out,HG3.out⟩
 | tok kk len text base dot =>
  go_enter Tryz.func57,Tryz.ntmps57
  go_wp2_with (first
   | (go_at_call 72;refine (eof_any HL.out.at (by omega) (by omega)).mono ?_;simp only [hI];rintro e w' ⟨rfl,n,rfl⟩)
   | (go_at_call 80;refine (peek_t _ _ (HL.out.drewN _).at (by omega) pin0 (by omega) J1).mono ?_;rintro e w' ⟨rfl,n,rfl⟩)
   | (go_at_call 81;refine (skip_t _ (HL.out.drewN _) hin J9).mono ?_;rintro e w6 ⟨rfl,hl6,hg6⟩;have HL6:=Lib.hid hl6;have HG6:=Lib.hid (grown_trans (grown_drewN (grown_refl w (some b)) _) hg6);have c1:w6.cell? ⟨b,1,none⟩=some (.string x.kind):=hl6.cell 1;have f1:w6.frozen? ⟨b,1,none⟩=false:=hl6.free 1;have d1:∀o,(w6.alloc o).cell? ⟨b,1,none⟩=some (.string x.kind):=fun o=>(hl6.below (below_alloc w6 o)).cell 1;have g1:∀o,(w6.alloc o).frozen? ⟨b,1,none⟩=false:=fun o=>(hl6.below (below_alloc w6 o)).free 1;clear hl6 hg6)
   | (go_at_call 84;refine (number_o np (HL.out.drewN _) hx hb _ HOO).mono ?_;rintro e w3 ⟨rfl,hl,hg⟩;have HL3:=Lib.hid hl;have HG3:=Lib.hid (grown_trans (grown_drewN (grown_refl w (some b)) _) hg);clear hl hg))
  (first|go_end0|go_ret)
  exact ⟨rfl,HL3.out,HG3.out⟩
set_option maxHeartbeats 1000000 in
set_option maxRecDepth 100000 in
theorem tok_53 {w:World} {B b f:Nat} {s:ByteArray} {x:St} (np:Bool) (last:lx.Bs) (h:LexS w B b f s x) (hx:x.str=⟨#[]⟩) (hb:x.base=0) (hin:x.at_<s.size) (hc:s[x.at_]=53) :
  Calls Tryz.prog 57 #[.pointer (some ⟨b,0,none⟩),.bool np] w (TokPost B b f s x (lx.token np last (rest s x.at_)) w):=by
 have HL:=Lib.hid h
 have SZ:=h.sz
 have hle:=h.le
 have hI:(!(inB s x.at_))=false:=by simp [inB,hin]
 have J1:Hid (bt s (x.at_+(0:Int).toNat)=53):=by show bt s (x.at_+0)=_;rw [Nat.add_zero,bt_in hin,hc];rfl
 have J9:Hid (bt s x.at_=53):=by show _=_;rw [bt_in hin,hc];rfl
 have pin0:x.at_+(0:Int).toNat<s.size:=by simpa using hin
 have HO:lx.token np last (rest s x.at_)=lx.number np (rest s x.at_):=by
  rw [rest_cons s _ hin,hc]
  rfl
 rw [HO]
 obtain ⟨o,HOO⟩:∃o,Hid (lx.number np (rest s x.at_)=o):=⟨_,rfl⟩
 rw [HOO.out]
 clear h HO
 cases o with
 | crash=>exact absurd HOO.out (number_safe np _)
 | fault =>
  go_enter Tryz.func57,Tryz.ntmps57
  go_wp2_with (first
   | (go_at_call 72;refine (eof_any HL.out.at (by omega) (by omega)).mono ?_;simp only [hI];rintro e w' ⟨rfl,n,rfl⟩)
   | (go_at_call 80;refine (peek_t _ _ (HL.out.drewN _).at (by omega) pin0 (by omega) J1).mono ?_;rintro e w' ⟨rfl,n,rfl⟩)
   | (go_at_call 81;refine (skip_t _ (HL.out.drewN _) hin J9).mono ?_;rintro e w6 ⟨rfl,hl6,hg6⟩;have HL6:=Lib.hid hl6;have HG6:=Lib.hid (grown_trans (grown_drewN (grown_refl w (some b)) _) hg6);have c1:w6.cell? ⟨b,1,none⟩=some (.string x.kind):=hl6.cell 1;have f1:w6.frozen? ⟨b,1,none⟩=false:=hl6.free 1;have d1:∀o,(w6.alloc o).cell? ⟨b,1,none⟩=some (.string x.kind):=fun o=>(hl6.below (below_alloc w6 o)).cell 1;have g1:∀o,(w6.alloc o).frozen? ⟨b,1,none⟩=false:=fun o=>(hl6.below (below_alloc w6 o)).free 1;clear hl6 hg6)
   | (go_at_call 84;refine (number_o np (HL.out.drewN _) hx hb _ HOO).mono ?_;rintro e w3 ⟨m,rfl,hm⟩;have HM:=Lib.hid hm;clear hm))
  exact ⟨rfl,Faults.trans (Grown2.of (grown_drewN (grown_refl w (some b)) _)) ⟨m,rfl,HM.out⟩⟩
 | bad len =>
  go_enter Tryz.func57,Tryz.ntmps57
  go_wp2_with (first
   | (go_at_call 72;refine (eof_any HL.out.at (by omega) (by omega)).mono ?_;simp only [hI];rintro e w' ⟨rfl,n,rfl⟩)
   | (go_at_call 80;refine (peek_t _ _ (HL.out.drewN _).at (by omega) pin0 (by omega) J1).mono ?_;rintro e w' ⟨rfl,n,rfl⟩)
   | (go_at_call 81;refine (skip_t _ (HL.out.drewN _) hin J9).mono ?_;rintro e w6 ⟨rfl,hl6,hg6⟩;have HL6:=Lib.hid hl6;have HG6:=Lib.hid (grown_trans (grown_drewN (grown_refl w (some b)) _) hg6);have c1:w6.cell? ⟨b,1,none⟩=some (.string x.kind):=hl6.cell 1;have f1:w6.frozen? ⟨b,1,none⟩=false:=hl6.free 1;have d1:∀o,(w6.alloc o).cell? ⟨b,1,none⟩=some (.string x.kind):=fun o=>(hl6.below (below_alloc w6 o)).cell 1;have g1:∀o,(w6.alloc o).frozen? ⟨b,1,none⟩=false:=fun o=>(hl6.below (below_alloc w6 o)).free 1;clear hl6 hg6)
   | (go_at_call 84;refine (number_o np (HL.out.drewN _) hx hb _ HOO).mono ?_;rintro e w3 ⟨x3,hx3,rfl,hl,hg⟩;have HX3:=Lib.hid hx3;have HL3:=Lib.hid hl;have HG3:=Lib.hid (grown_trans (grown_drewN (grown_refl w (some b)) _) hg);clear hx3 hl hg))
  (first|go_end0|go_ret)
  exact ⟨x3,HX3.out,rfl,HL3.out,HG3.out⟩
 | tok kk len text base dot =>
  go_enter Tryz.func57,Tryz.ntmps57
  go_wp2_with (first
   | (go_at_call 72;refine (eof_any HL.out.at (by omega) (by omega)).mono ?_;simp only [hI];rintro e w' ⟨rfl,n,rfl⟩)
   | (go_at_call 80;refine (peek_t _ _ (HL.out.drewN _).at (by omega) pin0 (by omega) J1).mono ?_;rintro e w' ⟨rfl,n,rfl⟩)
   | (go_at_call 81;refine (skip_t _ (HL.out.drewN _) hin J9).mono ?_;rintro e w6 ⟨rfl,hl6,hg6⟩;have HL6:=Lib.hid hl6;have HG6:=Lib.hid (grown_trans (grown_drewN (grown_refl w (some b)) _) hg6);have c1:w6.cell? ⟨b,1,none⟩=some (.string x.kind):=hl6.cell 1;have f1:w6.frozen? ⟨b,1,none⟩=false:=hl6.free 1;have d1:∀o,(w6.alloc o).cell? ⟨b,1,none⟩=some (.string x.kind):=fun o=>(hl6.below (below_alloc w6 o)).cell 1;have g1:∀o,(w6.alloc o).frozen? ⟨b,1,none⟩=false:=fun o=>(hl6.below (below_alloc w6 o)).free 1;clear hl6 hg6)
   | (go_at_call 84;refine (number_o np (HL.out.drewN _) hx hb _ HOO).mono ?_;rintro e w3 ⟨rfl,hl,hg⟩;have HL3:=Lib.hid hl;have HG3:=Lib.hid (grown_trans (grown_drewN (grown_refl w (some b)) _) hg);clear hl hg))
  (first|go_end0|go_ret)
  exact ⟨rfl,HL3.out,HG3.out⟩
set_option maxHeartbeats 1000000 in
set_option maxRecDepth 100000 in
theorem tok_54 {w:World} {B b f:Nat} {s:ByteArray} {x:St} (np:Bool) (last:lx.Bs) (h:LexS w B b f s x) (hx:x.str=⟨#[]⟩) (hb:x.base=0) (hin:x.at_<s.size) (hc:s[x.at_]=54) :
  Calls Tryz.prog 57 #[.pointer (some ⟨b,0,none⟩),.bool np] w (TokPost B b f s x (lx.token np last (rest s x.at_)) w):=by
 have HL:=Lib.hid h
 have SZ:=h.sz
 have hle:=h.le
 have hI:(!(inB s x.at_))=false:=by simp [inB,hin]
 have J1:Hid (bt s (x.at_+(0:Int).toNat)=54):=by show bt s (x.at_+0)=_;rw [Nat.add_zero,bt_in hin,hc];rfl
 have J9:Hid (bt s x.at_=54):=by show _=_;rw [bt_in hin,hc];rfl
 have pin0:x.at_+(0:Int).toNat<s.size:=by simpa using hin
 have HO:lx.token np last (rest s x.at_)=lx.number np (rest s x.at_):=by
  rw [rest_cons s _ hin,hc]
  rfl
 rw [HO]
 obtain ⟨o,HOO⟩:∃o,Hid (lx.number np (rest s x.at_)=o):=⟨_,rfl⟩
 rw [HOO.out]
 clear h HO
 cases o with
 | crash=>exact absurd HOO.out (number_safe np _)
 | fault =>
  go_enter Tryz.func57,Tryz.ntmps57
  go_wp2_with (first
   | (go_at_call 72;refine (eof_any HL.out.at (by omega) (by omega)).mono ?_;simp only [hI];rintro e w' ⟨rfl,n,rfl⟩)
   | (go_at_call 80;refine (peek_t _ _ (HL.out.drewN _).at (by omega) pin0 (by omega) J1).mono ?_;rintro e w' ⟨rfl,n,rfl⟩)
   | (go_at_call 81;refine (skip_t _ (HL.out.drewN _) hin J9).mono ?_;rintro e w6 ⟨rfl,hl6,hg6⟩;have HL6:=Lib.hid hl6;have HG6:=Lib.hid (grown_trans (grown_drewN (grown_refl w (some b)) _) hg6);have c1:w6.cell? ⟨b,1,none⟩=some (.string x.kind):=hl6.cell 1;have f1:w6.frozen? ⟨b,1,none⟩=false:=hl6.free 1;have d1:∀o,(w6.alloc o).cell? ⟨b,1,none⟩=some (.string x.kind):=fun o=>(hl6.below (below_alloc w6 o)).cell 1;have g1:∀o,(w6.alloc o).frozen? ⟨b,1,none⟩=false:=fun o=>(hl6.below (below_alloc w6 o)).free 1;clear hl6 hg6)
   | (go_at_call 84;refine (number_o np (HL.out.drewN _) hx hb _ HOO).mono ?_;rintro e w3 ⟨m,rfl,hm⟩;have HM:=Lib.hid hm;clear hm))
  exact ⟨rfl,Faults.trans (Grown2.of (grown_drewN (grown_refl w (some b)) _)) ⟨m,rfl,HM.out⟩⟩
 | bad len =>
  go_enter Tryz.func57,Tryz.ntmps57
  go_wp2_with (first
   | (go_at_call 72;refine (eof_any HL.out.at (by omega) (by omega)).mono ?_;simp only [hI];rintro e w' ⟨rfl,n,rfl⟩)
   | (go_at_call 80;refine (peek_t _ _ (HL.out.drewN _).at (by omega) pin0 (by omega) J1).mono ?_;rintro e w' ⟨rfl,n,rfl⟩)
   | (go_at_call 81;refine (skip_t _ (HL.out.drewN _) hin J9).mono ?_;rintro e w6 ⟨rfl,hl6,hg6⟩;have HL6:=Lib.hid hl6;have HG6:=Lib.hid (grown_trans (grown_drewN (grown_refl w (some b)) _) hg6);have c1:w6.cell? ⟨b,1,none⟩=some (.string x.kind):=hl6.cell 1;have f1:w6.frozen? ⟨b,1,none⟩=false:=hl6.free 1;have d1:∀o,(w6.alloc o).cell? ⟨b,1,none⟩=some (.string x.kind):=fun o=>(hl6.below (below_alloc w6 o)).cell 1;have g1:∀o,(w6.alloc o).frozen? ⟨b,1,none⟩=false:=fun o=>(hl6.below (below_alloc w6 o)).free 1;clear hl6 hg6)
   | (go_at_call 84;refine (number_o np (HL.out.drewN _) hx hb _ HOO).mono ?_;rintro e w3 ⟨x3,hx3,rfl,hl,hg⟩;have HX3:=Lib.hid hx3;have HL3:=Lib.hid hl;have HG3:=Lib.hid (grown_trans (grown_drewN (grown_refl w (some b)) _) hg);clear hx3 hl hg))
  (first|go_end0|go_ret)
  exact ⟨x3,HX3.out,rfl,HL3.out,HG3.out⟩
 | tok kk len text base dot =>
  go_enter Tryz.func57,Tryz.ntmps57
  go_wp2_with (first
   | (go_at_call 72;refine (eof_any HL.out.at (by omega) (by omega)).mono ?_;simp only [hI];rintro e w' ⟨rfl,n,rfl⟩)
   | (go_at_call 80;refine (peek_t _ _ (HL.out.drewN _).at (by omega) pin0 (by omega) J1).mono ?_;rintro e w' ⟨rfl,n,rfl⟩)
   | (go_at_call 81;refine (skip_t _ (HL.out.drewN _) hin J9).mono ?_;rintro e w6 ⟨rfl,hl6,hg6⟩;have HL6:=Lib.hid hl6;have HG6:=Lib.hid (grown_trans (grown_drewN (grown_refl w (some b)) _) hg6);have c1:w6.cell? ⟨b,1,none⟩=some (.string x.kind):=hl6.cell 1;have f1:w6.frozen? ⟨b,1,none⟩=false:=hl6.free 1;have d1:∀o,(w6.alloc o).cell? ⟨b,1,none⟩=some (.string x.kind):=fun o=>(hl6.below (below_alloc w6 o)).cell 1;have g1:∀o,(w6.alloc o).frozen? ⟨b,1,none⟩=false:=fun o=>(hl6.below (below_alloc w6 o)).free 1;clear hl6 hg6)
   | (go_at_call 84;refine (number_o np (HL.out.drewN _) hx hb _ HOO).mono ?_;rintro e w3 ⟨rfl,hl,hg⟩;have HL3:=Lib.hid hl;have HG3:=Lib.hid (grown_trans (grown_drewN (grown_refl w (some b)) _) hg);clear hl hg))
  (first|go_end0|go_ret)
  exact ⟨rfl,HL3.out,HG3.out⟩
set_option maxHeartbeats 1000000 in
set_option maxRecDepth 100000 in
theorem tok_55 {w:World} {B b f:Nat} {s:ByteArray} {x:St} (np:Bool) (last:lx.Bs) (h:LexS w B b f s x) (hx:x.str=⟨#[]⟩) (hb:x.base=0) (hin:x.at_<s.size) (hc:s[x.at_]=55) :
  Calls Tryz.prog 57 #[.pointer (some ⟨b,0,none⟩),.bool np] w (TokPost B b f s x (lx.token np last (rest s x.at_)) w):=by
 have HL:=Lib.hid h
 have SZ:=h.sz
 have hle:=h.le
 have hI:(!(inB s x.at_))=false:=by simp [inB,hin]
 have J1:Hid (bt s (x.at_+(0:Int).toNat)=55):=by show bt s (x.at_+0)=_;rw [Nat.add_zero,bt_in hin,hc];rfl
 have J9:Hid (bt s x.at_=55):=by show _=_;rw [bt_in hin,hc];rfl
 have pin0:x.at_+(0:Int).toNat<s.size:=by simpa using hin
 have HO:lx.token np last (rest s x.at_)=lx.number np (rest s x.at_):=by
  rw [rest_cons s _ hin,hc]
  rfl
 rw [HO]
 obtain ⟨o,HOO⟩:∃o,Hid (lx.number np (rest s x.at_)=o):=⟨_,rfl⟩
 rw [HOO.out]
 clear h HO
 cases o with
 | crash=>exact absurd HOO.out (number_safe np _)
 | fault =>
  go_enter Tryz.func57,Tryz.ntmps57
  go_wp2_with (first
   | (go_at_call 72;refine (eof_any HL.out.at (by omega) (by omega)).mono ?_;simp only [hI];rintro e w' ⟨rfl,n,rfl⟩)
   | (go_at_call 80;refine (peek_t _ _ (HL.out.drewN _).at (by omega) pin0 (by omega) J1).mono ?_;rintro e w' ⟨rfl,n,rfl⟩)
   | (go_at_call 81;refine (skip_t _ (HL.out.drewN _) hin J9).mono ?_;rintro e w6 ⟨rfl,hl6,hg6⟩;have HL6:=Lib.hid hl6;have HG6:=Lib.hid (grown_trans (grown_drewN (grown_refl w (some b)) _) hg6);have c1:w6.cell? ⟨b,1,none⟩=some (.string x.kind):=hl6.cell 1;have f1:w6.frozen? ⟨b,1,none⟩=false:=hl6.free 1;have d1:∀o,(w6.alloc o).cell? ⟨b,1,none⟩=some (.string x.kind):=fun o=>(hl6.below (below_alloc w6 o)).cell 1;have g1:∀o,(w6.alloc o).frozen? ⟨b,1,none⟩=false:=fun o=>(hl6.below (below_alloc w6 o)).free 1;clear hl6 hg6)
   | (go_at_call 84;refine (number_o np (HL.out.drewN _) hx hb _ HOO).mono ?_;rintro e w3 ⟨m,rfl,hm⟩;have HM:=Lib.hid hm;clear hm))
  exact ⟨rfl,Faults.trans (Grown2.of (grown_drewN (grown_refl w (some b)) _)) ⟨m,rfl,HM.out⟩⟩
 | bad len =>
  go_enter Tryz.func57,Tryz.ntmps57
  go_wp2_with (first
   | (go_at_call 72;refine (eof_any HL.out.at (by omega) (by omega)).mono ?_;simp only [hI];rintro e w' ⟨rfl,n,rfl⟩)
   | (go_at_call 80;refine (peek_t _ _ (HL.out.drewN _).at (by omega) pin0 (by omega) J1).mono ?_;rintro e w' ⟨rfl,n,rfl⟩)
   | (go_at_call 81;refine (skip_t _ (HL.out.drewN _) hin J9).mono ?_;rintro e w6 ⟨rfl,hl6,hg6⟩;have HL6:=Lib.hid hl6;have HG6:=Lib.hid (grown_trans (grown_drewN (grown_refl w (some b)) _) hg6);have c1:w6.cell? ⟨b,1,none⟩=some (.string x.kind):=hl6.cell 1;have f1:w6.frozen? ⟨b,1,none⟩=false:=hl6.free 1;have d1:∀o,(w6.alloc o).cell? ⟨b,1,none⟩=some (.string x.kind):=fun o=>(hl6.below (below_alloc w6 o)).cell 1;have g1:∀o,(w6.alloc o).frozen? ⟨b,1,none⟩=false:=fun o=>(hl6.below (below_alloc w6 o)).free 1;clear hl6 hg6)
   | (go_at_call 84;refine (number_o np (HL.out.drewN _) hx hb _ HOO).mono ?_;rintro e w3 ⟨x3,hx3,rfl,hl,hg⟩;have HX3:=Lib.hid hx3;have HL3:=Lib.hid hl;have HG3:=Lib.hid (grown_trans (grown_drewN (grown_refl w (some b)) _) hg);clear hx3 hl hg))
  (first|go_end0|go_ret)
  exact ⟨x3,HX3.out,rfl,HL3.out,HG3.out⟩
 | tok kk len text base dot =>
  go_enter Tryz.func57,Tryz.ntmps57
  go_wp2_with (first
   | (go_at_call 72;refine (eof_any HL.out.at (by omega) (by omega)).mono ?_;simp only [hI];rintro e w' ⟨rfl,n,rfl⟩)
   | (go_at_call 80;refine (peek_t _ _ (HL.out.drewN _).at (by omega) pin0 (by omega) J1).mono ?_;rintro e w' ⟨rfl,n,rfl⟩)
   | (go_at_call 81;refine (skip_t _ (HL.out.drewN _) hin J9).mono ?_;rintro e w6 ⟨rfl,hl6,hg6⟩;have HL6:=Lib.hid hl6;have HG6:=Lib.hid (grown_trans (grown_drewN (grown_refl w (some b)) _) hg6);have c1:w6.cell? ⟨b,1,none⟩=some (.string x.kind):=hl6.cell 1;have f1:w6.frozen? ⟨b,1,none⟩=false:=hl6.free 1;have d1:∀o,(w6.alloc o).cell? ⟨b,1,none⟩=some (.string x.kind):=fun o=>(hl6.below (below_alloc w6 o)).cell 1;have g1:∀o,(w6.alloc o).frozen? ⟨b,1,none⟩=false:=fun o=>(hl6.below (below_alloc w6 o)).free 1;clear hl6 hg6)
   | (go_at_call 84;refine (number_o np (HL.out.drewN _) hx hb _ HOO).mono ?_;rintro e w3 ⟨rfl,hl,hg⟩;have HL3:=Lib.hid hl;have HG3:=Lib.hid (grown_trans (grown_drewN (grown_refl w (some b)) _) hg);clear hl hg))
  (first|go_end0|go_ret)
  exact ⟨rfl,HL3.out,HG3.out⟩
set_option maxHeartbeats 1000000 in
set_option maxRecDepth 100000 in
theorem tok_56 {w:World} {B b f:Nat} {s:ByteArray} {x:St} (np:Bool) (last:lx.Bs) (h:LexS w B b f s x) (hx:x.str=⟨#[]⟩) (hb:x.base=0) (hin:x.at_<s.size) (hc:s[x.at_]=56) :
  Calls Tryz.prog 57 #[.pointer (some ⟨b,0,none⟩),.bool np] w (TokPost B b f s x (lx.token np last (rest s x.at_)) w):=by
 have HL:=Lib.hid h
 have SZ:=h.sz
 have hle:=h.le
 have hI:(!(inB s x.at_))=false:=by simp [inB,hin]
 have J1:Hid (bt s (x.at_+(0:Int).toNat)=56):=by show bt s (x.at_+0)=_;rw [Nat.add_zero,bt_in hin,hc];rfl
 have J9:Hid (bt s x.at_=56):=by show _=_;rw [bt_in hin,hc];rfl
 have pin0:x.at_+(0:Int).toNat<s.size:=by simpa using hin
 have HO:lx.token np last (rest s x.at_)=lx.number np (rest s x.at_):=by
  rw [rest_cons s _ hin,hc]
  rfl
 rw [HO]
 obtain ⟨o,HOO⟩:∃o,Hid (lx.number np (rest s x.at_)=o):=⟨_,rfl⟩
 rw [HOO.out]
 clear h HO
 cases o with
 | crash=>exact absurd HOO.out (number_safe np _)
 | fault =>
  go_enter Tryz.func57,Tryz.ntmps57
  go_wp2_with (first
   | (go_at_call 72;refine (eof_any HL.out.at (by omega) (by omega)).mono ?_;simp only [hI];rintro e w' ⟨rfl,n,rfl⟩)
   | (go_at_call 80;refine (peek_t _ _ (HL.out.drewN _).at (by omega) pin0 (by omega) J1).mono ?_;rintro e w' ⟨rfl,n,rfl⟩)
   | (go_at_call 81;refine (skip_t _ (HL.out.drewN _) hin J9).mono ?_;rintro e w6 ⟨rfl,hl6,hg6⟩;have HL6:=Lib.hid hl6;have HG6:=Lib.hid (grown_trans (grown_drewN (grown_refl w (some b)) _) hg6);have c1:w6.cell? ⟨b,1,none⟩=some (.string x.kind):=hl6.cell 1;have f1:w6.frozen? ⟨b,1,none⟩=false:=hl6.free 1;have d1:∀o,(w6.alloc o).cell? ⟨b,1,none⟩=some (.string x.kind):=fun o=>(hl6.below (below_alloc w6 o)).cell 1;have g1:∀o,(w6.alloc o).frozen? ⟨b,1,none⟩=false:=fun o=>(hl6.below (below_alloc w6 o)).free 1;clear hl6 hg6)
   | (go_at_call 84;refine (number_o np (HL.out.drewN _) hx hb _ HOO).mono ?_;rintro e w3 ⟨m,rfl,hm⟩;have HM:=Lib.hid hm;clear hm))
  exact ⟨rfl,Faults.trans (Grown2.of (grown_drewN (grown_refl w (some b)) _)) ⟨m,rfl,HM.out⟩⟩
 | bad len =>
  go_enter Tryz.func57,Tryz.ntmps57
  go_wp2_with (first
   | (go_at_call 72;refine (eof_any HL.out.at (by omega) (by omega)).mono ?_;simp only [hI];rintro e w' ⟨rfl,n,rfl⟩)
   | (go_at_call 80;refine (peek_t _ _ (HL.out.drewN _).at (by omega) pin0 (by omega) J1).mono ?_;rintro e w' ⟨rfl,n,rfl⟩)
   | (go_at_call 81;refine (skip_t _ (HL.out.drewN _) hin J9).mono ?_;rintro e w6 ⟨rfl,hl6,hg6⟩;have HL6:=Lib.hid hl6;have HG6:=Lib.hid (grown_trans (grown_drewN (grown_refl w (some b)) _) hg6);have c1:w6.cell? ⟨b,1,none⟩=some (.string x.kind):=hl6.cell 1;have f1:w6.frozen? ⟨b,1,none⟩=false:=hl6.free 1;have d1:∀o,(w6.alloc o).cell? ⟨b,1,none⟩=some (.string x.kind):=fun o=>(hl6.below (below_alloc w6 o)).cell 1;have g1:∀o,(w6.alloc o).frozen? ⟨b,1,none⟩=false:=fun o=>(hl6.below (below_alloc w6 o)).free 1;clear hl6 hg6)
   | (go_at_call 84;refine (number_o np (HL.out.drewN _) hx hb _ HOO).mono ?_;rintro e w3 ⟨x3,hx3,rfl,hl,hg⟩;have HX3:=Lib.hid hx3;have HL3:=Lib.hid hl;have HG3:=Lib.hid (grown_trans (grown_drewN (grown_refl w (some b)) _) hg);clear hx3 hl hg))
  (first|go_end0|go_ret)
  exact ⟨x3,HX3.out,rfl,HL3.out,HG3.out⟩
 | tok kk len text base dot =>
  go_enter Tryz.func57,Tryz.ntmps57
  go_wp2_with (first
   | (go_at_call 72;refine (eof_any HL.out.at (by omega) (by omega)).mono ?_;simp only [hI];rintro e w' ⟨rfl,n,rfl⟩)
   | (go_at_call 80;refine (peek_t _ _ (HL.out.drewN _).at (by omega) pin0 (by omega) J1).mono ?_;rintro e w' ⟨rfl,n,rfl⟩)
   | (go_at_call 81;refine (skip_t _ (HL.out.drewN _) hin J9).mono ?_;rintro e w6 ⟨rfl,hl6,hg6⟩;have HL6:=Lib.hid hl6;have HG6:=Lib.hid (grown_trans (grown_drewN (grown_refl w (some b)) _) hg6);have c1:w6.cell? ⟨b,1,none⟩=some (.string x.kind):=hl6.cell 1;have f1:w6.frozen? ⟨b,1,none⟩=false:=hl6.free 1;have d1:∀o,(w6.alloc o).cell? ⟨b,1,none⟩=some (.string x.kind):=fun o=>(hl6.below (below_alloc w6 o)).cell 1;have g1:∀o,(w6.alloc o).frozen? ⟨b,1,none⟩=false:=fun o=>(hl6.below (below_alloc w6 o)).free 1;clear hl6 hg6)
   | (go_at_call 84;refine (number_o np (HL.out.drewN _) hx hb _ HOO).mono ?_;rintro e w3 ⟨rfl,hl,hg⟩;have HL3:=Lib.hid hl;have HG3:=Lib.hid (grown_trans (grown_drewN (grown_refl w (some b)) _) hg);clear hl hg))
  (first|go_end0|go_ret)
  exact ⟨rfl,HL3.out,HG3.out⟩
set_option maxHeartbeats 1000000 in
set_option maxRecDepth 100000 in
theorem tok_57 {w:World} {B b f:Nat} {s:ByteArray} {x:St} (np:Bool) (last:lx.Bs) (h:LexS w B b f s x) (hx:x.str=⟨#[]⟩) (hb:x.base=0) (hin:x.at_<s.size) (hc:s[x.at_]=57) :
  Calls Tryz.prog 57 #[.pointer (some ⟨b,0,none⟩),.bool np] w (TokPost B b f s x (lx.token np last (rest s x.at_)) w):=by
 have HL:=Lib.hid h
 have SZ:=h.sz
 have hle:=h.le
 have hI:(!(inB s x.at_))=false:=by simp [inB,hin]
 have J1:Hid (bt s (x.at_+(0:Int).toNat)=57):=by show bt s (x.at_+0)=_;rw [Nat.add_zero,bt_in hin,hc];rfl
 have J9:Hid (bt s x.at_=57):=by show _=_;rw [bt_in hin,hc];rfl
 have pin0:x.at_+(0:Int).toNat<s.size:=by simpa using hin
 have HO:lx.token np last (rest s x.at_)=lx.number np (rest s x.at_):=by
  rw [rest_cons s _ hin,hc]
  rfl
 rw [HO]
 obtain ⟨o,HOO⟩:∃o,Hid (lx.number np (rest s x.at_)=o):=⟨_,rfl⟩
 rw [HOO.out]
 clear h HO
 cases o with
 | crash=>exact absurd HOO.out (number_safe np _)
 | fault =>
  go_enter Tryz.func57,Tryz.ntmps57
  go_wp2_with (first
   | (go_at_call 72;refine (eof_any HL.out.at (by omega) (by omega)).mono ?_;simp only [hI];rintro e w' ⟨rfl,n,rfl⟩)
   | (go_at_call 80;refine (peek_t _ _ (HL.out.drewN _).at (by omega) pin0 (by omega) J1).mono ?_;rintro e w' ⟨rfl,n,rfl⟩)
   | (go_at_call 81;refine (skip_t _ (HL.out.drewN _) hin J9).mono ?_;rintro e w6 ⟨rfl,hl6,hg6⟩;have HL6:=Lib.hid hl6;have HG6:=Lib.hid (grown_trans (grown_drewN (grown_refl w (some b)) _) hg6);have c1:w6.cell? ⟨b,1,none⟩=some (.string x.kind):=hl6.cell 1;have f1:w6.frozen? ⟨b,1,none⟩=false:=hl6.free 1;have d1:∀o,(w6.alloc o).cell? ⟨b,1,none⟩=some (.string x.kind):=fun o=>(hl6.below (below_alloc w6 o)).cell 1;have g1:∀o,(w6.alloc o).frozen? ⟨b,1,none⟩=false:=fun o=>(hl6.below (below_alloc w6 o)).free 1;clear hl6 hg6)
   | (go_at_call 84;refine (number_o np (HL.out.drewN _) hx hb _ HOO).mono ?_;rintro e w3 ⟨m,rfl,hm⟩;have HM:=Lib.hid hm;clear hm))
  exact ⟨rfl,Faults.trans (Grown2.of (grown_drewN (grown_refl w (some b)) _)) ⟨m,rfl,HM.out⟩⟩
 | bad len =>
  go_enter Tryz.func57,Tryz.ntmps57
  go_wp2_with (first
   | (go_at_call 72;refine (eof_any HL.out.at (by omega) (by omega)).mono ?_;simp only [hI];rintro e w' ⟨rfl,n,rfl⟩)
   | (go_at_call 80;refine (peek_t _ _ (HL.out.drewN _).at (by omega) pin0 (by omega) J1).mono ?_;rintro e w' ⟨rfl,n,rfl⟩)
   | (go_at_call 81;refine (skip_t _ (HL.out.drewN _) hin J9).mono ?_;rintro e w6 ⟨rfl,hl6,hg6⟩;have HL6:=Lib.hid hl6;have HG6:=Lib.hid (grown_trans (grown_drewN (grown_refl w (some b)) _) hg6);have c1:w6.cell? ⟨b,1,none⟩=some (.string x.kind):=hl6.cell 1;have f1:w6.frozen? ⟨b,1,none⟩=false:=hl6.free 1;have d1:∀o,(w6.alloc o).cell? ⟨b,1,none⟩=some (.string x.kind):=fun o=>(hl6.below (below_alloc w6 o)).cell 1;have g1:∀o,(w6.alloc o).frozen? ⟨b,1,none⟩=false:=fun o=>(hl6.below (below_alloc w6 o)).free 1;clear hl6 hg6)
   | (go_at_call 84;refine (number_o np (HL.out.drewN _) hx hb _ HOO).mono ?_;rintro e w3 ⟨x3,hx3,rfl,hl,hg⟩;have HX3:=Lib.hid hx3;have HL3:=Lib.hid hl;have HG3:=Lib.hid (grown_trans (grown_drewN (grown_refl w (some b)) _) hg);clear hx3 hl hg))
  (first|go_end0|go_ret)
  exact ⟨x3,HX3.out,rfl,HL3.out,HG3.out⟩
 | tok kk len text base dot =>
  go_enter Tryz.func57,Tryz.ntmps57
  go_wp2_with (first
   | (go_at_call 72;refine (eof_any HL.out.at (by omega) (by omega)).mono ?_;simp only [hI];rintro e w' ⟨rfl,n,rfl⟩)
   | (go_at_call 80;refine (peek_t _ _ (HL.out.drewN _).at (by omega) pin0 (by omega) J1).mono ?_;rintro e w' ⟨rfl,n,rfl⟩)
   | (go_at_call 81;refine (skip_t _ (HL.out.drewN _) hin J9).mono ?_;rintro e w6 ⟨rfl,hl6,hg6⟩;have HL6:=Lib.hid hl6;have HG6:=Lib.hid (grown_trans (grown_drewN (grown_refl w (some b)) _) hg6);have c1:w6.cell? ⟨b,1,none⟩=some (.string x.kind):=hl6.cell 1;have f1:w6.frozen? ⟨b,1,none⟩=false:=hl6.free 1;have d1:∀o,(w6.alloc o).cell? ⟨b,1,none⟩=some (.string x.kind):=fun o=>(hl6.below (below_alloc w6 o)).cell 1;have g1:∀o,(w6.alloc o).frozen? ⟨b,1,none⟩=false:=fun o=>(hl6.below (below_alloc w6 o)).free 1;clear hl6 hg6)
   | (go_at_call 84;refine (number_o np (HL.out.drewN _) hx hb _ HOO).mono ?_;rintro e w3 ⟨rfl,hl,hg⟩;have HL3:=Lib.hid hl;have HG3:=Lib.hid (grown_trans (grown_drewN (grown_refl w (some b)) _) hg);clear hl hg))
  (first|go_end0|go_ret)
  exact ⟨rfl,HL3.out,HG3.out⟩
set_option maxHeartbeats 1000000 in
set_option maxRecDepth 100000 in
theorem tok_46_t {w:World} {B b f:Nat} {s:ByteArray} {x:St} (np:Bool) (last:lx.Bs) (hla:x.last.data.toList=last) (h:LexS w B b f s x) (hx:x.str=⟨#[]⟩) (hb:x.base=0) (hin:x.at_<s.size) (hc:s[x.at_]=46) (hv:lx.dotKind last=true) :
  Calls Tryz.prog 57 #[.pointer (some ⟨b,0,none⟩),.bool np] w (TokPost B b f s x (lx.token np last (rest s x.at_)) w):=by
 have HL:=Lib.hid h
 have SZ:=h.sz
 have hle:=h.le
 have hI:(!(inB s x.at_))=false:=by simp [inB,hin]
 have J1:Hid (bt s (x.at_+(0:Int).toNat)=46):=by show bt s (x.at_+0)=_;rw [Nat.add_zero,bt_in hin,hc];rfl
 have J9:Hid (bt s x.at_=46):=by show _=_;rw [bt_in hin,hc];rfl
 have pin0:x.at_+(0:Int).toNat<s.size:=by simpa using hin
 have c10:∀n,(w.drewN n).cell? ⟨b,10,none⟩=some (.string x.last):=fun n=>h.cell 10
 have HV:Hid (lx.dotKind x.last.data.toList=true):=by show _=_;rw [hla];exact hv
 have HO:Hid (lx.token np last (rest s x.at_)=.tok [46] 1 [] 0 (some true)):=by
  show _=_
  rw [rest_cons s _ hin,hc,←hv]
  show (if lx.dotKind last=false∧_ then _ else _)=_
  rw [if_neg (by rw [hv];simp)]
 clear h
 go_enter Tryz.func57,Tryz.ntmps57
 go_wp2_with (first
  | (go_at_call 82;refine (dot_z _ _ _ HV).mono ?_;rintro e w' ⟨rfl,rfl⟩)
  | (go_at_call 81;refine (skip_t _ (HL.out.drewN _) hin J9).mono ?_;rintro e w6 ⟨rfl,hl6,hg6⟩;have HL6:=Lib.hid hl6;have HG6:=Lib.hid (grown_trans (grown_drewN (grown_refl w (some b)) _) hg6);have c1:w6.cell? ⟨b,1,none⟩=some (.string x.kind):=hl6.cell 1;have f1:w6.frozen? ⟨b,1,none⟩=false:=hl6.free 1;have c11:w6.cell? ⟨b,11,none⟩=some (.bool x.dot):=hl6.cell 11;have f11:w6.frozen? ⟨b,11,none⟩=false:=hl6.free 11;clear hl6 hg6)
  | (go_at_call 72;refine (eof_any HL.out.at (by omega) (by omega)).mono ?_;simp only [hI];rintro e w' ⟨rfl,n,rfl⟩)
  | (go_at_call 80;refine (peek_t _ _ (HL.out.drewN _).at (by omega) (by first|exact pin0|exact pin1) (by omega) (by first|exact J1|exact JB)).mono ?_;rintro e w' ⟨rfl,n,rfl⟩))
 (first|go_end0|go_ret)
 rw [HO.out]
 have hL:=HL6.out
 rw [St.own hx hb] at hL
 refine ⟨rfl, ?_,grown_set (grown_set HG6.out 1 _) 11 _⟩
 exact (hL.set 1 (.string ⟨([46]:List UInt8).toArray⟩) { x with kind:=⟨([46]:List UInt8).toArray⟩,at_:=x.at_+1,str:=⟨#[]⟩,base:=0 } rfl hin).set 11 (.bool true) _ rfl hin
set_option maxHeartbeats 1000000 in
set_option maxRecDepth 100000 in
theorem tok_46_o {w:World} {B b f:Nat} {s:ByteArray} {x:St} (np:Bool) (last:lx.Bs) (hla:x.last.data.toList=last) (h:LexS w B b f s x) (hx:x.str=⟨#[]⟩) (hb:x.base=0) (hin:x.at_<s.size) (hc:s[x.at_]=46) (hv:lx.dotKind last=false) (hend:¬x.at_+1<s.size) :
  Calls Tryz.prog 57 #[.pointer (some ⟨b,0,none⟩),.bool np] w (TokPost B b f s x (lx.token np last (rest s x.at_)) w):=by
 have HL:=Lib.hid h
 have SZ:=h.sz
 have hle:=h.le
 have hI:(!(inB s x.at_))=false:=by simp [inB,hin]
 have J1:Hid (bt s (x.at_+(0:Int).toNat)=46):=by show bt s (x.at_+0)=_;rw [Nat.add_zero,bt_in hin,hc];rfl
 have J9:Hid (bt s x.at_=46):=by show _=_;rw [bt_in hin,hc];rfl
 have pin0:x.at_+(0:Int).toNat<s.size:=by simpa using hin
 have c10:∀n,(w.drewN n).cell? ⟨b,10,none⟩=some (.string x.last):=fun n=>h.cell 10
 have HV:Hid (lx.dotKind x.last.data.toList=false):=by show _=_;rw [hla];exact hv
 have HO:Hid (lx.token np last (rest s x.at_)=.tok [46] 1 [] 0 (some false)):=by
  show _=_
  rw [rest_cons s _ hin,hc,←hv,rest_nil s _ hend]
  show (if lx.dotKind last=false∧_ then _ else _)=_
  rw [if_neg (by rintro ⟨_,k⟩;revert k;decide)]
 have JA:Hid (inB s (x.at_+(1:Int).toNat)=false):=by show _=_;simp [inB];omega
 clear h
 go_enter Tryz.func57,Tryz.ntmps57
 go_wp2_with (first
  | (go_at_call 82;refine (dot_z _ _ _ HV).mono ?_;rintro e w' ⟨rfl,rfl⟩)
  | (go_at_call 78;refine (peekOk_t _ _ (HL.out.drewN _).at (by omega) (by omega) (by omega) (by omega) JA).mono ?_;rintro e w' ⟨rfl,n,rfl⟩)
  | (go_at_call 81;refine (skip_t _ (HL.out.drewN _) hin J9).mono ?_;rintro e w6 ⟨rfl,hl6,hg6⟩;have HL6:=Lib.hid hl6;have HG6:=Lib.hid (grown_trans (grown_drewN (grown_refl w (some b)) _) hg6);have c1:w6.cell? ⟨b,1,none⟩=some (.string x.kind):=hl6.cell 1;have f1:w6.frozen? ⟨b,1,none⟩=false:=hl6.free 1;have c11:w6.cell? ⟨b,11,none⟩=some (.bool x.dot):=hl6.cell 11;have f11:w6.frozen? ⟨b,11,none⟩=false:=hl6.free 11;clear hl6 hg6)
  | (go_at_call 72;refine (eof_any HL.out.at (by omega) (by omega)).mono ?_;simp only [hI];rintro e w' ⟨rfl,n,rfl⟩)
  | (go_at_call 80;refine (peek_t _ _ (HL.out.drewN _).at (by omega) (by first|exact pin0|exact pin1) (by omega) (by first|exact J1|exact JB)).mono ?_;rintro e w' ⟨rfl,n,rfl⟩))
 (first|go_end0|go_ret)
 rw [HO.out]
 have hL:=HL6.out
 rw [St.own hx hb] at hL
 refine ⟨rfl, ?_,grown_set (grown_set HG6.out 1 _) 11 _⟩
 exact (hL.set 1 (.string ⟨([46]:List UInt8).toArray⟩) { x with kind:=⟨([46]:List UInt8).toArray⟩,at_:=x.at_+1,str:=⟨#[]⟩,base:=0 } rfl hin).set 11 (.bool false) _ rfl hin
set_option maxHeartbeats 1000000 in
set_option maxRecDepth 100000 in
theorem tok_46_n {w:World} {B b f:Nat} {s:ByteArray} {x:St} (np:Bool) (last:lx.Bs) (hla:x.last.data.toList=last) (h:LexS w B b f s x) (hx:x.str=⟨#[]⟩) (hb:x.base=0) (hin:x.at_<s.size) (hc:s[x.at_]=46) (hv:lx.dotKind last=false) (hend:x.at_+1<s.size) (hd:lx.dig s[x.at_+1]=false) :
  Calls Tryz.prog 57 #[.pointer (some ⟨b,0,none⟩),.bool np] w (TokPost B b f s x (lx.token np last (rest s x.at_)) w):=by
 have HL:=Lib.hid h
 have SZ:=h.sz
 have hle:=h.le
 have hI:(!(inB s x.at_))=false:=by simp [inB,hin]
 have J1:Hid (bt s (x.at_+(0:Int).toNat)=46):=by show bt s (x.at_+0)=_;rw [Nat.add_zero,bt_in hin,hc];rfl
 have J9:Hid (bt s x.at_=46):=by show _=_;rw [bt_in hin,hc];rfl
 have pin0:x.at_+(0:Int).toNat<s.size:=by simpa using hin
 have c10:∀n,(w.drewN n).cell? ⟨b,10,none⟩=some (.string x.last):=fun n=>h.cell 10
 have HV:Hid (lx.dotKind x.last.data.toList=false):=by show _=_;rw [hla];exact hv
 have HO:Hid (lx.token np last (rest s x.at_)=.tok [46] 1 [] 0 (some false)):=by
  show _=_
  rw [rest_cons s _ hin,hc,←hv,rest_cons s _ hend]
  show (if lx.dotKind last=false∧lx.dig s[x.at_+1]=true then _ else _)=_
  rw [if_neg (by rw [hd];simp)]
 have JA:Hid (inB s (x.at_+(1:Int).toNat)=true):=by show _=_;simp [inB,hend]
 have JB:Hid (bt s (x.at_+(1:Int).toNat)=(s[x.at_+1].toNat:Int)):=by show bt s (x.at_+1)=_;exact bt_in hend
 have pin1:x.at_+(1:Int).toNat<s.size:=by simpa using hend
 have JD:=dig_dec hd
 clear h hd
 generalize s[x.at_+1]=d at JB JD
 go_enter Tryz.func57,Tryz.ntmps57
 go_wp2_with (first
  | (go_at_call 82;refine (dot_z _ _ _ HV).mono ?_;rintro e w' ⟨rfl,rfl⟩)
  | (go_at_call 78;refine (peekOk_t _ _ (HL.out.drewN _).at (by omega) (by omega) (by omega) (by omega) JA).mono ?_;rintro e w' ⟨rfl,n,rfl⟩)
  | (go_at_call 83;refine (dig_z _ _ _ JD).mono ?_;rintro e w' ⟨rfl,rfl⟩)
  | (go_at_call 81;refine (skip_t _ (HL.out.drewN _) hin J9).mono ?_;rintro e w6 ⟨rfl,hl6,hg6⟩;have HL6:=Lib.hid hl6;have HG6:=Lib.hid (grown_trans (grown_drewN (grown_refl w (some b)) _) hg6);have c1:w6.cell? ⟨b,1,none⟩=some (.string x.kind):=hl6.cell 1;have f1:w6.frozen? ⟨b,1,none⟩=false:=hl6.free 1;have c11:w6.cell? ⟨b,11,none⟩=some (.bool x.dot):=hl6.cell 11;have f11:w6.frozen? ⟨b,11,none⟩=false:=hl6.free 11;clear hl6 hg6)
  | (go_at_call 72;refine (eof_any HL.out.at (by omega) (by omega)).mono ?_;simp only [hI];rintro e w' ⟨rfl,n,rfl⟩)
  | (go_at_call 80;refine (peek_t _ _ (HL.out.drewN _).at (by omega) (by first|exact pin0|exact pin1) (by omega) (by first|exact J1|exact JB)).mono ?_;rintro e w' ⟨rfl,n,rfl⟩))
 (first|go_end0|go_ret)
 rw [HO.out]
 have hL:=HL6.out
 rw [St.own hx hb] at hL
 refine ⟨rfl, ?_,grown_set (grown_set HG6.out 1 _) 11 _⟩
 exact (hL.set 1 (.string ⟨([46]:List UInt8).toArray⟩) { x with kind:=⟨([46]:List UInt8).toArray⟩,at_:=x.at_+1,str:=⟨#[]⟩,base:=0 } rfl hin).set 11 (.bool false) _ rfl hin
set_option maxHeartbeats 1000000 in
set_option maxRecDepth 100000 in
theorem tok_46_d {w:World} {B b f:Nat} {s:ByteArray} {x:St} (np:Bool) (last:lx.Bs) (hla:x.last.data.toList=last) (h:LexS w B b f s x) (hx:x.str=⟨#[]⟩) (hb:x.base=0) (hin:x.at_<s.size) (hc:s[x.at_]=46) (hv:lx.dotKind last=false) (hend:x.at_+1<s.size) (hd:lx.dig s[x.at_+1]=true) :
  Calls Tryz.prog 57 #[.pointer (some ⟨b,0,none⟩),.bool np] w (TokPost B b f s x (lx.token np last (rest s x.at_)) w):=by
 have HL:=Lib.hid h
 have SZ:=h.sz
 have hle:=h.le
 have hI:(!(inB s x.at_))=false:=by simp [inB,hin]
 have J1:Hid (bt s (x.at_+(0:Int).toNat)=46):=by show bt s (x.at_+0)=_;rw [Nat.add_zero,bt_in hin,hc];rfl
 have J9:Hid (bt s x.at_=46):=by show _=_;rw [bt_in hin,hc];rfl
 have pin0:x.at_+(0:Int).toNat<s.size:=by simpa using hin
 have c10:∀n,(w.drewN n).cell? ⟨b,10,none⟩=some (.string x.last):=fun n=>h.cell 10
 have HV:Hid (lx.dotKind x.last.data.toList=false):=by show _=_;rw [hla];exact hv
 have HO:lx.token np last (rest s x.at_)=lx.number np (rest s x.at_):=by
  rw [rest_cons s _ hin,hc,rest_cons s _ hend]
  show (if lx.dotKind last=false∧lx.dig s[x.at_+1]=true then _ else _)=_
  rw [if_pos ⟨hv,hd⟩]
 rw [HO]
 obtain ⟨o,HOO⟩:∃o,Hid (lx.number np (rest s x.at_)=o):=⟨_,rfl⟩
 rw [HOO.out]
 have JA:Hid (inB s (x.at_+(1:Int).toNat)=true):=by show _=_;simp [inB,hend]
 have JB:Hid (bt s (x.at_+(1:Int).toNat)=(s[x.at_+1].toNat:Int)):=by show bt s (x.at_+1)=_;exact bt_in hend
 have pin1:x.at_+(1:Int).toNat<s.size:=by simpa using hend
 have JD:=dig_dec hd
 clear h HO hd
 generalize s[x.at_+1]=d at JB JD
 cases o with
 | crash=>exact absurd HOO.out (number_safe np _)
 | fault =>
  go_enter Tryz.func57,Tryz.ntmps57
  go_wp2_with (first
   | (go_at_call 82;refine (dot_z _ _ _ HV).mono ?_;rintro e w' ⟨rfl,rfl⟩)
   | (go_at_call 78;refine (peekOk_t _ _ (HL.out.drewN _).at (by omega) (by omega) (by omega) (by omega) JA).mono ?_;rintro e w' ⟨rfl,n,rfl⟩)
   | (go_at_call 83;refine (dig_z _ _ _ JD).mono ?_;rintro e w' ⟨rfl,rfl⟩)
   | (go_at_call 72;refine (eof_any HL.out.at (by omega) (by omega)).mono ?_;simp only [hI];rintro e w' ⟨rfl,n,rfl⟩)
   | (go_at_call 80;refine (peek_t _ _ (HL.out.drewN _).at (by omega) (by first|exact pin0|exact pin1) (by omega) (by first|exact J1|exact JB)).mono ?_;rintro e w' ⟨rfl,n,rfl⟩)
   | (go_at_call 84;refine (number_o np (HL.out.drewN _) hx hb _ HOO).mono ?_;rintro e w3 ⟨m,rfl,hm⟩;have HM:=Lib.hid hm;clear hm))
  exact ⟨rfl,Faults.trans (Grown2.of (grown_drewN (grown_refl w (some b)) _)) ⟨m,rfl,HM.out⟩⟩
 | bad len =>
  go_enter Tryz.func57,Tryz.ntmps57
  go_wp2_with (first
   | (go_at_call 82;refine (dot_z _ _ _ HV).mono ?_;rintro e w' ⟨rfl,rfl⟩)
   | (go_at_call 78;refine (peekOk_t _ _ (HL.out.drewN _).at (by omega) (by omega) (by omega) (by omega) JA).mono ?_;rintro e w' ⟨rfl,n,rfl⟩)
   | (go_at_call 83;refine (dig_z _ _ _ JD).mono ?_;rintro e w' ⟨rfl,rfl⟩)
   | (go_at_call 72;refine (eof_any HL.out.at (by omega) (by omega)).mono ?_;simp only [hI];rintro e w' ⟨rfl,n,rfl⟩)
   | (go_at_call 80;refine (peek_t _ _ (HL.out.drewN _).at (by omega) (by first|exact pin0|exact pin1) (by omega) (by first|exact J1|exact JB)).mono ?_;rintro e w' ⟨rfl,n,rfl⟩)
   | (go_at_call 84;refine (number_o np (HL.out.drewN _) hx hb _ HOO).mono ?_;rintro e w3 ⟨x3,hx3,rfl,hl,hg⟩;have HX3:=Lib.hid hx3;have HL3:=Lib.hid hl;have HG3:=Lib.hid (grown_trans (grown_drewN (grown_refl w (some b)) _) hg);clear hx3 hl hg))
  (first|go_end0|go_ret)
  exact ⟨x3,HX3.out,rfl,HL3.out,HG3.out⟩
 | tok kk len text base dot =>
  go_enter Tryz.func57,Tryz.ntmps57
  go_wp2_with (first
   | (go_at_call 82;refine (dot_z _ _ _ HV).mono ?_;rintro e w' ⟨rfl,rfl⟩)
   | (go_at_call 78;refine (peekOk_t _ _ (HL.out.drewN _).at (by omega) (by omega) (by omega) (by omega) JA).mono ?_;rintro e w' ⟨rfl,n,rfl⟩)
   | (go_at_call 83;refine (dig_z _ _ _ JD).mono ?_;rintro e w' ⟨rfl,rfl⟩)
   | (go_at_call 72;refine (eof_any HL.out.at (by omega) (by omega)).mono ?_;simp only [hI];rintro e w' ⟨rfl,n,rfl⟩)
   | (go_at_call 80;refine (peek_t _ _ (HL.out.drewN _).at (by omega) (by first|exact pin0|exact pin1) (by omega) (by first|exact J1|exact JB)).mono ?_;rintro e w' ⟨rfl,n,rfl⟩)
   | (go_at_call 84;refine (number_o np (HL.out.drewN _) hx hb _ HOO).mono ?_;rintro e w3 ⟨rfl,hl,hg⟩;have HL3:=Lib.hid hl;have HG3:=Lib.hid (grown_trans (grown_drewN (grown_refl w (some b)) _) hg);clear hl hg))
  (first|go_end0|go_ret)
  exact ⟨rfl,HL3.out,HG3.out⟩
theorem tok_46 {w:World} {B b f:Nat} {s:ByteArray} {x:St} (np:Bool) (last:lx.Bs) (hla:x.last.data.toList=last) (h:LexS w B b f s x) (hx:x.str=⟨#[]⟩) (hb:x.base=0) (hin:x.at_<s.size) (hc:s[x.at_]=46) :
  Calls Tryz.prog 57 #[.pointer (some ⟨b,0,none⟩),.bool np] w (TokPost B b f s x (lx.token np last (rest s x.at_)) w):=by
 cases hv:lx.dotKind last
 ·by_cases hend:x.at_+1<s.size
  ·cases hd:lx.dig s[x.at_+1]
   ·exact tok_46_n np last hla h hx hb hin hc hv hend hd
   ·exact tok_46_d np last hla h hx hb hin hc hv hend hd
  ·exact tok_46_o np last hla h hx hb hin hc hv hend
 ·exact tok_46_t np last hla h hx hb hin hc hv
end Go.Proofs.YtaamolahbkgofaaGreatDoor.lex
