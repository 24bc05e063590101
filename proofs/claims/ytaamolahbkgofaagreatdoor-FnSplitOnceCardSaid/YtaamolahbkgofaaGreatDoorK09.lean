/-
  The lexer's consumeToken: the text's end, and signs of one byte. Conditions: in its statements.
-/
import Derived.Test.YtaamolahbkgofaaGreatDoorK03
set_option linter.unusedVariables false
namespace Go.Proofs.YtaamolahbkgofaaGreatDoor.lex
open Go.RowKit mem lines
theorem peekOk_t {w:World} {b f p:Nat} {s:ByteArray} (z:Int) (v:Bool) (h:At w b f s p) (hs:s.size≤1000000) (hp:p≤1000000) (h0:0≤z) (hi:z≤1000000) (hv:Hid (inB s (p+z.toNat)=v)) :
  Calls Tryz.prog 78 #[.pointer (some ⟨b,0,none⟩),.int .i64 z] w fun e w'=>e=.returned (.bool v)∧∃n,w'=w.drewN n:=by
 obtain ⟨n,rfl⟩:=Int.eq_ofNat_of_zero_le h0
 have e:=hv.out
 rw [←e]
 exact peekOk_any n h hs hp (by omega)
theorem peek_t {w:World} {b f p:Nat} {s:ByteArray} (z c:Int) (h:At w b f s p) (h0:0≤z) (hi:p+z.toNat<s.size) (hs:s.size≤1000000) (hc:Hid (bt s (p+z.toNat)=c)) :
  Calls Tryz.prog 80 #[.pointer (some ⟨b,0,none⟩),.int .i64 z] w fun e w'=>e=.returned (.int .u8 c)∧∃n,w'=w.drewN n :=
 peek_named z.toNat z c h hi hs (by omega) hc
theorem skip_t {w:World} {B b f:Nat} {s:ByteArray} {x:St} (c:Int) (h:LexS w B b f s x) (hp:x.at_<s.size) (hc:Hid (bt s x.at_=c)) :
  Calls Tryz.prog 81 #[.pointer (some ⟨b,0,none⟩)] w fun e w'=>e=.returned (.int .u8 c)∧LexS w' B b f s { x with at_:=x.at_+1 }∧w.grownBy w' (some b):=by
 have sz:=h.sz
 refine (skip_any h.at (h.free 9) (by omega) hp).mono fun e w' ⟨he,n,hw⟩=>⟨by rw [he,hc.out], ?_, ?_⟩
 ·rw [hw]
  exact (h.drewN n).set 9 _ _ rfl (by simp;omega)
 ·rw [hw]
  exact grown_set (grown_drewN (grown_refl w (some b)) n) 9 _
theorem St.own {x:St} (hx:x.str=⟨#[]⟩) (hb:x.base=0):x={ x with str:=⟨#[]⟩,base:=0 }:=by
 cases x
 simp_all
theorem kind_one (W:World) (c:UInt8):(convert 37 59 (.slice (some ⟨W.heap.size,0,none⟩) 1 1)).run Tryz.prog (W.alloc (.cells #[.int .u8 (c.toNat:Int)] 5))=.ok (.string ⟨#[c]⟩) (W.alloc (.cells #[.int .u8 (c.toNat:Int)] 5)):=by
 refine run_convert_bytes_back _ 37 59 5 ⟨W.heap.size,0,none⟩ 1 [c] Tryz.underlying37 Tryz.underlying5 Tryz.underlying59 fun j hj=>?_
 have hj0:j=0:=by simp at hj;omega
 subst hj0
 exact new_cell W _ c rfl 0 _ rfl
set_option maxHeartbeats 1000000 in
set_option maxRecDepth 100000 in
theorem tok_eof {w:World} {B b f:Nat} {s:ByteArray} {x:St} (np:Bool) (last:lx.Bs) (h:LexS w B b f s x) (hx:x.str=⟨#[]⟩) (hb:x.base=0) (hin:¬x.at_<s.size) :
  Calls Tryz.prog 57 #[.pointer (some ⟨b,0,none⟩),.bool np] w (TokPost B b f s x (lx.token np last (rest s x.at_)) w):=by
 have HL:=Lib.hid h
 have SZ:=h.sz
 have hle:=h.le
 have c1:w.cell? ⟨b,1,none⟩=some (.string x.kind):=h.cell 1
 have f1:w.frozen? ⟨b,1,none⟩=false:=h.free 1
 have hI:(!(inB s x.at_))=true:=by simp [inB,hin]
 rw [rest_nil s _ hin]
 clear h
 go_enter Tryz.func57,Tryz.ntmps57
 go_wp2_with (go_at_call 72;refine (eof_any HL.out.at (by omega) (by omega)).mono ?_;simp only [hI];rintro e w' ⟨rfl,n,rfl⟩)
 (first|go_end0|go_ret)
 have hL:=HL.out
 rw [St.own hx hb] at hL
 refine ⟨rfl, ?_,grown_set (grown_drewN (grown_refl w (some b)) _) 1 _⟩
 exact (hL.drewN n).set 1 (.string ⟨lx.kEof.toArray⟩) _ rfl hle
set_option maxHeartbeats 1000000 in
set_option maxRecDepth 100000 in
theorem tok_40 {w:World} {B b f:Nat} {s:ByteArray} {x:St} (np:Bool) (last:lx.Bs) (h:LexS w B b f s x) (hx:x.str=⟨#[]⟩) (hb:x.base=0) (hin:x.at_<s.size) (hc:s[x.at_]=40) :
  Calls Tryz.prog 57 #[.pointer (some ⟨b,0,none⟩),.bool np] w (TokPost B b f s x (lx.token np last (rest s x.at_)) w):=by
 have HL:=Lib.hid h
 have SZ:=h.sz
 have hle:=h.le
 have hI:(!(inB s x.at_))=false:=by simp [inB,hin]
 have J1:Hid (bt s (x.at_+(0:Int).toNat)=40):=by show bt s (x.at_+0)=_;rw [Nat.add_zero,bt_in hin,hc];rfl
 have J9:Hid (bt s x.at_=40):=by show _=_;rw [bt_in hin,hc];rfl
 have pin0:x.at_+(0:Int).toNat<s.size:=by simpa using hin
 have HO:Hid (lx.token np last (rest s x.at_)=.tok [40] 1 [] 0 none):=by
  show _=_
  rw [rest_cons s _ hin,hc]
  unfold lx.token
  simp only
  rw [if_pos (by decide)]
 have hkind:∀W:World,(convert 37 59 (.slice (some ⟨W.heap.size,0,none⟩) 1 1)).run Tryz.prog (W.alloc (.cells #[.int .u8 40] 5))=.ok (.string ⟨#[40]⟩) (W.alloc (.cells #[.int .u8 40] 5)):=fun W=>kind_one W 40
 clear h
 go_enter Tryz.func57,Tryz.ntmps57
 go_wp2_with (first
  | (go_at_call 72;refine (eof_any HL.out.at (by omega) (by omega)).mono ?_;simp only [hI];rintro e w' ⟨rfl,n,rfl⟩)
  | (go_at_call 80;refine (peek_t _ _ (HL.out.drewN _).at (by omega) pin0 (by omega) J1).mono ?_;rintro e w' ⟨rfl,n,rfl⟩)
  | (go_at_call 81;refine (skip_t _ (HL.out.drewN _) hin J9).mono ?_;rintro e w6 ⟨rfl,hl6,hg6⟩;have HL6:=Lib.hid hl6;have HG6:=Lib.hid (grown_trans (grown_drewN (grown_refl w (some b)) _) hg6);have c1:w6.cell? ⟨b,1,none⟩=some (.string x.kind):=hl6.cell 1;have f1:w6.frozen? ⟨b,1,none⟩=false:=hl6.free 1;have d1:∀o,(w6.alloc o).cell? ⟨b,1,none⟩=some (.string x.kind):=fun o=>(hl6.below (below_alloc w6 o)).cell 1;have g1:∀o,(w6.alloc o).frozen? ⟨b,1,none⟩=false:=fun o=>(hl6.below (below_alloc w6 o)).free 1;clear hl6 hg6))
 (first|go_end0|go_ret)
 rw [HO.out]
 have hL:=HL6.out
 rw [St.own hx hb] at hL
 refine ⟨rfl, ?_,grown_set (grown_trans HG6.out (grown_below (below_alloc w6 _) _)) 1 _⟩
 exact (hL.below (below_alloc w6 _)).set 1 (.string ⟨([40]:List UInt8).toArray⟩) _ rfl hin
set_option maxHeartbeats 1000000 in
set_option maxRecDepth 100000 in
theorem tok_41 {w:World} {B b f:Nat} {s:ByteArray} {x:St} (np:Bool) (last:lx.Bs) (h:LexS w B b f s x) (hx:x.str=⟨#[]⟩) (hb:x.base=0) (hin:x.at_<s.size) (hc:s[x.at_]=41) :
  Calls Tryz.prog 57 #[.pointer (some ⟨b,0,none⟩),.bool np] w (TokPost B b f s x (lx.token np last (rest s x.at_)) w):=by
 have HL:=Lib.hid h
 have SZ:=h.sz
 have hle:=h.le
 have hI:(!(inB s x.at_))=false:=by simp [inB,hin]
 have J1:Hid (bt s (x.at_+(0:Int).toNat)=41):=by show bt s (x.at_+0)=_;rw [Nat.add_zero,bt_in hin,hc];rfl
 have J9:Hid (bt s x.at_=41):=by show _=_;rw [bt_in hin,hc];rfl
 have pin0:x.at_+(0:Int).toNat<s.size:=by simpa using hin
 have HO:Hid (lx.token np last (rest s x.at_)=.tok [41] 1 [] 0 none):=by
  show _=_
  rw [rest_cons s _ hin,hc]
  unfold lx.token
  simp only
  rw [if_pos (by decide)]
 have hkind:∀W:World,(convert 37 59 (.slice (some ⟨W.heap.size,0,none⟩) 1 1)).run Tryz.prog (W.alloc (.cells #[.int .u8 41] 5))=.ok (.string ⟨#[41]⟩) (W.alloc (.cells #[.int .u8 41] 5)):=fun W=>kind_one W 41
 clear h
 go_enter Tryz.func57,Tryz.ntmps57
 go_wp2_with (first
  | (go_at_call 72;refine (eof_any HL.out.at (by omega) (by omega)).mono ?_;simp only [hI];rintro e w' ⟨rfl,n,rfl⟩)
  | (go_at_call 80;refine (peek_t _ _ (HL.out.drewN _).at (by omega) pin0 (by omega) J1).mono ?_;rintro e w' ⟨rfl,n,rfl⟩)
  | (go_at_call 81;refine (skip_t _ (HL.out.drewN _) hin J9).mono ?_;rintro e w6 ⟨rfl,hl6,hg6⟩;have HL6:=Lib.hid hl6;have HG6:=Lib.hid (grown_trans (grown_drewN (grown_refl w (some b)) _) hg6);have c1:w6.cell? ⟨b,1,none⟩=some (.string x.kind):=hl6.cell 1;have f1:w6.frozen? ⟨b,1,none⟩=false:=hl6.free 1;have d1:∀o,(w6.alloc o).cell? ⟨b,1,none⟩=some (.string x.kind):=fun o=>(hl6.below (below_alloc w6 o)).cell 1;have g1:∀o,(w6.alloc o).frozen? ⟨b,1,none⟩=false:=fun o=>(hl6.below (below_alloc w6 o)).free 1;clear hl6 hg6))
 (first|go_end0|go_ret)
 rw [HO.out]
 have hL:=HL6.out
 rw [St.own hx hb] at hL
 refine ⟨rfl, ?_,grown_set (grown_trans HG6.out (grown_below (below_alloc w6 _) _)) 1 _⟩
 exact (hL.below (below_alloc w6 _)).set 1 (.string ⟨([41]:List UInt8).toArray⟩) _ rfl hin
set_option maxHeartbeats 1000000 in
set_option maxRecDepth 100000 in
theorem tok_123 {w:World} {B b f:Nat} {s:ByteArray} {x:St} (np:Bool) (last:lx.Bs) (h:LexS w B b f s x) (hx:x.str=⟨#[]⟩) (hb:x.base=0) (hin:x.at_<s.size) (hc:s[x.at_]=123) :
  Calls Tryz.prog 57 #[.pointer (some ⟨b,0,none⟩),.bool np] w (TokPost B b f s x (lx.token np last (rest s x.at_)) w):=by
 have HL:=Lib.hid h
 have SZ:=h.sz
 have hle:=h.le
 have hI:(!(inB s x.at_))=false:=by simp [inB,hin]
 have J1:Hid (bt s (x.at_+(0:Int).toNat)=123):=by show bt s (x.at_+0)=_;rw [Nat.add_zero,bt_in hin,hc];rfl
 have J9:Hid (bt s x.at_=123):=by show _=_;rw [bt_in hin,hc];rfl
 have pin0:x.at_+(0:Int).toNat<s.size:=by simpa using hin
 have HO:Hid (lx.token np last (rest s x.at_)=.tok [123] 1 [] 0 none):=by
  show _=_
  rw [rest_cons s _ hin,hc]
  unfold lx.token
  simp only
  rw [if_pos (by decide)]
 have hkind:∀W:World,(convert 37 59 (.slice (some ⟨W.heap.size,0,none⟩) 1 1)).run Tryz.prog (W.alloc (.cells #[.int .u8 123] 5))=.ok (.string ⟨#[123]⟩) (W.alloc (.cells #[.int .u8 123] 5)):=fun W=>kind_one W 123
 clear h
 go_enter Tryz.func57,Tryz.ntmps57
 go_wp2_with (first
  | (go_at_call 72;refine (eof_any HL.out.at (by omega) (by omega)).mono ?_;simp only [hI];rintro e w' ⟨rfl,n,rfl⟩)
  | (go_at_call 80;refine (peek_t _ _ (HL.out.drewN _).at (by omega) pin0 (by omega) J1).mono ?_;rintro e w' ⟨rfl,n,rfl⟩)
  | (go_at_call 81;refine (skip_t _ (HL.out.drewN _) hin J9).mono ?_;rintro e w6 ⟨rfl,hl6,hg6⟩;have HL6:=Lib.hid hl6;have HG6:=Lib.hid (grown_trans (grown_drewN (grown_refl w (some b)) _) hg6);have c1:w6.cell? ⟨b,1,none⟩=some (.string x.kind):=hl6.cell 1;have f1:w6.frozen? ⟨b,1,none⟩=false:=hl6.free 1;have d1:∀o,(w6.alloc o).cell? ⟨b,1,none⟩=some (.string x.kind):=fun o=>(hl6.below (below_alloc w6 o)).cell 1;have g1:∀o,(w6.alloc o).frozen? ⟨b,1,none⟩=false:=fun o=>(hl6.below (below_alloc w6 o)).free 1;clear hl6 hg6))
 (first|go_end0|go_ret)
 rw [HO.out]
 have hL:=HL6.out
 rw [St.own hx hb] at hL
 refine ⟨rfl, ?_,grown_set (grown_trans HG6.out (grown_below (below_alloc w6 _) _)) 1 _⟩
 exact (hL.below (below_alloc w6 _)).set 1 (.string ⟨([123]:List UInt8).toArray⟩) _ rfl hin
set_option maxHeartbeats 1000000 in
set_option maxRecDepth 100000 in
theorem tok_125 {w:World} {B b f:Nat} {s:ByteArray} {x:St} (np:Bool) (last:lx.Bs) (h:LexS w B b f s x) (hx:x.str=⟨#[]⟩) (hb:x.base=0) (hin:x.at_<s.size) (hc:s[x.at_]=125) :
  Calls Tryz.prog 57 #[.pointer (some ⟨b,0,none⟩),.bool np] w (TokPost B b f s x (lx.token np last (rest s x.at_)) w):=by
 have HL:=Lib.hid h
 have SZ:=h.sz
 have hle:=h.le
 have hI:(!(inB s x.at_))=false:=by simp [inB,hin]
 have J1:Hid (bt s (x.at_+(0:Int).toNat)=125):=by show bt s (x.at_+0)=_;rw [Nat.add_zero,bt_in hin,hc];rfl
 have J9:Hid (bt s x.at_=125):=by show _=_;rw [bt_in hin,hc];rfl
 have pin0:x.at_+(0:Int).toNat<s.size:=by simpa using hin
 have HO:Hid (lx.token np last (rest s x.at_)=.tok [125] 1 [] 0 none):=by
  show _=_
  rw [rest_cons s _ hin,hc]
  unfold lx.token
  simp only
  rw [if_pos (by decide)]
 have hkind:∀W:World,(convert 37 59 (.slice (some ⟨W.heap.size,0,none⟩) 1 1)).run Tryz.prog (W.alloc (.cells #[.int .u8 125] 5))=.ok (.string ⟨#[125]⟩) (W.alloc (.cells #[.int .u8 125] 5)):=fun W=>kind_one W 125
 clear h
 go_enter Tryz.func57,Tryz.ntmps57
 go_wp2_with (first
  | (go_at_call 72;refine (eof_any HL.out.at (by omega) (by omega)).mono ?_;simp only [hI];rintro e w' ⟨rfl,n,rfl⟩)
  | (go_at_call 80;refine (peek_t _ _ (HL.out.drewN _).at (by omega) pin0 (by omega) J1).mono ?_;rintro e w' ⟨rfl,n,rfl⟩)
  | (go_at_call 81;refine (skip_t _ (HL.out.drewN _) hin J9).mono ?_;rintro e w6 ⟨rfl,hl6,hg6⟩;have HL6:=Lib.hid hl6;have HG6:=Lib.hid (grown_trans (grown_drewN (grown_refl w (some b)) _) hg6);have c1:w6.cell? ⟨b,1,none⟩=some (.string x.kind):=hl6.cell 1;have f1:w6.frozen? ⟨b,1,none⟩=false:=hl6.free 1;have d1:∀o,(w6.alloc o).cell? ⟨b,1,none⟩=some (.string x.kind):=fun o=>(hl6.below (below_alloc w6 o)).cell 1;have g1:∀o,(w6.alloc o).frozen? ⟨b,1,none⟩=false:=fun o=>(hl6.below (below_alloc w6 o)).free 1;clear hl6 hg6))
 (first|go_end0|go_ret)
 rw [HO.out]
 have hL:=HL6.out
 rw [St.own hx hb] at hL
 refine ⟨rfl, ?_,grown_set (grown_trans HG6.out (grown_below (below_alloc w6 _) _)) 1 _⟩
 exact (hL.below (below_alloc w6 _)).set 1 (.string ⟨([125]:List UInt8).toArray⟩) _ rfl hin
set_option maxHeartbeats 1000000 in
set_option maxRecDepth 100000 in
theorem tok_59 {w:World} {B b f:Nat} {s:ByteArray} {x:St} (np:Bool) (last:lx.Bs) (h:LexS w B b f s x) (hx:x.str=⟨#[]⟩) (hb:x.base=0) (hin:x.at_<s.size) (hc:s[x.at_]=59) :
  Calls Tryz.prog 57 #[.pointer (some ⟨b,0,none⟩),.bool np] w (TokPost B b f s x (lx.token np last (rest s x.at_)) w):=by
 have HL:=Lib.hid h
 have SZ:=h.sz
 have hle:=h.le
 have hI:(!(inB s x.at_))=false:=by simp [inB,hin]
 have J1:Hid (bt s (x.at_+(0:Int).toNat)=59):=by show bt s (x.at_+0)=_;rw [Nat.add_zero,bt_in hin,hc];rfl
 have J9:Hid (bt s x.at_=59):=by show _=_;rw [bt_in hin,hc];rfl
 have pin0:x.at_+(0:Int).toNat<s.size:=by simpa using hin
 have HO:Hid (lx.token np last (rest s x.at_)=.tok [59] 1 [] 0 none):=by
  show _=_
  rw [rest_cons s _ hin,hc]
  unfold lx.token
  simp only
  rw [if_pos (by decide)]
 have hkind:∀W:World,(convert 37 59 (.slice (some ⟨W.heap.size,0,none⟩) 1 1)).run Tryz.prog (W.alloc (.cells #[.int .u8 59] 5))=.ok (.string ⟨#[59]⟩) (W.alloc (.cells #[.int .u8 59] 5)):=fun W=>kind_one W 59
 clear h
 go_enter Tryz.func57,Tryz.ntmps57
 go_wp2_with (first
  | (go_at_call 72;refine (eof_any HL.out.at (by omega) (by omega)).mono ?_;simp only [hI];rintro e w' ⟨rfl,n,rfl⟩)
  | (go_at_call 80;refine (peek_t _ _ (HL.out.drewN _).at (by omega) pin0 (by omega) J1).mono ?_;rintro e w' ⟨rfl,n,rfl⟩)
  | (go_at_call 81;refine (skip_t _ (HL.out.drewN _) hin J9).mono ?_;rintro e w6 ⟨rfl,hl6,hg6⟩;have HL6:=Lib.hid hl6;have HG6:=Lib.hid (grown_trans (grown_drewN (grown_refl w (some b)) _) hg6);have c1:w6.cell? ⟨b,1,none⟩=some (.string x.kind):=hl6.cell 1;have f1:w6.frozen? ⟨b,1,none⟩=false:=hl6.free 1;have d1:∀o,(w6.alloc o).cell? ⟨b,1,none⟩=some (.string x.kind):=fun o=>(hl6.below (below_alloc w6 o)).cell 1;have g1:∀o,(w6.alloc o).frozen? ⟨b,1,none⟩=false:=fun o=>(hl6.below (below_alloc w6 o)).free 1;clear hl6 hg6))
 (first|go_end0|go_ret)
 rw [HO.out]
 have hL:=HL6.out
 rw [St.own hx hb] at hL
 refine ⟨rfl, ?_,grown_set (grown_trans HG6.out (grown_below (below_alloc w6 _) _)) 1 _⟩
 exact (hL.below (below_alloc w6 _)).set 1 (.string ⟨([59]:List UInt8).toArray⟩) _ rfl hin
set_option maxHeartbeats 1000000 in
set_option maxRecDepth 100000 in
theorem tok_44 {w:World} {B b f:Nat} {s:ByteArray} {x:St} (np:Bool) (last:lx.Bs) (h:LexS w B b f s x) (hx:x.str=⟨#[]⟩) (hb:x.base=0) (hin:x.at_<s.size) (hc:s[x.at_]=44) :
  Calls Tryz.prog 57 #[.pointer (some ⟨b,0,none⟩),.bool np] w (TokPost B b f s x (lx.token np last (rest s x.at_)) w):=by
 have HL:=Lib.hid h
 have SZ:=h.sz
 have hle:=h.le
 have hI:(!(inB s x.at_))=false:=by simp [inB,hin]
 have J1:Hid (bt s (x.at_+(0:Int).toNat)=44):=by show bt s (x.at_+0)=_;rw [Nat.add_zero,bt_in hin,hc];rfl
 have J9:Hid (bt s x.at_=44):=by show _=_;rw [bt_in hin,hc];rfl
 have pin0:x.at_+(0:Int).toNat<s.size:=by simpa using hin
 have HO:Hid (lx.token np last (rest s x.at_)=.tok [44] 1 [] 0 none):=by
  show _=_
  rw [rest_cons s _ hin,hc]
  unfold lx.token
  simp only
  rw [if_pos (by decide)]
 have hkind:∀W:World,(convert 37 59 (.slice (some ⟨W.heap.size,0,none⟩) 1 1)).run Tryz.prog (W.alloc (.cells #[.int .u8 44] 5))=.ok (.string ⟨#[44]⟩) (W.alloc (.cells #[.int .u8 44] 5)):=fun W=>kind_one W 44
 clear h
 go_enter Tryz.func57,Tryz.ntmps57
 go_wp2_with (first
  | (go_at_call 72;refine (eof_any HL.out.at (by omega) (by omega)).mono ?_;simp only [hI];rintro e w' ⟨rfl,n,rfl⟩)
  | (go_at_call 80;refine (peek_t _ _ (HL.out.drewN _).at (by omega) pin0 (by omega) J1).mono ?_;rintro e w' ⟨rfl,n,rfl⟩)
  | (go_at_call 81;refine (skip_t _ (HL.out.drewN _) hin J9).mono ?_;rintro e w6 ⟨rfl,hl6,hg6⟩;have HL6:=Lib.hid hl6;have HG6:=Lib.hid (grown_trans (grown_drewN (grown_refl w (some b)) _) hg6);have c1:w6.cell? ⟨b,1,none⟩=some (.string x.kind):=hl6.cell 1;have f1:w6.frozen? ⟨b,1,none⟩=false:=hl6.free 1;have d1:∀o,(w6.alloc o).cell? ⟨b,1,none⟩=some (.string x.kind):=fun o=>(hl6.below (below_alloc w6 o)).cell 1;have g1:∀o,(w6.alloc o).frozen? ⟨b,1,none⟩=false:=fun o=>(hl6.below (below_alloc w6 o)).free 1;clear hl6 hg6))
 (first|go_end0|go_ret)
 rw [HO.out]
 have hL:=HL6.out
 rw [St.own hx hb] at hL
 refine ⟨rfl, ?_,grown_set (grown_trans HG6.out (grown_below (below_alloc w6 _) _)) 1 _⟩
 exact (hL.below (below_alloc w6 _)).set 1 (.string ⟨([44]:List UInt8).toArray⟩) _ rfl hin
set_option maxHeartbeats 1000000 in
set_option maxRecDepth 100000 in
theorem tok_91 {w:World} {B b f:Nat} {s:ByteArray} {x:St} (np:Bool) (last:lx.Bs) (h:LexS w B b f s x) (hx:x.str=⟨#[]⟩) (hb:x.base=0) (hin:x.at_<s.size) (hc:s[x.at_]=91) :
  Calls Tryz.prog 57 #[.pointer (some ⟨b,0,none⟩),.bool np] w (TokPost B b f s x (lx.token np last (rest s x.at_)) w):=by
 have HL:=Lib.hid h
 have SZ:=h.sz
 have hle:=h.le
 have hI:(!(inB s x.at_))=false:=by simp [inB,hin]
 have J1:Hid (bt s (x.at_+(0:Int).toNat)=91):=by show bt s (x.at_+0)=_;rw [Nat.add_zero,bt_in hin,hc];rfl
 have J9:Hid (bt s x.at_=91):=by show _=_;rw [bt_in hin,hc];rfl
 have pin0:x.at_+(0:Int).toNat<s.size:=by simpa using hin
 have HO:Hid (lx.token np last (rest s x.at_)=.tok [91] 1 [] 0 none):=by
  show _=_
  rw [rest_cons s _ hin,hc]
  unfold lx.token
  simp only
  rw [if_pos (by decide)]
 have hkind:∀W:World,(convert 37 59 (.slice (some ⟨W.heap.size,0,none⟩) 1 1)).run Tryz.prog (W.alloc (.cells #[.int .u8 91] 5))=.ok (.string ⟨#[91]⟩) (W.alloc (.cells #[.int .u8 91] 5)):=fun W=>kind_one W 91
 clear h
 go_enter Tryz.func57,Tryz.ntmps57
 go_wp2_with (first
  | (go_at_call 72;refine (eof_any HL.out.at (by omega) (by omega)).mono ?_;simp only [hI];rintro e w' ⟨rfl,n,rfl⟩)
  | (go_at_call 80;refine (peek_t _ _ (HL.out.drewN _).at (by omega) pin0 (by omega) J1).mono ?_;rintro e w' ⟨rfl,n,rfl⟩)
  | (go_at_call 81;refine (skip_t _ (HL.out.drewN _) hin J9).mono ?_;rintro e w6 ⟨rfl,hl6,hg6⟩;have HL6:=Lib.hid hl6;have HG6:=Lib.hid (grown_trans (grown_drewN (grown_refl w (some b)) _) hg6);have c1:w6.cell? ⟨b,1,none⟩=some (.string x.kind):=hl6.cell 1;have f1:w6.frozen? ⟨b,1,none⟩=false:=hl6.free 1;have d1:∀o,(w6.alloc o).cell? ⟨b,1,none⟩=some (.string x.kind):=fun o=>(hl6.below (below_alloc w6 o)).cell 1;have g1:∀o,(w6.alloc o).frozen? ⟨b,1,none⟩=false:=fun o=>(hl6.below (below_alloc w6 o)).free 1;clear hl6 hg6))
 (first|go_end0|go_ret)
 rw [HO.out]
 have hL:=HL6.out
 rw [St.own hx hb] at hL
 refine ⟨rfl, ?_,grown_set (grown_trans HG6.out (grown_below (below_alloc w6 _) _)) 1 _⟩
 exact (hL.below (below_alloc w6 _)).set 1 (.string ⟨([91]:List UInt8).toArray⟩) _ rfl hin
set_option maxHeartbeats 1000000 in
set_option maxRecDepth 100000 in
theorem tok_93 {w:World} {B b f:Nat} {s:ByteArray} {x:St} (np:Bool) (last:lx.Bs) (h:LexS w B b f s x) (hx:x.str=⟨#[]⟩) (hb:x.base=0) (hin:x.at_<s.size) (hc:s[x.at_]=93) :
  Calls Tryz.prog 57 #[.pointer (some ⟨b,0,none⟩),.bool np] w (TokPost B b f s x (lx.token np last (rest s x.at_)) w):=by
 have HL:=Lib.hid h
 have SZ:=h.sz
 have hle:=h.le
 have hI:(!(inB s x.at_))=false:=by simp [inB,hin]
 have J1:Hid (bt s (x.at_+(0:Int).toNat)=93):=by show bt s (x.at_+0)=_;rw [Nat.add_zero,bt_in hin,hc];rfl
 have J9:Hid (bt s x.at_=93):=by show _=_;rw [bt_in hin,hc];rfl
 have pin0:x.at_+(0:Int).toNat<s.size:=by simpa using hin
 have HO:Hid (lx.token np last (rest s x.at_)=.tok [93] 1 [] 0 none):=by
  show _=_
  rw [rest_cons s _ hin,hc]
  unfold lx.token
  simp only
  rw [if_pos (by decide)]
 have hkind:∀W:World,(convert 37 59 (.slice (some ⟨W.heap.size,0,none⟩) 1 1)).run Tryz.prog (W.alloc (.cells #[.int .u8 93] 5))=.ok (.string ⟨#[93]⟩) (W.alloc (.cells #[.int .u8 93] 5)):=fun W=>kind_one W 93
 clear h
 go_enter Tryz.func57,Tryz.ntmps57
 go_wp2_with (first
  | (go_at_call 72;refine (eof_any HL.out.at (by omega) (by omega)).mono ?_;simp only [hI];rintro e w' ⟨rfl,n,rfl⟩)
  | (go_at_call 80;refine (peek_t _ _ (HL.out.drewN _).at (by omega) pin0 (by omega) J1).mono ?_;rintro e w' ⟨rfl,n,rfl⟩)
  | (go_at_call 81;refine (skip_t _ (HL.out.drewN _) hin J9).mono ?_;rintro e w6 ⟨rfl,hl6,hg6⟩;have HL6:=Lib.hid hl6;have HG6:=Lib.hid (grown_trans (grown_drewN (grown_refl w (some b)) _) hg6);have c1:w6.cell? ⟨b,1,none⟩=some (.string x.kind):=hl6.cell 1;have f1:w6.frozen? ⟨b,1,none⟩=false:=hl6.free 1;have d1:∀o,(w6.alloc o).cell? ⟨b,1,none⟩=some (.string x.kind):=fun o=>(hl6.below (below_alloc w6 o)).cell 1;have g1:∀o,(w6.alloc o).frozen? ⟨b,1,none⟩=false:=fun o=>(hl6.below (below_alloc w6 o)).free 1;clear hl6 hg6))
 (first|go_end0|go_ret)
 rw [HO.out]
 have hL:=HL6.out
 rw [St.own hx hb] at hL
 refine ⟨rfl, ?_,grown_set (grown_trans HG6.out (grown_below (below_alloc w6 _) _)) 1 _⟩
 exact (hL.below (below_alloc w6 _)).set 1 (.string ⟨([93]:List UInt8).toArray⟩) _ rfl hin
set_option maxHeartbeats 1000000 in
set_option maxRecDepth 100000 in
theorem tok_126 {w:World} {B b f:Nat} {s:ByteArray} {x:St} (np:Bool) (last:lx.Bs) (h:LexS w B b f s x) (hx:x.str=⟨#[]⟩) (hb:x.base=0) (hin:x.at_<s.size) (hc:s[x.at_]=126) :
  Calls Tryz.prog 57 #[.pointer (some ⟨b,0,none⟩),.bool np] w (TokPost B b f s x (lx.token np last (rest s x.at_)) w):=by
 have HL:=Lib.hid h
 have SZ:=h.sz
 have hle:=h.le
 have hI:(!(inB s x.at_))=false:=by simp [inB,hin]
 have J1:Hid (bt s (x.at_+(0:Int).toNat)=126):=by show bt s (x.at_+0)=_;rw [Nat.add_zero,bt_in hin,hc];rfl
 have J9:Hid (bt s x.at_=126):=by show _=_;rw [bt_in hin,hc];rfl
 have pin0:x.at_+(0:Int).toNat<s.size:=by simpa using hin
 have HO:Hid (lx.token np last (rest s x.at_)=.tok [126] 1 [] 0 none):=by
  show _=_
  rw [rest_cons s _ hin,hc]
  unfold lx.token
  simp only
  rw [if_pos (by decide)]
 have hkind:∀W:World,(convert 37 59 (.slice (some ⟨W.heap.size,0,none⟩) 1 1)).run Tryz.prog (W.alloc (.cells #[.int .u8 126] 5))=.ok (.string ⟨#[126]⟩) (W.alloc (.cells #[.int .u8 126] 5)):=fun W=>kind_one W 126
 clear h
 go_enter Tryz.func57,Tryz.ntmps57
 go_wp2_with (first
  | (go_at_call 72;refine (eof_any HL.out.at (by omega) (by omega)).mono ?_;simp only [hI];rintro e w' ⟨rfl,n,rfl⟩)
  | (go_at_call 80;refine (peek_t _ _ (HL.out.drewN _).at (by omega) pin0 (by omega) J1).mono ?_;rintro e w' ⟨rfl,n,rfl⟩)
  | (go_at_call 81;refine (skip_t _ (HL.out.drewN _) hin J9).mono ?_;rintro e w6 ⟨rfl,hl6,hg6⟩;have HL6:=Lib.hid hl6;have HG6:=Lib.hid (grown_trans (grown_drewN (grown_refl w (some b)) _) hg6);have c1:w6.cell? ⟨b,1,none⟩=some (.string x.kind):=hl6.cell 1;have f1:w6.frozen? ⟨b,1,none⟩=false:=hl6.free 1;have d1:∀o,(w6.alloc o).cell? ⟨b,1,none⟩=some (.string x.kind):=fun o=>(hl6.below (below_alloc w6 o)).cell 1;have g1:∀o,(w6.alloc o).frozen? ⟨b,1,none⟩=false:=fun o=>(hl6.below (below_alloc w6 o)).free 1;clear hl6 hg6))
 (first|go_end0|go_ret)
 rw [HO.out]
 have hL:=HL6.out
 rw [St.own hx hb] at hL
 refine ⟨rfl, ?_,grown_set (grown_trans HG6.out (grown_below (below_alloc w6 _) _)) 1 _⟩
 exact (hL.below (below_alloc w6 _)).set 1 (.string ⟨([126]:List UInt8).toArray⟩) _ rfl hin
set_option maxHeartbeats 1000000 in
set_option maxRecDepth 100000 in
theorem tok_42 {w:World} {B b f:Nat} {s:ByteArray} {x:St} (np:Bool) (last:lx.Bs) (h:LexS w B b f s x) (hx:x.str=⟨#[]⟩) (hb:x.base=0) (hin:x.at_<s.size) (hc:s[x.at_]=42) :
  Calls Tryz.prog 57 #[.pointer (some ⟨b,0,none⟩),.bool np] w (TokPost B b f s x (lx.token np last (rest s x.at_)) w):=by
 have HL:=Lib.hid h
 have SZ:=h.sz
 have hle:=h.le
 have hI:(!(inB s x.at_))=false:=by simp [inB,hin]
 have J1:Hid (bt s (x.at_+(0:Int).toNat)=42):=by show bt s (x.at_+0)=_;rw [Nat.add_zero,bt_in hin,hc];rfl
 have J9:Hid (bt s x.at_=42):=by show _=_;rw [bt_in hin,hc];rfl
 have pin0:x.at_+(0:Int).toNat<s.size:=by simpa using hin
 have HO:Hid (lx.token np last (rest s x.at_)=.tok [42] 1 [] 0 none):=by
  show _=_
  rw [rest_cons s _ hin,hc]
  unfold lx.token
  simp only
  rw [if_pos (by decide)]
 have hkind:∀W:World,(convert 37 59 (.slice (some ⟨W.heap.size,0,none⟩) 1 1)).run Tryz.prog (W.alloc (.cells #[.int .u8 42] 5))=.ok (.string ⟨#[42]⟩) (W.alloc (.cells #[.int .u8 42] 5)):=fun W=>kind_one W 42
 clear h
 go_enter Tryz.func57,Tryz.ntmps57
 go_wp2_with (first
  | (go_at_call 72;refine (eof_any HL.out.at (by omega) (by omega)).mono ?_;simp only [hI];rintro e w' ⟨rfl,n,rfl⟩)
  | (go_at_call 80;refine (peek_t _ _ (HL.out.drewN _).at (by omega) pin0 (by omega) J1).mono ?_;rintro e w' ⟨rfl,n,rfl⟩)
  | (go_at_call 81;refine (skip_t _ (HL.out.drewN _) hin J9).mono ?_;rintro e w6 ⟨rfl,hl6,hg6⟩;have HL6:=Lib.hid hl6;have HG6:=Lib.hid (grown_trans (grown_drewN (grown_refl w (some b)) _) hg6);have c1:w6.cell? ⟨b,1,none⟩=some (.string x.kind):=hl6.cell 1;have f1:w6.frozen? ⟨b,1,none⟩=false:=hl6.free 1;have d1:∀o,(w6.alloc o).cell? ⟨b,1,none⟩=some (.string x.kind):=fun o=>(hl6.below (below_alloc w6 o)).cell 1;have g1:∀o,(w6.alloc o).frozen? ⟨b,1,none⟩=false:=fun o=>(hl6.below (below_alloc w6 o)).free 1;clear hl6 hg6))
 (first|go_end0|go_ret)
 rw [HO.out]
 have hL:=HL6.out
 rw [St.own hx hb] at hL
 refine ⟨rfl, ?_,grown_set (grown_trans HG6.out (grown_below (below_alloc w6 _) _)) 1 _⟩
 exact (hL.below (below_alloc w6 _)).set 1 (.string ⟨([42]:List UInt8).toArray⟩) _ rfl hin
set_option maxHeartbeats 1000000 in
set_option maxRecDepth 100000 in
theorem tok_47 {w:World} {B b f:Nat} {s:ByteArray} {x:St} (np:Bool) (last:lx.Bs) (h:LexS w B b f s x) (hx:x.str=⟨#[]⟩) (hb:x.base=0) (hin:x.at_<s.size) (hc:s[x.at_]=47) :
  Calls Tryz.prog 57 #[.pointer (some ⟨b,0,none⟩),.bool np] w (TokPost B b f s x (lx.token np last (rest s x.at_)) w):=by
 have HL:=Lib.hid h
 have SZ:=h.sz
 have hle:=h.le
 have hI:(!(inB s x.at_))=false:=by simp [inB,hin]
 have J1:Hid (bt s (x.at_+(0:Int).toNat)=47):=by show bt s (x.at_+0)=_;rw [Nat.add_zero,bt_in hin,hc];rfl
 have J9:Hid (bt s x.at_=47):=by show _=_;rw [bt_in hin,hc];rfl
 have pin0:x.at_+(0:Int).toNat<s.size:=by simpa using hin
 have HO:Hid (lx.token np last (rest s x.at_)=.tok [47] 1 [] 0 none):=by
  show _=_
  rw [rest_cons s _ hin,hc]
  unfold lx.token
  simp only
  rw [if_pos (by decide)]
 have hkind:∀W:World,(convert 37 59 (.slice (some ⟨W.heap.size,0,none⟩) 1 1)).run Tryz.prog (W.alloc (.cells #[.int .u8 47] 5))=.ok (.string ⟨#[47]⟩) (W.alloc (.cells #[.int .u8 47] 5)):=fun W=>kind_one W 47
 clear h
 go_enter Tryz.func57,Tryz.ntmps57
 go_wp2_with (first
  | (go_at_call 72;refine (eof_any HL.out.at (by omega) (by omega)).mono ?_;simp only [hI];rintro e w' ⟨rfl,n,rfl⟩)
  | (go_at_call 80;refine (peek_t _ _ (HL.out.drewN _).at (by omega) pin0 (by omega) J1).mono ?_;rintro e w' ⟨rfl,n,rfl⟩)
  | (go_at_call 81;refine (skip_t _ (HL.out.drewN _) hin J9).mono ?_;rintro e w6 ⟨rfl,hl6,hg6⟩;have HL6:=Lib.hid hl6;have HG6:=Lib.hid (grown_trans (grown_drewN (grown_refl w (some b)) _) hg6);have c1:w6.cell? ⟨b,1,none⟩=some (.string x.kind):=hl6.cell 1;have f1:w6.frozen? ⟨b,1,none⟩=false:=hl6.free 1;have d1:∀o,(w6.alloc o).cell? ⟨b,1,none⟩=some (.string x.kind):=fun o=>(hl6.below (below_alloc w6 o)).cell 1;have g1:∀o,(w6.alloc o).frozen? ⟨b,1,none⟩=false:=fun o=>(hl6.below (below_alloc w6 o)).free 1;clear hl6 hg6))
 (first|go_end0|go_ret)
 rw [HO.out]
 have hL:=HL6.out
 rw [St.own hx hb] at hL
 refine ⟨rfl, ?_,grown_set (grown_trans HG6.out (grown_below (below_alloc w6 _) _)) 1 _⟩
 exact (hL.below (below_alloc w6 _)).set 1 (.string ⟨([47]:List UInt8).toArray⟩) _ rfl hin
set_option maxHeartbeats 1000000 in
set_option maxRecDepth 100000 in
theorem tok_38 {w:World} {B b f:Nat} {s:ByteArray} {x:St} (np:Bool) (last:lx.Bs) (h:LexS w B b f s x) (hx:x.str=⟨#[]⟩) (hb:x.base=0) (hin:x.at_<s.size) (hc:s[x.at_]=38) :
  Calls Tryz.prog 57 #[.pointer (some ⟨b,0,none⟩),.bool np] w (TokPost B b f s x (lx.token np last (rest s x.at_)) w):=by
 have HL:=Lib.hid h
 have SZ:=h.sz
 have hle:=h.le
 have hI:(!(inB s x.at_))=false:=by simp [inB,hin]
 have J1:Hid (bt s (x.at_+(0:Int).toNat)=38):=by show bt s (x.at_+0)=_;rw [Nat.add_zero,bt_in hin,hc];rfl
 have J9:Hid (bt s x.at_=38):=by show _=_;rw [bt_in hin,hc];rfl
 have pin0:x.at_+(0:Int).toNat<s.size:=by simpa using hin
 have HO:Hid (lx.token np last (rest s x.at_)=.tok [38] 1 [] 0 none):=by
  show _=_
  rw [rest_cons s _ hin,hc]
  unfold lx.token
  simp only
  rw [if_pos (by decide)]
 have hkind:∀W:World,(convert 37 59 (.slice (some ⟨W.heap.size,0,none⟩) 1 1)).run Tryz.prog (W.alloc (.cells #[.int .u8 38] 5))=.ok (.string ⟨#[38]⟩) (W.alloc (.cells #[.int .u8 38] 5)):=fun W=>kind_one W 38
 clear h
 go_enter Tryz.func57,Tryz.ntmps57
 go_wp2_with (first
  | (go_at_call 72;refine (eof_any HL.out.at (by omega) (by omega)).mono ?_;simp only [hI];rintro e w' ⟨rfl,n,rfl⟩)
  | (go_at_call 80;refine (peek_t _ _ (HL.out.drewN _).at (by omega) pin0 (by omega) J1).mono ?_;rintro e w' ⟨rfl,n,rfl⟩)
  | (go_at_call 81;refine (skip_t _ (HL.out.drewN _) hin J9).mono ?_;rintro e w6 ⟨rfl,hl6,hg6⟩;have HL6:=Lib.hid hl6;have HG6:=Lib.hid (grown_trans (grown_drewN (grown_refl w (some b)) _) hg6);have c1:w6.cell? ⟨b,1,none⟩=some (.string x.kind):=hl6.cell 1;have f1:w6.frozen? ⟨b,1,none⟩=false:=hl6.free 1;have d1:∀o,(w6.alloc o).cell? ⟨b,1,none⟩=some (.string x.kind):=fun o=>(hl6.below (below_alloc w6 o)).cell 1;have g1:∀o,(w6.alloc o).frozen? ⟨b,1,none⟩=false:=fun o=>(hl6.below (below_alloc w6 o)).free 1;clear hl6 hg6))
 (first|go_end0|go_ret)
 rw [HO.out]
 have hL:=HL6.out
 rw [St.own hx hb] at hL
 refine ⟨rfl, ?_,grown_set (grown_trans HG6.out (grown_below (below_alloc w6 _) _)) 1 _⟩
 exact (hL.below (below_alloc w6 _)).set 1 (.string ⟨([38]:List UInt8).toArray⟩) _ rfl hin
set_option maxHeartbeats 1000000 in
set_option maxRecDepth 100000 in
theorem tok_94 {w:World} {B b f:Nat} {s:ByteArray} {x:St} (np:Bool) (last:lx.Bs) (h:LexS w B b f s x) (hx:x.str=⟨#[]⟩) (hb:x.base=0) (hin:x.at_<s.size) (hc:s[x.at_]=94) :
  Calls Tryz.prog 57 #[.pointer (some ⟨b,0,none⟩),.bool np] w (TokPost B b f s x (lx.token np last (rest s x.at_)) w):=by
 have HL:=Lib.hid h
 have SZ:=h.sz
 have hle:=h.le
 have hI:(!(inB s x.at_))=false:=by simp [inB,hin]
 have J1:Hid (bt s (x.at_+(0:Int).toNat)=94):=by show bt s (x.at_+0)=_;rw [Nat.add_zero,bt_in hin,hc];rfl
 have J9:Hid (bt s x.at_=94):=by show _=_;rw [bt_in hin,hc];rfl
 have pin0:x.at_+(0:Int).toNat<s.size:=by simpa using hin
 have HO:Hid (lx.token np last (rest s x.at_)=.tok [94] 1 [] 0 none):=by
  show _=_
  rw [rest_cons s _ hin,hc]
  unfold lx.token
  simp only
  rw [if_pos (by decide)]
 have hkind:∀W:World,(convert 37 59 (.slice (some ⟨W.heap.size,0,none⟩) 1 1)).run Tryz.prog (W.alloc (.cells #[.int .u8 94] 5))=.ok (.string ⟨#[94]⟩) (W.alloc (.cells #[.int .u8 94] 5)):=fun W=>kind_one W 94
 clear h
 go_enter Tryz.func57,Tryz.ntmps57
 go_wp2_with (first
  | (go_at_call 72;refine (eof_any HL.out.at (by omega) (by omega)).mono ?_;simp only [hI];rintro e w' ⟨rfl,n,rfl⟩)
  | (go_at_call 80;refine (peek_t _ _ (HL.out.drewN _).at (by omega) pin0 (by omega) J1).mono ?_;rintro e w' ⟨rfl,n,rfl⟩)
  | (go_at_call 81;refine (skip_t _ (HL.out.drewN _) hin J9).mono ?_;rintro e w6 ⟨rfl,hl6,hg6⟩;have HL6:=Lib.hid hl6;have HG6:=Lib.hid (grown_trans (grown_drewN (grown_refl w (some b)) _) hg6);have c1:w6.cell? ⟨b,1,none⟩=some (.string x.kind):=hl6.cell 1;have f1:w6.frozen? ⟨b,1,none⟩=false:=hl6.free 1;have d1:∀o,(w6.alloc o).cell? ⟨b,1,none⟩=some (.string x.kind):=fun o=>(hl6.below (below_alloc w6 o)).cell 1;have g1:∀o,(w6.alloc o).frozen? ⟨b,1,none⟩=false:=fun o=>(hl6.below (below_alloc w6 o)).free 1;clear hl6 hg6))
 (first|go_end0|go_ret)
 rw [HO.out]
 have hL:=HL6.out
 rw [St.own hx hb] at hL
 refine ⟨rfl, ?_,grown_set (grown_trans HG6.out (grown_below (below_alloc w6 _) _)) 1 _⟩
 exact (hL.below (below_alloc w6 _)).set 1 (.string ⟨([94]:List UInt8).toArray⟩) _ rfl hin
set_option maxHeartbeats 1000000 in
set_option maxRecDepth 100000 in
theorem tok_37 {w:World} {B b f:Nat} {s:ByteArray} {x:St} (np:Bool) (last:lx.Bs) (h:LexS w B b f s x) (hx:x.str=⟨#[]⟩) (hb:x.base=0) (hin:x.at_<s.size) (hc:s[x.at_]=37) :
  Calls Tryz.prog 57 #[.pointer (some ⟨b,0,none⟩),.bool np] w (TokPost B b f s x (lx.token np last (rest s x.at_)) w):=by
 have HL:=Lib.hid h
 have SZ:=h.sz
 have hle:=h.le
 have hI:(!(inB s x.at_))=false:=by simp [inB,hin]
 have J1:Hid (bt s (x.at_+(0:Int).toNat)=37):=by show bt s (x.at_+0)=_;rw [Nat.add_zero,bt_in hin,hc];rfl
 have J9:Hid (bt s x.at_=37):=by show _=_;rw [bt_in hin,hc];rfl
 have pin0:x.at_+(0:Int).toNat<s.size:=by simpa using hin
 have HO:Hid (lx.token np last (rest s x.at_)=.tok [37] 1 [] 0 none):=by
  show _=_
  rw [rest_cons s _ hin,hc]
  unfold lx.token
  simp only
  rw [if_pos (by decide)]
 have hkind:∀W:World,(convert 37 59 (.slice (some ⟨W.heap.size,0,none⟩) 1 1)).run Tryz.prog (W.alloc (.cells #[.int .u8 37] 5))=.ok (.string ⟨#[37]⟩) (W.alloc (.cells #[.int .u8 37] 5)):=fun W=>kind_one W 37
 clear h
 go_enter Tryz.func57,Tryz.ntmps57
 go_wp2_with (first
  | (go_at_call 72;refine (eof_any HL.out.at (by omega) (by omega)).mono ?_;simp only [hI];rintro e w' ⟨rfl,n,rfl⟩)
  | (go_at_call 80;refine (peek_t _ _ (HL.out.drewN _).at (by omega) pin0 (by omega) J1).mono ?_;rintro e w' ⟨rfl,n,rfl⟩)
  | (go_at_call 81;refine (skip_t _ (HL.out.drewN _) hin J9).mono ?_;rintro e w6 ⟨rfl,hl6,hg6⟩;have HL6:=Lib.hid hl6;have HG6:=Lib.hid (grown_trans (grown_drewN (grown_refl w (some b)) _) hg6);have c1:w6.cell? ⟨b,1,none⟩=some (.string x.kind):=hl6.cell 1;have f1:w6.frozen? ⟨b,1,none⟩=false:=hl6.free 1;have d1:∀o,(w6.alloc o).cell? ⟨b,1,none⟩=some (.string x.kind):=fun o=>(hl6.below (below_alloc w6 o)).cell 1;have g1:∀o,(w6.alloc o).frozen? ⟨b,1,none⟩=false:=fun o=>(hl6.below (below_alloc w6 o)).free 1;clear hl6 hg6))
 (first|go_end0|go_ret)
 rw [HO.out]
 have hL:=HL6.out
 rw [St.own hx hb] at hL
 refine ⟨rfl, ?_,grown_set (grown_trans HG6.out (grown_below (below_alloc w6 _) _)) 1 _⟩
 exact (hL.below (below_alloc w6 _)).set 1 (.string ⟨([37]:List UInt8).toArray⟩) _ rfl hin
set_option maxHeartbeats 1000000 in
set_option maxRecDepth 100000 in
theorem tok_58 {w:World} {B b f:Nat} {s:ByteArray} {x:St} (np:Bool) (last:lx.Bs) (h:LexS w B b f s x) (hx:x.str=⟨#[]⟩) (hb:x.base=0) (hin:x.at_<s.size) (hc:s[x.at_]=58) :
  Calls Tryz.prog 57 #[.pointer (some ⟨b,0,none⟩),.bool np] w (TokPost B b f s x (lx.token np last (rest s x.at_)) w):=by
 have HL:=Lib.hid h
 have SZ:=h.sz
 have hle:=h.le
 have hI:(!(inB s x.at_))=false:=by simp [inB,hin]
 have J1:Hid (bt s (x.at_+(0:Int).toNat)=58):=by show bt s (x.at_+0)=_;rw [Nat.add_zero,bt_in hin,hc];rfl
 have J9:Hid (bt s x.at_=58):=by show _=_;rw [bt_in hin,hc];rfl
 have pin0:x.at_+(0:Int).toNat<s.size:=by simpa using hin
 have HO:Hid (lx.token np last (rest s x.at_)=.tok [58] 1 [] 0 none):=by
  show _=_
  rw [rest_cons s _ hin,hc]
  unfold lx.token
  simp only
  rw [if_pos (by decide)]
 have hkind:∀W:World,(convert 37 59 (.slice (some ⟨W.heap.size,0,none⟩) 1 1)).run Tryz.prog (W.alloc (.cells #[.int .u8 58] 5))=.ok (.string ⟨#[58]⟩) (W.alloc (.cells #[.int .u8 58] 5)):=fun W=>kind_one W 58
 clear h
 go_enter Tryz.func57,Tryz.ntmps57
 go_wp2_with (first
  | (go_at_call 72;refine (eof_any HL.out.at (by omega) (by omega)).mono ?_;simp only [hI];rintro e w' ⟨rfl,n,rfl⟩)
  | (go_at_call 80;refine (peek_t _ _ (HL.out.drewN _).at (by omega) pin0 (by omega) J1).mono ?_;rintro e w' ⟨rfl,n,rfl⟩)
  | (go_at_call 81;refine (skip_t _ (HL.out.drewN _) hin J9).mono ?_;rintro e w6 ⟨rfl,hl6,hg6⟩;have HL6:=Lib.hid hl6;have HG6:=Lib.hid (grown_trans (grown_drewN (grown_refl w (some b)) _) hg6);have c1:w6.cell? ⟨b,1,none⟩=some (.string x.kind):=hl6.cell 1;have f1:w6.frozen? ⟨b,1,none⟩=false:=hl6.free 1;have d1:∀o,(w6.alloc o).cell? ⟨b,1,none⟩=some (.string x.kind):=fun o=>(hl6.below (below_alloc w6 o)).cell 1;have g1:∀o,(w6.alloc o).frozen? ⟨b,1,none⟩=false:=fun o=>(hl6.below (below_alloc w6 o)).free 1;clear hl6 hg6))
 (first|go_end0|go_ret)
 rw [HO.out]
 have hL:=HL6.out
 rw [St.own hx hb] at hL
 refine ⟨rfl, ?_,grown_set (grown_trans HG6.out (grown_below (below_alloc w6 _) _)) 1 _⟩
 exact (hL.below (below_alloc w6 _)).set 1 (.string ⟨([58]:List UInt8).toArray⟩) _ rfl hin
set_option maxHeartbeats 1000000 in
set_option maxRecDepth 100000 in
theorem tok_63 {w:World} {B b f:Nat} {s:ByteArray} {x:St} (np:Bool) (last:lx.Bs) (h:LexS w B b f s x) (hx:x.str=⟨#[]⟩) (hb:x.base=0) (hin:x.at_<s.size) (hc:s[x.at_]=63) :
  Calls Tryz.prog 57 #[.pointer (some ⟨b,0,none⟩),.bool np] w (TokPost B b f s x (lx.token np last (rest s x.at_)) w):=by
 have HL:=Lib.hid h
 have SZ:=h.sz
 have hle:=h.le
 have hI:(!(inB s x.at_))=false:=by simp [inB,hin]
 have J1:Hid (bt s (x.at_+(0:Int).toNat)=63):=by show bt s (x.at_+0)=_;rw [Nat.add_zero,bt_in hin,hc];rfl
 have J9:Hid (bt s x.at_=63):=by show _=_;rw [bt_in hin,hc];rfl
 have pin0:x.at_+(0:Int).toNat<s.size:=by simpa using hin
 have HO:Hid (lx.token np last (rest s x.at_)=.tok [63] 1 [] 0 none):=by
  show _=_
  rw [rest_cons s _ hin,hc]
  unfold lx.token
  simp only
  rw [if_pos (by decide)]
 have hkind:∀W:World,(convert 37 59 (.slice (some ⟨W.heap.size,0,none⟩) 1 1)).run Tryz.prog (W.alloc (.cells #[.int .u8 63] 5))=.ok (.string ⟨#[63]⟩) (W.alloc (.cells #[.int .u8 63] 5)):=fun W=>kind_one W 63
 clear h
 go_enter Tryz.func57,Tryz.ntmps57
 go_wp2_with (first
  | (go_at_call 72;refine (eof_any HL.out.at (by omega) (by omega)).mono ?_;simp only [hI];rintro e w' ⟨rfl,n,rfl⟩)
  | (go_at_call 80;refine (peek_t _ _ (HL.out.drewN _).at (by omega) pin0 (by omega) J1).mono ?_;rintro e w' ⟨rfl,n,rfl⟩)
  | (go_at_call 81;refine (skip_t _ (HL.out.drewN _) hin J9).mono ?_;rintro e w6 ⟨rfl,hl6,hg6⟩;have HL6:=Lib.hid hl6;have HG6:=Lib.hid (grown_trans (grown_drewN (grown_refl w (some b)) _) hg6);have c1:w6.cell? ⟨b,1,none⟩=some (.string x.kind):=hl6.cell 1;have f1:w6.frozen? ⟨b,1,none⟩=false:=hl6.free 1;have d1:∀o,(w6.alloc o).cell? ⟨b,1,none⟩=some (.string x.kind):=fun o=>(hl6.below (below_alloc w6 o)).cell 1;have g1:∀o,(w6.alloc o).frozen? ⟨b,1,none⟩=false:=fun o=>(hl6.below (below_alloc w6 o)).free 1;clear hl6 hg6))
 (first|go_end0|go_ret)
 rw [HO.out]
 have hL:=HL6.out
 rw [St.own hx hb] at hL
 refine ⟨rfl, ?_,grown_set (grown_trans HG6.out (grown_below (below_alloc w6 _) _)) 1 _⟩
 exact (hL.below (below_alloc w6 _)).set 1 (.string ⟨([63]:List UInt8).toArray⟩) _ rfl hin
set_option maxHeartbeats 1000000 in
set_option maxRecDepth 100000 in
theorem tok_92 {w:World} {B b f:Nat} {s:ByteArray} {x:St} (np:Bool) (last:lx.Bs) (h:LexS w B b f s x) (hx:x.str=⟨#[]⟩) (hb:x.base=0) (hin:x.at_<s.size) (hc:s[x.at_]=92) :
  Calls Tryz.prog 57 #[.pointer (some ⟨b,0,none⟩),.bool np] w (TokPost B b f s x (lx.token np last (rest s x.at_)) w):=by
 have HL:=Lib.hid h
 have SZ:=h.sz
 have hle:=h.le
 have hI:(!(inB s x.at_))=false:=by simp [inB,hin]
 have J1:Hid (bt s (x.at_+(0:Int).toNat)=92):=by show bt s (x.at_+0)=_;rw [Nat.add_zero,bt_in hin,hc];rfl
 have J9:Hid (bt s x.at_=92):=by show _=_;rw [bt_in hin,hc];rfl
 have pin0:x.at_+(0:Int).toNat<s.size:=by simpa using hin
 have HO:Hid (lx.token np last (rest s x.at_)=.tok [92] 1 [] 0 none):=by
  show _=_
  rw [rest_cons s _ hin,hc]
  unfold lx.token
  simp only
  rw [if_pos (by decide)]
 have hkind:∀W:World,(convert 37 59 (.slice (some ⟨W.heap.size,0,none⟩) 1 1)).run Tryz.prog (W.alloc (.cells #[.int .u8 92] 5))=.ok (.string ⟨#[92]⟩) (W.alloc (.cells #[.int .u8 92] 5)):=fun W=>kind_one W 92
 clear h
 go_enter Tryz.func57,Tryz.ntmps57
 go_wp2_with (first
  | (go_at_call 72;refine (eof_any HL.out.at (by omega) (by omega)).mono ?_;simp only [hI];rintro e w' ⟨rfl,n,rfl⟩)
  | (go_at_call 80;refine (peek_t _ _ (HL.out.drewN _).at (by omega) pin0 (by omega) J1).mono ?_;rintro e w' ⟨rfl,n,rfl⟩)
  | (go_at_call 81;refine (skip_t _ (HL.out.drewN _) hin J9).mono ?_;rintro e w6 ⟨rfl,hl6,hg6⟩;have HL6:=Lib.hid hl6;have HG6:=Lib.hid (grown_trans (grown_drewN (grown_refl w (some b)) _) hg6);have c1:w6.cell? ⟨b,1,none⟩=some (.string x.kind):=hl6.cell 1;have f1:w6.frozen? ⟨b,1,none⟩=false:=hl6.free 1;have d1:∀o,(w6.alloc o).cell? ⟨b,1,none⟩=some (.string x.kind):=fun o=>(hl6.below (below_alloc w6 o)).cell 1;have g1:∀o,(w6.alloc o).frozen? ⟨b,1,none⟩=false:=fun o=>(hl6.below (below_alloc w6 o)).free 1;clear hl6 hg6))
 (first|go_end0|go_ret)
 rw [HO.out]
 have hL:=HL6.out
 rw [St.own hx hb] at hL
 refine ⟨rfl, ?_,grown_set (grown_trans HG6.out (grown_below (below_alloc w6 _) _)) 1 _⟩
 exact (hL.below (below_alloc w6 _)).set 1 (.string ⟨([92]:List UInt8).toArray⟩) _ rfl hin
set_option maxHeartbeats 1000000 in
set_option maxRecDepth 100000 in
theorem tok_36 {w:World} {B b f:Nat} {s:ByteArray} {x:St} (np:Bool) (last:lx.Bs) (h:LexS w B b f s x) (hx:x.str=⟨#[]⟩) (hb:x.base=0) (hin:x.at_<s.size) (hc:s[x.at_]=36) :
  Calls Tryz.prog 57 #[.pointer (some ⟨b,0,none⟩),.bool np] w (TokPost B b f s x (lx.token np last (rest s x.at_)) w):=by
 have HL:=Lib.hid h
 have SZ:=h.sz
 have hle:=h.le
 have hI:(!(inB s x.at_))=false:=by simp [inB,hin]
 have J1:Hid (bt s (x.at_+(0:Int).toNat)=36):=by show bt s (x.at_+0)=_;rw [Nat.add_zero,bt_in hin,hc];rfl
 have J9:Hid (bt s x.at_=36):=by show _=_;rw [bt_in hin,hc];rfl
 have pin0:x.at_+(0:Int).toNat<s.size:=by simpa using hin
 have HO:Hid (lx.token np last (rest s x.at_)=.tok [36] 1 [] 0 none):=by
  show _=_
  rw [rest_cons s _ hin,hc]
  unfold lx.token
  simp only
  rw [if_pos (by decide)]
 have hkind:∀W:World,(convert 37 59 (.slice (some ⟨W.heap.size,0,none⟩) 1 1)).run Tryz.prog (W.alloc (.cells #[.int .u8 36] 5))=.ok (.string ⟨#[36]⟩) (W.alloc (.cells #[.int .u8 36] 5)):=fun W=>kind_one W 36
 clear h
 go_enter Tryz.func57,Tryz.ntmps57
 go_wp2_with (first
  | (go_at_call 72;refine (eof_any HL.out.at (by omega) (by omega)).mono ?_;simp only [hI];rintro e w' ⟨rfl,n,rfl⟩)
  | (go_at_call 80;refine (peek_t _ _ (HL.out.drewN _).at (by omega) pin0 (by omega) J1).mono ?_;rintro e w' ⟨rfl,n,rfl⟩)
  | (go_at_call 81;refine (skip_t _ (HL.out.drewN _) hin J9).mono ?_;rintro e w6 ⟨rfl,hl6,hg6⟩;have HL6:=Lib.hid hl6;have HG6:=Lib.hid (grown_trans (grown_drewN (grown_refl w (some b)) _) hg6);have c1:w6.cell? ⟨b,1,none⟩=some (.string x.kind):=hl6.cell 1;have f1:w6.frozen? ⟨b,1,none⟩=false:=hl6.free 1;have d1:∀o,(w6.alloc o).cell? ⟨b,1,none⟩=some (.string x.kind):=fun o=>(hl6.below (below_alloc w6 o)).cell 1;have g1:∀o,(w6.alloc o).frozen? ⟨b,1,none⟩=false:=fun o=>(hl6.below (below_alloc w6 o)).free 1;clear hl6 hg6))
 (first|go_end0|go_ret)
 rw [HO.out]
 have hL:=HL6.out
 rw [St.own hx hb] at hL
 refine ⟨rfl, ?_,grown_set (grown_trans HG6.out (grown_below (below_alloc w6 _) _)) 1 _⟩
 exact (hL.below (below_alloc w6 _)).set 1 (.string ⟨([36]:List UInt8).toArray⟩) _ rfl hin
end Go.Proofs.YtaamolahbkgofaaGreatDoor.lex
