/-
  consumeToken: bytes that may begin a string; all of it joined. The lexer's consumeToken, joined, and consumeFieldToken. Conditions: of each, in its statement.
-/
import Derived.Test.YtaamolahbkgofaaGreatDoorK27
import Derived.Test.YtaamolahbkgofaaGreatDoorK28
import Derived.Test.YtaamolahbkgofaaGreatDoorK26
set_option linter.unusedVariables false
namespace Go.Proofs.YtaamolahbkgofaaGreatDoor.lex
open Go.RowKit mem lines plain
theorem p_round {w:World} {B b f:Nat} {s:ByteArray} {x:St} {np:Bool} {o:lx.Out} {a:Act} {W:World} (h:PR w B b f s x np o a W):PRound w B b f s x np o a W:=by
 obtain ⟨by_,ra,k,i,rfl,hat,⟨m,rfl⟩,HP⟩:=h
 obtain ⟨u,rfl⟩:=hat.is
 have h3:=HP.out.k3
 by_cases hk3:k=3
 ·subst hk3
  exact p_three m HP
 ·have hk:k<3:=by omega
  by_cases hin:x.at_+k<s.size
  ·by_cases v34:s[x.at_+k].toNat=34
   ·cases by_ <;> cases ra
    ·exact p_q34_false_false m hk hin v34 HP
    ·exact p_q34_false_true m hk hin v34 HP
    ·exact p_q34_true_false m hk hin v34 HP
    ·exact p_q34_true_true m hk hin v34 HP
   ·by_cases v39:s[x.at_+k].toNat=39
    ·cases by_ <;> cases ra
     ·exact p_q39_false_false m hk hin v39 HP
     ·exact p_q39_false_true m hk hin v39 HP
     ·exact p_q39_true_false m hk hin v39 HP
     ·exact p_q39_true_true m hk hin v39 HP
    ·by_cases hb:by_=false∧(s[x.at_+k].toNat=66∨s[x.at_+k].toNat=98)
     ·obtain ⟨rfl,v|v⟩:=hb
      ·exact p_by66 m hk hin v HP
      ·exact p_by98 m hk hin v HP
     ·by_cases hr:ra=false∧(s[x.at_+k].toNat=82∨s[x.at_+k].toNat=114)
      ·obtain ⟨rfl,v|v⟩:=hr
       ·cases by_
        ·exact p_ra82_false m hk hin v HP
        ·exact p_ra82_true m hk hin v HP
       ·cases by_
        ·exact p_ra114_false m hk hin v HP
        ·exact p_ra114_true m hk hin v HP
      ·cases by_ <;> cases ra
       ·exact p_no_false_false m hk hin hb hr (by omega) HP
       ·exact p_no_false_true m hk hin hb hr (by omega) HP
       ·exact p_no_true_false m hk hin hb hr (by omega) HP
       ·exact p_no_true_true m hk hin hb hr (by omega) HP
  ·exact p_end m hk hin HP
theorem pre_loop {w:World} {B b f:Nat} {s:ByteArray} {x:St} {np:Bool} {o:lx.Out} {a:Act} {W:World} (h:PR w B b f s x np o a W):Code.wp Tryz.prog (Code.loop pBody) (PEnd w B b f s x np o) a W :=
 wp_loop (PR w B b f s x np o) (PMu s) h fun _ _ h=>p_round h
theorem PI.start {w:World} {B b f:Nat} {s:ByteArray} {x:St} {np:Bool} {last:lx.Bs} (h:LexS w B b f s x) (hx:x.str=⟨#[]⟩) (hb:x.base=0) (hin:x.at_<s.size) (hc:s[x.at_]∈([66,98,82,114,34,39]:lx.Bs)) (hcr:lx.token np last (rest s x.at_)≠.crash)
  (ht:lx.token np last (rest s x.at_)=(match lx.prefx 3 false false (rest s x.at_) with
   | some (by_,ra,i)=>lx.strTok by_ ra np i (rest s x.at_)
   | none=>lx.word np (rest s x.at_))):PI w B b f s x np false false 0 (lx.token np last (rest s x.at_)):=by
 refine ⟨h,by omega,h.le, ?_,hx,hb,hcr,fun by' ra' i e=>?_⟩
 ·show _=(lx.prefx 3 false false (rest s x.at_)).map (shiftP 0)
  cases lx.prefx 3 false false (rest s x.at_) with
  | none=>rfl
  | some y=>rfl
 ·rw [ht,e]
theorem token_str66 (np:Bool) (last:lx.Bs) (r:lx.Bs):lx.token np last (66::r)=(match lx.prefx 3 false false (66::r) with
   | some (by_,ra,i)=>lx.strTok by_ ra np i (66::r)
   | none=>lx.word np (66::r)):=rfl
set_option maxHeartbeats 1000000 in
set_option maxRecDepth 100000 in
theorem tok_66 {w:World} {B b f:Nat} {s:ByteArray} {x:St} (np:Bool) (last:lx.Bs) (h:LexS w B b f s x) (hx:x.str=⟨#[]⟩) (hb:x.base=0) (hin:x.at_<s.size) (hc:s[x.at_]=66) (hcr:lx.token np last (rest s x.at_)≠.crash) :
  Calls Tryz.prog 57 #[.pointer (some ⟨b,0,none⟩),.bool np] w (TokPost B b f s x (lx.token np last (rest s x.at_)) w):=by
 have ht:lx.token np last (rest s x.at_)=(match lx.prefx 3 false false (rest s x.at_) with
   | some (by_,ra,i)=>lx.strTok by_ ra np i (rest s x.at_)
   | none=>lx.word np (rest s x.at_)):=by
  rw [rest_cons s _ hin,hc]
  exact token_str66 np last _
 have HP:=Lib.hid (PI.start (np:=np) (last:=last) h hx hb hin (by rw [hc];decide) hcr ht)
 have HNO:Hid (lx.prefx 3 false false (rest s x.at_)=none→lx.token np last (rest s x.at_)=lx.word np (rest s x.at_)∧lx.isIdS (lx.nb (rest s x.at_) 0)=true):=fun e=>by
  refine ⟨by rw [ht,e], ?_⟩
  rw [rest_cons s _ hin,hc] at e ⊢
  first|rfl|exact absurd e (by rw [prefx_q (by decide)];simp)
 clear ht hcr
 generalize lx.token np last (rest s x.at_)=o at *
 have HL:=Lib.hid h
 have SZ:=h.sz
 have hle:=h.le
 have hI:(!(inB s x.at_))=false:=by simp [inB,hin]
 have J1:Hid (bt s (x.at_+(0:Int).toNat)=66):=by show bt s (x.at_+0)=_;rw [Nat.add_zero,bt_in hin,hc];rfl
 have J9:Hid (bt s x.at_=66):=by show _=_;rw [bt_in hin,hc];rfl
 have pin0:x.at_+(0:Int).toNat<s.size:=by simpa using hin
 clear h
 go_enter Tryz.func57,Tryz.ntmps57
 go_wp2_with (first
  | (go_at_call 72;refine (eof_any HL.out.at (by omega) (by omega)).mono ?_;simp only [hI];rintro e w' ⟨rfl,n,rfl⟩)
  | (go_at_call 80;refine (peek_t _ _ (HL.out.drewN _).at (by omega) pin0 (by omega) J1).mono ?_;rintro e w' ⟨rfl,n,rfl⟩))
 go_step3
 go_wp2_with fail
 go_step3
 go_wp2_with fail
 rename_i K hK
 refine wp_mono (pre_loop (by exact ⟨false,false,0,((0:Nat):Int),rfl,⟨rfl,rfl,rfl,rfl,rfl,rfl,rfl⟩,⟨_,rfl⟩,HP⟩)) ?_
 intro e a' W hQ
 cases e with
 | ret=>exact hQ
 | panic c=>exact hQ
 | normal=>exact hQ.elim
 | goto l=>exact hQ.elim
 | outgrown=>exact hQ.elim
 | exit id =>
  obtain ⟨rfl,hat,⟨m,rfl⟩,hnone⟩:=hQ
  obtain ⟨u,rfl⟩:=hat.is
  have h2:=HNO.out hnone
  show K _ _
  apply hK
  rw [h2.1]
  exact word_tail np HL.out hx hb hin h2.2 u m
theorem token_str98 (np:Bool) (last:lx.Bs) (r:lx.Bs):lx.token np last (98::r)=(match lx.prefx 3 false false (98::r) with
   | some (by_,ra,i)=>lx.strTok by_ ra np i (98::r)
   | none=>lx.word np (98::r)):=rfl
set_option maxHeartbeats 1000000 in
set_option maxRecDepth 100000 in
theorem tok_98 {w:World} {B b f:Nat} {s:ByteArray} {x:St} (np:Bool) (last:lx.Bs) (h:LexS w B b f s x) (hx:x.str=⟨#[]⟩) (hb:x.base=0) (hin:x.at_<s.size) (hc:s[x.at_]=98) (hcr:lx.token np last (rest s x.at_)≠.crash) :
  Calls Tryz.prog 57 #[.pointer (some ⟨b,0,none⟩),.bool np] w (TokPost B b f s x (lx.token np last (rest s x.at_)) w):=by
 have ht:lx.token np last (rest s x.at_)=(match lx.prefx 3 false false (rest s x.at_) with
   | some (by_,ra,i)=>lx.strTok by_ ra np i (rest s x.at_)
   | none=>lx.word np (rest s x.at_)):=by
  rw [rest_cons s _ hin,hc]
  exact token_str98 np last _
 have HP:=Lib.hid (PI.start (np:=np) (last:=last) h hx hb hin (by rw [hc];decide) hcr ht)
 have HNO:Hid (lx.prefx 3 false false (rest s x.at_)=none→lx.token np last (rest s x.at_)=lx.word np (rest s x.at_)∧lx.isIdS (lx.nb (rest s x.at_) 0)=true):=fun e=>by
  refine ⟨by rw [ht,e], ?_⟩
  rw [rest_cons s _ hin,hc] at e ⊢
  first|rfl|exact absurd e (by rw [prefx_q (by decide)];simp)
 clear ht hcr
 generalize lx.token np last (rest s x.at_)=o at *
 have HL:=Lib.hid h
 have SZ:=h.sz
 have hle:=h.le
 have hI:(!(inB s x.at_))=false:=by simp [inB,hin]
 have J1:Hid (bt s (x.at_+(0:Int).toNat)=98):=by show bt s (x.at_+0)=_;rw [Nat.add_zero,bt_in hin,hc];rfl
 have J9:Hid (bt s x.at_=98):=by show _=_;rw [bt_in hin,hc];rfl
 have pin0:x.at_+(0:Int).toNat<s.size:=by simpa using hin
 clear h
 go_enter Tryz.func57,Tryz.ntmps57
 go_wp2_with (first
  | (go_at_call 72;refine (eof_any HL.out.at (by omega) (by omega)).mono ?_;simp only [hI];rintro e w' ⟨rfl,n,rfl⟩)
  | (go_at_call 80;refine (peek_t _ _ (HL.out.drewN _).at (by omega) pin0 (by omega) J1).mono ?_;rintro e w' ⟨rfl,n,rfl⟩))
 go_step3
 go_wp2_with fail
 go_step3
 go_wp2_with fail
 rename_i K hK
 refine wp_mono (pre_loop (by exact ⟨false,false,0,((0:Nat):Int),rfl,⟨rfl,rfl,rfl,rfl,rfl,rfl,rfl⟩,⟨_,rfl⟩,HP⟩)) ?_
 intro e a' W hQ
 cases e with
 | ret=>exact hQ
 | panic c=>exact hQ
 | normal=>exact hQ.elim
 | goto l=>exact hQ.elim
 | outgrown=>exact hQ.elim
 | exit id =>
  obtain ⟨rfl,hat,⟨m,rfl⟩,hnone⟩:=hQ
  obtain ⟨u,rfl⟩:=hat.is
  have h2:=HNO.out hnone
  show K _ _
  apply hK
  rw [h2.1]
  exact word_tail np HL.out hx hb hin h2.2 u m
theorem token_str82 (np:Bool) (last:lx.Bs) (r:lx.Bs):lx.token np last (82::r)=(match lx.prefx 3 false false (82::r) with
   | some (by_,ra,i)=>lx.strTok by_ ra np i (82::r)
   | none=>lx.word np (82::r)):=rfl
set_option maxHeartbeats 1000000 in
set_option maxRecDepth 100000 in
theorem tok_82 {w:World} {B b f:Nat} {s:ByteArray} {x:St} (np:Bool) (last:lx.Bs) (h:LexS w B b f s x) (hx:x.str=⟨#[]⟩) (hb:x.base=0) (hin:x.at_<s.size) (hc:s[x.at_]=82) (hcr:lx.token np last (rest s x.at_)≠.crash) :
  Calls Tryz.prog 57 #[.pointer (some ⟨b,0,none⟩),.bool np] w (TokPost B b f s x (lx.token np last (rest s x.at_)) w):=by
 have ht:lx.token np last (rest s x.at_)=(match lx.prefx 3 false false (rest s x.at_) with
   | some (by_,ra,i)=>lx.strTok by_ ra np i (rest s x.at_)
   | none=>lx.word np (rest s x.at_)):=by
  rw [rest_cons s _ hin,hc]
  exact token_str82 np last _
 have HP:=Lib.hid (PI.start (np:=np) (last:=last) h hx hb hin (by rw [hc];decide) hcr ht)
 have HNO:Hid (lx.prefx 3 false false (rest s x.at_)=none→lx.token np last (rest s x.at_)=lx.word np (rest s x.at_)∧lx.isIdS (lx.nb (rest s x.at_) 0)=true):=fun e=>by
  refine ⟨by rw [ht,e], ?_⟩
  rw [rest_cons s _ hin,hc] at e ⊢
  first|rfl|exact absurd e (by rw [prefx_q (by decide)];simp)
 clear ht hcr
 generalize lx.token np last (rest s x.at_)=o at *
 have HL:=Lib.hid h
 have SZ:=h.sz
 have hle:=h.le
 have hI:(!(inB s x.at_))=false:=by simp [inB,hin]
 have J1:Hid (bt s (x.at_+(0:Int).toNat)=82):=by show bt s (x.at_+0)=_;rw [Nat.add_zero,bt_in hin,hc];rfl
 have J9:Hid (bt s x.at_=82):=by show _=_;rw [bt_in hin,hc];rfl
 have pin0:x.at_+(0:Int).toNat<s.size:=by simpa using hin
 clear h
 go_enter Tryz.func57,Tryz.ntmps57
 go_wp2_with (first
  | (go_at_call 72;refine (eof_any HL.out.at (by omega) (by omega)).mono ?_;simp only [hI];rintro e w' ⟨rfl,n,rfl⟩)
  | (go_at_call 80;refine (peek_t _ _ (HL.out.drewN _).at (by omega) pin0 (by omega) J1).mono ?_;rintro e w' ⟨rfl,n,rfl⟩))
 go_step3
 go_wp2_with fail
 go_step3
 go_wp2_with fail
 rename_i K hK
 refine wp_mono (pre_loop (by exact ⟨false,false,0,((0:Nat):Int),rfl,⟨rfl,rfl,rfl,rfl,rfl,rfl,rfl⟩,⟨_,rfl⟩,HP⟩)) ?_
 intro e a' W hQ
 cases e with
 | ret=>exact hQ
 | panic c=>exact hQ
 | normal=>exact hQ.elim
 | goto l=>exact hQ.elim
 | outgrown=>exact hQ.elim
 | exit id =>
  obtain ⟨rfl,hat,⟨m,rfl⟩,hnone⟩:=hQ
  obtain ⟨u,rfl⟩:=hat.is
  have h2:=HNO.out hnone
  show K _ _
  apply hK
  rw [h2.1]
  exact word_tail np HL.out hx hb hin h2.2 u m
theorem token_str114 (np:Bool) (last:lx.Bs) (r:lx.Bs):lx.token np last (114::r)=(match lx.prefx 3 false false (114::r) with
   | some (by_,ra,i)=>lx.strTok by_ ra np i (114::r)
   | none=>lx.word np (114::r)):=rfl
set_option maxHeartbeats 1000000 in
set_option maxRecDepth 100000 in
theorem tok_114 {w:World} {B b f:Nat} {s:ByteArray} {x:St} (np:Bool) (last:lx.Bs) (h:LexS w B b f s x) (hx:x.str=⟨#[]⟩) (hb:x.base=0) (hin:x.at_<s.size) (hc:s[x.at_]=114) (hcr:lx.token np last (rest s x.at_)≠.crash) :
  Calls Tryz.prog 57 #[.pointer (some ⟨b,0,none⟩),.bool np] w (TokPost B b f s x (lx.token np last (rest s x.at_)) w):=by
 have ht:lx.token np last (rest s x.at_)=(match lx.prefx 3 false false (rest s x.at_) with
   | some (by_,ra,i)=>lx.strTok by_ ra np i (rest s x.at_)
   | none=>lx.word np (rest s x.at_)):=by
  rw [rest_cons s _ hin,hc]
  exact token_str114 np last _
 have HP:=Lib.hid (PI.start (np:=np) (last:=last) h hx hb hin (by rw [hc];decide) hcr ht)
 have HNO:Hid (lx.prefx 3 false false (rest s x.at_)=none→lx.token np last (rest s x.at_)=lx.word np (rest s x.at_)∧lx.isIdS (lx.nb (rest s x.at_) 0)=true):=fun e=>by
  refine ⟨by rw [ht,e], ?_⟩
  rw [rest_cons s _ hin,hc] at e ⊢
  first|rfl|exact absurd e (by rw [prefx_q (by decide)];simp)
 clear ht hcr
 generalize lx.token np last (rest s x.at_)=o at *
 have HL:=Lib.hid h
 have SZ:=h.sz
 have hle:=h.le
 have hI:(!(inB s x.at_))=false:=by simp [inB,hin]
 have J1:Hid (bt s (x.at_+(0:Int).toNat)=114):=by show bt s (x.at_+0)=_;rw [Nat.add_zero,bt_in hin,hc];rfl
 have J9:Hid (bt s x.at_=114):=by show _=_;rw [bt_in hin,hc];rfl
 have pin0:x.at_+(0:Int).toNat<s.size:=by simpa using hin
 clear h
 go_enter Tryz.func57,Tryz.ntmps57
 go_wp2_with (first
  | (go_at_call 72;refine (eof_any HL.out.at (by omega) (by omega)).mono ?_;simp only [hI];rintro e w' ⟨rfl,n,rfl⟩)
  | (go_at_call 80;refine (peek_t _ _ (HL.out.drewN _).at (by omega) pin0 (by omega) J1).mono ?_;rintro e w' ⟨rfl,n,rfl⟩))
 go_step3
 go_wp2_with fail
 go_step3
 go_wp2_with fail
 rename_i K hK
 refine wp_mono (pre_loop (by exact ⟨false,false,0,((0:Nat):Int),rfl,⟨rfl,rfl,rfl,rfl,rfl,rfl,rfl⟩,⟨_,rfl⟩,HP⟩)) ?_
 intro e a' W hQ
 cases e with
 | ret=>exact hQ
 | panic c=>exact hQ
 | normal=>exact hQ.elim
 | goto l=>exact hQ.elim
 | outgrown=>exact hQ.elim
 | exit id =>
  obtain ⟨rfl,hat,⟨m,rfl⟩,hnone⟩:=hQ
  obtain ⟨u,rfl⟩:=hat.is
  have h2:=HNO.out hnone
  show K _ _
  apply hK
  rw [h2.1]
  exact word_tail np HL.out hx hb hin h2.2 u m
theorem token_str34 (np:Bool) (last:lx.Bs) (r:lx.Bs):lx.token np last (34::r)=(match lx.prefx 3 false false (34::r) with
   | some (by_,ra,i)=>lx.strTok by_ ra np i (34::r)
   | none=>lx.word np (34::r)):=rfl
set_option maxHeartbeats 1000000 in
set_option maxRecDepth 100000 in
theorem tok_34 {w:World} {B b f:Nat} {s:ByteArray} {x:St} (np:Bool) (last:lx.Bs) (h:LexS w B b f s x) (hx:x.str=⟨#[]⟩) (hb:x.base=0) (hin:x.at_<s.size) (hc:s[x.at_]=34) (hcr:lx.token np last (rest s x.at_)≠.crash) :
  Calls Tryz.prog 57 #[.pointer (some ⟨b,0,none⟩),.bool np] w (TokPost B b f s x (lx.token np last (rest s x.at_)) w):=by
 have ht:lx.token np last (rest s x.at_)=(match lx.prefx 3 false false (rest s x.at_) with
   | some (by_,ra,i)=>lx.strTok by_ ra np i (rest s x.at_)
   | none=>lx.word np (rest s x.at_)):=by
  rw [rest_cons s _ hin,hc]
  exact token_str34 np last _
 have HP:=Lib.hid (PI.start (np:=np) (last:=last) h hx hb hin (by rw [hc];decide) hcr ht)
 have HNO:Hid (lx.prefx 3 false false (rest s x.at_)=none→lx.token np last (rest s x.at_)=lx.word np (rest s x.at_)∧lx.isIdS (lx.nb (rest s x.at_) 0)=true):=fun e=>by
  refine ⟨by rw [ht,e], ?_⟩
  rw [rest_cons s _ hin,hc] at e ⊢
  first|rfl|exact absurd e (by rw [prefx_q (by decide)];simp)
 clear ht hcr
 generalize lx.token np last (rest s x.at_)=o at *
 have HL:=Lib.hid h
 have SZ:=h.sz
 have hle:=h.le
 have hI:(!(inB s x.at_))=false:=by simp [inB,hin]
 have J1:Hid (bt s (x.at_+(0:Int).toNat)=34):=by show bt s (x.at_+0)=_;rw [Nat.add_zero,bt_in hin,hc];rfl
 have J9:Hid (bt s x.at_=34):=by show _=_;rw [bt_in hin,hc];rfl
 have pin0:x.at_+(0:Int).toNat<s.size:=by simpa using hin
 clear h
 go_enter Tryz.func57,Tryz.ntmps57
 go_wp2_with (first
  | (go_at_call 72;refine (eof_any HL.out.at (by omega) (by omega)).mono ?_;simp only [hI];rintro e w' ⟨rfl,n,rfl⟩)
  | (go_at_call 80;refine (peek_t _ _ (HL.out.drewN _).at (by omega) pin0 (by omega) J1).mono ?_;rintro e w' ⟨rfl,n,rfl⟩))
 go_step3
 go_wp2_with fail
 go_step3
 go_wp2_with fail
 rename_i K hK
 refine wp_mono (pre_loop (by exact ⟨false,false,0,((0:Nat):Int),rfl,⟨rfl,rfl,rfl,rfl,rfl,rfl,rfl⟩,⟨_,rfl⟩,HP⟩)) ?_
 intro e a' W hQ
 cases e with
 | ret=>exact hQ
 | panic c=>exact hQ
 | normal=>exact hQ.elim
 | goto l=>exact hQ.elim
 | outgrown=>exact hQ.elim
 | exit id =>
  obtain ⟨rfl,hat,⟨m,rfl⟩,hnone⟩:=hQ
  obtain ⟨u,rfl⟩:=hat.is
  have h2:=HNO.out hnone
  show K _ _
  apply hK
  rw [h2.1]
  exact word_tail np HL.out hx hb hin h2.2 u m
theorem token_str39 (np:Bool) (last:lx.Bs) (r:lx.Bs):lx.token np last (39::r)=(match lx.prefx 3 false false (39::r) with
   | some (by_,ra,i)=>lx.strTok by_ ra np i (39::r)
   | none=>lx.word np (39::r)):=rfl
set_option maxHeartbeats 1000000 in
set_option maxRecDepth 100000 in
theorem tok_39 {w:World} {B b f:Nat} {s:ByteArray} {x:St} (np:Bool) (last:lx.Bs) (h:LexS w B b f s x) (hx:x.str=⟨#[]⟩) (hb:x.base=0) (hin:x.at_<s.size) (hc:s[x.at_]=39) (hcr:lx.token np last (rest s x.at_)≠.crash) :
  Calls Tryz.prog 57 #[.pointer (some ⟨b,0,none⟩),.bool np] w (TokPost B b f s x (lx.token np last (rest s x.at_)) w):=by
 have ht:lx.token np last (rest s x.at_)=(match lx.prefx 3 false false (rest s x.at_) with
   | some (by_,ra,i)=>lx.strTok by_ ra np i (rest s x.at_)
   | none=>lx.word np (rest s x.at_)):=by
  rw [rest_cons s _ hin,hc]
  exact token_str39 np last _
 have HP:=Lib.hid (PI.start (np:=np) (last:=last) h hx hb hin (by rw [hc];decide) hcr ht)
 have HNO:Hid (lx.prefx 3 false false (rest s x.at_)=none→lx.token np last (rest s x.at_)=lx.word np (rest s x.at_)∧lx.isIdS (lx.nb (rest s x.at_) 0)=true):=fun e=>by
  refine ⟨by rw [ht,e], ?_⟩
  rw [rest_cons s _ hin,hc] at e ⊢
  first|rfl|exact absurd e (by rw [prefx_q (by decide)];simp)
 clear ht hcr
 generalize lx.token np last (rest s x.at_)=o at *
 have HL:=Lib.hid h
 have SZ:=h.sz
 have hle:=h.le
 have hI:(!(inB s x.at_))=false:=by simp [inB,hin]
 have J1:Hid (bt s (x.at_+(0:Int).toNat)=39):=by show bt s (x.at_+0)=_;rw [Nat.add_zero,bt_in hin,hc];rfl
 have J9:Hid (bt s x.at_=39):=by show _=_;rw [bt_in hin,hc];rfl
 have pin0:x.at_+(0:Int).toNat<s.size:=by simpa using hin
 clear h
 go_enter Tryz.func57,Tryz.ntmps57
 go_wp2_with (first
  | (go_at_call 72;refine (eof_any HL.out.at (by omega) (by omega)).mono ?_;simp only [hI];rintro e w' ⟨rfl,n,rfl⟩)
  | (go_at_call 80;refine (peek_t _ _ (HL.out.drewN _).at (by omega) pin0 (by omega) J1).mono ?_;rintro e w' ⟨rfl,n,rfl⟩))
 go_step3
 go_wp2_with fail
 go_step3
 go_wp2_with fail
 rename_i K hK
 refine wp_mono (pre_loop (by exact ⟨false,false,0,((0:Nat):Int),rfl,⟨rfl,rfl,rfl,rfl,rfl,rfl,rfl⟩,⟨_,rfl⟩,HP⟩)) ?_
 intro e a' W hQ
 cases e with
 | ret=>exact hQ
 | panic c=>exact hQ
 | normal=>exact hQ.elim
 | goto l=>exact hQ.elim
 | outgrown=>exact hQ.elim
 | exit id =>
  obtain ⟨rfl,hat,⟨m,rfl⟩,hnone⟩:=hQ
  obtain ⟨u,rfl⟩:=hat.is
  have h2:=HNO.out hnone
  show K _ _
  apply hK
  rw [h2.1]
  exact word_tail np HL.out hx hb hin h2.2 u m
end Go.Proofs.YtaamolahbkgofaaGreatDoor.lex
set_option linter.unusedVariables false
namespace Go.Proofs.YtaamolahbkgofaaGreatDoor.lex
open Go.RowKit mem lines plain
theorem u8_ne {c d:UInt8} (h:¬c=d):¬((c.toNat:Int)=(d.toNat:Int)):=fun e=>h (UInt8.toNat_inj.1 (Int.ofNat_inj.1 e))
theorem dig_mem {c:UInt8} (h:lx.dig c=true):c∈([48,49,50,51,52,53,54,55,56,57]:lx.Bs):=by
 have h1:48≤c.toNat∧c.toNat≤57:=by simpa [lx.dig] using h
 have h2:c.toNat=48∨c.toNat=49∨c.toNat=50∨c.toNat=51∨c.toNat=52∨c.toNat=53∨c.toNat=54∨c.toNat=55∨c.toNat=56∨c.toNat=57:=by omega
 have e:∀d:UInt8,c.toNat=d.toNat→c=d:=fun d hd=>UInt8.toNat_inj.1 hd
 rcases h2 with h2|h2|h2|h2|h2|h2|h2|h2|h2|h2
 ·rw [e 48 h2];decide
 ·rw [e 49 h2];decide
 ·rw [e 50 h2];decide
 ·rw [e 51 h2];decide
 ·rw [e 52 h2];decide
 ·rw [e 53 h2];decide
 ·rw [e 54 h2];decide
 ·rw [e 55 h2];decide
 ·rw [e 56 h2];decide
 ·rw [e 57 h2];decide
theorem token_cons (np:Bool) (last:lx.Bs) (c:UInt8) (r:lx.Bs):lx.token np last (c::r) =
  if c∈([40,41,123,125,59,44,91,93,126,42,47,38,94,37,58,63,92,36]:lx.Bs) then .tok [c] 1 [] 0 none
  else if c=46 then (if lx.dotKind last=false∧lx.isDg (lx.nb r 0)=true then lx.number np (c::r) else .tok [46] 1 [] 0 (some (lx.dotKind last)))
  else if c=60 then lx.sign2 (c::r) 60 [60,61,62]
  else if c=62 then lx.sign2 (c::r) 62 [62,61]
  else if c=43 then lx.sign2 (c::r) 43 [61]
  else if c=45 then lx.sign2 (c::r) 45 [61,62]
  else if c=61 then lx.sign2 (c::r) 61 [62]
  else if c=124 then lx.sign2 (c::r) 124 [62,124]
  else if c=33 then lx.sign2 (c::r) 33 [61]
  else if c=64 then
   (if lx.nb r 0=64 then .tok [64,64] 2 [] 0 none
   else if lx.isIdS (lx.nb r 0) then .tok lx.kParam (1+lx.idLen r) (r.take (lx.idLen r)) 0 none
   else .tok [64] 1 [] 0 none)
  else if c=96 then lx.ofQ lx.kIdent 0 (lx.quoted [96] false true true np (c::r))
  else if lx.dig c then lx.number np (c::r)
  else if c∈([66,98,82,114,34,39]:lx.Bs) then
   (match lx.prefx 3 false false (c::r) with
   | some (by_,ra,i)=>lx.strTok by_ ra np i (c::r)
   | none=>lx.word np (c::r))
  else lx.word np (c::r):=rfl
theorem token_word {np:Bool} {last:lx.Bs} {c:UInt8} {r:lx.Bs} (h1:c∉([40,41,123,125,59,44,91,93,126,42,47,38,94,37,58,63,92,36]:lx.Bs)) (h2:c∉([46,60,62,43,45,61,124,33,64,96]:lx.Bs)) (h3:c∉([48,49,50,51,52,53,54,55,56,57]:lx.Bs)) (h4:c∉([66,98,82,114,34,39]:lx.Bs)) :
  lx.token np last (c::r)=lx.word np (c::r):=by
 simp only [List.mem_cons,List.not_mem_nil,or_false,not_or] at h2
 obtain ⟨a1,a2,a3,a4,a5,a6,a7,a8,a9,a10⟩:=h2
 rw [token_cons,if_neg h1,if_neg a1,if_neg a2,if_neg a3,if_neg a4,if_neg a5,if_neg a6,if_neg a7,if_neg a8,if_neg a9,if_neg a10,if_neg (fun e=>h3 (dig_mem e)),if_neg h4]
theorem token_any {w:World} {B b f:Nat} {s:ByteArray} {x:St} (np:Bool) (last:lx.Bs) (hla:x.last.data.toList=last) (h:LexS w B b f s x) (hx:x.str=⟨#[]⟩) (hb:x.base=0) (hcr:lx.token np last (rest s x.at_)≠.crash) :
  Calls Tryz.prog 57 #[.pointer (some ⟨b,0,none⟩),.bool np] w (TokPost B b f s x (lx.token np last (rest s x.at_)) w):=by
 by_cases hin:x.at_<s.size
 ·by_cases h40:s[x.at_]=40
  ·exact tok_40 np last h hx hb hin h40
  by_cases h41:s[x.at_]=41
  ·exact tok_41 np last h hx hb hin h41
  by_cases h123:s[x.at_]=123
  ·exact tok_123 np last h hx hb hin h123
  by_cases h125:s[x.at_]=125
  ·exact tok_125 np last h hx hb hin h125
  by_cases h59:s[x.at_]=59
  ·exact tok_59 np last h hx hb hin h59
  by_cases h44:s[x.at_]=44
  ·exact tok_44 np last h hx hb hin h44
  by_cases h91:s[x.at_]=91
  ·exact tok_91 np last h hx hb hin h91
  by_cases h93:s[x.at_]=93
  ·exact tok_93 np last h hx hb hin h93
  by_cases h126:s[x.at_]=126
  ·exact tok_126 np last h hx hb hin h126
  by_cases h42:s[x.at_]=42
  ·exact tok_42 np last h hx hb hin h42
  by_cases h47:s[x.at_]=47
  ·exact tok_47 np last h hx hb hin h47
  by_cases h38:s[x.at_]=38
  ·exact tok_38 np last h hx hb hin h38
  by_cases h94:s[x.at_]=94
  ·exact tok_94 np last h hx hb hin h94
  by_cases h37:s[x.at_]=37
  ·exact tok_37 np last h hx hb hin h37
  by_cases h58:s[x.at_]=58
  ·exact tok_58 np last h hx hb hin h58
  by_cases h63:s[x.at_]=63
  ·exact tok_63 np last h hx hb hin h63
  by_cases h92:s[x.at_]=92
  ·exact tok_92 np last h hx hb hin h92
  by_cases h36:s[x.at_]=36
  ·exact tok_36 np last h hx hb hin h36
  by_cases h46:s[x.at_]=46
  ·exact tok_46 np last hla h hx hb hin h46
  by_cases h60:s[x.at_]=60
  ·exact tok_60 np last h hx hb hin h60
  by_cases h62:s[x.at_]=62
  ·exact tok_62 np last h hx hb hin h62
  by_cases h43:s[x.at_]=43
  ·exact tok_43 np last h hx hb hin h43
  by_cases h45:s[x.at_]=45
  ·exact tok_45 np last h hx hb hin h45
  by_cases h61:s[x.at_]=61
  ·exact tok_61 np last h hx hb hin h61
  by_cases h124:s[x.at_]=124
  ·exact tok_124 np last h hx hb hin h124
  by_cases h33:s[x.at_]=33
  ·exact tok_33 np last h hx hb hin h33
  by_cases h64:s[x.at_]=64
  ·exact tok_64 np last h hx hb hin h64
  by_cases h96:s[x.at_]=96
  ·exact tok_96 np last h hx hb hin h96 hcr
  by_cases h48:s[x.at_]=48
  ·exact tok_48 np last h hx hb hin h48
  by_cases h49:s[x.at_]=49
  ·exact tok_49 np last h hx hb hin h49
  by_cases h50:s[x.at_]=50
  ·exact tok_50 np last h hx hb hin h50
  by_cases h51:s[x.at_]=51
  ·exact tok_51 np last h hx hb hin h51
  by_cases h52:s[x.at_]=52
  ·exact tok_52 np last h hx hb hin h52
  by_cases h53:s[x.at_]=53
  ·exact tok_53 np last h hx hb hin h53
  by_cases h54:s[x.at_]=54
  ·exact tok_54 np last h hx hb hin h54
  by_cases h55:s[x.at_]=55
  ·exact tok_55 np last h hx hb hin h55
  by_cases h56:s[x.at_]=56
  ·exact tok_56 np last h hx hb hin h56
  by_cases h57:s[x.at_]=57
  ·exact tok_57 np last h hx hb hin h57
  by_cases h66:s[x.at_]=66
  ·exact tok_66 np last h hx hb hin h66 hcr
  by_cases h98:s[x.at_]=98
  ·exact tok_98 np last h hx hb hin h98 hcr
  by_cases h82:s[x.at_]=82
  ·exact tok_82 np last h hx hb hin h82 hcr
  by_cases h114:s[x.at_]=114
  ·exact tok_114 np last h hx hb hin h114 hcr
  by_cases h34:s[x.at_]=34
  ·exact tok_34 np last h hx hb hin h34 hcr
  by_cases h39:s[x.at_]=39
  ·exact tok_39 np last h hx hb hin h39 hcr
  have hw:lx.token np last (rest s x.at_)=lx.word np (rest s x.at_):=by
   rw [rest_cons s _ hin]
   refine token_word ?_ ?_ ?_ ?_
   iterate 4
    ·simp [*]
  cases hst:lx.isIdS (lx.nb (rest s x.at_) 0)
  ·cases np
   ·exact tok_other_p last h hx hb hin hw hst (u8_ne h40) (u8_ne h41) (u8_ne h123) (u8_ne h125) (u8_ne h59) (u8_ne h44) (u8_ne h91) (u8_ne h93) (u8_ne h126) (u8_ne h42) (u8_ne h47) (u8_ne h38) (u8_ne h94) (u8_ne h37) (u8_ne h58) (u8_ne h63) (u8_ne h92) (u8_ne h36) (u8_ne h46) (u8_ne h60) (u8_ne h62) (u8_ne h43) (u8_ne h45) (u8_ne h61) (u8_ne h124) (u8_ne h33) (u8_ne h64) (u8_ne h96) (u8_ne h48) (u8_ne h49) (u8_ne h50) (u8_ne h51) (u8_ne h52) (u8_ne h53) (u8_ne h54) (u8_ne h55) (u8_ne h56) (u8_ne h57) (u8_ne h66) (u8_ne h98) (u8_ne h82) (u8_ne h114) (u8_ne h34) (u8_ne h39)
   ·exact tok_other_np last h hx hb hin hw hst (u8_ne h40) (u8_ne h41) (u8_ne h123) (u8_ne h125) (u8_ne h59) (u8_ne h44) (u8_ne h91) (u8_ne h93) (u8_ne h126) (u8_ne h42) (u8_ne h47) (u8_ne h38) (u8_ne h94) (u8_ne h37) (u8_ne h58) (u8_ne h63) (u8_ne h92) (u8_ne h36) (u8_ne h46) (u8_ne h60) (u8_ne h62) (u8_ne h43) (u8_ne h45) (u8_ne h61) (u8_ne h124) (u8_ne h33) (u8_ne h64) (u8_ne h96) (u8_ne h48) (u8_ne h49) (u8_ne h50) (u8_ne h51) (u8_ne h52) (u8_ne h53) (u8_ne h54) (u8_ne h55) (u8_ne h56) (u8_ne h57) (u8_ne h66) (u8_ne h98) (u8_ne h82) (u8_ne h114) (u8_ne h34) (u8_ne h39)
  ·exact tok_word np last h hx hb hin hw hst (u8_ne h40) (u8_ne h41) (u8_ne h123) (u8_ne h125) (u8_ne h59) (u8_ne h44) (u8_ne h91) (u8_ne h93) (u8_ne h126) (u8_ne h42) (u8_ne h47) (u8_ne h38) (u8_ne h94) (u8_ne h37) (u8_ne h58) (u8_ne h63) (u8_ne h92) (u8_ne h36) (u8_ne h46) (u8_ne h60) (u8_ne h62) (u8_ne h43) (u8_ne h45) (u8_ne h61) (u8_ne h124) (u8_ne h33) (u8_ne h64) (u8_ne h96) (u8_ne h48) (u8_ne h49) (u8_ne h50) (u8_ne h51) (u8_ne h52) (u8_ne h53) (u8_ne h54) (u8_ne h55) (u8_ne h56) (u8_ne h57) (u8_ne h66) (u8_ne h98) (u8_ne h82) (u8_ne h114) (u8_ne h34) (u8_ne h39)
 ·exact tok_eof np last h hx hb hin
set_option maxHeartbeats 1000000 in
set_option maxRecDepth 100000 in
theorem field_no {w:World} {B b f:Nat} {s:ByteArray} {x:St} (np:Bool) (o:lx.Out) (h:LexS w B b f s x) (hp:lx.isId (lx.nb (rest s x.at_) 0)=false) (hT:∀m,Calls Tryz.prog 57 #[.pointer (some ⟨b,0,none⟩),.bool np] (w.drewN m) (TokPost B b f s x o (w.drewN m))) (hne:o≠.crash) :
  Calls Tryz.prog 56 #[.pointer (some ⟨b,0,none⟩),.bool np] w (TokPost B b f s x o w):=by
 have HL:=Lib.hid h
 have SZ:=h.sz
 have hle:=h.le
 have HT:=Lib.hid hT
 clear h hT
 by_cases hin:x.at_<s.size
 ·have JA:Hid (inB s (x.at_+(0:Int).toNat)=true):=by show inB s (x.at_+0)=true;simp [inB,hin]
  have J1:Hid (bt s (x.at_+(0:Int).toNat)=(s[x.at_].toNat:Int)):=by show bt s (x.at_+0)=_;rw [Nat.add_zero,bt_in hin]
  have pin0:x.at_+(0:Int).toNat<s.size:=by simpa using hin
  have hp':lx.idP s[x.at_]=false:=by
   rw [rest_cons s _ hin] at hp
   exact hp
  have JP:=part_dec hp'
  clear hp hp'
  generalize s[x.at_]=c at *
  by_cases hf:o=.fault
  ·go_enter Tryz.func56,Tryz.ntmps56
   go_wp2_with (first
    | (go_at_call 78;refine (peekOk_t _ _ HL.out.at (by omega) (by omega) (by omega) (by omega) JA).mono ?_;rintro e w' ⟨rfl,n,rfl⟩)
    | (go_at_call 80;refine (peek_t _ _ (HL.out.drewN _).at (by omega) pin0 (by omega) J1).mono ?_;rintro e w' ⟨rfl,n,rfl⟩)
    | (go_at_call 79;refine (part_z _ _ _ JP).mono ?_;rintro e w' ⟨rfl,rfl⟩)
    | (go_at_call 57;refine (HT.out _).mono ?_;rw [hf];rintro e w9 ⟨q,rfl,hq⟩;have HQ:=Lib.hid hq;clear hq))
   exact ⟨rfl,Faults.trans (Grown2.of (grown_drewN (grown_refl w (some b)) _)) ⟨q,rfl,HQ.out⟩⟩
  ·go_enter Tryz.func56,Tryz.ntmps56
   go_wp2_with (first
    | (go_at_call 78;refine (peekOk_t _ _ HL.out.at (by omega) (by omega) (by omega) (by omega) JA).mono ?_;rintro e w' ⟨rfl,n,rfl⟩)
    | (go_at_call 80;refine (peek_t _ _ (HL.out.drewN _).at (by omega) pin0 (by omega) J1).mono ?_;rintro e w' ⟨rfl,n,rfl⟩)
    | (go_at_call 79;refine (part_z _ _ _ JP).mono ?_;rintro e w' ⟨rfl,rfl⟩)
    | (go_at_call 57;refine (HT.out _).mono ?_;rintro e w9 hp;obtain ⟨z,rfl,_⟩:=TokPost.go hp hf hne;have HZ:=Lib.hid (TokPost.trans (grown_drewN (grown_refl w (some b)) _) hp);clear hp))
   (first|go_end0|go_ret)
   exact HZ.out
 ·have JA:Hid (inB s (x.at_+(0:Int).toNat)=false):=by show inB s (x.at_+0)=false;simp [inB];omega
  clear hp
  by_cases hf:o=.fault
  ·go_enter Tryz.func56,Tryz.ntmps56
   go_wp2_with (first
    | (go_at_call 78;refine (peekOk_t _ _ HL.out.at (by omega) (by omega) (by omega) (by omega) JA).mono ?_;rintro e w' ⟨rfl,n,rfl⟩)
    | (go_at_call 57;refine (HT.out _).mono ?_;rw [hf];rintro e w9 ⟨q,rfl,hq⟩;have HQ:=Lib.hid hq;clear hq))
   exact ⟨rfl,Faults.trans (Grown2.of (grown_drewN (grown_refl w (some b)) _)) ⟨q,rfl,HQ.out⟩⟩
  ·go_enter Tryz.func56,Tryz.ntmps56
   go_wp2_with (first
    | (go_at_call 78;refine (peekOk_t _ _ HL.out.at (by omega) (by omega) (by omega) (by omega) JA).mono ?_;rintro e w' ⟨rfl,n,rfl⟩)
    | (go_at_call 57;refine (HT.out _).mono ?_;rintro e w9 hp;obtain ⟨z,rfl,_⟩:=TokPost.go hp hf hne;have HZ:=Lib.hid (TokPost.trans (grown_drewN (grown_refl w (some b)) _) hp);clear hp))
   (first|go_end0|go_ret)
   exact HZ.out
set_option maxHeartbeats 2000000 in
set_option maxRecDepth 100000 in
theorem field_id {w:World} {B b f:Nat} {s:ByteArray} {x:St} (np:Bool) (last:lx.Bs) (h:LexS w B b f s x) (hx:x.str=⟨#[]⟩) (hb:x.base=0) (hin:x.at_<s.size) (hp:lx.idP s[x.at_]=true) :
  Calls Tryz.prog 56 #[.pointer (some ⟨b,0,none⟩),.bool np] w (TokPost B b f s x (lx.field np last (rest s x.at_)) w):=by
 have HL:=Lib.hid h
 have SZ:=h.sz
 have hle:=h.le
 have HO:Hid (lx.field np last (rest s x.at_)=.tok lx.kIdent (0+lx.idLen (rest s (x.at_+0))) ((rest s (x.at_+0)).take (lx.idLen (rest s (x.at_+0)))) 0 none):=by
  show _=_
  rw [Nat.zero_add,Nat.add_zero]
  unfold lx.field
  rw [if_pos]
  rw [rest_cons s _ hin]
  exact hp
 have JA:Hid (inB s (x.at_+(0:Int).toNat)=true):=by show inB s (x.at_+0)=true;simp [inB,hin]
 have J1:Hid (bt s (x.at_+(0:Int).toNat)=(s[x.at_].toNat:Int)):=by show bt s (x.at_+0)=_;rw [Nat.add_zero,bt_in hin]
 have pin0:x.at_+(0:Int).toNat<s.size:=by simpa using hin
 have JP:=part_dec hp
 clear h hp
 generalize s[x.at_]=c at J1 JP
 go_enter Tryz.func56,Tryz.ntmps56
 go_wp2_with (first
  | (go_at_call 78;refine (peekOk_t _ _ HL.out.at (by omega) (by omega) (by omega) (by omega) JA).mono ?_;rintro e w' ⟨rfl,n,rfl⟩)
  | (go_at_call 80;refine (peek_t _ _ (HL.out.drewN _).at (by omega) pin0 (by omega) J1).mono ?_;rintro e w' ⟨rfl,n,rfl⟩)
  | (go_at_call 79;refine (part_z _ _ _ JP).mono ?_;rintro e w' ⟨rfl,rfl⟩))
 have c1:∀n,(w.drewN n).cell? ⟨b,1,none⟩=some (.string x.kind):=fun n=>HL.out.cell 1
 have f1:∀n,(w.drewN n).frozen? ⟨b,1,none⟩=false:=fun n=>HL.out.free 1
 go_loopw [4] (fun iv wq=>∃k:Nat,iv=.int .i64 (k:Int)∧0≤k∧x.at_+k≤s.size∧Hid (lx.idLen (rest s (x.at_+0))+0=k+lx.idLen (rest s (x.at_+k)))∧∃m,wq=w.drewN m) (fun iv _=>s.size-(intOf iv).toNat)
 case atStart=>exact ⟨0,rfl,Nat.le_refl _,by omega,by show _=_;omega,_,rfl⟩
 case round =>
  obtain ⟨k,rfl,hk0,hk,HE,m,rfl⟩:=hrel
  by_cases hbin:x.at_+k<s.size
  ·have JP0:Hid (inB s (x.at_+(k:Int).toNat)=true):=by show _=_;simp [inB,hbin]
   have JP1:Hid (bt s (x.at_+(k:Int).toNat)=(s[x.at_+k].toNat:Int)):=by show bt s (x.at_+k)=_;exact bt_in hbin
   have pinj:x.at_+(k:Int).toNat<s.size:=by simpa using hbin
   have HI:=Lib.hid (idLen_in hbin)
   cases hp:lx.idP s[x.at_+k]
   ·have JP2:=part_dec hp
    have HK:Hid (lx.idLen (rest s (x.at_+0))+0=k):=by
     have h1:=HE.out
     rw [HI.out,hp] at h1
     show _=_
     rw [h1]
     exact Nat.add_zero _
    clear hp HI HE
    generalize s[x.at_+k]=d at JP1 JP2
    go_wp2_with (first
     | (go_at_call 78;refine (peekOk_t _ _ (HL.out.drewN _).at (by omega) (by omega) (by omega) (by omega) JP0).mono ?_;rintro e w' ⟨rfl,n,rfl⟩)
     | (go_at_call 80;refine (peek_t _ _ (HL.out.drewN _).at (by omega) pinj (by omega) JP1).mono ?_;rintro e w' ⟨rfl,n,rfl⟩)
     | (go_at_call 79;refine (part_z _ _ _ JP2).mono ?_;rintro e w' ⟨rfl,rfl⟩))
    generalize hW2:(w.drewN _).setCell ⟨b,1,none⟩ _=w2
    have HL2:Hid (LexS w2 B b f s { x with kind:=⟨lx.kIdent.toArray⟩ }):=by rw [←hW2];exact (HL.out.drewN _).set 1 _ _ rfl hle
    have HG2:Hid (w.grownBy w2 (some b)):=by rw [←hW2];exact grown_set (grown_drewN (grown_refl w (some b)) _) 1 _
    clear hW2 c1 f1
    obtain ⟨vs,hvs⟩:∃vs,Hid (s.extract (x.at_+0) (x.at_+k)=vs):=⟨_,rfl⟩
    have hvs':=hvs.out
    try simp only [Nat.add_zero] at hvs'
    have v0:w2.cell? ⟨b,0,none⟩=some (.pointer (some ⟨f,0,none⟩)):=HL2.out.at.file
    have vt:w2.cell? ⟨f,1,none⟩=some (.string s):=HL2.out.at.text
    have v9:w2.cell? ⟨b,9,none⟩=some (.int .i64 (x.at_:Int)):=HL2.out.at.pos
    have v5:w2.cell? ⟨b,5,none⟩=some (.string x.str):=HL2.out.cell 5
    have fr:w2.frozen? ⟨b,5,none⟩=false:=HL2.out.free 5
    have hw1:=IntWalk.i64_in ((x.at_:Int)+(k:Int)) (by omega)
    have hw2:=IntWalk.i64_in ((x.at_:Int)+1) (by omega)
    have i1:(x.at_:Int)+1≤(x.at_:Int)+(k:Int)∨True:=.inr trivial
    have i2:(x.at_:Int)+(k:Int)≤(s.size:Int):=by omega
    have i3:((x.at_:Int)+(k:Int)).toNat=x.at_+k:=by omega
    have i4:((x.at_:Int)+1).toNat=x.at_+1:=by omega
    have i5:(0:Int)≤(x.at_:Int)+1:=by omega
    have i6:(x.at_:Int)+0≤(x.at_:Int)+(k:Int):=by omega
    have i7:((x.at_:Int)).toNat=x.at_:=by omega
    clear i1
    go_region
    have HLS:Hid (LexS ((w2.setCell ⟨b,5,none⟩ (.string vs)).drew) B b f s { x with kind:=⟨lx.kIdent.toArray⟩,str:=vs }):=(HL2.out.set 5 (.string vs) { x with kind:=⟨lx.kIdent.toArray⟩,str:=vs } rfl hle).drewN 1
    have HGS:Hid (w.grownBy ((w2.setCell ⟨b,5,none⟩ (.string vs)).drew) (some b)):=grown_drew (grown_set HG2.out 5 _)
    go_wp2_with (go_at_call 75;refine (skipN_t k _ HLS.out hk (by rfl)).mono ?_;rintro e w6 ⟨rfl,hl6,hg6⟩;have HL6:=Lib.hid hl6;have HG6:=Lib.hid (grown_trans HGS.out hg6);clear hl6 hg6)
    (first|go_end0|go_ret)
    rw [HO.out]
    have hek:k=0+lx.idLen (rest s (x.at_+0)):=by have:=HK.out;omega
    have hev:(⟨((rest s (x.at_+0)).take (lx.idLen (rest s (x.at_+0)))).toArray⟩:ByteArray)=vs:=by
     rw [←extract_rest,←hvs.out,hek,Nat.add_assoc]
    refine ⟨rfl, ?_,HG6.out⟩
    have hL:=lex_base HL6.out hb
    show LexS _ B b f s { x with kind:=⟨lx.kIdent.toArray⟩,at_:=x.at_+(0+lx.idLen (rest s (x.at_+0))),str:=⟨((rest s (x.at_+0)).take (lx.idLen (rest s (x.at_+0)))).toArray⟩,base:=((0:Nat):Int),dot:=x.dot }
    rw [hev,←hek]
    exact hL
   ·have JP2:=part_dec hp
    have HE2:Hid (lx.idLen (rest s (x.at_+0))+0=(k+1)+lx.idLen (rest s (x.at_+(k+1)))):=by
     have h1:=HE.out
     rw [HI.out,hp,if_pos rfl] at h1
     show _=_
     rw [h1,show x.at_+k+1=x.at_+(k+1) from rfl]
     omega
    clear hp HI HE
    generalize s[x.at_+k]=d at JP1 JP2
    go_wp2_with (first
     | (go_at_call 78;refine (peekOk_t _ _ (HL.out.drewN _).at (by omega) (by omega) (by omega) (by omega) JP0).mono ?_;rintro e w' ⟨rfl,n,rfl⟩)
     | (go_at_call 80;refine (peek_t _ _ (HL.out.drewN _).at (by omega) pinj (by omega) JP1).mono ?_;rintro e w' ⟨rfl,n,rfl⟩)
     | (go_at_call 79;refine (part_z _ _ _ JP2).mono ?_;rintro e w' ⟨rfl,rfl⟩))
    go_round
    case rel=>exact ⟨k+1,by go_num,by omega,hbin,HE2,_,rfl⟩
    case measure=>simp [intOf];omega
  ·have JP0:Hid (inB s (x.at_+(k:Int).toNat)=false):=by show _=_;simp [inB];omega
   have HK:Hid (lx.idLen (rest s (x.at_+0))+0=k):=by
    have h1:=HE.out
    rw [idLen_out hbin] at h1
    exact h1
   clear HE
   go_wp2_with (go_at_call 78;refine (peekOk_t _ _ (HL.out.drewN _).at (by omega) (by omega) (by omega) (by omega) JP0).mono ?_;rintro e w' ⟨rfl,n,rfl⟩)
   generalize hW2:(w.drewN _).setCell ⟨b,1,none⟩ _=w2
   have HL2:Hid (LexS w2 B b f s { x with kind:=⟨lx.kIdent.toArray⟩ }):=by rw [←hW2];exact (HL.out.drewN _).set 1 _ _ rfl hle
   have HG2:Hid (w.grownBy w2 (some b)):=by rw [←hW2];exact grown_set (grown_drewN (grown_refl w (some b)) _) 1 _
   clear hW2 c1 f1
   obtain ⟨vs,hvs⟩:∃vs,Hid (s.extract (x.at_+0) (x.at_+k)=vs):=⟨_,rfl⟩
   have hvs':=hvs.out
   try simp only [Nat.add_zero] at hvs'
   have v0:w2.cell? ⟨b,0,none⟩=some (.pointer (some ⟨f,0,none⟩)):=HL2.out.at.file
   have vt:w2.cell? ⟨f,1,none⟩=some (.string s):=HL2.out.at.text
   have v9:w2.cell? ⟨b,9,none⟩=some (.int .i64 (x.at_:Int)):=HL2.out.at.pos
   have v5:w2.cell? ⟨b,5,none⟩=some (.string x.str):=HL2.out.cell 5
   have fr:w2.frozen? ⟨b,5,none⟩=false:=HL2.out.free 5
   have hw1:=IntWalk.i64_in ((x.at_:Int)+(k:Int)) (by omega)
   have hw2:=IntWalk.i64_in ((x.at_:Int)+1) (by omega)
   have i1:(x.at_:Int)+1≤(x.at_:Int)+(k:Int)∨True:=.inr trivial
   have i2:(x.at_:Int)+(k:Int)≤(s.size:Int):=by omega
   have i3:((x.at_:Int)+(k:Int)).toNat=x.at_+k:=by omega
   have i4:((x.at_:Int)+1).toNat=x.at_+1:=by omega
   have i5:(0:Int)≤(x.at_:Int)+1:=by omega
   have i6:(x.at_:Int)+0≤(x.at_:Int)+(k:Int):=by omega
   have i7:((x.at_:Int)).toNat=x.at_:=by omega
   clear i1
   go_region
   have HLS:Hid (LexS ((w2.setCell ⟨b,5,none⟩ (.string vs)).drew) B b f s { x with kind:=⟨lx.kIdent.toArray⟩,str:=vs }):=(HL2.out.set 5 (.string vs) { x with kind:=⟨lx.kIdent.toArray⟩,str:=vs } rfl hle).drewN 1
   have HGS:Hid (w.grownBy ((w2.setCell ⟨b,5,none⟩ (.string vs)).drew) (some b)):=grown_drew (grown_set HG2.out 5 _)
   go_wp2_with (go_at_call 75;refine (skipN_t k _ HLS.out hk (by rfl)).mono ?_;rintro e w6 ⟨rfl,hl6,hg6⟩;have HL6:=Lib.hid hl6;have HG6:=Lib.hid (grown_trans HGS.out hg6);clear hl6 hg6)
   (first|go_end0|go_ret)
   rw [HO.out]
   have hek:k=0+lx.idLen (rest s (x.at_+0)):=by have:=HK.out;omega
   have hev:(⟨((rest s (x.at_+0)).take (lx.idLen (rest s (x.at_+0)))).toArray⟩:ByteArray)=vs:=by
    rw [←extract_rest,←hvs.out,hek,Nat.add_assoc]
   refine ⟨rfl, ?_,HG6.out⟩
   have hL:=lex_base HL6.out hb
   show LexS _ B b f s { x with kind:=⟨lx.kIdent.toArray⟩,at_:=x.at_+(0+lx.idLen (rest s (x.at_+0))),str:=⟨((rest s (x.at_+0)).take (lx.idLen (rest s (x.at_+0)))).toArray⟩,base:=((0:Nat):Int),dot:=x.dot }
   rw [hev,←hek]
   exact hL
theorem field_any {w:World} {B b f:Nat} {s:ByteArray} {x:St} (np:Bool) (last:lx.Bs) (hla:x.last.data.toList=last) (h:LexS w B b f s x) (hx:x.str=⟨#[]⟩) (hb:x.base=0) (hcr:lx.field np last (rest s x.at_)≠.crash) :
  Calls Tryz.prog 56 #[.pointer (some ⟨b,0,none⟩),.bool np] w (TokPost B b f s x (lx.field np last (rest s x.at_)) w):=by
 cases hp:lx.isId (lx.nb (rest s x.at_) 0)
 ·have e:lx.field np last (rest s x.at_)=lx.token np last (rest s x.at_):=by
   unfold lx.field
   rw [if_neg (by rw [hp];exact Bool.false_ne_true)]
  rw [e] at hcr ⊢
  exact field_no np _ h hp (fun m=>token_any np last hla (h.drewN m) hx hb hcr) hcr
 ·have hin:x.at_<s.size:=by
   rcases Nat.lt_or_ge x.at_ s.size with k|k
   ·exact k
   ·rw [rest_nil s _ (by omega)] at hp
    exact absurd hp (by decide)
  exact field_id np last h hx hb hin (by rw [rest_cons s _ hin] at hp;exact hp)
end Go.Proofs.YtaamolahbkgofaaGreatDoor.lex
