/-
  consumeQuotedContent's loop, its rounds joined. Contract of the lexer's consumeQuotedContent. Conditions: of each, in its statement.
-/
import Derived.Test.YtaamolahbkgofaaGreatDoorK14
import Derived.Test.YtaamolahbkgofaaGreatDoorK15
import Derived.Test.YtaamolahbkgofaaGreatDoorK17
import Derived.Test.YtaamolahbkgofaaGreatDoorK18
import Derived.Test.YtaamolahbkgofaaGreatDoorK19
import Derived.Test.YtaamolahbkgofaaGreatDoorK20
import Derived.Test.YtaamolahbkgofaaGreatDoorK21
import Derived.Test.YtaamolahbkgofaaGreatDoorK22
import Derived.Test.YtaamolahbkgofaaGreatDoorK23
import Derived.Deep.CutBlock
set_option linter.unusedVariables false
namespace Go.Proofs.YtaamolahbkgofaaGreatDoor.lex
open Go.RowKit mem lines
theorem escape_crash {np:Bool} {size:Nat} {good:UInt8→Bool} {r l:lx.Bs} {hit:lx.Step} (h1:(r.take size).all good=true) (h2:¬size≤r.length):lx.escape np size good r l hit=.stop .crash:=by
 have h3:r.length<size∧r.all good=true:=⟨by omega,by rw [List.take_of_length_le (by omega)] at h1;exact h1⟩
 unfold lx.escape
 rw [if_neg (fun k=>h2 k.1),if_pos h3,if_pos h3]
 split <;> rfl
section
variable {w wr:World} {B b f:Nat} {s q nm:ByteArray} {x:St} {Q:lx.Bs} {raw uni idn np:Bool} {o:lx.QOut} {k:Nat} {v:Value} {l:lx.Bs} {err:Bool} {u:Nat→Value}
set_option maxHeartbeats 2000000 in
set_option maxRecDepth 1000000 in
theorem quo_over (HC:Hid (QC w B b f s x Q q raw uni idn np o k v l err wr)) (SZ:s.size≤20000) (hin:¬x.at_+k<s.size) :
  QRound w B b f s x Q q nm raw uni idn np o (QFr u b q raw uni nm np (k:Int) v err) wr:=by
 have HL:=Lib.hid HC.out.i.held.lex
 have hle:=HC.out.i.le
 have J0:Hid (inB s (x.at_+(k:Int).toNat)=false):=by show _=_;simp [inB];omega
 have HS:Hid (lx.qStep Q raw uni idn np k (rest s (x.at_+k)) l err=.stop (if np=true then .bad k else .fault)):=by
  show _=_
  rw [rest_nil s _ hin]
  cases np <;> rfl
 have HO:=Lib.hid (quo_fault HC.out.i HS.out)
 unfold QRound QFr
 conv=>arg 2;whnf
 go_wp2_with (go_at_call 78;refine (peekOk_z _ _ HL.out.at (by omega) (by omega) (by omega) (by omega) J0).mono ?_;rintro e w' ⟨rfl,n,rfl⟩)
 show QEnd w B b f s x q nm raw uni np o (.exit 0) _ _
 exact ⟨k,v,err,⟨rfl,rfl,rfl,rfl,rfl,rfl,rfl,rfl,rfl,rfl,rfl,rfl,rfl⟩,⟨HL.out.drewN _,grown_drewN HC.out.i.held.grown _⟩,by omega,HO.out⟩
/-- A backslash and an escape. -/
theorem quo_back (HC:Hid (QC w B b f s x Q q raw uni idn np o k v l err wr)) (SZ:s.size≤20000) (hq3:q.size≤3) (hin2:x.at_+(k+1)<s.size)
  (hm:Hid (¬(rest s (x.at_+k)).take q.size=Q)) (hc:(s[x.at_+k].toNat:Int)=92) (ho:o≠.crash) :
  QRound w B b f s x Q q nm raw uni idn np o (QFr u b q raw uni nm np (k:Int) v err) wr:=by
 cases raw with
 | true=>exact quo_raw HC SZ hq3 hin2 hm hc
 | false =>
 have hstep:∀(d:UInt8),s[x.at_+(k+1)]=d→∀X:lx.Step,(∀c:UInt8,c.toNat=92→¬(c::d::rest s (x.at_+(k+2))).take Q.length=Q→lx.qStep Q false uni idn np k (c::d::rest s (x.at_+(k+2))) l err=X)→lx.qStep Q false uni idn np k (rest s (x.at_+k)) l err=X:=by
  intro d hd X hX
  have hrc:=rest_cons s (x.at_+k) (by omega)
  have hrc2:=rest_cons s (x.at_+(k+1)) hin2
  rw [show x.at_+k+1=x.at_+(k+1) from by omega,hrc2,hd,show x.at_+(k+1)+1=x.at_+(k+2) from by omega] at hrc
  have hqs:q.size=Q.length:=by rw [←HC.out.q,toList_length]
  have hm':=hm.out
  rw [hrc,hqs] at hm'
  rw [hrc]
  exact hX _ (by omega) hm'
 by_cases h97:s[x.at_+(k+1)]=97
 ·exact quo_s97 HC SZ hq3 hin2 hm hc h97
 by_cases h98:s[x.at_+(k+1)]=98
 ·exact quo_s98 HC SZ hq3 hin2 hm hc h98
 by_cases h102:s[x.at_+(k+1)]=102
 ·exact quo_s102 HC SZ hq3 hin2 hm hc h102
 by_cases h110:s[x.at_+(k+1)]=110
 ·exact quo_s110 HC SZ hq3 hin2 hm hc h110
 by_cases h114:s[x.at_+(k+1)]=114
 ·exact quo_s114 HC SZ hq3 hin2 hm hc h114
 by_cases h116:s[x.at_+(k+1)]=116
 ·exact quo_s116 HC SZ hq3 hin2 hm hc h116
 by_cases h118:s[x.at_+(k+1)]=118
 ·exact quo_s118 HC SZ hq3 hin2 hm hc h118
 by_cases h92:s[x.at_+(k+1)]=92
 ·exact quo_s92 HC SZ hq3 hin2 hm hc h92
 by_cases h63:s[x.at_+(k+1)]=63
 ·exact quo_s63 HC SZ hq3 hin2 hm hc h63
 by_cases h34:s[x.at_+(k+1)]=34
 ·exact quo_s34 HC SZ hq3 hin2 hm hc h34
 by_cases h39:s[x.at_+(k+1)]=39
 ·exact quo_s39 HC SZ hq3 hin2 hm hc h39
 by_cases h96:s[x.at_+(k+1)]=96
 ·exact quo_s96 HC SZ hq3 hin2 hm hc h96
 by_cases h120:s[x.at_+(k+1)]=120
 ·cases ha:((rest s (x.at_+(k+2))).take 2).all lx.hex
  ·cases np
   ·exact quo_e120_p HC SZ hq3 hin2 hm hc h120 ha
   ·exact quo_e120_np HC SZ hq3 hin2 hm hc h120 ha
  ·by_cases hl:2≤(rest s (x.at_+(k+2))).length
   ·exact quo_x120_g HC SZ hq3 hin2 hm hc h120 ⟨hl,ha⟩
   ·exfalso
    refine ho (quo_fault HC.out.i (hstep 120 h120 _ fun c h92 hne=>?_))
    unfold lx.qStep
    simp only
    rw [if_neg hne,if_pos h92]
    exact escape_crash ha hl
 by_cases h88:s[x.at_+(k+1)]=88
 ·cases ha:((rest s (x.at_+(k+2))).take 2).all lx.hex
  ·cases np
   ·exact quo_e88_p HC SZ hq3 hin2 hm hc h88 ha
   ·exact quo_e88_np HC SZ hq3 hin2 hm hc h88 ha
  ·by_cases hl:2≤(rest s (x.at_+(k+2))).length
   ·exact quo_e88_g HC SZ hq3 hin2 hm hc h88 ⟨hl,ha⟩
   ·exfalso
    refine ho (quo_fault HC.out.i (hstep 88 h88 _ fun c h92 hne=>?_))
    unfold lx.qStep
    simp only
    rw [if_neg hne,if_pos h92]
    exact escape_crash ha hl
 by_cases h117:s[x.at_+(k+1)]=117
 ·cases uni
  ·cases np
   ·exact quo_nu117_p HC SZ hq3 hin2 hm hc h117
   ·exact quo_nu117_np HC SZ hq3 hin2 hm hc h117
  cases ha:((rest s (x.at_+(k+2))).take 4).all lx.hex
  ·cases np
   ·exact quo_e117_p HC SZ hq3 hin2 hm hc h117 ha
   ·exact quo_e117_np HC SZ hq3 hin2 hm hc h117 ha
  ·by_cases hl:4≤(rest s (x.at_+(k+2))).length
   ·by_cases hcp:(55296≤lx.digits 16 0 ((rest s (x.at_+(k+2))).take 4)∧lx.digits 16 0 ((rest s (x.at_+(k+2))).take 4)≤57343)∨1114111<lx.digits 16 0 ((rest s (x.at_+(k+2))).take 4)
    ·cases np
     ·exact quo_e117_gs_p HC SZ hq3 hin2 hm hc h117 ⟨hl,ha⟩ hcp
     ·exact quo_e117_gs_np HC SZ hq3 hin2 hm hc h117 ⟨hl,ha⟩ hcp
    ·exact quo_e117_gok HC SZ hq3 hin2 hm hc h117 ⟨hl,ha⟩ hcp
   ·exfalso
    refine ho (quo_fault HC.out.i (hstep 117 h117 _ fun c h92 hne=>?_))
    unfold lx.qStep
    simp only
    rw [if_neg hne,if_pos h92]
    exact escape_crash ha hl
 by_cases h85:s[x.at_+(k+1)]=85
 ·cases uni
  ·cases np
   ·exact quo_nu85_p HC SZ hq3 hin2 hm hc h85
   ·exact quo_nu85_np HC SZ hq3 hin2 hm hc h85
  cases ha:((rest s (x.at_+(k+2))).take 8).all lx.hex
  ·cases np
   ·exact quo_e85_p HC SZ hq3 hin2 hm hc h85 ha
   ·exact quo_e85_np HC SZ hq3 hin2 hm hc h85 ha
  ·by_cases hl:8≤(rest s (x.at_+(k+2))).length
   ·by_cases hcp:(55296≤lx.digits 16 0 ((rest s (x.at_+(k+2))).take 8)∧lx.digits 16 0 ((rest s (x.at_+(k+2))).take 8)≤57343)∨1114111<lx.digits 16 0 ((rest s (x.at_+(k+2))).take 8)
    ·cases np
     ·exact quo_e85_gs_p HC SZ hq3 hin2 hm hc h85 ⟨hl,ha⟩ hcp
     ·exact quo_e85_gs_np HC SZ hq3 hin2 hm hc h85 ⟨hl,ha⟩ hcp
    ·exact quo_e85_gok HC SZ hq3 hin2 hm hc h85 ⟨hl,ha⟩ hcp
   ·exfalso
    refine ho (quo_fault HC.out.i (hstep 85 h85 _ fun c h92 hne=>?_))
    unfold lx.qStep
    simp only
    rw [if_neg hne,if_pos h92]
    exact escape_crash ha hl
 by_cases h48:s[x.at_+(k+1)]=48
 ·cases ha:((rest s (x.at_+(k+2))).take 2).all lx.oct
  ·cases np
   ·exact quo_e48_p HC SZ hq3 hin2 hm hc h48 ha
   ·exact quo_e48_np HC SZ hq3 hin2 hm hc h48 ha
  ·by_cases hl:2≤(rest s (x.at_+(k+2))).length
   ·exact quo_e48_g HC SZ hq3 hin2 hm hc h48 ⟨hl,ha⟩
   ·exfalso
    refine ho (quo_fault HC.out.i (hstep 48 h48 _ fun c h92 hne=>?_))
    unfold lx.qStep
    simp only
    rw [if_neg hne,if_pos h92]
    exact escape_crash ha hl
 by_cases h49:s[x.at_+(k+1)]=49
 ·cases ha:((rest s (x.at_+(k+2))).take 2).all lx.oct
  ·cases np
   ·exact quo_e49_p HC SZ hq3 hin2 hm hc h49 ha
   ·exact quo_e49_np HC SZ hq3 hin2 hm hc h49 ha
  ·by_cases hl:2≤(rest s (x.at_+(k+2))).length
   ·exact quo_e49_g HC SZ hq3 hin2 hm hc h49 ⟨hl,ha⟩
   ·exfalso
    refine ho (quo_fault HC.out.i (hstep 49 h49 _ fun c h92 hne=>?_))
    unfold lx.qStep
    simp only
    rw [if_neg hne,if_pos h92]
    exact escape_crash ha hl
 by_cases h50:s[x.at_+(k+1)]=50
 ·cases ha:((rest s (x.at_+(k+2))).take 2).all lx.oct
  ·cases np
   ·exact quo_e50_p HC SZ hq3 hin2 hm hc h50 ha
   ·exact quo_e50_np HC SZ hq3 hin2 hm hc h50 ha
  ·by_cases hl:2≤(rest s (x.at_+(k+2))).length
   ·exact quo_e50_g HC SZ hq3 hin2 hm hc h50 ⟨hl,ha⟩
   ·exfalso
    refine ho (quo_fault HC.out.i (hstep 50 h50 _ fun c h92 hne=>?_))
    unfold lx.qStep
    simp only
    rw [if_neg hne,if_pos h92]
    exact escape_crash ha hl
 by_cases h51:s[x.at_+(k+1)]=51
 ·cases ha:((rest s (x.at_+(k+2))).take 2).all lx.oct
  ·cases np
   ·exact quo_e51_p HC SZ hq3 hin2 hm hc h51 ha
   ·exact quo_e51_np HC SZ hq3 hin2 hm hc h51 ha
  ·by_cases hl:2≤(rest s (x.at_+(k+2))).length
   ·exact quo_e51_g HC SZ hq3 hin2 hm hc h51 ⟨hl,ha⟩
   ·exfalso
    refine ho (quo_fault HC.out.i (hstep 51 h51 _ fun c h92 hne=>?_))
    unfold lx.qStep
    simp only
    rw [if_neg hne,if_pos h92]
    exact escape_crash ha hl
 have hne:∀(d:UInt8),¬s[x.at_+(k+1)]=d→¬((s[x.at_+(k+1)].toNat:Int)=d.toNat):=fun d hd h=>hd (UInt8.toNat_inj.1 (by omega))
 cases np
 ·exact quo_def_p HC SZ hq3 hin2 hm hc (hne _ h97) (hne _ h98) (hne _ h102) (hne _ h110) (hne _ h114) (hne _ h116) (hne _ h118) (hne _ h92) (hne _ h63) (hne _ h34) (hne _ h39) (hne _ h96) (hne _ h120) (hne _ h88) (hne _ h117) (hne _ h85) (hne _ h48) (hne _ h49) (hne _ h50) (hne _ h51)
 ·exact quo_def_np HC SZ hq3 hin2 hm hc (hne _ h97) (hne _ h98) (hne _ h102) (hne _ h110) (hne _ h114) (hne _ h116) (hne _ h118) (hne _ h92) (hne _ h63) (hne _ h34) (hne _ h39) (hne _ h96) (hne _ h120) (hne _ h88) (hne _ h117) (hne _ h85) (hne _ h48) (hne _ h49) (hne _ h50) (hne _ h51)
/-- A round. -/
theorem quo_round (HC:Hid (QC w B b f s x Q q raw uni idn np o k v l err wr)) (SZ:s.size≤20000) (hq:q.size=1∨q.size=3) (hnm:(nm.toList==[105,100,101,110,116,105,102,105,101,114])=idn) (ho:o≠.crash) :
  QRound w B b f s x Q q nm raw uni idn np o (QFr u b q raw uni nm np (k:Int) v err) wr:=by
 have hq1:1≤q.size:=by omega
 have hq3:q.size≤3:=by omega
 by_cases hin:x.at_+k<s.size
 ·by_cases hm:(rest s (x.at_+k)).take q.size=Q
  ·by_cases he:l=[]∧idn=true
   ·obtain ⟨rfl,rfl⟩:=he
    cases np
    ·exact quo_empty_p HC SZ hq3 hin hm hnm
    ·exact quo_empty_np HC SZ hq3 hin hm hnm
   ·cases err
    ·exact quo_hit_ok HC SZ hq3 hin hm hnm he
    ·exact quo_hit_err HC SZ hq3 hin hm hnm he
  ·by_cases hc:(s[x.at_+k].toNat:Int)=92
   ·by_cases hin2:x.at_+(k+1)<s.size
    ·exact quo_back HC SZ hq3 hin2 hm hc ho
    ·cases np
     ·exact quo_eof_p HC SZ hq3 (by omega) hm hc
     ·exact quo_eof_np HC SZ hq3 (by omega) hm hc
   ·by_cases hn:(s[x.at_+k].toNat:Int)=10
    ·rcases hq with h1|h3
     ·cases np
      ·exact quo_nl_p HC SZ h1 hin hm hn
      ·exact quo_nl_np HC SZ h1 hin hm hn
     ·exact quo_line HC SZ hq1 hq3 hin hm hc hn h3
    ·exact quo_plain HC SZ hq1 hq3 hin hm hc hn
 ·exact quo_over HC SZ hin
/-- The loop. -/
theorem quo_loop (HC:Hid (QC w B b f s x Q q raw uni idn np o k v l err wr)) (SZ:s.size≤20000) (hq:q.size=1∨q.size=3) (hnm:(nm.toList==[105,100,101,110,116,105,102,105,101,114])=idn) (ho:o≠.crash) :
  Code.wp Tryz.prog (Code.loop qBody) (QEnd w B b f s x q nm raw uni np o) (QFr u b q raw uni nm np (k:Int) v err) wr:=by
 refine wp_loop (QWI w B b f s x Q q nm raw uni idn np o) (QMu s) ⟨k,v,l,err,QAt.of u b q raw uni nm np (k:Int) v err,HC.out.i⟩ ?_
 rintro a W ⟨k',v',l',err',hat,hi⟩
 obtain ⟨u',rfl⟩:=hat.is
 exact quo_round (Lib.hid ⟨hi,HC.out.hB,HC.out.hb,HC.out.hf,HC.out.q⟩) SZ hq hnm ho
end
end Go.Proofs.YtaamolahbkgofaaGreatDoor.lex
set_option linter.unusedVariables false
namespace Go.Proofs.YtaamolahbkgofaaGreatDoor.lex
open Go.RowKit mem lines
theorem quo_loop_at {w wr:World} {B b f:Nat} {s q nm:ByteArray} {x:St} {Q:lx.Bs} {raw uni idn np:Bool} {o:lx.QOut} {k:Nat} {v:Value} {l:lx.Bs} {err:Bool} {a:Act} (hat:QAt a b q raw uni nm np (k:Int) v err)
  (HC:Hid (QC w B b f s x Q q raw uni idn np o k v l err wr)) (SZ:s.size≤20000) (hq:q.size=1∨q.size=3) (hnm:(nm.toList==[105,100,101,110,116,105,102,105,101,114])=idn) (ho:o≠.crash) :
  Code.wp Tryz.prog (Code.loop qBody) (QEnd w B b f s x q nm raw uni np o) a wr:=by
 obtain ⟨u,rfl⟩:=hat.is
 exact quo_loop HC SZ hq hnm ho
theorem errorfAt_z {w:World} {B b f:Nat} {s:ByteArray} {x:St} (h:LexS w B b f s x) (zn zm:Int) (msg:ByteArray) (h0:0≤zn) (h1:zn≤zm) (h2:zm≤s.size) :
  Calls Tryz.prog 114 #[.pointer (some ⟨b,0,none⟩),.int .i64 zn,.int .i64 zm,.string msg] w (MadeErr b f w):=by
 obtain ⟨n,rfl⟩:=Int.eq_ofNat_of_zero_le h0
 obtain ⟨m,rfl⟩:=Int.eq_ofNat_of_zero_le (Int.le_trans h0 h1)
 exact errorfAt_any h n m msg (by omega) (by omega)
set_option maxHeartbeats 2000000 in
set_option maxRecDepth 1000000 in
theorem quoted1_any {w:World} {B b f:Nat} {s q nm:ByteArray} {x:St} {Q:lx.Bs} {raw uni idn np:Bool} (h:LexS w B b f s x) (hq:q.size=1) (hQ:q.toList=Q)
  (hnm:(nm.toList==[105,100,101,110,116,105,102,105,101,114])=idn) (hin:x.at_+1≤s.size) (ho:lx.quoted Q raw uni idn np (rest s x.at_)≠.crash) :
  Calls Tryz.prog 86 #[.pointer (some ⟨b,0,none⟩),.string q,.bool raw,.bool uni,.string nm,.bool np] w (QPost B b f s x (lx.quoted Q raw uni idn np (rest s x.at_)) w):=by
 obtain ⟨o,hoo⟩:∃o,Hid (lx.quoted Q raw uni idn np (rest s x.at_)=o):=⟨_,rfl⟩
 rw [hoo.out] at ho ⊢
 have SZ:=h.sz
 have HO:=Lib.hid ho
 have HQ:=Lib.hid hq
 have hQl:Q.length=1:=by rw [←hQ,toList_length,hq]
 have HC:Hid (QC w B b f s x Q q raw uni idn np o 1 (.slice none 0 0) [] false w):=by
  refine ⟨⟨⟨(rest s x.at_).length+1, ?_, ?_⟩,⟨h,grown_refl _ _⟩,Row.nil _ _,by simp,hin⟩,h.tabs.le,h.lt, ?_,hQ⟩
  ·rw [rest_length,rest_length];omega
  ·have:=hoo.out
   unfold lx.quoted at this
   rw [hQl,rest_drop] at this
   exact this
  ·obtain ⟨p,hp⟩:=h.file
   exact lt_of_heap hp
 have hq1:(q.size:Int)=1:=by omega
 clear h hoo ho hq hQ
 go_enter Tryz.func86,Tryz.ntmps86
 go_wp2_with fail
 rename_i K hK
 refine wp_mono (quo_loop_at (k:=1) (v:=.slice none 0 0) (err:=false) ⟨rfl,rfl,rfl,rfl,rfl,rfl,rfl,rfl,rfl,rfl,rfl,rfl,rfl⟩ HC SZ (.inl HQ.out) hnm HO.out) ?_
 clear HC HO hq1
 intro e a' W hQ
 cases e with
 | normal=>exact hQ.elim
 | ret =>
  obtain ⟨hd,t,e',h12,h13,hp⟩:=hQ
  refine bodyPost_ret (results_tmp2 rfl _ _ _) hd ?_
  rw [Array.getD_eq_getD_getElem?,Array.getD_eq_getD_getElem?,h12,h13]
  exact hp
 | panic c=>exact hQ
 | goto l=>exact hQ.elim
 | outgrown=>exact hQ.elim
 | exit id =>
  cases id with
  | succ n=>exact hQ.elim
  | zero =>
   obtain ⟨k,v,err,hat,hh,hend,ho⟩:=hQ
   obtain ⟨u,rfl⟩:=hat.is
   clear hat
   unfold QFr
   show K _ _
   apply hK
   clear hK
   have HO:=Lib.hid ho
   have c9:W.cell? ⟨b,9,none⟩=some (.int .i64 (x.at_:Int)):=hh.lex.cell 9
   have HH:=Lib.hid hh
   clear hh ho
   cases np
   ·have hw1:=IntWalk.i64_in ((x.at_:Int)+(k:Int)) (by omega)
    have HD:=held_drew HH
    have d9:W.drew.cell? ⟨b,9,none⟩=some (.int .i64 (x.at_:Int)):=HD.out.lex.cell 9
    go_wp2_with fail
    refine wp_mono (Q:=fun (e:Exit) (a':Act) (w':World)=>match e with
     | .panic c=>wpAny Tryz.prog .any #[] (fun _ a2 w2=>bodyPost Tryz.prog Tryz.f86 (QPost B b f s x o w) (.panic c) a2 w2) 0 #[] a' w'
     | e=>bodyPost Tryz.prog Tryz.f86 (QPost B b f s x o w) e a' w') ?_ (fun e a' w' h=>by
      cases e with
      | panic c=>exact And.right h
      | _=>exact h)
    go_region_with (go_at_call 114;refine (errorfAt_z HD.out.lex _ _ _ (by omega) (by omega) (by omega)).mono ?_;rintro e w5 ⟨m,rfl,hm⟩;have HM:=Lib.hid hm;clear hm)
    all_goals
     refine ⟨rfl, ?_⟩
     rw [HO.out]
     exact Faults.trans (Grown2.of HD.out.grown) ⟨m,rfl,HM.out⟩
   ·go_wp2_with (go_at_call 75;refine (skipN_named k _ HH.out.lex.at.pos (HH.out.lex.free 9) (by omega) (by omega) rfl).mono ?_;rintro e w6 ⟨rfl,hw⟩;have HW:=Lib.hid hw;clear hw)
    go_ret2
    rw [HO.out,←HW.out]
    exact ⟨rfl,HH.out.lex.set 9 _ _ rfl (by simp;omega),grown_set HH.out.grown 9 _⟩
theorem triple_not (t:ByteArray):(((⟨#[116,114,105,112,108,101,45,113,117,111,116,101,100,32]⟩:ByteArray)++t).toList==[105,100,101,110,116,105,102,105,101,114])=false:=by
 rw [ByteArray.toList_eq]
 simp
set_option maxHeartbeats 2000000 in
set_option maxRecDepth 1000000 in
theorem quoted3_any {w:World} {B b f:Nat} {s q nm:ByteArray} {x:St} {Q:lx.Bs} {raw uni np:Bool} (h:LexS w B b f s x) (hq:q.size=3) (hQ:q.toList=Q) (hnz:nm.size≤1000)
  (hin:x.at_+3≤s.size) (ho:lx.quoted Q raw uni false np (rest s x.at_)≠.crash) :
  Calls Tryz.prog 86 #[.pointer (some ⟨b,0,none⟩),.string q,.bool raw,.bool uni,.string nm,.bool np] w (QPost B b f s x (lx.quoted Q raw uni false np (rest s x.at_)) w):=by
 obtain ⟨o,hoo⟩:∃o,Hid (lx.quoted Q raw uni false np (rest s x.at_)=o):=⟨_,rfl⟩
 rw [hoo.out] at ho ⊢
 have SZ:=h.sz
 have HO:=Lib.hid ho
 have HQ:=Lib.hid hq
 have hQl:Q.length=3:=by rw [←hQ,toList_length,hq]
 have HC:Hid (QC w B b f s x Q q raw uni false np o 3 (.slice none 0 0) [] false w):=by
  refine ⟨⟨⟨(rest s x.at_).length+1, ?_, ?_⟩,⟨h,grown_refl _ _⟩,Row.nil _ _,by simp,hin⟩,h.tabs.le,h.lt, ?_,hQ⟩
  ·rw [rest_length,rest_length];omega
  ·have:=hoo.out
   unfold lx.quoted at this
   rw [hQl,rest_drop] at this
   exact this
  ·obtain ⟨p,hp⟩:=h.file
   exact lt_of_heap hp
 have hq1:(q.size:Int)=3:=by omega
 clear h hoo ho hq hQ
 go_enter Tryz.func86,Tryz.ntmps86
 go_wp2_with fail
 rename_i K hK
 refine wp_mono (quo_loop_at (k:=3) (v:=.slice none 0 0) (err:=false) ⟨rfl,rfl,rfl,rfl,rfl,rfl,rfl,rfl,rfl,rfl,rfl,rfl,rfl⟩ HC SZ (.inr HQ.out) (triple_not nm) HO.out) ?_
 clear HC HO hq1
 intro e a' W hQ
 cases e with
 | normal=>exact hQ.elim
 | ret =>
  obtain ⟨hd,t,e',h12,h13,hp⟩:=hQ
  refine bodyPost_ret (results_tmp2 rfl _ _ _) hd ?_
  rw [Array.getD_eq_getD_getElem?,Array.getD_eq_getD_getElem?,h12,h13]
  exact hp
 | panic c=>exact hQ
 | goto l=>exact hQ.elim
 | outgrown=>exact hQ.elim
 | exit id =>
  cases id with
  | succ n=>exact hQ.elim
  | zero =>
   obtain ⟨k,v,err,hat,hh,hend,ho⟩:=hQ
   obtain ⟨u,rfl⟩:=hat.is
   clear hat
   unfold QFr
   show K _ _
   apply hK
   clear hK
   have HO:=Lib.hid ho
   have c9:W.cell? ⟨b,9,none⟩=some (.int .i64 (x.at_:Int)):=hh.lex.cell 9
   have HH:=Lib.hid hh
   clear hh ho
   cases np
   ·have hw1:=IntWalk.i64_in ((x.at_:Int)+(k:Int)) (by omega)
    have HD:=held_drew HH
    have d9:W.drew.cell? ⟨b,9,none⟩=some (.int .i64 (x.at_:Int)):=HD.out.lex.cell 9
    go_wp2_with fail
    refine wp_mono (Q:=fun (e:Exit) (a':Act) (w':World)=>match e with
     | .panic c=>wpAny Tryz.prog .any #[] (fun _ a2 w2=>bodyPost Tryz.prog Tryz.f86 (QPost B b f s x o w) (.panic c) a2 w2) 0 #[] a' w'
     | e=>bodyPost Tryz.prog Tryz.f86 (QPost B b f s x o w) e a' w') ?_ (fun e a' w' h=>by
      cases e with
      | panic c=>exact And.right h
      | _=>exact h)
    go_region_with (go_at_call 114;refine (errorfAt_z HD.out.lex _ _ _ (by omega) (by omega) (by omega)).mono ?_;rintro e w5 ⟨m,rfl,hm⟩;have HM:=Lib.hid hm;clear hm)
    all_goals
     refine ⟨rfl, ?_⟩
     rw [HO.out]
     exact Faults.trans (Grown2.of HD.out.grown) ⟨m,rfl,HM.out⟩
   ·go_wp2_with (go_at_call 75;refine (skipN_named k _ HH.out.lex.at.pos (HH.out.lex.free 9) (by omega) (by omega) rfl).mono ?_;rintro e w6 ⟨rfl,hw⟩;have HW:=Lib.hid hw;clear hw)
    go_ret2
    rw [HO.out,←HW.out]
    exact ⟨rfl,HH.out.lex.set 9 _ _ rfl (by simp;omega),grown_set HH.out.grown 9 _⟩
end Go.Proofs.YtaamolahbkgofaaGreatDoor.lex
